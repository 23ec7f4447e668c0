import PyProof.Rows.All
import Wide.All
import OpenK.AllK
import Wide.FinOn
import PyProof.ExcBaseAll.ValueError
import PySem.Challenge.RW_ny0036_01
set_option Elab.async false
set_option linter.all false
open PySem PySem.W PyProof.Rows
namespace Mine
/-- the law's text, less the names of its modules -/
noncomputable def view : Program := PySem.W.view PySem.Challenge.rw_ny0036_01.row.prog [1, 2, 3, 5, 6, 8, 9, 10, 11, 12, 13]
/- the head in one piece: the pieces' twins of the text's strs would take 6 MB -/
local macro_rules | `(tactic| o_head $H) => `(tactic| (
  refine holds_open (q := Mine.view) (loose := []) (Xt := fun s => xlAt Mine.view [] s && recOk PySem.Challenge.rw_ny0036_01.row.toRowW.records s) (XP := XL Mine.view []) (Yf := Hook.obs $H) (Ya := Hook.val $H) (YP := Hook.says $H) (N := 1132) ?hl (Hook.of $H) (Hook.keeps $H) (fun s e => xl_of s (Bool.and_eq_true_iff.mp e).1) XL.keeps (by rfl) (by rfl) (by rfl) (fun s e => recFacts_of (Bool.and_eq_true_iff.mp e).2) (by rfl) (by first | assumption | decide +kernel) (by decide +kernel) ⟨rfl, rfl, rfl, rfl, rfl, by decide +kernel⟩ ?hw ?hc;
  (case hl =>
    intro w
    unfold openEnds topFrom
    rw [PySem.W.Fast.te14082659384304107361, PySem.W.Fast.te14364793385576792824, PySem.W.Fast.te4187177175401517315]
    kernel_rfl)))
set_option maxRecDepth 100000 in
set_option maxHeartbeats 8000000 in
open_top hd for PySem.Challenge.rw_ny0036_01
end Mine
namespace Mine

/-- the run's surroundings, with written lids -/
abbrev Ax (d u : Nat) (hd : Option Value) (fr : Option (List Env)) (gd : Option (List Code)) : Around := { handled := hd, depth := d, frames := fr, guards := gd, units := u }
theorem Ax_depth (d u hd fr gd) : (Ax d u hd fr gd).depth = d := rfl

theorem wpAny_le {α : Type} {M : Model} {A A' : Around} {t : Sem α} {Q : α → Shared → Prop} {E : Value → Shared → Prop} {s : Shared}
    (h : wpAny M A' t Q E s) (hh : A'.handled = A.handled) (hd : A.depth ≤ A'.depth) (hf : A'.frames = A.frames) (hg : A'.guards = A.guards) (hu : A.units ≤ A'.units) :
    wpAny M A t Q E s := fun Γ p hΓ => h Γ p
  ⟨hΓ.1.trans hh.symm, Nat.le_trans hΓ.2.1 hd, fun l e => hΓ.2.2.1 l (hf ▸ e), fun g e => hΓ.2.2.2.1 g (hg ▸ e), Nat.le_trans hΓ.2.2.2.2 hu⟩
theorem wpAny_ax {α : Type} {M : Model} {A : Around} {t : Sem α} {Q : α → Shared → Prop} {E : Value → Shared → Prop} {s : Shared}
    {d u : Nat} (hd : A.depth ≤ d) (hu : A.units ≤ u) (h : wpAny M (Ax d u A.handled A.frames A.guards) t Q E s) : wpAny M A t Q E s :=
  wpAny_le h rfl hd rfl rfl hu

/-- a post-condition behind a name -/
theorem hideQ {α : Type} {M : Model} {A : Around} {t : Sem α} {Q : α → Shared → Prop} {E : Value → Shared → Prop} {s : Shared} (h : ∀ Q' : α → Shared → Prop, (∀ v s', Q v s' → Q' v s') → wpAny M A t Q' E s) : wpAny M A t Q E s := h Q fun _ _ q => q
theorem hideE {α : Type} {M : Model} {A : Around} {t : Sem α} {Q : α → Shared → Prop} {E : Value → Shared → Prop} {s : Shared} (h : ∀ E' : Value → Shared → Prop, (∀ v s', E v s' → E' v s') → wpAny M A t Q E' s) : wpAny M A t Q E s := h E fun _ _ q => q
/-- a goal behind a name -/
theorem stash {P : Prop} (h : ∀ G : Prop, (P → G) → G) : P := h P id

/-- what the top laid: gb is the law's first heap, the table 36 hidden -/
structure Gd (w : World) (mg mb : Str → Option Value) (loose : List Str) (mean : ExcName → Option Value) (gb : Heap) : Prop where
  X : (Mine.hd.heap_39 w.params).In gb
  T : Top topProg loose mean mg mb gb
  C : CodeHd gb 40 36
  n36 : gb.get? 36 = none

theorem Gd.keeps {w mg mb loose mean gb} (G : Gd w mg mb loose mean gb) {h : Heap} (st : gb.StaysIn h) :
    (Mine.hd.heap_39 w.params).In h ∧ Top topProg loose mean mg mb h ∧ CodeHd h 40 36 := ⟨G.X.keeps st, G.T.keeps st, G.C.keeps st⟩

/-- the qualified name of the inner def -/
abbrev qualCoord : Str := Str.ofString "suffixed_err" ++ Str.ofString ".<locals>." ++ Str.ofString "coord_repr"

/-- the table of suffixed_err's code: empty, or with coord_repr's code at ca -/
def TabOk (gb : Heap) (ca : Addr) (oc : Obj) (ps : Array Value) : Prop :=
  gb.get? ca = none ∧ ((ps = #[] ∧ ca = 36 ∧ oc = tabObj #[]) ∨
    (ps = #[rawInt 18, rawInt 4, .ref ca] ∧ ca ≠ 36 ∧ ∃ vs t, oc.data = .fields vs ∧ vs[1]? = some (.str qualCoord t)))

/-- everything but 36 stays -/
def Keep36 (h h' : Heap) : Prop := ∀ b o, b ≠ 36 → h.get? b = some o → h'.get? b = some o
theorem Keep36.refl (h : Heap) : Keep36 h h := fun _ _ _ e => e
theorem Keep36.trans {h h' h'' : Heap} (x : Keep36 h h') (y : Keep36 h' h'') : Keep36 h h'' := fun b o n e => y b o n (x b o n e)
theorem Keep36.of {h h' : Heap} (k : ∀ b o, h.get? b = some o → h'.get? b = some o) : Keep36 h h' := fun b o _ e => k b o e
theorem Keep36.stays {gb h h' : Heap} (x : Keep36 h h') (n36 : gb.get? 36 = none) (st : gb.StaysIn h) : gb.StaysIn h' := fun b o e =>
  x b o (fun q => by rw [q, n36] at e; cases e) (st b o e)

/-- a frame's ground: the heap at the call, less what is hidden -/
structure Hid (H : List Addr) (h h₀ : Heap) : Prop where
  sub : ∀ b o, h₀.get? b = some o → h.get? b = some o
  sup : ∀ b o, h.get? b = some o → b ∉ H → h₀.get? b = some o
  hid : ∀ b ∈ H, h₀.get? b = none
  size : h₀.objs.size = h.objs.size
theorem Hid.of (H : List Addr) (h : Heap) : Hid H h (hideAll h H) := ⟨fun _ _ e => of_hideAll _ e, fun _ _ e n => hideAll_get _ e n, fun _ m => hideAll_none _ m, hideAll_size _ _⟩
theorem Hid.stays {H : List Addr} {gb h h₀ : Heap} (x : Hid H h h₀) (st : gb.StaysIn h) (hH : ∀ a ∈ H, gb.get? a = none) : gb.StaysIn h₀ := fun b o e =>
  x.sup b o (st b o e) fun hm => by rw [hH b hm] at e; cases e
theorem Hid.news {H : List Addr} {h h₀ h₁ : Heap} {L : Addr} {news : List (Addr × Obj)} (x : Hid H h h₀) (k : ∀ b o, h.get? b = some o → h₁.get? b = some o) (hL : L = h.objs.size)
    (hn : ∀ q ∈ news, h.get? q.1 = some q.2 ∧ q.1 ∈ H) : News h₀ L h₁ news := fun q hq =>
  ⟨k _ _ (hn q hq).1, by rw [hL]; exact Nat.ne_of_lt (Heap.lt_size (hn q hq).1), x.hid _ (hn q hq).2⟩

/-- a def's end: its value -/
def RetTo (P : Value → Shared → Prop) (fl : Flow) (s : Shared) : Prop := P (match fl with | .ret v => v | _ => .none) s
theorem RetTo.ret {P : Value → Shared → Prop} {v : Value} {s : Shared} (h : P v s) : RetTo P (.ret v) s := h
theorem RetTo.next {P : Value → Shared → Prop} {s : Shared} (h : P .none s) : RetTo P .next s := h

theorem callM {prog : Program} {w : World} {A : Around} {Q E : Value → Shared → Prop} {h : Heap} {gs : Array GenState} {dr : Drawn} {tk : Nat} {os : OsState} {name qual : Str} {params : Arguments} {body : List Stmt} {scope : Scope} {cl : List (Str × Addr)} {dV kV doc pm cdv ct : Value} {an : Option Addr} {o : Obj}
    {f : Addr} {vs : List Value} {kw : List (Str × Value)} {binds : List (Str × Value)} (H : List Addr)
    (ho : h.get? f = some o) (hdata : o.data = .func (fnX name qual params body scope cl dV kV doc pm an cdv ct)) (hlim : h.NoLimit) (hcd : h.CodeRec cdv qual) (hroom : A.depth < recursionLimit)
    (hbind : BindsTo ⟨h, gs, dr, tk, os⟩ (fnX name qual params body scope cl dV kV doc pm an cdv ct) ⟨vs, kw⟩ binds) (hloc : ∀ y ∈ binds, scope.names.lookup y.1 = some .local)
    (hb : ∀ h₀ L h₁ tk', Hid H h h₀ → L = h.objs.size → Fr h₀ L h₁ (fun y => binds.reverse.lookup y) → (∀ b o, h.get? b = some o → h₁.get? b = some o) →
      wpAny (model prog w) (A.deeper (envX qual scope L f cdv cl)) (execs body (envX qual scope L f cdv cl)) (RetTo Q)
        (fun e s' => wpAny (model prog w) (A.deeper (envX qual scope L f cdv cl)) (leaving (envX qual scope L f cdv cl) e) (fun _ s'' => E e s'') (fun e' s'' => E e' s'') s')
        ⟨h₁, gs, dr, tk', os⟩)
    (hcell : ∀ x ∈ scope.names, x.2 ≠ .cell) (hco : scope.isCoroutine = false) (hgen : scope.isGenerator = false) (hk : scope.kind = .function) :
    wpAny (model prog w) A (call (.ref f) vs kw) Q E ⟨h, gs, dr, tk, os⟩ :=
  wpAny_call (codeAny_call_def (fd := fnX name qual params body scope cl dV kV doc pm an cdv ct) (body := body) (binds := binds) hroom ho hdata hlim hcd rfl hbind hcell hloc
    (fun h₁ hns hk₁ => hb _ _ h₁ _ (Hid.of H h) rfl ⟨hns, fun b o e => hk₁ b o (of_hideAll _ e), Nat.le_of_eq (hideAll_size _ _)⟩ hk₁) hco hgen hk)

theorem callK {prog : Program} {w : World} {A : Around} {Q E : Value → Shared → Prop} {h : Heap} {gs : Array GenState} {dr : Drawn} {tk : Nat} {os : OsState} {K : Frag} {name qual : Str} {params : Arguments} {body : List Stmt} {scope : Scope} {dV kV doc pm cdv ct oc : Value} {an od : Option Addr} {osl : Array (Option Value)}
    {f : Addr} {vs : List Value} {kw : List (Str × Value)} {binds : List (Str × Value)} (H : List Addr) (X : K.In h)
    (ho : K.lookup f = some ⟨oc, od, .func (fnOf name qual params body scope dV kV doc pm an cdv ct), osl⟩) (hcd : codeIn K cdv qual = true) (hlim : h.NoLimit) (hroom : A.depth < recursionLimit)
    (hbind : BindsTo ⟨h, gs, dr, tk, os⟩ (fnOf name qual params body scope dV kV doc pm an cdv ct) ⟨vs, kw⟩ binds) (hloc : ∀ y ∈ binds, scope.names.lookup y.1 = some .local)
    (hb : ∀ h₀ L h₁ tk', Hid H h h₀ → L = h.objs.size → Fr h₀ L h₁ (fun y => binds.reverse.lookup y) → (∀ b o, h.get? b = some o → h₁.get? b = some o) →
      wpAny (model prog w) (A.deeper (envOf qual scope L f cdv)) (execs body (envOf qual scope L f cdv)) (RetTo Q)
        (fun e s' => wpAny (model prog w) (A.deeper (envOf qual scope L f cdv)) (leaving (envOf qual scope L f cdv) e) (fun _ s'' => E e s'') (fun e' s'' => E e' s'') s')
        ⟨h₁, gs, dr, tk', os⟩)
    (hcell : ∀ x ∈ scope.names, x.2 ≠ .cell) (hco : scope.isCoroutine = false) (hgen : scope.isGenerator = false) (hk : scope.kind = .function) :
    wpAny (model prog w) A (call (.ref f) vs kw) Q E ⟨h, gs, dr, tk, os⟩ :=
  callM (cl := []) H (X _ _ ho) rfl hlim (codeRec_of X hcd) hroom hbind hloc hb hcell hco hgen hk

/-- what a quiet step leaves: all that stood, and the rest of the run's state -/
def Ext (h : Heap) (gs : Array GenState) (dr : Drawn) (os : OsState) (s' : Shared) : Prop :=
  (∀ b o, h.get? b = some o → s'.heap.get? b = some o) ∧ s'.gens = gs ∧ s'.drawn = dr ∧ s'.os = os

theorem Fr.ext {h₀ h h' : Heap} {L : Addr} {m : Str → Option Value} (F : Fr h₀ L h m) (k : ∀ b o, h.get? b = some o → h'.get? b = some o) : Fr h₀ L h' m :=
  ⟨F.ns.keeps k, fun b o e => k b o (F.keep b o e), F.above⟩
theorem News.ext {h₀ h h' : Heap} {L : Addr} {news : List (Addr × Obj)} (N : News h₀ L h news) (k : ∀ b o, h.get? b = some o → h'.get? b = some o) : News h₀ L h' news :=
  fun q hq => ⟨k _ _ (N q hq).1, (N q hq).2⟩
end Mine
local macro_rules | `(tactic| k_room) => `(tactic| ((simp only [depth_mark, depth_under_make, depth_under_kw, depth_in1, depth_deeper, depth_caller, Mine.Ax_depth]); decide))
local macro_rules | `(tactic| walk_at $s:str) => `(tactic| k_extra $s)
local macro_rules | `(tactic| walk_at "go") => `(tactic| repeat' (first | (k_unfold; (try dsimp only)) | walk1 | (dsimp only; walk1) | fail "no step"))
section
open PySem.Builtin PySem.Builtin.Str
namespace Mine
section
variable {prog : Program} {w : World} {A : Around} {E : Value → Shared → Prop} {s : Shared} {x y : Str} {t u v v' : Tok} {i j : Int} {Q : Value → Shared → Prop}
theorem gives_count4 : Gives («str.count» ⟨[.str x t, .str y u, .int i v, .int j v'], []⟩) (.int (occurrences x y (fromIndex x.length i) (min (fromIndex x.length j) x.length) (x.length + 1)).length) := .of_eq rfl
theorem count4 (hq : Q (.int (occurrences x y (fromIndex x.length i) (min (fromIndex x.length j) x.length) (x.length + 1)).length s.toks) { s with toks := s.toks + 1 }) :
    wpAny (model prog w) A (call (.builtin "str.count") [.str x t, .str y u, .int i v, .int j v']) Q E s :=
  call_gives F.slot_str_count (typeIs_str _ _ _) F.entry_str_count (F.args_str_count_4 _ _ _ _) gives_count4 hq
theorem gives_rindex4 {k : Nat} (hk : lastOccurrence x y (fromIndex x.length i) (min (fromIndex x.length j) x.length) = some k) :
    Gives («str.rindex» ⟨[.str x t, .str y u, .int i v, .int j v'], []⟩) (.int k) := by
  show Gives (match lastOccurrence x y (fromIndex x.length i) (min (fromIndex x.length j) x.length) with | some i => retInt i | none => _) _
  rw [hk]
  exact .of_eq rfl
theorem rindex4 {k : Nat} (hk : lastOccurrence x y (fromIndex x.length i) (min (fromIndex x.length j) x.length) = some k) (hq : Q (.int k s.toks) { s with toks := s.toks + 1 }) :
    wpAny (model prog w) A (call (.builtin "str.rindex") [.str x t, .str y u, .int i v, .int j v']) Q E s :=
  call_gives F.slot_str_rindex (typeIs_str _ _ _) F.entry_str_rindex (F.args_str_rindex_4 _ _ _ _) (gives_rindex4 hk) hq
theorem gives_index3 {k : Nat} {r : List Nat} (hk : occurrences x y (fromIndex x.length i) x.length 1 = k :: r) :
    Gives («str.index» ⟨[.str x t, .str y u, .int i v], []⟩) (.int k) := by
  show Gives (match occurrences x y (fromIndex x.length i) (min x.length x.length) 1 with | i :: _ => retInt i | [] => _) _
  rw [Nat.min_self, hk]
  exact .of_eq rfl
theorem index3 {k : Nat} {r : List Nat} (hk : occurrences x y (fromIndex x.length i) x.length 1 = k :: r) (hq : Q (.int k s.toks) { s with toks := s.toks + 1 }) :
    wpAny (model prog w) A (call (.builtin "str.index") [.str x t, .str y u, .int i v]) Q E s :=
  call_gives F.slot_str_index (typeIs_str _ _ _) F.entry_str_index (F.args_str_index_3 _ _ _) (gives_index3 hk) hq
end
end Mine
end
section
open PySem.Builtin PySem.Builtin.Str PySem.StrLaws
namespace Mine
theorem nl_is : Str.ofString "\n" = ⟨#[10]⟩ := by decide +kernel
theorem at_one {x : Str} {c hi i : Nat} (hhi : hi ≤ x.length) : (i + (⟨#[c]⟩ : Str).length ≤ hi ∧ subAt x ⟨#[c]⟩ i = true) ↔ (i < hi ∧ x.cps.toList[i]? = some c) := by
  constructor
  · rintro ⟨h1, h2⟩
    have h1' : i + 1 ≤ hi := h1
    exact ⟨h1', (subAt_one x c i).mp ⟨Nat.le_trans h1 hhi, h2⟩⟩
  · rintro ⟨h1, h2⟩
    exact ⟨h1, ((subAt_one x c i).mpr h2).2⟩

theorem occ_run (x : Str) (c hi limit : Nat) (hhi : hi ≤ x.length) : ∀ (n a : Nat) (st : Array Nat × Nat), st.snd ≤ a → st.fst.size + n ≤ limit →
    (forIn (List.range' a n) st (occBody x ⟨#[c]⟩ hi limit)).run.fst.size = st.fst.size + ((List.range' a n).filter fun i => decide (i < hi ∧ x.cps.toList[i]? = some c)).length
  | 0, a, st, _, _ => by simp [List.range']
  | n + 1, a, st, h1, h2 => by
    rw [List.range'_succ, List.forIn_cons]
    unfold occBody
    by_cases hc : a < hi ∧ x.cps.toList[a]? = some c
    · have hA := (at_one hhi).mpr hc
      rw [if_pos ⟨⟨⟨by lia, h1⟩, hA.1⟩, hA.2⟩]
      have ih := occ_run x c hi limit hhi n (a + 1) (st.fst.push a, a + (⟨#[c]⟩ : Str).length) (Nat.le_refl _) (by simp; lia)
      rw [show (1 : Nat) = 1 from rfl] at ih
      rw [List.filter_cons, if_pos (by simpa using hc), List.length_cons]
      have e : (forIn (List.range' (a + 1) n) (st.fst.push a, a + (⟨#[c]⟩ : Str).length) (occBody x ⟨#[c]⟩ hi limit)).run.fst.size = _ := ih
      show (forIn (List.range' (a + 1) n) (st.fst.push a, a + (⟨#[c]⟩ : Str).length) (occBody x ⟨#[c]⟩ hi limit)).run.fst.size = _
      rw [e]; simp; lia
    · have hc' : ¬ (((st.fst.size < limit ∧ st.snd ≤ a) ∧ a + (⟨#[c]⟩ : Str).length ≤ hi) ∧ subAt x ⟨#[c]⟩ a = true) := fun q => hc ((at_one hhi).mp ⟨q.1.2, q.2⟩)
      rw [if_neg hc']
      have ih := occ_run x c hi limit hhi n (a + 1) (st.fst, st.snd) (by show st.snd ≤ a + 1; lia) (by show st.fst.size + n ≤ limit; lia)
      rw [List.filter_cons, if_neg (by simpa using hc)]
      exact ih

theorem filter_count (cs : List Nat) (c : Nat) : ∀ hi, hi ≤ cs.length → ((List.range' 0 hi).filter fun i => decide (cs[i]? = some c)).length = (cs.take hi).count c
  | 0, _ => by simp [List.range']
  | hi + 1, h => by
    rw [List.range'_concat, List.filter_append, List.length_append, filter_count cs c hi (by lia), List.take_succ, List.count_append]
    have hlt : hi < cs.length := by lia
    rw [List.getElem?_eq_getElem hlt]
    simp only [Nat.one_mul, Nat.zero_add, Option.toList_some, List.count_singleton]
    rw [List.filter_cons]
    simp only [List.getElem?_eq_getElem hlt, Option.some.injEq, decide_eq_true_eq, List.filter_nil]
    by_cases e : cs[hi] = c
    · simp [e]
    · simp [e]

theorem occ_count (x : Str) (c hi limit : Nat) (hhi : hi ≤ x.length) (hl : x.length < limit) :
    (occurrences x ⟨#[c]⟩ 0 hi limit).length = (x.cps.toList.take hi).count c := by
  rw [occ_eq, Array.length_toList, occ_run x c hi limit hhi (hi + 1 - 0) 0 (#[], 0) (Nat.le_refl _) (by simp; lia)]
  have hcl : x.cps.toList.length = x.length := by simp [Str.length]
  rw [← filter_count x.cps.toList c hi (by lia)]
  simp only [Nat.sub_zero, List.range'_concat, List.filter_append, List.length_append, Nat.zero_add, Nat.one_mul]
  have e : ((List.range' 0 hi).filter fun i => decide (i < hi ∧ x.cps.toList[i]? = some c)) = ((List.range' 0 hi).filter fun i => decide (x.cps.toList[i]? = some c)) := by
    refine List.filter_congr fun i hi' => ?_
    have := List.mem_range'_1.mp hi'
    simp; intro _; lia
  rw [e]
  simp

theorem last_one (x : Str) (c hi q : Nat) (hhi : hi ≤ x.length) (hq : q < hi) (hc : x.cps.toList[q]? = some c) (hn : ∀ i, q < i → i < hi → x.cps.toList[i]? ≠ some c) :
    lastOccurrence x ⟨#[c]⟩ 0 hi = some q := by
  rw [last_eq]
  have key := last_run x ⟨#[c]⟩ hi (List.range' 0 (hi + 1 - 0)) [] none (fun _ h => nomatch h) (fun _ h => nomatch h) (by simpa using List.pairwise_lt_range' (s := 0) (n := hi + 1 - 0))
  generalize (forIn (List.range' 0 (hi + 1 - 0)) none (lastBody x ⟨#[c]⟩ hi)).run = r at key
  have hA : At x ⟨#[c]⟩ hi q := (at_one hhi).mpr ⟨hq, hc⟩
  have hm : q ∈ [] ++ List.range' 0 (hi + 1 - 0) := by simp; lia
  cases r with
  | none => exact absurd hA (key q hm)
  | some a =>
    obtain ⟨ha, hb⟩ := key
    have ha' := (at_one hhi).mp ha
    have h1 : ¬ a < q := fun h => hb q hm h hA
    have h2 : ¬ q < a := fun h => hn a h ha'.1 ha'.2
    rw [show a = q by lia]
theorem fromIndex_nat (len n : Nat) : fromIndex len (n : Int) = n := by unfold fromIndex; rw [if_neg (by lia)]; lia

/-- line feeds ahead of a place; the last of them -/
def nls (x : Str) (p : Nat) : Nat := (x.cps.toList.take p).count 10
def lastNl (x : Str) (p : Nat) : Nat := (lastOccurrence x ⟨#[10]⟩ 0 p).getD 0
def itext (n : Int) : Str := Str.ofString (toString n)
def coordS (x : Str) (p : Nat) : Str :=
  if x.length ≤ p then Str.ofString "end of document"
  else Str.empty ++ Str.ofString "line " ++ itext ((nls x p : Nat) + 1) ++ Str.ofString ", column " ++ itext (if nls x p = 0 then (p : Int) + 1 else (p : Int) - (lastNl x p : Nat))
def sfxS (x : Str) (p : Nat) (msg : Str) : Str := Str.empty ++ msg ++ Str.ofString " (at " ++ coordS x p ++ Str.ofString ")"

theorem last_some (x : Str) (p : Nat) (hp : p ≤ x.length) (h : nls x p ≠ 0) : ∃ q, lastOccurrence x ⟨#[10]⟩ 0 p = some q ∧ q < p := by
  rw [last_eq]
  have key := last_run x ⟨#[10]⟩ p (List.range' 0 (p + 1 - 0)) [] none (fun _ h => nomatch h) (fun _ h => nomatch h) (by simpa using List.pairwise_lt_range' (s := 0) (n := p + 1 - 0))
  generalize (forIn (List.range' 0 (p + 1 - 0)) none (lastBody x ⟨#[10]⟩ p)).run = r at key
  cases r with
  | none =>
    exfalso
    have hm : 10 ∈ x.cps.toList.take p := List.count_pos_iff.mp (Nat.pos_of_ne_zero h)
    obtain ⟨i, hi, e⟩ := List.mem_iff_getElem.mp hm
    rw [List.length_take] at hi
    refine key i (by simp; lia) ((at_one hp).mpr ⟨by lia, ?_⟩)
    rw [List.getElem_take] at e
    rw [List.getElem?_eq_getElem (by lia), e]
  | some a => exact ⟨a, rfl, ((at_one hp).mp key.1).1⟩
section
variable {prog : Program} {w : World} {A : Around} {E : Value → Shared → Prop} {s : Shared} {x : Str} {t u v v' : Tok} {p : Nat} {Q : Value → Shared → Prop}
theorem count_nl (hp : p ≤ x.length) (hq : Q (.int (nls x p) s.toks) { s with toks := s.toks + 1 }) :
    wpAny (model prog w) A (call (.builtin "str.count") [.str x t, .str (Str.ofString "\n") u, .int 0 v, .int p v']) Q E s := by
  refine count4 ?_
  rw [nl_is, show fromIndex x.length 0 = 0 from rfl, fromIndex_nat, Nat.min_eq_left hp, occ_count x 10 p _ hp (Nat.lt_succ_self _)]
  exact hq
theorem rindex_nl (hp : p ≤ x.length) (hn : nls x p ≠ 0) (hq : Q (.int (lastNl x p) s.toks) { s with toks := s.toks + 1 }) :
    wpAny (model prog w) A (call (.builtin "str.rindex") [.str x t, .str (Str.ofString "\n") u, .int 0 v, .int p v']) Q E s := by
  obtain ⟨q, e, _⟩ := last_some x p hp hn
  refine rindex4 (k := lastNl x p) ?_ hq
  rw [nl_is, show fromIndex x.length 0 = 0 from rfl, fromIndex_nat, Nat.min_eq_left hp]
  unfold lastNl
  rw [e]; rfl
end
theorem lastNl_le (x : Str) (p : Nat) {k : Nat} (hk : p < k) : lastNl x p ≤ k := by
  unfold lastNl
  rw [last_eq]
  have key := last_run x ⟨#[10]⟩ p (List.range' 0 (p + 1 - 0)) [] none (fun _ h => nomatch h) (fun _ h => nomatch h) (by simpa using List.pairwise_lt_range' (s := 0) (n := p + 1 - 0))
  generalize (forIn (List.range' 0 (p + 1 - 0)) none (lastBody x ⟨#[10]⟩ p)).run = r at key
  cases r with
  | none => exact Nat.zero_le _
  | some a => have h1 : a + 1 ≤ p := key.1.1; show a ≤ k; lia
theorem itext_len (n : Int) (h : n.natAbs < 10 ^ 10) : (itext n).length ≤ 11 := by unfold itext; rw [PySem.ofString_length]; exact int_text_length_le10 (k := 10) (by decide) h
theorem nls_le (x : Str) (p : Nat) : nls x p ≤ x.length := by
  unfold nls
  have h1 := List.count_le_length (a := 10) (l := x.cps.toList.take p)
  rw [List.length_take] at h1
  have : x.cps.toList.length = x.length := by simp [Str.length]
  lia
theorem coordS_len (x : Str) (p : Nat) (hx : x.length < 1000) (hp : p < 1000) : (coordS x p).length ≤ 100 := by
  unfold coordS
  have h1 := nls_le x p
  have h2 := lastNl_le x p hp
  split
  · decide
  · have e1 := itext_len ((nls x p : Nat) + 1) (by lia)
    have e2 := itext_len (if nls x p = 0 then (p : Int) + 1 else (p : Int) - (lastNl x p : Nat)) (by split <;> lia)
    have c1 : (Str.ofString "line ").length = 5 := by decide
    have c2 : (Str.ofString ", column ").length = 9 := by decide
    simp only [Str.length_append, Str.empty_append]
    lia
end Mine
end
namespace Mine
theorem cls24 {w : World} {h : Heap} (X : (Mine.hd.heap_39 w.params).In h) : ∃ k0 k1 k2 k3 k5, h.get? 24 = some (excClassObj (Str.ofString "TOMLDecodeError") (Str.ofString "TOMLDecodeError") 24 23 [.type "ValueError"]
    [.type "ValueError", .type "Exception", .type "BaseException", .type "object"] true [] [] false none none k0 k1 k2 k3 k5 "ValueError.__new__") :=
  ⟨_, _, _, _, _, X 24 _ rfl⟩
theorem ns23 {w : World} {h : Heap} (X : (Mine.hd.heap_39 w.params).In h) : ∃ mN, h.Ns 23 mN ∧ mN "__init__" = none ∧ mN "__str__" = none := by
  have e := X 23 _ rfl
  refine ⟨_, ⟨_, _, _, e, rfl, ?_, fun _ => rfl⟩, ?_, ?_⟩
  · intro e he
    simp only [List.mem_toArray, List.mem_cons, List.not_mem_nil, or_false] at he
    rcases he with rfl | rfl | rfl | rfl | rfl <;> exact ⟨_, _, rfl⟩
  · with_unfolding_all rfl
  · with_unfolding_all rfl
theorem make_toml {w : World} {prog : Program} {A : Around} {E Q : Value → Shared → Prop} {h : Heap} {g : Array GenState} {d : Drawn} {t : Nat} {os : OsState} {v : Value} (X : (Mine.hd.heap_39 w.params).In h)
    (hq : ∀ h' e, Heap.MadeExcOf h h' e (.ref 24) [v] → Q (.ref e) ⟨h', g, d, t, os⟩) : wpAny (model prog w) A (call (.ref 24) [v]) Q E ⟨h, g, d, t, os⟩ := by
  obtain ⟨k0, k1, k2, k3, k5, hC⟩ := cls24 X
  obtain ⟨mN, hN, hi, _⟩ := ns23 X
  exact wpAny_call_exc_sub PySem.F.excBase_ValueError hC hN hi hq
end Mine
namespace Mine
local macro_rules | `(tactic| omega) => `(tactic| lia)
theorem nest_any {M : Model} {A : Around} {E : Value → Shared → Prop} {s : Shared} {h₀ gb : Heap} {L a : Addr} {m mg mb : Str → Option Value} {cn : Str} {cs : Scope} {cl : List (Str × Addr)}
    {p : Program} {loose : List Str} {mean : ExcName → Option Value} {name qual : Str} {params : Arguments} {body : List Stmt} {scope : Scope} {ps : Array Value} {pos : Pos} {firstLine : Nat} {clos : List (Str × Addr)} {Q : Value → Shared → Prop} {ca : Addr} {oc : Obj}
    (F : Fr h₀ L s.heap m) (N : News h₀ L s.heap [(ca, oc), (36, tabObj ps)]) (T : Top p loose mean mg mb h₀) (C : CodeHd h₀ 40 36) (st : gb.StaysIn h₀) (tb : TabOk gb ca oc ps)
    (hl : pos.line = 18) (hc : pos.col = 4) (hq : qual = qualCoord) (hcl : closureFor scope (envX cn cs L a (.ref 40) cl) = pure clos)
    (h : ∀ f c' oc' ps' ctv doc h' tk, Fr h₀ L h' m → News h₀ L h' [(f, fnMade name qual params body scope clos doc ((mg "__name__").getD .none) c' ctv), (c', oc'), (36, tabObj ps')] →
      TabOk gb c' oc' ps' → c' ≠ 36 → (ca ≠ 36 → c' = ca ∧ oc' = oc) → Q (.ref f) { s with heap := h', toks := tk }) :
    wpAny M A (makeFunction name qual params (.stmts body) scope (envX cn cs L a (.ref 40) cl) [] [] [] pos firstLine) Q E s := by
  rcases tb with ⟨hn, ⟨rfl, rfl, rfl⟩ | ⟨rfl, hne, vs, tq, hvs, hv1⟩⟩
  · have N' : News h₀ L s.heap [(36, tabObj #[])] := fun q hq => N q (.tail _ hq)
    refine nest_K (ps := #[]) F N' T C rfl (g := fun o => [(36, o)]) ?_ trivial rfl hcl ?_
    · k_updF
    · intro f c' oc' vs t ctv doc h' tk F' N'' hd hv lt1 lt2
      have e : (#[] ++ #[rawInt pos.line, rawInt pos.col, .ref c'] : Array Value) = #[rawInt 18, rawInt 4, .ref c'] := by rw [hl, hc]; rfl
      have hlt := lt1 _ (.head _)
      refine h f c' oc' _ ctv doc h' tk F' N'' ⟨?_, .inr ⟨e, Nat.ne_of_gt hlt, vs, t, hd, hq ▸ hv⟩⟩ (Nat.ne_of_gt hlt) (fun q => absurd rfl q)
      have h3 := (N'' (c', oc') (.tail _ (.head _))).2.2
      cases q : gb.get? c' with
      | none => rfl
      | some o => rw [st _ _ q] at h3; cases h3
  · refine nestHit_K (c' := ca) F N T C rfl (.tail _ (.head _)) (by simp [TriplesOk, rawInt]) (by simp [codeAmong, rawInt, hl, hc]) hcl ?_
    intro f ctv doc h' tk F' N'' lt1
    exact h f ca oc _ ctv doc h' tk F' N'' ⟨hn, .inr ⟨rfl, hne, vs, tq, hvs, hv1⟩⟩ hne (fun _ => ⟨rfl, rfl⟩)
/-- the exception object that suffixed_err gives -/
def TomlAt (h : Heap) (e t : Addr) (x : Str) (tk : Tok) : Prop :=
  h.get? e = some { cls := .ref 24, data := .fields #[.ref t, .none, .none, .none, .bool false, .none] } ∧ h.get? t = some { cls := .type "tuple", data := .seq #[.str x tk] }

set_option maxRecDepth 100000 in
set_option maxHeartbeats 4000000 in
theorem sfx {w : World} {mg mb : Str → Option Value} {loose : List Str} {mean : ExcName → Option Value} {gb : Heap} (G : Gd w mg mb loose mean gb)
    {A : Around} {h : Heap} {gs : Array GenState} {dr : Drawn} {tk : Nat} {os : OsState} {Q E : Value → Shared → Prop} {ca : Addr} {oc : Obj} {ps : Array Value} {src msg : Str} {pos : Nat} {t1 t2 t3 : Tok}
    (hd : A.depth ≤ 420) (hu : A.units ≤ 1200) (st : gb.StaysIn h) (hca : h.get? ca = some oc) (hP : h.get? 36 = some (tabObj ps)) (tb : TabOk gb ca oc ps)
    (hlen : src.length < 1000) (hpl : pos < 1000) (hml : msg.length < 1000)
    (hQ : ∀ h' tk' e t x ca' oc' ps', Keep36 h h' → TomlAt h' e t (sfxS src pos msg) x → h.get? e = none → h.get? t = none → h'.get? ca' = some oc' → h'.get? 36 = some (tabObj ps') → TabOk gb ca' oc' ps' → e ≠ ca' → t ≠ ca' → e ≠ 36 → t ≠ 36 →
      Q (.ref e) ⟨h', gs, dr, tk', os⟩) :
    wpAny (model PySem.Challenge.rw_ny0036_01.row.prog w) A (call (.ref 41) [.str src t1, .int (pos : Int) t2, .str msg t3]) Q E ⟨h, gs, dr, tk, os⟩ := by
  w_top off
  k_with_none
  k_with "call builtin:str.count" => (k_dflt (refine' count_nl ?hp ?_); (case hp => lia))
  k_with "call builtin:str.rindex" => (k_dflt (refine' rindex_nl ?hp ?hn ?_); (case hp => lia); (case hn => lia))
  k_with "le" => (simp only [Str.length_append, Str.empty_append, sizeLine_eq] at *; lia)
  refine wpAny_ax hd hu ?_
  have hH : ∀ a ∈ [36, ca], gb.get? a = none := fun a ha => by
    rcases List.mem_cons.mp ha with rfl | ha
    · exact G.n36
    · rw [List.mem_singleton.mp ha]; exact tb.1
  have X := (G.keeps st).1
  have T := (G.keeps st).2.1
  revert X; k_fill; intro X
  refine' callK (binds := [(Str.ofString "src", .str src t1), (Str.ofString "pos", .int (pos : Int) t2), (Str.ofString "msg", .str msg t3)]) [36, ca] X ?k6 ?k7 T.nolimit ?k8 ?k9 ?kB ?_ ?c5 ?c2 ?c3 ?c4
  case k6 => k_is
  case k7 => k_is
  case k8 => k_room
  case k9 => exact BindsTo.of_eq rfl
  case kB => exact locs rfl
  case c5 => decide
  case c2 => exact rfl
  case c3 => exact rfl
  case c4 => exact rfl
  intro h₀ L h₁ tk₁ hid eL F k₁
  refine wpAny_mono (E := fun _ _ => False) ?_ (fun _ _ x => x) (fun _ _ x => x.elim)
  have st₀ := hid.stays st hH
  obtain ⟨X₀, T₀, C₀⟩ := G.keeps st₀
  have N := hid.news (news := [(ca, oc), (36, tabObj ps)]) k₁ eL (fun q hq => by
    rcases List.mem_cons.mp hq with rfl | hq
    · exact ⟨hca, .tail _ (.head _)⟩
    · rw [List.mem_singleton.mp hq]; exact ⟨hP, .head _⟩)
  clear X T
  refine wpAny_execs_cons (nestDef_K rfl rfl rfl ?_)
  refine nest_any (cl := []) F N T₀ C₀ st₀ tb rfl rfl rfl rfl ?_
  clear N F
  intro f c' oc' ps' ctv doc h' tk' F' N' tb' hc36 hcc
  walk_at "go"
  (rename News _ _ _ _ => N'); (rename Fr _ _ _ _ => F')
  rename_i h4 t4 tk4
  refine wpAny_mono (Q := fun v s'' => ∃ t, v = .str (coordS src pos) t ∧ ∃ h5 tk5, s'' = ⟨h5, gs, dr, tk5, os⟩ ∧ ∀ b o, h4.get? b = some o → h5.get? b = some o) (E := fun _ _ => False) ?_ ?_ (fun _ _ x => x.elim)
  · refine' callM (binds := [(Str.ofString "src", .str src t1), (Str.ofString "pos", .int (pos : Int) t2)]) [] (N'.get (.head _)) rfl (T₀.nolimit.keeps F'.keep) ?hcd ?k8 ?k9 ?kB ?_ ?c5 ?c2 ?c3 ?c4
    case k8 => k_room
    case k9 => exact BindsTo.of_eq rfl
    case kB => exact locs rfl
    case c5 => decide
    case c2 => exact rfl
    case c3 => exact rfl
    case c4 => exact rfl
    case hcd =>
      rcases tb'.2 with ⟨_, q, _⟩ | ⟨_, _, vs, tq, hvs, hv1⟩
      · exact absurd q hc36
      · exact ⟨c', oc', vs, tq, rfl, N'.get (.tail _ (.head _)), hvs, hv1⟩
    intro h2 L2 h3 tk3 hid2 eL2 F2 k2
    refine wpAny_mono (E := fun _ _ => False) ?_ (fun _ _ x => x) (fun _ _ x => x.elim)
    have st2 : gb.StaysIn h2 := hid2.stays (fun b o e => F'.keep b o (st₀ b o e)) (fun _ m => nomatch m)
    obtain ⟨X2, T2, C2⟩ := G.keeps st2
    have N2 : News h2 L2 h3 [] := News.nil
    have hn1 : nls src pos < 1000 := by unfold nls; have h1 := List.count_le_length (a := 10) (l := src.cps.toList.take pos); rw [List.length_take] at h1; lia
    have hn2 : lastNl src pos ≤ 1000 := lastNl_le src pos hpl
    clear X₀ T₀ C₀
    walk_at "go"
    · refine RetTo.ret ⟨_, congrArg (fun z => Value.str z _) (by unfold coordS; rw [if_pos (by lia)]), h3, _, rfl, fun b o e => F2.keep b o (hid2.sup b o e (nomatch ·))⟩
    · (rename Fr h2 L2 _ _ => F7)
      dsimp only
      refine RetTo.ret ⟨_, congrArg (fun z => Value.str z _) ?_, _, _, rfl, fun b o e => F7.keep b o (hid2.sup b o e (nomatch ·))⟩
      unfold coordS
      rw [if_neg (by lia), if_pos (by lia)]
      rfl
    · (rename Fr h2 L2 _ _ => F7)
      dsimp only
      refine RetTo.ret ⟨_, congrArg (fun z => Value.str z _) ?_, _, _, rfl, fun b o e => F7.keep b o (hid2.sup b o e (nomatch ·))⟩
      unfold coordS
      rw [if_neg (by lia), if_neg (by lia)]
      rfl
  · rintro v s'' ⟨t, rfl, h5, tk5, rfl, k5⟩
    have F5 := Fr.ext F' k5
    have N5 := News.ext N' k5
    clear F' N'
    have hcl : (coordS src pos).length ≤ 100 := coordS_len src pos hlen hpl
    walk_at "go"
    refine make_toml (X₀.keeps F5.keep) ?_
    intro h6 e m
    obtain ⟨ta, he, htn, ht⟩ := m.there
    have key : ∀ b o, b ≠ 36 → h.get? b = some o → h5.get? b = some o := fun b o hb e => by
      by_cases q : b = ca
      · have hcc' := hcc (q ▸ hb)
        rw [q, hca] at e
        cases e
        rw [q, ← hcc'.1, ← hcc'.2]
        exact N5.get (.tail _ (.head _))
      · exact F5.keep b o (hid.sup b o e (by simp [hb, q]))
    have h36 : h5.get? 36 = some (tabObj ps') := N5.get (.tail _ (.tail _ (.head _)))
    have hc5 : h5.get? c' = some oc' := N5.get (.tail _ (.head _))
    have new : ∀ b, h5.get? b = none → h.get? b = none := fun b hb => by
      cases q : h.get? b with
      | none => rfl
      | some o =>
        have := key b o (fun z => by rw [z, h36] at hb; cases hb) q
        rw [hb] at this; cases this
    exact hQ h6 _ e ta _ c' oc' ps' (fun b o hb e => m.keeps b o (key b o hb e)) ⟨he, ht⟩ (new e m.new) (new ta htn) (m.keeps _ _ hc5) (m.keeps _ _ h36) tb'
      (fun z => by have := m.new; rw [z, hc5] at this; cases this) (fun z => by rw [z, hc5] at htn; cases htn) (fun z => by have := m.new; rw [z, h36] at this; cases this) (fun z => by rw [z, h36] at htn; cases htn)
end Mine
namespace Mine
section
variable {prog : Program} {w : World} {A : Around} {E : Value → Shared → Prop} {s : Shared} {a : Addr}

theorem froz_stored {h : Heap} {es es' : Array (Int × Value)} {ep : Nat} {t t' : SetTable} {S : Str → Bool}
    (ho : h.get? a = some { cls := .type "frozenset", data := .set es ep t }) (hel : ElemsOf (strKind prog w) es'.toList) (hm : ∀ k, S k = true ↔ ∃ e ∈ es'.toList, (strKind prog w).is k e.2 = true) (hf : t'.fits es'.size = true) :
    (h.update a (Obj.putSet es' t')).get? a = some { cls := .type "frozenset", data := .set es' (ep + 1) t' } ∧ FrozAt (strKind prog w) (h.update a (Obj.putSet es' t')) a S es'.size := by
  have hg : (h.update a (Obj.putSet es' t')).get? a = some { cls := .type "frozenset", data := .set es' (ep + 1) t' } := by
    have := Heap.get?_update_self (Obj.putSet es' t') ho (by rw [putSet_of es' t' rfl]; rfl)
    rw [putSet_of es' t' rfl] at this; exact this
  exact ⟨hg, es', ep + 1, t', hg, hel, hm, rfl, hf⟩

theorem froz_add {S : Str → Bool} {n : Nat} {x : Str} {tk : Tok} {Q : Bool → Shared → Prop} (hS : FrozAt (strKind prog w) s.heap a S n) (hn : n + 1 < 4096)
    (h : ∀ b h' n', Heap.SameBut a s.heap h' → FrozAt (strKind prog w) h' a (fun k => S k || decide (k = x)) n' → n' ≤ n + 1 → Q b { s with heap := h', toks := s.toks + 1 }) :
    wpAny (model prog w) A (setAdd a (.str x tk)) Q E s := by
  obtain ⟨es, ep, t, ho, hel, hm, hsz, hf⟩ := hS
  have hk := strKind_is prog w x tk
  have hsc : (Value.str x tk).scannable = true := rfl
  have hb : es.size < scanBound := by rw [hsz]; show n < 4096; lia
  unfold setAdd
  refine wpAny_holding (wpAny_bind ((strKind prog w).pyHash hk ?_))
  unfold setAddHashed setAddHashedIn
  refine wpAny_holding (wpAny_bind (wpAny_setState_of (s := { s with toks := s.toks + 1 }) ho rfl hf ?_))
  dsimp only
  rw [byScan_of hsc hb hel, if_pos rfl]
  unfold setAddByScan
  refine wpAny_bind (wpAny_bind (wpAny_rule (wpAny_bind (wpAny_setScan_of (s := { s with toks := s.toks + 1 }) hk ho rfl hf hel ?_))))
  cases hr : List.findIdx? (fun e => (strKind prog w).is x e.2) es.toList with
  | some j =>
    obtain ⟨hj, hpj, _⟩ := List.findIdx?_eq_some_iff_getElem.mp hr
    have hSx : S x = true := (hm x).mpr ⟨es.toList[j], List.getElem_mem hj, hpj⟩
    refine wpAny_pure (wpAny_pure ?_)
    refine h false s.heap n (Heap.SameBut.refl a s.heap) ⟨es, ep, t, ho, hel, fun k => ?_, hsz, hf⟩ (by lia)
    rw [Bool.or_eq_true, decide_eq_true_eq, ← hm k]
    exact ⟨fun q => q.elim id (fun e => e ▸ hSx), .inl⟩
  | none =>
    dsimp only
    have hperm := layNew_perm t es ((strKind prog w).hash x) (.str x tk)
    have hfits := layNew_fits t es ((strKind prog w).hash x) (.str x tk)
    generalize layNew t es ((strKind prog w).hash x) (.str x tk) = R at hperm hfits ⊢
    obtain ⟨es1, t1, wd, gave⟩ := R
    dsimp only at hperm hfits ⊢
    rw [Array.toList_push] at hperm
    have hel1 : ElemsOf (strKind prog w) es1.toList := (hel.push hk hsc).perm hperm
    have hm1 : ∀ k, (S k || decide (k = x)) = true ↔ ∃ e ∈ es1.toList, (strKind prog w).is k e.2 = true := mem_push_iff hk hm hperm
    have hsz1 : es1.size = n + 1 := by rw [← Array.length_toList, hperm.length_eq, List.length_append, Array.length_toList, hsz]; rfl
    have hline : es1.size ≤ sizeLine := by rw [hsz1, sizeLine_eq]; lia
    refine wpAny_bind ?_
    have give : ∀ (b : Bool) {s₁ : Shared} {Q' : Unit → Shared → Prop}, Q' () s₁ → wpAny (model prog w) A (match b with | true => rule "set.scan.the-table-gave-way" | false => pure ()) Q' E s₁ :=
      fun b _ _ hq => by cases b <;> first | exact wpAny_pure hq | exact wpAny_rule hq
    refine give gave ?_
    have tail : ∀ t2 : SetTable, t2.fits es1.size = true → wpAny (model prog w) A (do
        storeSet a es1 t2
        if (!wd && t2.tooFull) = true then do
          (match (relayAll t2 es1 (SetTable.grown es1.size)).2.2 with | true => rule "set.scan.the-table-gave-way" | false => pure ())
          storeSet a (relayAll t2 es1 (SetTable.grown es1.size)).1 (relayAll t2 es1 (SetTable.grown es1.size)).2.1
          pure (some true)
        else pure (some true)) (fun r s' => wpAny (model prog w) A (match r with | some added => pure added | none => setAddHashedIn a (.str x tk) ((strKind prog w).hash x) 99999) Q E s') E { s with toks := s.toks + 1 } := by
      intro t2 hf2
      refine wpAny_bind (wpAny_storeSet_of (s := { s with toks := s.toks + 1 }) ho rfl ?_ hline)
      obtain ⟨g1, F1⟩ := froz_stored (prog := prog) (w := w) ho hel1 hm1 hf2
      have sb1 := Heap.SameBut.update s.heap a (Obj.putSet es1 t2)
      split
      · have hp := relayAll_perm t2 es1 (SetTable.grown es1.size)
        have hfr := relayAll_fits t2 es1 (SetTable.grown es1.size)
        generalize relayAll t2 es1 (SetTable.grown es1.size) = R2 at hp hfr ⊢
        obtain ⟨es2, t3, gave2⟩ := R2
        dsimp only at hp hfr ⊢
        have hsz2 : es2.size = es1.size := by rw [← Array.length_toList, hp.length_eq, Array.length_toList]
        refine wpAny_bind (give _ (wpAny_bind (wpAny_storeSet_of (s := { s with toks := s.toks + 1, heap := s.heap.update a (Obj.putSet es1 t2) }) g1 rfl ?_ (by rw [hsz2]; exact hline))))
        obtain ⟨_, F2⟩ := froz_stored (prog := prog) (w := w) g1 (hel1.perm hp) (fun k => (hm1 k).trans ⟨fun ⟨e, he, q⟩ => ⟨e, hp.mem_iff.mpr he, q⟩, fun ⟨e, he, q⟩ => ⟨e, hp.mem_iff.mp he, q⟩⟩) hfr
        exact wpAny_pure (wpAny_pure (h true _ _ (sb1.trans (Heap.SameBut.update _ a _)) F2 (by lia)))
      · exact wpAny_pure (wpAny_pure (h true _ _ sb1 F1 (by lia)))
    split
    · refine wpAny_bind ?_
      rw [hashByValue_scannable 8 hsc]
      refine wpAny_pure ?_
      exact tail _ (SetTable.fits_plain_off hfits)
    · refine wpAny_bind (wpAny_pure ?_)
      exact tail _ hfits
end
end Mine
set_option maxRecDepth 100000
namespace Mine
theorem mro_froz : mroOf (.type "frozenset") = pure [.type "frozenset", .type "object"] := by rw [mroOf_type]; kernel_rfl
theorem lookup_froz_new : typeLookup (.type "frozenset") "__new__" = pure (some (.builtin "frozenset.__new__")) := by rw [typeLookup_type, builtinLookup_eq_fast]; kernel_rfl
theorem slot_froz_init : Slot "frozenset" "__init__" "object.__init__" :=
  .of (owner := "object") (n := "__init__") (by rw [typeLookup_type, builtinLookup_eq_fast]; kernel_rfl) (by decide +kernel) (by decide +kernel) (by decide +kernel)
    (by first | exact .inl (by decide +kernel) | exact .inr (by decide +kernel)) (by rw [isSubtype_type]; kernel_rfl)
theorem called_froz : TypeCalled "frozenset" "frozenset.__new__" "object.__init__" :=
  ⟨by decide +kernel, by decide +kernel, ⟨_, _, mro_froz⟩, madeBy_type mro_froz lookup_froz_new (by decide +kernel), by decide +kernel, by rw [isSubtype_type]; kernel_rfl, slot_froz_init⟩
theorem typeCall_froz_1 (a : Value) : checkTypeCall "frozenset" ⟨[a], []⟩ = pure () := by kernel_rfl
theorem newCall_froz_1 (a : Value) : checkBuiltinCall "frozenset.__new__" ⟨[.type "frozenset", a], []⟩ = pure () := by kernel_rfl
theorem entry_froz_new : entryFor table "frozenset.__new__" = some Builtin.«frozenset.__new__» := entryFor_of_tree (by kernel_rfl)
theorem sub_froz_self : isSubtype (.type "frozenset") (.type "frozenset") = pure true := by rw [isSubtype_type]; kernel_rfl
theorem sub_str_set : isSubtype (.type "str") (.type "set") = pure false := by rw [isSubtype_type]; kernel_rfl
theorem sub_str_froz : isSubtype (.type "str") (.type "frozenset") = pure false := by rw [isSubtype_type]; kernel_rfl

section
variable {prog : Program} {w : World} {A : Around} {E : Value → Shared → Prop} {s : Shared}
/-- a class call, for the run at hand -/
theorem callType_here {T newId : String} {Bn : Builtin} {args : List Value} {Q : Value → Shared → Prop} (ft : TypeCalled T newId "object.__init__") (hne : (some newId != some "object.__new__") = true)
    (hct : checkTypeCall T ⟨args, []⟩ = pure ()) (hcn : checkBuiltinCall newId ⟨.type T :: args, []⟩ = pure ()) (hok : ∀ obj, argsOk "object.__init__" ⟨obj :: args, []⟩)
    (entryN : entryFor table newId = some Bn)
    (h : wpAny (model prog w) A.in1.in1 (Bn ⟨.type T :: args, []⟩) (fun fin s' => ∃ obj, fin = .done (.ret obj) ∧ s'.TypeIs obj T ∧ Q obj s') (fun e s' => E e s') s) :
    wpAny (model prog w) A (call (.type T) args) Q E s := by
  have new : codeAny (model prog w) A.in1 (.call (.builtin newId) ⟨.type T :: args, []⟩) (fun r s₁ => match r with | .ok (.ret obj) => s₁.TypeIs obj T ∧ Q obj s₁ | .ok _ => False | .error e => E e s₁) s :=
    codeAny_call_builtin ft.plain entryN (wpAny_of_eq hcn (wpAny_mono h (fun fin s' hf => by
      obtain ⟨obj, rfl, hT, hq⟩ := hf
      exact ⟨hT, hq⟩) fun _ _ x => x))
  obtain ⟨c, tl, hmro⟩ := ft.mro
  have hmade := ft.made
  have hsub := ft.sub
  refine wpAny_call (codeAny_of_tree ?_)
  show wpAny _ _ (callAny (.type T) _) _ _ _
  refine wpAny_pure ⟨Code.quiet_builtin _ (by decide +kernel), codeAny_builtin F.entry_type_call ?_⟩
  rw [Around.under_plain (weight_type_call_type T args []) (units_type_call_type T args [])]
  have h1 := ft.notType
  have h2 := ft.canCreate
  repeat (any_goals (first | assumption | wp_step))
  refine codeAny_mono new fun r s₁ hr => ?_
  cases r with
  | error e => exact hr
  | ok fl =>
    cases fl with
    | ret obj =>
      obtain ⟨hT, hq⟩ := hr
      have hli := ft.init.lookup
      have hbi := ft.init.bind obj
      repeat (any_goals (first | assumption | wp_step))
      refine codeAny_mono (codeAny_call_builtin ft.init.plain F.entry_object_init (ft.init.check _ _ _ _ _ _ _ _ hT (hok obj) (object_init_meets ft.init.lookup ft.made hne prog w A.in1 (wants (fun r s₂ => r = .none ∧ Q obj s₂) E) s₁ ⟨hT, rfl, hq⟩))) fun r₂ s₂ hr₂ => ?_
      cases r₂ with
      | error e => exact hr₂
      | ok fl₂ =>
        cases fl₂ with
        | ret r =>
          obtain ⟨rfl, hq⟩ := hr₂
          repeat (any_goals (first | assumption | wp_step))
        | _ => exact hr₂.elim
    | _ => exact hr.elim

theorem entry_upd : entryFor table "set.update.loop" = some Builtin.«set.update.loop» := entryFor_of_tree (by kernel_rfl)
theorem plain_upd : plainId "set.update.loop" = true := by decide +kernel

/-- the signs of a text, as one-sign texts -/
def signSet (cs : List Nat) (k : Str) : Bool := cs.any fun c => decide (k = ⟨#[c]⟩)

theorem upd_loop {x : Str} {I S : Addr} {St : Nat → Heap → Prop} (hIS : I ≠ S) (hx : x.cps.size < 1000)
    (W : ∀ A' : Around, A'.handled = none → Walks prog w A' I [I] [I] x.cps.size (SignAt x) St) (hh : A.handled = none) {R : Result → Shared → Prop} :
    ∀ (k i n : Nat) (s : Shared), x.cps.size - i = k → i ≤ x.cps.size → n ≤ i → St i s.heap → FrozAt (strKind prog w) s.heap S (signSet (x.cps.toList.take i)) n →
      (∀ h' tk n', (∀ b o, b ≠ I → b ≠ S → s.heap.get? b = some o → h'.get? b = some o) → FrozAt (strKind prog w) h' S (signSet x.cps.toList) n' → n' < 1000 → R (.ok (.ret .none)) { s with heap := h', toks := tk }) →
      codeAny (model prog w) A (.builtin "set.update.loop" ⟨[.ref S, .ref I], []⟩) R s := by
  intro k
  have W1 := W A.in1 hh
  induction k with
  | zero =>
    intro i n s hk hi hn hst hS hR
    have e : i = x.cps.size := by lia
    subst e
    refine codeAny_builtin entry_upd ?_
    rw [Around.under_plainId plain_upd _]
    show wpAny _ A.in1 (pyNext (.ref I) >>= _) _ _ s
    refine wpAny_bind (W1.done s _ _ hst fun h' tk hm => ?_)
    refine wpAny_pure (hR h' tk n (fun b o hb _ e => hm b o (by simpa using hb) e) ?_ (by lia))
    obtain ⟨es, ep, t, ho, r⟩ := hS
    rw [List.take_of_length_le (by simp)] at r
    exact ⟨es, ep, t, hm S _ (by simpa using Ne.symm hIS) ho, r⟩
  | succ k ih =>
    intro i n s hk hi hn hst hS hR
    have hlt : i < x.cps.size := by lia
    refine codeAny_builtin entry_upd ?_
    rw [Around.under_plainId plain_upd _]
    show wpAny _ A.in1 (pyNext (.ref I) >>= _) _ _ s
    refine wpAny_bind (W1.item i s _ _ hlt hst fun v h' tk hP hst' hm => ?_)
    obtain ⟨c, u, hc, rfl⟩ := hP
    have hS' : FrozAt (strKind prog w) h' S (signSet (x.cps.toList.take i)) n := by
      obtain ⟨es, ep, t, ho, r⟩ := hS
      exact ⟨es, ep, t, hm S _ (by simpa using Ne.symm hIS) ho, r⟩
    show wpAny _ A.in1 (holding [Value.str ⟨#[c]⟩ u] (setAdd S (.str ⟨#[c]⟩ u)) >>= _) _ _ _
    refine wpAny_bind (wpAny_holding (froz_add (s := { s with heap := h', toks := tk }) hS' (by lia) fun b h2 n2 sb F2 hn2 => ?_))
    refine wpAny_pure ⟨plainId_quiet plain_upd _, ih (i + 1) n2 _ (by lia) hlt (by lia) ?_ ?_ ?_⟩
    · exact W1.frame _ _ _ hst' fun b hb o e => (sb.2 b (by rw [List.mem_singleton.mp hb]; exact hIS)).trans e
    · have e : (fun k => signSet (x.cps.toList.take i) k || decide (k = ⟨#[c]⟩)) = signSet (x.cps.toList.take (i + 1)) := by
        funext k
        have hc' : x.cps.toList[i]? = some c := by rw [Array.getElem?_toList]; exact hc
        rw [List.take_succ, hc']
        unfold signSet
        simp
      rw [← e]; exact F2
    · intro h3 tk3 n3 k3 F3 hn3
      exact hR h3 tk3 n3 (fun b o hb1 hb2 e => k3 b o hb1 hb2 ((sb.2 b hb2).trans (hm b o (by simpa using hb1) e))) F3 hn3
end
end Mine
set_option maxRecDepth 100000
namespace Mine
theorem slot_disj : Slot "frozenset" "isdisjoint" "frozenset.isdisjoint" :=
  .of (owner := "frozenset") (n := "isdisjoint") (by rw [typeLookup_type, builtinLookup_eq_fast]; kernel_rfl) (by decide +kernel) (by decide +kernel) (by decide +kernel)
    (by first | exact .inl (by decide +kernel) | exact .inr (by decide +kernel)) (by rw [isSubtype_type]; kernel_rfl)
theorem entry_disj : entryFor table "frozenset.isdisjoint" = some Builtin.«frozenset.isdisjoint» := entryFor_of_tree (by kernel_rfl)
theorem entry_disjL : entryFor table "frozenset.isdisjoint.loop" = some Builtin.«frozenset.isdisjoint.loop» := entryFor_of_tree (by kernel_rfl)
theorem plain_disjL : plainId "frozenset.isdisjoint.loop" = true := by decide +kernel
theorem args_disj (a b : Value) : argsOk "frozenset.isdisjoint" ⟨[a, b], []⟩ := by
  unfold argsOk; rw [signature?_of (id := "frozenset.isdisjoint") (n := ['t', 'n', 'i', 'o', 'j', 's', 'i', 'd', 's', 'i']) (o := ['t', 'e', 's', 'n', 'e', 'z', 'o', 'r', 'f']) (by kernel_rfl) PySem.W.FB.owner_frozenset]; kernel_rfl
theorem newClass_froz (v : Value) : Builtin.Frozenset.newClass "frozenset" ⟨[.type "frozenset", v], []⟩ = pure (.type "frozenset", [v]) := by
  unfold Builtin.Frozenset.newClass
  dsimp only
  rw [show isType (.type "frozenset") = pure true from rfl, pure_bind]
  simp only [sub_froz_self, pure_bind, Bool.not_true, Bool.false_eq_true, if_false]
section
variable {prog : Program} {w : World} {A : Around} {E : Value → Shared → Prop} {s : Shared}
theorem isAny_str {x : Str} {t : Tok} {Q : Bool → Shared → Prop} (h : Q false s) : wpAny (model prog w) A (Builtin.Frozenset.isAnySet (.str x t)) Q E s := by
  unfold Builtin.Frozenset.isAnySet
  show wpAny _ _ (isInstance (.str x t) (.type "set") >>= fun b => if b = true then pure true else isInstance (.str x t) (.type "frozenset")) _ _ _
  refine wpAny_bind (wpAny_isInstance (typeIs_str _ _ _) sub_str_set ?_)
  rw [if_neg Bool.false_ne_true]
  exact wpAny_isInstance (typeIs_str _ _ _) sub_str_froz h

theorem call_froz {x : Str} {t : Tok} {Q : Value → Shared → Prop} (hx : x.cps.size < 1000) (hh : A.handled = none)
    (hQ : ∀ a h' tk n, (∀ b o, s.heap.get? b = some o → h'.get? b = some o) → s.heap.get? a = none → FrozAt (strKind prog w) h' a (signSet x.cps.toList) n → n < 1000 → Q (.ref a) { s with heap := h', toks := tk }) :
    wpAny (model prog w) A (call (.type "frozenset") [.str x t]) Q E s := by
  refine callType_here called_froz (by decide) (typeCall_froz_1 _) (newCall_froz_1 _) (fun obj => F.args_object_init_2 obj _) entry_froz_new ?_
  unfold Builtin.«frozenset.__new__»
  rw [newClass_froz]
  refine wpAny_bind (wpAny_pure ?_)
  dsimp only
  refine wpAny_bind (wpAny_of_eq slot_froz_init.lookup ?_)
  rw [if_pos (by decide +kernel)]
  refine wpAny_bind (wpAny_of_eq (show noKeywords "frozenset" _ = pure () from rfl) ?_)
  obtain ⟨nm, hnm⟩ : ∃ nm, typeNameCut 200 (Value.type "frozenset") = pure nm := ⟨_, rfl⟩
  refine wpAny_bind (wpAny_of_eq hnm ?_)
  refine wpAny_bind (wpAny_of_eq (show checkCount nm 0 1 [Value.str x t].length = pure () from rfl) ?_)
  rw [if_pos (by decide +kernel)]
  refine wpAny_bind (wpAny_of_eq (show typeOf (Value.str x t) = pure (.type "str") from rfl) ?_)
  rw [if_neg (by decide +kernel)]
  refine wpAny_bind ?_
  unfold Builtin.Frozenset.newFrom newSet setsByText
  refine wpAny_bind (wpAny_bind (wpAny_bind (wpAny_askSetting (wpAny_pure ?_))))
  dsimp only
  simp only [newObj]
  refine wpAny_bind (wpAny_alloc (wpAny_pure ?_))
  refine wpAny_bind (wpAny_pure (wpAny_bind (wpAny_holding ?_)))
  unfold Builtin.Frozenset.updateFrom
  refine wpAny_bind (isAny_str ?_)
  rw [if_neg Bool.false_ne_true]
  refine wpAny_bind (wpAny_of_eq (show typeOf (Value.str x t) = pure (.type "str") from rfl) ?_)
  rw [if_neg (by decide +kernel)]
  generalize hH : s.heap.push _ = H
  have hsz : H.objs.size = s.heap.objs.size + 1 := by rw [← hH, Heap.size_push]
  have kH : ∀ b o, s.heap.get? b = some o → H.get? b = some o := fun b o e => hH ▸ Heap.get?_push_of_some _ e
  have F0 : FrozAt (strKind prog w) H s.heap.objs.size (signSet (x.cps.toList.take 0)) 0 := by
    refine ⟨#[], 0, _, by rw [← hH]; exact Heap.get?_push_size _ rfl, fun e he => by simp at he, fun k => by simp [signSet], rfl, rfl⟩
  refine wpAny_bind (wpAny_pyIter_str fun o St W hst => ?_)
  refine wpAny_bind (wpAny_runValue ?_)
  have hne : H.objs.size ≠ s.heap.objs.size := by lia
  refine upd_loop (A := A.in1.in1) hne hx W hh x.cps.size 0 0 { s with heap := H.push o } (by lia) (Nat.zero_le _) (Nat.le_refl _) hst ?_ ?_
  · obtain ⟨es, ep, tt, ho, r⟩ := F0
    exact ⟨es, ep, tt, Heap.get?_push_of_some _ ho, r⟩
  · intro h' tk n k F1 hn
    refine wpAny_pure (wpAny_pure (wpAny_pure ⟨_, rfl, ?_, ?_⟩))
    · obtain ⟨es, ep, tt, ho, r⟩ := F1
      exact ⟨_, ho, rfl⟩
    · refine hQ _ h' tk n (fun b o e => ?_) (Heap.get?_none_of_le (Nat.le_refl _)) F1 hn
      have hlt := Heap.lt_size e
      exact k b o (Nat.ne_of_lt (Nat.lt_trans hlt (by rw [hsz]; exact Nat.lt_succ_self _))) (Nat.ne_of_lt hlt) (Heap.get?_push_of_some _ (kH b o e))

/-- some sign of the text from place i on lies in the set -/
theorem disj_loop {x : Str} {I S : Addr} {St : Nat → Heap → Prop} {P : Str → Bool} {n : Nat} (hIS : I ≠ S) (hn : n < 4096)
    (W : ∀ A' : Around, A'.handled = none → Walks prog w A' I [I] [I] x.cps.size (SignAt x) St) (hh : A.handled = none) {R : Result → Shared → Prop} :
    ∀ (k i : Nat) (s : Shared), x.cps.size - i = k → i ≤ x.cps.size → St i s.heap → FrozAt (strKind prog w) s.heap S P n →
      (∀ h' tk, (∀ b o, b ≠ I → s.heap.get? b = some o → h'.get? b = some o) → R (.ok (.ret (.bool (!(x.cps.toList.drop i).any fun c => P ⟨#[c]⟩)))) { s with heap := h', toks := tk }) →
      codeAny (model prog w) A (.builtin "frozenset.isdisjoint.loop" ⟨[.ref S, .ref I], []⟩) R s := by
  intro k
  have W1 := W A.in1 hh
  induction k with
  | zero =>
    intro i s hk hi hst hS hR
    have e : i = x.cps.size := by lia
    subst e
    refine codeAny_builtin entry_disjL ?_
    rw [Around.under_plainId plain_disjL _]
    show wpAny _ A.in1 (pyNext (.ref I) >>= _) _ _ s
    refine wpAny_bind (W1.done s _ _ hst fun h' tk hm => ?_)
    have := hR h' tk (fun b o hb e => hm b o (by simpa using hb) e)
    rw [List.drop_of_length_le (by simp)] at this
    exact wpAny_pure this
  | succ k ih =>
    intro i s hk hi hst hS hR
    have hlt : i < x.cps.size := by lia
    refine codeAny_builtin entry_disjL ?_
    rw [Around.under_plainId plain_disjL _]
    show wpAny _ A.in1 (pyNext (.ref I) >>= _) _ _ s
    refine wpAny_bind (W1.item i s _ _ hlt hst fun v h' tk hP hst' hm => ?_)
    obtain ⟨c, u, hc, rfl⟩ := hP
    have hc' : x.cps.toList[i]? = some c := by rw [Array.getElem?_toList]; exact hc
    have hdrop : x.cps.toList.drop i = c :: x.cps.toList.drop (i + 1) := by
      obtain ⟨h1, h2⟩ := List.getElem?_eq_some_iff.mp hc'
      rw [List.drop_eq_getElem_cons h1, h2]
    have hS' : FrozAt (strKind prog w) h' S P n := by
      obtain ⟨es, ep, t, ho, r⟩ := hS
      exact ⟨es, ep, t, hm S _ (by simpa using Ne.symm hIS) ho, r⟩
    obtain ⟨es, ep, t, ho, hel, hmem, hsz, hf⟩ := hS'
    show wpAny _ A.in1 (holding [Value.str ⟨#[c]⟩ u] (setContains S (.str ⟨#[c]⟩ u)) >>= _) _ _ _
    refine wpAny_bind (wpAny_holding ?_)
    unfold setContains
    refine wpAny_holding (wpAny_bind ((strKind prog w).pyHash (strKind_is prog w ⟨#[c]⟩ u) ?_))
    refine wpAny_bind (setFind_any (s := { s with heap := h', toks := tk + 1 }) (strKind_is prog w ⟨#[c]⟩ u) rfl ho rfl hel hmem (by rw [hsz]; exact hn) hf fun r hr => ?_)
    refine wpAny_pure ?_
    rw [hr]
    cases hPc : P ⟨#[c]⟩ with
    | true =>
      have := hR h' (tk + 1) (fun b o hb e => hm b o (by simpa using hb) e)
      rw [hdrop, List.any_cons, hPc] at this
      rw [if_pos rfl]
      exact wpAny_pure this
    | false =>
      rw [if_neg Bool.false_ne_true]
      refine wpAny_pure ⟨plainId_quiet plain_disjL _, ih (i + 1) { s with heap := h', toks := tk + 1 } (by lia) hlt hst' ⟨es, ep, t, ho, hel, hmem, hsz, hf⟩ ?_⟩
      intro h2 tk2 k2
      have := hR h2 tk2 (fun b o hb e => k2 b o hb (hm b o (by simpa using hb) e))
      rw [hdrop, List.any_cons, hPc, Bool.false_or] at this
      exact this

theorem call_disj {x : Str} {t : Tok} {S : Addr} {P : Str → Bool} {n : Nat} {Q : Value → Shared → Prop} (hn : n < 4096) (hh : A.handled = none) (hS : FrozAt (strKind prog w) s.heap S P n)
    (hQ : ∀ h' tk, (∀ b o, s.heap.get? b = some o → h'.get? b = some o) → Q (.bool (!x.cps.toList.any fun c => P ⟨#[c]⟩)) { s with heap := h', toks := tk }) :
    wpAny (model prog w) A (call (.builtin "frozenset.isdisjoint") [.ref S, .str x t]) Q E s := by
  obtain ⟨es, ep, tb, ho, r⟩ := hS
  have hT : s.TypeIs (.ref S) "frozenset" := ⟨_, ho, rfl⟩
  refine wpAny_call (codeAny_call_builtin slot_disj.plain entry_disj (slot_disj.check _ _ _ _ _ _ _ _ hT (args_disj _ _) ?_))
  unfold Builtin.«frozenset.isdisjoint» Builtin.Frozenset.oneOther
  refine wpAny_bind (wpAny_bind (wpAny_pure (wpAny_pure ?_)))
  dsimp only
  rw [if_neg (by intro q; cases (eq_of_beq q))]
  refine wpAny_bind (wpAny_of_eq (show typeOf (Value.str x t) = pure (.type "str") from rfl) ?_)
  rw [if_neg (by decide +kernel)]
  refine wpAny_bind (wpAny_pyIter_str fun o St W hst => ?_)
  refine wpAny_pure ⟨plainId_quiet plain_disjL _, ?_⟩
  have hlt := Heap.lt_size ho
  refine disj_loop (A := A) (Nat.ne_of_gt hlt) hn W hh x.cps.size 0 { s with heap := s.heap.push o } (by lia) (Nat.zero_le _) hst ⟨es, ep, tb, Heap.get?_push_of_some _ ho, r⟩ ?_
  intro h' tk k
  exact hQ h' tk fun b o' e => k b o' (Nat.ne_of_lt (Heap.lt_size e)) (Heap.get?_push_of_some _ e)
end
end Mine
namespace Mine
def frs (l : List Env) : List Addr := l.filterMap (·.frame)
/-- each frame of the stack has its namespace in the heap -/
def FramesOk (h : Heap) (l : List Env) : Prop := ∀ env ∈ l, env.scope.kind ≠ .module ∧ ∃ L o es n, env.frame = some L ∧ h.get? L = some o ∧ o.data = .dict es n
theorem FramesOk.funF {h : Heap} {base : Heap} : ∀ {l : List Env}, FramesOk h l → (∀ b ∈ frs l, base.get? b = none) → h.FunFrames base l
  | [], _, _ => trivial
  | env :: r, x, hb => by
    obtain ⟨hk, L, o, es, n, hf, ho, hd⟩ := x env (.head _)
    refine ⟨hk, ⟨L, o, hf, hb L (by unfold frs; rw [List.filterMap_cons, hf]; exact .head _), ho, fun vs q => by rw [hd] at q; cases q⟩, FramesOk.funF (fun e he => x e (.tail _ he)) fun b m => hb b ?_⟩
    unfold frs; rw [List.filterMap_cons, hf]; exact .tail _ m
theorem FramesOk.fn {h : Heap} {l : List Env} (x : FramesOk h l) : h.FunFrames (hideAll h (frs l)) l := x.funF fun _ m => hideAll_none _ m
theorem FramesOk.mem {h : Heap} : ∀ {l : List Env}, FramesOk h l → ∀ b ∈ frs l, ∃ o es n, h.get? b = some o ∧ o.data = .dict es n
  | env :: r, x, b, m => by
    obtain ⟨hk, L, o, es, n, hf, ho, hd⟩ := x env (.head _)
    unfold frs at m
    rw [List.filterMap_cons, hf] at m
    rcases List.mem_cons.mp m with rfl | m
    · exact ⟨o, es, n, ho, hd⟩
    · exact FramesOk.mem (fun e he => x e (.tail _ he)) b m
/-- all but some objects stay; the frames keep all but their slots -/
def UpTo (F X : List Addr) (h h' : Heap) : Prop := ∀ b o, h.get? b = some o → b ∉ X → (b ∉ F → h'.get? b = some o) ∧ ∃ sl, h'.get? b = some { o with slots := sl }
theorem UpTo.refl (F X : List Addr) (h : Heap) : UpTo F X h h := fun b o e _ => ⟨fun _ => e, o.slots, e⟩
theorem UpTo.trans {F X : List Addr} {h h' h'' : Heap} (x : UpTo F X h h') (y : UpTo F X h' h'') : UpTo F X h h'' := fun b o e hX => by
  obtain ⟨x1, sl, x2⟩ := x b o e hX
  obtain ⟨y1, sl2, y2⟩ := y b _ x2 hX
  refine ⟨fun hF => ?_, sl2, y2⟩
  have := x1 hF
  exact (y b o this hX).1 hF
theorem FramesOk.up {F X : List Addr} {h h' : Heap} {l : List Env} (x : FramesOk h l) (u : UpTo F X h h') (hX : ∀ b ∈ frs l, b ∉ X) : FramesOk h' l := fun env he => by
  obtain ⟨hk, L, o, es, n, hf, ho, hd⟩ := x env he
  obtain ⟨_, sl, e⟩ := u L o ho (hX L (List.mem_filterMap.mpr ⟨env, he, hf⟩))
  exact ⟨hk, L, _, es, n, hf, e, hd⟩

/-- an exception e under way since the heap h0 -/
structure Ex (F : List Addr) (h0 h : Heap) (e : Addr) (cls : Value) (vs : Array Value) (fl : Option Value) : Prop where
  up : UpTo F [e] h0 h
  there : ∃ o, h.get? e = some o ∧ o.cls = cls ∧ o.data = .fields vs
  tr : (fl = none ∧ vs[1]? = some .none) ∨ ∃ T ot ts v, fl = some v ∧ vs[1]? = some (.ref T) ∧ h0.get? T = none ∧ T ≠ e ∧ h.get? T = some ot ∧ ot.data = .fields ts ∧ ts[3]? = some v

section
variable {M : Model} {A : Around} {E : Value → Shared → Prop} {s : Shared} {env : Env} {outer : List Env} {L e : Addr} {cls : Value} {vs : Array Value} {h0 : Heap} {Q : Unit → Shared → Prop}

theorem field_ex {oe : Obj} {x : Value} {i : Nat} {Q : Value → Shared → Prop} (he : s.heap.get? e = some oe) (hd : oe.data = .fields vs) (hx : vs[i]? = some x) (h : Q x s) : wpAny M A (field (.ref e) i) Q E s := wpAny_field he hd hx h

/-- a new entry of the traceback -/
theorem note_core {head : Value} {hadNext : Bool} {oe : Obj} (hfr : A.frames = some (env :: outer)) (hl : FramesOk s.heap (env :: outer)) (hf : env.frame = some L)
    (he : s.heap.get? e = some oe) (hd : oe.data = .fields vs) (hsz : 1 < vs.size)
    (h : ∀ h' T ot ts, UpTo (frs (env :: outer)) [e] s.heap h' → s.heap.get? T = none → T ≠ e → h'.get? e = some (oe.mapFields (·.setIfInBounds 1 (.ref T))) → h'.get? T = some ot → ot.data = .fields ts → ts[3]? = some (rawInt L) →
      Q () { s with heap := h' }) :
    wpAny M A (do let a ← frameOf env; let pl ← entryPlaceOf L hadNext; let b ← EntryCells.newEntry head a .none (rawInt L) .none pl; setField (.ref e) 1 b) Q E s := by
  have hene : e ∉ frs (env :: outer) := fun hm => by
    obtain ⟨o, es, n, ho, hd'⟩ := hl.mem e hm
    rw [he] at ho; cases ho; rw [hd] at hd'; cases hd'
  refine wpAny_bind (wpAny_frameOf_fun hfr hl.fn hf fun h₁ hs₁ => ?_)
  refine wpAny_bind (wpAny_entryPlaceOf fun pl hpl => ?_)
  unfold EntryCells.newEntry newFields
  refine wpAny_bind (wpAny_newObj_type ?_ (hpl.sizeOk5 _ _ _ _ _))
  have he₁ : h₁.get? e = some oe := (hs₁.2.1 e hene).trans he
  have hTe : h₁.objs.size ≠ e := Nat.ne_of_gt (Heap.lt_size he₁)
  generalize hH : h₁.push _ = H
  have hTat : H.get? h₁.objs.size = some { cls := .type "traceback", dict := none, data := .fields ([head, .ref L, .none, rawInt L, .none] ++ (if pl.isEmpty then List.replicate 6 Value.none else pl)).toArray } := by
    rw [← hH]; exact Heap.get?_push_size _ rfl
  have kH : ∀ b o, h₁.get? b = some o → H.get? b = some o := fun b o q => hH ▸ Heap.get?_push_of_some _ q
  refine wpAny_setField (kH _ _ he₁) hd hsz ?_
  have hd₃ := Obj.data_mapFields hd (·.setIfInBounds 1 (Value.ref h₁.objs.size))
  refine h _ h₁.objs.size _ _ (fun b o q hX => ?_) ?_ hTe (Heap.get?_update_self _ (kH _ _ he₁) (Obj.isFreed_of_fields hd₃)) ((Heap.get?_update_other _ _ (Ne.symm hTe)).trans hTat) rfl (by simp)
  · have hbe : e ≠ b := fun z => hX (by rw [← z]; exact .head _)
    refine ⟨fun hF => ?_, ?_⟩
    · exact (Heap.get?_update_other _ _ hbe).trans (kH b o ((hs₁.2.1 b hF).trans q))
    · obtain ⟨sl, hsl⟩ := hs₁.2.2 b o q
      exact ⟨sl, (Heap.get?_update_other _ _ hbe).trans (kH b _ hsl)⟩
  · rw [hs₁.1]; exact Heap.get?_none_of_le (Nat.le_refl _)

theorem Ex.note {fl : Option Value} (X : Ex (frs (env :: outer)) h0 s.heap e cls vs fl) (hfl : fl = none ∨ fl = some .none) (hfr : A.frames = some (env :: outer)) (hl : FramesOk s.heap (env :: outer)) (hf : env.frame = some L)
    (h : ∀ h' T, Ex (frs (env :: outer)) h0 h' e cls (vs.setIfInBounds 1 (.ref T)) (some (rawInt L)) → FramesOk h' (env :: outer) → Q () { s with heap := h' }) : wpAny M A (noteFrame (.ref e) env) Q E s := by
  obtain ⟨up, ⟨oe, he, hc, hd⟩, tr⟩ := X
  have hene : ∀ b ∈ frs (env :: outer), b ∉ [e] := fun b hm q => by
    obtain ⟨o, es, n, ho, hd'⟩ := hl.mem b hm
    rw [List.mem_singleton.mp q, he] at ho; cases ho; rw [hd] at hd'; cases hd'
  unfold noteFrame
  simp only [hf]
  rcases tr with ⟨_, h1⟩ | ⟨T, ot, ts, v, hv, h1, hT0, hTe, hT, hdT, h3⟩
  · refine wpAny_bind (wpAny_field he hd h1 ?_)
    rw [if_neg (by decide)]
    refine note_core hfr hl hf he hd (Array.getElem?_eq_some_iff.mp h1).1 fun h' T ot ts u hTn hTe he' hT' hdT' h3' => ?_
    refine h h' T ⟨up.trans u, ⟨_, he', (Obj.cls_mapFields _ _).trans hc, Obj.data_mapFields hd _⟩, .inr ⟨T, ot, ts, _, rfl, ?_, ?_, hTe, hT', hdT', h3'⟩⟩ (hl.up u hene)
    · simp [(Array.getElem?_eq_some_iff.mp h1).1]
    · cases q : h0.get? T with
      | none => rfl
      | some o => obtain ⟨_, sl, q2⟩ := up T o q (by simpa using hTe); rw [hTn] at q2; cases q2
  · have hv' : v = .none := by
      rcases hfl with q | q
      · rw [hv] at q; cases q
      · rw [hv] at q; exact Option.some.inj q
    subst hv'
    have hsz3 : 3 < ts.size := (Array.getElem?_eq_some_iff.mp h3).1
    have h1' : 1 < vs.size := (Array.getElem?_eq_some_iff.mp h1).1
    refine wpAny_bind (wpAny_field he hd h1 ?_)
    rw [if_pos (show (Value.ref T != Value.none) = true from by simp)]
    refine wpAny_bind (wpAny_field hT hdT h3 ?_)
    rw [if_neg (show ¬ ((Value.none == rawInt L) = true) from by simp [rawInt])]
    refine wpAny_bind (wpAny_setField hT hdT hsz3 ?_)
    have u1 : UpTo (frs (env :: outer)) [e] h0 (s.heap.update T (Obj.mapFields (·.setIfInBounds 3 Value.none))) := fun b o q hX => by
      have hbT : T ≠ b := fun z => by rw [← z, hT0] at q; cases q
      obtain ⟨a1, sl, a2⟩ := up b o q hX
      exact ⟨fun hF => (Heap.get?_update_other _ _ hbT).trans (a1 hF), sl, (Heap.get?_update_other _ _ hbT).trans a2⟩
    have hTd : ∀ b ∈ frs (env :: outer), T ≠ b := fun b hm z => by
      obtain ⟨o, es, n, ho, hd'⟩ := hl.mem b hm
      rw [← z, hT] at ho; cases ho; rw [hdT] at hd'; cases hd'
    have hl1 : FramesOk (s.heap.update T (Obj.mapFields (·.setIfInBounds 3 Value.none))) (env :: outer) := fun en hen => by
      obtain ⟨hk, L', o, es, n, hf', ho, hd'⟩ := hl en hen
      exact ⟨hk, L', o, es, n, hf', (Heap.get?_update_other _ _ (hTd L' (List.mem_filterMap.mpr ⟨en, hen, hf'⟩))).trans ho, hd'⟩
    refine note_core (s := { s with heap := s.heap.update T (Obj.mapFields (·.setIfInBounds 3 Value.none)) }) hfr hl1 hf ((Heap.get?_update_other _ _ hTe).trans he) hd h1' fun h' T2 ot2 ts2 u hTn hTe2 he' hT' hdT' h3' => ?_
    refine h h' T2 ⟨u1.trans u, ⟨_, he', (Obj.cls_mapFields _ _).trans hc, Obj.data_mapFields hd _⟩, .inr ⟨T2, ot2, ts2, _, rfl, ?_, ?_, hTe2, hT', hdT', h3'⟩⟩ (hl1.up u hene)
    · simp [h1']
    · cases q : h0.get? T2 with
      | none => rfl
      | some o => obtain ⟨_, sl, q2⟩ := u1 T2 o q (by simpa using hTe2); rw [hTn] at q2; cases q2

theorem Ex.noteAgain (X : Ex (frs (env :: outer)) h0 s.heap e cls vs (some (rawInt L))) (hf : env.frame = some L) (h : Q () s) : wpAny M A (noteFrame (.ref e) env) Q E s := by
  obtain ⟨up, ⟨oe, he, hc, hd⟩, ⟨q, _⟩ | ⟨T, ot, ts, v, hv, h1, hT0, hTe, hT, hdT, h3⟩⟩ := X
  · cases q
  · cases hv
    exact wpAny_noteFrame_inFlight hf he hd h1 hT hdT h3 h

theorem Ex.flight {F : List Addr} {fl : Option Value} {l : List Env} {w : Option Addr} (X : Ex F h0 s.heap e cls vs fl) (hl : FramesOk s.heap l)
    (h : ∀ h', Ex F h0 h' e cls vs (if fl = none then none else some (w.elim .none fun f => rawInt f)) → FramesOk h' l → Q () { s with heap := h' }) : wpAny M A (setFlight (.ref e) w) Q E s := by
  obtain ⟨up, ⟨oe, he, hc, hd⟩, tr⟩ := X
  unfold setFlight
  rcases tr with ⟨rfl, h1⟩ | ⟨T, ot, ts, v, rfl, h1, hT0, hTe, hT, hdT, h3⟩
  · refine wpAny_bind (wpAny_field he hd h1 ?_)
    rw [if_neg (by decide)]
    exact wpAny_pure (h s.heap ⟨up, ⟨oe, he, hc, hd⟩, .inl ⟨rfl, h1⟩⟩ hl)
  · have hsz3 : 3 < ts.size := (Array.getElem?_eq_some_iff.mp h3).1
    refine wpAny_bind (wpAny_field he hd h1 ?_)
    rw [if_pos (show (Value.ref T != Value.none) = true from by simp)]
    refine wpAny_setField hT hdT hsz3 (h _ ⟨fun b o q hX => ?_, ⟨oe, (Heap.get?_update_other _ _ hTe).trans he, hc, hd⟩, .inr ⟨T, _, _, _, rfl, h1, hT0, hTe, Heap.get?_update_self _ hT (Obj.isFreed_of_fields (Obj.data_mapFields hdT _)), Obj.data_mapFields hdT _, by simp [hsz3]⟩⟩ fun en hen => ?_)
    · have hbT : T ≠ b := fun z => by rw [← z, hT0] at q; cases q
      obtain ⟨a1, sl, a2⟩ := up b o q hX
      exact ⟨fun hF => (Heap.get?_update_other _ _ hbT).trans (a1 hF), sl, (Heap.get?_update_other _ _ hbT).trans a2⟩
    · obtain ⟨hk, L', o, es, n, hf', ho, hd'⟩ := hl en hen
      have : T ≠ L' := fun z => by rw [z, ho] at hT; cases hT; rw [hdT] at hd'; cases hd'
      exact ⟨hk, L', o, es, n, hf', (Heap.get?_update_other _ _ this).trans ho, hd'⟩
end
end Mine
namespace Mine
section
variable {M : Model} {A : Around} {E : Value → Shared → Prop} {s : Shared} {env : Env} {outer : List Env} {L e : Addr} {cls : Value} {vs : Array Value} {h0 : Heap} {Q : Unit → Shared → Prop}
theorem frs_cons (hf : env.frame = some L) : frs (env :: outer) = L :: frs outer := by unfold frs; rw [List.filterMap_cons, hf]
theorem FramesOk.tail {h : Heap} (x : FramesOk h (env :: outer)) : FramesOk h outer := fun e he => x e (.tail _ he)

theorem Ex.drop {h : Heap} {fl : Option Value} (hf : env.frame = some L) (X : Ex (frs (env :: outer)) h0 h e cls vs fl) : Ex (frs outer) (hideAll h0 [L]) h e cls vs fl := by
  obtain ⟨up, th, tr⟩ := X
  rw [frs_cons hf] at up
  refine ⟨fun b o q hX => ?_, th, tr.imp id fun ⟨T, ot, ts, v, h1, h2, h3, r⟩ => ⟨T, ot, ts, v, h1, h2, ?_, r⟩⟩
  · have q0 := of_hideAll _ q
    have hb : b ≠ L := fun z => by rw [z, hideAll_none [L] (.head _)] at q; cases q
    obtain ⟨a1, a2⟩ := up b o q0 hX
    exact ⟨fun hF => a1 (fun hm => (List.mem_cons.mp hm).elim hb hF), a2⟩
  · cases q : (hideAll h0 [L]).get? T with
    | none => rfl
    | some o => rw [of_hideAll _ q] at h3; cases h3

/-- an exception leaves a frame -/
theorem Ex.leave {fl : Option Value} (X : Ex (frs (env :: outer)) h0 s.heap e cls vs fl) (hfl : fl = none ∨ fl = some .none ∨ fl = some (rawInt L)) (hfr : A.frames = some (env :: outer)) (hl : FramesOk s.heap (env :: outer)) (hf : env.frame = some L)
    (h : ∀ h' vs', Ex (frs outer) (hideAll h0 [L]) h' e cls vs' (some .none) → (∀ i, i ≠ 1 → vs'[i]? = vs[i]?) → FramesOk h' outer → Q () { s with heap := h' }) : wpAny M A (leaving env (.ref e)) Q E s := by
  unfold leaving
  have first : fl = none ∨ fl = some .none → wpAny M A (do noteFrame (.ref e) env; setFlight (.ref e) none) Q E s := fun hfl => by
    refine wpAny_bind (X.note hfl hfr hl hf fun h1 T X1 hl1 => ?_)
    refine Ex.flight (s := { s with heap := h1 }) X1 hl1 fun h2 X2 hl2 => ?_
    rw [if_neg (by simp)] at X2
    exact h h2 _ (X2.drop hf) (fun i hi => by rw [Array.getElem?_setIfInBounds_ne (Ne.symm hi)]) hl2.tail
  rcases hfl with q | q | q
  · exact first (.inl q)
  · exact first (.inr q)
  · subst q
    refine wpAny_bind (X.noteAgain hf ?_)
    refine X.flight hl fun h2 X2 hl2 => ?_
    rw [if_neg (by simp)] at X2
    exact h h2 _ (X2.drop hf) (fun i _ => rfl) hl2.tail

/-- a raise that no handler saw: the object stands, without a traceback -/
theorem Ex.start {F : List Addr} {h : Heap} {o : Obj} (he : h.get? e = some o) (hc : o.cls = cls) (hd : o.data = .fields vs) (h1 : vs[1]? = some .none) : Ex F h h e cls vs none :=
  ⟨.refl _ _ _, ⟨o, he, hc, hd⟩, .inl ⟨rfl, h1⟩⟩
end

section
variable {prog : Program} {w : World} {A : Around} {E : Value → Shared → Prop} {s : Shared} {env : Env} {e t : Addr} {x : Str} {tk : Tok} {Q : Flow → Shared → Prop}
theorem sub24 {base : Value} {Q : Bool → Shared → Prop} {h : Heap} {g : Array GenState} {d : Drawn} {t : Nat} {os : OsState} (X : (Mine.hd.heap_39 w.params).In h)
    (hq : Q ((Value.ref 24 :: [.type "ValueError", .type "Exception", .type "BaseException", .type "object"]).contains base) ⟨h, g, d, t, os⟩) : wpAny (model prog w) A (isSubtype (.ref 24) base) Q E ⟨h, g, d, t, os⟩ := by
  obtain ⟨k0, k1, k2, k3, k5, hC⟩ := cls24 X
  exact wpAny_isSubtype_exc hC hq

/-- raise of an exception of the text's own class, no handler at work -/
theorem raise_toml {ev : Sem Value} (X : ∀ h', (∀ b o, b ≠ 36 → s.heap.get? b = some o → h'.get? b = some o) → (Mine.hd.heap_39 w.params).In h') (hh : A.handled = none)
    (h : wpAny (model prog w) A ev (fun v s₁ => ∃ e t x tk, v = .ref e ∧ Keep36 s.heap s₁.heap ∧ TomlAt s₁.heap e t x tk ∧ E (.ref e) s₁) E s) :
    wpAny (model prog w) A (raiseStmt env (some ev) none) Q E s := by
  obtain ⟨k0, k1, k2, k3, k5, _⟩ := cls24 (X s.heap fun _ _ _ q => q)
  refine wpAny_raiseStmt_made_sub (C := 24) (N := 23) (nm := Str.ofString "TOMLDecodeError") (q := Str.ofString "TOMLDecodeError") (bs := [.type "ValueError"]) (bm := [.type "ValueError", .type "Exception", .type "BaseException", .type "object"]) (hdct := true) (sn := []) (sub := []) (ab := false) (col := none) (dd := none) (k0 := some (.ref 15)) (k1 := none) (k2 := some (.str (Str.ofString "TOMLDecodeError") 189)) (k3 := some (.str (Str.ofString "TOMLDecodeError") 197)) (k5 := some (.bool true)) (newId := "ValueError.__new__") rfl hh (wpAny_mono h (fun v s₁ h₁ => ?_) fun _ _ q => q)
  obtain ⟨e, t, x, tk, rfl, kp, tm, hE⟩ := h₁
  exact ⟨e, t, rfl, X _ kp 24 _ rfl, tm.1, hE⟩
end
end Mine
namespace Mine
section
variable {prog : Program} {w : World} {A : Around} {E : Value → Shared → Prop} {s : Shared} {env : Env} {Q : Flow → Shared → Prop}
theorem entry_unchain : entryFor table "proto.unchain" = some Builtin.«proto.unchain» := entryFor_of_tree (by kernel_rfl)
theorem plain_unchain : plainId "proto.unchain" = true := by decide +kernel
set_option maxRecDepth 100000 in
set_option maxHeartbeats 1000000 in
theorem raise_toml_from {ev c : Sem Value} {e1 : Addr} (hh : A.handled = some (.ref e1)) (hc : ∀ (Q : Value → Shared → Prop) (s : Shared), Q .none s → wpAny (model prog w) A c Q E s)
    (h : wpAny (model prog w) A ev (fun v s₁ => ∃ e t x tk o1 vs1, v = .ref e ∧ (Mine.hd.heap_39 w.params).In s₁.heap ∧ TomlAt s₁.heap e t x tk ∧ s₁.heap.get? e1 = some o1 ∧ o1.data = .fields vs1 ∧ vs1[2]? = some .none ∧ e ≠ e1 ∧
      ∀ h', (∀ b o, b ≠ e → s₁.heap.get? b = some o → h'.get? b = some o) → h'.get? e = some { cls := .ref 24, data := .fields #[.ref t, .none, .ref e1, .none, .bool true, .none] } → E (.ref e) { s₁ with heap := h' }) E s) :
    wpAny (model prog w) A (raiseStmt env (some ev) (some c)) Q E s := by
  unfold raiseStmt
  refine wpAny_bind (wpAny_mono h (fun v s₁ h₁ => ?_) fun _ _ x => x)
  obtain ⟨e, t, x, tk, o1, vs1, rfl, X, tm, ho1, hd1, hv1, hne, hE⟩ := h₁
  obtain ⟨k0, k1, k2, k3, k5, hC⟩ := cls24 X
  obtain ⟨hp, g, d, tk, os⟩ := s₁
  have he := tm.1
  have hcB : (Value.ref 24 :: [.type "ValueError", .type "Exception", .type "BaseException", .type "object"]).contains (.type "BaseException") = true := rfl
  refine wpAny_bind (wpAny_holding (hc _ _ (wpAny_bind (wpAny_pure ?_))))
  repeat (first | with_reducible refine wpAny_loadPart_at he ?_ | with_reducible refine wpAny_loadPart_at hC ?_ | (with_reducible refine wpAny_isSubtype_exc hC ?_; rw [hcB]) | wp_step)
  have h24 : e ≠ 24 := fun q => by rw [q, hC] at he; cases he
  have e1 := Heap.get?_update_self (Obj.mapFields (·.setIfInBounds 3 Value.none)) he rfl
  have e2 := Heap.get?_update_self (Obj.mapFields (·.setIfInBounds 4 (Value.bool true))) e1 rfl
  have k2 : ∀ b o, b ≠ e → hp.get? b = some o → ((hp.update e (Obj.mapFields fun x => x.setIfInBounds 3 Value.none)).update e (Obj.mapFields fun x => x.setIfInBounds 4 (Value.bool true))).get? b = some o := fun b o hb q => by
    rw [Heap.get?_update_other _ _ (Ne.symm hb), Heap.get?_update_other _ _ (Ne.symm hb)]; exact q
  generalize (hp.update e (Obj.mapFields fun x => x.setIfInBounds 3 Value.none)).update e (Obj.mapFields fun x => x.setIfInBounds 4 (Value.bool true)) = hp2 at e2 k2 ⊢
  have e2' : hp2.get? e = some { cls := .ref 24, data := .fields #[.ref t, .none, .none, .none, .bool true, .none] } := e2
  clear e1 e2
  refine wpAny_loadPart_at (k2 24 _ (Ne.symm h24) hC) (wpAny_pure ?_)
  rw [if_pos (by simp)]
  refine wpAny_pure ?_
  unfold setFlight
  refine wpAny_bind (wpAny_bind (wpAny_field e2' rfl (x := .none) rfl ?_))
  rw [if_neg (by decide)]
  refine wpAny_pure ?_
  unfold raiseNew
  refine wpAny_bind (wpAny_handled ?_)
  rw [hh]
  dsimp only
  rw [if_pos (by simp [Ne.symm hne])]
  refine wpAny_bind (wpAny_holding (wpAny_runValue (codeAny_builtin entry_unchain ?_)))
  rw [Around.under_plainId plain_unchain _]
  unfold Builtin.«proto.unchain»
  dsimp only
  refine wpAny_bind (wpAny_field (k2 _ _ (Ne.symm hne) ho1) hd1 hv1 ?_)
  rw [if_pos (by decide)]
  refine wpAny_pure ?_
  refine wpAny_bind (wpAny_setField (i := 2) e2' rfl (by simp) ?_)
  refine wpAny_throw (hE _ (fun b o hb q => ?_) ?_)
  · rw [Heap.get?_update_other _ _ (Ne.symm hb)]; exact k2 b o hb q
  · exact Heap.get?_update_self _ e2' rfl
end
end Mine
set_option maxRecDepth 100000
namespace Mine
theorem slot_ve_str : Slot "ValueError" "__str__" "BaseException.__str__" :=
  .of (owner := "BaseException") (n := "__str__") (by rw [typeLookup_type, builtinLookup_eq_fast]; kernel_rfl) (by decide +kernel) (by decide +kernel) (by decide +kernel)
    (by first | exact .inl (by decide +kernel) | exact .inr (by decide +kernel)) (by rw [isSubtype_type]; kernel_rfl)
theorem kind_bstr : builtinKind "BaseException.__str__" = some .slot := by decide +kernel
theorem split_bstr : splitId "BaseException.__str__" = some ("BaseException", "__str__") := by decide +kernel
section
variable {prog : Program} {w : World} {A : Around} {E : Value → Shared → Prop} {h : Heap} {g : Array GenState} {d : Drawn} {tk : Nat} {os : OsState} {e t : Addr} {o : Obj} {vs : Array Value} {x : Str} {tx : Tok}
theorem isInst24 {base : String} {Q : Bool → Shared → Prop} (X : (Mine.hd.heap_39 w.params).In h) (he : h.get? e = some o) (hc : o.cls = .ref 24)
    (hq : Q ((Value.ref 24 :: [.type "ValueError", .type "Exception", .type "BaseException", .type "object"]).contains (.type base)) ⟨h, g, d, tk, os⟩) :
    wpAny (model prog w) A (isInstance (.ref e) (.type base)) Q E ⟨h, g, d, tk, os⟩ := by
  unfold isInstance
  refine wpAny_bind ?_
  refine wpAny_bind (wpAny_loadPart_at he (wpAny_pure ?_))
  rw [hc]
  exact sub24 X hq

theorem check_bstr {Q : Unit → Shared → Prop} (X : (Mine.hd.heap_39 w.params).In h) (he : h.get? e = some o) (hc : o.cls = .ref 24) (hq : Q () ⟨h, g, d, tk, os⟩) :
    wpAny (model prog w) A (checkBuiltinCall "BaseException.__str__" ⟨[.ref e], []⟩) Q E ⟨h, g, d, tk, os⟩ := by
  have ha := F.args_bexc_str (.ref e)
  unfold argsOk at ha
  simp only [checkBuiltinCall, kind_bstr, split_bstr]
  refine wpAny_bind (isInst24 X he hc ?_)
  rw [if_neg (by decide +kernel)]
  exact wpAny_of_eq ha hq

/-- an exception of the text's own class, with one text -/
def OwnAt (h : Heap) (e t : Addr) (x : Str) (tx : Tok) : Prop := (∃ o vs, h.get? e = some o ∧ o.cls = .ref 24 ∧ o.data = .fields vs ∧ vs[0]? = some (.ref t)) ∧ h.TupAt t [.str x tx]

theorem strOf_own {Q : Value → Shared → Prop} (X : (Mine.hd.heap_39 w.params).In h) (O : OwnAt h e t x tx) (hu : A.units < cLine) (hq : Q (.str x tx) ⟨h, g, d, tk, os⟩) :
    wpAny (model prog w) A (PySem.Builtin.Str.strOf (.ref e)) Q E ⟨h, g, d, tk, os⟩ := by
  obtain ⟨⟨o, vs, he, hc, hd, h0⟩, ht⟩ := O
  obtain ⟨k0, k1, k2, k3, k5, hC⟩ := cls24 X
  obtain ⟨mN, hN, _, hs⟩ := ns23 X
  have call24 : ∀ {Q : Value → Shared → Prop}, Q (.str x tx) ⟨h, g, d, tk, os⟩ → wpAny (model prog w) A (call (.builtin "BaseException.__str__") [.ref e]) Q E ⟨h, g, d, tk, os⟩ := fun {Q} hq => by
    refine wpAny_call (codeAny_call_builtin slot_ve_str.plain F.entry_bexc_str (check_bstr X he hc ?_))
    unfold Builtin.«BaseException.__str__»
    have ha : ∀ {Q : Value × List Value → Shared → Prop}, Q (.ref t, [.str x tx]) ⟨h, g, d, tk, os⟩ → wpAny (model prog w) A.in1 (PySem.Builtin.BaseException.bexcArgs (.ref e)) Q E ⟨h, g, d, tk, os⟩ := fun {Q} hq => by
      obtain ⟨ot, k, hto, _, htd⟩ := ht
      unfold PySem.Builtin.BaseException.bexcArgs
      refine wpAny_bind (wpAny_field he hd h0 (wpAny_bind (wpAny_seqItems hto htd ?_)))
      exact wpAny_pure hq
    repeat (first | with_reducible refine ha ?_ | wp_step)
    exact hq
  have special : ∀ {Q : Option Value → Shared → Prop}, Q (some (.str x tx)) ⟨h, g, d, tk, os⟩ → wpAny (model prog w) A (callSpecial? (.ref e) (Str.ofString "__str__") []) Q E ⟨h, g, d, tk, os⟩ := fun {Q} hq => by
    unfold callSpecial? specialOf
    refine wpAny_bind (wpAny_bind (wpAny_bind (wpAny_loadPart_at he (wpAny_pure ?_))))
    rw [hc]
    refine wpAny_typeLookup_exc hC hN F.excBase_ValueError.mroIs slot_ve_str.lookup ?_
    have hs' : mN (Str.ofString "__str__") = none := hs
    rw [hs']
    refine wpAny_holding (wpAny_bind (wpAny_of_eq (slot_ve_str.bind _) ?_))
    exact wpAny_bind (call24 (wpAny_pure hq))
  unfold PySem.Builtin.Str.strOf
  repeat (first | with_reducible refine wpAny_cRoomFor hu ?_ | with_reducible refine special ?_ | wp_step)
  exact hq

theorem str_own {Q : Value → Shared → Prop} (X : (Mine.hd.heap_39 w.params).In h) (O : OwnAt h e t x tx) (hu : A.units + 2 < cLine) (hq : Q (.str x tx) ⟨h, g, d, tk, os⟩) :
    wpAny (model prog w) A (call (.type "str") [.ref e]) Q E ⟨h, g, d, tk, os⟩ := by
  refine callType_here F.called_str (by decide) (F.typeCall_str_1 _) (F.newCall_str_1 _) (fun obj => F.args_object_init_2 obj _) F.entry_str_new ?_
  rw [str_new_tree (.ref e)]
  refine wpAny_bind (wpAny_pure ?_)
  refine wpAny_bind (wpAny_of_eq isSubtype_str_str ?_)
  exact wpAny_bind (strOf_own (A := A.in1.in1) X O hu (wpAny_pure ⟨_, rfl, typeIs_str _ _ _, hq⟩))
end
end Mine
section
open PySem.Builtin PySem.Builtin.Str
namespace Mine
section
variable {prog : Program} {w : World} {A : Around} {E : Value → Shared → Prop} {s : Shared} {x y : Str} {t u v : Tok} {i : Int} {Q : Value → Shared → Prop}
theorem raises_index3 (hk : occurrences x y (fromIndex x.length i) x.length 1 = []) : Meets («str.index» ⟨[.str x t, .str y u, .int i v], []⟩) (raisesNew "ValueError") := by
  have e : «str.index» ⟨[.str x t, .str y u, .int i v], []⟩ = (do rule "str.index.not-found"; raiseErrorWords "ValueError" "substring not found") := by
    show (match occurrences x y (fromIndex x.length i) (min x.length x.length) 1 with | i :: _ => retInt i | [] => _) = _
    rw [Nat.min_self, hk]
  rw [e]
  exact Meets.rule (Meets.raises rfl plainExc_ValueError)
theorem index3_none (hA : A.handled = none) (hk : occurrences x y (fromIndex x.length i) x.length 1 = [])
    (h : ∀ h' tk e, Heap.NewExc s.heap h' e "ValueError" → E (.ref e) { s with heap := h', toks := tk }) :
    wpAny (model prog w) A (call (.builtin "str.index") [.str x t, .str y u, .int i v]) Q E s :=
  call_meets F.slot_str_index (typeIs_str _ _ _) F.entry_str_index (F.args_str_index_3 _ _ _) (raises_index3 hk) ⟨hA, h⟩
end

/-- the first line feed from a place on -/
def firstNl (x : Str) (p : Nat) : Option Nat := (occurrences x ⟨#[10]⟩ p x.length 1).head?
section
variable {prog : Program} {w : World} {A : Around} {E : Value → Shared → Prop} {s : Shared} {x : Str} {t u v : Tok} {p : Nat} {Q : Value → Shared → Prop}
theorem index_nl (hA : A.handled = none) (h1 : ∀ k, firstNl x p = some k → Q (.int (k : Int) s.toks) { s with toks := s.toks + 1 })
    (h0 : firstNl x p = none → ∀ h' tk e, Heap.NewExc s.heap h' e "ValueError" → E (.ref e) { s with heap := h', toks := tk }) :
    wpAny (model prog w) A (call (.builtin "str.index") [.str x t, .str (Str.ofString "\n") u, .int p v]) Q E s := by
  rw [nl_is]
  unfold firstNl at h1 h0
  cases ho : occurrences x ⟨#[10]⟩ p x.length 1 with
  | nil =>
    rw [ho] at h0
    exact index3_none hA (by rw [fromIndex_nat]; exact ho) (h0 rfl)
  | cons k r =>
    rw [ho] at h1
    exact index3 (k := k) (r := r) (by rw [fromIndex_nat]; exact ho) (h1 k rfl)
end
theorem firstNl_spec (x : Str) (p : Nat) : (firstNl x p = none ∧ ∀ i, p ≤ i → x.cps.toList[i]? ≠ some 10) ∨
    ∃ k, firstNl x p = some k ∧ p ≤ k ∧ k < x.length ∧ x.cps.toList[k]? = some 10 ∧ ∀ i, p ≤ i → i < k → x.cps.toList[i]? ≠ some 10 := by
  unfold firstNl
  have key : ∀ i, StrLaws.At x ⟨#[10]⟩ x.length i ↔ x.cps.toList[i]? = some 10 := fun i => StrLaws.subAt_one x 10 i
  rcases StrLaws.occ_head_from x ⟨#[10]⟩ p 1 (Nat.le_refl _) with ⟨h0, hn⟩ | ⟨i, r, h0, hlo, hA, hn⟩
  · exact .inl ⟨by rw [h0]; rfl, fun i hi q => hn i hi ((key i).mpr q)⟩
  · refine .inr ⟨i, by rw [h0]; rfl, hlo, ?_, (key i).mp hA, fun j h1 h2 q => hn j h1 h2 ((key j).mpr q)⟩
    obtain ⟨h, _⟩ := List.getElem?_eq_some_iff.mp ((key i).mp hA)
    simpa [Str.length] using h
end Mine
end
namespace Mine
/-- the first barred sign of a part of the text -/
def badAt (x : Str) (P : Str → Bool) (i : Nat) : Bool := match x.cps[i]? with | some c => P ⟨#[c]⟩ | none => false
def firstBad (x : Str) (P : Str → Bool) (p q : Nat) : Option Nat := (List.range' p (q - p)).find? (badAt x P)
theorem slice_nat (x : Str) {a b : Nat} (hab : a ≤ b) (hb : b ≤ x.length) : (Txt.slice x (some (a : Int)) (some (b : Int))).cps.toList = (x.cps.toList.drop a).take (b - a) := by
  have e := StrLaws.sliceText_nat x hab hb
  unfold StrLaws.sliceText at e
  unfold Txt.slice
  rw [e]
theorem firstBad_some {x : Str} {P : Str → Bool} {p q i : Nat} (h : firstBad x P p q = some i) : p ≤ i ∧ i < q ∧ badAt x P i = true ∧ ∀ j, p ≤ j → j < i → badAt x P j = false := by
  unfold firstBad at h
  obtain ⟨hb, as, bs, e, hn⟩ := List.find?_eq_some_iff_append.mp h
  have hmem : i ∈ List.range' p (q - p) := by rw [e]; simp
  have hr := List.mem_range'_1.mp hmem
  refine ⟨hr.1, by lia, hb, fun j hj1 hj2 => ?_⟩
  have hjm : j ∈ as := (StrLaws.range'_split_from e).2 j hj1 hj2
  simpa using hn j hjm
theorem badAt_some {x : Str} {P : Str → Bool} {i : Nat} (h : badAt x P i = true) : ∃ c, x.cps[i]? = some c ∧ P ⟨#[c]⟩ = true := by
  unfold badAt at h
  split at h
  · rename_i c hc; exact ⟨c, hc, h⟩
  · cases h
theorem any_bad (x : Str) (P : Str → Bool) : ∀ (n p : Nat), p + n ≤ x.length → (((x.cps.toList.drop p).take n).any fun c => P ⟨#[c]⟩) = ((List.range' p n).find? (badAt x P)).isSome
  | 0, p, _ => by simp
  | n + 1, p, h => by
    have hlt : p < x.cps.toList.length := by simp only [Array.length_toList]; unfold Str.length at h; lia
    rw [List.drop_eq_getElem_cons hlt, List.take_succ_cons, List.any_cons, List.range'_succ, List.find?_cons]
    have hc : x.cps[p]? = some x.cps.toList[p] := by rw [← Array.getElem?_toList]; exact List.getElem?_eq_getElem hlt
    have e : badAt x P p = P ⟨#[x.cps.toList[p]]⟩ := by unfold badAt; rw [hc]
    rw [e]
    cases hP : P ⟨#[x.cps.toList[p]]⟩ with
    | true => simp
    | false => rw [Bool.false_or, any_bad x P n (p + 1) (by lia)]
theorem slice_bad (x : Str) (P : Str → Bool) {p q : Nat} (hpq : p ≤ q) (hq : q ≤ x.length) : ((Txt.slice x (some (p : Int)) (some (q : Int))).cps.toList.any fun c => P ⟨#[c]⟩) = (firstBad x P p q).isSome := by
  rw [slice_nat x hpq hq]
  exact any_bad x P (q - p) p (by lia)
end Mine
namespace Mine
theorem item_is {x : Str} {q c : Nat} (hc : x.cps[q]? = some c) : Txt.item x (q : Int) = ⟨#[c]⟩ := by
  have hlt : q < x.cps.size := (Array.getElem?_eq_some_iff.mp hc).1
  unfold Txt.item Txt.charAt
  rw [StrLaws.at_nonneg (by lia) (by rw [Int.toNat_natCast]; exact hc)]
  rfl
section
variable {prog : Program} {w : World} {A : Around} {E : Value → Shared → Prop} {s : Shared} {x : Str} {t u : Tok} {q c : Nat} {value slice : PySem.Expr} {Q : Value → Shared → Prop}
theorem item_nat (hc : x.cps[q]? = some c) (hq : q < 1000) (h : Q (.str ⟨#[c]⟩ s.toks) { s with toks := s.toks + 1 })
    (hs : ∀ x t i u, subscripted slice false (.str x t) (.int i u) = operate [.str x t, .int i u] (getItem (.str x t) (.int i u)))
    (ht : ∀ x t r, letTemporaryGo value (.str x t) r = pure ()) :
    wpAny (model prog w) A (subscriptTail value slice (.str x t) (.int (q : Int) u)) Q E s := by
  have hlt : q < x.cps.size := (Array.getElem?_eq_some_iff.mp hc).1
  refine item_str (fitsSsize_of (N := 9223372036854775808) (by lia) (by lia) (Int.le_refl _)) (by lia) (by unfold Str.length; lia) (fun _ => ?_) (hs _ _ _ _) (ht _ _)
  rw [item_is hc]; exact h
end
theorem Fr.congr {h₀ h : Heap} {L : Addr} {m m' : Str → Option Value} (F : Fr h₀ L h m) (e : ∀ y, m y = m' y) : Fr h₀ L h m' := by rw [← funext e]; exact F
theorem if_twice {y a : Str} {u v : Option Value} {r : Option Value} : (if y = a then u else if y = a then v else r) = if y = a then u else r := by split <;> simp_all
end Mine
namespace Mine
/-- a loop goes on -/
def LoopGo (I : Nat → Shared → Prop) (n : Nat) (s : Shared) : Prop := ∃ m, m < n ∧ I m s
theorem whileBy {prog : Program} {w : World} {A : Around} {R : Result → Shared → Prop} {s : Shared} {test : PySem.Expr} {body orelse : List Stmt} {env : Env} (I : Nat → Shared → Prop)
    (turn : ∀ R' : Result → Shared → Prop, (∀ r s, R r s → R' r s) → ∀ n s, I n s →
      wpAny (model prog w) A (isTrue test env (eval test env)) (fun b s₂ =>
        if b then wpAny (model prog w) A (execs body env) (fun f s₃ => match f with
            | .next | .cont => LoopGo I n s₃
            | .brk => R' (.ok .next) s₃
            | .ret v => R' (.ok (.ret v)) s₃) (notedBy (model prog w) A env fun e s' => R' (.error e) s') s₂
        else wpAny (model prog w) A (execs orelse env) (fun f s₃ => R' (.ok f) s₃) (notedBy (model prog w) A env fun e s' => R' (.error e) s') s₂)
        (notedBy (model prog w) A env fun e s' => R' (.error e) s') s)
    (n : Nat) (h : I n s) : codeAny (model prog w) A (.whileLoop test body orelse env) R s := codeAny_whileLoop I (turn R fun _ _ q => q) n h
end Mine
namespace Mine
/-- the callers' frames as a part of the ledger; all but their slots is as it was at the call -/
structure FrUp (h : Heap) (outer : List Env) (fr : List (Addr × Obj)) : Prop where
  ok : FramesOk h outer
  up : ∀ b ∈ frs outer, ∀ o, h.get? b = some o → ∃ sl, (b, ({ o with slots := sl } : Obj)) ∈ fr
  only : ∀ q ∈ fr, q.1 ∈ frs outer
def frOf (h : Heap) (outer : List Env) : List (Addr × Obj) := (frs outer).filterMap fun b => (h.get? b).map fun o => (b, o)
theorem frOf_mem {h : Heap} {outer : List Env} {q : Addr × Obj} (m : q ∈ frOf h outer) : h.get? q.1 = some q.2 ∧ q.1 ∈ frs outer := by
  unfold frOf at m
  obtain ⟨b, hb, e⟩ := List.mem_filterMap.mp m
  obtain ⟨o, ho, rfl⟩ := Option.map_eq_some_iff.mp e
  exact ⟨ho, hb⟩
theorem FrUp.of {h : Heap} {outer : List Env} (ok : FramesOk h outer) : FrUp h outer (frOf h outer) :=
  ⟨ok, fun b hb o e => ⟨o.slots, List.mem_filterMap.mpr ⟨b, hb, by rw [e]; rfl⟩⟩, fun _ m => (frOf_mem m).2⟩
theorem FrUp.frames {h h₀ h' : Heap} {outer : List Env} {fr news : List (Addr × Obj)} {L : Addr} (U : FrUp h outer fr) (N : News h₀ L h' news) (hs : ∀ q ∈ fr, q ∈ news) : FramesOk h' outer := fun env he => by
  obtain ⟨hk, L', o, es, n, hf, ho, hd⟩ := U.ok env he
  obtain ⟨sl, m⟩ := U.up L' (List.mem_filterMap.mpr ⟨env, he, hf⟩) o ho
  exact ⟨hk, L', _, es, n, hf, (N _ (hs _ m)).1, hd⟩
theorem framesOk_cons {h : Heap} {env : Env} {outer : List Env} {L : Addr} {m : Str → Option Value} (hk : env.scope.kind = .function) (hf : env.frame = some L) (hn : h.Ns L m) (x : FramesOk h outer) : FramesOk h (env :: outer) := fun e he => by
  rcases List.mem_cons.mp he with rfl | he
  · obtain ⟨o, es, ep, ho, hd, _⟩ := hn
    exact ⟨by rw [hk]; decide, L, o, es, ep, hf, ho, hd⟩
  · exact x e he

/-- what stays of frame and ledger when an exception has passed -/
theorem Ex.back {h h₀ h1 h2 : Heap} {env : Env} {outer : List Env} {L e : Addr} {m : Str → Option Value} {cls : Value} {vs : Array Value} {fl : Option Value} {led fr : List (Addr × Obj)}
    (X : Ex (frs (env :: outer)) h1 h2 e cls vs fl) (hf : env.frame = some L) (F : Fr h₀ L h1 m) (N : News h₀ L h1 (led ++ fr)) (U : FrUp h outer fr) (hL : L ∉ frs outer) (hid : ∀ b ∈ frs outer, h₀.get? b = none)
    (he0 : h₀.get? e = none) (heL : e ≠ L) (hed : ∀ q ∈ led, q.1 ≠ e ∧ q.1 ∉ frs outer) (hef : e ∉ frs outer) :
    Fr h₀ L h2 m ∧ ∃ fr', News h₀ L h2 (led ++ fr') ∧ FrUp h outer fr' := by
  have hLm : L ∈ frs (env :: outer) := by rw [frs_cons hf]; exact .head _
  have memc : ∀ b, b ≠ L → b ∉ frs outer → b ∉ frs (env :: outer) := fun b h1 h2 hm => by rw [frs_cons hf] at hm; exact (List.mem_cons.mp hm).elim h1 h2
  have keep : ∀ b o, h1.get? b = some o → b ≠ e → b ≠ L → b ∉ frs outer → h2.get? b = some o := fun b o q a1 a2 a3 => (X.up b o q (by simpa using a1)).1 (memc b a2 a3)
  have slots : ∀ b o, h1.get? b = some o → b ≠ e → ∃ sl, h2.get? b = some { o with slots := sl } := fun b o q a1 => (X.up b o q (by simpa using a1)).2
  refine ⟨⟨?_, fun b o q => ?_, F.above⟩, (frs outer).filterMap fun b => (h2.get? b).map fun o => (b, o), fun q hq => ?_, U.ok, fun b hb o q => ?_, fun q hq => ?_⟩
  · obtain ⟨o, es, ep, ho, hd, r⟩ := F.ns
    obtain ⟨sl, e2⟩ := slots L o ho (Ne.symm heL)
    exact ⟨_, es, ep, e2, hd, r⟩
  · refine keep b o (F.keep b o q) (fun z => by rw [z, he0] at q; cases q) (fun z => ?_) (fun z => by rw [hid b z] at q; cases q)
    have := Heap.lt_size q
    rw [z] at this
    exact absurd (Nat.lt_of_lt_of_le this F.above) (Nat.lt_irrefl _)
  · rcases List.mem_append.mp hq with hq | hq
    · obtain ⟨n1, n2, n3⟩ := N q (List.mem_append_left _ hq)
      exact ⟨keep q.1 q.2 n1 (hed q hq).1 n2 (hed q hq).2, n2, n3⟩
    · obtain ⟨b, hb, eq⟩ := List.mem_filterMap.mp hq
      obtain ⟨o, ho, rfl⟩ := Option.map_eq_some_iff.mp eq
      exact ⟨ho, fun z => hL (z ▸ hb), hid b hb⟩
  · obtain ⟨sl, hm⟩ := U.up b hb o q
    obtain ⟨n1, _⟩ := N _ (List.mem_append_right _ hm)
    obtain ⟨sl2, e2⟩ := slots b _ n1 (fun z => hef (z ▸ hb))
    exact ⟨sl2, List.mem_filterMap.mpr ⟨b, hb, by rw [e2]; rfl⟩⟩
  · obtain ⟨b, hb, eq⟩ := List.mem_filterMap.mp hq
    obtain ⟨o, ho, rfl⟩ := Option.map_eq_some_iff.mp eq
    exact hb
/-- frame and ledger behind a call that keeps all but the table -/
theorem Fr.k36 {h₀ h h' : Heap} {L : Addr} {m : Str → Option Value} (F : Fr h₀ L h m) (k : Keep36 h h') (n36 : h₀.get? 36 = none) (hL : L ≠ 36) : Fr h₀ L h' m := by
  refine ⟨?_, fun b o e => k b o (fun q => by rw [q, n36] at e; cases e) (F.keep b o e), F.above⟩
  obtain ⟨o, es, ep, ho, hd, r⟩ := F.ns
  exact ⟨o, es, ep, k L o hL ho, hd, r⟩
theorem News.k36 {h₀ h h' : Heap} {L : Addr} {news : List (Addr × Obj)} (N : News h₀ L h news) (k : Keep36 h h') (hn : ∀ q ∈ news, q.1 ≠ 36) : News h₀ L h' news :=
  fun q hq => ⟨k _ _ (hn q hq) (N q hq).1, (N q hq).2⟩
end Mine
namespace Mine
section
variable {M : Model} {A A' : Around} {E : Value → Shared → Prop} {s : Shared} {env : Env} {outer : List Env} {L e : Addr} {cls : Value} {vs : Array Value} {h0 : Heap}
theorem Ex.one {F : List Addr} {h : Heap} {v : Value} (X : Ex F h0 h e cls vs (some v)) : ∃ T, vs[1]? = some (.ref T) := by
  rcases X.tr with ⟨q, _⟩ | ⟨T, _, _, _, _, h1, _⟩
  · cases q
  · exact ⟨T, h1⟩
/-- a raise within a handler's suite leaves the def -/
theorem Ex.out (hfr : A.frames = some (env :: outer)) (hfr' : A'.frames = some (env :: outer)) (X : Ex (frs (env :: outer)) h0 s.heap e cls vs none) (hl : FramesOk s.heap (env :: outer)) (hf : env.frame = some L)
    (h : ∀ h' vs', Ex (frs outer) (hideAll h0 [L]) h' e cls vs' (some .none) → (∀ i, i ≠ 1 → vs'[i]? = vs[i]?) → FramesOk h' outer → E (.ref e) { s with heap := h' }) :
    notedBy M A' env (cameBackBy M A env fun e s' => wpAny M A (leaving env e) (fun _ s'' => E e s'') (fun e' s'' => E e' s'') s') (.ref e) s := by
  unfold notedBy
  refine X.note (.inl rfl) hfr' hl hf fun h1 T X1 hl1 => ?_
  unfold cameBackBy
  obtain ⟨T1, e1⟩ := X1.one
  obtain ⟨o1, ho1, _, hd1⟩ := X1.there
  refine wpAny_bind (wpAny_field (s := { s with heap := h1 }) ho1 hd1 e1 ?_)
  rw [if_neg (show ¬ ((Value.ref T1 == Value.none) = true) from by simp), hf]
  refine Ex.flight (s := { s with heap := h1 }) X1 hl1 fun h2 X2 hl2 => ?_
  rw [if_neg (by simp)] at X2
  refine Ex.leave (s := { s with heap := h2 }) X2 (.inr (.inr rfl)) hfr hl2 hf fun h3 vs3 X3 hv3 hl3 => ?_
  exact h h3 vs3 X3 (fun i hi => (hv3 i hi).trans (Array.getElem?_setIfInBounds_ne (Ne.symm hi))) hl3
end
end Mine
namespace Mine
/-- an exception of the text's own class, with the text y, has left a call that began at the heap h -/
inductive RaisedOut (gb h : Heap) (outer : List Env) (e : Addr) (y : Str) (h' : Heap) : Prop
  | mk : ∀ h0 vs t ty ca' oc' ps', (Ex (frs outer) h0 h' e (.ref 24) vs (some .none)) → (vs[0]? = some (.ref t)) → (h0.get? t = some { cls := .type "tuple", data := .seq #[.str y ty] }) → (t ∉ frs outer) → (t ≠ e) → (h.get? e = none) → (h.get? t = none) → (UpTo (frs outer) [36] h h0) → (h0.get? ca' = some oc') → (h0.get? 36 = some (tabObj ps')) → (TabOk gb ca' oc' ps') → (e ≠ ca') → (e ≠ 36) → (ca' ∉ frs outer) → (FramesOk h' outer) → RaisedOut gb h outer e y h'
theorem TabOk.notDict {gb : Heap} {ca : Addr} {oc : Obj} {ps : Array Value} (tb : TabOk gb ca oc ps) {es : Array DictEntry} {n : Nat} : oc.data ≠ .dict es n := fun q => by
  rcases tb.2 with ⟨_, _, z⟩ | ⟨_, _, vs, t, z, _⟩
  · rw [z] at q; cases q
  · rw [z] at q; cases q

theorem upto_of {h h₀ hc : Heap} {outer : List Env} {L ca : Addr} {oc : Obj} {m : Str → Option Value} {news fr : List (Addr × Obj)} (hid : Hid (36 :: ca :: frs outer) h h₀) (F : Fr h₀ L hc m) (N : News h₀ L hc news)
    (hca : h.get? ca = some oc) (hm : (ca, oc) ∈ news) (hs : ∀ q ∈ fr, q ∈ news) (U : FrUp h outer fr) (hcaf : ca ∉ frs outer) : UpTo (frs outer) [36] h hc := fun b o e hX => by
  by_cases hF : b ∈ frs outer
  · obtain ⟨sl, hm⟩ := U.up b hF o e
    exact ⟨fun q => absurd hF q, sl, (N _ (hs _ hm)).1⟩
  · have hb : hc.get? b = some o := by
      by_cases q : b = ca
      · rw [q, hca] at e; cases e; rw [q]; exact (N _ hm).1
      · refine F.keep b o (hid.sup b o e fun z => ?_)
        rcases List.mem_cons.mp z with z | z
        · exact hX (by rw [z]; exact .head _)
        rcases List.mem_cons.mp z with z | z
        · exact q z
        · exact hF z
    exact ⟨fun _ => hb, o.slots, hb⟩
theorem Keep36.upto {h h' : Heap} {F : List Addr} (k : Keep36 h h') : UpTo F [36] h h' := fun b o e hX =>
  have := k b o (by simpa using hX) e; ⟨fun _ => this, o.slots, this⟩

theorem raisedOut_mk {gb h hc h6 h7 h' : Heap} {outer : List Env} {e t ca' L : Addr} {y : Str} {ty : Tok} {oc' : Obj} {ps' vs' : Array Value} (hok : FramesOk h outer) (h36f : 36 ∉ frs outer) (u : UpTo (frs outer) [36] h hc) (k6 : Keep36 hc h6)
    (k7 : ∀ b o, b ≠ e → h6.get? b = some o → h7.get? b = some o) (enew : hc.get? e = none) (tnew : hc.get? t = none) (tm : h6.get? t = some { cls := .type "tuple", data := .seq #[.str y ty] }) (te : t ≠ e)
    (c6 : h6.get? ca' = some oc') (p6 : h6.get? 36 = some (tabObj ps')) (tb : TabOk gb ca' oc' ps') (ec : e ≠ ca') (e36 : e ≠ 36) (t36 : t ≠ 36) (hLh : L = h.objs.size) (h36 : ∃ o, h.get? 36 = some o) (hLd : ∃ o es n, hc.get? L = some o ∧ o.data = .dict es n)
    (X : Ex (frs outer) (hideAll h7 [L]) h' e (.ref 24) vs' (some .none)) (v0 : vs'[0]? = some (.ref t)) (ok' : FramesOk h' outer) : RaisedOut gb h outer e y h' := by
  obtain ⟨oL, esL, nL, hL, hLd⟩ := hLd
  have newh : ∀ b, b ≠ 36 → hc.get? b = none → h.get? b = none := fun b hb q => by
    cases z : h.get? b with
    | none => rfl
    | some o => obtain ⟨_, sl, z2⟩ := u b o z (by simpa using hb); rw [q] at z2; cases z2
  have L36 : L ≠ 36 := fun q => by obtain ⟨o, ho⟩ := h36; have := Heap.lt_size ho; rw [← q, hLh] at this; exact absurd this (Nat.lt_irrefl _)
  have at7 : ∀ b o, b ≠ e → b ≠ L → h6.get? b = some o → (hideAll h7 [L]).get? b = some o := fun b o h1 h2 q => hideAll_get _ (k7 b o h1 q) (by simpa using h2)
  have tL : t ≠ L := fun q => by rw [q, hL] at tnew; cases tnew
  have cL : ca' ≠ L := fun q => by rw [q, k6 L oL L36 hL] at c6; cases c6; exact tb.notDict hLd
  have frh6 : ∀ b ∈ frs outer, ∃ o es n, h6.get? b = some o ∧ o.data = .dict es n := fun b hb => by
    obtain ⟨o, es, n, ho, hd⟩ := hok.mem b hb
    obtain ⟨_, sl, z⟩ := u b o ho (fun q => h36f (List.mem_singleton.mp q ▸ hb))
    exact ⟨_, es, n, k6 b _ (fun q => h36f (q ▸ hb)) z, hd⟩
  refine ⟨_, vs', t, ty, ca', oc', ps', X, v0, at7 t _ te tL tm, fun q => ?_, te, newh e e36 enew, newh t t36 tnew, fun b o q hX => ?_, at7 ca' _ (Ne.symm ec) cL c6, at7 36 _ (Ne.symm e36) (Ne.symm L36) p6, tb, ec, e36, fun q => ?_, ok'⟩
  · obtain ⟨o, es, n, ho, hd⟩ := hok.mem t q
    rw [newh t t36 tnew] at ho; cases ho
  · have hb36 : b ≠ 36 := by simpa using hX
    have hbe : b ≠ e := fun z => by rw [z, newh e e36 enew] at q; cases q
    have hbL : b ≠ L := fun z => by have := Heap.lt_size q; rw [z, hLh] at this; exact absurd this (Nat.lt_irrefl _)
    obtain ⟨a1, sl, a2⟩ := u b o q hX
    exact ⟨fun hF => at7 b o hbe hbL (k6 b o hb36 (a1 hF)), sl, at7 b _ hbe hbL (k6 b _ hb36 a2)⟩
  · obtain ⟨o, es, n, ho, hd⟩ := frh6 ca' q
    rw [c6] at ho; cases ho; exact tb.notDict hd
end Mine
namespace Mine
local macro_rules | `(tactic| omega) => `(tactic| lia)
abbrev skBinds (x : Str) (t1 : Tok) (p : Nat) (t2 t3 : Tok) (fs : Addr) (eof : Bool) : List (Str × Value) :=
  [(Str.ofString "src", .str x t1), (Str.ofString "pos", .int (p : Int) t2), (Str.ofString "expect", .str (Str.ofString "\n") t3), (Str.ofString "error_on", .ref fs), (Str.ofString "error_on_eof", .bool eof)]
theorem sub_ve_base : isSubtype (.type "ValueError") (.type "BaseException") = pure true := by rw [isSubtype_type]; kernel_rfl
theorem sub_ve_ve : isSubtype (.type "ValueError") (.type "ValueError") = pure true := by rw [isSubtype_type]; kernel_rfl
theorem ve_notTuple : isSubtype (.type ((Manifest.find? "ValueError").elim "type" fun x => x.metatype)) (.type "tuple") = pure false := by
  have e : ((Manifest.find? "ValueError").elim "type" fun x => x.metatype) = "type" := by decide +kernel
  rw [e]; exact tc_notTuple
theorem repr_nl : reprText (Str.ofString "\n") = Str.ofString "'\\n'" := by decide +kernel
theorem FrozAt.keeps {prog : Program} {w : World} {h h' : Heap} {a : Addr} {S : Str → Bool} {n : Nat} (x : FrozAt (strKind prog w) h a S n) (k : ∀ b o, h.get? b = some o → h'.get? b = some o) : FrozAt (strKind prog w) h' a S n :=
  let ⟨es, ep, t, ho, r⟩ := x; ⟨es, ep, t, k _ _ ho, r⟩
theorem type_disj : typeOf (.builtin "frozenset.isdisjoint") = pure (.type "method_descriptor") := by show builtinType _ = _; rw [builtinType_eq_fast]; kernel_rfl
theorem plainAttrs_froz : PlainAttrs "frozenset" :=
  ⟨⟨"object.__getattribute__", by rw [typeLookup_type, builtinLookup_eq_fast]; kernel_rfl, by decide +kernel⟩, by rw [typeLookup_type, builtinLookup_eq_fast]; kernel_rfl⟩
theorem getMethod_disj {prog : Program} {w : World} {A : Around} {E : Value → Shared → Prop} {s : Shared} {a : Addr} {S : Str → Bool} {n : Nat} {pl : Sem Bool} {Q : Value × List Value → Shared → Prop} (x : FrozAt (strKind prog w) s.heap a S n)
    (h : Q (.builtin "frozenset.isdisjoint", [.ref a]) s) : wpAny (model prog w) A (getMethod (.ref a) (Str.ofString "isdisjoint") pl) Q E s := by
  obtain ⟨es, ep, t, ho, r⟩ := x
  exact getMethod_builtin (T := "frozenset") ⟨_, ho, rfl⟩ plainAttrs_froz slot_disj type_disj (fun b q => by cases q; exact ⟨_, ho, rfl⟩) h
inductive SkInv (h₀ : Heap) (L : Addr) (gs : Array GenState) (dr : Drawn) (os : OsState) (p i : Nat) (news : List (Addr × Obj)) (m : Str → Option Value) (n : Nat) (s' : Shared) : Prop
  | mk : ∀ q h' tk tq, (s' = ⟨h', gs, dr, tk, os⟩) → (p ≤ q) → (q + n = i) → (Fr h₀ L h' (fun y => if y = Str.ofString "pos" then some (.int (q : Int) tq) else m y)) → (News h₀ L h' news) → SkInv h₀ L gs dr os p i news m n s'
inductive SkMid (h₀ : Heap) (L : Addr) (gs : Array GenState) (dr : Drawn) (os : OsState) (h : Heap) (outer : List Env) (led : List (Addr × Obj)) (x : Str) (p : Nat) (eof : Bool) (m : Str → Option Value) (fl : Flow) (s' : Shared) : Prop
  | mk : (fl = .next) → ∀ h' tk' fr' tkn, (s' = ⟨h', gs, dr, tk', os⟩) → ((firstNl x p = none → eof = false)) → (Fr h₀ L h' (fun y => if y = Str.ofString "new_pos" then some (.int (((firstNl x p).getD x.length : Nat) : Int) tkn) else m y)) → (News h₀ L h' (led ++ fr')) → (FrUp h outer fr') → SkMid h₀ L gs dr os h outer led x p eof m fl s'
set_option maxRecDepth 100000 in
set_option maxHeartbeats 4000000 in
theorem skip {w : World} {mg mb : Str → Option Value} {loose : List Str} {mean : ExcName → Option Value} {gb : Heap} (G : Gd w mg mb loose mean gb)
    {A : Around} {h : Heap} {gs : Array GenState} {dr : Drawn} {tk : Nat} {os : OsState} {Q E : Value → Shared → Prop} {ca fs : Addr} {oc : Obj} {ps : Array Value} {x : Str} {p n : Nat} {P : Str → Bool} {eof : Bool} {t1 t2 t3 : Tok} {outer : List Env}
    (hd : A.depth ≤ 400) (hu : A.units ≤ 1000) (hh : A.handled = none) (hfr : A.frames = some outer) (hok : FramesOk h outer) (hfb : ∀ b ∈ frs outer, gb.get? b = none ∧ b ≠ 36 ∧ b ≠ ca)
    (st : gb.StaysIn h) (hca : h.get? ca = some oc) (hP : h.get? 36 = some (tabObj ps)) (tb : TabOk gb ca oc ps) (FS : FrozAt (strKind PySem.Challenge.rw_ny0036_01.row.prog w) h fs P n) (hn : n < 1000)
    (hlen : x.length < 900) (hpl : p < x.length) (hbd : ∀ c ∈ x.cps.toList, c < 16 ^ 8)
    (hE1 : firstNl x p = none → eof = true → ∀ h' tk' e, RaisedOut gb h outer e (sfxS x x.length (Str.empty ++ Str.ofString "Expected " ++ Str.ofString "'\\n'")) h' → E (.ref e) ⟨h', gs, dr, tk', os⟩)
    (hE2 : (firstNl x p = none → eof = false) → ∀ i c, firstBad x P p ((firstNl x p).getD x.length) = some i → x.cps[i]? = some c → ∀ h' tk' e, RaisedOut gb h outer e (sfxS x i (Str.empty ++ Str.ofString "Found invalid character " ++ reprText ⟨#[c]⟩)) h' → E (.ref e) ⟨h', gs, dr, tk', os⟩)
    (hQ : (firstNl x p = none → eof = false) → firstBad x P p ((firstNl x p).getD x.length) = none → ∀ h' tk' t', UpTo (frs outer) [36] h h' → h'.get? ca = some oc → h'.get? 36 = some (tabObj ps) → Q (.int (((firstNl x p).getD x.length : Nat) : Int) t') ⟨h', gs, dr, tk', os⟩) :
    wpAny (model PySem.Challenge.rw_ny0036_01.row.prog w) A (call (.ref 34) [.str x t1, .int (p : Int) t2, .str (Str.ofString "\n") t3] [(Str.ofString "error_on", .ref fs), (Str.ofString "error_on_eof", .bool eof)]) Q E ⟨h, gs, dr, tk, os⟩ := by
  w_top off
  k_with_none
  k_with "pyReprObj str" => (refine pyReprObj_str (hx := ?hx) ?_; (case hx => first | (rw [repr_nl, sizeLine_eq]; decide) | (rw [sizeLine_eq]; lia)); (try rw [repr_nl]))
  k_with "getMethod ref" => (k_dflt (refine' getMethod_disj ?fs ?_; (case fs => exact FrozAt.keeps (by assumption) (Fr.keep (by assumption)))))
  k_with "exec While Compare cons nil" => (k_dflt (refine' wpAny_While ?_))
  k_with "subscriptTail Name Name str int" => (k_dflt (refine' item_nat ?hc ?hq ?_ ?hs ?ht; (case hc => assumption); (case hq => lia); (case hs => intros; with_unfolding_all rfl); (case ht => intros; with_unfolding_all rfl)))
  k_with "compareOp NotIn" => (k_dflt (refine' notin_froz (knd := strKind _ _) ?F ?fs ?hk ?hsc ?hb ?_; (case F => k_asm); (case fs => assumption); (case hk => exact strKind_is _ _ _ _); (case hsc => rfl); (case hb => lia)))
  k_with "exec Raise some none" => (rw [arm_exec_Raise]; refine' wpAny_bind (wpAny_standAt ?_))
  k_with "le" => (simp only [Str.length_append, Str.empty_append, sizeLine_eq] at *; lia)
  refine wpAny_ax hd hu ?_
  rw [hh, hfr]
  have hH : ∀ a ∈ 36 :: ca :: frs outer, gb.get? a = none := fun a ha => by
    rcases List.mem_cons.mp ha with rfl | ha
    · exact G.n36
    rcases List.mem_cons.mp ha with rfl | ha
    · exact tb.1
    · exact (hfb a ha).1
  have X := (G.keeps st).1
  have T := (G.keeps st).2.1
  revert X; k_fill; intro X
  refine' callK (binds := skBinds x t1 p t2 t3 fs eof) (36 :: ca :: frs outer) X ?k6 ?k7 T.nolimit ?k8 ?k9 ?kB ?_ ?c5 ?c2 ?c3 ?c4
  case k6 => k_is
  case k7 => k_is
  case k8 => k_room
  case k9 => exact BindsTo.of_eq rfl
  case kB => exact locs rfl
  case c5 => decide
  case c2 => exact rfl
  case c3 => exact rfl
  case c4 => exact rfl
  intro h₀ L h₁ tk₁ hid eL F k₁
  have st₀ := hid.stays st hH
  obtain ⟨X₀, T₀, C₀⟩ := G.keeps st₀
  have U := FrUp.of hok
  have N := hid.news (news := (ca, oc) :: (36, tabObj ps) :: frOf h outer) k₁ eL (fun q hq => by
    rcases List.mem_cons.mp hq with rfl | hq
    · exact ⟨hca, .tail _ (.head _)⟩
    rcases List.mem_cons.mp hq with rfl | hq
    · exact ⟨hP, .head _⟩
    · exact ⟨(frOf_mem hq).1, .tail _ (.tail _ (frOf_mem hq).2)⟩)
  clear X T
  have hFS : FrozAt (strKind PySem.Challenge.rw_ny0036_01.row.prog w) h₀ fs P n := by
    obtain ⟨es, ep, tt, ho, r⟩ := FS
    refine ⟨es, ep, tt, hid.sup _ _ ho fun hm => ?_, r⟩
    rcases List.mem_cons.mp hm with q | hm
    · rw [q, hP] at ho; cases ho
    rcases List.mem_cons.mp hm with q | hm
    · rcases tb.2 with ⟨_, _, q2⟩ | ⟨_, _, vs, tq, q2, _⟩
      · rw [q, hca, q2] at ho; cases ho
      · rw [q, hca] at ho; cases ho; cases q2
    · obtain ⟨o, es', n', ho', hd'⟩ := hok.mem fs hm
      rw [ho] at ho'; cases ho'; cases hd'
  have hLo : L ∉ frs outer := fun hm => by
    obtain ⟨o, _, _, ho, _⟩ := hok.mem L hm
    rw [eL] at ho
    exact absurd (Heap.lt_size ho) (Nat.lt_irrefl _)
  have hid' : ∀ b ∈ frs outer, h₀.get? b = none := fun b hb => hid.hid b (.tail _ (.tail _ hb))
  refine wpAny_execs_cons (wpAny_mono (Q := SkMid h₀ L gs dr os h outer [(ca, oc), (36, tabObj ps)] x p eof (fun y => (skBinds x t1 p t2 t3 fs eof).reverse.lookup y)) ?_ ?_ (fun _ _ q => q))
  · refine wpAny_Try_except ?_
    walk_at "go"
    refine index_nl rfl ?_ ?_
    · intro k hk
      walk_at "go"
      (rename News _ _ _ _ => N'); (rename Fr _ _ _ _ => F')
      exact ⟨rfl, _, _, frOf h outer, tk₁, rfl, (fun q => by rw [hk] at q; cases q), (by rw [hk]; exact F'), N', U⟩
    · intro hk h' tk' e ne
      obtain ⟨oe, te, he, hce, hde⟩ := ne.there
      have ne' : ∀ b o, h₁.get? b = some o → h'.get? b = some o := ne.keeps
      have nw : h₁.get? e = none := ne.new
      have F1 := Fr.ext F ne'
      have N1 := News.ext N ne'
      refine Ex.note (Ex.start he hce hde rfl) (.inl rfl) rfl (framesOk_cons rfl rfl F1.ns (U.frames N1 (fun q hq => .tail _ (.tail _ hq)))) rfl fun h2 T2 X2 hl2 => ?_
      refine Ex.flight (w := none) X2 hl2 fun h3 X3 hl3 => ?_
      refine wpAny_handleBy_builtin (X := "ValueError") (T := "ValueError") (b := true) sub_ve_base ve_notTuple sub_ve_ve ?_
      have h36e : h₁.get? 36 = some (tabObj ps) := N.get (.tail _ (.head _))
      have hcae : h₁.get? ca = some oc := N.get (.head _)
      have he0 : h₀.get? e = none := by
        cases q : h₀.get? e with
        | none => rfl
        | some o => rw [F.keep _ _ q] at nw; cases nw
      have heL : e ≠ L := fun q => by obtain ⟨o, _, _, ho, _⟩ := F.ns; rw [← q, nw] at ho; cases ho
      have hef : e ∉ frs outer := fun q => by
        obtain ⟨o, _, _, ho, _⟩ := hok.mem e q
        rw [k₁ _ _ ho] at nw; cases nw
      have hled : ∀ q ∈ [(ca, oc), (36, tabObj ps)], q.1 ≠ e ∧ q.1 ∉ frs outer := fun q hq => by
        rcases List.mem_cons.mp hq with rfl | hq
        · exact ⟨fun z => (by rw [← z, hcae] at nw; cases nw), fun z => (hfb _ z).2.2 rfl⟩
        · rw [List.mem_singleton.mp hq]
          exact ⟨fun z => (by rw [← z, h36e] at nw; cases nw), fun z => (hfb _ z).2.1 rfl⟩
      obtain ⟨F3, fr3, N3, U3⟩ := X3.back rfl F1 N1 U hLo hid' he0 heL hled hef
      clear F1 N1 X2 hl2
      dsimp only
      walk_at "go"
      · obtain ⟨o, ho, hc, _⟩ := X3.there
        exact ⟨o, ho, hc⟩
      refine Ex.flight (w := none) X3 hl3 fun h4 X4 hl4 => ?_
      obtain ⟨F4, fr4, N4, U4⟩ := X4.back rfl (Fr.ext F ne') (News.ext N ne') U hLo hid' he0 heL hled hef
      clear F3 N3 U3 X3 hl3
      obtain ⟨o4, ho4, hc4, hd4⟩ := X4.there
      have N4e : News h₀ L h4 ((e, o4) :: (ca, oc) :: (36, tabObj ps) :: fr4) := fun q hq => by
        rcases List.mem_cons.mp hq with rfl | hq
        · exact ⟨ho4, heL, he0⟩
        · exact N4 q hq
      clear N4
      dsimp only
      walk_at "go"
      · (rename News _ _ _ _ => N5); (rename Fr _ _ _ _ => F5)
        rename_i h5 heof tk5
        rw [arm_exec_Raise]
        refine wpAny_bind (wpAny_standAt ?_)
        refine raise_toml_from (e1 := e) rfl (fun _ _ hq _ _ _ => hq) ?_
        refine wpAny_bind ?_
        walk_at "go"
        have hcaF : ca ∉ frs outer := fun z => (hfb _ z).2.2 rfl
        have h36F : 36 ∉ frs outer := fun z => (hfb _ z).2.1 rfl
        have up5 := upto_of hid F5 N5 hca (.tail _ (.head _)) (fun q hq => .tail _ (.tail _ (.tail _ hq))) U4 hcaF
        have L36 : L ≠ 36 := fun q => by have := Heap.lt_size hP; rw [← q, eL] at this; exact absurd this (Nat.lt_irrefl _)
        refine sfx G (Nat.le_of_ble_eq_true rfl) (Nat.le_of_ble_eq_true rfl) (fun b o q => F5.keep b o (st₀ b o q)) (N5.get (.tail _ (.head _))) (N5.get (.tail _ (.tail _ (.head _)))) tb (by lia) (by lia) (by decide) ?_
        intro h6 tk6 e2 t2 ty ca6 oc6 ps6 k6 tm e2n t2n c6 p6 tb6 ec6 tc6 e36 t36
        refine wpAny_bind (wpAny_standAt (wpAny_pure ?_))
        have ho5 := N5.get (.head _)
        have e1n36 : e ≠ 36 := fun z => by rw [z, h36e] at nw; cases nw
        have F6 := Fr.k36 F5 k6 (hid.hid 36 (.head _)) L36
        refine ⟨e2, t2, _, ty, o4, _, rfl, X₀.keeps F6.keep, tm, k6 _ _ e1n36 ho5, hd4, by simp, (fun z => by rw [z, ho5] at e2n; cases e2n), ?_⟩
        intro h7 k7 he7
        have N6 : News h₀ L h6 fr4 := fun q hq => by
          obtain ⟨n1, n2, n3⟩ := N5 q (.tail _ (.tail _ (.tail _ hq)))
          exact ⟨k6 _ _ (fun z => h36F (z ▸ U4.only q hq)) n1, n2, n3⟩
        have e2L : e2 ≠ L := fun z => by obtain ⟨o, _, _, ho, _⟩ := F5.ns; rw [← z, e2n] at ho; cases ho
        have e2F : e2 ∉ frs outer := fun z => by
          obtain ⟨o, es, n, ho, _⟩ := hok.mem e2 z
          obtain ⟨_, sl, q⟩ := up5 e2 o ho (fun q => e36 (List.mem_singleton.mp q))
          rw [e2n] at q; cases q
        have ok7 : FramesOk h7 outer := fun en hen => by
          obtain ⟨hk, L', o, es, n, hf', ho', hd'⟩ := (U4.frames N6 (fun _ hq => hq)) en hen
          exact ⟨hk, L', o, es, n, hf', k7 L' o (fun z => e2F (z ▸ List.mem_filterMap.mpr ⟨en, hen, hf'⟩)) ho', hd'⟩
        have nsL : h7.Ns L _ := let ⟨o, es, ep, ho, r⟩ := F6.ns; ⟨o, es, ep, k7 L o (Ne.symm e2L) ho, r⟩
        refine Ex.out rfl rfl (Ex.start he7 rfl rfl rfl) (framesOk_cons rfl rfl nsL ok7) rfl fun h8 vs8 X8 hv8 ok8 => ?_
        have hLd : ∃ o es n, heof.get? L = some o ∧ o.data = .dict es n := let ⟨o, es, ep, ho, hd, _⟩ := F5.ns; ⟨o, es, ep, ho, hd⟩
        exact hE1 hk tk5 h8 _ e2 (raisedOut_mk hok h36F up5 k6 k7 e2n t2n tm.2 (fun z => by have := tm.1; rw [← z, tm.2] at this; cases this) c6 p6 tb6 ec6 e36 t36 eL ⟨_, hP⟩ hLd X8 (by rw [hv8 0 (by decide)]; rfl) ok8)
      · (rename News _ _ _ _ => N5); (rename Fr _ _ _ _ => F5)
        refine ⟨rfl, _, _, fr4, _, rfl, (fun _ => by assumption), (by rw [hk]; exact F5), (fun q hq => N5 q (.tail _ hq)), U4⟩
  · rintro fl s' ⟨rfl, h', tk', fr', tkn, rfl, hef, F', N', U'⟩
    clear N F U
    refine hideE fun E' hE' => ?_
    have N'' : News h₀ L h' ((ca, oc) :: (36, tabObj ps) :: fr') := N'
    clear N'
    have hnp : (firstNl x p).getD x.length ≤ x.length ∧ p ≤ (firstNl x p).getD x.length := by
      rcases firstNl_spec x p with ⟨q, _⟩ | ⟨k, q, a1, a2, _⟩
      · rw [q]; exact ⟨Nat.le_refl _, Nat.le_of_lt hpl⟩
      · rw [q]; exact ⟨Nat.le_of_lt a2, a1⟩
    generalize hnpe : (firstNl x p).getD x.length = np at *
    walk_at "go"
    (rename News _ _ _ _ => N7); (rename Fr _ _ _ _ => F7)
    refine call_disj (by lia) rfl (FrozAt.keeps hFS F7.keep) fun h8 tk8 k8 => ?_
    have F8 := Fr.ext F7 k8
    have N8 := News.ext N7 k8
    clear F7 N7
    rw [slice_bad x P hnp.2 hnp.1]
    have hcaF : ca ∉ frs outer := fun z => (hfb _ z).2.2 rfl
    have h36F : 36 ∉ frs outer := fun z => (hfb _ z).2.1 rfl
    cases hfbad : firstBad x P p np with
    | none =>
      rw [show (!(none : Option Nat).isSome) = true from rfl]
      walk_at "go"
      refine RetTo.ret (hQ hef hfbad h8 _ _ ?_ (N8.get (.head _)) (N8.get (.tail _ (.head _))))
      exact upto_of hid F8 N8 hca (.head _) (fun q hq => .tail _ (.tail _ hq)) U' hcaF
    | some i =>
      obtain ⟨b1, b2, b3, b4⟩ := firstBad_some hfbad
      rw [show (!(some i).isSome) = false from rfl]
      walk_at "go"
      refine whileBy (SkInv h₀ L gs dr os p i ((ca, oc) :: (36, tabObj ps) :: fr') (fun y => if y = Str.ofString "new_pos" then some (.int (np : Int) tkn) else (skBinds x t1 p t2 t3 fs eof).reverse.lookup y)) ?_ (i - p) ?_
      · rintro R' hR n s' ⟨q, h9, tk9, tq, rfl, hq1, hq2, F9, N9⟩
        obtain ⟨c, hc⟩ : ∃ c, x.cps[q]? = some c := ⟨_, Array.getElem?_eq_getElem (show q < x.cps.size by have := hnp.1; unfold Str.length at this; lia)⟩
        have hbq : badAt x P q = P ⟨#[c]⟩ := by unfold badAt; rw [hc]
        have hrl : (reprText ⟨#[c]⟩).length ≤ 12 := by
          have := StrLaws.reprText_len ⟨#[c]⟩ (fun c' hc' => by
            rw [List.mem_singleton.mp hc']
            exact hbd c (Array.mem_toList_iff.mpr (Array.mem_of_getElem? hc)))
          exact this
        clear N8 F8
        have L36 : L ≠ 36 := fun q => by have := Heap.lt_size hP; rw [← q, eL] at this; exact absurd this (Nat.lt_irrefl _)
        have XX : ∀ h', (∀ b o, b ≠ 36 → h9.get? b = some o → h'.get? b = some o) → (Mine.hd.heap_39 w.params).In h' := fun h' k => X₀.keeps (Fr.k36 F9 k (hid.hid 36 (.head _)) L36).keep
        walk_at "go"
        · have hqi : q = i := by
            rcases Nat.lt_or_ge q i with z | z
            · have z2 := b4 q hq1 z
              rw [hbq] at z2
              simp_all
            · lia
          subst hqi
          refine hR _ _ ?_
          dsimp only
          walk_at "go"
          refine raise_toml XX rfl ?_
          refine wpAny_bind ?_
          walk_at "go"
          have up9 := upto_of hid F9 N9 hca (.head _) (fun q hq => .tail _ (.tail _ hq)) U' hcaF
          refine sfx G (Nat.le_of_ble_eq_true rfl) (Nat.le_of_ble_eq_true rfl) (fun b o q => F9.keep b o (st₀ b o q)) (N9.get (.head _)) (N9.get (.tail _ (.head _))) tb (by lia) (by lia) (by rw [Str.length_append, Str.length_append]; have : Str.empty.length = 0 := rfl; have : (Str.ofString "Found invalid character ").length = 24 := rfl; lia) ?_
          intro h6 tk6 e2 t2 ty ca6 oc6 ps6 k6 tm e2n t2n c6 p6 tb6 ec6 tc6 e36 t36
          refine wpAny_bind (wpAny_standAt (wpAny_pure ?_))
          have F6 := Fr.k36 F9 k6 (hid.hid 36 (.head _)) L36
          refine ⟨e2, t2, _, ty, rfl, k6, tm, ?_⟩
          have N6 : News h₀ L h6 fr' := fun q hq => by
            obtain ⟨n1, n2, n3⟩ := N9 q (.tail _ (.tail _ hq))
            exact ⟨k6 _ _ (fun z => h36F (z ▸ U'.only q hq)) n1, n2, n3⟩
          have e2L : e2 ≠ L := fun z => by obtain ⟨o, _, _, ho, _⟩ := F9.ns; rw [← z, e2n] at ho; cases ho
          have ok6 : FramesOk h6 outer := U'.frames N6 (fun _ hq => hq)
          refine hE' _ _ ?_
          refine Ex.leave (Ex.start tm.1 rfl rfl rfl) (.inl rfl) rfl (framesOk_cons rfl rfl F6.ns ok6) rfl fun h8 vs8 X8 hv8 ok8 => ?_
          have hLd : ∃ o es n, h9.get? L = some o ∧ o.data = .dict es n := let ⟨o, es, ep, ho, hd, _⟩ := F9.ns; ⟨o, es, ep, ho, hd⟩
          exact hE2 hef q c hfbad hc h8 _ e2 (raisedOut_mk hok h36F up9 k6 (fun _ _ _ z => z) e2n t2n tm.2 (fun z => by have := tm.1; rw [← z, tm.2] at this; cases this) c6 p6 tb6 ec6 e36 t36 eL ⟨_, hP⟩ hLd X8 (by rw [hv8 0 (by decide)]; rfl) ok8)
        · (rename News _ _ _ _ => N5); (rename Fr _ _ _ _ => F5)
          have hqi : q ≠ i := fun z => by rw [z, b3] at hbq; simp_all
          refine ⟨n - 1, by lia, ?_⟩
          refine ⟨q + 1, _, _, ?tq, rfl, by lia, by lia, Mine.Fr.congr F5 fun y => ?_, N5⟩
          rotate_left
          rw [if_twice]
          rfl
      · refine ⟨p, h8, tk8, t2, rfl, Nat.le_refl _, by lia, Mine.Fr.congr F8 fun y => ?_, N8⟩
        by_cases hy : y = Str.ofString "pos"
        · rw [if_pos hy, hy]
          with_unfolding_all rfl
        · rw [if_neg hy]
end Mine
namespace Mine
/-- a stop for the walker -/
def Hold (p : Prop) : Prop := p
theorem hold {p : Prop} (h : Hold p) : p := h
theorem Fr.upto {h₀ h h' : Heap} {L : Addr} {m : Str → Option Value} {S X : List Addr} (F : Fr h₀ L h m) (u : UpTo S X h h') (hS : ∀ b ∈ S, b ≠ L → h₀.get? b = none) (hX : ∀ b ∈ X, h₀.get? b = none ∧ b ≠ L) : Fr h₀ L h' m := by
  refine ⟨?_, fun b o e => ?_, F.above⟩
  · obtain ⟨o, es, ep, ho, hd, r⟩ := F.ns
    obtain ⟨_, sl, q⟩ := u L o ho fun hm => (hX L hm).2 rfl
    exact ⟨_, es, ep, q, hd, r⟩
  · have hbL : b ≠ L := fun z => by have := Heap.lt_size e; rw [z] at this; exact absurd (Nat.lt_of_lt_of_le this F.above) (Nat.lt_irrefl _)
    exact (u b o (F.keep b o e) fun hm => by rw [(hX b hm).1] at e; cases e).1 fun hm => by rw [hS b hm hbL] at e; cases e
theorem Fr.ground {h₀ h₀' h : Heap} {L : Addr} {m : Str → Option Value} (F : Fr h₀ L h m) (sub : ∀ b o, h₀'.get? b = some o → h₀.get? b = some o) (size : h₀'.objs.size = h₀.objs.size) : Fr h₀' L h m :=
  ⟨F.ns, fun b o e => F.keep b o (sub b o e), by rw [size]; exact F.above⟩
theorem UpTo.more {S S' X X' : List Addr} {h h' : Heap} (u : UpTo S X h h') (hS : ∀ b ∈ S, b ∈ S') (hX : ∀ b ∈ X, b ∈ X') : UpTo S' X' h h' := fun b o e n =>
  let ⟨a, c⟩ := u b o e fun q => n (hX b q)
  ⟨fun q => a fun z => q (hS b z), c⟩
theorem UpTo.less {S S' X X' : List Addr} {h h' : Heap} (u : UpTo S X h h') (hS : ∀ b ∈ S, b ∈ S' ∨ h.get? b = none) (hX : ∀ b ∈ X, b ∈ X' ∨ h.get? b = none) : UpTo S' X' h h' := fun b o e n =>
  let ⟨a, c⟩ := u b o e fun q => (hX b q).elim n fun z => by rw [e] at z; cases z
  ⟨fun q => a fun z => (hS b z).elim q (fun z => by rw [e] at z; cases z), c⟩
theorem UpTo.stays {gb h h' : Heap} {S X : List Addr} (u : UpTo S X h h') (st : gb.StaysIn h) (hS : ∀ b ∈ S, gb.get? b = none) (hX : ∀ b ∈ X, gb.get? b = none) : gb.StaysIn h' := fun b o e =>
  (u b o (st b o e) fun q => by rw [hX b q] at e; cases e).1 fun q => by rw [hS b q] at e; cases e
theorem get_none_of {h h' : Heap} {b : Addr} (k : ∀ o, h.get? b = some o → ∃ o', h'.get? b = some o') (n : h'.get? b = none) : h.get? b = none := by
  cases q : h.get? b with
  | none => rfl
  | some o => obtain ⟨o', z⟩ := k o q; rw [n] at z; cases z
/-- a handler for the text's own class -/
theorem handleBy24 {prog : Program} {w : World} {A : Around} {E : Value → Shared → Prop} {s : Shared} {env : Env} {e : Addr} {t : Expr} {n : Str} {b₀ : Stmt} {suite : List Stmt} {pos : Pos} {rest : List ExceptHandler} {Q : Flow → Shared → Prop}
    (h : wpAny (model prog w) (A.mark (some (.ref e))) (eval t env) (fun c s₁ => c = .ref 24 ∧ (Mine.hd.heap_39 w.params).In s₁.heap ∧ (∃ oe, s₁.heap.get? e = some oe ∧ oe.cls = .ref 24) ∧
      wpAny (model prog w) (A.mark (some (.ref e))) (setFlight (.ref e) none) (fun _ s₂ =>
          wpAny (model prog w) (A.mark (some (.ref e))) (storeName env n (.ref e)) (fun _ s₃ =>
            wpAny (model prog w) (A.mark (some (.ref e))) (execs (b₀ :: suite) env)
              (fun f s₄ => wpAny (model prog w) A (do bindName env n .none; unbindBehindTheSuite env n pos) (fun _ s₅ => Q f s₅) E s₄)
              (AsSuiteRaised (model prog w) (A.mark (some (.ref e))) env n pos (notedBy (model prog w) (A.mark (some (.ref e))) env (cameBackBy (model prog w) A env E))) s₃) (notedBy (model prog w) (A.mark (some (.ref e))) env (cameBackBy (model prog w) A env E)) s₂) (notedBy (model prog w) (A.mark (some (.ref e))) env (cameBackBy (model prog w) A env E)) s₁) (notedBy (model prog w) (A.mark (some (.ref e))) env (cameBackBy (model prog w) A env E)) s) :
    wpAny (model prog w) A (handleBy (.ref e) env (.ExceptHandler (some t) (some n) (b₀ :: suite) pos :: rest)) Q E s := by
  refine wpAny_handleBy_cons (codeAny_handlers_test (wpAny_mono h (fun c s₁ h₁ => ?_) fun _ _ y => y)) (by intro q; cases q)
  obtain ⟨rfl, O, ⟨oe, he, hcls⟩, hk⟩ := h₁
  obtain ⟨k0, k1, k2, k3, k5, hC⟩ := cls24 O
  obtain ⟨hh, g, d, tk, os⟩ := s₁
  exact wpAny_excMatches_sub_self hC he hcls rfl (codeAny_handlers_suite_as hk)
end Mine
namespace Mine
local macro_rules | `(tactic| omega) => `(tactic| lia)
abbrev sgBinds (x : Str) (t1 : Tok) (p : Nat) (t2 : Tok) (b : Str) (t3 : Tok) (eof : Bool) : List (Str × Value) :=
  [(Str.ofString "text", .str x t1), (Str.ofString "start", .int (p : Int) t2), (Str.ofString "barred", .str b t3), (Str.ofString "needed", .bool eof)]
/-- what _law_sought answers -/
def SoughtV (x : Str) (P : Str → Bool) (p : Nat) (eof : Bool) (v : Value) : Prop :=
  (∃ t, (firstNl x p = none → eof = false) ∧ firstBad x P p ((firstNl x p).getD x.length) = none ∧ v = .int (((firstNl x p).getD x.length : Nat) : Int) t) ∨
  (∃ t, firstNl x p = none ∧ eof = true ∧ v = .str (sfxS x x.length (Str.empty ++ Str.ofString "Expected " ++ Str.ofString "'\\n'")) t) ∨
  ∃ t i c, (firstNl x p = none → eof = false) ∧ firstBad x P p ((firstNl x p).getD x.length) = some i ∧ x.cps[i]? = some c ∧ v = .str (sfxS x i (Str.empty ++ Str.ofString "Found invalid character " ++ reprText ⟨#[c]⟩)) t
set_option maxRecDepth 100000 in
set_option maxHeartbeats 4000000 in
theorem sought {w : World} {mg mb : Str → Option Value} {loose : List Str} {mean : ExcName → Option Value} {gb : Heap} (G : Gd w mg mb loose mean gb)
    {A : Around} {h : Heap} {gs : Array GenState} {dr : Drawn} {tk : Nat} {os : OsState} {Q E : Value → Shared → Prop} {ca : Addr} {oc : Obj} {ps : Array Value} {x : Str} {p : Nat} {bs : Str} {eof : Bool} {t1 t2 t3 : Tok} {outer : List Env}
    (hd : A.depth ≤ 390) (hu : A.units ≤ 900) (hh : A.handled = none) (hfr : A.frames = some outer) (hok : FramesOk h outer) (hfb : ∀ b ∈ frs outer, gb.get? b = none ∧ b ≠ 36 ∧ b ≠ ca)
    (st : gb.StaysIn h) (hca : h.get? ca = some oc) (hP : h.get? 36 = some (tabObj ps)) (tb : TabOk gb ca oc ps)
    (hlen : x.length < 900) (hpl : p < x.length) (hbd : ∀ c ∈ x.cps.toList, c < 16 ^ 8) (hbs : bs.cps.size < 1000)
    (hQ : ∀ h' tk' v ca' oc' ps', UpTo (frs outer) [36] h h' → h'.get? ca' = some oc' → h'.get? 36 = some (tabObj ps') → TabOk gb ca' oc' ps' → ca' ∉ frs outer → SoughtV x (signSet bs.cps.toList) p eof v → Q v ⟨h', gs, dr, tk', os⟩) :
    wpAny (model PySem.Challenge.rw_ny0036_01.row.prog w) A (call (.ref 69) [.str x t1, .int (p : Int) t2, .str bs t3, .bool eof] []) Q E ⟨h, gs, dr, tk, os⟩ := by
  w_top off
  k_with_none
  k_with "call type:str cons nil" => refine' hold ?_
  refine wpAny_ax hd hu ?_
  rw [hh, hfr]
  have hH : ∀ a ∈ 36 :: ca :: frs outer, gb.get? a = none := fun a ha => by
    rcases List.mem_cons.mp ha with rfl | ha
    · exact G.n36
    rcases List.mem_cons.mp ha with rfl | ha
    · exact tb.1
    · exact (hfb a ha).1
  have X := (G.keeps st).1
  have T := (G.keeps st).2.1
  revert X; k_fill; intro X
  refine' callK (binds := sgBinds x t1 p t2 bs t3 eof) (36 :: ca :: frs outer) X ?k6 ?k7 T.nolimit ?k8 ?k9 ?kB ?_ ?c5 ?c2 ?c3 ?c4
  case k6 => k_is
  case k7 => k_is
  case k8 => k_room
  case k9 => exact BindsTo.of_eq rfl
  case kB => exact locs rfl
  case c5 => decide
  case c2 => exact rfl
  case c3 => exact rfl
  case c4 => exact rfl
  intro h₀ L h₁ tk₁ hid eL F k₁
  have st₀ := hid.stays st hH
  obtain ⟨X₀, T₀, C₀⟩ := G.keeps st₀
  have U := FrUp.of hok
  have N := hid.news (news := (ca, oc) :: (36, tabObj ps) :: frOf h outer) k₁ eL (fun q hq => by
    rcases List.mem_cons.mp hq with rfl | hq
    · exact ⟨hca, .tail _ (.head _)⟩
    rcases List.mem_cons.mp hq with rfl | hq
    · exact ⟨hP, .head _⟩
    · exact ⟨(frOf_mem hq).1, .tail _ (.tail _ (frOf_mem hq).2)⟩)
  clear X T
  refine hideE fun E' _ => ?_
  refine wpAny_execs_cons (wpAny_Try_except ?_)
  walk_at "go"
  refine call_froz hbs rfl fun fs h2 tk2 n2 k2 fs0 fz hn2 => ?_
  have F2 := Fr.ext F k2
  have N2 := News.ext N k2
  clear F N
  walk_at "go"
  have hLh : h.get? L = none := by rw [eL]; exact Heap.get?_none_of_le (Nat.le_refl _)
  have hLg : gb.get? L = none := get_none_of (fun o q => ⟨o, st _ _ q⟩) hLh
  have L36 : L ≠ 36 := fun q => by rw [q, hP] at hLh; cases hLh
  have Lca : L ≠ ca := fun q => by rw [q, hca] at hLh; cases hLh
  have hLo : L ∉ frs outer := fun hm => by
    obtain ⟨o, _, _, ho, _⟩ := hok.mem L hm
    rw [hLh] at ho; cases ho
  have hcaF : ca ∉ frs outer := fun z => (hfb _ z).2.2 rfl
  have h36F : 36 ∉ frs outer := fun z => (hfb _ z).2.1 rfl
  have ok2 : FramesOk h2 outer := U.frames N2 fun q hq => .tail _ (.tail _ hq)
  have up2 : UpTo (frs outer) [36] h h2 := upto_of hid F2 N2 hca (.head _) (fun q hq => .tail _ (.tail _ hq)) U hcaF
  generalize hEnv : envOf (Str.ofString "_law_sought") _ L 69 (Value.ref 68) = env
  have hf : env.frame = some L := by rw [← hEnv]; rfl
  have hk : env.scope.kind = .function := by rw [← hEnv]; rfl
  have ok2e : FramesOk h2 (env :: outer) := framesOk_cons hk hf F2.ns ok2
  have hfb2 : ∀ b ∈ frs (env :: outer), gb.get? b = none ∧ b ≠ 36 ∧ b ≠ ca := fun b hb => by
    rw [frs_cons hf] at hb
    rcases List.mem_cons.mp hb with rfl | hb
    · exact ⟨hLg, L36, Lca⟩
    · exact hfb b hb
  refine wpAny_mono (Q := fun v s' => ∃ h' tk' t', s' = ⟨h', gs, dr, tk', os⟩ ∧ UpTo (frs (env :: outer)) [36] h2 h' ∧ h'.get? ca = some oc ∧ h'.get? 36 = some (tabObj ps) ∧ v = .int (((firstNl x p).getD x.length : Nat) : Int) t' ∧ SoughtV x (signSet bs.cps.toList) p eof v)
    (E := fun ev s' => ∃ e y h' tk', ev = .ref e ∧ s' = ⟨h', gs, dr, tk', os⟩ ∧ RaisedOut gb h2 (env :: outer) e y h' ∧ ∀ t, SoughtV x (signSet bs.cps.toList) p eof (.str y t)) ?_ ?_ ?_
  · refine skip (n := n2) (fs := fs) (eof := eof) (P := signSet bs.cps.toList) (t3 := tk₁) G (Nat.le_of_ble_eq_true rfl) (Nat.le_of_ble_eq_true rfl) rfl rfl ok2e hfb2 (fun b o q => F2.keep b o (st₀ b o q)) (N2.get (.head _)) (N2.get (.tail _ (.head _))) tb fz hn2 hlen hpl hbd ?_ ?_ ?_
    · intro hn he h' tk' e R
      exact ⟨e, _, h', tk', rfl, rfl, R, fun t => .inr (.inl ⟨t, hn, he, rfl⟩)⟩
    · intro hn i c hi hc h' tk' e R
      exact ⟨e, _, h', tk', rfl, rfl, R, fun t => .inr (.inr ⟨t, i, c, hn, hi, hc, rfl⟩)⟩
    · intro hn hb h' tk' t' u c1 c2
      exact ⟨h', tk', t', rfl, u, c1, c2, rfl, .inl ⟨t', hn, hb, rfl⟩⟩
  · rintro v s' ⟨h', tk', t', rfl, u, c1, c2, rfl, sv⟩
    refine RetTo.ret (hQ h' tk' _ ca oc ps ?_ c1 c2 tb hcaF sv)
    exact ((up2.more (S' := frs (env :: outer)) (fun b q => by rw [frs_cons hf]; exact .tail _ q) (fun _ q => q)).trans u).less (fun b q => by
      rw [frs_cons hf] at q
      rcases List.mem_cons.mp q with rfl | q
      · exact .inr hLh
      · exact .inl q) (fun _ q => .inl q)
  · rintro ev s' ⟨e, y, h', tk', rfl, rfl, ⟨hx, vs, t, ty, ca', oc', ps', Xe, v0, ht, tF, te, en, tn, uu, c1, c2, tb', ec, e36, caF, ok'⟩, sv⟩
    refine Ex.note Xe (.inr rfl) (by rw [← hEnv]; rfl) ok' hf fun h3 T3 X3 hl3 => ?_
    refine Ex.flight (w := none) X3 hl3 fun h4 X4 hl4 => ?_
    rw [← hEnv]; refine handleBy24 ?_; rw [hEnv]
    have h₀' : ∃ h₀', h₀' = hideAll h₀ [ca'] := ⟨_, rfl⟩
    obtain ⟨h₀', hh₀'⟩ := h₀'
    have sub' : ∀ b o, h₀'.get? b = some o → h₀.get? b = some o := fun b o q => of_hideAll _ (by rw [← hh₀']; exact q)
    have hLn : ∀ b, b ∈ frs outer → h₀.get? b = none := fun b hb => hid.hid b (.tail _ (.tail _ hb))
    have e0 : h₀.get? e = none := get_none_of (fun o q => ⟨o, F2.keep _ _ q⟩) en
    have t0 : h₀.get? t = none := get_none_of (fun o q => ⟨o, F2.keep _ _ q⟩) tn
    have eL' : e ≠ L := fun z => by obtain ⟨o, _, _, ho, _⟩ := F2.ns; rw [← z, en] at ho; cases ho
    have tL' : t ≠ L := fun z => by obtain ⟨o, _, _, ho, _⟩ := F2.ns; rw [← z, tn] at ho; cases ho
    have frm : ∀ b, b ∈ frs (env :: outer) ↔ b = L ∨ b ∈ frs outer := fun b => by rw [frs_cons hf]; exact List.mem_cons
    have cL' : ca' ≠ L := fun z => caF ((frm _).mpr (.inl z))
    have ef : e ∉ frs (env :: outer) := fun hm => by
      obtain ⟨o, es, n, ho, hd'⟩ := ok2e.mem e hm
      rw [en] at ho; cases ho
    have frn : ∀ b ∈ frs (env :: outer), b ≠ 36 ∧ b ≠ e := fun b hb => ⟨(hfb2 b hb).2.1, fun z => ef (z ▸ hb)⟩
    have st' : gb.StaysIn h₀' := fun b o q => by
      rw [hh₀']
      exact hideAll_get _ (st₀ b o q) (fun hm => by rw [List.mem_singleton.mp hm, tb'.1] at q; cases q)
    have size' : h₀'.objs.size = h₀.objs.size := by rw [hh₀']; exact hideAll_size _ _
    have ca0' : h₀'.get? ca' = none := by rw [hh₀']; exact hideAll_none _ (.head _)
    have sub0 : ∀ b, h₀.get? b = none → h₀'.get? b = none := fun b q => get_none_of (fun o z => ⟨o, sub' _ _ z⟩) q
    have up2' : UpTo (frs (env :: outer)) [36, e] h h2 := up2.more (fun b q => (frm b).mpr (.inr q)) (fun _ q => by rw [List.mem_singleton.mp q]; exact .head _)
    have uu' : UpTo (frs (env :: outer)) [36, e] h2 hx := uu.more (fun _ q => q) (fun _ q => by rw [List.mem_singleton.mp q]; exact .head _)
    have eh : h.get? e = none := get_none_of (fun o q => by
      by_cases z : e = 36
      · exact absurd z e36
      · obtain ⟨_, sl, q2⟩ := up2 e o q (by simpa using z); exact ⟨_, q2⟩) en
    have ground : ∀ hq vsq fl, Ex (frs (env :: outer)) hx hq e (.ref 24) vsq fl → vsq[0]? = some (.ref t) → Fr h₀' L hq (fun y => List.lookup y (sgBinds x t1 p t2 bs t3 eof).reverse) ∧ UpTo (frs outer) [36] h hq ∧ OwnAt hq e t y ty ∧
        ∃ oe ob, oe.cls = .ref 24 ∧ oe.data = .fields vsq ∧ (ca ≠ 36 → ob = oc) ∧ News h₀' L hq ((e, oe) :: (t, { cls := .type "tuple", data := .seq #[.str y ty] }) :: (ca', oc') :: (36, tabObj ps') :: (ca, ob) :: frOf hq outer) ∧ FrUp h outer (frOf hq outer) := by
      intro hq vsq fl Xq v0q
      obtain ⟨oe, hoe, hce, hde⟩ := Xq.there
      have uq : UpTo (frs (env :: outer)) [36, e] hx hq := Xq.up.more (fun _ q => q) (fun _ q => by rw [List.mem_singleton.mp q]; exact .tail _ (.head _))
      have u2q := uu'.trans uq
      have uhq := up2'.trans u2q
      have uh : UpTo (frs outer) [36] h hq := uhq.less (fun b q => by
        rcases (frm b).mp q with z | z
        · exact .inr (z ▸ hLh)
        · exact .inl z) (fun b q => by
        rcases List.mem_cons.mp q with z | z
        · exact .inl (z ▸ .head _)
        · exact .inr (List.mem_singleton.mp z ▸ eh))
      have htq : hq.get? t = some { cls := .type "tuple", data := .seq #[.str y ty] } := (Xq.up t _ ht (by simpa using te)).1 tF
      have hcq : hq.get? ca' = some oc' := (Xq.up ca' _ c1 (by simpa using Ne.symm ec)).1 caF
      have h36q : hq.get? 36 = some (tabObj ps') := (Xq.up 36 _ c2 (by simpa using Ne.symm e36)).1 (fun z => (frn 36 z).1 rfl)
      obtain ⟨ob, hob, hobc⟩ : ∃ ob, hq.get? ca = some ob ∧ (ca ≠ 36 → ob = oc) := by
        by_cases z : ca = 36
        · exact ⟨_, by rw [z]; exact h36q, fun q => absurd z q⟩
        · exact ⟨oc, (uh ca oc hca (by simpa using z)).1 hcaF, fun _ => rfl⟩
      have Fq := Mine.Fr.ground (Mine.Fr.upto F2 u2q (fun b q z => by
        rcases (frm b).mp q with y | y
        · exact absurd y z
        · exact hLn b y) (fun b q => by
        rcases List.mem_cons.mp q with z | z
        · rw [z]; exact ⟨hid.hid 36 (.head _), Ne.symm L36⟩
        · rw [List.mem_singleton.mp z]; exact ⟨e0, eL'⟩)) sub' size'
      refine ⟨Fq, uh, ⟨⟨oe, vsq, hoe, hce, hde, v0q⟩, ⟨_, _, htq, rfl, rfl⟩⟩, oe, ob, hce, hde, hobc, fun q hq' => ?_, hok, fun b hb o q => ?_, fun _ m => (frOf_mem m).2⟩
      · simp only [List.mem_cons] at hq'
        rcases hq' with rfl | rfl | rfl | rfl | rfl | hq'
        · exact ⟨hoe, eL', sub0 _ e0⟩
        · exact ⟨htq, tL', sub0 _ t0⟩
        · exact ⟨hcq, cL', ca0'⟩
        · exact ⟨h36q, Ne.symm L36, sub0 _ (hid.hid 36 (.head _))⟩
        · exact ⟨hob, Ne.symm Lca, sub0 _ (hid.hid ca (.tail _ (.head _)))⟩
        · exact ⟨(frOf_mem hq').1, fun z => hLo (z ▸ (frOf_mem hq').2), sub0 _ (hLn _ (frOf_mem hq').2)⟩
      · obtain ⟨_, sl, q2⟩ := uh b o q (fun z => (hfb b hb).2.1 (List.mem_singleton.mp z))
        exact ⟨sl, List.mem_filterMap.mpr ⟨b, hb, by rw [q2]; rfl⟩⟩
    obtain ⟨X₀', T₀', C₀'⟩ := G.keeps st'
    have v0s : (vs.setIfInBounds 1 (Value.ref T3))[0]? = some (.ref t) := by rw [Array.getElem?_setIfInBounds_ne (by decide)]; exact v0
    obtain ⟨F4, _, _, oe4, ob4, hc4, hd4, hob4, N4, U4⟩ := ground _ _ _ X4 v0s
    clear X3 hl3 N2 X₀ T₀ C₀ ok'
    dsimp only
    refine wpAny_mono (Q := fun c s₁ => c = .ref 24 ∧ s₁.heap = h4 ∧ s₁.gens = gs ∧ s₁.drawn = dr ∧ s₁.os = os) (E := fun _ _ => False) ?_ ?_ (fun _ _ q => q.elim)
    · subst hEnv
      walk_at "go"
    · rintro c ⟨h4', g4, d4, tk4, os4⟩ ⟨rfl, rfl, rfl, rfl, rfl⟩
      refine ⟨rfl, X₀'.keeps F4.keep, ⟨oe4, N4.get (.head _), hc4⟩, ?_⟩
      refine Ex.flight (w := none) X4 hl4 fun h5 X5 hl5 => ?_
      obtain ⟨F5, u5, O5, oe5, ob5, hc5, hd5, hob5, N5, U5⟩ := ground _ _ _ X5 v0s
      clear F4 N4 U4 X4 hl4
      have keep5 := F5.keep
      have c5' := N5.get (.tail _ (.tail _ (.head _)))
      subst hEnv
      dsimp only
      walk_at "go"
      (rename News _ _ _ _ => N6); (rename Fr _ _ _ _ => F6)
      refine str_own (X₀'.keeps F6.keep) ⟨⟨_, _, N6.get (.head _), hc5, hd5, v0s⟩, ⟨_, _, N6.get (.tail _ (.head _)), rfl, rfl⟩⟩ (Nat.le_of_ble_eq_true rfl) ?_
      walk_at "go"
      (rename News _ _ _ _ => N7); (rename Fr _ _ _ _ => F7)
      refine RetTo.ret (hQ _ _ _ ca' oc' ps' (fun b o q hX => ?_) (N7.get (.tail _ (.tail _ (.head _)))) (N7.get (.tail _ (.tail _ (.tail _ (.head _))))) tb' (fun z => caF ((frm _).mpr (.inr z))) (sv ty))
      have hb36 : b ≠ 36 := by simpa using hX
      obtain ⟨q1, sl, q2⟩ := u5 b o q hX
      by_cases hbF : b ∈ frs outer
      · obtain ⟨sl2, hm⟩ := U5.up b hbF o q
        exact ⟨fun z => absurd hbF z, sl2, N7.get (.tail _ (.tail _ (.tail _ (.tail _ (.tail _ hm)))))⟩
      · have z1 := q1 hbF
        cases hb0 : h₀'.get? b with
        | some o' =>
          have := F7.keep b o' hb0
          have z5 := keep5 b o' hb0
          rw [z1] at z5
          cases z5
          exact ⟨fun _ => this, o.slots, this⟩
        | none =>
          have hb7 : (b, o) ∈ ((e, oe5) :: (t, { cls := .type "tuple", data := .seq #[.str y ty] }) :: (ca', oc') :: (36, tabObj ps') :: (ca, ob5) :: frOf h5 outer) := by
            by_cases z2 : b = ca'
            · rw [z2] at z1
              rw [c5'] at z1
              cases z1
              rw [z2]
              exact .tail _ (.tail _ (.head _))
            · by_cases z3 : b = ca
              · rw [z3, hca] at q
                cases q
                rw [z3, ← hob5 (z3 ▸ hb36)]
                exact .tail _ (.tail _ (.tail _ (.tail _ (.head _))))
              · have := hid.sup b o q (fun hm => by
                  rcases List.mem_cons.mp hm with z | hm
                  · exact hb36 z
                  rcases List.mem_cons.mp hm with z | hm
                  · exact z3 z
                  · exact hbF hm)
                rw [hh₀', hideAll_get _ this (by simpa using z2)] at hb0
                cases hb0
          have := N7.get hb7
          exact ⟨fun _ => this, o.slots, this⟩
end Mine
namespace Mine
local macro_rules | `(tactic| omega) => `(tactic| lia)
abbrev plBinds (pl : Addr) (en : Bool) (k : Int) (t : Tok) : List (Str × Value) :=
  [(Str.ofString "plain", .ref pl), (Str.ofString "endless", .bool en), (Str.ofString "k", .int k t)]
/-- the first row that holds the place k -/
def placeGo : List Int → Int → Int → Int → Option (Int × Int)
  | [], _, _, _ => none
  | s :: r, j, st, k => if k < st + s then some (j + 1, k - st + 1) else placeGo r (j + 1) (st + s) k
def placeOf (ns : List Int) (en : Bool) (k : Int) : Int × Int :=
  match placeGo ns 0 0 k with
  | some p => p
  | none => if en then (((ns.length : Nat) : Int) + 1 + Int.fdiv (k - ns.sum) (ns.getD ((-1 : Int) + (ns.length : Int)).toNat 0), Int.fmod (k - ns.sum) (ns.getD ((-1 : Int) + (ns.length : Int)).toNat 0) + 1) else (((ns.length : Nat) : Int) + 1, k - ns.sum + 1)
theorem placeGo_none : ∀ {ns : List Int} {j st k : Int}, (∀ i, i < ns.length → ¬ k < st + (ns.take (i + 1)).sum) → placeGo ns j st k = none
  | [], _, _, _, _ => rfl
  | s :: r, j, st, k, h => by
    have h0 := h 0 (Nat.succ_pos _)
    simp at h0
    unfold placeGo
    rw [if_neg (by lia)]
    refine placeGo_none fun i hi => ?_
    have := h (i + 1) (by simpa using hi)
    simp only [List.take_succ_cons, List.sum_cons] at this
    lia
theorem placeGo_some : ∀ {ns : List Int} {j st k : Int} {i : Nat}, i < ns.length → (∀ i', i' < i → ¬ k < st + (ns.take (i' + 1)).sum) → k < st + (ns.take (i + 1)).sum → placeGo ns j st k = some (j + (i : Int) + 1, k - (st + (ns.take i).sum) + 1)
  | s :: r, j, st, k, 0, _, _, h2 => by
    simp at h2
    unfold placeGo
    rw [if_pos (by lia)]
    simp
  | s :: r, j, st, k, i + 1, hi, h1, h2 => by
    have h0 := h1 0 (Nat.succ_pos _)
    simp at h0
    unfold placeGo
    have g1 : ∀ i', i' < i → ¬ k < st + s + (r.take (i' + 1)).sum := fun i' hi' => by
      have := h1 (i' + 1) (by lia)
      simp only [List.take_succ_cons, List.sum_cons] at this
      lia
    have g2 : k < st + s + (r.take (i + 1)).sum := by
      simp only [List.take_succ_cons, List.sum_cons] at h2 ⊢
      lia
    rw [if_neg (by lia), placeGo_some (i := i) (by simpa using hi) g1 g2]
    simp only [List.take_succ_cons, List.sum_cons]
    refine congrArg some (Prod.ext ?_ ?_) <;> simp <;> lia
def plMap (pl : Addr) (en : Bool) (k : Int) (t : Tok) (a : Int) (ts : Tok) (vj vs : Option Value) (y : Str) : Option Value :=
  if y = Str.ofString "start" then some (.int a ts) else if y = Str.ofString "size" then vs else if y = Str.ofString "j" then vj else (plBinds pl en k t).reverse.lookup y
def PlJ (pl : Addr) (en : Bool) (k : Int) (t : Tok) (ns : List Int) (i : Nat) (m : Str → Option Value) (news : List (Addr × Obj)) : Prop :=
  news = [] ∧ (∃ ts vj vs, m = plMap pl en k t (ns.take i).sum ts vj vs) ∧ ∀ i', i' < i → ¬ k < (ns.take (i' + 1)).sum
set_option maxRecDepth 100000 in
set_option maxHeartbeats 4000000 in
theorem place {w : World} {mg mb : Str → Option Value} {loose : List Str} {mean : ExcName → Option Value} {gb : Heap} (G : Gd w mg mb loose mean gb)
    {A : Around} {h : Heap} {gs : Array GenState} {dr : Drawn} {tk : Nat} {os : OsState} {Q E : Value → Shared → Prop} {pl : Addr} {vs : List Value} {ns : List Int} {en : Bool} {k : Int} {t1 : Tok}
    (hd : A.depth ≤ 400) (hu : A.units ≤ 1000) (hh : A.handled = none)
    (st : gb.StaysIn h) (hl : h.IsList pl vs.toArray) (hi : IntsAre vs ns) (hne : en = true → 0 < ns.length ∧ 0 < ns.getD ((-1 : Int) + (ns.length : Int)).toNat 0 ∧ ns.getD ((-1 : Int) + (ns.length : Int)).toNat 0 < 1000) (hsz : ns.length < 100)
    (hQ : ∀ h' tk' a ta tb, (∀ b o, h.get? b = some o → h'.get? b = some o) → h.get? a = none → h'.get? a = some { cls := .type "tuple", data := .seq #[.int (placeOf ns en k).1 ta, .int (placeOf ns en k).2 tb] } → Q (.ref a) ⟨h', gs, dr, tk', os⟩) :
    wpAny (model PySem.Challenge.rw_ny0036_01.row.prog w) A (call (.ref 62) [.ref pl, .bool en, .int k t1] []) Q E ⟨h, gs, dr, tk, os⟩ := by
  w_top off
  k_with_none
  k_with "pyIter ref" => refine' hold ?_
  k_with "binaryOp FloorDiv int int" => (refine' floordiv_int ?nz ?_ ?hp; (case nz => exact Int.ne_of_gt (by assumption)); (case hp => exact Or.inl (PyProof.noPylong_small (by lia))))
  k_with "binaryOp Mod int int" => (refine' mod_int' ?nz ?_; (case nz => exact Int.ne_of_gt (by assumption)))
  refine wpAny_ax hd hu ?_
  rw [hh]
  have X := (G.keeps st).1
  have T := (G.keeps st).2.1
  revert X; k_fill; intro X
  refine' callK (binds := plBinds pl en k t1) [] X ?k6 ?k7 T.nolimit ?k8 ?k9 ?kB ?_ ?c5 ?c2 ?c3 ?c4
  case k6 => k_is
  case k7 => k_is
  case k8 => k_room
  case k9 => exact BindsTo.of_eq rfl
  case kB => exact locs rfl
  case c5 => decide
  case c2 => exact rfl
  case c3 => exact rfl
  case c4 => exact rfl
  intro h₀ L h₁ tk₁ hid eL F k₁
  have st₀ := hid.stays st (fun _ q => nomatch q)
  obtain ⟨X₀, T₀, C₀⟩ := G.keeps st₀
  have N : News h₀ L h₁ [] := News.nil
  have hl0 : h₀.IsList pl vs.toArray := let ⟨o, ho, r⟩ := hl; ⟨o, hid.sup _ _ ho (fun q => nomatch q), r⟩
  clear X T
  walk_at "go"
  (rename News _ _ _ _ => N1); (rename Fr _ _ _ _ => F1); (rename PairSrcL _ _ _ _ _ _ _ _ _ _ _ _ => S1)
  refine (S1.at _ rfl) _ _ _ _ (PlJ pl en k t1 ns) ⟨rfl, ⟨tk₁, none, none, ?_⟩, fun i' hi' => absurd hi' (Nat.not_lt_zero _)⟩ ?_ ?_
  · funext y
    unfold plMap
    by_cases h1 : y = Str.ofString "start"
    · rw [if_pos h1, if_pos h1]; rfl
    · rw [if_neg h1, if_neg h1]
      by_cases h2 : y = Str.ofString "size"
      · rw [if_pos h2, h2]; with_unfolding_all rfl
      · rw [if_neg h2]
        by_cases h3 : y = Str.ofString "j"
        · rw [if_pos h3, h3]; with_unfolding_all rfl
        · rw [if_neg h3]
  · rintro i a t v m₁ news₁ s₁ own ⟨h5, tk5, rfl⟩ ha hk ⟨rfl, ⟨ts, vj, vs', rfl⟩, hlt⟩ hn1 hown F5 N5
    obtain ⟨ta, rfl⟩ := ItemKind.int_is hk
    clear F1 N1
    unfold plMap at F5
    dsimp only
    walk_at "go"
    · (rename News _ _ _ _ => N7); (rename Fr _ _ _ _ => F7)
      rename_i hcmp D hv l1
      obtain ⟨hil, hga⟩ := List.getElem?_eq_some_iff.mp ha
      have hsum : (ns.take (i + 1)).sum = (ns.take i).sum + a := by rw [List.take_succ, ha]; simp
      have hp : placeOf ns en k = ((i : Int) + 1, k - (ns.take i).sum + 1) := by
        unfold placeOf
        rw [placeGo_some (i := i) hil (fun i' hi' => by have := hlt i' hi'; lia) (by lia)]
        simp
      refine RetTo.ret (hQ _ _ _ _ _ (fun b o q => F7.keep b o (hid.sup b o q (fun z => nomatch z))) ?_ (by rw [hp]; exact N7.get (.head _)))
      exact get_none_of (fun o q => ⟨o, hid.sup _ o q (fun z => nomatch z)⟩) (N7 _ (.head _)).2.2
    · (rename News _ _ _ _ => N7); (rename Fr _ _ _ _ => F7)
      rename_i hcmp hv
      have hsum : (ns.take (i + 1)).sum = (ns.take i).sum + a := by rw [List.take_succ, ha]; simp
      refine ⟨rfl, ⟨tk, some (.int i t), some (.int a ta), ?_⟩, fun i' hi' => ?_⟩
      · funext y
        unfold plMap
        rw [hsum]
        by_cases h1 : y = Str.ofString "start"
        · rw [if_pos h1, if_pos h1]
        · rw [if_neg h1, if_neg h1, if_neg h1]
          by_cases h2 : y = Str.ofString "size"
          · rw [if_pos h2, if_pos h2]
          · rw [if_neg h2, if_neg h2, if_neg h2]
            by_cases h3 : y = Str.ofString "j"
            · rw [if_pos h3, if_pos h3]
            · rw [if_neg h3, if_neg h3, if_neg h3]
      · rcases Nat.lt_succ_iff_lt_or_eq.mp hi' with z | z
        · exact hlt i' z
        · rw [z, hsum]; exact hcmp
  · rintro h6 tk6 m6 news6 F6 N6 hn6 ⟨rfl, ⟨ts, vj, vs', rfl⟩, hlt⟩
    unfold plMap at F6
    clear F1 N1
    rw [List.take_length] at F6
    have hpn : placeGo ns 0 0 k = none := placeGo_none fun i hi => by have := hlt i hi; lia
    cases en with
    | true =>
      obtain ⟨hpos, hlast, hlast2⟩ := hne rfl
      dsimp only
      walk_at "go"
      (rename News _ _ _ _ => N7); (rename Fr _ _ _ _ => F7)
      have hp : placeOf ns true k = (((ns.length : Nat) : Int) + 1 + Int.fdiv (k - ns.sum) (ns.getD ((-1 : Int) + (ns.length : Int)).toNat 0), Int.fmod (k - ns.sum) (ns.getD ((-1 : Int) + (ns.length : Int)).toNat 0) + 1) := by
        unfold placeOf
        rw [hpn]
        rfl
      refine RetTo.ret (hQ _ _ _ _ _ (fun b o q => F7.keep b o (hid.sup b o q (fun z => nomatch z))) ?_ (by rw [hp]; exact N7.get (.head _)))
      exact get_none_of (fun o q => ⟨o, hid.sup _ o q (fun z => nomatch z)⟩) (N7 _ (.head _)).2.2
    | false =>
      dsimp only
      walk_at "go"
      (rename News _ _ _ _ => N7); (rename Fr _ _ _ _ => F7)
      have hp : placeOf ns false k = (((ns.length : Nat) : Int) + 1, k - ns.sum + 1) := by
        unfold placeOf
        rw [hpn]
        rfl
      refine RetTo.ret (hQ _ _ _ _ _ (fun b o q => F7.keep b o (hid.sup b o q (fun z => nomatch z))) ?_ (by rw [hp]; exact N7.get (.head _)))
      exact get_none_of (fun o q => ⟨o, hid.sup _ o q (fun z => nomatch z)⟩) (N7 _ (.head _)).2.2
end Mine
namespace Mine
section
variable {M : Model} {A : Around} {R : GenEnd} {Y : Protocol} {n : Nat} {s₀ : Shared} {c : Code} {fs : List Frame} {s : Shared} {env : Env}
  {K : Flow → Sem Fin} {H : Value → Sem Fin} {gd : Bool → Bool} {lv : List Value → List Value}

theorem seg_If {test : Expr} {body orelse : List Stmt} {pos : Pos}
    (h : wpAny M (A.over c fs) (isTrue test env (eval test env)) (fun b s' => if b = true then Seg M A R Y n s₀ c ((execs body env).wrap K H gd lv) fs s' else Seg M A R Y n s₀ c ((execs orelse env).wrap K H gd lv) fs s')
      (fun x s' => Seg M A R Y n s₀ c (H x) fs s') s) : Seg M A R Y n s₀ c ((exec (.If test body orelse pos) env).wrap K H gd lv) fs s := by
  rw [arm_exec_If]
  refine seg_at ?_
  show Seg M A R Y n s₀ c (Sem.wrap K H gd lv (isTrue test env (eval test env) >>= _)) fs s
  rw [Sem.bind_eq_wrap', Sem.wrap_wrap]
  refine seg_wrap (wpAny_mono h (fun b s' hb => ?_) fun _ _ x => x)
  cases b with
  | true => exact hb
  | false => exact hb

/-- how a loop's code comes back to the statement -/
abbrev loopKont (env : Env) (K : Flow → Sem Fin) (H : Value → Sem Fin) (gd : Bool → Bool) (lv : List Value → List Value) (r : Result) : Sem Fin :=
  ((match r with | .ok f => (.pure f : Sem Flow) | .error e => .raise e).onRaise fun (x : Value) => do
        if (← field x 1) == Value.none then unsupported "frame.own-activation:exception-without-traceback"
        setFlight x env.frame).wrap K H gd lv

theorem seg_For {target iter : Expr} {body orelse : List Stmt} {pos : Pos} (hs : ∀ x, foldedSetIterable iter env x = pure x)
    (h : wpAny M (A.over c fs) (eval iter env) (fun x s₁ => wpAny M (A.over c fs) (pyIter x) (fun it s₂ => ∀ p, Seg M A R Y n s₀ (.forLoop target it body orelse env) (M.den (.forLoop target it body orelse env))
        (.ret (loopKont env K H gd lv) none (gd false) (lv []) c p [] :: fs) s₂) (fun e s' => Seg M A R Y n s₀ c (H e) fs s') s₁) (fun e s' => Seg M A R Y n s₀ c (H e) fs s') s) :
    Seg M A R Y n s₀ c ((exec (.For target iter body orelse pos) env).wrap K H gd lv) fs s := by
  rw [arm_exec_For]
  refine seg_at ?_
  show Seg M A R Y n s₀ c (Sem.wrap K H gd lv (eval iter env >>= _)) fs s
  rw [Sem.bind_eq_wrap', Sem.wrap_wrap]
  refine seg_wrap (wpAny_mono h (fun x s₁ h₁ => ?_) fun _ _ x => x)
  rw [hs]
  refine seg_at ?_
  show Seg M A R Y n s₀ c (Sem.wrap K H gd lv (holding [x] (pyIter x) >>= _)) fs s₁
  rw [Sem.bind_eq_wrap', Sem.wrap_wrap]
  refine seg_wrap (wpAny_holding (wpAny_mono h₁ (fun it s₂ h₂ => ?_) fun _ _ x => x))
  exact seg_call h₂
end

section
variable {prog : Program} {w : World} {A : Around} {R : GenEnd} {Y : Protocol} {n : Nat} {s₀ : Shared} {fs : List Frame} {s : Shared} {env : Env}
/-- an exception passes a loop's code -/
abbrev loopRaise (env : Env) (e : Value) : Sem Fin := (do noteFrame e env; theTreesLotGoes e : Sem Unit).wrap (fun _ => .raise e) .raise id id
abbrev forKont (target : Expr) (it : Value) (body orelse : List Stmt) (env : Env) (f : Flow) : Sem Fin :=
  match f with
  | .next | .cont => .pure (.again (.forLoop target it body orelse env))
  | .brk => .pure (.done .next)
  | .ret v => .pure (.done (.ret v))
theorem seg_forLoop {target : Expr} {it : Value} {body orelse : List Stmt} (ht : ∀ v, letOwnedTupleGo target it v = pure ())
    (h : wpAny (model prog w) (A.over (.forLoop target it body orelse env) fs) (pyNext it) (fun r s' => match r with
        | none => Seg (model prog w) A R Y n s₀ (.forLoop target it body orelse env) (.pure (.again (.block orelse env))) fs s'
        | some v => wpAny (model prog w) (A.over (.forLoop target it body orelse env) fs) (assign target env v)
            (fun _ s₂ => Seg (model prog w) A R Y n s₀ (.forLoop target it body orelse env) ((execs body env).wrap (forKont target it body orelse env) (loopRaise env) id id) fs s₂)
            (fun e s₂ => Seg (model prog w) A R Y n s₀ (.forLoop target it body orelse env) (loopRaise env e) fs s₂) s')
      (fun e s' => Seg (model prog w) A R Y n s₀ (.forLoop target it body orelse env) (loopRaise env e) fs s') s) :
    Seg (model prog w) A R Y n s₀ (.forLoop target it body orelse env) ((model prog w).den (.forLoop target it body orelse env)) fs s := by
  show Seg _ A R Y n s₀ _ ((forTurn target it body orelse env).onRaise (fun x => do noteFrame x env; theTreesLotGoes x)) fs s
  have hH : ∀ e, ((do noteFrame e env; theTreesLotGoes e : Sem Unit).bind fun _ => (.raise e : Sem Fin)) = loopRaise env e := fun e => Sem.bind_eq_wrap _ _
  rw [Sem.onRaise_eq_wrap, Sem.wrap_congr _ _ _ (K' := .pure) (H' := loopRaise env) (fun _ => rfl) hH]
  unfold forTurn
  refine seg_at ?_
  show Seg _ A R Y n s₀ _ (Sem.wrap _ _ _ _ ((pyNext it).onRaise _ >>= _)) fs s
  rw [Sem.bind_eq_wrap', Sem.wrap_wrap]
  refine seg_wrap (wpAny_onRaise (wpAny_mono h (fun r s' hr => ?_) fun e s' he => wpAny_standAt he))
  cases r with
  | none => exact hr
  | some v =>
    dsimp only
    rw [ht v]
    show Seg _ A R Y n s₀ _ (Sem.wrap _ _ _ _ (assign target env v >>= _)) fs s'
    rw [Sem.bind_eq_wrap', Sem.wrap_wrap]
    refine seg_wrap (wpAny_mono hr (fun _ s₂ h₂ => ?_) fun _ _ x => x)
    rw [Sem.bind_eq_wrap', Sem.wrap_wrap]
    refine Eq.mp (congrArg (fun k => Seg (model prog w) A R Y n s₀ (.forLoop target it body orelse env) (Sem.wrap k (loopRaise env) id id (execs body env)) fs s₂) (funext fun f => ?_)) h₂
    cases f <;> rfl
end
end Mine
namespace Mine
theorem sub_ve_stop : isSubtype (.type "ValueError") (.type "StopIteration") = pure false := by rw [isSubtype_type]; kernel_rfl
section
variable {prog : Program} {w : World} {A : Around} {E : Value → Shared → Prop} {s : Shared}
theorem next_gen {a : Addr} {g n : Nat} {gs : GenState} {P : Nat → Shared → Shared → Prop} {PE : Nat → Shared → Addr → Shared → Prop} {Y : Protocol} {Q : Option Value → Shared → Prop} (hh : A.handled = none)
    (hl : s.heap.NoLimit) (hroom : A.depth < recursionLimit)
    (hg : s.heap.IsGen a g) (hgs : s.gens[g]? = some gs)
    (hgo : gs.Goes (model prog w) A.in1 (fun n s₀ r s₁ => (r = .ok (.ret .none) ∧ P n s₀ s₁) ∨ ∃ e, r = .error (.ref e) ∧ PE n s₀ e s₁) Y n (.send .none) (s.setGen g .running))
    (hY : ∀ v s₁ gs', gs'.bare = true → Y (n - 1) (s.setGen g .running) v s₁ (fun r' s'' => match n with
        | 0 => False
        | m + 1 => gs'.Goes (model prog w) A.in1 (fun n s₀ r s₁ => (r = .ok (.ret .none) ∧ P n s₀ s₁) ∨ ∃ e, r = .error (.ref e) ∧ PE n s₀ e s₁) Y m r' s'') → Q (some v) (s₁.setGen g gs'))
    (hP : ∀ s₁, P n (s.setGen g .running) s₁ → ∀ h', (∀ b o, s₁.heap.get? b = some o → h'.get? b = some o) → Q none { s₁.setGen g .finished with heap := h' })
    (hPE : ∀ e s₁, PE n (s.setGen g .running) e s₁ → s₁.TypeIs (.ref e) "ValueError" ∧ s₁.heap.IsGen a g ∧ E (.ref e) (s₁.setGen g .finished)) :
    wpAny (model prog w) A (pyNext (.ref a)) Q E s := by
  unfold pyNext
  refine wpAny_bind (wpAny_attempt (wpAny_callSpecial?_slot (name := Str.ofString "__next__") hg.typeIs slot_gen_next
    (wpAny_call_entry slot_gen_next hg.typeIs entry_gen_next ?_ (args_gen_next _))))
  show wpAny _ _ (Builtin.Generator.genWake (.ref a) (.send .none)) _ _ s
  unfold Builtin.Generator.genWake
  refine wpAny_bind (wpAny_holding (wpAny_genNumber hg (wpAny_bind (wpAny_genState hgs ?_))))
  cases gs with
  | running => exact hgo.elim
  | finished => exact hgo.elim
  | _ =>
    refine wpAny_bind (wpAny_roomToWake hl hroom ?_)
    show wpAny _ _ (.resume g (.send .none) [] _) _ _ s
    refine wpAny_resumeQ hgs hgo (fun x s₁ hx => ?_) (fun v s₁ gs' hb hv => ?_)
    · rcases hx with ⟨rfl, hp⟩ | ⟨e, rfl, hp⟩
      · show wpAny _ _ (newExc (.type "StopIteration") [] >>= _) _ _ _
        refine wpAny_bind ?_
        simp only [newExc, newTuple]
        refine wpAny_bind (wpAny_newObj_type ?_ (by size_fits))
        refine wpAny_bind (m := firstArgMember _ _) (wpAny_of_eq (a := Value.none) (by first | rfl | (simp only [firstArgMember]; rfl)) ?_)
        refine wpAny_newObj_type ?_ (by size_fits)
        simp only [raiseNew]
        refine wpAny_bind (wpAny_bind (wpAny_handled ?_))
        rw [show A.in1.handled = none from hh]
        refine wpAny_throw ?_
        refine wpAny_bind (wpAny_isInstance (T := "StopIteration") (b := true) ⟨_, Heap.get?_push_size _ rfl, rfl⟩ isSubtype_stop ?_)
        exact wpAny_pure (hP s₁ hp _ fun b o hb => Heap.get?_push_of_some _ (Heap.get?_push_of_some _ hb))
      · obtain ⟨ht, hg₁, hE⟩ := hPE e s₁ hp
        have ht' : (s₁.setGen g .finished).TypeIs (.ref e) "ValueError" := ht
        obtain ⟨o, nm, qn, ho, hc, hd, hsl⟩ := hg₁
        have ho' : (s₁.setGen g .finished).heap.get? a = some o := ho
        show wpAny _ _ (Builtin.Generator.genLeft (.ref a) (.ref e)) _ _ _
        unfold Builtin.Generator.genLeft Builtin.Generator.madeByALambda
        refine wpAny_bind (wpAny_bind (wpAny_load ho' ?_))
        refine wpAny_pure ?_
        refine wpAny_bind (wpAny_isInstance ht' sub_ve_stop ?_)
        rw [hd, if_neg (by simp)]
        unfold Builtin.Generator.genEscaped
        refine wpAny_bind (wpAny_isInstance ht' sub_ve_stop ?_)
        refine wpAny_throw ?_
        refine wpAny_bind (wpAny_isInstance ht' sub_ve_stop ?_)
        exact wpAny_throw hE
    · exact wpAny_pure ⟨v, rfl, wpAny_pure (hY v s₁ gs' hb hv)⟩
end
end Mine
namespace Mine
theorem callG {prog : Program} {w : World} {A : Around} {Q E : Value → Shared → Prop} {h : Heap} {gs : Array GenState} {dr : Drawn} {tk : Nat} {os : OsState} {K : Frag} {name qual : Str} {params : Arguments} {body : List Stmt} {scope : Scope} {dV kV doc pm cdv ct oc : Value} {an od : Option Addr} {osl : Array (Option Value)}
    {f : Addr} {vs : List Value} {kw : List (Str × Value)} {binds : List (Str × Value)} (X : K.In h)
    (ho : K.lookup f = some ⟨oc, od, .func (fnOf name qual params body scope dV kV doc pm an cdv ct), osl⟩) (hcd : codeIn K cdv qual = true) (hlim : h.NoLimit) (hroom : A.depth < recursionLimit)
    (hbind : BindsTo ⟨h, gs, dr, tk, os⟩ (fnOf name qual params body scope dV kV doc pm an cdv ct) ⟨vs, kw⟩ binds) (hloc : ∀ y ∈ binds, scope.names.lookup y.1 = some .local)
    (hb : ∀ C a h₂ tk', C = h.objs.size → a = C + 1 → h₂.objs.size = a + 1 → h₂.Ns C (fun y => binds.reverse.lookup y) → (∀ b o, h.get? b = some o → h₂.get? b = some o) → h₂.IsGen a gs.size →
      Q (.ref a) ⟨h₂, gs.push (.fresh (.func body (envOf qual scope C f cdv))), dr, tk', os⟩)
    (hcell : ∀ x ∈ scope.names, x.2 ≠ .cell) (hco : scope.isCoroutine = false) (hgen : scope.isGenerator = true) (hk : scope.kind = .function) :
    wpAny (model prog w) A (call (.ref f) vs kw) Q E ⟨h, gs, dr, tk, os⟩ := by
  refine wpAny_call (codeAny_call_generator (fd := fnOf name qual params body scope dV kV doc pm an cdv ct) (body := body) hroom (X _ _ ho) rfl hco hgen rfl (codeRec_of X hcd) (hbind _ _ _ _ ?_))
  refine wpAny_newFunctionEnv hcell hloc (fun h₁ hns hsb => ?_) hk
  have hsz : h₁.objs.size = h.objs.size + 1 := by rw [hsb.1]; exact Heap.size_push ..
  have kp : ∀ b o, h.get? b = some o → h₁.get? b = some o := fun b o e => hsb.extBut b o (Nat.ne_of_lt (Heap.lt_size e)) (Heap.get?_push_of_some _ e)
  refine ⟨hlim.fresh _ hsb, ?_⟩
  dsimp only
  rw [hsz]
  refine hb _ _ _ _ rfl rfl (by rw [Heap.size_push, hsz]) (hns.push _) (fun b o e => Heap.get?_push_of_some _ (kp b o e)) ?_
  have := Heap.get?_push_size h₁ (o := { cls := .type "generator", data := .fields #[.int gs.size 0, .str name (tk + binds.length), .str qual (tk + binds.length + 1)] }) rfl
  rw [hsz] at this
  exact ⟨_, _, _, this, rfl, rfl, rfl⟩
/-- of a heap, some addresses -/
def only (h : Heap) (p : Addr → Bool) : Heap := hideAll h ((List.range h.objs.size).filter fun b => !p b)
theorem only_sub {h : Heap} {p : Addr → Bool} {b : Addr} {o : Obj} (e : (only h p).get? b = some o) : h.get? b = some o ∧ p b = true := by
  refine ⟨of_hideAll _ e, ?_⟩
  cases q : p b with
  | true => rfl
  | false =>
    have : b ∈ (List.range h.objs.size).filter fun b => !p b := List.mem_filter.mpr ⟨List.mem_range.mpr (Heap.lt_size (of_hideAll _ e)), by rw [q]; rfl⟩
    unfold only at e
    rw [hideAll_none _ this] at e
    cases e
theorem only_get {h : Heap} {p : Addr → Bool} {b : Addr} {o : Obj} (e : h.get? b = some o) (q : p b = true) : (only h p).get? b = some o :=
  hideAll_get _ e fun hm => by have := (List.mem_filter.mp hm).2; rw [q] at this; cases this
theorem only_size {h : Heap} {p : Addr → Bool} : (only h p).objs.size = h.objs.size := hideAll_size _ _
/-- the heap below an address -/
def trunc (h : Heap) (C : Addr) : Heap := { h with objs := (h.objs.toList.take C).toArray }
theorem trunc_objs {h : Heap} {C b : Addr} (hb : b < C) : (trunc h C).objs[b]? = h.objs[b]? := by
  unfold trunc
  rw [List.getElem?_toArray, List.getElem?_take_of_lt hb, Array.getElem?_toList]
theorem trunc_get {h : Heap} {C b : Addr} {o : Obj} (e : h.get? b = some o) (hb : b < C) : (trunc h C).get? b = some o := by
  unfold Heap.get? at *
  rw [trunc_objs hb]; exact e
theorem trunc_size {h : Heap} {C : Addr} : (trunc h C).objs.size ≤ C := by unfold trunc; simp; lia
theorem trunc_sub {h : Heap} {C b : Addr} {o : Obj} (e : (trunc h C).get? b = some o) : h.get? b = some o ∧ b < C := by
  have hb : b < C := Nat.lt_of_lt_of_le (Heap.lt_size e) trunc_size
  refine ⟨?_, hb⟩
  unfold Heap.get? at *
  rw [trunc_objs hb] at e; exact e
/-- wellfounded: a segment by its fuel -/
theorem seg_ind {M : Model} {A : Around} {R : GenEnd} {Y : Protocol} {c : Code} {t : Sem Fin} {fs : List Frame} (I : Nat → Shared → Shared → Prop)
    (step : ∀ n, (∀ m, m < n → ∀ s₀ s, I m s₀ s → Seg M A R Y m s₀ c t fs s) → ∀ s₀ s, I n s₀ s → Seg M A R Y n s₀ c t fs s) : ∀ n s₀ s, I n s₀ s → Seg M A R Y n s₀ c t fs s := by
  intro n
  induction n using Nat.strongRecOn with
  | ind n ih => exact step n fun m hm => ih m hm
/-- the steps of the generator by the row's entries -/
def plainLen : List Int → Nat
  | [] => 0
  | x :: r => if x = 0 ∨ x = 127 then 0 else plainLen r + 1
def outAt (ns : List Int) (j : Nat) : Option Int :=
  if j < plainLen ns then ns[j]? else if ns[plainLen ns]? = some 0 ∧ 0 < plainLen ns then ns[plainLen ns - 1]? else none
end Mine
namespace Mine
local macro_rules | `(tactic| omega) => `(tactic| lia)
abbrev gBinds (row : Addr) : List (Str × Value) := [(Str.ofString "grouping", .ref row)]
def gMap (row : Addr) (vi vl : Option Value) (y : Str) : Option Value :=
  if y = Str.ofString "interval" then vi else if y = Str.ofString "last_interval" then vl else (gBinds row).reverse.lookup y
/-- the generator's own part of the heap after j outputs -/
def GAfter (h₀ : Heap) (C row : Addr) (ns : List Int) (j : Nat) (I : Addr) (h : Heap) : Prop :=
  (∃ o, h.get? (C + 1) = some o) ∧ (
  (j = 0 ∧ I = C ∧ Fr h₀ C h (fun y => (gBinds row).reverse.lookup y)) ∨
  (0 < j ∧ j ≤ plainLen ns ∧ C + 2 ≤ I ∧ h.IsListIter I row j ∧ ∃ x t v, ns[j - 1]? = some x ∧ Fr h₀ C h (gMap row (some (.int x t)) v)) ∨
  (plainLen ns < j ∧ ns[plainLen ns]? = some 0 ∧ 0 < plainLen ns ∧ C + 2 ≤ I ∧ (∃ o, h.get? I = some o) ∧ ∃ x t v, ns[plainLen ns - 1]? = some x ∧ Fr h₀ C h (gMap row v (some (.int x t)))))
structure GMv (C : Addr) (s s' : Shared) : Prop where
  g : s'.gens = s.gens
  d : s'.drawn = s.drawn
  o : s'.os = s.os
  k : ∀ b o, b ≠ C → b < C + 2 → s.heap.get? b = some o → s'.heap.get? b = some o
/-- a yield -/
def GY (h₀ : Heap) (C row : Addr) (ns : List Int) (N : Nat) : Protocol := fun n s₀ v s' kap =>
  ∃ x t I, v = .int x t ∧ outAt ns (N - 1 - n) = some x ∧ GMv C s₀ s' ∧ GAfter h₀ C row ns (N - n) I s'.heap ∧ (n ≠ 0 → ∀ s'', GAfter h₀ C row ns (N - n) I s''.heap → kap (.send .none) s'')
/-- a return -/
def GP (C : Addr) (ns : List Int) (N : Nat) (n : Nat) (s₀ s' : Shared) : Prop := outAt ns (N - n) = none ∧ ns[0]? ≠ some 0 ∧ GMv C s₀ s'
/-- the raise -/
inductive GPE (C : Addr) (ns : List Int) (outer : List Env) (n : Nat) (s₀ : Shared) (e : Addr) (s' : Shared) : Prop
  | mk : (ns[0]? = some 0) → (s'.gens = s₀.gens) → (s'.drawn = s₀.drawn) → (s'.os = s₀.os) → ∀ h0 vs t ty, (Ex (frs outer) h0 s'.heap e (.type "ValueError") vs (some .none)) → (vs[0]? = some (.ref t)) → (h0.get? t = some { cls := .type "tuple", data := .seq #[.str (Str.ofString "invalid grouping") ty] }) → (t ∉ frs outer) → (t ≠ e) → (e ∉ frs outer) → ((e < C + 2 → s₀.heap.get? e = none)) → ((t < C + 2 → s₀.heap.get? t = none)) → ((∀ b o, b ≠ C → b < C + 2 → s₀.heap.get? b = some o → h0.get? b = some o)) → (FramesOk s'.heap outer) → GPE C ns outer n s₀ e s'
abbrev GR (C : Addr) (ns : List Int) (N : Nat) (outer : List Env) : GenEnd := fun n s₀ r s₁ => (r = .ok (.ret .none) ∧ GP C ns N n s₀ s₁) ∨ ∃ e, r = .error (.ref e) ∧ GPE C ns outer n s₀ e s₁
/-- before a turn of the generator's loop -/
inductive GJ (h₀ : Heap) (C row I : Addr) (ns : List Int) (outer : List Env) (N n : Nat) (s₀ s : Shared) : Prop
  | mk : (0 < n) → (n ≤ N) → (N - n ≤ plainLen ns) → (C + 2 ≤ I) → ((N - n = 0 → FramesOk s₀.heap outer)) → (h₀.StaysIn (trunc s₀.heap C)) → (s.gens = s₀.gens) → (s.drawn = s₀.drawn) → (s.os = s₀.os) → (s.heap.IsListIter I row (N - n)) → ∀ vi vl o1, (s₀.heap.get? (C + 1) = some o1) → (Fr (trunc s₀.heap C) C s.heap (gMap row vi vl)) → (News (trunc s₀.heap C) C s.heap [(C + 1, o1)]) → ((N - n = 0 → vl = some .none)) → ((0 < N - n → ∃ x t, ns[N - n - 1]? = some x ∧ vl = some (.int x t))) → GJ h₀ C row I ns outer N n s₀ s
/-- before a turn of its endless loop -/
inductive GW (h₀ : Heap) (C row I : Addr) (ns : List Int) (N n : Nat) (s₀ s : Shared) : Prop
  | mk : (0 < n) → (n ≤ N) → (plainLen ns ≤ N - n) → (ns[plainLen ns]? = some 0) → (0 < plainLen ns) → (C + 2 ≤ I) → (h₀.StaysIn (trunc s₀.heap C)) → (s.gens = s₀.gens) → (s.drawn = s₀.drawn) → (s.os = s₀.os) → ∀ vi x t oI o1, (ns[plainLen ns - 1]? = some x) → (s₀.heap.get? (C + 1) = some o1) → (Fr (trunc s₀.heap C) C s.heap (gMap row vi (some (.int x t)))) → (News (trunc s₀.heap C) C s.heap [(I, oI), (C + 1, o1)]) → GW h₀ C row I ns N n s₀ s
theorem gmv_of {C : Addr} {s₀ s : Shared} {m : Str → Option Value} {news : List (Addr × Obj)} {o1 : Obj} (F : Fr (trunc s₀.heap C) C s.heap m) (N : News (trunc s₀.heap C) C s.heap news) (h1 : s₀.heap.get? (C + 1) = some o1) (hm : (C + 1, o1) ∈ news)
    (e1 : s.gens = s₀.gens) (e2 : s.drawn = s₀.drawn) (e3 : s.os = s₀.os) : GMv C s₀ s := ⟨e1, e2, e3, fun b o hb hlt q => by
  rcases Nat.lt_or_ge b C with z | z
  · exact F.keep b o (trunc_get q z)
  · have hb' : b = C + 1 := Nat.le_antisymm (Nat.le_of_lt_succ hlt) (Nat.lt_of_le_of_ne z (Ne.symm hb))
    rw [hb', h1] at q
    cases q
    rw [hb']
    exact N.get hm⟩
theorem plainLen_stop : ∀ {ns : List Int} {j : Nat} {y : Int}, j ≤ plainLen ns → ns[j]? = some y → (y = 0 ∨ y = 127) → plainLen ns = j
  | x :: r, 0, y, _, h, hy => by
    simp only [List.getElem?_cons_zero, Option.some.injEq] at h
    unfold plainLen
    rw [if_pos (by rw [h]; exact hy)]
  | x :: r, j + 1, y, hj, h, hy => by
    unfold plainLen at hj ⊢
    by_cases hx : x = 0 ∨ x = 127
    · rw [if_pos hx] at hj; lia
    · rw [if_neg hx] at hj ⊢
      rw [plainLen_stop (ns := r) (j := j) (by lia) (by simpa using h) hy]
theorem plainLen_go : ∀ {ns : List Int} {j : Nat} {y : Int}, j ≤ plainLen ns → ns[j]? = some y → y ≠ 0 → y ≠ 127 → j < plainLen ns
  | x :: r, 0, y, _, h, h0, h1 => by
    simp only [List.getElem?_cons_zero, Option.some.injEq] at h
    unfold plainLen
    rw [if_neg (by rw [h]; exact fun z => z.elim h0 h1)]
    exact Nat.succ_pos _
  | x :: r, j + 1, y, hj, h, h0, h1 => by
    unfold plainLen at hj ⊢
    by_cases hx : x = 0 ∨ x = 127
    · rw [if_pos hx] at hj; lia
    · rw [if_neg hx] at hj ⊢
      have := plainLen_go (ns := r) (j := j) (by lia) (by simpa using h) h0 h1
      lia
theorem plainLen_le : ∀ (ns : List Int), plainLen ns ≤ ns.length
  | [] => Nat.le_refl _
  | x :: r => by
    unfold plainLen
    have := plainLen_le r
    split <;> simp <;> lia
theorem plainLen_zero {ns : List Int} (h : ns[0]? = some 0) : plainLen ns = 0 := plainLen_stop (Nat.zero_le _) h (.inl rfl)
theorem seg_backErr {M : Model} {A : Around} {R : GenEnd} {Y : Protocol} {n : Nat} {s₀ : Shared} {c : Code} {fs : List Frame} {s : Shared} {env : Env} {K : Flow → Sem Fin} {H : Value → Sem Fin} {gd : Bool → Bool} {lv : List Value → List Value} {e : Value}
    (h : wpAny M (A.over c fs) (do
        if (← field e 1) == Value.none then unsupported "frame.own-activation:exception-without-traceback"
        setFlight e env.frame) (fun _ s' => Seg M A R Y n s₀ c (H e) fs s') (fun x s' => Seg M A R Y n s₀ c (H x) fs s') s) : Seg M A R Y n s₀ c (loopKont env K H gd lv (.error e)) fs s := by
  show Seg M A R Y n s₀ c (Sem.wrap K H gd lv (Sem.bind (do
        if (← field e 1) == Value.none then unsupported "frame.own-activation:exception-without-traceback"
        setFlight e env.frame) fun _ => .raise e)) fs s
  rw [Sem.bind_eq_wrap, Sem.wrap_wrap]
  exact seg_wrap h
set_option maxRecDepth 100000 in
set_option maxHeartbeats 4000000 in
theorem gen {w : World} {mg mb : Str → Option Value} {loose : List Str} {mean : ExcName → Option Value} {gb : Heap} (G : Gd w mg mb loose mean gb)
    {A : Around} {h : Heap} {gs : Array GenState} {dr : Drawn} {tk : Nat} {os : OsState} {Q E : Value → Shared → Prop} {row : Addr} {vs : List Value} {ns : List Int} {outer : List Env}
    (hd : A.depth ≤ 390) (hu : A.units ≤ 900) (hh : A.handled = none) (hfr : A.frames = some outer) (hok : FramesOk h outer) (hfb : ∀ b ∈ frs outer, gb.get? b = none ∧ b ≠ row)
    (st : gb.StaysIn h) (hl : h.IsList row vs.toArray) (hi : IntsAre vs ns)
    (hQ : ∀ C a h₂ tk' h₀ gs', C = h.objs.size → a = C + 1 → h₂.objs.size = a + 1 → (∀ b o, h.get? b = some o → h₂.get? b = some o) → h₂.IsGen a gs.size → gs'.bare = true → (∀ b o, h₀.get? b = some o → h.get? b = some o ∧ ((gb.get? b).isSome = true ∨ b = row)) → h₀.objs.size = C →
      GAfter h₀ C row ns 0 C h₂ → (∀ N I s, 0 < N → GAfter h₀ C row ns 0 I s.heap → FramesOk s.heap outer → gs'.Goes (model PySem.Challenge.rw_ny0036_01.row.prog w) A.in1 (GR C ns N outer) (GY h₀ C row ns N) N (.send .none) s) →
      Q (.ref a) ⟨h₂, gs.push gs', dr, tk', os⟩) :
    wpAny (model PySem.Challenge.rw_ny0036_01.row.prog w) A (call (.ref 48) [.ref row] []) Q E ⟨h, gs, dr, tk, os⟩ := by
  w_top off
  k_with_none
  k_with "exec Raise some none" => (rw [arm_exec_Raise]; refine' wpAny_bind (wpAny_standAt ?_); refine' hold ?_)
  k_with "call type:ValueError cons nil" => refine' hold ?_
  obtain ⟨ah, ad, af, ag, au⟩ := A
  cases hh; cases hfr
  dsimp only at hd hu
  have X := (G.keeps st).1
  have T := (G.keeps st).2.1
  revert X; k_fill; intro X
  refine' callG (binds := gBinds row) X ?k6 ?k7 T.nolimit ?k8 ?k9 ?kB ?_ ?c5 ?c2 ?c3 ?c4
  case k6 => k_is
  case k7 => k_is
  case k8 => exact Nat.lt_of_le_of_lt hd (by decide)
  case k9 => exact BindsTo.of_eq rfl
  case kB => exact locs rfl
  case c5 => decide
  case c2 => exact rfl
  case c3 => exact rfl
  case c4 => exact rfl
  intro C a h₂ tk₂ eC ea sz2 ns2 k2 isg
  have st₀ : gb.StaysIn (only h fun b => (gb.get? b).isSome || b == row) := fun b o q => only_get (st b o q) (by rw [q]; rfl)
  have size₀ : (only h fun b => (gb.get? b).isSome || b == row).objs.size = C := by rw [only_size, eC]
  have sub₀ : ∀ b o, (only h fun b => (gb.get? b).isSome || b == row).get? b = some o → h.get? b = some o ∧ ((gb.get? b).isSome = true ∨ b = row) := fun b o q => by
    obtain ⟨q1, q2⟩ := only_sub q
    rw [Bool.or_eq_true] at q2
    exact ⟨q1, q2.imp id (fun z => by simpa using z)⟩
  have hl₀ : (only h fun b => (gb.get? b).isSome || b == row).IsList row vs.toArray := let ⟨o, ho, r⟩ := hl; ⟨o, only_get ho (by simp), r⟩
  generalize (only h fun b => (gb.get? b).isSome || b == row) = h₀ at *
  obtain ⟨X₀, T₀, C₀⟩ := G.keeps st₀
  have F2 : Fr h₀ C h₂ (fun y => (gBinds row).reverse.lookup y) := ⟨ns2, fun b o q => k2 b o (sub₀ b o q).1, Nat.le_of_eq size₀⟩
  refine hQ C a h₂ tk₂ h₀ _ eC ea sz2 k2 isg rfl sub₀ size₀ ⟨let ⟨o, _, _, ho, _⟩ := isg; ⟨o, ea ▸ ho⟩, .inl ⟨rfl, rfl, F2⟩⟩ ?_
  clear F2
  clear ns2 X T
  have hdd : ∀ k, k ≤ 10 → ad + k ≤ 400 := fun k hk => by lia
  have huu : ∀ k, k ≤ 30 → au + k ≤ 1000 := fun k hk => by lia
  intro N I s hN ga okf
  obtain ⟨⟨o1, ho1⟩, ga⟩ := ga
  rcases ga with ⟨_, eI, F⟩ | ⟨z, _⟩ | ⟨_, _, z, _⟩
  rotate_left
  · exact absurd z (Nat.lt_irrefl _)
  · lia
  clear eI
  have hsz : C + 2 ≤ s.heap.objs.size := Heap.lt_size ho1
  have below : ∀ b o, h₀.get? b = some o → b < C := fun b o q => by have := Heap.lt_size q; rw [size₀] at this; exact this
  have H1 : h₀.StaysIn (trunc s.heap C) := fun b o q => trunc_get (F.keep b o q) (below b o q)
  have st₁ : gb.StaysIn (trunc s.heap C) := fun b o q => H1 b o (st₀ b o q)
  have hl₁ : (trunc s.heap C).IsList row vs.toArray := let ⟨o, ho, r⟩ := hl₀; ⟨o, H1 _ _ ho, r⟩
  have F1 : Fr (trunc s.heap C) C s.heap (fun y => (gBinds row).reverse.lookup y) := ⟨F.ns, fun b o q => (trunc_sub q).1, trunc_size⟩
  have N1 : News (trunc s.heap C) C s.heap [(C + 1, o1)] := fun q hq => by
    rw [List.mem_singleton.mp hq]
    exact ⟨ho1, Nat.succ_ne_self _, Heap.get?_none_of_le (Nat.le_trans trunc_size (Nat.le_succ _))⟩
  refine ⟨rfl, seg_func (seg_execs_cons (seg_wrap ?_))⟩
  refine wpAny_ax (d := 400) (u := 1000) (hdd 1 (by decide)) (huu 4 (by decide)) ?_
  obtain ⟨X₁, T₁, C₁⟩ := G.keeps st₁
  clear F X₀ T₀ C₀
  obtain ⟨hp, gs1, dr1, tk1, os1⟩ := s
  generalize ht : trunc hp C = t at *
  walk_at "go"
  (rename News _ _ _ _ => N2); (rename Fr _ _ _ _ => F2)
  refine seg_execs_cons (seg_For (fun _ => by with_unfolding_all rfl) ?_)
  refine wpAny_ax (d := 400) (u := 1000) (hdd 1 (by decide)) (huu 4 (by decide)) ?_
  walk_at "go"
  rename_i h5
  have sz5 : C + 2 ≤ h5.objs.size := Heap.lt_size (N2.get (.head _))
  refine wpAny_pyIter_list (F2.lst hl₁) ?_
  intro p₁
  have kpush : ∀ b o, h5.get? b = some o → (h5.push { cls := .type "list_iterator", data := .fields #[.ref row, .int 0 0] }).get? b = some o := fun b o q => Heap.get?_push_of_some _ q
  have hit := Heap.get?_push_size h5 (o := { cls := .type "list_iterator", data := .fields #[.ref row, .int 0 0] }) rfl
  dsimp only
  generalize h5.push { cls := .type "list_iterator", data := .fields #[.ref row, .int 0 0] } = h6 at *
  generalize hI0 : h5.objs.size = I0 at *
  have hJ : GJ h₀ C row I0 ns outer N N ⟨hp, gs1, dr1, tk1, os1⟩ ⟨h6, gs1, dr1, tk1 + 1, os1⟩ := by
    refine ⟨hN, Nat.le_refl _, by lia, sz5, fun _ => okf, ht ▸ H1, rfl, rfl, rfl, ?_, none, some .none, o1, ho1, ht ▸ ?_, ht ▸ News.ext N2 kpush, fun _ => rfl, fun z => by lia⟩
    · rw [Nat.sub_self]; exact ⟨_, hit, rfl, rfl⟩
    · refine Mine.Fr.congr (Mine.Fr.ext F2 kpush) fun y => ?_
      unfold gMap
      by_cases h1 : y = Str.ofString "interval"
      · rw [if_pos h1, h1]; with_unfolding_all rfl
      · rw [if_neg h1]
  clear N2 F2 kpush hit hI0 X₁ T₁ C₁
  refine seg_ind (GJ h₀ C row I0 ns outer N) ?_ N _ _ hJ
  clear hJ
  rintro n ih ⟨p0, pg, pd, pt, po⟩ ⟨q0, qg, qd, qt, qo⟩ ⟨hn0, hnN, hjp, hI0, hok0, H1, e1, e2, e3, hit, vi, vl, o1, ho1, F2, N2, hv0, hv1⟩
  cases e1; cases e2; cases e3
  clear st₁ hl₁
  have st₁ : gb.StaysIn (trunc p0 C) := fun b o q => H1 b o (st₀ b o q)
  have hl₁ : (trunc p0 C).IsList row vs.toArray := let ⟨o, ho, r⟩ := hl₀; ⟨o, H1 _ _ ho, r⟩
  obtain ⟨X₁, T₁, C₁⟩ := G.keeps st₁
  dsimp only at hok0 H1 hit ho1 F2 N2
  have hlq : q0.IsList row vs.toArray := F2.lst hl₁
  have It : (trunc p0 C).get? I0 = none := Heap.get?_none_of_le (Nat.le_trans trunc_size (by lia))
  refine seg_forLoop (fun _ => by with_unfolding_all rfl) ?_
  refine wpAny_ax (d := 400) (u := 1000) (hdd 1 (by decide)) (huu 4 (by decide)) ?_
  have hlen : vs.length = ns.length := hi.length
  have hCI : C ≠ I0 := Nat.ne_of_lt (Nat.lt_of_lt_of_le (Nat.lt_succ_of_lt (Nat.lt_succ_self C)) hI0)
  have hCI1 : C + 1 ≠ I0 := Nat.ne_of_lt (Nat.lt_of_lt_of_le (Nat.lt_succ_self (C + 1)) hI0)
  cases hx : vs.toArray[N - n]? with
  | none =>
    refine wpAny_pyNext_list_end rfl hit hlq hx fun h7 ext7 => ?_
    refine seg_again rfl ?_
    refine seg_leaf (.ok .next) ?_
    refine seg_end (.ok (.ret .none)) (.inl ⟨rfl, ?_⟩)
    have hge : ns.length ≤ N - n := by
      have := Array.getElem?_eq_none_iff.mp hx
      simp at this
      lia
    have hpl := plainLen_le ns
    have hpe : plainLen ns = ns.length := by lia
    refine ⟨?_, fun z => ?_, rfl, rfl, rfl, fun b o hb hlt q => ?_⟩
    · unfold outAt
      rw [if_neg (by lia), if_neg (fun z => by rw [hpe, List.getElem?_eq_none (Nat.le_refl _)] at z; cases z.1)]
    · have z1 := plainLen_zero z
      have := (List.getElem?_eq_some_iff.mp z).1
      lia
    · have g := gmv_of (s₀ := ⟨p0, pg, pd, pt, po⟩) (s := ⟨q0, pg, pd, qt, po⟩) F2 N2 ho1 (.head _) rfl rfl rfl
      exact ext7 b o (Nat.ne_of_lt (Nat.lt_of_lt_of_le hlt hI0)) (g.k b o hb hlt q)
  | some x =>
    refine wpAny_pyNext_list_item hit hlq hx fun h7 hit7 sb7 => ?_
    obtain ⟨y, ty, rfl⟩ : ∃ y ty, x = .int y ty := by
      obtain ⟨y, ty, e, _⟩ := hi.at (N - n) x (by simpa using hx)
      exact ⟨y, ty, e⟩
    have hy : ns[N - n]? = some y := by
      obtain ⟨y', ty', e, z⟩ := hi.at (N - n) (.int y ty) (by simpa using hx)
      cases e; exact z
    have F7 : Fr (trunc p0 C) C h7 (gMap row vi vl) := by
      refine ⟨?_, fun b o q => ?_, F2.above⟩
      · obtain ⟨o, es, ep, ho, r⟩ := F2.ns
        exact ⟨o, es, ep, (sb7.2 C hCI).trans ho, r⟩
      · exact (sb7.2 b (fun z => by rw [z, It] at q; cases q)).trans (F2.keep b o q)
    have N7 : News (trunc p0 C) C h7 [(C + 1, o1)] := fun q hq => by
      obtain ⟨n1, n2, n3⟩ := N2 q hq
      rw [List.mem_singleton.mp hq] at *
      exact ⟨(sb7.2 _ hCI1).trans n1, n2, n3⟩
    obtain ⟨oI, hoI, hcI⟩ := hit7
    have N7' : News (trunc p0 C) C h7 [(I0, oI), (C + 1, o1)] := fun q hq => by
      rcases List.mem_cons.mp hq with rfl | hq
      · exact ⟨hoI, Ne.symm hCI, It⟩
      · exact N7 q hq
    clear N7 N2 F2
    generalize ht : trunc p0 C = t at *
    unfold gMap at F7
    dsimp only
    walk_at "go"
    refine seg_execs_cons (seg_If ?_)
    refine wpAny_ax (d := 400) (u := 1000) (hdd 1 (by decide)) (huu 4 (by decide)) ?_
    walk_at "go"
    · rename_i hy127
      refine seg_execs_cons (seg_wrap ?_)
      refine wpAny_ax (d := 400) (u := 1000) (hdd 1 (by decide)) (huu 4 (by decide)) ?_
      walk_at "go"
      (rename News _ _ _ _ => N8); (rename Fr _ _ _ _ => F8)
      refine seg_leaf (.ok (.ret .none)) ?_
      refine seg_end (.ok (.ret .none)) (.inl ⟨rfl, ?_⟩)
      have hpl := plainLen_stop hjp hy (.inr hy127)
      refine ⟨?_, fun z => ?_, gmv_of (ht ▸ F8) (ht ▸ N8) ho1 (.tail _ (.head _)) rfl rfl rfl⟩
      · unfold outAt
        rw [if_neg (by lia), hpl, if_neg (fun z => by rw [hy, hy127] at z; cases z.1)]
      · have z1 := plainLen_zero z
        rw [show N - n = 0 by lia, z] at hy
        cases hy; cases hy127
    · rename_i hy127
      refine seg_execs_nil ?_
      refine seg_execs_cons (seg_If ?_)
      refine wpAny_ax (d := 400) (u := 1000) (hdd 1 (by decide)) (huu 4 (by decide)) ?_
      walk_at "go"
      · rename_i hy0
        have hpl := plainLen_stop hjp hy (.inl hy0)
        by_cases hj0 : N - n = 0
        · obtain rfl := hv0 hj0
          refine seg_execs_cons (seg_If ?_)
          refine wpAny_ax (d := 400) (u := 1000) (hdd 1 (by decide)) (huu 4 (by decide)) ?_
          walk_at "go"
          refine seg_execs_cons (seg_wrap ?_)
          refine wpAny_ax (d := 400) (u := 1000) (hdd 1 (by decide)) (huu 4 (by decide)) ?_
          walk_at "go"
          refine wpAny_raiseStmt_made PySem.F.excRaise_ValueError rfl ?_
          refine wpAny_bind ?_
          walk_at "go"
          (rename News _ _ _ _ => N8); (rename Fr _ _ _ _ => F8)
          refine wpAny_call_exc PySem.F.excCall_ValueError fun h9 e me => ?_
          refine wpAny_bind (wpAny_standAt (wpAny_pure ?_))
          obtain ⟨t2, he9, t2n, ht9⟩ := me.there
          refine ⟨e, t2, rfl, he9, ?_⟩
          subst ht
          have okp : FramesOk p0 outer := hok0 hj0
          have g8 := (gmv_of (s₀ := ⟨p0, pg, pd, pt, po⟩) (s := ⟨_, pg, pd, 0, po⟩) F8 N8 ho1 (.tail _ (.head _)) rfl rfl rfl).k
          dsimp only at g8
          have frC : ∀ b ∈ frs outer, b < C := fun b hb => by
            obtain ⟨o, es, n', ho, _⟩ := hok.mem b hb
            rw [eC]; exact Heap.lt_size ho
          have ok9 : FramesOk h9 outer := fun en hen => by
            obtain ⟨hk, L', o, es, n', hf', ho', hd'⟩ := okp en hen
            have hl' := frC L' (List.mem_filterMap.mpr ⟨en, hen, hf'⟩)
            exact ⟨hk, L', o, es, n', hf', me.keeps _ _ (g8 L' o (Nat.ne_of_lt hl') (Nat.lt_succ_of_lt (Nat.lt_succ_of_lt hl')) ho'), hd'⟩
          have ns9 := F8.ns.keeps me.keeps
          refine seg_wrap (wpAny_bind ?_)
          refine Ex.note (Ex.start he9 rfl rfl rfl) (.inl rfl) rfl (framesOk_cons rfl rfl ns9 ok9) rfl fun h10 T10 X10 ok10 => ?_
          refine wpAny_theTreesLotGoes ?_
          refine seg_leaf (.error (.ref e)) ?_
          refine seg_backErr ?_
          obtain ⟨T1, e1⟩ := X10.one
          obtain ⟨o10, ho10, _, hd10⟩ := X10.there
          refine wpAny_bind (wpAny_field (i := 1) ho10 hd10 e1 ?_)
          rw [if_neg (show ¬ ((Value.ref T1 == Value.none) = true) from by simp)]
          refine Ex.flight X10 ok10 fun h11 X11 ok11 => ?_
          rw [if_neg (by simp)] at X11
          refine seg_wrap ?_
          refine Ex.leave (outer := outer) X11 (.inr (.inr rfl)) rfl ok11 rfl fun h12 vs12 X12 hv12 ok12 => ?_
          refine seg_end (.error (.ref e)) (.inr ⟨e, rfl, ?_⟩)
          have en8 := me.new
          dsimp only at en8 t2n ht9 X12
          have nC : ∀ b, Heap.get? _ b = none → b ≠ C := fun b q z => by
            obtain ⟨o, _, _, ho, _⟩ := F8.ns
            rw [z, ho] at q; cases q
          have nw : ∀ b, Heap.get? _ b = none → b < C + 2 → p0.get? b = none := fun b q hb => get_none_of (fun o z => ⟨o, g8 b o (nC b q) hb z⟩) q
          have nf : ∀ b, Heap.get? _ b = none → b ∉ frs outer := fun b q hb => by
            obtain ⟨o, es, n', ho, _⟩ := okp.mem b hb
            have hl' := frC b hb
            rw [nw b q (Nat.lt_succ_of_lt (Nat.lt_succ_of_lt hl'))] at ho
            cases ho
          refine ⟨by rw [hj0, hy0] at hy; exact hy, rfl, rfl, rfl, hideAll h9 [C], vs12, t2, _, X12, by rw [hv12 0 (by decide)]; rfl, hideAll_get _ ht9 (by simpa using nC t2 t2n), nf _ t2n, (fun z => by rw [z, he9] at ht9; simp at ht9), nf _ en8, nw _ en8, nw _ t2n, fun b o hb hlt q => ?_, ok12⟩
          exact hideAll_get _ (me.keeps _ _ (g8 b o hb hlt q)) (by simpa using hb)
        · obtain ⟨x1, tx1, hx1, rfl⟩ := hv1 (by lia)
          refine seg_execs_cons (seg_If ?_)
          refine wpAny_ax (d := 400) (u := 1000) (hdd 1 (by decide)) (huu 4 (by decide)) ?_
          walk_at "go"
          (rename News _ _ _ _ => N8); (rename Fr _ _ _ _ => F8)
          refine seg_execs_nil ?_
          refine seg_execs_cons (seg_While fun p₂ => ?_)
          refine seg_ind (GW h₀ C row I0 ns N) ?_ n ⟨p0, pg, pd, pt, po⟩ _ ⟨hn0, hnN, by lia, by rw [hpl, hy, hy0], by lia, hI0, ht ▸ H1, rfl, rfl, rfl, some (.int y ty), x1, tx1, oI, o1, by rw [hpl]; exact hx1, ho1, ht ▸ Mine.Fr.congr F8 (fun y' => ?_), ht ▸ N8⟩
          rotate_left
          · unfold gMap
            by_cases h1 : y' = Str.ofString "interval"
            · simp only [if_pos h1]
            · simp only [if_neg h1]
          clear F8 N8 X₁ T₁ C₁ st₁ hl₁ hlq hn0 hnN hjp hok0 H1 hit ho1 hv0 hv1 hx hy hj0 hpl hx1 hcI ih It
          rintro n ih ⟨p1, pg1, pd1, pt1, po1⟩ ⟨q1, qg1, qd1, qt1, qo1⟩ ⟨hn0, hnN, hpj, hz, hp0, _, H1, e1, e2, e3, vi1, x1, tx1, oI1, o2, hx1, ho2, F2, N2⟩
          cases e1; cases e2; cases e3
          dsimp only at H1 ho2 F2 N2
          have st₁ : gb.StaysIn (trunc p1 C) := fun b o q => H1 b o (st₀ b o q)
          obtain ⟨X₁, T₁, C₁⟩ := G.keeps st₁
          generalize ht1 : trunc p1 C = t1 at *
          unfold gMap at F2
          refine seg_whileLoop ?_
          refine wpAny_ax (d := 400) (u := 1000) (hdd 1 (by decide)) (huu 4 (by decide)) ?_
          walk_at "go"
          obtain ⟨m, rfl⟩ : ∃ m, n = m + 1 := ⟨n - 1, by lia⟩
          refine seg_execs_cons (seg_Expr_Yield rfl rfl rfl ?_)
          refine wpAny_ax (d := 400) (u := 1000) (hdd 1 (by decide)) (huu 4 (by decide)) ?_
          walk_at "go"
          rename_i kap hkap
          refine ⟨x1, tx1, I0, rfl, ?_, gmv_of (ht1 ▸ F2) (ht1 ▸ N2) ho2 (.tail _ (.head _)) rfl rfl rfl, ⟨⟨o2, N2.get (.tail _ (.head _))⟩, .inr (.inr ⟨by lia, hz, hp0, hI0, ⟨oI1, N2.get (.head _)⟩, x1, tx1, vi1, hx1, F2.ns, fun b o q => F2.keep b o (ht1 ▸ H1 b o q), Nat.le_of_eq size₀⟩)⟩, ?_⟩
          · unfold outAt
            rw [if_neg (by lia), if_pos ⟨hz, hp0⟩]
            exact hx1
          · intro hm0 s9 ga
            refine hkap .none s9 ?_
            obtain ⟨⟨o9, ho9⟩, ga⟩ := ga
            rcases ga with ⟨z, _⟩ | ⟨_, z, _⟩ | ⟨_, _, _, _, ⟨oI9, hoI9⟩, x9, t9, v9, hx9, F9⟩
            · lia
            · lia
            obtain ⟨q9, qg9, qd9, qt9, qo9⟩ := s9
            dsimp only at ho9 hoI9 F9
            have H9 : h₀.StaysIn (trunc q9 C) := fun b o q => trunc_get (F9.keep b o q) (below b o q)
            refine seg_again rfl ?_
            refine ih m (Nat.lt_succ_self m) ⟨q9, qg9, qd9, qt9, qo9⟩ _ ⟨Nat.pos_of_ne_zero hm0, by lia, by lia, hz, hp0, hI0, H9, rfl, rfl, rfl, v9, x9, t9, oI9, o9, hx9, ho9, ⟨F9.ns, fun b o q => (trunc_sub q).1, trunc_size⟩, fun q hq => ?_⟩
            rcases List.mem_cons.mp hq with rfl | hq
            · exact ⟨hoI9, Ne.symm hCI, Heap.get?_none_of_le (Nat.le_trans trunc_size (by lia))⟩
            · rw [List.mem_singleton.mp hq]
              exact ⟨ho9, Nat.succ_ne_self _, Heap.get?_none_of_le (Nat.le_trans trunc_size (Nat.le_succ _))⟩
      · rename_i hy0
        refine seg_execs_nil ?_
        obtain ⟨m, rfl⟩ : ∃ m, n = m + 1 := ⟨n - 1, by lia⟩
        refine seg_execs_cons (seg_Expr_Yield rfl rfl rfl ?_)
        refine wpAny_ax (d := 400) (u := 1000) (hdd 1 (by decide)) (huu 4 (by decide)) ?_
        walk_at "go"
        (rename News _ _ _ _ => N8); (rename Fr _ _ _ _ => F8)
        rename_i h8 kap hkap
        have hlt := plainLen_go hjp hy hy0 hy127
        have hj1 : N - m = N - (m + 1) + 1 := by lia
        refine ⟨y, ty, I0, rfl, ?_, gmv_of (ht ▸ F8) (ht ▸ N8) ho1 (.tail _ (.head _)) rfl rfl rfl, ⟨⟨o1, N8.get (.tail _ (.head _))⟩, .inr (.inl ⟨by lia, by lia, hI0, ?_, y, ty, vl, ?_, ?_⟩)⟩, ?_⟩
        · unfold outAt
          rw [show N - 1 - m = N - (m + 1) by lia, if_pos hlt]
          exact hy
        · rw [hj1]; exact ⟨oI, N8.get (.head _), hcI⟩
        · rw [hj1]; exact hy
        · refine Mine.Fr.congr (⟨F8.ns, fun b o q => F8.keep b o (ht ▸ H1 b o q), Nat.le_of_eq size₀⟩ : Fr h₀ C h8 _) fun y' => ?_
          unfold gMap
          by_cases h1 : y' = Str.ofString "interval"
          · simp only [if_pos h1]
          · simp only [if_neg h1]
        · intro hm0 s9 ga
          refine hkap .none s9 ?_
          clear hkap F8 N8 X₁ T₁ C₁ st₁ hl₁ hlq
          obtain ⟨⟨o9, ho9⟩, ga⟩ := ga
          rcases ga with ⟨z, _⟩ | ⟨_, _, _, hit9, x9, t9, v9, hx9, F9⟩ | ⟨z, _⟩
          · lia
          rotate_left
          · lia
          obtain ⟨q9, qg9, qd9, qt9, qo9⟩ := s9
          dsimp only at ho9 hit9 F9
          have H9 : h₀.StaysIn (trunc q9 C) := fun b o q => trunc_get (F9.keep b o q) (below b o q)
          have st9 : gb.StaysIn (trunc q9 C) := fun b o q => H9 b o (st₀ b o q)
          obtain ⟨X₁, T₁, C₁⟩ := G.keeps st9
          have F9' : Fr (trunc q9 C) C q9 (gMap row (some (.int x9 t9)) v9) := ⟨F9.ns, fun b o q => (trunc_sub q).1, trunc_size⟩
          have N9 : News (trunc q9 C) C q9 [(C + 1, o9)] := fun q hq => by
            rw [List.mem_singleton.mp hq]
            exact ⟨ho9, Nat.succ_ne_self _, Heap.get?_none_of_le (Nat.le_trans trunc_size (Nat.le_succ _))⟩
          obtain ⟨oI9, hoI9, hcI9⟩ := hit9
          have N9' : News (trunc q9 C) C q9 [(I0, oI9), (C + 1, o9)] := fun q hq => by
            rcases List.mem_cons.mp hq with rfl | hq
            · exact ⟨hoI9, Ne.symm hCI, Heap.get?_none_of_le (Nat.le_trans trunc_size (by lia))⟩
            · exact N9 q hq
          clear F9 N9
          generalize ht9 : trunc q9 C = t' at *
          unfold gMap at F9'
          refine seg_execs_cons (seg_wrap ?_)
          refine wpAny_ax (d := 400) (u := 1000) (hdd 1 (by decide)) (huu 4 (by decide)) ?_
          walk_at "go"
          (rename News _ _ _ _ => N10); (rename Fr _ _ _ _ => F10)
          refine seg_execs_nil ?_
          refine seg_again rfl ?_
          refine ih m (Nat.lt_succ_self m) ⟨q9, qg9, qd9, qt9, qo9⟩ _ ⟨Nat.pos_of_ne_zero hm0, by lia, by lia, hI0, fun z => by lia, ht9 ▸ H9, rfl, rfl, rfl, ⟨oI9, N10.get (.head _), hcI9⟩, some (.int x9 t9), some (.int x9 t9), o9, ho9, ht9 ▸ Mine.Fr.congr F10 (fun y' => ?_), ht9 ▸ fun q hq => N10 q (.tail _ hq), fun z => by lia, fun _ => ⟨x9, t9, hx9, rfl⟩⟩
          unfold gMap
          by_cases h2 : y' = Str.ofString "last_interval"
          · have h1 : ¬ y' = Str.ofString "interval" := by rw [h2]; decide
            simp only [if_neg h1, if_pos h2]
          · by_cases h1 : y' = Str.ofString "interval"
            · simp only [if_neg h2, if_pos h1]
            · simp only [if_neg h1, if_neg h2]
end Mine
namespace Mine
abbrev tyBinds (x : Str) (t1 : Tok) (row : Addr) : List (Str × Value) := [(Str.ofString "signs", .str x t1), (Str.ofString "row", .ref row)]
/-- the rows as _law_typed writes them: what is told, the lines, what is left -/
def typedGo (ns : List Int) : Nat → Nat → List Int → List Str → Str → List Int × List Str × Str
  | 0, _, told, lines, left => (told, lines, left)
  | f + 1, j, told, lines, left =>
    match outAt ns j with
    | none => (told, lines, left)
    | some v =>
      let left' := Txt.slice left (some v) none
      if (left' == Str.ofString "") = true ∨ 40 < told.length + 1 then (told ++ [v], lines ++ [Txt.slice left none (some v)], left')
      else typedGo ns f (j + 1) (told ++ [v]) (lines ++ [Txt.slice left none (some v)]) left'
def tyMap (x : Str) (t1 : Tok) (row Ls T : Addr) (left : Str) (tl : Tok) (vsz : Option Value) (y : Str) : Option Value :=
  if y = Str.ofString "size" then vsz else if y = Str.ofString "left" then some (.str left tl) else if y = Str.ofString "lines" then some (.ref Ls) else if y = Str.ofString "told" then some (.ref T) else (tyBinds x t1 row).reverse.lookup y
inductive TyInv (h₀ h₀g : Heap) (L C row Ls T : Addr) (ns : List Int) (x : Str) (t1 : Tok) (gs : Array GenState) (dr : Drawn) (os : OsState) (fr : List (Addr × Obj)) (outer : List Env) (goes : GenState → Nat → Shared → Prop) (n : Nat) (s : Shared) : Prop
  | mk : ∀ j I told lines left tv lv tl vsz cT cL og oC oI h' gsx tk', (s = ⟨h', gs.push gsx, dr, tk', os⟩) → (gsx.bare = true) → (j + n = 42) → (0 < n) → (told.length = j) → (typedGo ns (42 - j) j told lines left = typedGo ns 42 0 [] [] x) → (IntsAre tv told) → (StrsAre lv lines) → (left.length ≤ 100) → (lines.length = j) → ((∀ l ∈ lines, l.length ≤ 100)) → ((og.cls = .type "generator" ∧ (∃ nm qn, og.data = .fields #[.int gs.size 0, nm, qn]) ∧ og.slots = #[])) → (Fr h₀ L h' (tyMap x t1 row Ls T left tl vsz)) → (News h₀ L h' ((Ls, W.listOf lv.toArray cL) :: (T, W.listOf tv.toArray cT) :: (C + 1, og) :: (C, oC) :: (I, oI) :: fr)) → (GAfter h₀g C row ns j I h') → ((I = C ∨ C + 2 ≤ I)) → (∀ s, GAfter h₀g C row ns j I s.heap → (j = 0 → FramesOk s.heap outer) → goes gsx (100 - j) s) → TyInv h₀ h₀g L C row Ls T ns x t1 gs dr os fr outer goes n s
inductive TyMid (h₀ : Heap) (L row Ls T : Addr) (ns : List Int) (x : Str) (t1 : Tok) (gs : Array GenState) (dr : Drawn) (os : OsState) (fr : List (Addr × Obj)) (fl : Flow) (s : Shared) : Prop
  | mk : (fl = .next) → (ns[0]? ≠ some 0) → ∀ told lines left tv lv tl vsz cT cL h' gsx tk', (s = ⟨h', gs.push gsx, dr, tk', os⟩) → (gsx.bare = true) → (typedGo ns 42 0 [] [] x = (told, lines, left)) → (IntsAre tv told) → (StrsAre lv lines) → (left.length ≤ 100) → (lines.length ≤ 42) → (told.length ≤ 42) → ((∀ l ∈ lines, l.length ≤ 100)) → (Fr h₀ L h' (tyMap x t1 row Ls T left tl vsz)) → (News h₀ L h' ((Ls, W.listOf lv.toArray cL) :: (T, W.listOf tv.toArray cT) :: fr)) → TyMid h₀ L row Ls T ns x t1 gs dr os fr fl s
/-- a ValueError has left a call that began at the heap h -/
inductive VRaised (h : Heap) (outer : List Env) (e : Addr) (y : Str) (h' : Heap) : Prop
  | mk : ∀ h0 vs t ty, (Ex (frs outer) h0 h' e (.type "ValueError") vs (some .none)) → (vs[0]? = some (.ref t)) → (h0.get? t = some { cls := .type "tuple", data := .seq #[.str y ty] }) → (t ∉ frs outer) → (t ≠ e) → (e ∉ frs outer) → (h.get? e = none) → (h.get? t = none) → ((∀ b o, h.get? b = some o → h0.get? b = some o)) → (FramesOk h' outer) → VRaised h outer e y h'
theorem setGen_push {h : Heap} {gs : Array GenState} {x y : GenState} {dr : Drawn} {tk : Nat} {os : OsState} : (⟨h, gs.push y, dr, tk, os⟩ : Shared).setGen gs.size x = ⟨h, gs.push x, dr, tk, os⟩ := by
  unfold Shared.setGen
  refine congrArg (fun g => (⟨h, g, dr, tk, os⟩ : Shared)) (Array.ext_getElem? fun i => ?_)
  by_cases hi : gs.size = i
  · subst hi
    simp
  · rw [Array.getElem?_setIfInBounds_ne hi, Array.getElem?_push, Array.getElem?_push, if_neg (Ne.symm hi), if_neg (Ne.symm hi)]
theorem forBy {prog : Program} {w : World} {A : Around} {s : Shared} {R : Result → Shared → Prop} {target : Expr} {it : Value} {body orelse : List Stmt} {env : Env} (I : Nat → Shared → Prop)
    (turn : ∀ R' : Result → Shared → Prop, (∀ r s, R r s → R' r s) → ∀ n s, I n s → wpAny (model prog w) A (pyNext it) (fun r s₁ => match r with
      | none => wpAny (model prog w) A (execs orelse env) (fun f s₃ => R' (.ok f) s₃) (notedBy (model prog w) A env fun e s' => R' (.error e) s') s₁
      | some v => wpAny (model prog w) A (assign target env v) (fun _ s₂ => wpAny (model prog w) A (execs body env) (fun f s₃ => match f with
          | .next | .cont => LoopGo I n s₃
          | .brk => R' (.ok .next) s₃
          | .ret v => R' (.ok (.ret v)) s₃) (notedBy (model prog w) A env fun e s' => R' (.error e) s') s₂) (notedBy (model prog w) A env fun e s' => R' (.error e) s') s₁) (notedBy (model prog w) A env fun e s' => R' (.error e) s') s)
    (n : Nat) (h : I n s) (ht : ∀ v, letOwnedTupleGo target it v = pure ()) : codeAny (model prog w) A (.forLoop target it body orelse env) R s :=
  codeAny_forLoop I (turn R fun _ _ q => q) n h ht
theorem outAt_nz {ns : List Int} {j : Nat} {y : Int} (h : outAt ns j = some y) : ns[0]? ≠ some 0 := fun z => by
  unfold outAt at h
  rw [plainLen_zero z, if_neg (Nat.not_lt_zero _), if_neg (fun q => absurd q.2 (Nat.lt_irrefl _))] at h
  cases h
theorem typedGo_none {ns : List Int} {f j : Nat} {told : List Int} {lines : List Str} {left : Str} (h : outAt ns j = none) : typedGo ns f j told lines left = (told, lines, left) := by
  cases f with
  | zero => rfl
  | succ f => unfold typedGo; rw [h]
theorem typedGo_stop {ns : List Int} {f j : Nat} {told : List Int} {lines : List Str} {left : Str} {v : Int} (h : outAt ns j = some v) (hs : (Txt.slice left (some v) none == Str.ofString "") = true ∨ 40 < told.length + 1) :
    typedGo ns (f + 1) j told lines left = (told ++ [v], lines ++ [Txt.slice left none (some v)], Txt.slice left (some v) none) := by
  rw [typedGo, h]
  dsimp only
  rw [if_pos hs]
theorem typedGo_go {ns : List Int} {f j : Nat} {told : List Int} {lines : List Str} {left : Str} {v : Int} (h : outAt ns j = some v) (hs : ¬ ((Txt.slice left (some v) none == Str.ofString "") = true ∨ 40 < told.length + 1)) :
    typedGo ns (f + 1) j told lines left = typedGo ns f (j + 1) (told ++ [v]) (lines ++ [Txt.slice left none (some v)]) (Txt.slice left (some v) none) := by
  rw [typedGo, h]
  dsimp only
  rw [if_neg hs]
theorem GAfter.congr {h₀ h h' : Heap} {C row I : Addr} {ns : List Int} {j : Nat} {oC oI : Obj} (g : GAfter h₀ C row ns j I h) (hC : h.get? C = some oC) (hI : h.get? I = some oI) (hC' : h'.get? C = some oC) (hI' : h'.get? I = some oI) (ha : ∃ o, h'.get? (C + 1) = some o) (k : h₀.StaysIn h') : GAfter h₀ C row ns j I h' := by
  have fr : ∀ m, Fr h₀ C h m → Fr h₀ C h' m := fun m F => ⟨by
    obtain ⟨o, es, ep, ho, r⟩ := F.ns
    rw [hC] at ho; cases ho
    exact ⟨_, es, ep, hC', r⟩, k, F.above⟩
  refine ⟨ha, ?_⟩
  rcases g.2 with ⟨a, b, F⟩ | ⟨a, b, c, ⟨o, ho, r⟩, x, t, v, d, F⟩ | ⟨a, b, c, d, _, x, t, v, e, F⟩
  · exact .inl ⟨a, b, fr _ F⟩
  · rw [hI] at ho; cases ho
    exact .inr (.inl ⟨a, b, c, ⟨_, hI', r⟩, x, t, v, d, fr _ F⟩)
  · exact .inr (.inr ⟨a, b, c, d, ⟨_, hI'⟩, x, t, v, e, fr _ F⟩)
theorem bare_push {gs : Array GenState} {g : GenState} (hg : g.bare = true) : (∀ g ∈ gs, g.bare = true) → ∀ x ∈ gs.push g, x.bare = true := fun h x hx => by
  rcases Array.mem_push.mp hx with z | z
  · exact h x z
  · rw [z]; exact hg
theorem strs_snoc {vs : List Value} {ys : List Str} (h : StrsAre vs ys) (y : Str) (t : Tok) : StrsAre (vs ++ [.str y t]) (ys ++ [y]) := by
  induction h with
  | nil => exact .cons _ _ .nil
  | cons a b _ ih => exact .cons _ _ ih
theorem ints_snoc {vs : List Value} {ys : List Int} (h : IntsAre vs ys) (y : Int) (t : Tok) : IntsAre (vs ++ [.int y t]) (ys ++ [y]) := by
  induction h with
  | nil => exact .cons _ _ .nil
  | cons a b _ ih => exact .cons _ _ ih
theorem sum_le {ys : List Str} {k : Nat} (h : ∀ y ∈ ys, y.length ≤ k) : (ys.map (·.length)).sum ≤ ys.length * k := by
  induction ys with
  | nil => simp
  | cons y r ih =>
    have := ih fun z hz => h z (.tail _ hz)
    have h0 := h y (.head _)
    simp only [List.map_cons, List.sum_cons, List.length_cons, Nat.add_mul, Nat.one_mul]
    lia
set_option maxRecDepth 100000 in
set_option maxHeartbeats 4000000 in
theorem typed {w : World} {mg mb : Str → Option Value} {loose : List Str} {mean : ExcName → Option Value} {gb : Heap} (G : Gd w mg mb loose mean gb)
    {A : Around} {h : Heap} {gs : Array GenState} {dr : Drawn} {tk : Nat} {os : OsState} {Q E : Value → Shared → Prop} {row : Addr} {vs : List Value} {ns : List Int} {x : Str} {t1 : Tok} {outer : List Env}
    (hd : A.depth ≤ 380) (hu : A.units ≤ 850) (hh : A.handled = none) (hfr : A.frames = some outer) (hok : FramesOk h outer) (hfb : ∀ b ∈ frs outer, gb.get? b = none ∧ b ≠ row)
    (st : gb.StaysIn h) (hl : h.IsList row vs.toArray) (hi : IntsAre vs ns) (hx : x.length ≤ 100) (hns : ∀ y ∈ ns, 0 ≤ y ∧ y < 1000)
    (hQ : ns[0]? ≠ some 0 → ∀ h' gs' tk' a T tv cT tx told lines left, typedGo ns 42 0 [] [] x = (told, lines, left) → IntsAre tv told → (∀ b o, h.get? b = some o → h'.get? b = some o) → h.get? a = none → h.get? T = none → T ≠ a →
      h'.get? a = some { cls := .type "tuple", data := .seq #[.ref T, .str (Txt.join (Str.ofString "\n") (lines ++ if left != Str.ofString "" then [left] else [])) tx] } → h'.get? T = some (W.listOf tv.toArray cT) → ((∀ g ∈ gs, g.bare = true) → ∀ g ∈ gs', g.bare = true) → Q (.ref a) ⟨h', gs', dr, tk', os⟩)
    (hE : ns[0]? = some 0 → ∀ h' gs' tk' e, VRaised h outer e (Str.ofString "invalid grouping") h' → ((∀ g ∈ gs, g.bare = true) → ∀ g ∈ gs', g.bare = true) → E (.ref e) ⟨h', gs', dr, tk', os⟩) :
    wpAny (model PySem.Challenge.rw_ny0036_01.row.prog w) A (call (.ref 55) [.str x t1, .ref row] []) Q E ⟨h, gs, dr, tk, os⟩ := by
  w_top off
  k_with_none
  k_with "execs cons For cons" => refine' hold ?_
  k_with "call builtin:list.append nil" => refine' hold ?_
  k_with "call builtin:str.join nil" => refine' hold ?_
  refine wpAny_ax hd hu ?_
  rw [hh, hfr]
  have hH : ∀ a ∈ frs outer, gb.get? a = none := fun a ha => (hfb a ha).1
  have X := (G.keeps st).1
  have T := (G.keeps st).2.1
  revert X; k_fill; intro X
  refine' callK (binds := tyBinds x t1 row) (frs outer) X ?k6 ?k7 T.nolimit ?k8 ?k9 ?kB ?_ ?c5 ?c2 ?c3 ?c4
  case k6 => k_is
  case k7 => k_is
  case k8 => k_room
  case k9 => exact BindsTo.of_eq rfl
  case kB => exact locs rfl
  case c5 => decide
  case c2 => exact rfl
  case c3 => exact rfl
  case c4 => exact rfl
  intro h₀ L h₁ tk₁ hid eL F k₁
  have st₀ := hid.stays st hH
  obtain ⟨X₀, T₀, C₀⟩ := G.keeps st₀
  have U := FrUp.of hok
  have N := hid.news (news := frOf h outer) k₁ eL (fun q hq => frOf_mem hq)
  have hl0 : h₀.IsList row vs.toArray := let ⟨o, ho, r⟩ := hl; ⟨o, hid.sup _ _ ho (fun q => (hfb _ q).2 rfl), r⟩
  clear X T
  refine hideE fun E' hE' => ?_
  walk_at "go"
  (rename News _ _ _ _ => N5); (rename Fr _ _ _ _ => F5)
  have hLh : h.get? L = none := by rw [eL]; exact Heap.get?_none_of_le (Nat.le_refl _)
  have hLg : gb.get? L = none := get_none_of (fun o q => ⟨o, st _ _ q⟩) hLh
  have hLo : L ∉ frs outer := fun hm => by
    obtain ⟨o, _, _, ho, _⟩ := hok.mem L hm
    rw [hLh] at ho; cases ho
  have hLrow : L ≠ row := fun z => by obtain ⟨o, ho, _⟩ := hl; rw [← z, hLh] at ho; cases ho
  rename_i T _h2 hT1 _h3 _tk3 Ls _h4 hap _h45 h5
  refine wpAny_execs_cons (wpAny_mono (Q := TyMid h₀ L row Ls T ns x t1 gs dr os (frOf h outer)) ?_ ?_ (fun _ _ q => q))
  rotate_left
  · rintro fl s' ⟨rfl, hn0, told, lines, left, tv, lv, tl, vsz, cT, cL, h6, gsx, tk6, rfl, bx, hgo, htv, hlv, hle, hll, htl, hlls, F6, N6⟩
    clear F5 N5
    unfold tyMap at F6
    dsimp only
    have fin : ∀ h7 tk7 a tx (lv7 : List Value) cL7 m7 ls7, lines ++ (if left != Str.ofString "" then [left] else []) = ls7 → Fr h₀ L h7 m7 → News h₀ L h7 ((a, { cls := .type "tuple", data := .seq #[.ref T, .str (Txt.join (Str.ofString "\n") ls7) tx] }) :: (Ls, W.listOf lv7.toArray cL7) :: (T, W.listOf tv.toArray cT) :: frOf h outer) → T ≠ a → Q (.ref a) ⟨h7, gs.push gsx, dr, tk7, os⟩ := by
      intro h7 tk7 a tx lv7 cL7 m7 ls7 els F7 N7 hTa
      have new : ∀ q ∈ ((a, { cls := .type "tuple", data := .seq #[.ref T, .str (Txt.join (Str.ofString "\n") ls7) tx] }) :: (Ls, W.listOf lv7.toArray cL7) :: (T, W.listOf tv.toArray cT) :: frOf h outer), q.1 ∉ frs outer → h.get? q.1 = none := fun q hq hf => get_none_of (fun o z => ⟨o, hid.sup _ o z hf⟩) (N7 q hq).2.2
      have notf : ∀ b o, h7.get? b = some o → (∀ es n, o.data ≠ .dict es n) → b ∉ frs outer := fun b o q hnd hb => by
        obtain ⟨o', es, n', ho', hd'⟩ := (U.frames N7 fun q hq => .tail _ (.tail _ (.tail _ hq))).mem b hb
        rw [q] at ho'; cases ho'; exact hnd _ _ hd'
      refine hQ hn0 h7 _ tk7 a T tv cT tx told lines left hgo htv (fun b o q => ?_) (new _ (.head _) (notf _ _ (N7.get (.head _)) (fun _ _ z => by cases z))) (new _ (.tail _ (.tail _ (.head _))) (notf _ _ (N7.get (.tail _ (.tail _ (.head _)))) (fun _ _ z => by cases z))) hTa (by rw [els]; exact N7.get (.head _)) (N7.get (.tail _ (.tail _ (.head _)))) (bare_push bx)
      by_cases hb : b ∈ frs outer
      · exact N7.get (.tail _ (.tail _ (.tail _ (List.mem_filterMap.mpr ⟨b, hb, by rw [q]; rfl⟩))))
      · exact F7.keep b o (hid.sup b o q hb)
    walk_at "go"
    · (rename News _ _ _ _ => N6); (rename Fr _ _ _ _ => F6)
      (rename (_ != _) = _ => hne)
      have hlv7 := strs_snoc hlv left tl
      rw [show lv.toArray.push (Value.str left tl) = (lv ++ [Value.str left tl]).toArray by simp] at N6
      refine join_list (N6.isList (.head _)) (by simpa using hlv7) ?_ fun t7 k7 => ?_
      · have := sum_le (ys := lines ++ [left]) (k := 100) (fun y hy => by
          rcases List.mem_append.mp hy with z | z
          · exact hlls y z
          · rw [List.mem_singleton.mp z]; exact hle)
        have l1 : (Str.ofString "\n").length = 1 := rfl
        simp only [List.length_append, List.length_cons, List.length_nil] at this ⊢
        rw [l1]
        lia
      walk_at "go"
      (rename News _ _ _ _ => N8); (rename Fr _ _ _ _ => F8)
      refine RetTo.ret (fin _ _ _ _ _ _ _ _ (by rw [if_pos hne]) F8 N8 ?_)
      (rename Ls < _ ∧ _ => l1)
      exact Nat.ne_of_lt l1.2.1
    · (rename News _ _ _ _ => N6); (rename Fr _ _ _ _ => F6)
      (rename (_ != _) = _ => hne)
      refine join_list (N6.isList (.head _)) (by simpa using hlv) ?_ fun t7 k7 => ?_
      · have := sum_le (ys := lines) (k := 100) hlls
        have l1 : (Str.ofString "\n").length = 1 := rfl
        rw [l1]
        lia
      walk_at "go"
      (rename News _ _ _ _ => N8); (rename Fr _ _ _ _ => F8)
      refine RetTo.ret (fin _ _ _ _ _ _ _ _ (by rw [if_neg (by rw [hne]; decide), List.append_nil]) F8 N8 ?_)
      (rename Ls < _ ∧ _ => l1)
      exact Nat.ne_of_lt l1.2.1
  refine wpAny_For ?_ (fun _ => by with_unfolding_all rfl)
  walk_at "go"
  have ok5 : FramesOk h5 outer := U.frames N5 fun q hq => .tail _ (.tail _ hq)
  generalize hEnv : envOf (Str.ofString "_law_typed") _ L 55 (Value.ref 54) = env
  have hf : env.frame = some L := by rw [← hEnv]; rfl
  have hk : env.scope.kind = .function := by rw [← hEnv]; rfl
  have ok5e : FramesOk h5 (env :: outer) := framesOk_cons hk hf F5.ns ok5
  have frm : ∀ b, b ∈ frs (env :: outer) ↔ b = L ∨ b ∈ frs outer := fun b => by rw [frs_cons hf]; exact List.mem_cons
  refine gen (outer := env :: outer) (vs := vs) (ns := ns) G (Nat.le_of_ble_eq_true rfl) (Nat.le_of_ble_eq_true rfl) rfl rfl ok5e (fun b hb => ?_) (fun b o q => F5.keep b o (st₀ b o q)) (F5.lst hl0) hi ?_
  · rcases (frm b).mp hb with rfl | hb
    · exact ⟨hLg, hLrow⟩
    · exact hfb b hb
  intro C a h₂ tk₂ h₀g gs0 eC ea sz2 k2 isg bare0 sub₀ size₀ ga0 goes
  refine wpAny_pyIter_gen isg ?_
  have L5 : L < C := by rw [eC]; exact F5.ns.lt
  have Ls5 : Ls < C := by rw [eC]; exact Heap.lt_size (N5.get (.head _))
  have T5 : T < C := by rw [eC]; exact Heap.lt_size (N5.get (.tail _ (.head _)))
  have frC : ∀ b ∈ frs outer, b < C := fun b hb => by
    obtain ⟨o, es, n', ho, _⟩ := ok5.mem b hb
    rw [eC]; exact Heap.lt_size ho
  have h0C : ∀ b, C ≤ b → h₀.get? b = none := fun b hb => Heap.get?_none_of_le (Nat.le_trans F5.above (Nat.le_trans (Nat.le_of_lt L5) hb))
  have fr5 : ∀ q ∈ frOf h outer, q.1 < C := fun q hq => frC q.1 (frOf_mem hq).2
  have hg0 : ∀ b o, h₀g.get? b = some o → h₀.get? b = some o := fun b o q => by
    obtain ⟨q1, q2 | q2⟩ := sub₀ b o q
    · obtain ⟨o', ho'⟩ := Option.isSome_iff_exists.mp q2
      have := F5.keep b o' (st₀ b o' ho')
      rw [q1] at this; cases this
      exact st₀ _ _ ho'
    · obtain ⟨o', ho', _⟩ := hl0
      rw [← q2] at ho'
      have := F5.keep b o' ho'
      rw [q1] at this; cases this
      exact ho'
  refine forBy (TyInv h₀ h₀g L C row Ls T ns x t1 gs dr os (frOf h outer) (env :: outer) (fun g n s => g.Goes (model PySem.Challenge.rw_ny0036_01.row.prog w) ((Ax 380 850 none (some outer) A.guards).deeper env).in1 (GR C ns 100 (env :: outer)) (GY h₀g C row ns 100) n (.send .none) s)) ?_ 42 ?_ (fun _ => rfl)
  rotate_left
  · obtain ⟨og, nm, qn, hog, hc1, hd1, hs1⟩ := isg
    have F6 := Mine.Fr.ext F5 k2
    have N6 := News.ext N5 k2
    have nsC : ∃ m, h₂.Ns C m := by
      rcases ga0 with ⟨_, ⟨_, _, z⟩ | ⟨z, _⟩ | ⟨_, _, z, _⟩⟩
      · exact ⟨_, z.ns⟩
      · exact absurd z (Nat.lt_irrefl _)
      · lia
    obtain ⟨_, oC, _, _, hoC, _⟩ := nsC
    refine ⟨0, C, [], [], x, [], [], t1, none, 0, 0, og, oC, oC, h₂, gs0, tk₂, rfl, bare0, rfl, by decide, rfl, rfl, .nil, .nil, hx, rfl, (fun _ q => nomatch q), ⟨hc1, ⟨nm, qn, hd1⟩, hs1⟩, Mine.Fr.congr F6 (fun y => ?_), fun q hq => ?_, ga0, .inl rfl, fun s ga hf => goes 100 C s (by decide) ga (hf rfl)⟩
    · unfold tyMap
      by_cases h1 : y = Str.ofString "size"
      · rw [if_pos h1, h1]; with_unfolding_all rfl
      · rw [if_neg h1]
    · simp only [List.mem_cons] at hq
      rcases hq with rfl | rfl | rfl | rfl | rfl | hq
      · exact N6 _ (.head _)
      · exact N6 _ (.tail _ (.head _))
      · exact ⟨ea ▸ hog, Nat.ne_of_gt (Nat.lt_succ_of_lt L5), h0C _ (Nat.le_succ _)⟩
      · exact ⟨hoC, Nat.ne_of_gt L5, h0C _ (Nat.le_refl _)⟩
      · exact ⟨hoC, Nat.ne_of_gt L5, h0C _ (Nat.le_refl _)⟩
      · exact N6 _ (.tail _ (.tail _ hq))
  rintro R' hR n s ⟨j, I, told, lines, left, tv, lv, tl, vsz, cT, cL, og, oC, oI, h6, gsx, tk6, rfl, bx, hjn, hn0, htl, hgo, htv, hlv, hle, hll, hlls, hog, F6, N6, ga, hI, goes6⟩
  have ok6 : FramesOk h6 (env :: outer) := framesOk_cons hk hf F6.ns (U.frames N6 fun q hq => .tail _ (.tail _ (.tail _ (.tail _ (.tail _ hq)))))
  have isg6 : h6.IsGen a gs.size := let ⟨c1, ⟨nm, qn, d1⟩, s1⟩ := hog; ⟨og, nm, qn, ea ▸ N6.get (.tail _ (.tail _ (.head _))), c1, d1, s1⟩
  have back : ∀ s₁ : Shared, GMv C (({ heap := h6, gens := gs.push gsx, drawn := dr, toks := tk6, os := os } : Shared).setGen gs.size .running) s₁ → s₁.gens = gs.push .running ∧ s₁.drawn = dr ∧ s₁.os = os ∧ Fr h₀ L s₁.heap (tyMap x t1 row Ls T left tl vsz) ∧ News h₀ L s₁.heap ((Ls, W.listOf lv.toArray cL) :: (T, W.listOf tv.toArray cT) :: (C + 1, og) :: frOf h outer) := by
    rintro s₁ ⟨g1, g2, g3, g4⟩
    refine ⟨?_, g2, g3, ⟨?_, fun b o q => ?_, F6.above⟩, fun q hq => ?_⟩
    · rw [g1, setGen_push]
    · obtain ⟨o, es, ep, ho, r⟩ := F6.ns
      exact ⟨o, es, ep, g4 L o (Nat.ne_of_lt L5) (Nat.lt_succ_of_lt (Nat.lt_succ_of_lt L5)) ho, r⟩
    · have hb : b < C := Nat.lt_of_lt_of_le (Heap.lt_size q) (Nat.le_trans F6.above (Nat.le_of_lt L5))
      exact g4 b o (Nat.ne_of_lt hb) (Nat.lt_succ_of_lt (Nat.lt_succ_of_lt hb)) (F6.keep b o q)
    · have hq' : q ∈ ((Ls, W.listOf lv.toArray cL) :: (T, W.listOf tv.toArray cT) :: (C + 1, og) :: (C, oC) :: (I, oI) :: frOf h outer) ∧ q.1 ≠ C ∧ q.1 < C + 2 := by
        simp only [List.mem_cons] at hq ⊢
        rcases hq with rfl | rfl | rfl | hq
        · exact ⟨.inl rfl, Nat.ne_of_lt Ls5, Nat.lt_succ_of_lt (Nat.lt_succ_of_lt Ls5)⟩
        · exact ⟨.inr (.inl rfl), Nat.ne_of_lt T5, Nat.lt_succ_of_lt (Nat.lt_succ_of_lt T5)⟩
        · exact ⟨.inr (.inr (.inl rfl)), Nat.succ_ne_self _, Nat.lt_succ_self _⟩
        · exact ⟨.inr (.inr (.inr (.inr (.inr hq)))), Nat.ne_of_lt (fr5 q hq), Nat.lt_succ_of_lt (Nat.lt_succ_of_lt (fr5 q hq))⟩
      obtain ⟨n1, n2, n3⟩ := N6 q hq'.1
      exact ⟨g4 _ _ hq'.2.1 hq'.2.2 n1, n2, n3⟩
  refine next_gen (n := 100 - j) rfl (T₀.keeps F6.keep).nolimit (Nat.lt_of_le_of_lt (Nat.le_of_ble_eq_true rfl : _ ≤ 400) (by decide)) (a := a) (g := gs.size) isg6 (Array.getElem?_push_size ..) (goes6 _ ga (fun _ => ok6)) ?_ ?_ ?_
  · rintro v s₁ gs' bx' ⟨y, ty, I', rfl, hout, mv, ga', go'⟩
    obtain ⟨e1, e2, e3, F7, N7⟩ := back s₁ mv
    obtain ⟨h7, gg, dd, tk7, oo⟩ := s₁
    dsimp only at e1 e2 e3 F7 N7 ga'
    subst e1; subst e2; subst e3
    rw [setGen_push]
    have ej : 100 - (100 - j - 1) = j + 1 := by lia
    have ej2 : 100 - 1 - (100 - j - 1) = j := by lia
    rw [ej] at ga' go'
    rw [ej2] at hout
    obtain ⟨m, hm⟩ : ∃ m, 100 - j = m + 1 := ⟨100 - (j + 1), by lia⟩
    have hm' : m = 100 - (j + 1) := by lia
    rw [hm] at go'
    have hI' : C + 2 ≤ I' := by
      rcases ga' with ⟨_, ⟨z, _⟩ | ⟨_, _, z, _⟩ | ⟨_, _, _, z, _⟩⟩
      · exact absurd z (Nat.succ_ne_zero _)
      · exact z
      · exact z
    obtain ⟨oC', hoC'⟩ : ∃ o, h7.get? C = some o := by
      rcases ga' with ⟨_, ⟨z, _⟩ | ⟨_, _, _, _, _, _, _, _, z⟩ | ⟨_, _, _, _, _, _, _, _, _, z⟩⟩
      · exact absurd z (Nat.succ_ne_zero _)
      · obtain ⟨o, _, _, ho, _⟩ := z.ns; exact ⟨o, ho⟩
      · obtain ⟨o, _, _, ho, _⟩ := z.ns; exact ⟨o, ho⟩
    obtain ⟨oI', hoI'⟩ : ∃ o, h7.get? I' = some o := by
      rcases ga' with ⟨_, ⟨z, _⟩ | ⟨_, _, _, ⟨o, ho, _⟩, _⟩ | ⟨_, _, _, _, z, _⟩⟩
      · exact absurd z (Nat.succ_ne_zero _)
      · exact ⟨o, ho⟩
      · exact z
    have N7' : News h₀ L h7 ((Ls, W.listOf lv.toArray cL) :: (T, W.listOf tv.toArray cT) :: (C + 1, og) :: (C, oC') :: (I', oI') :: frOf h outer) := fun q hq => by
      simp only [List.mem_cons] at hq
      rcases hq with rfl | rfl | rfl | rfl | rfl | hq
      · exact N7 _ (.head _)
      · exact N7 _ (.tail _ (.head _))
      · exact N7 _ (.tail _ (.tail _ (.head _)))
      · exact ⟨hoC', Nat.ne_of_gt L5, h0C _ (Nat.le_refl _)⟩
      · exact ⟨hoI', Nat.ne_of_gt (Nat.lt_of_lt_of_le (Nat.lt_succ_of_lt (Nat.lt_succ_of_lt L5)) hI'), h0C _ (Nat.le_trans (Nat.le_add_right _ _) hI')⟩
      · exact N7 _ (.tail _ (.tail _ (.tail _ hq)))
    clear N7 F6 N6 F5 N5
    subst hEnv
    unfold tyMap at F7
    have hlvl := hlv.length
    have htvl := htv.length
    dsimp only
    walk_at "go"
    (rename News _ _ _ _ => N8); (rename Fr _ _ _ _ => F8)
    have hLsT : Ls ≠ T := Nat.ne_of_gt hap.1
    have hC1T : ∀ d, d < C → C + 1 ≠ d ∧ C ≠ d ∧ I' ≠ d := fun d hd => ⟨Nat.ne_of_gt (Nat.lt_succ_of_lt hd), Nat.ne_of_gt hd, Nat.ne_of_gt (Nat.lt_of_lt_of_le (Nat.lt_succ_of_lt (Nat.lt_succ_of_lt hd)) hI')⟩
    have rest : ∀ d, d < C → (∀ q ∈ frOf h outer, q.1 ≠ d) → ∀ q ∈ ((C + 1, og) :: (C, oC') :: (I', oI') :: frOf h outer), q.1 ≠ d := fun d hd hq q hm => by
      simp only [List.mem_cons] at hm
      rcases hm with rfl | rfl | rfl | hm
      · exact (hC1T d hd).1
      · exact (hC1T d hd).2.1
      · exact (hC1T d hd).2.2
      · exact hq q hm
    refine W.append_K F8 N8 (.tail hLsT (.head (rest T T5 fun q hq => Nat.ne_of_lt (hT1 q hq)))) (fun h9 F9 N9 => ?_) ?_
    rotate_left
    · rw [sizeLine_eq]; simp; lia
    clear F8 N8
    rw [show tv.toArray.push (Value.int y ty) = (tv ++ [Value.int y ty]).toArray by simp] at N9
    walk_at "go"
    (rename News _ _ _ _ => N10); (rename Fr _ _ _ _ => F10)
    refine W.append_K F10 N10 (.head fun q hq => ?_) (fun h11 F11 N11 => ?_) ?_
    · rcases List.mem_cons.mp hq with rfl | hq
      · exact Ne.symm hLsT
      · exact rest Ls Ls5 (fun q hq => Nat.ne_of_lt (Nat.lt_trans (hT1 q hq) hap.1)) q hq
    rotate_left
    · rw [sizeLine_eq]; simp; lia
    clear F10 N10
    (rename (Txt.slice left none (some y)).length ≤ left.length => hsl1)
    rename_i tk10 h10' tsl ksl
    rw [show lv.toArray.push (Value.str (Txt.slice left none (some y)) tsl) = (lv ++ [Value.str (Txt.slice left none (some y)) tsl]).toArray by simp] at N11
    have htv' := ints_snoc htv y ty
    have hlv' := strs_snoc hlv (Txt.slice left none (some y)) tsl
    have hlay : (told ++ [y]).length ≤ 42 := by rw [List.length_append, htl]; simp; lia
    have ejf : 42 - j = (42 - (j + 1)) + 1 := by lia
    rw [ejf] at hgo
    have mid : ∀ h12 tk12 t12 m12, ((Txt.slice left (some y) none == Str.ofString "") = true ∨ 40 < told.length + 1) → (Txt.slice left (some y) none).length ≤ left.length → Fr h₀ L h12 m12 → (∀ y', m12 y' = tyMap x t1 row Ls T (Txt.slice left (some y) none) t12 (some (.int y ty)) y') →
        News h₀ L h12 ((Ls, W.listOf (lv ++ [Value.str (Txt.slice left none (some y)) tsl]).toArray (cL + 1)) :: (T, W.listOf (tv ++ [Value.int y ty]).toArray (cT + 1)) :: (C + 1, og) :: (C, oC') :: (I', oI') :: frOf h outer) →
        TyMid h₀ L row Ls T ns x t1 gs dd oo (frOf h outer) .next ⟨h12, gs.push gs', dd, tk12, oo⟩ := by
      intro h12 tk12 t12 m12 hs hsl2 F12 hm12 N12
      refine ⟨rfl, outAt_nz hout, told ++ [y], lines ++ [Txt.slice left none (some y)], Txt.slice left (some y) none, _, _, t12, some (.int y ty), cT + 1, cL + 1, h12, gs', tk12, rfl, bx', ?_, htv', hlv', by lia, by rw [List.length_append, hll]; simp; lia, hlay, ?_, Mine.Fr.congr F12 hm12, fun q hq => ?_⟩
      · rw [← hgo, typedGo_stop hout hs]
      · intro l hl'
        rcases List.mem_append.mp hl' with z | z
        · exact hlls l z
        · rw [List.mem_singleton.mp z]; lia
      · refine N12 q ?_
        simp only [List.mem_cons] at hq ⊢
        rcases hq with z | z | z
        · exact .inl z
        · exact .inr (.inl z)
        · exact .inr (.inr (.inr (.inr (.inr z))))
    have hmp : ∀ t12, ∀ y', (fun y_1 => if y_1 = Str.ofString "left" then some (Value.str (Txt.slice left (some y) none) t12) else if y_1 = Str.ofString "size" then some (Value.int y ty) else if y_1 = Str.ofString "size" then vsz else if y_1 = Str.ofString "left" then some (Value.str left tl) else if y_1 = Str.ofString "lines" then some (Value.ref Ls) else if y_1 = Str.ofString "told" then some (Value.ref T) else List.lookup y_1 (tyBinds x t1 row).reverse) y' = tyMap x t1 row Ls T (Txt.slice left (some y) none) t12 (some (.int y ty)) y' := fun t12 y' => by
      unfold tyMap
      dsimp only
      by_cases h1 : y' = Str.ofString "left"
      · have h2 : ¬ y' = Str.ofString "size" := by rw [h1]; decide
        simp only [if_pos h1, if_neg h2]
      · by_cases h2 : y' = Str.ofString "size"
        · simp only [if_neg h1, if_pos h2]
        · simp only [if_neg h1, if_neg h2]
    walk_at "go"
    · (rename News _ _ _ _ => N12); (rename Fr _ _ _ _ => F12); (rename (Txt.slice left (some y) none).length ≤ _ => hsl2); (rename (_ == Str.ofString "") = _ => hem)
      exact hR _ _ (mid _ _ _ _ (.inl hem) hsl2 F12 (hmp _) N12)
    · (rename News _ _ _ _ => N12); (rename Fr _ _ _ _ => F12); (rename (Txt.slice left (some y) none).length ≤ _ => hsl2); (rename (_ == Str.ofString "") = _ => hem); (rename (40 : Int) < _ => h40)
      exact hR _ _ (mid _ _ _ _ (.inr (by lia)) hsl2 F12 (hmp _) N12)
    · (rename News _ _ _ _ => N12); (rename Fr _ _ _ _ => F12); (rename (Txt.slice left (some y) none).length ≤ _ => hsl2); (rename (_ == Str.ofString "") = _ => hem); (rename ¬ (40 : Int) < _ => h40)
      refine ⟨n - 1, by lia, j + 1, I', told ++ [y], lines ++ [Txt.slice left none (some y)], Txt.slice left (some y) none, _, _, _, some (.int y ty), cT + 1, cL + 1, og, oC', oI', _, gs', _, rfl, bx', by lia, by lia, by rw [List.length_append, htl]; rfl, ?_, htv', hlv', by lia, by rw [List.length_append, hll]; rfl, ?_, hog, Mine.Fr.congr F12 (hmp _), N12, ?_, .inr hI', ?_⟩
      · rw [← hgo, typedGo_go hout (fun z => z.elim (fun z => by rw [hem] at z; cases z) (fun z => h40 (by lia)))]
      · intro l hl'
        rcases List.mem_append.mp hl' with z | z
        · exact hlls l z
        · rw [List.mem_singleton.mp z]; lia
      · exact ga'.congr hoC' hoI' (N12.get (.tail _ (.tail _ (.tail _ (.head _))))) (N12.get (.tail _ (.tail _ (.tail _ (.tail _ (.head _)))))) ⟨og, N12.get (.tail _ (.tail _ (.head _)))⟩ (fun b o q => F12.keep b o (hg0 b o q))
      · intro s ga9 _
        rw [← hm']
        exact go' (by lia) s ga9
  · rintro s₁ ⟨hout, hnz, mv⟩ h' kp
    obtain ⟨e1, e2, e3, F7, N7⟩ := back s₁ mv
    obtain ⟨h7, gg, dd, tk7, oo⟩ := s₁
    dsimp only at e1 e2 e3 F7 N7 kp
    subst e1; subst e2; subst e3
    rw [setGen_push]
    rw [show 100 - (100 - j) = j by lia] at hout
    refine wpAny_execs_nil (hR _ _ ?_)
    refine ⟨rfl, hnz, told, lines, left, tv, lv, tl, vsz, cT, cL, h', .finished, tk7, rfl, rfl, ?_, htv, hlv, hle, by lia, by lia, hlls, Mine.Fr.ext F7 kp, fun q hq => News.ext N7 kp q ?_⟩
    · rw [← hgo, typedGo_none hout]
    · simp only [List.mem_cons] at hq ⊢
      rcases hq with z | z | z
      · exact .inl z
      · exact .inr (.inl z)
      · exact .inr (.inr (.inr z))
  · rintro e s₁ ⟨hz, e1, e2, e3, h0, vs', t, ty, X, v0, ht, tF, te, eF, en, tn, kp, okf⟩
    rw [setGen_push] at e1 e2 e3 en tn kp
    obtain ⟨h7, gg, dd, tk7, oo⟩ := s₁
    dsimp only at e1 e2 e3 X okf en tn kp
    subst e1; subst e2; subst e3
    rw [setGen_push]
    obtain ⟨oe, hoe, hce, hde⟩ := X.there
    have e6 : ∀ b o, b < C + 2 → h6.get? b = some o → b ≠ e := fun b o hb q z => by rw [z] at q hb; rw [en hb] at q; cases q
    have hog6 : h6.get? (C + 1) = some og := N6.get (.tail _ (.tail _ (.head _)))
    have frL : ∀ b, b ∈ frs (env :: outer) → b < C := fun b hb => by
      rcases (frm b).mp hb with z | z
      · rw [z]; exact L5
      · exact frC b z
    refine ⟨⟨oe, hoe, hce⟩, ?_, ?_⟩
    · have := (X.up (C + 1) og (kp _ _ (Nat.succ_ne_self _) (Nat.lt_succ_self _) hog6) (by simpa using e6 _ _ (Nat.lt_succ_self _) hog6)).1 (fun z => absurd (Nat.lt_of_succ_lt (frL _ z)) (Nat.lt_irrefl _))
      rw [ea]
      exact let ⟨c1, ⟨nm, qn, d1⟩, s1⟩ := hog; ⟨og, nm, qn, this, c1, d1, s1⟩
    · unfold notedBy
      refine Ex.note X (.inr rfl) rfl okf hf fun h8 T8 X8 ok8 => ?_
      refine hR _ _ ?_
      dsimp only
      unfold cameBackBy
      obtain ⟨T1, et1⟩ := X8.one
      obtain ⟨o8, ho8, _, hd8⟩ := X8.there
      refine wpAny_bind (wpAny_field (i := 1) ho8 hd8 et1 ?_)
      rw [if_neg (show ¬ ((Value.ref T1 == Value.none) = true) from by simp), hf]
      refine Ex.flight X8 ok8 fun h9 X9 ok9 => ?_
      rw [if_neg (by simp)] at X9
      refine hE' _ _ ?_
      rw [hEnv]
      refine Ex.leave X9 (.inr (.inr rfl)) rfl ok9 hf fun h10 vs10 X10 hv10 ok10 => ?_
      have hb6 : ∀ b o, h.get? b = some o → h6.get? b = some o ∧ b < C := fun b o q => by
        have hbL : b < C := Nat.lt_trans (by rw [eL]; exact Heap.lt_size q) L5
        by_cases hbF : b ∈ frs outer
        · exact ⟨N6.get (.tail _ (.tail _ (.tail _ (.tail _ (.tail _ (List.mem_filterMap.mpr ⟨b, hbF, by rw [q]; rfl⟩)))))), hbL⟩
        · exact ⟨F6.keep b o (hid.sup b o q hbF), hbL⟩
      have two : ∀ b, b < C → b < C + 2 := fun b hb => Nat.lt_succ_of_lt (Nat.lt_succ_of_lt hb)
      have tL : t ≠ L := fun z => tF ((frm t).mpr (.inl z))
      refine hE hz h10 _ _ e ⟨hideAll h0 [L], vs10, t, ty, X10, ?_, hideAll_get _ ht (by simpa using tL), fun z => tF ((frm t).mpr (.inr z)), te, fun z => eF ((frm e).mpr (.inr z)), ?_, ?_, fun b o q => ?_, ok10⟩ (bare_push rfl)
      · rw [hv10 0 (by decide), Array.getElem?_setIfInBounds_ne (by decide)]; exact v0
      · cases q : h.get? e with
        | none => rfl
        | some o => have := hb6 e o q; rw [en (two _ this.2)] at this; cases this.1
      · cases q : h.get? t with
        | none => rfl
        | some o => have := hb6 t o q; rw [tn (two _ this.2)] at this; cases this.1
      · have hbL : b ≠ L := fun z => by rw [z, hLh] at q; cases q
        exact hideAll_get _ (kp b o (Nat.ne_of_lt (hb6 b o q).2) (two _ (hb6 b o q).2) (hb6 b o q).1) (by simpa using hbL)
end Mine
namespace Mine
local macro_rules | `(tactic| omega) => `(tactic| lia)
set_option maxRecDepth 100000 in
set_option maxHeartbeats 4000000 in
theorem refused {w : World} {mg mb : Str → Option Value} {loose : List Str} {mean : ExcName → Option Value} {gb : Heap} (G : Gd w mg mb loose mean gb)
    {A : Around} {h : Heap} {gs : Array GenState} {dr : Drawn} {tk : Nat} {os : OsState} {Q E : Value → Shared → Prop} {row : Addr} {vs : List Value} {ns : List Int} {x : Str} {t1 : Tok} {outer : List Env}
    (hd : A.depth ≤ 375) (hu : A.units ≤ 840) (hh : A.handled = none) (hfr : A.frames = some outer) (hok : FramesOk h outer) (hfb : ∀ b ∈ frs outer, gb.get? b = none ∧ b ≠ row)
    (st : gb.StaysIn h) (hl : h.IsList row vs.toArray) (hi : IntsAre vs ns) (hx : x.length ≤ 100) (hns : ∀ y ∈ ns, 0 ≤ y ∧ y < 1000) (hz : ns[0]? = some 0)
    (hQ : ∀ h' gs' tk', UpTo (frs outer) [] h h' → ((∀ g ∈ gs, g.bare = true) → ∀ g ∈ gs', g.bare = true) → Q (.bool true) ⟨h', gs', dr, tk', os⟩) :
    wpAny (model PySem.Challenge.rw_ny0036_01.row.prog w) A (call (.ref 76) [.str x t1, .ref row] []) Q E ⟨h, gs, dr, tk, os⟩ := by
  w_top off
  k_with_none
  k_with "call type:str cons nil" => refine' hold ?_
  refine wpAny_ax hd hu ?_
  rw [hh, hfr]
  have hH : ∀ a ∈ frs outer, gb.get? a = none := fun a ha => (hfb a ha).1
  have X := (G.keeps st).1
  have T := (G.keeps st).2.1
  revert X; k_fill; intro X
  refine' callK (binds := tyBinds x t1 row) (frs outer) X ?k6 ?k7 T.nolimit ?k8 ?k9 ?kB ?_ ?c5 ?c2 ?c3 ?c4
  case k6 => k_is
  case k7 => k_is
  case k8 => k_room
  case k9 => exact BindsTo.of_eq rfl
  case kB => exact locs rfl
  case c5 => decide
  case c2 => exact rfl
  case c3 => exact rfl
  case c4 => exact rfl
  intro h₀ L h₁ tk₁ hid eL F k₁
  have st₀ := hid.stays st hH
  obtain ⟨X₀, T₀, C₀⟩ := G.keeps st₀
  have U := FrUp.of hok
  have N := hid.news (news := frOf h outer) k₁ eL (fun q hq => frOf_mem hq)
  have hl0 : h₀.IsList row vs.toArray := let ⟨o, ho, r⟩ := hl; ⟨o, hid.sup _ _ ho (fun q => (hfb _ q).2 rfl), r⟩
  clear X T
  refine hideE fun E' _ => ?_
  refine wpAny_execs_cons (wpAny_Try_except ?_)
  walk_at "go"
  have hLh : h.get? L = none := by rw [eL]; exact Heap.get?_none_of_le (Nat.le_refl _)
  have hLg : gb.get? L = none := get_none_of (fun o q => ⟨o, st _ _ q⟩) hLh
  have hLrow : L ≠ row := fun z => by obtain ⟨o, ho, _⟩ := hl; rw [← z, hLh] at ho; cases ho
  have hLo : L ∉ frs outer := fun hm => by
    obtain ⟨o, _, _, ho, _⟩ := hok.mem L hm
    rw [hLh] at ho; cases ho
  have ok1 : FramesOk h₁ outer := U.frames N fun q hq => hq
  generalize hEnv : envOf (Str.ofString "_law_refused") _ L 76 (Value.ref 75) = env
  have hf : env.frame = some L := by rw [← hEnv]; rfl
  have hk : env.scope.kind = .function := by rw [← hEnv]; rfl
  have ok1e : FramesOk h₁ (env :: outer) := framesOk_cons hk hf F.ns ok1
  have frm : ∀ b, b ∈ frs (env :: outer) ↔ b = L ∨ b ∈ frs outer := fun b => by rw [frs_cons hf]; exact List.mem_cons
  refine typed (ns := ns) (vs := vs) G (Nat.le_of_ble_eq_true rfl) (Nat.le_of_ble_eq_true rfl) rfl rfl ok1e (fun b hb => ?_) (fun b o q => F.keep b o (st₀ b o q)) (F.lst hl0) hi hx hns (fun z => absurd hz z) (fun _ => ?_)
  · rcases (frm b).mp hb with rfl | hb
    · exact ⟨hLg, hLrow⟩
    · exact hfb b hb
  rintro h' gs' tk' e ⟨hx0, vs', t, ty, Xe, v0, ht, tF, te, eF, en, tn, kp, ok'⟩ bare
  refine Ex.note Xe (.inr rfl) (by rw [← hEnv]; rfl) ok' hf fun h3 T3 X3 hl3 => ?_
  refine Ex.flight (w := none) X3 hl3 fun h4 X4 hl4 => ?_
  rw [← hEnv]
  refine wpAny_handleBy_builtin_as (X := "ValueError") (T := "ValueError") (b := true) sub_ve_base ve_notTuple sub_ve_ve ?_
  rw [hEnv]
  have e0 : h₀.get? e = none := get_none_of (fun o q => ⟨o, F.keep _ _ q⟩) en
  have t0 : h₀.get? t = none := get_none_of (fun o q => ⟨o, F.keep _ _ q⟩) tn
  have eL' : e ≠ L := fun z => eF ((frm e).mpr (.inl z))
  have tL' : t ≠ L := fun z => tF ((frm t).mpr (.inl z))
  have hLn : ∀ b, b ∈ frs outer → h₀.get? b = none := fun b hb => hid.hid b hb
  have eh : h.get? e = none := get_none_of (fun o q => ⟨o, k₁ _ _ q⟩) en
  have ground : ∀ hq vsq fl, Ex (frs (env :: outer)) hx0 hq e (.type "ValueError") vsq fl → vsq[0]? = some (.ref t) → Fr h₀ L hq (fun y => List.lookup y (tyBinds x t1 row).reverse) ∧ UpTo (frs outer) [] h hq ∧
      ∃ oe, oe.cls = .type "ValueError" ∧ oe.data = .fields vsq ∧ News h₀ L hq ((e, oe) :: (t, { cls := .type "tuple", data := .seq #[.str (Str.ofString "invalid grouping") ty] }) :: frOf hq outer) ∧ FrUp h outer (frOf hq outer) := by
    intro hq vsq fl Xq v0q
    obtain ⟨oe, hoe, hce, hde⟩ := Xq.there
    have u1 : UpTo (frs (env :: outer)) [e] h₁ hx0 := fun b o q _ => ⟨fun _ => kp b o q, o.slots, kp b o q⟩
    have u2 := u1.trans Xq.up
    have uh : UpTo (frs outer) [] h hq := by
      have uk : UpTo (frs (env :: outer)) [e] h h₁ := fun b o q _ => ⟨fun _ => k₁ b o q, o.slots, k₁ b o q⟩
      exact (uk.trans u2).less (fun b q => by
        rcases (frm b).mp q with z | z
        · exact .inr (z ▸ hLh)
        · exact .inl z) (fun b q => .inr (List.mem_singleton.mp q ▸ eh))
    have htq : hq.get? t = some { cls := .type "tuple", data := .seq #[.str (Str.ofString "invalid grouping") ty] } := (Xq.up t _ ht (by simpa using te)).1 tF
    have Fq := Mine.Fr.upto F u2 (fun b q z => by
      rcases (frm b).mp q with y | y
      · exact absurd y z
      · exact hLn b y) (fun b q => by rw [List.mem_singleton.mp q]; exact ⟨e0, eL'⟩)
    refine ⟨Fq, uh, oe, hce, hde, fun q hq' => ?_, hok, fun b hb o q => ?_, fun _ m => (frOf_mem m).2⟩
    · simp only [List.mem_cons] at hq'
      rcases hq' with rfl | rfl | hq'
      · exact ⟨hoe, eL', e0⟩
      · exact ⟨htq, tL', t0⟩
      · exact ⟨(frOf_mem hq').1, fun z => hLo (z ▸ (frOf_mem hq').2), hLn _ (frOf_mem hq').2⟩
    · obtain ⟨_, sl, q2⟩ := uh b o q (fun z => nomatch z)
      exact ⟨sl, List.mem_filterMap.mpr ⟨b, hb, by rw [q2]; rfl⟩⟩
  have v0s : (vs'.setIfInBounds 1 (Value.ref T3))[0]? = some (.ref t) := by rw [Array.getElem?_setIfInBounds_ne (by decide)]; exact v0
  obtain ⟨F4, _, oe4, hc4, hd4, N4, U4⟩ := ground _ _ _ X4 v0s
  clear X3 hl3 N ok'
  dsimp only
  refine wpAny_mono (Q := fun c s₁ => c = .type "ValueError" ∧ s₁.heap = h4 ∧ s₁.gens = gs' ∧ s₁.drawn = dr ∧ s₁.os = os) (E := fun _ _ => False) ?_ ?_ (fun _ _ q => q.elim)
  · subst hEnv
    walk_at "go"
  · rintro c ⟨h4', g4, d4, tk4, os4⟩ ⟨rfl, rfl, rfl, rfl, rfl⟩
    refine ⟨rfl, ⟨oe4, N4.get (.head _), hc4⟩, ?_⟩
    rw [if_pos rfl]
    refine Ex.flight (w := none) X4 hl4 fun h5 X5 hl5 => ?_
    obtain ⟨F5, u5, oe5, hc5, hd5, N5, U5⟩ := ground _ _ _ X5 v0s
    clear F4 N4 U4 X4 hl4
    have keep5 := F5.keep
    subst hEnv
    dsimp only
    walk_at "go"
    (rename News _ _ _ _ => N6); (rename Fr _ _ _ _ => F6)
    refine P.str_of_exc_one F.excStr_ValueError (Nat.le_of_ble_eq_true rfl) ⟨_, _, N6.get (.head _), hc5, hd5, v0s⟩ ⟨_, _, N6.get (.tail _ (.head _)), rfl, rfl⟩ ?_
    walk_at "go"
    (rename News _ _ _ _ => N7); (rename Fr _ _ _ _ => F7)
    rw [beq_self_eq_true]
    refine RetTo.ret (hQ _ _ _ (fun b o q hX => ?_) bare)
    obtain ⟨q1, sl, q2⟩ := u5 b o q hX
    by_cases hbF : b ∈ frs outer
    · obtain ⟨sl2, hm⟩ := U5.up b hbF o q
      exact ⟨fun z => absurd hbF z, sl2, N7.get (.tail _ (.tail _ hm))⟩
    · have := F7.keep b o (hid.sup b o q hbF)
      exact ⟨fun _ => this, o.slots, this⟩
end Mine
namespace Mine
theorem callKC {prog : Program} {w : World} {A : Around} {Q E : Value → Shared → Prop} {h : Heap} {gs : Array GenState} {dr : Drawn} {tk : Nat} {os : OsState} {K : Frag} {name qual : Str} {params : Arguments} {body : List Stmt} {scope : Scope} {dV kV doc pm cdv ct oc : Value} {an od : Option Addr} {osl : Array (Option Value)}
    {f : Addr} {vs : List Value} {kw : List (Str × Value)} {binds : List (Str × Value)} (H : List Addr) (X : K.In h)
    (ho : K.lookup f = some ⟨oc, od, .func (fnOf name qual params body scope dV kV doc pm an cdv ct), osl⟩) (hcd : codeIn K cdv qual = true) (hlim : h.NoLimit) (hroom : A.depth < recursionLimit)
    (hbind : BindsTo ⟨h, gs, dr, tk, os⟩ (fnOf name qual params body scope dV kV doc pm an cdv ct) ⟨vs, kw⟩ binds)
    (hkind : ∀ n, ∀ x ∈ binds, scope.names.lookup x.1 = some .local ∨ (scope.names.lookup x.1 = some .cell ∧ ((cellsFrom n scope.names []).lookup x.1).isSome = true))
    (hnd : ((cellsFrom 0 scope.names []).map (·.1)).Nodup)
    (hb : ∀ h₀ L h₁ tk' cells, Hid H h h₀ → L = h.objs.size → Fr h₀ L h₁ (bindL (envOfC qual scope L f cdv).kindOf binds fun _ => none) → News h₀ L h₁ cells →
      CellsAre (bindC (envOfC qual scope L f cdv).kindOf binds fun _ => none) (cellsFrom (L + 1) scope.names []) cells → (∀ b o, h.get? b = some o → h₁.get? b = some o) →
      wpAny (model prog w) (A.deeper (envOfC qual scope L f cdv)) (execs body (envOfC qual scope L f cdv)) (RetTo Q)
        (fun e s' => wpAny (model prog w) (A.deeper (envOfC qual scope L f cdv)) (leaving (envOfC qual scope L f cdv) e) (fun _ s'' => E e s'') (fun e' s'' => E e' s'') s')
        ⟨h₁, gs, dr, tk', os⟩)
    (hco : scope.isCoroutine = false) (hgen : scope.isGenerator = false) (hk : scope.kind = .function) :
    wpAny (model prog w) A (call (.ref f) vs kw) Q E ⟨h, gs, dr, tk, os⟩ := by
  refine wpAny_call (codeAny_call_function (fd := fnOf name qual params body scope dV kV doc pm an cdv ct) (body := body) hroom (X _ _ ho) rfl hco hgen rfl (codeRec_of X hcd) (hbind _ _ _ _ ?_))
  refine wpAny_newFunctionEnv_cells hk (hkind _) fun env' he s' x => ?_
  subst he
  refine ⟨hlim.keeps x.toInCall.keep, codeAny_func ?_⟩
  obtain ⟨h₁, tk', rfl, _⟩ := x.done
  have hk₁ := x.toInCall.keep
  obtain ⟨cells, NC, Y⟩ := Cl.news (h₀ := h) (Nat.le_refl _) fun n c hm => ⟨x.cell n c (lookup_of_mem_nodup (cellsFrom_names scope.names 0 (h.objs.size + 1) [] [] rfl ▸ hnd) hm), x.above n c hm⟩
  refine hb (hideAll h H) h.objs.size h₁ tk' cells (Hid.of H h) rfl ⟨x.toInCall.ns, fun b o e => hk₁ b o (of_hideAll _ e), Nat.le_of_eq (hideAll_size _ _)⟩ (fun p hp => ?_) Y hk₁
  refine ⟨(NC p hp).1, (NC p hp).2.1, ?_⟩
  cases q : (hideAll h H).get? p.1 with
  | none => rfl
  | some o => have := of_hideAll _ q; rw [(NC p hp).2.2] at this; cases this
end Mine
namespace Mine
/-- what a turn of a comprehension leaves: the rest of the run's state; what the loop itself holds -/
inductive CStep (keep : List Addr) (s s' : Shared) : Prop
  | mk : ∀ h' tk', (s' = { s with heap := h', toks := tk' }) → (∀ b ∈ keep, ∀ o, s.heap.get? b = some o → h'.get? b = some o) → CStep keep s s'
/-- what a comprehension by a word wants of its source -/
inductive CompGo (prog : Program) (w : World) (A : Around) (env : Env) (elt : Expr) (x : Str) (ifs : List Expr) (scope : Scope) (cl : List (Str × Addr)) (Q : Value → Shared → Prop) (it : Value) (s₂ : Shared) : Prop
  | mk : ∀ D, (s₂.heap.objs.size = D) → ∀ I fp wr n P St, (it = .ref I) →
      (Walks prog w A I fp wr n P St) →
      (n ≤ sizeLine) →
      (St 0 s₂.heap) →
      ((∀ b ∈ fp, b < D)) →
      ∀ (U : Nat → List Value → Heap → Prop), (U 0 [] s₂.heap) →
      ((∀ i ys h h', U i ys h → (∀ b o, b ∉ wr → b ≠ D → b ≠ D + 1 → h.get? b = some o → h'.get? b = some o) → U i ys h')) →
      ((∀ i ys v s₃ m₃ E', i < n → P i v → U i ys s₃.heap → ys.length ≤ i → s₃.heap.PlainList D ys.toArray → St (i + 1) s₃.heap → s₃.heap.Ns (D + 1) m₃ → m₃ x = some v → s₃.gens = s₂.gens → s₃.drawn = s₂.drawn → s₃.os = s₂.os → wpAny (model prog w) A (forIn ifs true fun c r => if r = true then do let ok ← isTrue c (compEnvC scope cl (D + 1) env) (eval c (compEnvC scope cl (D + 1) env)); pure (ForInStep.yield ok) else pure (ForInStep.yield r)) (fun ok s₄ => if ok = true then wpAny (model prog w) A (eval elt (compEnvC scope cl (D + 1) env)) (fun y s₅ => CStep (D :: (D + 1) :: fp) s₃ s₅ ∧ U (i + 1) (ys ++ [y]) s₅.heap) E' s₄ else CStep (D :: (D + 1) :: fp) s₃ s₄ ∧ U (i + 1) ys s₄.heap) E' s₃)) →
      ((∀ h' tk ys, U n ys h' → ys.length ≤ n → h'.PlainList D ys.toArray → Q (.ref D) { s₂ with heap := h', toks := tk })) →
      CompGo prog w A env elt x ifs scope cl Q it s₂
section
variable {prog : Program} {w : World} {A : Around} {E : Value → Shared → Prop} {s : Shared} {env : Env}
/-- a list comprehension by a word U over (turns done, items so far, heap) -/
theorem compBy {elt iter : Expr} {x : Str} {px : Pos} {ifs : List Expr} {scope : Scope} {cl : List (Str × Addr)} {pos : Pos} {Q : Value → Shared → Prop}
    (hclos : closureFor scope env = pure cl) (hcell : ∀ y ∈ scope.names, y.2 ≠ .cell) (hkind : scope.kind = .function)
    (hnames : ∀ y ∈ scope.names, y.2 = .local → scope.names.lookup y.1 = some .local) (hx : scope.names.lookup x = some .local)
    (h : wpAny (model prog w) A (eval iter env) (fun xv s₁ => wpAny (model prog w) A (pyIter xv) (fun it s₂ => CompGo prog w A env elt x ifs scope cl Q it s₂) E s₁) E s)
    (hs : ∀ x, foldedSetIterable iter env x = pure x := by intro _; rfl) :
    wpAny (model prog w) A (eval (.ListComp elt [⟨.Name x px, iter, ifs, 0⟩] scope pos) env) Q E s := by
  rw [eval_ListComp]
  refine wpAny_comprehension_free (use := none) rfl hs hclos hkind hnames (wpAny_mono h (fun xv s₁ h₁ => wpAny_mono h₁ (fun it s₂ h₂ => ?_) fun _ _ e => e) fun _ _ e => e)
  obtain ⟨_, rfl, I, fp, wr, n, P, St, rfl, W, hsz, hst, hfp, U, u0, ust, turn, hQ⟩ := h₂
  refine wpAny_newObj_type (wpAny_newFunctionEnv hcell (by intro y hy; simp at hy) (fun h₁ hns₁ hsb₁ => ?_) hkind)
  dsimp only at hns₁ hsb₁ ⊢
  generalize hH2 : s₂.heap.push { cls := .type "list", dict := none, data := .seq ([] : List Value).toArray } = H2 at hns₁ hsb₁ ⊢
  have hC : H2.objs.size = s₂.heap.objs.size + 1 := by rw [← hH2, Heap.size_push]
  rw [hC] at hns₁ hsb₁ ⊢
  have hDC : s₂.heap.objs.size ≠ s₂.heap.objs.size + 1 := Nat.ne_of_lt (Nat.lt_succ_self _)
  have hDf : s₂.heap.objs.size ∉ fp := fun hm => Nat.lt_irrefl _ (hfp _ hm)
  have hCf : s₂.heap.objs.size + 1 ∉ fp := fun hm => by have := hfp _ hm; exact Nat.lt_irrefl _ (Nat.lt_of_succ_lt this)
  have old : ∀ b o, s₂.heap.get? b = some o → h₁.get? b = some o := fun b o e => hsb₁.extBut b o (Nat.ne_of_lt (Nat.lt_succ_of_lt (Heap.lt_size e))) (Heap.get?_push_of_some _ (hH2 ▸ Heap.get?_push_of_some _ e))
  have hacc : h₁.PlainList s₂.heap.objs.size #[] := ⟨_, hsb₁.extBut _ _ hDC (Heap.get?_push_of_some _ (hH2 ▸ Heap.get?_push_size _ rfl))⟩
  have hst₁ : St 0 h₁ := W.frame _ _ _ hst fun b _ o e => old b o e
  have hCw : s₂.heap.objs.size + 1 ∉ wr := fun h => hCf (W.sub _ h)
  have hDw : s₂.heap.objs.size ∉ wr := fun h => hDf (W.sub _ h)
  have hxl : (compEnvC scope cl (s₂.heap.objs.size + 1) env).kindOf x = some .local := lookup_relabel_local hx
  have hp : ((compEnvC scope cl (s₂.heap.objs.size + 1) env).scope.kind == .class || ((compEnvC scope cl (s₂.heap.objs.size + 1) env).scope.kind == .module && (compEnvC scope cl (s₂.heap.objs.size + 1) env).locals != (compEnvC scope cl (s₂.heap.objs.size + 1) env).globals)) = false := by simp [compEnvC, relabel, hkind]
  have loop : ∀ s₃ : Shared, s₃ = { s₂ with heap := h₁, toks := s₂.toks + ([] : List (Str × Value)).length } →
      codeAny (model prog w) A (.compLoop (.ListComp elt [⟨.Name x px, iter, ifs, 0⟩] scope pos) 0 (.ref I) (.ref s₂.heap.objs.size) (compEnvC scope cl (s₂.heap.objs.size + 1) env))
        (compPost (model prog w) A E none Q (.ref s₂.heap.objs.size) (s₂.heap.objs.size + 1)) s₃ := by
    rintro s₃ rfl
    refine codeAny_compLoop_tests
      (fun k s' => ∃ h' tk m' ys i, s' = { s₂ with heap := h', toks := tk } ∧ St i h' ∧ h'.PlainList s₂.heap.objs.size ys.toArray ∧ h'.Ns (s₂.heap.objs.size + 1) m' ∧ i ≤ n ∧ k = n + 1 - i ∧ ys.length ≤ i ∧ U i ys h') ?_ (n + 1)
      ⟨h₁, _, _, [], 0, rfl, hst₁, hacc, hns₁, Nat.zero_le _, rfl, Nat.le_refl _, ust _ _ _ _ u0 fun b o _ _ _ e => old b o e⟩
    rintro k s' ⟨H, tk, m', ys, i, rfl, hst', hacc', hn', hi, rfl, hyl, hU⟩
    by_cases hlt : i < n
    · refine W.item i _ _ _ hlt hst' fun v h₁ tk₁ hPv hst₁ hk₁ => ?_
      refine wpAny_assign_Name (wpAny_storeName_local hxl (hn'.at' fun o e => hk₁ _ o hCw e) (fun h₂ hn₂ hs₂ => ?_) hp)
      have up₂ : ∀ b o, b ∉ wr → b ≠ s₂.heap.objs.size + 1 → H.get? b = some o → h₂.get? b = some o := fun b o hbf hbC e => hs₂.extBut b o hbC (hk₁ b o hbf e)
      have hst₂ : St (i + 1) h₂ := W.frame _ _ _ hst₁ fun b hb o e => hs₂.extBut b o (fun h => hCf (by have h' : b = s₂.heap.objs.size + 1 := h; rw [← h']; exact hb)) e
      have hU₂ : U i ys h₂ := ust _ _ _ _ hU fun b o hb _ hbC e => up₂ b o hb hbC e
      refine wpAny_mono (turn i ys v _ _ _ hlt hPv hU₂ hyl (hacc'.at fun o e => up₂ _ o hDw hDC e) hst₂ hn₂ (by simp) rfl rfl rfl) (fun ok s₄ h₄ => ?_) fun _ _ e => e
      cases ok with
      | false =>
        simp only [Bool.false_eq_true, if_false] at h₄ ⊢
        obtain ⟨⟨h₅, tk₅, rfl, k₅⟩, hU₅⟩ := h₄
        have hDk : ∀ o, h₂.get? s₂.heap.objs.size = some o → h₅.get? s₂.heap.objs.size = some o := k₅ _ (.head _)
        have hCk : ∀ o, h₂.get? (s₂.heap.objs.size + 1) = some o → h₅.get? (s₂.heap.objs.size + 1) = some o := k₅ _ (.tail _ (.head _))
        exact ⟨n + 1 - (i + 1), by lia, h₅, tk₅, _, ys, i + 1, rfl, W.frame _ _ _ hst₂ fun b hb o e => k₅ b (.tail _ (.tail _ hb)) o e,
          hacc'.at fun o e => hDk o (up₂ _ o hDw hDC e), hn₂.at' fun o e => hCk o e, hlt, rfl, Nat.le_succ_of_le hyl, hU₅⟩
      | true =>
        simp only [if_true] at h₄ ⊢
        refine wpAny_mono h₄ (fun y s₅ h₅ => ?_) fun _ _ e => e
        obtain ⟨⟨h₅, tk₅, rfl, k₅⟩, hU₅⟩ := h₅
        have hDk : ∀ o, h₂.get? s₂.heap.objs.size = some o → h₅.get? s₂.heap.objs.size = some o := k₅ _ (.head _)
        have hCk : ∀ o, h₂.get? (s₂.heap.objs.size + 1) = some o → h₅.get? (s₂.heap.objs.size + 1) = some o := k₅ _ (.tail _ (.head _))
        have hys : ys.toArray.size ≤ sizeLine := by simp; lia
        refine wpAny_list_append_plain (hsz := hys) (hacc'.at fun o e => hDk o (up₂ _ o hDw hDC e)) fun h₆ hl₆ hs₆ => ?_
        refine ⟨n + 1 - (i + 1), by lia, h₆, tk₅, _, ys ++ [y], i + 1, rfl, W.frame _ _ _ hst₂ fun b hb o e => hs₆.extBut b o (fun h => hDf (h ▸ hb)) (k₅ b (.tail _ (.tail _ hb)) o e),
          by simpa using hl₆, (hn₂.at' fun o e => hCk o e).sameBut hs₆ (Ne.symm hDC), hlt, rfl, by rw [List.length_append, List.length_singleton]; lia, ust _ _ _ _ hU₅ fun b o _ hbD _ e => hs₆.extBut b o hbD e⟩
    · have hin : i = n := by lia
      subst hin
      refine W.done _ _ _ hst' fun h₁ tk₁ hk₁ => ?_
      have hacc₁ := hacc'.at fun o e => hk₁ _ o hDw e
      refine ⟨m', hn'.at' fun o e => hk₁ _ o hCw e, fun h'' hs'' => ?_⟩
      exact hQ h'' _ ys (ust _ _ _ _ hU fun b o hb _ hbC e => hs''.extBut b o hbC (hk₁ b o hb e)) hyl (hacc₁.at fun o e => hs''.extBut _ o hDC e)
  exact codeAny_compStart_list (loop _ rfl) (W.self 0 _ _ _ hst₁ (loop _ rfl))
end
end Mine
namespace Mine
local macro_rules | `(tactic| omega) => `(tactic| lia)
/-- what _law_row's frame stands on: the heap hc at the call, the callers' frames -/
structure RowCx (gb hc : Heap) (outer : List Env) (L : Addr) : Prop where
  n36 : gb.get? 36 = none
  st : gb.StaysIn hc
  eL : L = hc.objs.size
  ok : FramesOk hc outer
  fb : ∀ b ∈ frs outer, gb.get? b = none ∧ b ≠ 36
  p36 : ∃ o, hc.get? 36 = some o
/-- an address that the call has made, apart from the frame and its cells -/
def Own (hc : Heap) (L b : Addr) : Prop := hc.get? b = none ∧ (@LT.lt Nat _ b L ∨ @LT.lt Nat _ (L + 8) b)
theorem Own.ne {hc : Heap} {L b : Addr} (x : Own hc L b) : b ≠ L := fun z => by
  have z' : @Eq Nat b L := z
  rcases x.2 with q | q <;> lia
/-- the state of _law_row between two statements; cells: line, places, text, endless, size, plain, barred, signs -/
structure RowInv (gb hc : Heap) (outer : List Env) (L : Addr) (h : Heap) (m : Str → Option Value) (c1 c2 c3 c4 c5 c6 c7 c8 : Option Value) (objs : List (Addr × Obj)) (ca : Addr) (oc : Obj) (ps : Array Value) : Prop where
  ns : h.Ns L m
  up : UpTo (frs outer) [36] hc h
  d1 : ∃ o, h.get? (L + 1 + 1 + 1 + 1 + 1 + 1 + 1 + 1) = some o ∧ o.data = .cell c1
  d2 : ∃ o, h.get? (L + 1 + 1 + 1 + 1 + 1 + 1 + 1) = some o ∧ o.data = .cell c2
  d3 : ∃ o, h.get? (L + 1 + 1 + 1 + 1 + 1 + 1) = some o ∧ o.data = .cell c3
  d4 : ∃ o, h.get? (L + 1 + 1 + 1 + 1 + 1) = some o ∧ o.data = .cell c4
  d5 : ∃ o, h.get? (L + 1 + 1 + 1 + 1) = some o ∧ o.data = .cell c5
  d6 : ∃ o, h.get? (L + 1 + 1 + 1) = some o ∧ o.data = .cell c6
  d7 : ∃ o, h.get? (L + 1 + 1) = some o ∧ o.data = .cell c7
  d8 : ∃ o, h.get? (L + 1) = some o ∧ o.data = .cell c8
  objs : ∀ q ∈ objs, h.get? q.1 = some q.2 ∧ Own hc L q.1
  hca : h.get? ca = some oc
  hP : h.get? 36 = some (tabObj ps)
  tb : TabOk gb ca oc ps
  caF : ca ∉ frs outer
/-- the ledger of _law_row: its eight cells, the table, what lies behind -/
abbrev rowLed (L ca : Addr) (oc : Obj) (ps : Array Value) (tl : List (Addr × Obj)) (o1 o2 o3 o4 o5 o6 o7 o8 : Obj) : List (Addr × Obj) :=
  (L + 1 + 1 + 1 + 1 + 1 + 1 + 1 + 1, o1) :: (L + 1 + 1 + 1 + 1 + 1 + 1 + 1, o2) :: (L + 1 + 1 + 1 + 1 + 1 + 1, o3) :: (L + 1 + 1 + 1 + 1 + 1, o4) :: (L + 1 + 1 + 1 + 1, o5) :: (L + 1 + 1 + 1, o6) :: (L + 1 + 1, o7) :: (L + 1, o8) :: (ca, oc) :: (36, tabObj ps) :: tl
theorem rowLed_tail {L ca : Addr} {oc : Obj} {ps : Array Value} {tl : List (Addr × Obj)} {o1 o2 o3 o4 o5 o6 o7 o8 : Obj} {q : Addr × Obj} (hq : q ∈ tl) : q ∈ rowLed L ca oc ps tl o1 o2 o3 o4 o5 o6 o7 o8 := by
  iterate 10 refine .tail _ ?_
  exact hq
section
variable {gb hc : Heap} {outer : List Env} {L : Addr} {h h' : Heap} {m m' : Str → Option Value} {c1 c2 c3 c4 c5 c6 c7 c8 : Option Value} {objs front back : List (Addr × Obj)} {ca : Addr} {oc : Obj} {ps : Array Value}
theorem RowCx.lt36 (X : RowCx gb hc outer L) : @LT.lt Nat _ 36 L := by obtain ⟨o, ho⟩ := X.p36; rw [X.eL]; exact Heap.lt_size ho
theorem RowCx.frL (X : RowCx gb hc outer L) : ∀ b ∈ frs outer, @LT.lt Nat _ b L := fun b hb => by
  obtain ⟨o, _, _, ho, _⟩ := X.ok.mem b hb
  rw [X.eL]; exact Heap.lt_size ho
theorem RowCx.new (X : RowCx gb hc outer L) {b : Addr} (hb : @LE.le Nat _ L b) : hc.get? b = none := Heap.get?_none_of_le (by rw [← X.eL]; exact hb)
theorem RowInv.caL (X : RowCx gb hc outer L) (I : RowInv gb hc outer L h m c1 c2 c3 c4 c5 c6 c7 c8 objs ca oc ps) : @LT.lt Nat _ ca L ∨ @LT.lt Nat _ (L + 8) ca := by
  have l36 := X.lt36
  rcases I.tb.2 with ⟨_, e, _⟩ | ⟨_, _, vs, t, e, _⟩
  · rw [e]; exact .inl l36
  · have nc : ∀ b o v, h.get? b = some o → o.data = .cell v → ca ≠ b := fun b o v q d z => by rw [← z, I.hca] at q; cases q; rw [e] at d; cases d
    obtain ⟨o1, q1, e1⟩ := I.d1; obtain ⟨o2, q2, e2⟩ := I.d2; obtain ⟨o3, q3, e3⟩ := I.d3; obtain ⟨o4, q4, e4⟩ := I.d4
    obtain ⟨o5, q5, e5⟩ := I.d5; obtain ⟨o6, q6, e6⟩ := I.d6; obtain ⟨o7, q7, e7⟩ := I.d7; obtain ⟨o8, q8, e8⟩ := I.d8
    have n1 : @Ne Nat ca _ := nc _ _ _ q1 e1; have n2 : @Ne Nat ca _ := nc _ _ _ q2 e2; have n3 : @Ne Nat ca _ := nc _ _ _ q3 e3; have n4 : @Ne Nat ca _ := nc _ _ _ q4 e4
    have n5 : @Ne Nat ca _ := nc _ _ _ q5 e5; have n6 : @Ne Nat ca _ := nc _ _ _ q6 e6; have n7 : @Ne Nat ca _ := nc _ _ _ q7 e7; have n8 : @Ne Nat ca _ := nc _ _ _ q8 e8
    have nL : @Ne Nat ca L := fun z => by
      obtain ⟨o, es, ep, ho, hd, _⟩ := I.ns
      rw [← show ca = L from z, I.hca] at ho; cases ho; rw [e] at hd; cases hd
    lia
theorem RowInv.frames (X : RowCx gb hc outer L) (I : RowInv gb hc outer L h m c1 c2 c3 c4 c5 c6 c7 c8 objs ca oc ps) : FramesOk h outer := fun env he => by
  obtain ⟨hk, L', o, es, n, hf, ho, hd⟩ := X.ok env he
  have hm : L' ∈ frs outer := List.mem_filterMap.mpr ⟨env, he, hf⟩
  obtain ⟨_, sl, e⟩ := I.up L' o ho (fun z => (X.fb L' hm).2 (List.mem_singleton.mp z))
  exact ⟨hk, L', _, es, n, hf, e, hd⟩
theorem RowInv.stays (X : RowCx gb hc outer L) (I : RowInv gb hc outer L h m c1 c2 c3 c4 c5 c6 c7 c8 objs ca oc ps) : gb.StaysIn h :=
  UpTo.stays I.up X.st (fun b hb => (X.fb b hb).1) (fun b hb => by rw [List.mem_singleton.mp hb]; exact X.n36)
/-- the way back from frame and ledger -/
def RowBack (gb hc : Heap) (outer : List Env) (L : Addr) (fl : List (Addr × Obj)) (back : List (Addr × Obj)) (ca : Addr) (oc : Obj) (ps : Array Value) (h₀ : Heap) : Prop :=
  ∀ h' m' front' o1 o2 o3 o4 o5 o6 o7 o8 c1 c2 c3 c4 c5 c6 c7 c8, Fr h₀ L h' m' → News h₀ L h' (front' ++ rowLed L ca oc ps (back ++ fl) o1 o2 o3 o4 o5 o6 o7 o8) → (∀ q ∈ front', Own hc L q.1) →
        (o1.data = .cell c1 ∧ o2.data = .cell c2 ∧ o3.data = .cell c3 ∧ o4.data = .cell c4 ∧ o5.data = .cell c5 ∧ o6.data = .cell c6 ∧ o7.data = .cell c7 ∧ o8.data = .cell c8) →
        RowInv gb hc outer L h' m' c1 c2 c3 c4 c5 c6 c7 c8 (front' ++ back) ca oc ps
/-- frame and ledger for the walk, and back -/
inductive RowOpen (gb hc : Heap) (outer : List Env) (L : Addr) (h : Heap) (m : Str → Option Value) (c1 c2 c3 c4 c5 c6 c7 c8 : Option Value) (front back : List (Addr × Obj)) (ca : Addr) (oc : Obj) (ps : Array Value) : Prop
  | mk (h₀ : Heap) (o1 o2 o3 o4 o5 o6 o7 o8 : Obj) (st : gb.StaysIn h₀) (F : Fr h₀ L h m) (N : News h₀ L h (front ++ rowLed L ca oc ps (back ++ frOf h outer) o1 o2 o3 o4 o5 o6 o7 o8))
      (e1 : o1.data = .cell c1) (e2 : o2.data = .cell c2) (e3 : o3.data = .cell c3) (e4 : o4.data = .cell c4) (e5 : o5.data = .cell c5) (e6 : o6.data = .cell c6) (e7 : o7.data = .cell c7) (e8 : o8.data = .cell c8)
      (htl : ∀ q ∈ back ++ frOf h outer, @LT.lt Nat _ q.1 L ∨ @LT.lt Nat _ (L + 8) q.1) (hsup : ∀ b o, hc.get? b = some o → b ≠ 36 → b ≠ ca → b ∉ frs outer → h₀.get? b = some o)
      (bk : RowBack gb hc outer L (frOf h outer) back ca oc ps h₀) : RowOpen gb hc outer L h m c1 c2 c3 c4 c5 c6 c7 c8 front back ca oc ps
theorem RowInv.open (X : RowCx gb hc outer L) (I : RowInv gb hc outer L h m c1 c2 c3 c4 c5 c6 c7 c8 (front ++ back) ca oc ps) : RowOpen gb hc outer L h m c1 c2 c3 c4 c5 c6 c7 c8 front back ca oc ps := by
  have l36 := X.lt36
  have caL := I.caL X
  obtain ⟨o1, q1, e1⟩ := I.d1; obtain ⟨o2, q2, e2⟩ := I.d2; obtain ⟨o3, q3, e3⟩ := I.d3; obtain ⟨o4, q4, e4⟩ := I.d4
  obtain ⟨o5, q5, e5⟩ := I.d5; obtain ⟨o6, q6, e6⟩ := I.d6; obtain ⟨o7, q7, e7⟩ := I.d7; obtain ⟨o8, q8, e8⟩ := I.d8
  have H := Hid.of (36 :: ca :: frs outer) hc
  generalize hideAll hc (36 :: ca :: frs outer) = h₀ at H
  have hgo : ∀ a ∈ 36 :: ca :: frs outer, gb.get? a = none := fun a ha => by
    rcases List.mem_cons.mp ha with rfl | ha
    · exact X.n36
    rcases List.mem_cons.mp ha with rfl | ha
    · exact I.tb.1
    · exact (X.fb a ha).1
  have st₀ := H.stays X.st hgo
  have keep : ∀ b o, h₀.get? b = some o → hc.get? b = some o ∧ b ≠ 36 ∧ b ≠ ca ∧ b ∉ frs outer := fun b o q => by
    have nm : b ∉ 36 :: ca :: frs outer := fun z => by rw [H.hid b z] at q; cases q
    simp only [List.mem_cons, not_or] at nm
    exact ⟨H.sub b o q, nm.1, nm.2.1, nm.2.2⟩
  have ge : ∀ b, @LE.le Nat _ L b → h₀.get? b = none := fun b hb => Heap.get?_none_of_le (by rw [H.size, ← X.eL]; exact hb)
  have hn0 : ∀ b, hc.get? b = none → h₀.get? b = none := fun b hb => by
    cases q : h₀.get? b with
    | none => rfl
    | some o => rw [H.sub b o q] at hb; cases hb
  refine ⟨h₀, o1, o2, o3, o4, o5, o6, o7, o8, st₀, ⟨I.ns, fun b o q => ?_, by rw [H.size, ← X.eL]; exact Nat.le_refl _⟩, fun q hq => ?_, e1, e2, e3, e4, e5, e6, e7, e8, fun q hq => ?_, fun b o q n1 n2 n3 => H.sup b o q (by simp [n1, n2, n3]), ?_⟩
  · obtain ⟨a1, a2, _, a4⟩ := keep b o q
    exact (I.up b o a1 (by simpa using a2)).1 a4
  · rcases List.mem_append.mp hq with hq | hq
    · obtain ⟨a1, a2⟩ := I.objs q (List.mem_append_left _ hq)
      exact ⟨a1, a2.ne, hn0 _ a2.1⟩
    · simp only [List.mem_cons, List.mem_append] at hq
      rcases hq with rfl | rfl | rfl | rfl | rfl | rfl | rfl | rfl | rfl | rfl | hq | hq
      · exact ⟨q1, Nat.ne_of_gt (by lia), ge _ (by lia)⟩
      · exact ⟨q2, Nat.ne_of_gt (by lia), ge _ (by lia)⟩
      · exact ⟨q3, Nat.ne_of_gt (by lia), ge _ (by lia)⟩
      · exact ⟨q4, Nat.ne_of_gt (by lia), ge _ (by lia)⟩
      · exact ⟨q5, Nat.ne_of_gt (by lia), ge _ (by lia)⟩
      · exact ⟨q6, Nat.ne_of_gt (by lia), ge _ (by lia)⟩
      · exact ⟨q7, Nat.ne_of_gt (by lia), ge _ (by lia)⟩
      · exact ⟨q8, Nat.ne_of_gt (by lia), ge _ (by lia)⟩
      · exact ⟨I.hca, by dsimp only; rcases caL with z | z; exact Nat.ne_of_lt z; exact Nat.ne_of_gt (by lia), H.hid _ (.tail _ (.head _))⟩
      · exact ⟨I.hP, Nat.ne_of_lt l36, H.hid _ (.head _)⟩
      · obtain ⟨a1, a2⟩ := I.objs q (List.mem_append_right _ hq)
        exact ⟨a1, a2.ne, hn0 _ a2.1⟩
      · obtain ⟨a1, a2⟩ := frOf_mem hq
        exact ⟨a1, Nat.ne_of_lt (X.frL _ a2), H.hid _ (.tail _ (.tail _ a2))⟩
  · rcases List.mem_append.mp hq with hq | hq
    · exact (I.objs q (List.mem_append_right _ hq)).2.2
    · exact .inl (X.frL _ (frOf_mem hq).2)
  · intro h' m' front' p1 p2 p3 p4 p5 p6 p7 p8 v1 v2 v3 v4 v5 v6 v7 v8 F N hfr ⟨f1, f2, f3, f4, f5, f6, f7, f8⟩
    have inl : ∀ q ∈ rowLed L ca oc ps (back ++ frOf h outer) p1 p2 p3 p4 p5 p6 p7 p8, h'.get? q.1 = some q.2 := fun q hq => (N q (List.mem_append_right _ hq)).1
    refine ⟨F.ns, fun b o q hX => ?_, ⟨p1, inl _ (.head _), f1⟩, ⟨p2, inl _ (.tail _ (.head _)), f2⟩, ⟨p3, inl _ (.tail _ (.tail _ (.head _))), f3⟩, ⟨p4, inl _ (.tail _ (.tail _ (.tail _ (.head _)))), f4⟩,
      ⟨p5, inl _ (.tail _ (.tail _ (.tail _ (.tail _ (.head _))))), f5⟩, ⟨p6, inl _ (.tail _ (.tail _ (.tail _ (.tail _ (.tail _ (.head _)))))), f6⟩, ⟨p7, inl _ (.tail _ (.tail _ (.tail _ (.tail _ (.tail _ (.tail _ (.head _))))))), f7⟩,
      ⟨p8, inl _ (.tail _ (.tail _ (.tail _ (.tail _ (.tail _ (.tail _ (.tail _ (.head _)))))))), f8⟩, fun q hq => ?_, inl (ca, oc) (by simp), inl (36, tabObj ps) (by simp), I.tb, I.caF⟩
    · obtain ⟨a1, sl, a2⟩ := I.up b o q hX
      by_cases hF : b ∈ frs outer
      · have hm : (b, ({ o with slots := sl } : Obj)) ∈ frOf h outer := List.mem_filterMap.mpr ⟨b, hF, by rw [a2]; rfl⟩
        exact ⟨fun z => absurd hF z, sl, inl (b, _) (rowLed_tail (List.mem_append_right _ hm))⟩
      · have : h'.get? b = some o := by
          by_cases z : b = ca
          · have := a1 hF
            rw [z, I.hca] at this
            cases this
            rw [z]
            exact inl (ca, oc) (by simp)
          · exact F.keep b o (H.sup b o q (by simp [z, hF]; simpa using hX))
        exact ⟨fun _ => this, o.slots, this⟩
    · rcases List.mem_append.mp hq with hq | hq
      · exact ⟨(N q (List.mem_append_left _ hq)).1, hfr q hq⟩
      · exact ⟨inl q (rowLed_tail (List.mem_append_left _ hq)), (I.objs q (List.mem_append_right _ hq)).2⟩
/-- behind a call that keeps all but the callers' slots and the table -/
theorem RowInv.upto {env : Env} (X : RowCx gb hc outer L) (I : RowInv gb hc outer L h m c1 c2 c3 c4 c5 c6 c7 c8 objs ca oc ps) (hf : env.frame = some L) (u : UpTo (frs (env :: outer)) [36] h h') {ca' : Addr} {oc' : Obj} {ps' : Array Value}
    (hca : h'.get? ca' = some oc') (hP : h'.get? 36 = some (tabObj ps')) (tb : TabOk gb ca' oc' ps') : RowInv gb hc outer L h' m c1 c2 c3 c4 c5 c6 c7 c8 objs ca' oc' ps' := by
  have l36 := X.lt36
  have keep : ∀ b o, @LT.lt Nat _ L b → h.get? b = some o → h'.get? b = some o := fun b o hb q => (u b o q (fun z => by have e : @Eq Nat b 36 := List.mem_singleton.mp z; lia)).1 fun z => by
    rw [frs_cons hf] at z
    rcases List.mem_cons.mp z with z | z
    · exact Nat.lt_irrefl _ (z ▸ hb)
    · have := X.frL b z; lia
  have kc : ∀ {b c}, @LT.lt Nat _ L b → (∃ o, h.get? b = some o ∧ o.data = .cell c) → ∃ o, h'.get? b = some o ∧ o.data = .cell c := fun hb ⟨o, q, e⟩ => ⟨o, keep _ o hb q, e⟩
  have ko : ∀ b o, h.get? b = some o → Own hc L b → h'.get? b = some o := fun b o q hb => (u b o q (fun z => by
    obtain ⟨o', q'⟩ := X.p36
    rw [← List.mem_singleton.mp z, hb.1] at q'; cases q')).1 fun z => by
      rw [frs_cons hf] at z
      rcases List.mem_cons.mp z with z | z
      · exact hb.ne z
      · obtain ⟨o', _, _, q', _⟩ := X.ok.mem b z
        rw [hb.1] at q'; cases q'
  refine ⟨?_, ?_, kc (by lia) I.d1, kc (by lia) I.d2, kc (by lia) I.d3, kc (by lia) I.d4, kc (by lia) I.d5, kc (by lia) I.d6, kc (by lia) I.d7, kc (by lia) I.d8, fun q hq => ⟨ko _ _ (I.objs q hq).1 (I.objs q hq).2, (I.objs q hq).2⟩, hca, hP, tb, fun z => ?_⟩
  · obtain ⟨o, es, ep, ho, hd, r⟩ := I.ns
    obtain ⟨_, sl, e⟩ := u L o ho (fun z => by have e : @Eq Nat L 36 := List.mem_singleton.mp z; lia)
    exact ⟨_, es, ep, e, hd, r⟩
  · exact UpTo.less (S' := frs outer) (X' := [36]) (UpTo.trans (UpTo.more I.up (S' := L :: frs outer) (fun b z => .tail _ z) (fun _ z => z)) (u.more (S' := L :: frs outer) (fun b z => by rw [frs_cons hf] at z; exact z) (fun _ z => z))) (fun b z => by
      rcases List.mem_cons.mp z with z | z
      · exact .inr (z ▸ X.new (Nat.le_refl _))
      · exact .inl z) (fun b z => .inl z)
  · obtain ⟨o, es, n, ho, hd⟩ := (I.frames X).mem ca' z
    obtain ⟨_, sl, e⟩ := u ca' o ho (fun q => (X.fb ca' z).2 (List.mem_singleton.mp q))
    rw [hca] at e
    cases e
    exact tb.notDict hd
theorem RowInv.ext (I : RowInv gb hc outer L h m c1 c2 c3 c4 c5 c6 c7 c8 objs ca oc ps) (k : ∀ b o, h.get? b = some o → h'.get? b = some o) :
    RowInv gb hc outer L h' m c1 c2 c3 c4 c5 c6 c7 c8 objs ca oc ps := by
  have kc : ∀ {b c}, (∃ o, h.get? b = some o ∧ o.data = .cell c) → ∃ o, h'.get? b = some o ∧ o.data = .cell c := fun ⟨o, q, e⟩ => ⟨o, k _ o q, e⟩
  refine ⟨I.ns.keeps k, fun b o q hX => ?_, kc I.d1, kc I.d2, kc I.d3, kc I.d4, kc I.d5, kc I.d6, kc I.d7, kc I.d8, fun q hq => ⟨k _ _ (I.objs q hq).1, (I.objs q hq).2⟩, k _ _ I.hca, k _ _ I.hP, I.tb, I.caF⟩
  obtain ⟨a1, sl, a2⟩ := I.up b o q hX
  exact ⟨fun z => k _ _ (a1 z), sl, k _ _ a2⟩
/-- behind a call of suffixed_err -/
theorem RowInv.k36 (X : RowCx gb hc outer L) (I : RowInv gb hc outer L h m c1 c2 c3 c4 c5 c6 c7 c8 objs ca oc ps) (k : Keep36 h h') {ca' : Addr} {oc' : Obj} {ps' : Array Value}
    (hca : h'.get? ca' = some oc') (hP : h'.get? 36 = some (tabObj ps')) (tb : TabOk gb ca' oc' ps') : RowInv gb hc outer L h' m c1 c2 c3 c4 c5 c6 c7 c8 objs ca' oc' ps' := by
  have l36 := X.lt36
  have kc : ∀ {b c}, @LT.lt Nat _ L b → (∃ o, h.get? b = some o ∧ o.data = .cell c) → ∃ o, h'.get? b = some o ∧ o.data = .cell c := fun hb ⟨o, q, e⟩ => ⟨o, k _ o (Nat.ne_of_gt (by lia)) q, e⟩
  refine ⟨?_, fun b o q hX => ?_, kc (by lia) I.d1, kc (by lia) I.d2, kc (by lia) I.d3, kc (by lia) I.d4, kc (by lia) I.d5, kc (by lia) I.d6, kc (by lia) I.d7, kc (by lia) I.d8, fun q hq => ⟨k _ _ (fun z => by
    obtain ⟨o', q'⟩ := X.p36
    rw [← z, (I.objs q hq).2.1] at q'; cases q') (I.objs q hq).1, (I.objs q hq).2⟩, hca, hP, tb, fun z => ?_⟩
  · obtain ⟨o, es, ep, ho, r⟩ := I.ns
    exact ⟨o, es, ep, k _ _ (Nat.ne_of_gt l36) ho, r⟩
  · obtain ⟨a1, sl, a2⟩ := I.up b o q hX
    have hb : b ≠ 36 := by simpa using hX
    exact ⟨fun z => k _ _ hb (a1 z), sl, k _ _ hb a2⟩
  · obtain ⟨o, es, n, ho, hd⟩ := (I.frames X).mem ca' z
    have e := k ca' o (X.fb ca' z).2 ho
    rw [hca] at e
    cases e
    exact tb.notDict hd
theorem RowInv.map (I : RowInv gb hc outer L h m c1 c2 c3 c4 c5 c6 c7 c8 objs ca oc ps) (e : ∀ y, m y = m' y) : RowInv gb hc outer L h m' c1 c2 c3 c4 c5 c6 c7 c8 objs ca oc ps := by rw [← funext e]; exact I
theorem RowInv.more (I : RowInv gb hc outer L h m c1 c2 c3 c4 c5 c6 c7 c8 objs ca oc ps) {objs' : List (Addr × Obj)} (e : ∀ q ∈ objs', q ∈ objs ∨ (h.get? q.1 = some q.2 ∧ Own hc L q.1)) : RowInv gb hc outer L h m c1 c2 c3 c4 c5 c6 c7 c8 objs' ca oc ps :=
  { I with objs := fun q hq => (e q hq).elim (I.objs q) id }
theorem RowInv.less (I : RowInv gb hc outer L h m c1 c2 c3 c4 c5 c6 c7 c8 objs ca oc ps) {objs' : List (Addr × Obj)} (e : ∀ q ∈ objs', q ∈ objs) : RowInv gb hc outer L h m c1 c2 c3 c4 c5 c6 c7 c8 objs' ca oc ps :=
  { I with objs := fun q hq => I.objs q (e q hq) }
theorem RowCx.own (X : RowCx gb hc outer L) {b : Addr} (hb : @LT.lt Nat _ (L + 8) b) : Own hc L b := ⟨X.new (by lia), .inr hb⟩
/-- what a call has made is none of the frame's, nor of the callers' -/
theorem RowInv.fresh (I : RowInv gb hc outer L h m c1 c2 c3 c4 c5 c6 c7 c8 objs ca oc ps) {b : Addr} (hb : h.get? b = none) : Own hc L b := by
  have nc : ∀ a v, (∃ o, h.get? a = some o ∧ o.data = .cell v) → b ≠ a := fun a v ⟨o, q, _⟩ z => by rw [z, q] at hb; cases hb
  have n1 : @Ne Nat b _ := nc _ _ I.d1; have n2 : @Ne Nat b _ := nc _ _ I.d2; have n3 : @Ne Nat b _ := nc _ _ I.d3; have n4 : @Ne Nat b _ := nc _ _ I.d4
  have n5 : @Ne Nat b _ := nc _ _ I.d5; have n6 : @Ne Nat b _ := nc _ _ I.d6; have n7 : @Ne Nat b _ := nc _ _ I.d7; have n8 : @Ne Nat b _ := nc _ _ I.d8
  have nL : @Ne Nat b L := fun z => by
    obtain ⟨o, es, ep, ho, hd, _⟩ := I.ns
    rw [← show b = L from z, hb] at ho; cases ho
  refine ⟨?_, by lia⟩
  cases q : hc.get? b with
  | none => rfl
  | some o =>
    obtain ⟨_, sl, z⟩ := I.up b o q (fun z => by rw [List.mem_singleton.mp z, I.hP] at hb; cases hb)
    rw [hb] at z; cases z
end
end Mine
namespace Mine
/-- the def _law_row, as the top has laid it -/
noncomputable def rowFd (p : Params) : Option FuncData := match (Mine.hd.heap_39 p).lookup 81 with
  | some o => (match o.data with | .func f => some f | _ => none)
  | none => none
noncomputable def rowBody (p : Params) : List Stmt := match rowFd p with
  | some f => (match f.body with | .stmts b => b | _ => [])
  | none => []
noncomputable def rowScope (p : Params) : Scope := match rowFd p with | some f => f.scope | none => default
noncomputable def rowEnv (p : Params) (L : Addr) : Env := envOfC (Str.ofString "_law_row") (rowScope p) L 81 (.ref 80)
/-- the loop's suite -/
def forBody : Stmt → List Stmt
  | .For _ _ b _ _ => b
  | _ => []
end Mine
namespace Mine
local macro_rules | `(tactic| omega) => `(tactic| lia)
section
variable {M : Model} {A : Around} {E : Value → Shared → Prop} {s : Shared} {h₀ : Heap} {L a : Addr} {m : Str → Option Value} {cn : Str} {cs : Scope} {ccd : Value} {x : Str} {v : Value} {news : List (Addr × Obj)} {g : Obj → List (Addr × Obj)} {c : Addr} {o : Obj} {v₀ : Option Value} {pos : Pos}
theorem storeRow {Q : Unit → Shared → Prop} (F : Fr h₀ L s.heap m) (N : News h₀ L s.heap news) (hk : cs.kind = .function) (hx : (envOfC cn cs L a ccd).kindOf x = some .cell) (hc : (cellsFrom (L + 1) cs.names []).lookup x = some c) (U : UpdF c o news g) (hd : o.data = .cell v₀)
    (h : ∀ h' o', Fr h₀ L h' m → News h₀ L h' (g o') → o'.data = .cell (some v) → Q () { s with heap := h' }) : wpAny M A (storeName (envOfC cn cs L a ccd) x v) Q E s :=
  storeX_C (cl := cellsFrom (L + 1) cs.names []) F N hc U hd h hk hx
end
theorem execs_append (a b : List Stmt) (env : Env) : execs (a ++ b) env = (execs a env >>= fun f => match f with | .next => execs b env | f => pure f) := by
  induction a with
  | nil => rw [List.nil_append, execs_nil, pure_bind]
  | cons st r ih =>
    rw [List.cons_append, execs_cons, execs_cons, bind_assoc]
    refine congrArg _ (funext fun f => ?_)
    cases f <;> first | exact ih | rfl
/-- the first k statements, then the rest -/
theorem execs_split {M : Model} {A : Around} {E : Value → Shared → Prop} {s : Shared} {env : Env} {Q : Flow → Shared → Prop} (k : Nat) {l : List Stmt}
    (h : wpAny M A (execs (l.take k) env) (fun f s' => match f with | .next => wpAny M A (execs (l.drop k) env) Q E s' | f => Q f s') E s) : wpAny M A (execs l env) Q E s := by
  rw [← List.take_append_drop k l, execs_append]
  refine wpAny_bind (wpAny_mono h (fun f s' h' => ?_) fun _ _ e => e)
  cases f <;> first | exact h' | exact wpAny_pure h'
theorem map_one {m : Str → Option Value} {x : Str} {v : Value} (h : m x = some v) (y : Str) : m y = if y = x then some v else m y := by
  split
  · next q => rw [q, h]
  · rfl
theorem range_go {prog : Program} {w : World} {A : Around} {E : Value → Shared → Prop} {s : Shared} {r : Addr} {a b : Int} {t u v : Tok} {Q : Value → Shared → Prop} (hr : IsRange s.heap r a b 1 t u v) (ha : 0 ≤ a) (ha' : a < 1000) (hb : 0 ≤ b) (hb' : b < 1000)
    (hQ : ∀ h', (∀ b o, s.heap.get? b = some o → h'.get? b = some o) → h'.objs.size = s.heap.objs.size + 1 → IsRangeIter h' s.heap.objs.size (a + ((0 : Nat) : Int) * 1) (((b - a).toNat : Int) - ((0 : Nat) : Int)) 1 → Q (.ref s.heap.objs.size) { s with heap := h' }) :
    wpAny (model prog w) A (pyIter (.ref r)) Q E s := by
  refine wpAny_pyIter_range hr (small_one (by lia) (by lia) (by lia) (by lia)) (hQ _ (fun b o q => Heap.get?_push_of_some _ q) (Heap.size_push ..) ?_)
  show IsRangeIter _ _ _ _ _
  rw [rangeSize_nat]
  simpa using Heap.get?_push_size _ rfl
theorem paired_eq : ∀ {vs ys : List Value}, Paired (fun v y => y = v) vs ys → ys = vs
  | _, _, .nil => rfl
  | _, _, .cons h r => by rw [h, paired_eq r]
theorem item_at {prog : Program} {w : World} {A : Around} {E : Value → Shared → Prop} {s : Shared} {value slice : PySem.Expr} {l : Addr} {vs : List Value} {k : Nat} {u : Tok} {v : Value} {Q : Value → Shared → Prop}
    (hl : s.heap.IsList l vs.toArray) (hx : vs[k]? = some v) (hk : k < 1000) (h : Q v s)
    (hs : subscripted slice false (.ref l) (.int (k : Int) u) = operate [.ref l, .int (k : Int) u] (getItem (.ref l) (.int (k : Int) u))) :
    wpAny (model prog w) A (subscriptTail value slice (.ref l) (.int (k : Int) u)) Q E s :=
  tail_any hl.typeIs slot_list_getitem.lookup (wpAny_getItem_list hl (by lia) (by lia) (by simpa using hx) h) hs
theorem fr_ne {l : List (Addr × Obj)} {L d : Addr} (h : ∀ q ∈ l, @LT.lt Nat _ q.1 L) (hd : @LE.le Nat _ L d) : ∀ q ∈ l, q.1 ≠ d := fun q hq => Nat.ne_of_lt (Nat.lt_of_lt_of_le (h q hq) hd)
theorem tl_ne {l : List (Addr × Obj)} {L d : Addr} (h : ∀ q ∈ l, @LT.lt Nat _ q.1 L ∨ @LT.lt Nat _ (L + 8) q.1) (h1 : @LE.le Nat _ L d) (h2 : @LE.le Nat _ d (L + 8)) : ∀ q ∈ l, q.1 ≠ d := fun q hq z => by
  have := h q hq
  have z' : @Eq Nat q.1 d := z
  lia
section
variable {gb hc : Heap} {outer : List Env} {L : Addr} {h h' : Heap} {m m' : Str → Option Value} {c1 c2 c3 c4 c5 c6 c7 c8 : Option Value} {objs : List (Addr × Obj)} {ca : Addr} {oc : Obj} {ps : Array Value}
/-- what other objects are turned into is nothing to the state -/
theorem RowInv.but (X : RowCx gb hc outer L) (I : RowInv gb hc outer L h m c1 c2 c3 c4 c5 c6 c7 c8 objs ca oc ps) {W : List Addr} (k : ∀ b o, b ∉ W → h.get? b = some o → h'.get? b = some o) (hW : ∀ b ∈ W, @LT.lt Nat _ (L + 8) b ∧ b ≠ ca ∧ ∀ q ∈ objs, q.1 ≠ b) :
    RowInv gb hc outer L h' m c1 c2 c3 c4 c5 c6 c7 c8 objs ca oc ps := by
  have l36 := X.lt36
  have low : ∀ b, @LE.le Nat _ b (L + 8) → b ∉ W := fun b hb hm => by have := (hW b hm).1; lia
  have kc : ∀ {b c}, @LE.le Nat _ b (L + 8) → (∃ o, h.get? b = some o ∧ o.data = .cell c) → ∃ o, h'.get? b = some o ∧ o.data = .cell c := fun hb ⟨o, q, e⟩ => ⟨o, k _ o (low _ hb) q, e⟩
  refine ⟨?_, fun b o q hX => ?_, kc (by lia) I.d1, kc (by lia) I.d2, kc (by lia) I.d3, kc (by lia) I.d4, kc (by lia) I.d5, kc (by lia) I.d6, kc (by lia) I.d7, kc (by lia) I.d8, fun q hq => ⟨k _ _ (fun z => (hW _ z).2.2 q hq rfl) (I.objs q hq).1, (I.objs q hq).2⟩, k _ _ (fun z => (hW _ z).2.1 rfl) I.hca, k _ _ (low _ (by lia)) I.hP, I.tb, I.caF⟩
  · obtain ⟨o, es, ep, ho, r⟩ := I.ns
    exact ⟨o, es, ep, k _ _ (low _ (by lia)) ho, r⟩
  · obtain ⟨a1, sl, a2⟩ := I.up b o q hX
    have hb : b ∉ W := low b (by have z : @LT.lt Nat _ b L := by { rw [X.eL]; exact Heap.lt_size q }; lia)
    exact ⟨fun z => k _ _ hb (a1 z), sl, k _ _ hb a2⟩
/-- and a name of the frame's is stored -/
theorem RowInv.set (X : RowCx gb hc outer L) (I : RowInv gb hc outer L h m c1 c2 c3 c4 c5 c6 c7 c8 objs ca oc ps) {W : List Addr} (hn : h'.Ns L m') (k : ∀ b o, b ≠ L → b ∉ W → h.get? b = some o → h'.get? b = some o) (hW : ∀ b ∈ W, @LT.lt Nat _ (L + 8) b ∧ b ≠ ca ∧ ∀ q ∈ objs, q.1 ≠ b) :
    RowInv gb hc outer L h' m' c1 c2 c3 c4 c5 c6 c7 c8 objs ca oc ps := by
  have l36 := X.lt36
  have caL := I.caL X
  have low : ∀ b, @LE.le Nat _ b (L + 8) → b ∉ W := fun b hb hm => by have := (hW b hm).1; lia
  have kc : ∀ {b c}, @LE.le Nat _ b (L + 8) → @LT.lt Nat _ L b → (∃ o, h.get? b = some o ∧ o.data = .cell c) → ∃ o, h'.get? b = some o ∧ o.data = .cell c := fun hb hb' ⟨o, q, e⟩ => ⟨o, k _ o (Nat.ne_of_gt hb') (low _ hb) q, e⟩
  refine ⟨hn, fun b o q hX => ?_, kc (by lia) (by lia) I.d1, kc (by lia) (by lia) I.d2, kc (by lia) (by lia) I.d3, kc (by lia) (by lia) I.d4, kc (by lia) (by lia) I.d5, kc (by lia) (by lia) I.d6, kc (by lia) (by lia) I.d7, kc (by lia) (by lia) I.d8, fun q hq => ⟨k _ _ (I.objs q hq).2.ne (fun z => (hW _ z).2.2 q hq rfl) (I.objs q hq).1, (I.objs q hq).2⟩, k _ _ (fun z => by have z' : @Eq Nat ca L := z; lia) (fun z => (hW _ z).2.1 rfl) I.hca, k _ _ (Nat.ne_of_lt l36) (low _ (by lia)) I.hP, I.tb, I.caF⟩
  obtain ⟨a1, sl, a2⟩ := I.up b o q hX
  have lt : @LT.lt Nat _ b L := by { rw [X.eL]; exact Heap.lt_size q }
  have hb : b ∉ W := low b (by lia)
  exact ⟨fun z => k _ _ (Nat.ne_of_lt lt) hb (a1 z), sl, k _ _ (Nat.ne_of_lt lt) hb a2⟩
end
end Mine
local macro_rules | `(tactic| k_all) => `(tactic| first | (refine' Mine.tl_ne (by assumption) ?_ ?_ <;> omega) | (refine' Mine.fr_ne (by assumption) ?_; omega))
namespace Mine
local macro_rules | `(tactic| omega) => `(tactic| lia)
/-- the last comprehension's word -/
inductive UE (gb hc : Heap) (outer : List Env) (L : Addr) (m : Str → Option Value) (c1 c2 : Option Value) (tx : Str) (tt : Tok) (c4 c5 c6 c7 c8 : Option Value) (i0 : Nat) (i : Nat) (ys : List Value) (h : Heap) : Prop
  | mk : ((∀ y ∈ ys, ∃ t, y = Value.str (Str.ofString "end (at end of document)") t)) → (ys.length = i) → ∀ ca oc ps, (RowInv gb hc outer L h m c1 c2 (some (.str tx tt)) c4 c5 c6 c7 c8 [] ca oc ps) → (ca ≠ i0) → (ca ≠ i0 + 1) → (ca ≠ i0 + 2) → UE gb hc outer L m c1 c2 tx tt c4 c5 c6 c7 c8 i0 i ys h
theorem three_ends {v : Tok → Value} {ys : List Value} (ey : ∀ y ∈ ys, ∃ t, y = v t) (el : ys.length = 3) : ∃ t1 t2 t3, ys = [v t1, v t2, v t3] := by
  match ys with
  | [a, b, c] =>
    obtain ⟨t1, rfl⟩ := ey a (.head _)
    obtain ⟨t2, rfl⟩ := ey b (.tail _ (.head _))
    obtain ⟨t3, rfl⟩ := ey c (.tail _ (.tail _ (.head _)))
    exact ⟨t1, t2, t3, rfl⟩
set_option maxRecDepth 100000 in
set_option maxHeartbeats 4000000 in
theorem rowE {w : World} {mg mb : Str → Option Value} {loose : List Str} {mean : ExcName → Option Value} {gb : Heap} (G : Gd w mg mb loose mean gb)
    {hc : Heap} {outer : List Env} {L : Addr} {gd : Option (List Code)} {h : Heap} {gs : Array GenState} {dr : Drawn} {tk : Nat} {os : OsState} {Q : Flow → Shared → Prop} {E : Value → Shared → Prop} {m : Str → Option Value} {c1 c2 c4 c5 c6 c7 c8 : Option Value} {ca : Addr} {oc : Obj} {ps : Array Value} {tx : Str} {tt : Tok}
    (X : RowCx gb hc outer L) (I : RowInv gb hc outer L h m c1 c2 (some (.str tx tt)) c4 c5 c6 c7 c8 [] ca oc ps) (hlen : tx.length < 900)
    (hQ : ∀ h' tk' m' c1 c2 c3 c4 c5 c6 c7 c8 ca oc ps, RowInv gb hc outer L h' m' c1 c2 c3 c4 c5 c6 c7 c8 [] ca oc ps → Q (.ret (.bool true)) ⟨h', gs, dr, tk', os⟩) :
    wpAny (model PySem.Challenge.rw_ny0036_01.row.prog w) ((Ax 370 800 none (some outer) gd).deeper (rowEnv w.params L)) (execs ((rowBody w.params).drop 10) (rowEnv w.params L)) Q E ⟨h, gs, dr, tk, os⟩ := by
  w_top off
  k_with_none
  k_with "storeName int" => ((rename Fr _ _ _ _ => sF); (rename News _ _ _ _ => sN); (refine' storeRow sF sN ?hk ?hx ?hc ?U ?hd ?_; (case hk => rfl); (case hx => with_unfolding_all rfl); (case hc => with_unfolding_all rfl); (case U => k_updF); (case hd => assumption)); (clear sF sN); intro _ _ _ _ _)
  k_with "pyIter ref" => refine' hold ?_
  k_with "call type:str cons nil" => refine' hold ?_
  k_with "eval ListComp" => refine' hold ?_
  have l36 := X.lt36
  have caL := I.caL X
  obtain ⟨h₀, o1, o2, o3, o4, o5, o6, o7, o8, st₀, F, N, e1, e2, e3, e4, e5, e6, e7, e8, htl, hsup, back⟩ := RowInv.open (front := []) (back := []) X I
  obtain ⟨X₀, T₀, C₀⟩ := G.keeps st₀
  revert X₀; k_fill; intro X₀
  conv => pattern (List.drop _ _); whnf
  unfold rowEnv
  conv => pattern (rowScope _); whnf
  conv => pattern (rowScope _); whnf
  simp only [List.nil_append] at N htl back
  dsimp only [rowLed] at N
  walk_at "go"
  (rename News _ _ _ _ => N1); (rename Fr _ _ _ _ => F1)
  rename_i h1 o5' e5'
  refine' compBy ?hclos ?hcell ?hkind ?hnames ?hx ?_ ?hs
  case hclos => with_unfolding_all rfl
  case hcell => decide
  case hkind => rfl
  case hnames => decide
  case hx => with_unfolding_all rfl
  case hs => intro _; with_unfolding_all rfl
  walk_at "go"
  (rename News _ _ _ _ => N2); (rename Fr _ _ _ _ => F2); (rename IsRange _ _ _ _ _ _ _ _ => hr)
  rename_i h2 tk2 _ _ _ k2
  have I2 := back _ m [] _ _ _ _ _ _ _ _ _ _ _ _ _ _ _ _ F2 N2 (fun _ q => nomatch q) ⟨e1, e2, e3, e4, e5', e6, e7, e8⟩
  have caL2 : @LT.lt Nat _ ca h2.objs.size := Heap.lt_size I2.hca
  have LL2 : @LT.lt Nat _ (L + 8) h2.objs.size := by obtain ⟨o, q, _⟩ := I2.d1; exact Heap.lt_size q
  clear F2 N2
  refine wpAny_pyIter_range hr rfl ?_
  have kp : ∀ b o, h2.get? b = some o → (h2.push { cls := .type "range_iterator", data := .fields #[rawInt 0, rawInt (Builtin.Range.rangeSize 0 3 1), rawInt 1] }).get? b = some o := fun b o q => Heap.get?_push_of_some _ q
  have hit := Heap.get?_push_size h2 (o := { cls := .type "range_iterator", data := .fields #[rawInt 0, rawInt (Builtin.Range.rangeSize 0 3 1), rawInt 1] }) rfl
  have hsz : (h2.push { cls := .type "range_iterator", data := .fields #[rawInt 0, rawInt (Builtin.Range.rangeSize 0 3 1), rawInt 1] }).objs.size = h2.objs.size + 1 := Heap.size_push ..
  have I3 := I2.ext kp
  clear I2
  dsimp only
  generalize h2.push { cls := .type "range_iterator", data := .fields #[rawInt 0, rawInt (Builtin.Range.rangeSize 0 3 1), rawInt 1] } = h3 at *
  generalize h2.objs.size = i0 at *
  clear kp
  refine ⟨i0 + 1, hsz, i0, [i0], [i0], 3, _, _, rfl, Walks.range rfl i0 0 1 3, by decide, hit, fun b hb => by rw [List.mem_singleton.mp hb]; exact Nat.lt_succ_self _, UE gb hc outer L m c1 c2 tx tt c4 _ c6 c7 c8 i0, ⟨(fun _ q => nomatch q), rfl, ca, oc, ps, I3, Nat.ne_of_lt caL2, Nat.ne_of_lt (by lia), Nat.ne_of_lt (by lia)⟩, ?_, ?_, ?_⟩
  · rintro i ys h h' ⟨ey, el, ca', oc', ps', I', n1, n2, n3⟩ k
    refine ⟨ey, el, ca', oc', ps', I'.but X (W := [i0, i0 + 1, i0 + 2]) (fun b o nb q => k b o ?_ ?_ ?_ q) (fun b hb => ?_), n1, n2, n3⟩
    · simp only [List.mem_cons, List.not_mem_nil, or_false, not_or] at nb ⊢; exact nb.1
    · simp only [List.mem_cons, List.not_mem_nil, or_false, not_or] at nb; exact nb.2.1
    · simp only [List.mem_cons, List.not_mem_nil, or_false, not_or] at nb; exact nb.2.2
    · simp only [List.mem_cons, List.not_mem_nil, or_false] at hb
      rcases hb with rfl | rfl | rfl
      · exact ⟨LL2, Ne.symm n1, fun _ q => nomatch q⟩
      · exact ⟨by lia, Ne.symm n2, fun _ q => nomatch q⟩
      · exact ⟨by lia, Ne.symm n3, fun _ q => nomatch q⟩
  · rintro i ys v ⟨h4, gs4, dr4, tk4, os4⟩ m4 E' hi ⟨tv, rfl⟩ ⟨ey, el, ca', oc', ps', I', n1, n2, n3⟩ hyl hpl hst hns hm rfl rfl rfl
    obtain ⟨h₀', p1, p2, p3, p4, p5, p6, p7, p8, st', F', N', f1, f2, f3, f4, f5, f6, f7, f8, htl', hsup', back'⟩ := RowInv.open (front := []) (back := []) X I'
    have caL' := I'.caL X
    obtain ⟨X', T', C'⟩ := G.keeps st'
    simp only [List.nil_append] at N' htl' back'
    dsimp only [rowLed] at N'
    clear X₀ T₀ C₀ back
    dsimp only at hns F' N' ⊢
    refine wpAny_pure ?_
    rw [if_pos rfl]
    walk_at "go"
    rw [show ((tx.length : Int) + (0 + (i : Int) * 1)) = ((tx.length + i : Nat) : Int) by lia]
    refine sfx G (Nat.le_of_ble_eq_true rfl) (Nat.le_of_ble_eq_true rfl) (I'.stays X) I'.hca I'.hP I'.tb (by lia) (by lia) (by decide) ?_
    intro h5 tk5 e t xk ca5 oc5 ps5 k5 ht en tn hca5 hP5 tb5 ec tc e36 t36
    have I5 := I'.k36 X k5 hca5 hP5 tb5
    clear F' N'
    walk_at "go"
    refine str_own (G.keeps (I5.stays X)).1 ⟨⟨_, _, ht.1, rfl, rfl, rfl⟩, ⟨_, _, ht.2, rfl, rfl⟩⟩ (Nat.le_of_ble_eq_true rfl) ?_
    have es : sfxS tx (tx.length + i) (Str.ofString "end") = Str.ofString "end (at end of document)" := by
      unfold sfxS coordS
      rw [if_pos (by lia)]
      decide +kernel
    rw [es]
    have l36' : @LT.lt Nat _ 36 i0 := by lia
    have nf : ca5 ≠ 36 → ∃ vs t, oc5.data = .fields vs ∧ vs[1]? = some (.str qualCoord t) := fun q => by
      rcases tb5.2 with ⟨_, z, _⟩ | ⟨_, _, vs', t, z, z'⟩
      · exact absurd z q
      · exact ⟨vs', t, z, z'⟩
    refine ⟨⟨h5, _, rfl, fun b hb o q => k5 b o ?_ q⟩, fun y hy => ?_, by simp [el], ca5, oc5, ps5, I5, fun z => ?_, fun z => ?_, fun z => ?_⟩
    · simp only [List.mem_cons, List.not_mem_nil, or_false] at hb
      rcases hb with rfl | rfl | rfl <;> exact Nat.ne_of_gt (by lia)
    · rcases List.mem_append.mp hy with hy | hy
      · exact ey y hy
      · rw [List.mem_singleton.mp hy]; exact ⟨_, rfl⟩
    · obtain ⟨vs, t, q1, q2⟩ := nf (by rw [z]; exact Nat.ne_of_gt (by lia))
      have q3 := k5 i0 _ (Nat.ne_of_gt (by lia)) hst
      rw [z, q3] at hca5
      cases hca5
      cases q1
      cases q2
    · obtain ⟨vs, t, q1, q2⟩ := nf (by rw [z]; exact Nat.ne_of_gt (by lia))
      obtain ⟨n, q0⟩ := hpl
      have q3 := k5 _ _ (Nat.ne_of_gt (by lia)) q0
      rw [z, q3] at hca5
      cases hca5
      cases q1
    · obtain ⟨vs, t, q1, q2⟩ := nf (by rw [z]; exact Nat.ne_of_gt (by lia))
      obtain ⟨o, es, ep, q0, hd, _⟩ := hns
      have q3 := k5 _ _ (Nat.ne_of_gt (by lia)) q0
      rw [z, q3] at hca5
      cases hca5
      rw [q1] at hd
      cases hd
  · rintro h4 tk4 ys ⟨ey, el, ca', oc', ps', I', n1, n2, n3⟩ hyl hpl
    obtain ⟨n, hpl⟩ := hpl
    have I6 := I'.more (objs' := [(i0 + 1, { cls := .type "list", data := .seq ys.toArray n })]) (fun q hq => by rw [List.mem_singleton.mp hq]; exact .inr ⟨hpl, X.own (by dsimp only; lia)⟩)
    obtain ⟨h₀', p1, p2, p3, p4, p5, p6, p7, p8, st', F', N', f1, f2, f3, f4, f5, f6, f7, f8, htl', hsup', back'⟩ := RowInv.open (front := [(i0 + 1, { cls := .type "list", data := .seq ys.toArray n })]) (back := []) X I6
    have caL' := I'.caL X
    obtain ⟨X', T', C'⟩ := G.keeps st'
    simp only [List.nil_append] at N' htl' back'
    dsimp only [rowLed, List.cons_append, List.nil_append] at N'
    clear X₀ T₀ C₀ back
    obtain ⟨t1, t2, t3, rfl⟩ : ∃ t1 t2 t3, ys = [.str (Str.ofString "end (at end of document)") t1, .str (Str.ofString "end (at end of document)") t2, .str (Str.ofString "end (at end of document)") t3] :=
      three_ends (v := .str (Str.ofString "end (at end of document)")) ey el
    walk_at "go"
    (rename News _ _ _ _ => N6); (rename Fr _ _ _ _ => F6)
    refine mul_list F6 N6 (N6.get (.head _)) (by decide) (by decide) (Nat.le_of_ble_eq_true rfl) ?_
    clear F6 N6
    intro h7 F7 N7
    dsimp only [List.isEmpty, Array.isEmpty, List.replicate, List.foldl] at N7
    dsimp only
    walk_at "go"
    exact hQ _ _ _ _ _ _ _ _ _ _ _ _ _ _ (back' _ _ [] _ _ _ _ _ _ _ _ _ _ _ _ _ _ _ _ F7 (fun q hq => N7 q (.tail _ (.tail _ (.tail _ hq)))) (fun _ q => nomatch q) ⟨f1, f2, f3, f4, f5, f6, f7, f8⟩)
end Mine
namespace Mine
local macro_rules | `(tactic| omega) => `(tactic| lia)
/-- the suite of _law_row's loop over the signs -/
noncomputable def loopBody (p : Params) : List Stmt := match (rowBody p).drop 9 with
  | s :: _ => forBody s
  | [] => []
/-- the list of the places, and its tuples -/
def PlacesAt (objs : List (Addr × Obj)) (D : Addr) (pl : List Int) (en : Bool) (n : Nat) : Prop :=
  ∃ (dv : List Value) (c : Nat), (D, W.listOf dv.toArray c) ∈ objs ∧ dv.length = n ∧ ∀ k, k < n → ∃ a ta tb, dv[k]? = some (.ref a) ∧ (a, ({ cls := .type "tuple", data := .seq #[.int (placeOf pl en k).1 ta, .int (placeOf pl en k).2 tb] } : Obj)) ∈ objs
def kMap (m : Str → Option Value) (k : Int) (tk : Tok) (lines : Int) (tl : Tok) (y : Str) : Option Value :=
  if y = Str.ofString "k" then some (.int k tk) else if y = Str.ofString "lines" then some (.int lines tl) else m y
set_option maxRecDepth 100000 in
set_option maxHeartbeats 4000000 in
theorem rowT1 {w : World} {mg mb : Str → Option Value} {loose : List Str} {mean : ExcName → Option Value} {gb : Heap} (G : Gd w mg mb loose mean gb)
    {hc : Heap} {outer : List Env} {L : Addr} {gd : Option (List Code)} {h : Heap} {gs : Array GenState} {dr : Drawn} {tk : Nat} {os : OsState} {Q : Flow → Shared → Prop} {E : Value → Shared → Prop} {m : Str → Option Value} {c1 c4 c5 c6 c7 c8 : Option Value} {ca : Addr} {oc : Obj} {ps : Array Value} {tx : Str} {tt : Tok}
    {objs : List (Addr × Obj)} {D : Addr} {pl : List Int} {en : Bool} {n k : Nat} {tk1 : Tok} {lines : Int} {tl : Tok}
    (X : RowCx gb hc outer L) (I : RowInv gb hc outer L h (kMap m k tk1 lines tl) c1 (some (.ref D)) (some (.str tx tt)) c4 c5 c6 c7 c8 objs ca oc ps) (hlen : tx.length < 900)
    (hD : PlacesAt objs D pl en n) (hk : k < n) (hn : n < 100) {ln cl : Nat} (hp : placeOf pl en k = ((ln : Int), (cl : Int))) (hln : 1 ≤ ln) (hln2 : ln ≤ 100) (hcl2 : cl ≤ 100)
    (hs : sfxS tx (k + ln - 1) (Str.ofString "here") = Str.empty ++ Str.ofString "here (at line " ++ Str.ofString (toString (ln : Int)) ++ Str.ofString ", column " ++ Str.ofString (toString (cl : Int)) ++ Str.ofString ")")
    (hQ : ∀ h' tk' m' ta tb ts ca oc ps, RowInv gb hc outer L h' m' (some (.int (ln : Int) ta)) (some (.ref D)) (some (.str tx tt)) c4 c5 c6 c7 c8 objs ca oc ps → m' (Str.ofString "k") = some (.int (k : Int) tk1) → m' (Str.ofString "lines") = some (.int lines tl) →
      m' (Str.ofString "column") = some (.int (cl : Int) tb) → m' (Str.ofString "start") = some (.int ((k + ln - 1 : Nat) : Int) ts) → Q .next ⟨h', gs, dr, tk', os⟩) :
    wpAny (model PySem.Challenge.rw_ny0036_01.row.prog w) ((Ax 370 800 none (some outer) gd).deeper (rowEnv w.params L)) (execs ((loopBody w.params).take 5) (rowEnv w.params L)) Q E ⟨h, gs, dr, tk, os⟩ := by
  w_top off
  k_with_none
  k_with "call type:str cons nil" => refine' hold ?_
  k_with "subscriptTail Name Name ref int" => ((rename News _ _ _ _ => sN); (refine' item_at (News.isList sN (by first | exact .head _ | exact .tail _ (.head _))) (by assumption) (by lia) ?_ ?hs); (case hs => with_unfolding_all rfl))
  k_with "call builtin:isinstance cons nil" => refine' hold ?_
  k_with "call ref" => refine' hold ?_
  k_with "storeName int" => ((rename Fr _ _ _ _ => sF); (rename News _ _ _ _ => sN); (refine' storeRow sF sN ?hk ?hx ?hc ?U ?hd ?_; (case hk => rfl); (case hx => with_unfolding_all rfl); (case hc => with_unfolding_all rfl); (case U => k_updF); (case hd => assumption)); (clear sF sN); intro _ _ _ _ _)
  have l36 := X.lt36
  have caL := I.caL X
  obtain ⟨dv, cD, mD, hdl, hdk⟩ := hD
  obtain ⟨a, ta, tb, hdv, ma⟩ := hdk k hk
  have ha8 : Own hc L a := (I.objs _ ma).2
  have hD8 : Own hc L D := (I.objs _ mD).2
  have ha9 := ha8.2
  have hD9 := hD8.2
  have I1 := I.less (objs' := [(a, _), (D, _)] ++ objs) (fun q hq => by
    simp only [List.cons_append, List.nil_append, List.mem_cons] at hq
    rcases hq with rfl | rfl | hq
    · exact ma
    · exact mD
    · exact hq)
  obtain ⟨h₀, o1, o2, o3, o4, o5, o6, o7, o8, st₀, F, N, e1, e2, e3, e4, e5, e6, e7, e8, htl, hsup, back⟩ := RowInv.open X I1
  obtain ⟨X₀, T₀, C₀⟩ := G.keeps st₀
  revert X₀; k_fill; intro X₀
  conv => pattern (loopBody _); whnf
  simp only [List.take_succ_cons, List.take_zero]
  unfold rowEnv
  conv => pattern (rowScope _); whnf
  conv => pattern (rowScope _); whnf
  unfold kMap at F
  dsimp only [rowLed, List.cons_append, List.nil_append] at N
  walk_at "go"
  (rename News _ _ _ _ => N1); (rename Fr _ _ _ _ => F1)
  rename_i o1' e1' _ h1
  rw [hp] at F1 N1 e1' ⊢
  dsimp only at F1 N1 e1' ⊢
  rw [show ((k : Int) + (ln : Int) - 1) = ((k + ln - 1 : Nat) : Int) by lia] at F1 ⊢
  have I2 := back _ _ [_, _] _ _ _ _ _ _ _ _ _ _ _ _ _ _ _ _ F1 N1 (fun q hq => by
    rcases List.mem_cons.mp hq with rfl | hq
    · exact ha8
    · rw [List.mem_singleton.mp hq]; exact hD8) ⟨e1', e2, e3, e4, e5, e6, e7, e8⟩
  clear F1 N1 X₀ T₀ C₀ hsup back htl
  refine sfx G (Nat.le_of_ble_eq_true rfl) (Nat.le_of_ble_eq_true rfl) (I2.stays X) I2.hca I2.hP I2.tb (by lia) (by lia) (by decide) ?_
  intro h5 tk5 e t xk ca5 oc5 ps5 k5 ht en' tn hca5 hP5 tb5 ec tc e36 t36
  have I5 := I2.k36 X k5 hca5 hP5 tb5
  have eL := I2.fresh en'
  have tL := I2.fresh tn
  clear I2
  have I6 := I5.more (objs' := [(e, _), (t, _)] ++ objs) (fun q hq => by
    simp only [List.cons_append, List.nil_append, List.mem_cons] at hq
    rcases hq with rfl | rfl | hq
    · exact .inr ⟨ht.1, eL⟩
    · exact .inr ⟨ht.2, tL⟩
    · exact .inl (by simp [hq]))
  clear I5
  have caL6 := I6.caL X
  obtain ⟨h₀', p1, p2, p3, p4, p5, p6, p7, p8, st', F', N', f1, f2, f3, f4, f5, f6, f7, f8, htl', hsup', back'⟩ := RowInv.open X I6
  obtain ⟨X', T', C'⟩ := G.keeps st'
  dsimp only [rowLed, List.cons_append, List.nil_append] at N'
  walk_at "go"
  (rename News _ _ _ _ => N7); (rename Fr _ _ _ _ => F7)
  refine isi_call (X'.keeps F7.keep) (fun M => (Looks.ld (N7.get (.head _))).andThen .now) (by k_is) (by intro q; cases q) ?_
  walk_at "go"
  (rename News _ _ _ _ => N8); (rename Fr _ _ _ _ => F8)
  refine str_own (X'.keeps F8.keep) ⟨⟨_, _, N8.get (.head _), rfl, rfl, rfl⟩, ⟨_, _, N8.get (.tail _ (.head _)), rfl, rfl⟩⟩ (Nat.le_of_ble_eq_true rfl) ?_
  rw [hs]
  walk_at "go"
  · (rename News _ _ _ _ => N9); (rename Fr _ _ _ _ => F9)
    have I9 := (back' _ _ [_, _] _ _ _ _ _ _ _ _ _ _ _ _ _ _ _ _ F9 N9 (fun q hq => by
      rcases List.mem_cons.mp hq with rfl | hq
      · exact eL
      · rw [List.mem_singleton.mp hq]; exact tL) ⟨f1, f2, f3, f4, f5, f6, f7, f8⟩).less (objs' := objs) (fun q hq => List.mem_append_right _ hq)
    apply hQ _ _ _ _ tb _ _ _ _ I9
    all_goals with_unfolding_all rfl
end Mine
namespace Mine
local macro_rules | `(tactic| omega) => `(tactic| lia)
/-- the test «places[j][0] == line», a value -/
def onLine (pl : List Int) (en : Bool) (ln : Int) (v : Value) : Bool := match v with | .int a _ => decide ((placeOf pl en a).1 = ln) | _ => false
set_option maxRecDepth 100000 in
set_option maxHeartbeats 4000000 in
theorem rowT2 {w : World} {mg mb : Str → Option Value} {loose : List Str} {mean : ExcName → Option Value} {gb : Heap} (G : Gd w mg mb loose mean gb)
    {hc : Heap} {outer : List Env} {L : Addr} {gd : Option (List Code)} {h : Heap} {gs : Array GenState} {dr : Drawn} {tk : Nat} {os : OsState} {Q : Flow → Shared → Prop} {E : Value → Shared → Prop} {m : Str → Option Value} {c3 c4 c5 c6 : Option Value} {ca : Addr} {oc : Obj} {ps : Array Value} {x bs : Str} {t1 t2 : Tok}
    {objs : List (Addr × Obj)} {D : Addr} {pl : List Int} {en : Bool} {k ln : Nat} {tk1 tln : Tok}
    (X : RowCx gb hc outer L) (I : RowInv gb hc outer L h m (some (.int (ln : Int) tln)) (some (.ref D)) c3 c4 c5 c6 (some (.str bs t2)) (some (.str x t1)) objs ca oc ps)
    (hm : m (Str.ofString "k") = some (.int (k : Int) tk1)) (hD : PlacesAt objs D pl en x.length) (hk : k < x.length) (hn : x.length < 100)
    (hQ : ∀ h' tk' (vs : List Value) D' c', vs.length = x.length - k → (∀ j v, vs[j]? = some v → ∃ t, v = Value.int ((k + j : Nat) : Int) t) → Own hc L D' →
      RowInv gb hc outer L h' (fun y => if y = Str.ofString "same" then some (.ref D') else m y) (some (.int (ln : Int) tln)) (some (.ref D)) c3 c4 c5 c6 (some (.str bs t2)) (some (.str x t1)) ((D', W.listOf (vs.filter (onLine pl en ln)).toArray c') :: objs) ca oc ps → Q .next ⟨h', gs, dr, tk', os⟩) :
    wpAny (model PySem.Challenge.rw_ny0036_01.row.prog w) ((Ax 370 800 none (some outer) gd).deeper (rowEnv w.params L)) (execs (((loopBody w.params).drop 5).take 1) (rowEnv w.params L)) Q E ⟨h, gs, dr, tk, os⟩ := by
  w_top off
  k_with_none
  k_with "subscriptTail Name Name ref int" => ((rename News _ _ _ _ => sN); (refine' item_at (News.isList sN (by first | exact .head _ | exact .tail _ (.head _))) (by assumption) (by lia) ?_ ?hs); (case hs => with_unfolding_all rfl))
  k_with "exec Assign cons ListComp" => refine' hold ?_
  k_with "pyIter ref" => refine' hold ?_
  have l36 := X.lt36
  have caL := I.caL X
  have I0 := I.map (map_one hm)
  obtain ⟨h₀, o1, o2, o3, o4, o5, o6, o7, o8, st₀, F, N, e1, e2, e3, e4, e5, e6, e7, e8, htl, hsup, back⟩ := RowInv.open (front := []) X I0
  obtain ⟨X₀, T₀, C₀⟩ := G.keeps st₀
  revert X₀; k_fill; intro X₀
  conv => pattern (List.drop _ _); whnf
  simp only [List.take_succ_cons, List.take_zero]
  unfold rowEnv
  conv => pattern (rowScope _); whnf
  conv => pattern (rowScope _); whnf
  simp only [List.nil_append] at N back
  dsimp only [rowLed] at N
  walk_at "go"
  refine' wpAny_Assign_ListComp_free (onLine pl en ln) (fun v y => y = v) ?hsw ?hclos ?hcell ?hkind ?hnames ?hx ?hy ?hp ?_ ?hs
  case hsw => with_unfolding_all rfl
  case hclos => with_unfolding_all rfl
  case hcell => decide
  case hkind => rfl
  case hnames => decide
  case hx => with_unfolding_all rfl
  case hy => with_unfolding_all rfl
  case hp => with_unfolding_all rfl
  case hs => intro _; with_unfolding_all rfl
  walk_at "go"
  (rename News _ _ _ _ => N2); (rename Fr _ _ _ _ => F2); (rename IsRange _ _ _ _ _ _ _ _ => hr)
  rename_i h2 tk2 _ _ _ k2
  have I2 := (back _ _ [] _ _ _ _ _ _ _ _ _ _ _ _ _ _ _ _ F2 N2 (fun _ q => nomatch q) ⟨e1, e2, e3, e4, e5, e6, e7, e8⟩).map (fun y => (map_one hm y).symm)
  simp only [List.nil_append] at I2
  have caL2 : @LT.lt Nat _ ca h2.objs.size := Heap.lt_size I2.hca
  have LL2 : @LT.lt Nat _ (L + 8) h2.objs.size := by obtain ⟨o, q, _⟩ := I2.d1; exact Heap.lt_size q
  have ob2 : ∀ q ∈ objs, @LT.lt Nat _ q.1 h2.objs.size := fun q hq => Heap.lt_size (I2.objs q hq).1
  clear F2 N2 back htl hsup X₀ T₀ C₀
  refine range_go hr (by lia) (by lia) (by lia) (by lia) fun h3 k3 s3 it3 => ?_
  have I3 := I2.ext k3
  clear I2 k3
  dsimp only
  generalize h2.objs.size = i0 at *
  have I4 : ∀ h', (∀ b o, b ∉ [i0] → h3.get? b = some o → h'.get? b = some o) → RowInv gb hc outer L h' m (some (.int (ln : Int) tln)) (some (.ref D)) c3 c4 c5 c6 (some (.str bs t2)) (some (.str x t1)) objs ca oc ps := fun h' k' =>
    I3.but X k' (fun b hb => by rw [List.mem_singleton.mp hb]; exact ⟨LL2, Nat.ne_of_gt caL2, fun q hq => Nat.ne_of_lt (ob2 q hq)⟩)
  refine ⟨i0, [i0], [i0], ((x.length : Int) - (k : Int)).toNat, _, _, m, rfl, (Walks.range rfl i0 k 1 _).bound, ?_, it3, fun b hb => by rw [List.mem_singleton.mp hb, s3]; exact Nat.lt_succ_self _, ?_, I3.ns, ⟨?_, ?_⟩, ?_⟩
  · have := sizeLine_eq; lia
  · intro z; have z' : @Eq Nat L i0 := List.mem_singleton.mp z; lia
  · rintro C i v ⟨h5, g5, d5, tk5, os5⟩ m5 E' hC ⟨hi, tv, rfl⟩ hns hmx k5 _
    rw [show ((k : Int) + (i : Int) * 1) = ((k + i : Nat) : Int) by lia] at *
    refine wpAny_tests_one ?_
    have I5 := I4 h5 k5
    obtain ⟨dv, cD, mD, hdl, hdk⟩ := hD
    obtain ⟨a, ta, tb, hdv, ma⟩ := hdk (k + i) (by lia)
    have I6 := I5.less (objs' := [(a, _), (D, _)] ++ objs) (fun q hq => by
      simp only [List.cons_append, List.nil_append, List.mem_cons] at hq
      rcases hq with rfl | rfl | hq
      · exact ma
      · exact mD
      · exact hq)
    obtain ⟨h₀', p1, p2, p3, p4, p5, p6, p7, p8, st', F', N', f1, f2, f3, f4, f5, f6, f7, f8, htl', hsup', back'⟩ := RowInv.open X I6
    obtain ⟨X', T', C'⟩ := G.keeps st'
    dsimp only [rowLed, List.cons_append, List.nil_append] at N'
    dsimp only at hns hmx F' N' ⊢
    walk_at "go"
    exact ⟨h5, _, rfl, fun _ _ e => e⟩
  · rintro C i v ⟨h5, g5, d5, tk5, os5⟩ m5 E' hC ⟨hi, tv, rfl⟩ hpv hns hmx k5 _
    have I5 := I4 h5 k5
    obtain ⟨h₀', p1, p2, p3, p4, p5, p6, p7, p8, st', F', N', f1, f2, f3, f4, f5, f6, f7, f8, htl', hsup', back'⟩ := RowInv.open (front := []) X I5
    obtain ⟨X', T', C'⟩ := G.keeps st'
    dsimp only [rowLed, List.cons_append, List.nil_append] at N'
    dsimp only at hns hmx F' N' ⊢
    walk_at "go"
    exact ⟨h5, _, rfl, fun _ _ e => e⟩
  · rintro D' h5 tk5 ys vs hD' _ hpl hvl hP hpair hns hk5
    obtain ⟨c', hpl⟩ := hpl
    have I5 := I3.set X hns hk5 (fun b hb => by rw [List.mem_singleton.mp hb]; exact ⟨LL2, Nat.ne_of_gt caL2, fun q hq => Nat.ne_of_lt (ob2 q hq)⟩)
    have oD := I3.fresh hD'
    have eys : ys = (vs.filter (onLine pl en ln)).toArray := by
      have := paired_eq hpair
      rw [← this]
    refine wpAny_execs_nil (hQ h5 tk5 vs D' c' (by lia) (fun j v hj => ?_) oD (I5.more (fun q hq => ?_)))
    · obtain ⟨_, t, e⟩ := hP j v hj
      exact ⟨t, by rw [e]; congr 1; lia⟩
    · rcases List.mem_cons.mp hq with rfl | hq
      · exact .inr ⟨by rw [← eys]; exact hpl, oD⟩
      · exact .inl hq
/-- the test «signs[j] in barred», a value -/
def isBarred (x bs : Str) (v : Value) : Bool := match v with | .int a _ => (match x.cps[a.toNat]? with | some ch => bs.cps.toList.contains ch | none => false) | _ => false
set_option maxRecDepth 100000 in
set_option maxHeartbeats 4000000 in
theorem rowT3 {w : World} {mg mb : Str → Option Value} {loose : List Str} {mean : ExcName → Option Value} {gb : Heap} (G : Gd w mg mb loose mean gb)
    {hc : Heap} {outer : List Env} {L : Addr} {gd : Option (List Code)} {h : Heap} {gs : Array GenState} {dr : Drawn} {tk : Nat} {os : OsState} {Q : Flow → Shared → Prop} {E : Value → Shared → Prop} {m : Str → Option Value} {c3 c4 c5 c6 : Option Value} {ca : Addr} {oc : Obj} {ps : Array Value} {x bs : Str} {t1 t2 : Tok}
    {objs : List (Addr × Obj)} {D : Addr} {zs : List Value} {c : Nat} {c1 c2 : Option Value}
    (X : RowCx gb hc outer L) (I : RowInv gb hc outer L h m c1 c2 c3 c4 c5 c6 (some (.str bs t2)) (some (.str x t1)) objs ca oc ps)
    (hm : m (Str.ofString "same") = some (.ref D)) (hD : (D, W.listOf zs.toArray c) ∈ objs) (hz : ∀ v ∈ zs, ∃ (j : Nat) (t : Tok) (ch : Nat), v = Value.int (j : Int) t ∧ j < x.length ∧ x.cps[j]? = some ch) (hn : x.length < 100) (hzl : zs.length < 1000)
    (hQ : ∀ h' tk' D' c', Own hc L D' →
      RowInv gb hc outer L h' (fun y => if y = Str.ofString "wrong" then some (.ref D') else m y) c1 c2 c3 c4 c5 c6 (some (.str bs t2)) (some (.str x t1)) ((D', W.listOf (zs.filter (isBarred x bs)).toArray c') :: objs) ca oc ps → Q .next ⟨h', gs, dr, tk', os⟩) :
    wpAny (model PySem.Challenge.rw_ny0036_01.row.prog w) ((Ax 370 800 none (some outer) gd).deeper (rowEnv w.params L)) (execs (((loopBody w.params).drop 6).take 1) (rowEnv w.params L)) Q E ⟨h, gs, dr, tk, os⟩ := by
  w_top off
  k_with_none
  k_with "subscriptTail Name Name ref int" => ((rename News _ _ _ _ => sN); (refine' item_at (News.isList sN (by first | exact .head _ | exact .tail _ (.head _))) (by assumption) (by lia) ?_ ?hs); (case hs => with_unfolding_all rfl))
  k_with "exec Assign cons ListComp" => refine' hold ?_
  k_with "pyIter ref" => refine' hold ?_
  k_with "subscriptTail Name Name str int" => ((refine' item_nat (by assumption) (by lia) ?_ ?hs ?ht); (case hs => intro _ _ _ _; with_unfolding_all rfl); (case ht => intro _ _ _; with_unfolding_all rfl))
  have l36 := X.lt36
  have caL := I.caL X
  have I0 := I.map (map_one hm)
  have hD8 := (I.objs _ hD).2
  have I1 := I0.less (objs' := [(D, W.listOf zs.toArray c)] ++ objs) (fun q hq => by
    rcases List.mem_append.mp hq with hq | hq
    · rw [List.mem_singleton.mp hq]; exact hD
    · exact hq)
  obtain ⟨h₀, o1, o2, o3, o4, o5, o6, o7, o8, st₀, F, N, e1, e2, e3, e4, e5, e6, e7, e8, htl, hsup, back⟩ := RowInv.open X I1
  obtain ⟨X₀, T₀, C₀⟩ := G.keeps st₀
  revert X₀; k_fill; intro X₀
  conv => pattern (List.drop _ _); whnf
  simp only [List.take_succ_cons, List.take_zero]
  unfold rowEnv
  conv => pattern (rowScope _); whnf
  conv => pattern (rowScope _); whnf
  dsimp only [rowLed, List.cons_append, List.nil_append] at N
  walk_at "go"
  refine' wpAny_Assign_ListComp_free (isBarred x bs) (fun v y => y = v) ?hsw ?hclos ?hcell ?hkind ?hnames ?hx ?hy ?hp ?_ ?hs
  case hsw => with_unfolding_all rfl
  case hclos => with_unfolding_all rfl
  case hcell => decide
  case hkind => rfl
  case hnames => decide
  case hx => with_unfolding_all rfl
  case hy => with_unfolding_all rfl
  case hp => with_unfolding_all rfl
  case hs => intro _; with_unfolding_all rfl
  walk_at "go"
  have I2 := I
  have caL2 : @LT.lt Nat _ ca h.objs.size := Heap.lt_size I2.hca
  have LL2 : @LT.lt Nat _ (L + 8) h.objs.size := by obtain ⟨o, q, _⟩ := I2.d1; exact Heap.lt_size q
  have ob2 : ∀ q ∈ objs, @LT.lt Nat _ q.1 h.objs.size := fun q hq => Heap.lt_size (I2.objs q hq).1
  have hl : h.IsList D zs.toArray := ⟨_, (I.objs _ hD).1, rfl, _, rfl⟩
  clear F N back htl hsup X₀ T₀ C₀
  refine wpAny_pyIter_list hl ?_
  have k3 : ∀ b o, h.get? b = some o → (h.push { cls := .type "list_iterator", data := .fields #[.ref D, .int 0 0] }).get? b = some o := fun b o q => Heap.get?_push_of_some _ q
  have s3 : (h.push { cls := .type "list_iterator", data := .fields #[.ref D, .int 0 0] }).objs.size = h.objs.size + 1 := Heap.size_push ..
  have it3 := Heap.get?_push_size h (o := { cls := .type "list_iterator", data := .fields #[.ref D, .int 0 0] }) rfl
  have I3 := I2.ext k3
  have hl3 := hl.push { cls := .type "list_iterator", data := .fields #[.ref D, .int 0 0] }
  have hDi := ob2 _ hD
  clear I2 k3
  dsimp only at hDi ⊢
  generalize h.push { cls := .type "list_iterator", data := .fields #[.ref D, .int 0 0] } = h3 at *
  generalize h.objs.size = i0 at *
  have I4 : ∀ h', (∀ b o, b ∉ [i0] → h3.get? b = some o → h'.get? b = some o) → RowInv gb hc outer L h' m c1 c2 c3 c4 c5 c6 (some (.str bs t2)) (some (.str x t1)) objs ca oc ps := fun h' k' =>
    I3.but X k' (fun b hb => by rw [List.mem_singleton.mp hb]; exact ⟨LL2, Nat.ne_of_gt caL2, fun q hq => Nat.ne_of_lt (ob2 q hq)⟩)
  refine ⟨i0, [i0, D], [i0], zs.toArray.size, _, _, m, rfl, Walks.list rfl i0 D (Nat.ne_of_lt hDi) zs.toArray, ?_, ⟨⟨_, it3, rfl, rfl⟩, hl3⟩, fun b hb => ?_, ?_, I3.ns, ⟨?_, ?_⟩, ?_⟩
  · have := sizeLine_eq; simp; lia
  · rw [s3]
    rcases List.mem_cons.mp hb with rfl | hb
    · exact Nat.lt_succ_self _
    · rw [List.mem_singleton.mp hb]; exact Nat.lt_succ_of_lt hDi
  · intro z; have z' : @Eq Nat L i0 := List.mem_singleton.mp z; lia
  · rintro C i v ⟨h5, g5, d5, tk5, os5⟩ m5 E' hC hv hns hmx k5 _
    obtain ⟨j, tv, ch, rfl, hj, hch⟩ := hz v (List.mem_of_getElem? (by simpa using hv))
    refine wpAny_tests_one ?_
    have I5 := I4 h5 k5
    obtain ⟨h₀', p1, p2, p3, p4, p5, p6, p7, p8, st', F', N', f1, f2, f3, f4, f5, f6, f7, f8, htl', hsup', back'⟩ := RowInv.open (front := []) X I5
    obtain ⟨X', T', C'⟩ := G.keeps st'
    dsimp only [rowLed, List.cons_append, List.nil_append] at N'
    dsimp only at hns hmx F' N' ⊢
    walk_at "go"
    · rw [StrLaws.found_one]
      unfold isBarred
      dsimp only
      rw [Int.toNat_natCast, hch]
      exact (Bool.eq_iff_iff).mpr (by simp)
    · exact ⟨h5, _, rfl, fun _ _ e => e⟩
  · rintro C i v ⟨h5, g5, d5, tk5, os5⟩ m5 E' hC hv hpv hns hmx k5 _
    have I5 := I4 h5 k5
    obtain ⟨h₀', p1, p2, p3, p4, p5, p6, p7, p8, st', F', N', f1, f2, f3, f4, f5, f6, f7, f8, htl', hsup', back'⟩ := RowInv.open (front := []) X I5
    obtain ⟨X', T', C'⟩ := G.keeps st'
    dsimp only [rowLed, List.cons_append, List.nil_append] at N'
    dsimp only at hns hmx F' N' ⊢
    walk_at "go"
    exact ⟨h5, _, rfl, fun _ _ e => e⟩
  · rintro D' h5 tk5 ys vs hD' _ hpl hvl hP hpair hns hk5
    obtain ⟨c', hpl⟩ := hpl
    have I5 := I3.set X hns hk5 (fun b hb => by rw [List.mem_singleton.mp hb]; exact ⟨LL2, Nat.ne_of_gt caL2, fun q hq => Nat.ne_of_lt (ob2 q hq)⟩)
    have oD := I3.fresh hD'
    have evs : vs = zs := by
      have := list_of_places (items := zs.toArray) hvl hP
      simpa using this
    have eys : ys = (zs.filter (isBarred x bs)).toArray := by
      have := paired_eq hpair
      rw [← evs, ← this]
    refine wpAny_execs_nil (hQ h5 tk5 D' c' oD (I5.more (fun q hq => ?_)))
    rcases List.mem_cons.mp hq with rfl | hq
    · exact .inr ⟨by rw [← eys]; exact hpl, oD⟩
    · exact .inl hq
end Mine
namespace Mine
theorem storeRowL {M : Model} {A : Around} {E : Value → Shared → Prop} {s : Shared} {h₀ : Heap} {L a : Addr} {m : Str → Option Value} {cn : Str} {cs : Scope} {ccd : Value} {x : Str} {v : Value} {news : List (Addr × Obj)} {Q : Unit → Shared → Prop} (F : Fr h₀ L s.heap m) (N : News h₀ L s.heap news)
    (hk : cs.kind = .function) (hx : (envOfC cn cs L a ccd).kindOf x = some .local)
    (h : ∀ h', Fr h₀ L h' (fun y => if y = x then some v else m y) → News h₀ L h' news → Q () { s with heap := h', toks := s.toks + 1 }) : wpAny M A (storeName (envOfC cn cs L a ccd) x v) Q E s :=
  storeX_L (cl := cellsFrom (L + 1) cs.names []) F N h hk hx
theorem storeRowS {M : Model} {A : Around} {E : Value → Shared → Prop} {s : Shared} {h₀ : Heap} {L a : Addr} {m : Str → Option Value} {cn : Str} {cs : Scope} {ccd : Value} {x y V : Str} {t : Tok} {news : List (Addr × Obj)} {Q : Unit → Shared → Prop} (F : Fr h₀ L s.heap m) (N : News h₀ L s.heap news)
    (hk : cs.kind = .function) (hx : (envOfC cn cs L a ccd).kindOf x = some .local) (e : y = V)
    (h : ∀ h' t', Fr h₀ L h' (fun z => if z = x then some (.str V t') else m z) → News h₀ L h' news → Q () { s with heap := h', toks := s.toks + 1 }) : wpAny M A (storeName (envOfC cn cs L a ccd) x (.str y t)) Q E s :=
  storeRowL F N hk hx fun h' F' N' => h h' t (e ▸ F') N'
theorem item_last {prog : Program} {w : World} {A : Around} {E : Value → Shared → Prop} {s : Shared} {value slice : PySem.Expr} {l : Addr} {vs : List Value} {u : Tok} {v : Value} {Q : Value → Shared → Prop}
    (hl : s.heap.IsList l vs.toArray) (h0 : 0 < vs.length) (hx : vs[vs.length - 1]? = some v) (h : Q v s)
    (hs : subscripted slice false (.ref l) (.int (-1) u) = operate [.ref l, .int (-1) u] (getItem (.ref l) (.int (-1) u))) :
    wpAny (model prog w) A (subscriptTail value slice (.ref l) (.int (-1) u)) Q E s :=
  tail_any hl.typeIs slot_list_getitem.lookup (wpAny_getItem_list_neg hl (by decide) (by simp; omega) (by decide) (by
    have e : ((-1 : Int) + ((vs.toArray.size : Nat) : Int)).toNat = vs.length - 1 := by simp; omega
    rw [e]; simpa using hx) h) hs
/-- a list of natural numbers -/
def NatsAre (vs : List Value) (ns : List Nat) : Prop := IntsAre vs (ns.map fun n => ((n : Nat) : Int))
theorem NatsAre.at {vs : List Value} {ns : List Nat} (h : NatsAre vs ns) {i n : Nat} (hi : ns[i]? = some n) : ∃ t, vs[i]? = some (.int ((n : Nat) : Int) t) := by
  have hl := IntsAre.length h
  rw [List.length_map] at hl
  obtain ⟨hlt, e⟩ := List.getElem?_eq_some_iff.mp hi
  have hv : vs[i]? = some vs[i] := List.getElem?_eq_getElem (by omega)
  obtain ⟨y, t, e1, e2⟩ := IntsAre.at h i _ hv
  rw [List.getElem?_map, hi] at e2
  cases e2
  exact ⟨t, by rw [hv, e1]⟩
theorem NatsAre.length {vs : List Value} {ns : List Nat} (h : NatsAre vs ns) : vs.length = ns.length := by
  have hl := IntsAre.length h
  rwa [List.length_map] at hl
theorem NatsAre.filter : ∀ {vs : List Value} {ns : List Nat} (_ : NatsAre vs ns) (p : Value → Bool) (q : Nat → Bool) (_ : ∀ n ∈ ns, ∀ t, p (.int ((n : Nat) : Int) t) = q n), NatsAre (vs.filter p) (ns.filter q)
  | [], [], _, _, _, _ => .nil
  | v :: vs, n :: ns, h, p, q, e => by
    cases h with
    | cons a t r =>
      have e0 := e n (.head _) t
      have ih := NatsAre.filter r p q (fun n' hn' => e n' (.tail _ hn'))
      cases hq : q n with
      | true =>
        rw [List.filter_cons_of_pos (by rw [e0, hq]), List.filter_cons_of_pos hq]
        exact .cons _ _ ih
      | false =>
        rw [List.filter_cons_of_neg (by rw [e0, hq]; decide), List.filter_cons_of_neg (by rw [hq]; decide)]
        exact ih
theorem nats_range {vs : List Value} {k n : Nat} (hl : vs.length = n) (h : ∀ j v, vs[j]? = some v → ∃ t, v = Value.int ((k + j : Nat) : Int) t) : NatsAre vs (List.range' k n) := by
  induction vs generalizing k n with
  | nil => cases hl; exact .nil
  | cons v r ih =>
    cases hl
    obtain ⟨t, rfl⟩ := h 0 v rfl
    rw [List.length_cons, List.range'_succ]
    exact .cons _ _ (ih (k := k + 1) rfl (fun j v hj => by
      obtain ⟨t, e⟩ := h (j + 1) v (by simpa using hj)
      exact ⟨t, by rw [e]; congr 1; omega⟩))
end Mine
namespace Mine
local macro_rules | `(tactic| omega) => `(tactic| lia)
set_option maxRecDepth 100000 in
set_option maxHeartbeats 4000000 in
theorem rowT4 {w : World} {mg mb : Str → Option Value} {loose : List Str} {mean : ExcName → Option Value} {gb : Heap} (G : Gd w mg mb loose mean gb)
    {hc : Heap} {outer : List Env} {L : Addr} {gd : Option (List Code)} {h : Heap} {gs : Array GenState} {dr : Drawn} {tk : Nat} {os : OsState} {Q : Flow → Shared → Prop} {E : Value → Shared → Prop} {m : Str → Option Value} {c2 c3 c4 c5 c6 c7 c8 : Option Value} {ca : Addr} {oc : Obj} {ps : Array Value}
    {objs : List (Addr × Obj)} {D : Addr} {zs : List Value} {c : Nat} {ln last : Nat} {tln tla : Tok}
    (X : RowCx gb hc outer L) (I : RowInv gb hc outer L h m (some (.int (ln : Int) tln)) c2 c3 c4 c5 c6 c7 c8 objs ca oc ps)
    (hm : m (Str.ofString "same") = some (.ref D)) (hD : (D, W.listOf zs.toArray c) ∈ objs) (hz0 : 0 < zs.length) (hlast : zs[zs.length - 1]? = some (.int (last : Int) tla)) (hl1 : last < 1000) (hl2 : ln < 1000)
    (hQ : ∀ h' tk' te, RowInv gb hc outer L h' (fun y => if y = Str.ofString "due" then some (.int ((last : Int) + ln) te) else if y = Str.ofString "end" then some (.int ((last : Int) + ln) te) else m y) (some (.int (ln : Int) tln)) c2 c3 c4 c5 c6 c7 c8 objs ca oc ps → Q .next ⟨h', gs, dr, tk', os⟩) :
    wpAny (model PySem.Challenge.rw_ny0036_01.row.prog w) ((Ax 370 800 none (some outer) gd).deeper (rowEnv w.params L)) (execs (((loopBody w.params).drop 7).take 2) (rowEnv w.params L)) Q E ⟨h, gs, dr, tk, os⟩ := by
  w_top off
  k_with_none
  k_with "subscriptTail Name UnaryOp ref int" => ((rename News _ _ _ _ => sN); (refine' item_last (News.isList sN (.head _)) (by assumption) (by assumption) ?_ ?hs); (case hs => with_unfolding_all rfl))
  k_with "subscriptTail Name Subscript str int" => refine' hold ?_
  k_with "subscriptTail Name Subscript ref int" => refine' hold ?_
  k_with "storeName str" => refine' hold ?_
  k_with "le" => (simp only [Str.length_append, Str.empty_append, sizeLine_eq] at *; lia)
  k_with "pyReprObj str" => (refine pyReprObj_str (hx := ?hx) ?_; (case hx => (rw [sizeLine_eq]; lia)))
  have l36 := X.lt36
  have caL := I.caL X
  have I0 := I.map (map_one hm)
  have hD8 := (I.objs _ hD).2
  have I1 := I0.less (objs' := [(D, W.listOf zs.toArray c)] ++ objs) (fun q hq => by
    rcases List.mem_append.mp hq with hq | hq
    · rw [List.mem_singleton.mp hq]; exact hD
    · exact hq)
  obtain ⟨h₀, o1, o2, o3, o4, o5, o6, o7, o8, st₀, F, N, e1, e2, e3, e4, e5, e6, e7, e8, htl, hsup, back⟩ := RowInv.open X I1
  obtain ⟨X₀, T₀, C₀⟩ := G.keeps st₀
  revert X₀; k_fill; intro X₀
  conv => pattern (List.drop _ _); whnf
  simp only [List.take_succ_cons, List.take_zero]
  unfold rowEnv
  conv => pattern (rowScope _); whnf
  conv => pattern (rowScope _); whnf
  dsimp only [rowLed, List.cons_append, List.nil_append] at N
  walk_at "go"
  (rename News _ _ _ _ => N9); (rename Fr _ _ _ _ => F9)
  have I9 := (back _ _ [_] _ _ _ _ _ _ _ _ _ _ _ _ _ _ _ _ F9 N9 (fun q hq => by rw [List.mem_singleton.mp hq]; exact hD8) ⟨e1, e2, e3, e4, e5, e6, e7, e8⟩).less (objs' := objs) (fun q hq => List.mem_append_right _ hq)
  refine' hQ _ _ ?te (RowInv.map I9 ?e)
  case e => intro y; rw [← map_one hm y]
/-- what _law_row awaits where a sign is barred -/
def foundS (ch ln cl : Nat) : Str := Str.empty ++ Str.ofString "Found invalid character " ++ reprText ⟨#[ch]⟩ ++ Str.ofString " (at line " ++ Str.ofString (toString (ln : Int)) ++ Str.ofString ", column " ++ Str.ofString (toString (cl : Int)) ++ Str.ofString ")"
set_option maxRecDepth 100000 in
set_option maxHeartbeats 4000000 in
theorem rowT5 {w : World} {mg mb : Str → Option Value} {loose : List Str} {mean : ExcName → Option Value} {gb : Heap} (G : Gd w mg mb loose mean gb)
    {hc : Heap} {outer : List Env} {L : Addr} {gd : Option (List Code)} {h : Heap} {gs : Array GenState} {dr : Drawn} {tk : Nat} {os : OsState} {Q : Flow → Shared → Prop} {E : Value → Shared → Prop} {m : Str → Option Value} {c3 c4 c5 c6 c7 : Option Value} {ca : Addr} {oc : Obj} {ps : Array Value} {x : Str} {t1 : Tok}
    {objs : List (Addr × Obj)} {D Dp : Addr} {ws : List Value} {c : Nat} {ln : Nat} {tln : Tok} {wn : List Nat} {pl : List Int} {en : Bool} {vd : Value}
    (X : RowCx gb hc outer L) (I : RowInv gb hc outer L h m (some (.int (ln : Int) tln)) (some (.ref Dp)) c3 c4 c5 c6 c7 (some (.str x t1)) objs ca oc ps)
    (hm : m (Str.ofString "wrong") = some (.ref D)) (hmd : m (Str.ofString "due") = some vd) (hD : (D, W.listOf ws.toArray c) ∈ objs) (hw : NatsAre ws wn) (hwl : wn.length < 100) (hl2 : ln ≤ 100) (hP : PlacesAt objs Dp pl en x.length)
    (hn : x.length < 100) {ch cl : Nat → Nat} (hwn : ∀ j ∈ wn, j < x.length ∧ x.cps[j]? = some (ch j) ∧ ch j < 16 ^ 8 ∧ (placeOf pl en j).2 = (cl j : Int) ∧ cl j ≤ 100)
    (hQ : ∀ h' tk' v, (wn = [] ∧ v = vd ∨ ∃ j r t, wn = j :: r ∧ v = .str (foundS (ch j) ln (cl j)) t) → RowInv gb hc outer L h' (fun y => if y = Str.ofString "due" then some v else m y) (some (.int (ln : Int) tln)) (some (.ref Dp)) c3 c4 c5 c6 c7 (some (.str x t1)) objs ca oc ps → Q .next ⟨h', gs, dr, tk', os⟩) :
    wpAny (model PySem.Challenge.rw_ny0036_01.row.prog w) ((Ax 370 800 none (some outer) gd).deeper (rowEnv w.params L)) (execs (((loopBody w.params).drop 9).take 1) (rowEnv w.params L)) Q E ⟨h, gs, dr, tk, os⟩ := by
  w_top off
  k_with_none
  k_with "subscriptTail Name UnaryOp ref int" => ((rename News _ _ _ _ => sN); (refine' item_last (News.isList sN (.head _)) (by assumption) (by assumption) ?_ ?hs); (case hs => with_unfolding_all rfl))
  k_with "subscriptTail Name Subscript str int" => refine' hold ?_
  k_with "subscriptTail Name Subscript ref int" => refine' hold ?_
  k_with "storeName str" => refine' hold ?_
  k_with "le" => (simp only [Str.length_append, Str.empty_append, sizeLine_eq] at *; lia)
  k_with "pyReprObj str" => (refine pyReprObj_str (hx := ?hx) ?_; (case hx => (rw [sizeLine_eq]; lia)))
  have l36 := X.lt36
  have caL := I.caL X
  have I0 := I.map (map_one hm)
  have hD8 := (I.objs _ hD).2
  have hwl' := hw.length
  cases wn with
  | nil =>
    have hws : ws = [] := List.length_eq_zero_iff.mp (by rw [hwl']; rfl)
    subst hws
    have I1 := I0.less (objs' := [(D, W.listOf #[] c)] ++ objs) (fun q hq => by
      rcases List.mem_append.mp hq with hq | hq
      · rw [List.mem_singleton.mp hq]; exact hD
      · exact hq)
    obtain ⟨h₀, o1, o2, o3, o4, o5, o6, o7, o8, st₀, F, N, e1, e2, e3, e4, e5, e6, e7, e8, htl, hsup, back⟩ := RowInv.open X I1
    obtain ⟨X₀, T₀, C₀⟩ := G.keeps st₀
    revert X₀; k_fill; intro X₀
    conv => pattern (List.drop _ _); whnf
    simp only [List.take_succ_cons, List.take_zero]
    unfold rowEnv
    conv => pattern (rowScope _); whnf
    conv => pattern (rowScope _); whnf
    dsimp only [rowLed, List.cons_append, List.nil_append] at N
    walk_at "go"
    (rename News _ _ _ _ => N9); (rename Fr _ _ _ _ => F9)
    have I9 := (back _ _ [_] _ _ _ _ _ _ _ _ _ _ _ _ _ _ _ _ F9 (fun q hq => N9 q (.tail _ hq)) (fun q hq => by rw [List.mem_singleton.mp hq]; exact hD8) ⟨e1, e2, e3, e4, e5, e6, e7, e8⟩).less (objs' := objs) (fun q hq => List.mem_append_right _ hq)
    refine hQ _ _ vd (.inl ⟨rfl, rfl⟩) (I9.map fun y => ?_)
    rw [← map_one hm y, ← map_one hmd y]
  | cons j r =>
    obtain ⟨tj, hj⟩ := hw.at (i := 0) (n := j) rfl
    obtain ⟨hjx, hch, hch2, hcl, hcl2⟩ := hwn j (.head _)
    obtain ⟨dv, cD, mD, hdl, hdk⟩ := hP
    obtain ⟨a, ta, tb, hdv, ma⟩ := hdk j hjx
    have ma' := ma
    rw [hcl] at ma
    have hIi : IntsAre ws ((j :: r).map fun n => ((n : Nat) : Int)) := hw
    have I1 := I0.less (objs' := [(D, W.listOf ws.toArray c), (a, _), (Dp, _)] ++ objs) (fun q hq => by
      simp only [List.cons_append, List.nil_append, List.mem_cons] at hq
      rcases hq with rfl | rfl | rfl | hq
      · exact hD
      · exact ma
      · exact mD
      · exact hq)
    obtain ⟨h₀, o1, o2, o3, o4, o5, o6, o7, o8, st₀, F, N, e1, e2, e3, e4, e5, e6, e7, e8, htl, hsup, back⟩ := RowInv.open X I1
    obtain ⟨X₀, T₀, C₀⟩ := G.keeps st₀
    revert X₀; k_fill; intro X₀
    conv => pattern (List.drop _ _); whnf
    simp only [List.take_succ_cons, List.take_zero]
    unfold rowEnv
    conv => pattern (rowScope _); whnf
    conv => pattern (rowScope _); whnf
    dsimp only [rowLed, List.cons_append, List.nil_append] at N
    have hrl : (reprText ⟨#[ch j]⟩).length ≤ 12 := by
      have := StrLaws.reprText_len ⟨#[ch j]⟩ (fun c' hc' => by
        rw [List.mem_singleton.mp hc']
        exact hch2)
      exact this
    walk_at "go"
    · (rename decide _ = true => hdec); simp at hdec
    rename_i tq
    with_unfolding_all refine item_nat (q := j) hch (by lia) ?_ (fun _ _ _ _ => rfl) (fun _ _ _ => rfl)
    walk_at "go"
    (rename News _ _ _ _ => N8)
    rename_i tq2
    with_unfolding_all refine item_at (k := j) (News.isList N8 (.tail _ (.tail _ (.tail _ (.head _))))) hdv (by lia) ?_ rfl
    walk_at "go"
    (rename News _ _ _ _ => N8); (rename Fr _ _ _ _ => F8)
    refine storeRowS (V := foundS (ch j) ln (cl j)) F8 N8 rfl (by with_unfolding_all rfl) (by unfold foundS; rfl) ?_
    clear F8 N8
    intro h9 t9 F9 N9
    dsimp only
    have I9 := (back _ _ [_, _, _] _ _ _ _ _ _ _ _ _ _ _ _ _ _ _ _ F9 (fun q hq => N9 q (.tail _ hq)) (fun q hq => by
      simp only [List.mem_cons, List.not_mem_nil, or_false] at hq
      rcases hq with rfl | rfl | rfl
      · exact hD8
      · exact (I.objs _ ma').2
      · exact (I.objs _ mD).2) ⟨e1, e2, e3, e4, e5, e6, e7, e8⟩).less (objs' := objs) (fun q hq => List.mem_append_right _ hq)
    have I10 := I9.map (m' := fun y => if y = Str.ofString "due" then some (.str (foundS (ch j) ln (cl j)) t9) else m y) (fun y => by rw [← map_one hm y])
    clear I9 F9 N9
    refine wpAny_execs_nil ?_
    dsimp only
    exact wpAny_execs_nil (hQ _ _ _ (.inr ⟨j, r, t9, rfl, rfl⟩) I10)
end Mine
namespace Mine
local macro_rules | `(tactic| omega) => `(tactic| lia)
section
variable {gb hc : Heap} {outer : List Env} {L : Addr} {h h' : Heap} {m m' : Str → Option Value} {c1 c2 c3 c4 c5 c6 c7 c8 : Option Value} {objs : List (Addr × Obj)} {ca : Addr} {oc : Obj} {ps : Array Value}
theorem RowInv.fb {env : Env} (X : RowCx gb hc outer L) (I : RowInv gb hc outer L h m c1 c2 c3 c4 c5 c6 c7 c8 objs ca oc ps) (hf : env.frame = some L) : ∀ b ∈ frs (env :: outer), gb.get? b = none ∧ b ≠ 36 ∧ b ≠ ca := fun b hb => by
  have l36 := X.lt36
  have caL := I.caL X
  rw [frs_cons hf] at hb
  rcases List.mem_cons.mp hb with rfl | hb
  · refine ⟨get_none_of (fun o q => ⟨o, X.st _ _ q⟩) (X.new (Nat.le_refl _)), Nat.ne_of_gt l36, fun z => ?_⟩
    have z' : @Eq Nat b ca := z
    lia
  · exact ⟨(X.fb b hb).1, (X.fb b hb).2, fun z => I.caF (z ▸ hb)⟩
theorem RowInv.ok {env : Env} (X : RowCx gb hc outer L) (I : RowInv gb hc outer L h m c1 c2 c3 c4 c5 c6 c7 c8 objs ca oc ps) (hf : env.frame = some L) (hk : env.scope.kind = .function) : FramesOk h (env :: outer) := framesOk_cons hk hf I.ns (I.frames X)
end
/-- two values that compare equal -/
def SameV (v d : Value) : Prop := (∃ a t t', v = .int a t ∧ d = .int a t') ∨ ∃ s t t', v = .str s t ∧ d = .str s t'
set_option maxRecDepth 100000 in
set_option maxHeartbeats 4000000 in
theorem rowT6 {w : World} {mg mb : Str → Option Value} {loose : List Str} {mean : ExcName → Option Value} {gb : Heap} (G : Gd w mg mb loose mean gb)
    {hc : Heap} {outer : List Env} {L : Addr} {gd : Option (List Code)} {h : Heap} {gs : Array GenState} {dr : Drawn} {tk : Nat} {os : OsState} {Q : Flow → Shared → Prop} {E : Value → Shared → Prop} {m : Str → Option Value} {c1 c2 c4 c5 c6 c8 : Option Value} {ca : Addr} {oc : Obj} {ps : Array Value} {tx bs : Str} {tt t2 : Tok}
    {objs : List (Addr × Obj)} {p : Nat} {tp : Tok} {vd : Value}
    (X : RowCx gb hc outer L) (I : RowInv gb hc outer L h m c1 c2 (some (.str tx tt)) c4 c5 c6 (some (.str bs t2)) c8 objs ca oc ps)
    (hm : m (Str.ofString "start") = some (.int (p : Int) tp)) (hmd : m (Str.ofString "due") = some vd) (hlen : tx.length < 900) (hpl : p < tx.length) (hbd : ∀ c ∈ tx.cps.toList, c < 16 ^ 8) (hbs : bs.cps.size < 1000)
    (hv : ∀ v, SoughtV tx (signSet bs.cps.toList) p false v → SameV v vd)
    (hQ : ∀ h' tk' ca oc ps, RowInv gb hc outer L h' m c1 c2 (some (.str tx tt)) c4 c5 c6 (some (.str bs t2)) c8 objs ca oc ps → Q .next ⟨h', gs, dr, tk', os⟩) :
    wpAny (model PySem.Challenge.rw_ny0036_01.row.prog w) ((Ax 370 800 none (some outer) gd).deeper (rowEnv w.params L)) (execs (((loopBody w.params).drop 10).take 1) (rowEnv w.params L)) Q E ⟨h, gs, dr, tk, os⟩ := by
  w_top off
  k_with_none
  k_with "call ref" => refine' hold ?_
  k_with "storeName str" => refine' hold ?_
  have l36 := X.lt36
  have caL := I.caL X
  have I1 := (I.map (map_one hmd)).map (map_one (m := fun y => if y = Str.ofString "due" then some vd else m y) (x := Str.ofString "start") (v := .int (p : Int) tp) (by rw [← hm]; with_unfolding_all rfl))
  obtain ⟨h₀, o1, o2, o3, o4, o5, o6, o7, o8, st₀, F, N, e1, e2, e3, e4, e5, e6, e7, e8, htl, hsup, back⟩ := RowInv.open (front := []) X I1
  obtain ⟨X₀, T₀, C₀⟩ := G.keeps st₀
  revert X₀; k_fill; intro X₀
  conv => pattern (List.drop _ _); whnf
  simp only [List.take_succ_cons, List.take_zero]
  unfold rowEnv
  conv => pattern (rowScope _); whnf
  conv => pattern (rowScope _); whnf
  dsimp only [rowLed, List.cons_append, List.nil_append] at N
  walk_at "go"
  clear F N back X₀ T₀ C₀ htl hsup
  refine sought G (Nat.le_of_ble_eq_true rfl) (Nat.le_of_ble_eq_true rfl) rfl rfl (I1.ok X rfl rfl) (I1.fb X rfl) (I1.stays X) I1.hca I1.hP I1.tb hlen hpl hbd hbs ?_
  intro h5 tk5 v ca5 oc5 ps5 u5 hca5 hP5 tb5 _ sv
  have I5 := I1.upto (env := _) X rfl u5 hca5 hP5 tb5
  clear I1
  obtain ⟨h₀, o1, o2, o3, o4, o5, o6, o7, o8, st₀, F, N, e1, e2, e3, e4, e5, e6, e7, e8, htl, hsup, back⟩ := RowInv.open (front := []) X I5
  obtain ⟨X₀, T₀, C₀⟩ := G.keeps st₀
  dsimp only [rowLed, List.cons_append, List.nil_append] at N
  have fin : ∀ tk', Q .next ⟨h5, gs, dr, tk', os⟩ := fun tk' => hQ _ _ _ _ _ (I5.map fun y => by rw [← map_one (m := fun y => if y = Str.ofString "due" then some vd else m y) (x := Str.ofString "start") (v := .int (p : Int) tp) (by rw [← hm]; with_unfolding_all rfl) y, ← map_one hmd y])
  rcases hv v sv with ⟨a, t, t', rfl, rfl⟩ | ⟨y, t, t', rfl, rfl⟩
  · walk_at "go"
    · exact fin _
  · walk_at "go"
    · exact fin _
set_option maxRecDepth 100000 in
set_option maxHeartbeats 4000000 in
theorem rowT8 {w : World} {mg mb : Str → Option Value} {loose : List Str} {mean : ExcName → Option Value} {gb : Heap} (G : Gd w mg mb loose mean gb)
    {hc : Heap} {outer : List Env} {L : Addr} {gd : Option (List Code)} {h : Heap} {gs : Array GenState} {dr : Drawn} {tk : Nat} {os : OsState} {Q : Flow → Shared → Prop} {E : Value → Shared → Prop} {m : Str → Option Value} {c1 c2 c4 c5 c6 c8 : Option Value} {ca : Addr} {oc : Obj} {ps : Array Value} {tx bs : Str} {tt t2 : Tok}
    {objs : List (Addr × Obj)} {p : Nat} {tp : Tok} {vd : Value}
    (X : RowCx gb hc outer L) (I : RowInv gb hc outer L h m c1 c2 (some (.str tx tt)) c4 c5 c6 (some (.str bs t2)) c8 objs ca oc ps)
    (hm : m (Str.ofString "start") = some (.int (p : Int) tp)) (hmd : m (Str.ofString "due") = some vd) (hlen : tx.length < 900) (hpl : p < tx.length) (hbd : ∀ c ∈ tx.cps.toList, c < 16 ^ 8) (hbs : bs.cps.size < 1000)
    (hv : ∀ v, SoughtV tx (signSet bs.cps.toList) p true v → SameV v vd)
    (hQ : ∀ h' tk' ca oc ps, RowInv gb hc outer L h' m c1 c2 (some (.str tx tt)) c4 c5 c6 (some (.str bs t2)) c8 objs ca oc ps → Q .next ⟨h', gs, dr, tk', os⟩) :
    wpAny (model PySem.Challenge.rw_ny0036_01.row.prog w) ((Ax 370 800 none (some outer) gd).deeper (rowEnv w.params L)) (execs (((loopBody w.params).drop 12).take 1) (rowEnv w.params L)) Q E ⟨h, gs, dr, tk, os⟩ := by
  w_top off
  k_with_none
  k_with "call ref" => refine' hold ?_
  k_with "storeName str" => refine' hold ?_
  have l36 := X.lt36
  have caL := I.caL X
  have I1 := (I.map (map_one hmd)).map (map_one (m := fun y => if y = Str.ofString "due" then some vd else m y) (x := Str.ofString "start") (v := .int (p : Int) tp) (by rw [← hm]; with_unfolding_all rfl))
  obtain ⟨h₀, o1, o2, o3, o4, o5, o6, o7, o8, st₀, F, N, e1, e2, e3, e4, e5, e6, e7, e8, htl, hsup, back⟩ := RowInv.open (front := []) X I1
  obtain ⟨X₀, T₀, C₀⟩ := G.keeps st₀
  revert X₀; k_fill; intro X₀
  conv => pattern (List.drop _ _); whnf
  simp only [List.take_succ_cons, List.take_zero]
  unfold rowEnv
  conv => pattern (rowScope _); whnf
  conv => pattern (rowScope _); whnf
  dsimp only [rowLed, List.cons_append, List.nil_append] at N
  walk_at "go"
  clear F N back X₀ T₀ C₀ htl hsup
  refine sought G (Nat.le_of_ble_eq_true rfl) (Nat.le_of_ble_eq_true rfl) rfl rfl (I1.ok X rfl rfl) (I1.fb X rfl) (I1.stays X) I1.hca I1.hP I1.tb hlen hpl hbd hbs ?_
  intro h5 tk5 v ca5 oc5 ps5 u5 hca5 hP5 tb5 _ sv
  have I5 := I1.upto (env := _) X rfl u5 hca5 hP5 tb5
  clear I1
  obtain ⟨h₀, o1, o2, o3, o4, o5, o6, o7, o8, st₀, F, N, e1, e2, e3, e4, e5, e6, e7, e8, htl, hsup, back⟩ := RowInv.open (front := []) X I5
  obtain ⟨X₀, T₀, C₀⟩ := G.keeps st₀
  dsimp only [rowLed, List.cons_append, List.nil_append] at N
  have fin : ∀ tk', Q .next ⟨h5, gs, dr, tk', os⟩ := fun tk' => hQ _ _ _ _ _ (I5.map fun y => by rw [← map_one (m := fun y => if y = Str.ofString "due" then some vd else m y) (x := Str.ofString "start") (v := .int (p : Int) tp) (by rw [← hm]; with_unfolding_all rfl) y, ← map_one hmd y])
  rcases hv v sv with ⟨a, t, t', rfl, rfl⟩ | ⟨y, t, t', rfl, rfl⟩
  · walk_at "go"
    · exact fin _
  · walk_at "go"
    · exact fin _
set_option maxRecDepth 100000 in
set_option maxHeartbeats 4000000 in
theorem rowT7 {w : World} {mg mb : Str → Option Value} {loose : List Str} {mean : ExcName → Option Value} {gb : Heap} (G : Gd w mg mb loose mean gb)
    {hc : Heap} {outer : List Env} {L : Addr} {gd : Option (List Code)} {h : Heap} {gs : Array GenState} {dr : Drawn} {tk : Nat} {os : OsState} {Q : Flow → Shared → Prop} {E : Value → Shared → Prop} {m : Str → Option Value} {ca : Addr} {oc : Obj} {ps : Array Value} {objs : List (Addr × Obj)}
    {c2 c3 c4 c5 c6 c7 c8 : Option Value} {ln : Nat} {tln : Tok} {lines : Nat} {tl : Tok} {vd : Value}
    (X : RowCx gb hc outer L) (I : RowInv gb hc outer L h m (some (.int (ln : Int) tln)) c2 c3 c4 c5 c6 c7 c8 objs ca oc ps)
    (hm : m (Str.ofString "lines") = some (.int (lines : Int) tl)) (hmd : m (Str.ofString "due") = some vd)
    (hQ : ∀ h' tk' v, (ln = lines ∧ (∃ t, v = .str (Str.ofString "Expected '\\n' (at end of document)") t) ∨ ln ≠ lines ∧ v = vd) → RowInv gb hc outer L h' (fun y => if y = Str.ofString "due" then some v else m y) (some (.int (ln : Int) tln)) c2 c3 c4 c5 c6 c7 c8 objs ca oc ps → Q .next ⟨h', gs, dr, tk', os⟩) :
    wpAny (model PySem.Challenge.rw_ny0036_01.row.prog w) ((Ax 370 800 none (some outer) gd).deeper (rowEnv w.params L)) (execs (((loopBody w.params).drop 11).take 1) (rowEnv w.params L)) Q E ⟨h, gs, dr, tk, os⟩ := by
  w_top off
  k_with_none
  k_with "call ref" => refine' hold ?_
  k_with "storeName str" => refine' hold ?_
  have l36 := X.lt36
  have caL := I.caL X
  have I1 := I.map (map_one hm)
  obtain ⟨h₀, o1, o2, o3, o4, o5, o6, o7, o8, st₀, F, N, e1, e2, e3, e4, e5, e6, e7, e8, htl, hsup, back⟩ := RowInv.open (front := []) X I1
  obtain ⟨X₀, T₀, C₀⟩ := G.keeps st₀
  revert X₀; k_fill; intro X₀
  conv => pattern (List.drop _ _); whnf
  simp only [List.take_succ_cons, List.take_zero]
  unfold rowEnv
  conv => pattern (rowScope _); whnf
  conv => pattern (rowScope _); whnf
  dsimp only [rowLed, List.cons_append, List.nil_append] at N
  walk_at "go"
  · (rename News _ _ _ _ => N8); (rename Fr _ _ _ _ => F8); (rename ((ln : Int) = (lines : Int)) => heq)
    refine storeRowS F8 N8 rfl (by with_unfolding_all rfl) rfl ?_
    clear F8 N8
    intro h9 t9 F9 N9
    have I9 := back _ _ [] _ _ _ _ _ _ _ _ _ _ _ _ _ _ _ _ F9 N9 (fun q hq => nomatch hq) ⟨e1, e2, e3, e4, e5, e6, e7, e8⟩
    have I10 := I9.map (m' := fun y => if y = Str.ofString "due" then some (.str (Str.ofString "Expected '\\n' (at end of document)") t9) else m y) (fun y => by rw [← map_one hm y])
    dsimp only
    refine wpAny_execs_nil ?_
    dsimp only
    exact wpAny_execs_nil (hQ _ _ _ (.inl ⟨by lia, t9, rfl⟩) I10)
  · (rename News _ _ _ _ => N9); (rename Fr _ _ _ _ => F9); (rename ¬ ((ln : Int) = (lines : Int)) => hne)
    have I9 := back _ _ [] _ _ _ _ _ _ _ _ _ _ _ _ _ _ _ _ F9 N9 (fun q hq => nomatch hq) ⟨e1, e2, e3, e4, e5, e6, e7, e8⟩
    have I10 := I9.map (m' := fun y => if y = Str.ofString "due" then some vd else m y) (fun y => by rw [← map_one hm y, ← map_one hmd y])
    exact hQ _ _ _ (.inr ⟨by lia, rfl⟩) I10
set_option maxRecDepth 100000 in
set_option maxHeartbeats 4000000 in
theorem rowT9 {w : World} {mg mb : Str → Option Value} {loose : List Str} {mean : ExcName → Option Value} {gb : Heap} (G : Gd w mg mb loose mean gb)
    {hc : Heap} {outer : List Env} {L : Addr} {gd : Option (List Code)} {h : Heap} {gs : Array GenState} {dr : Drawn} {tk : Nat} {os : OsState} {Q : Flow → Shared → Prop} {E : Value → Shared → Prop} {m : Str → Option Value} {ca : Addr} {oc : Obj} {ps : Array Value} {objs : List (Addr × Obj)}
    {c2 c4 c5 c6 c7 c8 : Option Value} {ln cl lines k en : Nat} {tln tcl tl tk1 te : Tok} {tx : Str} {tt : Tok} {D : Addr} {zs : List Value} {zn : List Nat} {c : Nat}
    (X : RowCx gb hc outer L) (I : RowInv gb hc outer L h m (some (.int (ln : Int) tln)) c2 (some (.str tx tt)) c4 c5 c6 c7 c8 objs ca oc ps)
    (hm1 : m (Str.ofString "lines") = some (.int (lines : Int) tl)) (hm2 : m (Str.ofString "same") = some (.ref D)) (hm3 : m (Str.ofString "k") = some (.int (k : Int) tk1)) (hm4 : m (Str.ofString "end") = some (.int ((en : Nat) : Int) te)) (hm5 : m (Str.ofString "column") = some (.int (cl : Int) tcl))
    (hD : (D, W.listOf zs.toArray c) ∈ objs) (hz : NatsAre zs zn) (hzl : zn.length < 100) (hlen : tx.length < 900) (hen : en < 900) (hl2 : ln ≤ 100) (hcl2 : cl ≤ 100)
    (hs : zn = [k] → ln ≠ lines → sfxS tx en (Str.ofString "") = Str.empty ++ Str.ofString " (at line " ++ Str.ofString (toString (ln : Int)) ++ Str.ofString ", column " ++ Str.ofString (toString ((cl : Int) + 1)) ++ Str.ofString ")")
    (hQ : ∀ h' tk' ca oc ps, RowInv gb hc outer L h' m (some (.int (ln : Int) tln)) c2 (some (.str tx tt)) c4 c5 c6 c7 c8 objs ca oc ps → Q .next ⟨h', gs, dr, tk', os⟩) :
    wpAny (model PySem.Challenge.rw_ny0036_01.row.prog w) ((Ax 370 800 none (some outer) gd).deeper (rowEnv w.params L)) (execs (((loopBody w.params).drop 13).take 1) (rowEnv w.params L)) Q E ⟨h, gs, dr, tk, os⟩ := by
  w_top off
  k_with_none
  k_with "call ref" => refine' hold ?_
  k_with "storeName str" => refine' hold ?_
  k_with "call type:str cons nil" => refine' hold ?_
  k_with "le" => (simp only [Str.length_append, Str.empty_append, sizeLine_eq] at *; lia)
  have l36 := X.lt36
  have caL := I.caL X
  have hD8 := (I.objs _ hD).2
  have hzi : IntsAre zs (zn.map fun n => ((n : Nat) : Int)) := hz
  have hzl' := hz.length
  let m1 : Str → Option Value := fun y => if y = Str.ofString "lines" then some (.int (lines : Int) tl) else if y = Str.ofString "same" then some (.ref D) else if y = Str.ofString "k" then some (.int (k : Int) tk1) else if y = Str.ofString "end" then some (.int ((en : Nat) : Int) te) else if y = Str.ofString "column" then some (.int (cl : Int) tcl) else m y
  have hmm : ∀ y, m y = m1 y := fun y => by
    show m y = if y = Str.ofString "lines" then some (.int (lines : Int) tl) else if y = Str.ofString "same" then some (.ref D) else if y = Str.ofString "k" then some (.int (k : Int) tk1) else if y = Str.ofString "end" then some (.int ((en : Nat) : Int) te) else if y = Str.ofString "column" then some (.int (cl : Int) tcl) else m y
    rw [← map_one hm5 y, ← map_one hm4 y, ← map_one hm3 y, ← map_one hm2 y, ← map_one hm1 y]
  have I0 := I.map hmm
  have I1 := I0.less (objs' := [(D, W.listOf zs.toArray c)] ++ objs) (fun q hq => by
    rcases List.mem_append.mp hq with hq | hq
    · rw [List.mem_singleton.mp hq]; exact hD
    · exact hq)
  obtain ⟨h₀, o1, o2, o3, o4, o5, o6, o7, o8, st₀, F, N, e1, e2, e3, e4, e5, e6, e7, e8, htl, hsup, back⟩ := RowInv.open X I1
  dsimp only [m1] at F
  obtain ⟨X₀, T₀, C₀⟩ := G.keeps st₀
  revert X₀; k_fill; intro X₀
  conv => pattern (List.drop _ _); whnf
  simp only [List.take_succ_cons, List.take_zero]
  unfold rowEnv
  conv => pattern (rowScope _); whnf
  conv => pattern (rowScope _); whnf
  dsimp only [rowLed, List.cons_append, List.nil_append] at N
  have fin : ∀ h' tk' (o : Obj) (a : Addr), Fr h₀ L h' m1 → News h₀ L h' ((a, o) :: (D, W.listOf zs.toArray c) :: rowLed L ca oc ps (objs ++ frOf h outer) o1 o2 o3 o4 o5 o6 o7 o8) → Q .next ⟨h', gs, dr, tk', os⟩ := fun h' tk' o a F' N' =>
    hQ _ _ _ _ _ (((back _ _ [_] _ _ _ _ _ _ _ _ _ _ _ _ _ _ _ _ F' (fun q hq => N' q (.tail _ hq)) (fun q hq => by rw [List.mem_singleton.mp hq]; exact hD8) ⟨e1, e2, e3, e4, e5, e6, e7, e8⟩).less (objs' := objs) (fun q hq => List.mem_append_right _ hq)).map fun y => (hmm y).symm)
  walk_at "go"
  · (rename News _ _ _ _ => N8); (rename Fr _ _ _ _ => F8); (rename ((ln : Int) ≠ (lines : Int)) => hne); (rename List.map _ zn = _ => hzk)
    have hzk' : zn = [k] := by
      match zn, hzk with
      | [a], e =>
        have e1 : (a : Int) = (k : Int) := List.head_eq_of_cons_eq e
        have e2 : a = k := by lia
        rw [e2]
    have hs' := hs hzk' (by lia)
    have I8 := ((back _ _ [_] _ _ _ _ _ _ _ _ _ _ _ _ _ _ _ _ F8 (fun q hq => N8 q (.tail _ hq)) (fun q hq => by rw [List.mem_singleton.mp hq]; exact hD8) ⟨e1, e2, e3, e4, e5, e6, e7, e8⟩).less (objs' := objs) (fun q hq => List.mem_append_right _ hq))
    clear F8 N8 X₀ T₀ C₀ hsup back htl fin
    refine sfx G (Nat.le_of_ble_eq_true rfl) (Nat.le_of_ble_eq_true rfl) (I8.stays X) I8.hca I8.hP I8.tb (by lia) (by lia) (by decide) ?_
    intro h5 tk5 e t xk ca5 oc5 ps5 k5 ht en' tn hca5 hP5 tb5 ec tc e36 t36
    have I5 := I8.k36 X k5 hca5 hP5 tb5
    clear I8
    walk_at "go"
    refine str_own (G.keeps (I5.stays X)).1 ⟨⟨_, _, ht.1, rfl, rfl, rfl⟩, ⟨_, _, ht.2, rfl, rfl⟩⟩ (Nat.le_of_ble_eq_true rfl) ?_
    rw [hs']
    obtain ⟨h₀, o1, o2, o3, o4, o5, o6, o7, o8, st₀, F, N, e1, e2, e3, e4, e5, e6, e7, e8, htl, hsup, back⟩ := RowInv.open (front := []) X I5
    obtain ⟨X₀, T₀, C₀⟩ := G.keeps st₀
    dsimp only [rowLed, List.cons_append, List.nil_append] at N
    walk_at "go"
    · exact hQ _ _ _ _ _ (I5.map fun y => (hmm y).symm)
  · (rename News _ _ _ _ => N8); (rename Fr _ _ _ _ => F8)
    exact fin _ _ _ _ F8 N8
  · (rename News _ _ _ _ => N8); (rename Fr _ _ _ _ => F8)
    exact fin _ _ _ _ F8 N8
end Mine
section
open StrLaws
namespace Mine
/-- the last line feed ahead of p -/
theorem lastNl_is {x : Str} {p q : Nat} (hp : p ≤ x.length) (hq : q < p) (h1 : x.cps.toList[q]? = some 10) (h2 : ∀ i, q < i → i < p → x.cps.toList[i]? ≠ some 10) : lastNl x p = q := by
  unfold lastNl
  rw [last_eq]
  have key := last_run x ⟨#[10]⟩ p (List.range' 0 (p + 1 - 0)) [] none (fun _ h => nomatch h) (fun _ h => nomatch h) (by simpa using List.pairwise_lt_range' (s := 0) (n := p + 1 - 0))
  generalize (forIn (List.range' 0 (p + 1 - 0)) none (lastBody x ⟨#[10]⟩ p)).run = r at key
  have mem : ∀ i, i < p → i ∈ [] ++ List.range' 0 (p + 1 - 0) := fun i hi => by simp [List.mem_range']; lia
  have hA : At x ⟨#[10]⟩ p q := (at_one hp).mpr ⟨hq, h1⟩
  cases r with
  | none => exact absurd hA (key q (mem q hq))
  | some a =>
    obtain ⟨a1, a2⟩ := (at_one hp).mp key.1
    show a = q
    rcases Nat.lt_trichotomy a q with z | z | z
    · exact absurd hA (key.2 q (mem q hq) z)
    · exact z
    · exact absurd a2 (h2 a z a1)
theorem nls_succ {x : Str} {p : Nat} {c : Nat} (h : x.cps.toList[p]? = some c) : nls x (p + 1) = nls x p + if c = 10 then 1 else 0 := by
  unfold nls
  rw [List.take_succ, h, List.count_append]
  by_cases z : c = 10
  · subst z; rfl
  · rw [if_neg z]; simp [z]
/-- how the signs x lie in the text tx: ln, cl are the line and the column of each -/
structure Laid (x tx : Str) (ln cl : Nat → Nat) : Prop where
  x0 : 0 < x.length
  len : tx.length + 1 = x.length + ln (x.length - 1)
  at_ : ∀ k, k < x.length → tx.cps.toList[k + ln k - 1]? = x.cps.toList[k]?
  z : ln 0 = 1 ∧ cl 0 = 1
  step : ∀ k, k + 1 < x.length → (ln (k + 1) = ln k ∧ cl (k + 1) = cl k + 1) ∨ (ln (k + 1) = ln k + 1 ∧ cl (k + 1) = 1 ∧ tx.cps.toList[k + ln k]? = some 10)
  nl : ∀ c ∈ x.cps.toList, c ≠ 10
namespace Laid
variable {x tx : Str} {ln cl : Nat → Nat}
theorem xlen (x : Str) : x.cps.toList.length = x.length := by simp [Str.length]
theorem lo (l : Laid x tx ln cl) : ∀ k, k < x.length → 1 ≤ ln k ∧ ln k ≤ k + 1 ∧ 1 ≤ cl k ∧ cl k ≤ k + 1
  | 0, _ => by have := l.z; lia
  | k + 1, h => by
    have ih := l.lo k (by lia)
    rcases l.step k h with ⟨a, b⟩ | ⟨a, b, _⟩ <;> lia
theorem mono (l : Laid x tx ln cl) {j k : Nat} (hjk : j ≤ k) (hk : k < x.length) : ln j ≤ ln k := by
  induction k with
  | zero => rw [Nat.le_zero.mp hjk]; exact Nat.le_refl _
  | succ k ih =>
    rcases Nat.lt_or_ge j (k + 1) with z | z
    · have := ih (by lia) (by lia)
      rcases l.step k hk with ⟨a, _⟩ | ⟨a, _⟩ <;> lia
    · rw [Nat.le_antisymm hjk z]; exact Nat.le_refl _
theorem sign (l : Laid x tx ln cl) {k : Nat} (hk : k < x.length) : ∃ c, x.cps.toList[k]? = some c ∧ tx.cps.toList[k + ln k - 1]? = some c ∧ c ≠ 10 := by
  have h : x.cps.toList[k]? = some (x.cps.toList[k]'(by rw [xlen]; exact hk)) := List.getElem?_eq_getElem _
  refine ⟨_, h, (l.at_ k hk).trans h, l.nl _ (List.getElem_mem _)⟩
/-- the place of a sign lies in the text -/
theorem inside (l : Laid x tx ln cl) {k : Nat} (hk : k < x.length) : k + ln k - 1 < tx.length := by
  obtain ⟨c, _, h, _⟩ := l.sign hk
  have := (List.getElem?_eq_some_iff.mp h).1
  rwa [xlen] at this
theorem nls_at (l : Laid x tx ln cl) : ∀ k, k < x.length → nls tx (k + ln k - 1) = ln k - 1
  | 0, _ => by rw [l.z.1]; rfl
  | k + 1, h => by
    have ih := l.nls_at k (by lia)
    have lo := l.lo k (by lia)
    obtain ⟨c, _, hc, hne⟩ := l.sign (k := k) (by lia)
    have s1 := nls_succ hc
    rw [if_neg hne, ih] at s1
    rcases l.step k h with ⟨a, _⟩ | ⟨a, _, b⟩
    · rw [a, show k + 1 + ln k - 1 = k + ln k - 1 + 1 by lia, s1]; rfl
    · have s2 := nls_succ b
      rw [a, show k + 1 + (ln k + 1) - 1 = k + ln k + 1 by lia, s2, show k + ln k = k + ln k - 1 + 1 by lia, s1]
      simp; lia
theorem col_at (l : Laid x tx ln cl) : ∀ k, k < x.length → (ln k = 1 → cl k = k + 1) ∧ (2 ≤ ln k → cl k ≤ k + ln k - 1 ∧ tx.cps.toList[k + ln k - 1 - cl k]? = some 10 ∧ ∀ i, k + ln k - 1 - cl k < i → i < k + ln k - 1 → tx.cps.toList[i]? ≠ some 10)
  | 0, _ => by have := l.z; exact ⟨fun _ => this.2, fun h => absurd h (by lia)⟩
  | k + 1, h => by
    have ih := l.col_at k (by lia)
    have lo := l.lo k (by lia)
    obtain ⟨c, _, hc, hne⟩ := l.sign (k := k) (by lia)
    rcases l.step k h with ⟨a, b⟩ | ⟨a, b, e⟩
    · refine ⟨fun h1 => by have := ih.1 (by lia); lia, fun h2 => ?_⟩
      obtain ⟨i1, i2, i3⟩ := ih.2 (by lia)
      rw [a, b]
      refine ⟨by lia, by rw [show k + 1 + ln k - 1 - (cl k + 1) = k + ln k - 1 - cl k by lia]; exact i2, fun i h1 h2 => ?_⟩
      by_cases z : i = k + ln k - 1
      · rw [z, hc]; intro q; cases q; exact hne rfl
      · exact i3 i (by lia) (by lia)
    · refine ⟨fun h1 => by lia, fun h2 => ?_⟩
      rw [a, b]
      refine ⟨by lia, by rw [show k + 1 + (ln k + 1) - 1 - 1 = k + ln k by lia]; exact e, fun i h1 h2 => absurd h1 (by lia)⟩
theorem coord (l : Laid x tx ln cl) {k : Nat} (hk : k < x.length) : coordS tx (k + ln k - 1) = Str.empty ++ Str.ofString "line " ++ itext (ln k : Nat) ++ Str.ofString ", column " ++ itext (cl k : Nat) := by
  have lo := l.lo k hk
  have ins := l.inside hk
  have nl := l.nls_at k hk
  have co := l.col_at k hk
  unfold coordS
  rw [if_neg (by lia), nl]
  have e1 : (((ln k - 1 : Nat) : Int) + 1) = ((ln k : Nat) : Int) := by lia
  have e2 : (if ln k - 1 = 0 then (((k + ln k - 1 : Nat) : Int) + 1) else ((k + ln k - 1 : Nat) : Int) - (lastNl tx (k + ln k - 1) : Nat)) = ((cl k : Nat) : Int) := by
    by_cases h1 : ln k - 1 = 0
    · rw [if_pos h1, co.1 (by lia)]; lia
    · rw [if_neg h1]
      obtain ⟨c1, c2, c3⟩ := co.2 (by lia)
      rw [lastNl_is (q := k + ln k - 1 - cl k) (by lia) (by lia) c2 c3]
      lia
  rw [e1, e2]
/-- the line feed behind a line -/
theorem coord_nl (l : Laid x tx ln cl) {k : Nat} (hk : k + 1 < x.length) (hs : ln (k + 1) ≠ ln k) : coordS tx (k + ln k) = Str.empty ++ Str.ofString "line " ++ itext (ln k : Nat) ++ Str.ofString ", column " ++ itext ((cl k : Nat) + 1 : Int) := by
  have lo := l.lo k (by lia)
  have ins := l.inside hk
  have nl := l.nls_at k (by lia)
  have co := l.col_at k (by lia)
  obtain ⟨c, _, hc, hne⟩ := l.sign (k := k) (by lia)
  have s1 := nls_succ hc
  rw [if_neg hne, nl, show k + ln k - 1 + 1 = k + ln k by lia] at s1
  have hst := l.step k hk
  unfold coordS
  rw [if_neg (by lia), s1]
  have e1 : (((ln k - 1 + 0 : Nat) : Int) + 1) = ((ln k : Nat) : Int) := by lia
  have e2 : (if ln k - 1 + 0 = 0 then (((k + ln k : Nat) : Int) + 1) else ((k + ln k : Nat) : Int) - (lastNl tx (k + ln k) : Nat)) = ((cl k : Nat) : Int) + 1 := by
    by_cases h1 : ln k - 1 = 0
    · rw [if_pos (by lia), co.1 (by lia)]; lia
    · rw [if_neg (by lia)]
      obtain ⟨c1, c2, c3⟩ := co.2 (by lia)
      rw [lastNl_is (q := k + ln k - 1 - cl k) (by lia) (by lia) c2 (fun i h1 h2 => by
        by_cases z : i = k + ln k - 1
        · rw [z, hc]; intro q; cases q; exact hne rfl
        · exact c3 i h1 (by lia))]
      lia
  rw [e1, e2]
/-- the last sign of a line -/
theorem last (l : Laid x tx ln cl) {k : Nat} (hk : k < x.length) : ∃ e, k ≤ e ∧ e < x.length ∧ (∀ j, k ≤ j → j ≤ e → ln j = ln k) ∧ ((e + 1 = x.length ∧ ln k = ln (x.length - 1)) ∨ (e + 1 < x.length ∧ ln (e + 1) = ln k + 1 ∧ tx.cps.toList[e + ln k]? = some 10 ∧ ln k < ln (x.length - 1))) := by
  obtain ⟨d, hd⟩ : ∃ d, x.length = k + 1 + d := ⟨x.length - (k + 1), by lia⟩
  induction d generalizing k with
  | zero => exact ⟨k, Nat.le_refl _, hk, fun j h1 h2 => by rw [Nat.le_antisymm h2 h1], .inl ⟨by lia, by rw [show x.length - 1 = k by lia]⟩⟩
  | succ d ih =>
    rcases l.step k (by lia) with ⟨a, _⟩ | ⟨a, _, b⟩
    · obtain ⟨e, h1, h2, h3, h4⟩ := ih (k := k + 1) (by lia) (by lia)
      refine ⟨e, by lia, h2, fun j q1 q2 => ?_, by rw [← a]; exact h4⟩
      by_cases z : j = k
      · rw [z]
      · rw [h3 j (by lia) q2, a]
    · refine ⟨k, Nat.le_refl _, hk, fun j h1 h2 => by rw [Nat.le_antisymm h2 h1], .inr ⟨by lia, a, b, ?_⟩⟩
      have := l.mono (j := k + 1) (k := x.length - 1) (by lia) (by lia)
      lia
theorem sfx_here (l : Laid x tx ln cl) {k : Nat} (hk : k < x.length) : sfxS tx (k + ln k - 1) (Str.ofString "here") = Str.empty ++ Str.ofString "here (at line " ++ Str.ofString (toString ((ln k : Nat) : Int)) ++ Str.ofString ", column " ++ Str.ofString (toString ((cl k : Nat) : Int)) ++ Str.ofString ")" := by
  unfold sfxS
  rw [l.coord hk]
  unfold itext
  have e : Str.ofString "here" ++ Str.ofString " (at " ++ Str.ofString "line " = Str.ofString "here (at line " := by decide +kernel
  rw [← e]
  simp only [Str.empty_append, Str.append_assoc]
theorem sfx_end (l : Laid x tx ln cl) {k : Nat} (hk : k + 1 < x.length) (hs : ln (k + 1) ≠ ln k) : sfxS tx (k + ln k) (Str.ofString "") = Str.empty ++ Str.ofString " (at line " ++ Str.ofString (toString ((ln k : Nat) : Int)) ++ Str.ofString ", column " ++ Str.ofString (toString (((cl k : Nat) : Int) + 1)) ++ Str.ofString ")" := by
  unfold sfxS
  rw [l.coord_nl hk hs]
  unfold itext
  have e : Str.ofString "" ++ Str.ofString " (at " ++ Str.ofString "line " = Str.ofString " (at line " := by decide +kernel
  rw [← e]
  simp only [Str.empty_append, Str.append_assoc]
theorem sfx_found (l : Laid x tx ln cl) {k ch : Nat} (hk : k < x.length) : sfxS tx (k + ln k - 1) (Str.empty ++ Str.ofString "Found invalid character " ++ reprText ⟨#[ch]⟩) = foundS ch (ln k) (cl k) := by
  unfold sfxS foundS
  rw [l.coord hk]
  unfold itext
  have e : Str.ofString " (at " ++ Str.ofString "line " = Str.ofString " (at line " := by decide +kernel
  rw [← e]
  simp only [Str.empty_append, Str.append_assoc]
end Laid
theorem sfx_eof (tx : Str) : sfxS tx tx.length (Str.empty ++ Str.ofString "Expected " ++ Str.ofString "'\\n'") = Str.ofString "Expected '\\n' (at end of document)" := by
  unfold sfxS coordS
  rw [if_pos (Nat.le_refl _)]
  decide +kernel
/-- the signs of k's line from k on; the barred ones of them -/
def sameN (ln : Nat → Nat) (n k : Nat) : List Nat := (List.range' k (n - k)).filter fun j => decide (ln j = ln k)
def chOf (x : Str) (j : Nat) : Nat := (x.cps[j]?).getD 0
def barN (x bs : Str) (j : Nat) : Bool := match x.cps[j]? with | some ch => bs.cps.toList.contains ch | none => false
def wrongN (ln : Nat → Nat) (x bs : Str) (k : Nat) : List Nat := (sameN ln x.length k).filter (barN x bs)
namespace Laid
variable {x tx : Str} {ln cl : Nat → Nat}
theorem same_is (l : Laid x tx ln cl) {k : Nat} (hk : k < x.length) : ∃ e, k ≤ e ∧ e < x.length ∧ (∀ j, k ≤ j → j ≤ e → ln j = ln k) ∧ sameN ln x.length k = List.range' k (e + 1 - k) ∧
    ((e + 1 = x.length ∧ ln k = ln (x.length - 1)) ∨ (e + 1 < x.length ∧ ln (e + 1) = ln k + 1 ∧ tx.cps.toList[e + ln k]? = some 10 ∧ ln k < ln (x.length - 1))) := by
  obtain ⟨e, h1, h2, h3, h4⟩ := l.last hk
  refine ⟨e, h1, h2, h3, ?_, h4⟩
  unfold sameN
  rw [show x.length - k = (e + 1 - k) + (x.length - (e + 1)) by lia, ← List.range'_append_1, List.filter_append]
  have a1 : (List.range' k (e + 1 - k)).filter (fun j => decide (ln j = ln k)) = List.range' k (e + 1 - k) := List.filter_eq_self.mpr fun j hj => by
    have := List.mem_range'_1.mp hj
    simp [h3 j this.1 (by lia)]
  have a2 : (List.range' (k + (e + 1 - k)) (x.length - (e + 1))).filter (fun j => decide (ln j = ln k)) = [] := List.filter_eq_nil_iff.mpr fun j hj => by
    have hj' := List.mem_range'_1.mp hj
    rcases h4 with ⟨z, _⟩ | ⟨z, z2, _⟩
    · lia
    · have := l.mono (j := e + 1) (k := j) (by lia) (by lia)
      simp; lia
  rw [a1, a2, List.append_nil]
theorem bad_at (l : Laid x tx ln cl) {bs : Str} {j : Nat} (hj : j < x.length) : badAt tx (signSet bs.cps.toList) (j + ln j - 1) = barN x bs j := by
  obtain ⟨c, h1, h2, _⟩ := l.sign hj
  unfold badAt barN
  rw [← Array.getElem?_toList, ← Array.getElem?_toList, h1, h2]
  unfold signSet
  dsimp only
  rw [Bool.eq_iff_iff, List.any_eq_true, List.contains_iff_mem]
  constructor
  · rintro ⟨c', hm, e⟩
    have e1 := congrArg Str.cps (of_decide_eq_true e)
    have e2 : c = c' := by simpa using e1
    rw [e2]; exact hm
  · intro hm
    exact ⟨c, hm, by simp⟩
/-- where the search for a line feed ends -/
theorem first_nl (l : Laid x tx ln cl) {k e : Nat} (hk : k < x.length) (he : k ≤ e) (he2 : e < x.length) (hs : ∀ j, k ≤ j → j ≤ e → ln j = ln k)
    (h4 : (e + 1 = x.length ∧ ln k = ln (x.length - 1)) ∨ (e + 1 < x.length ∧ ln (e + 1) = ln k + 1 ∧ tx.cps.toList[e + ln k]? = some 10 ∧ ln k < ln (x.length - 1))) :
    (firstNl tx (k + ln k - 1)).getD tx.length = e + ln k ∧ (firstNl tx (k + ln k - 1) = none ↔ ln k = ln (x.length - 1)) := by
  have lo := l.lo k hk
  have hlen := l.len
  have inner : ∀ i, k + ln k - 1 ≤ i → i < e + ln k → tx.cps.toList[i]? ≠ some 10 := fun i h1 h2 => by
    obtain ⟨c, _, q, hne⟩ := l.sign (k := i + 1 - ln k) (by lia)
    rw [hs (i + 1 - ln k) (by lia) (by lia), show i + 1 - ln k + ln k - 1 = i by lia] at q
    rw [q]; intro z; cases z; exact hne rfl
  rcases firstNl_spec tx (k + ln k - 1) with ⟨h0, hn⟩ | ⟨q, h0, q1, q2, q3, q4⟩
  · rcases h4 with ⟨a, b⟩ | ⟨a, _, b, _⟩
    · rw [h0]
      refine ⟨?_, fun _ => b, fun _ => rfl⟩
      show tx.length = _
      lia
    · exact absurd b (hn _ (by lia))
  · rw [h0]
    have qe : e + ln k ≤ q := by
      rcases Nat.lt_or_ge q (e + ln k) with z | z
      · exact absurd q3 (inner q q1 z)
      · exact z
    rcases h4 with ⟨a, b⟩ | ⟨a, _, b, c⟩
    · lia
    · refine ⟨?_, fun z => (by cases z), fun z => absurd z (by lia)⟩
      show q = _
      rcases Nat.lt_or_ge (e + ln k) q with z | z
      · exact absurd b (q4 _ (by lia) z)
      · lia
theorem find_shift (P : Nat → Bool) (d : Nat) : ∀ (n a : Nat), (List.range' (a + d) n).find? P = ((List.range' a n).find? fun j => P (j + d)).map (· + d)
  | 0, _ => rfl
  | n + 1, a => by
    rw [List.range'_succ, List.range'_succ, List.find?_cons, List.find?_cons]
    cases h : P (a + d) with
    | true => rfl
    | false => dsimp only; rw [show a + d + 1 = (a + 1) + d by lia, find_shift P d n (a + 1)]
theorem find_congr {α : Type} {p q : α → Bool} {l : List α} (h : ∀ a ∈ l, p a = q a) : l.find? p = l.find? q := by
  induction l with
  | nil => rfl
  | cons a r ih => rw [List.find?_cons, List.find?_cons, h a (.head _), ih fun b hb => h b (.tail _ hb)]
theorem first_bad (l : Laid x tx ln cl) {bs : Str} {k e : Nat} (hk : k < x.length) (he : k ≤ e) (he2 : e < x.length) (hs : ∀ j, k ≤ j → j ≤ e → ln j = ln k) (hsame : sameN ln x.length k = List.range' k (e + 1 - k)) :
    firstBad tx (signSet bs.cps.toList) (k + ln k - 1) (e + ln k) = (wrongN ln x bs k).head?.map (fun j => j + ln k - 1) := by
  have lo := l.lo k hk
  unfold firstBad wrongN
  rw [hsame, List.head?_filter, show k + ln k - 1 = k + (ln k - 1) by lia, show e + ln k - (k + (ln k - 1)) = e + 1 - k by lia, find_shift]
  have e1 : (List.range' k (e + 1 - k)).find? (fun j => badAt tx (signSet bs.cps.toList) (j + (ln k - 1))) = (List.range' k (e + 1 - k)).find? (barN x bs) := find_congr fun j hj => by
    have hj' := List.mem_range'_1.mp hj
    have := l.bad_at (bs := bs) (j := j) (by lia)
    rw [hs j hj'.1 (by lia), show j + ln k - 1 = j + (ln k - 1) by lia] at this
    exact this
  rw [e1]
  cases (List.range' k (e + 1 - k)).find? (barN x bs) with
  | none => rfl
  | some j => show some (j + (ln k - 1)) = some (j + ln k - 1); rw [show j + (ln k - 1) = j + ln k - 1 by lia]
/-- what _law_sought gives is what is due -/
theorem due (l : Laid x tx ln cl) {bs : Str} {k e : Nat} {eof : Bool} {v d : Value} (hk : k < x.length) (he : k ≤ e) (he2 : e < x.length) (hs : ∀ j, k ≤ j → j ≤ e → ln j = ln k) (hsame : sameN ln x.length k = List.range' k (e + 1 - k))
    (h4 : (e + 1 = x.length ∧ ln k = ln (x.length - 1)) ∨ (e + 1 < x.length ∧ ln (e + 1) = ln k + 1 ∧ tx.cps.toList[e + ln k]? = some 10 ∧ ln k < ln (x.length - 1)))
    (hne : eof = true → ln k ≠ ln (x.length - 1))
    (hd : (wrongN ln x bs k = [] ∧ ∃ t, d = .int ((e + ln k : Nat) : Int) t) ∨ ∃ j r t, wrongN ln x bs k = j :: r ∧ d = .str (foundS (chOf x j) (ln k) (cl j)) t)
    (hv : SoughtV tx (signSet bs.cps.toList) (k + ln k - 1) eof v) : SameV v d := by
  obtain ⟨n1, n2⟩ := l.first_nl hk he he2 hs h4
  have hb := l.first_bad (bs := bs) hk he he2 hs hsame
  unfold SoughtV at hv
  rw [n1, hb] at hv
  rcases hv with ⟨t, _, a, rfl⟩ | ⟨t, a, b, _⟩ | ⟨t, i, c, _, a, b, rfl⟩
  · rcases hd with ⟨w, t', rfl⟩ | ⟨j, r, t', w, _⟩
    · exact .inl ⟨_, _, _, rfl, rfl⟩
    · rw [w] at a; cases a
  · exact absurd (n2.mp a) (hne b)
  · rcases hd with ⟨w, _⟩ | ⟨j, r, t', w, rfl⟩
    · rw [w] at a; cases a
    · rw [w] at a
      have hi : i = j + ln k - 1 := by simpa using a.symm
      have hjm : j ∈ wrongN ln x bs k := by rw [w]; exact .head _
      have hjs : j ∈ sameN ln x.length k := (List.mem_filter.mp hjm).1
      rw [hsame] at hjs
      have hj' := List.mem_range'_1.mp hjs
      have hlj := hs j hj'.1 (by lia)
      obtain ⟨ch, s1, s2, _⟩ := l.sign (k := j) (by lia)
      have hc : c = chOf x j := by
        rw [hlj, ← hi, Array.getElem?_toList, b] at s2
        cases s2
        unfold chOf
        rw [← Array.getElem?_toList, s1]
        rfl
      refine .inr ⟨_, t, t', rfl, ?_⟩
      rw [hi, ← hlj, l.sfx_found (by lia), hc]
/-- at the text's end, where the end is an error -/
theorem due_eof (l : Laid x tx ln cl) {bs : Str} {k e : Nat} {v : Value} {t : Tok} (hk : k < x.length) (he : k ≤ e) (he2 : e < x.length) (hs : ∀ j, k ≤ j → j ≤ e → ln j = ln k)
    (h4 : (e + 1 = x.length ∧ ln k = ln (x.length - 1)) ∨ (e + 1 < x.length ∧ ln (e + 1) = ln k + 1 ∧ tx.cps.toList[e + ln k]? = some 10 ∧ ln k < ln (x.length - 1)))
    (heq : ln k = ln (x.length - 1)) (hv : SoughtV tx (signSet bs.cps.toList) (k + ln k - 1) true v) : SameV v (.str (Str.ofString "Expected '\\n' (at end of document)") t) := by
  obtain ⟨n1, n2⟩ := l.first_nl hk he he2 hs h4
  have hn := n2.mpr heq
  rcases hv with ⟨t, a, _⟩ | ⟨t, _, _, rfl⟩ | ⟨t, i, c, a, _⟩
  · cases a hn
  · exact .inr ⟨_, _, _, by rw [sfx_eof], rfl⟩
  · cases a hn
end Laid
end Mine
end
namespace Mine
theorem execs_part {M : Model} {A : Around} {E : Value → Shared → Prop} {s : Shared} {env : Env} {Q : Flow → Shared → Prop} (a k : Nat) {l : List Stmt}
    (h : wpAny M A (execs ((l.drop a).take k) env) (fun f s' => match f with | .next => wpAny M A (execs (l.drop (a + k)) env) Q E s' | f => Q f s') E s) : wpAny M A (execs (l.drop a) env) Q E s := by
  refine execs_split k ?_
  rw [List.drop_drop]
  exact h
theorem loopBody_end (p : Params) : (loopBody p).drop 14 = [] := by with_unfolding_all rfl
set_option maxHeartbeats 1000000 in
theorem rowTurn {w : World} {mg mb : Str → Option Value} {loose : List Str} {mean : ExcName → Option Value} {gb : Heap} (G : Gd w mg mb loose mean gb)
    {hc : Heap} {outer : List Env} {L : Addr} {gd : Option (List Code)} {h : Heap} {gs : Array GenState} {dr : Drawn} {tk : Nat} {os : OsState} {Q : Flow → Shared → Prop} {E : Value → Shared → Prop} {m : Str → Option Value} {c1 c4 c5 c6 : Option Value} {ca : Addr} {oc : Obj} {ps : Array Value} {x tx bs : Str} {tt t1 t2 : Tok}
    {objs : List (Addr × Obj)} {D : Addr} {pl : List Int} {en : Bool} {k : Nat} {tk1 : Tok} {lines : Nat} {tl : Tok} {ln cl : Nat → Nat}
    (X : RowCx gb hc outer L) (I : RowInv gb hc outer L h m c1 (some (.ref D)) (some (.str tx tt)) c4 c5 c6 (some (.str bs t2)) (some (.str x t1)) objs ca oc ps)
    (hmk : m (Str.ofString "k") = some (.int (k : Int) tk1)) (hml : m (Str.ofString "lines") = some (.int (lines : Int) tl))
    (l : Laid x tx ln cl) (hn : x.length < 50) (hxb : ∀ c ∈ x.cps.toList, c < 16 ^ 8) (htb : ∀ c ∈ tx.cps.toList, c < 16 ^ 8) (hbs : bs.cps.size < 1000)
    (hD : PlacesAt objs D pl en x.length) (hp : ∀ j, j < x.length → placeOf pl en j = ((ln j : Int), (cl j : Int))) (hk : k < x.length) (hlines : lines = ln (x.length - 1))
    (hQ : ∀ h' tk' m' ta ca oc ps, RowInv gb hc outer L h' m' (some (.int (ln k : Int) ta)) (some (.ref D)) (some (.str tx tt)) c4 c5 c6 (some (.str bs t2)) (some (.str x t1)) objs ca oc ps → m' (Str.ofString "lines") = some (.int (lines : Int) tl) → Q .next ⟨h', gs, dr, tk', os⟩) :
    wpAny (model PySem.Challenge.rw_ny0036_01.row.prog w) ((Ax 370 800 none (some outer) gd).deeper (rowEnv w.params L)) (execs (loopBody w.params) (rowEnv w.params L)) Q E ⟨h, gs, dr, tk, os⟩ := by
  have lo := l.lo k hk
  have hlen : tx.length < 200 := by have := l.len; have := l.lo (x.length - 1) (by omega); omega
  have ins := l.inside hk
  obtain ⟨e, he, he2, hsl, hsame, h4⟩ := l.same_is hk
  have n1 := l.first_nl hk he he2 hsl h4
  have I' := I.map (m' := kMap m k tk1 lines tl) (fun y => by unfold kMap; rw [← map_one hml y, ← map_one hmk y])
  refine execs_split 5 (rowT1 G X I' (by omega) hD hk (by omega) (hp k hk) lo.1 (by omega) (by omega) (l.sfx_here hk) ?_)
  intro h1 tk1' m1 ta tb ts ca1 oc1 ps1 I1 a1 a2 a3 a4
  refine execs_part 5 1 (rowT2 G X I1 a1 hD hk (by omega) ?_)
  intro h2 tk2 vs D2 cc2 hvl hvs oD2 I2
  have nz : NatsAre vs (List.range' k (x.length - k)) := nats_range hvl hvs
  have nzs : NatsAre (vs.filter (onLine pl en (ln k))) (sameN ln x.length k) := nz.filter _ _ (fun j hj t => by
    have hj' := List.mem_range'_1.mp hj
    unfold onLine
    dsimp only
    rw [hp j (by omega), Bool.eq_iff_iff, decide_eq_true_eq, decide_eq_true_eq]
    dsimp only
    lia)
  generalize vs.filter (onLine pl en (ln k)) = zs at *
  have hzl := nzs.length
  have hsl' : (sameN ln x.length k).length = e + 1 - k := by rw [hsame, List.length_range']
  have zat : ∀ v ∈ zs, ∃ j t, v = Value.int ((j : Nat) : Int) t ∧ j ∈ sameN ln x.length k := fun v hv => by
    obtain ⟨i, hi⟩ := List.mem_iff_getElem?.mp hv
    have hil := (List.getElem?_eq_some_iff.mp hi).1
    have hj : (sameN ln x.length k)[i]? = some ((sameN ln x.length k)[i]'(by lia)) := List.getElem?_eq_getElem _
    obtain ⟨t, ht⟩ := nzs.at hj
    rw [hi] at ht
    cases ht
    exact ⟨_, t, rfl, List.getElem_mem _⟩
  have inS : ∀ j ∈ sameN ln x.length k, k ≤ j ∧ j ≤ e := fun j hj => by
    rw [hsame] at hj
    have := List.mem_range'_1.mp hj
    omega
  have sgn : ∀ j, j < x.length → x.cps[j]? = some (chOf x j) := fun j hj => by
    obtain ⟨c, q, _⟩ := l.sign hj
    rw [Array.getElem?_toList] at q
    unfold chOf
    rw [q]; rfl
  refine execs_part 6 1 (rowT3 G X I2 (by with_unfolding_all rfl) (.head _) (fun v hv => ?_) (by omega) (by omega) ?_)
  · obtain ⟨j, t, rfl, hj⟩ := zat v hv
    have := inS j hj
    exact ⟨j, t, chOf x j, rfl, by omega, sgn j (by omega)⟩
  intro h3 tk3 D3 cc3 oD3 I3
  have nws : NatsAre (zs.filter (isBarred x bs)) (wrongN ln x bs k) := nzs.filter _ _ (fun j hj t => by
    unfold isBarred barN
    dsimp only
    rw [Int.toNat_natCast]
    try rfl)
  generalize zs.filter (isBarred x bs) = ws at *
  have hlast : (sameN ln x.length k)[zs.length - 1]? = some e := by
    rw [hsame, hzl, hsl', List.getElem?_range' (by omega)]
    congr 1; omega
  obtain ⟨tla, hla⟩ := nzs.at hlast
  refine execs_part 7 2 (rowT4 G X I3 (by with_unfolding_all rfl) (.tail _ (.head _)) (by omega) hla (by omega) (by omega) ?_)
  intro h4' tk4 te I4
  have wl : (wrongN ln x bs k).length < 100 := by
    have : (wrongN ln x bs k).length ≤ (sameN ln x.length k).length := List.length_filter_le _ _
    omega
  have PA : PlacesAt ((D3, W.listOf ws.toArray cc3) :: (D2, W.listOf zs.toArray cc2) :: objs) D pl en x.length := by
    obtain ⟨dv, c, q1, q2, q3⟩ := hD
    exact ⟨dv, c, .tail _ (.tail _ q1), q2, fun j hj => by obtain ⟨a, t, t', b1, b2⟩ := q3 j hj; exact ⟨a, t, t', b1, .tail _ (.tail _ b2)⟩⟩
  refine execs_part 9 1 (rowT5 (ch := chOf x) (cl := cl) G X I4 (by with_unfolding_all rfl) (by with_unfolding_all rfl) (.head _) nws wl (by omega) PA (by omega) (fun j hj => ?_) ?_)
  · have hj' := inS j (List.mem_filter.mp hj).1
    have lj := l.lo j (by omega)
    refine ⟨by omega, sgn j (by omega), ?_, by rw [hp j (by omega)], by lia⟩
    obtain ⟨c, q, _⟩ := l.sign (k := j) (by omega)
    have := sgn j (by omega)
    rw [← Array.getElem?_toList, q] at this
    rw [← Option.some.inj this]
    exact hxb c (List.mem_of_getElem? q)
  intro h5 tk5 vd hvd I5
  have hd : (wrongN ln x bs k = [] ∧ ∃ t, vd = .int ((e + ln k : Nat) : Int) t) ∨ ∃ j r t, wrongN ln x bs k = j :: r ∧ vd = .str (foundS (chOf x j) (ln k) (cl j)) t := by
    rcases hvd with ⟨a, b⟩ | b
    · exact .inl ⟨a, te, by rw [b]; congr 1⟩
    · exact .inr b
  refine execs_part 10 1 (rowT6 (p := k + ln k - 1) (tp := ts) G X I5 (by rw [← a4]; with_unfolding_all rfl) (by with_unfolding_all rfl) (by omega) ins htb hbs (fun v hv => l.due hk he he2 hsl hsame h4 (fun q => by cases q) hd hv) ?_)
  intro h6 tk6 ca6 oc6 ps6 I6
  refine execs_part 11 1 (rowT7 (lines := lines) (tl := tl) G X I6 (by rw [← a2]; with_unfolding_all rfl) (by with_unfolding_all rfl) ?_)
  intro h7 tk7 vd' hvd' I7
  refine execs_part 12 1 (rowT8 (p := k + ln k - 1) (tp := ts) G X I7 (by rw [← a4]; with_unfolding_all rfl) (by with_unfolding_all rfl) (by omega) ins htb hbs (fun v hv => ?_) ?_)
  · rcases hvd' with ⟨q, t, rfl⟩ | ⟨q, rfl⟩
    · exact l.due_eof hk he he2 hsl h4 (by lia) hv
    · exact l.due hk he he2 hsl hsame h4 (fun _ => by omega) hd hv
  intro h8 tk8 ca8 oc8 ps8 I8
  refine execs_part 13 1 (rowT9 (en := e + ln k) (te := te) (k := k) (tk1 := tk1) (lines := lines) (tl := tl) (cl := cl k) (tcl := tb) (zn := sameN ln x.length k) G X I8 (by rw [← a2]; with_unfolding_all rfl) (by with_unfolding_all rfl) (by rw [← a1]; with_unfolding_all rfl) (by with_unfolding_all rfl) (by rw [← a3]; with_unfolding_all rfl) (.tail _ (.head _)) nzs (by omega) (by omega) (by omega) (by omega) (by omega) (fun q1 q2 => ?_) ?_)
  · have hek : e = k := by
      rw [hsame] at q1
      have := congrArg List.length q1
      simp at this
      omega
    subst hek
    rcases h4 with ⟨_, z⟩ | ⟨z, z2, _⟩
    · lia
    · exact l.sfx_end z (by lia)
  intro h9 tk9 ca9 oc9 ps9 I9
  rw [loopBody_end]
  refine wpAny_execs_nil (hQ _ _ _ _ _ _ _ (I9.less (objs' := objs) fun q hq => .tail _ (.tail _ hq)) ?_)
  rw [← a2]
  with_unfolding_all rfl
end Mine
namespace Mine
local macro_rules | `(tactic| omega) => `(tactic| lia)
theorem RowInv.caNe {gb hc : Heap} {outer : List Env} {L : Addr} {h : Heap} {m : Str → Option Value} {c1 c2 c3 c4 c5 c6 c7 c8 : Option Value} {objs : List (Addr × Obj)} {ca : Addr} {oc : Obj} {ps : Array Value}
    (I : RowInv gb hc outer L h m c1 c2 c3 c4 c5 c6 c7 c8 objs ca oc ps) {b : Addr} {x y z : Int} (hb : IsRangeIter h b x y z) (h36 : b ≠ 36) : b ≠ ca := fun e => by
  rcases I.tb.2 with ⟨_, q, _⟩ | ⟨_, _, vs, t, q, q'⟩
  · exact h36 (e.trans q)
  · have hb' : h.get? b = _ := hb
    rw [e, I.hca] at hb'
    cases hb'
    cases q
    cases q'
/-- between two turns of the loop over the signs -/
inductive LoopI (gb hc : Heap) (outer : List Env) (L : Addr) (gs : Array GenState) (dr : Drawn) (os : OsState) (c2 c3 c4 c5 c6 c7 c8 : Option Value) (objs : List (Addr × Obj)) (lines : Value) (N i0 : Nat) (n : Nat) (s : Shared) : Prop
  | mk : ∀ i h m c1 ca oc ps tk, (s = ⟨h, gs, dr, tk, os⟩) → (i + n = N + 1) → (i ≤ N) → (RowInv gb hc outer L h m c1 c2 c3 c4 c5 c6 c7 c8 objs ca oc ps) → (m (Str.ofString "lines") = some lines) → (IsRangeIter h i0 (0 + ((i : Nat) : Int) * 1) (((N : Nat) : Int) - ((i : Nat) : Int)) 1) → LoopI gb hc outer L gs dr os c2 c3 c4 c5 c6 c7 c8 objs lines N i0 n s
set_option maxRecDepth 100000 in
set_option maxHeartbeats 4000000 in
theorem rowF {w : World} {mg mb : Str → Option Value} {loose : List Str} {mean : ExcName → Option Value} {gb : Heap} (G : Gd w mg mb loose mean gb)
    {hc : Heap} {outer : List Env} {L : Addr} {gd : Option (List Code)} {h : Heap} {gs : Array GenState} {dr : Drawn} {tk : Nat} {os : OsState} {Q : Flow → Shared → Prop} {E : Value → Shared → Prop} {m : Str → Option Value} {c1 c4 c5 c6 : Option Value} {ca : Addr} {oc : Obj} {ps : Array Value} {x tx bs : Str} {tt t1 t2 : Tok}
    {objs : List (Addr × Obj)} {D : Addr} {pl : List Int} {en : Bool} {lines : Nat} {tl : Tok} {ln cl : Nat → Nat}
    (X : RowCx gb hc outer L) (I : RowInv gb hc outer L h m c1 (some (.ref D)) (some (.str tx tt)) c4 c5 c6 (some (.str bs t2)) (some (.str x t1)) objs ca oc ps)
    (hml : m (Str.ofString "lines") = some (.int (lines : Int) tl))
    (l : Laid x tx ln cl) (hn : x.length < 50) (hxb : ∀ c ∈ x.cps.toList, c < 16 ^ 8) (htb : ∀ c ∈ tx.cps.toList, c < 16 ^ 8) (hbs : bs.cps.size < 1000)
    (hD : PlacesAt objs D pl en x.length) (hp : ∀ j, j < x.length → placeOf pl en j = ((ln j : Int), (cl j : Int))) (hlines : lines = ln (x.length - 1))
    (hQ : ∀ h' tk' m' c1 c2 c3 c4 c5 c6 c7 c8 ca oc ps, RowInv gb hc outer L h' m' c1 c2 c3 c4 c5 c6 c7 c8 [] ca oc ps → Q (.ret (.bool true)) ⟨h', gs, dr, tk', os⟩) :
    wpAny (model PySem.Challenge.rw_ny0036_01.row.prog w) ((Ax 370 800 none (some outer) gd).deeper (rowEnv w.params L)) (execs ((rowBody w.params).drop 9) (rowEnv w.params L)) Q E ⟨h, gs, dr, tk, os⟩ := by
  w_top off
  k_with_none
  k_with "pyIter ref" => refine' hold ?_
  have l36 := X.lt36
  have caL := I.caL X
  have hlen : tx.length < 200 := by have := l.len; have := l.lo (x.length - 1) (by have := l.x0; lia); lia
  refine execs_part 9 1 (wpAny_mono (Q := fun f s' => f = .next ∧ ∃ h m c1 ca oc ps tk, s' = ⟨h, gs, dr, tk, os⟩ ∧ RowInv gb hc outer L h m c1 (some (.ref D)) (some (.str tx tt)) c4 c5 c6 (some (.str bs t2)) (some (.str x t1)) objs ca oc ps) (E := E) ?_ ?_ (fun _ _ q => q))
  rotate_left
  · rintro f s' ⟨rfl, h5, m5, c15, ca5, oc5, ps5, tk5, rfl, I5⟩
    exact rowE G X (I5.less (objs' := []) fun _ q => nomatch q) (by lia) hQ
  obtain ⟨h₀, o1, o2, o3, o4, o5, o6, o7, o8, st₀, F, N, e1, e2, e3, e4, e5, e6, e7, e8, htl, hsup, back⟩ := RowInv.open (front := []) X I
  obtain ⟨X₀, T₀, C₀⟩ := G.keeps st₀
  revert X₀; k_fill; intro X₀
  conv => pattern (List.drop _ _); whnf
  simp only [List.take_succ_cons, List.take_zero]
  unfold rowEnv
  conv => pattern (rowScope _); whnf
  conv => pattern (rowScope _); whnf
  dsimp only [rowLed, List.cons_append, List.nil_append] at N
  refine wpAny_execs_cons (wpAny_mono (Q := fun f s' => f = .next ∧ ∃ h m c1 ca oc ps tk, s' = ⟨h, gs, dr, tk, os⟩ ∧ RowInv gb hc outer L h m c1 (some (.ref D)) (some (.str tx tt)) c4 c5 c6 (some (.str bs t2)) (some (.str x t1)) objs ca oc ps) (E := E) ?_ ?_ (fun _ _ q => q))
  rotate_left
  · rintro f s' ⟨rfl, q⟩
    exact wpAny_execs_nil ⟨rfl, q⟩
  refine wpAny_For ?_ (fun _ => by with_unfolding_all rfl)
  walk_at "go"
  (rename News _ _ _ _ => N2); (rename Fr _ _ _ _ => F2); (rename IsRange _ _ _ _ _ _ _ _ => hr)
  rename_i h2 tk2 _ _ _ k2
  have I2 := back _ _ [] _ _ _ _ _ _ _ _ _ _ _ _ _ _ _ _ F2 N2 (fun _ q => nomatch q) ⟨e1, e2, e3, e4, e5, e6, e7, e8⟩
  simp only [List.nil_append] at I2
  have LL2 : @LT.lt Nat _ (L + 8) h2.objs.size := by obtain ⟨o, q, _⟩ := I2.d1; exact Heap.lt_size q
  have ob2 : ∀ q ∈ objs, @LT.lt Nat _ q.1 h2.objs.size := fun q hq => Heap.lt_size (I2.objs q hq).1
  clear F2 N2 back htl hsup X₀ T₀ C₀
  refine range_go hr (by lia) (by lia) (by lia) (by lia) fun h3 k3 s3 it3 => ?_
  have I3 := I2.ext k3
  clear I2 k3
  dsimp only
  generalize h2.objs.size = i0 at *
  rw [show ((x.length : Int) - 0).toNat = x.length by lia] at it3
  refine forBy (LoopI gb hc outer L gs dr os (some (.ref D)) (some (.str tx tt)) c4 c5 c6 (some (.str bs t2)) (some (.str x t1)) objs (.int (lines : Int) tl) x.length i0) ?_ (x.length + 1) ?_ (fun _ => rfl)
  rotate_left
  · exact ⟨0, h3, m, c1, ca, oc, ps, _, rfl, by lia, by lia, I3, hml, it3⟩
  rintro R' hR n s ⟨i, h4, m4, c14, ca4, oc4, ps4, tk4, rfl, hin, hil, I4, hml4, it4⟩
  have ne4 : i0 ≠ ca4 := I4.caNe it4 (Nat.ne_of_gt (by lia))
  have W := (Walks.range (prog := PySem.Challenge.rw_ny0036_01.row.prog) (w := w) (A := (Ax 370 800 none (some outer) gd).deeper (rowEnv w.params L)) rfl i0 0 1 x.length)
  have hW : ∀ b ∈ [i0], @LT.lt Nat _ (L + 8) b ∧ b ≠ ca4 ∧ ∀ q ∈ objs, q.1 ≠ b := fun b hb => by rw [List.mem_singleton.mp hb]; exact ⟨LL2, ne4, fun q hq => Nat.ne_of_lt (ob2 q hq)⟩
  by_cases hlt : i < x.length
  · refine W.item i _ _ _ hlt it4 fun v h5 tk5 hv it5 k5 => ?_
    obtain ⟨tv, rfl⟩ := hv
    have I5 := I4.but X k5 hW
    refine wpAny_assign_Name (wpAny_storeName_local (by with_unfolding_all rfl) I5.ns (fun h6 hn6 hs6 => ?_) (by with_unfolding_all rfl))
    have I6 := I5.set X (W := []) hn6 (fun b o hb _ e => hs6.extBut b o hb e) (fun _ q => nomatch q)
    have it6 := hs6.extBut i0 _ (by show i0 ≠ L; exact Nat.ne_of_gt (by lia)) it5
    have I7 := I6.more (objs' := (i0, _) :: objs) (fun q hq => by
      rcases List.mem_cons.mp hq with rfl | hq
      · exact .inr ⟨it6, X.own LL2⟩
      · exact .inl hq)
    have PA : ∀ oo, PlacesAt ((i0, oo) :: objs) D pl en x.length := fun oo => by
      obtain ⟨dv, c, q1, q2, q3⟩ := hD
      exact ⟨dv, c, .tail _ q1, q2, fun j hj => by obtain ⟨a, t, t', b1, b2⟩ := q3 j hj; exact ⟨a, t, t', b1, .tail _ b2⟩⟩
    dsimp only
    refine rowTurn (k := i) (tk1 := tv) (lines := lines) (tl := tl) G X I7 ?_ ?_ l hn hxb htb hbs (PA _) hp hlt hlines ?_
    · show (if Str.ofString "k" = Str.ofString "k" then some (Value.int (0 + (i : Int) * 1) tv) else m4 (Str.ofString "k")) = _
      rw [if_pos rfl, show (0 + (i : Int) * 1) = (i : Int) by lia]
    · rw [← hml4]; with_unfolding_all rfl
    · intro h8 tk8 m8 ta8 ca8 oc8 ps8 I8 hml8
      exact ⟨n - 1, by lia, i + 1, h8, m8, _, ca8, oc8, ps8, tk8, rfl, by lia, by lia, I8.less (fun q hq => .tail _ hq), hml8, (I8.objs _ (.head _)).1⟩
  · have hie : i = x.length := by lia
    subst hie
    refine W.done _ _ _ it4 fun h5 tk5 k5 => ?_
    exact wpAny_execs_nil (hR _ _ ⟨rfl, h5, m4, c14, ca4, oc4, ps4, tk5, rfl, I4.but X k5 hW⟩)
end Mine
namespace Mine
local macro_rules | `(tactic| omega) => `(tactic| lia)
set_option maxRecDepth 100000 in
set_option maxHeartbeats 4000000 in
theorem rowB1 {w : World} {mg mb : Str → Option Value} {loose : List Str} {mean : ExcName → Option Value} {gb : Heap} (G : Gd w mg mb loose mean gb)
    {hc : Heap} {outer : List Env} {L : Addr} {gd : Option (List Code)} {h : Heap} {gs : Array GenState} {dr : Drawn} {tk : Nat} {os : OsState} {Q : Flow → Shared → Prop} {E : Value → Shared → Prop} {m : Str → Option Value} {c1 c2 c3 c4 c5 c6 c7 : Option Value} {ca : Addr} {oc : Obj} {ps : Array Value} {objs : List (Addr × Obj)}
    {x : Str} {t1 : Tok} {row : Addr} {vs : List Value} {ns : List Int} {told : List Int} {lines : List Str} {left : Str}
    (X : RowCx gb hc outer L) (I : RowInv gb hc outer L h m c1 c2 c3 c4 c5 c6 c7 (some (.str x t1)) objs ca oc ps)
    (hm : m (Str.ofString "row") = some (.ref row)) (hl : hc.IsList row vs.toArray) (hi : IntsAre vs ns) (hx : x.length ≤ 100) (hns : ∀ y ∈ ns, 0 ≤ y ∧ y < 1000) (hn0 : ns[0]? ≠ some 0) (hrow : row ≠ 36 ∧ row ∉ frs outer) (hgo : typedGo ns 42 0 [] [] x = (told, lines, left))
    (hQ : ∀ h' gs' tk' T tv cT tx, IntsAre tv told → Own hc L T → ((∀ g ∈ gs, g.bare = true) → ∀ g ∈ gs', g.bare = true) →
      RowInv gb hc outer L h' (fun y => if y = Str.ofString "told" then some (.ref T) else m y) c1 c2 (some (.str (Txt.join (Str.ofString "\n") (lines ++ if left != Str.ofString "" then [left] else [])) tx)) c4 c5 c6 c7 (some (.str x t1)) ((T, W.listOf tv.toArray cT) :: objs) ca oc ps → Q .next ⟨h', gs', dr, tk', os⟩) :
    wpAny (model PySem.Challenge.rw_ny0036_01.row.prog w) ((Ax 370 800 none (some outer) gd).deeper (rowEnv w.params L)) (execs (((rowBody w.params).drop 4).take 1) (rowEnv w.params L)) Q E ⟨h, gs, dr, tk, os⟩ := by
  w_top off
  k_with_none
  k_with "call ref" => refine' hold ?_
  k_with "storeName str" => ((rename Fr _ _ _ _ => sF); (rename News _ _ _ _ => sN); (refine' storeRow sF sN ?hk ?hx ?hc ?U ?hd ?_; (case hk => rfl); (case hx => with_unfolding_all rfl); (case hc => with_unfolding_all rfl); (case U => k_updF); (case hd => assumption)); (clear sF sN); intro _ _ _ _ _)
  have l36 := X.lt36
  have caL := I.caL X
  have I1 := I.map (map_one hm)
  obtain ⟨h₀, o1, o2, o3, o4, o5, o6, o7, o8, st₀, F, N, e1, e2, e3, e4, e5, e6, e7, e8, htl, hsup, back⟩ := RowInv.open (front := []) X I1
  obtain ⟨X₀, T₀, C₀⟩ := G.keeps st₀
  revert X₀; k_fill; intro X₀
  conv => pattern (List.drop _ _); whnf
  simp only [List.take_succ_cons, List.take_zero]
  unfold rowEnv
  conv => pattern (rowScope _); whnf
  conv => pattern (rowScope _); whnf
  dsimp only [rowLed, List.cons_append, List.nil_append] at N
  walk_at "go"
  clear F N back X₀ T₀ C₀ htl hsup
  have hl' : h.IsList row vs.toArray := by
    obtain ⟨o, ho, r⟩ := hl
    exact ⟨o, (I.up row o ho (by simpa using hrow.1)).1 hrow.2, r⟩
  have rL : @LT.lt Nat _ row L := by obtain ⟨o, ho, _⟩ := hl; rw [X.eL]; exact Heap.lt_size ho
  refine typed (ns := ns) (vs := vs) G (Nat.le_of_ble_eq_true rfl) (Nat.le_of_ble_eq_true rfl) rfl rfl (I1.ok X rfl rfl) (fun b hb => ⟨(I1.fb X rfl b hb).1, ?_⟩) (I1.stays X) hl' hi hx hns ?_ (fun z => absurd z hn0)
  · rw [frs_cons rfl] at hb
    rcases List.mem_cons.mp hb with rfl | hb
    · exact Nat.ne_of_gt rL
    · exact fun z => hrow.2 (z ▸ hb)
  intro _ h5 gs5 tk5 a T tv cT tx told' lines' left' hgo' htv k5 ha hT hTa hga hgT bare
  rw [hgo] at hgo'
  cases hgo'
  have oa := I1.fresh ha
  have oT := I1.fresh hT
  have oa2 := oa.2
  have oT2 := oT.2
  have I5 := (I1.ext k5).more (objs' := [(a, _), (T, _)] ++ objs) (fun q hq => by
    simp only [List.cons_append, List.nil_append, List.mem_cons] at hq
    rcases hq with rfl | rfl | hq
    · exact .inr ⟨hga, oa⟩
    · exact .inr ⟨hgT, oT⟩
    · exact .inl hq)
  obtain ⟨h₀, o1, o2, o3, o4, o5, o6, o7, o8, st₀, F, N, e1, e2, e3, e4, e5, e6, e7, e8, htl, hsup, back⟩ := RowInv.open X I5
  obtain ⟨X₀, T₀, C₀⟩ := G.keeps st₀
  dsimp only [rowLed, List.cons_append, List.nil_append] at N
  walk_at "go"
  (rename News _ _ _ _ => N9); (rename Fr _ _ _ _ => F9); (rename Obj.data _ = Data.cell (some (Value.str _ tx)) => e3')
  have I9 := (back _ _ [_, _] _ _ _ _ _ _ _ _ _ _ _ _ _ _ _ _ F9 N9 (fun q hq => by
    simp only [List.mem_cons, List.not_mem_nil, or_false] at hq
    rcases hq with rfl | rfl
    · exact oa
    · exact oT) ⟨e1, e2, e3', e4, e5, e6, e7, e8⟩).less (objs' := (T, W.listOf tv.toArray cT) :: objs) (fun q hq => .tail _ hq)
  refine hQ _ _ _ T tv cT tx htv oT bare (I9.map fun y => ?_)
  rw [← map_one hm y]
/-- the places so far -/
inductive UP (gb hc : Heap) (outer : List Env) (L : Addr) (m : Str → Option Value) (c1 c2 c3 c4 c5 c6 c7 c8 : Option Value) (objs : List (Addr × Obj)) (ca : Addr) (oc : Obj) (ps : Array Value) (pl : List Int) (en : Bool) (i0 : Nat) (i : Nat) (ys : List Value) (h : Heap) : Prop
  | mk : (ys.length = i) → ∀ tups, (RowInv gb hc outer L h m c1 c2 c3 c4 c5 c6 c7 c8 (tups ++ objs) ca oc ps) → ((∀ q ∈ tups, q.1 ≠ i0 ∧ q.1 ≠ i0 + 1 ∧ q.1 ≠ i0 + 2)) → (∀ j, j < i → ∃ a ta tb, ys[j]? = some (.ref a) ∧ (a, ({ cls := .type "tuple", data := .seq #[.int (placeOf pl en j).1 ta, .int (placeOf pl en j).2 tb] } : Obj)) ∈ tups) → UP gb hc outer L m c1 c2 c3 c4 c5 c6 c7 c8 objs ca oc ps pl en i0 i ys h
set_option maxRecDepth 100000 in
set_option maxHeartbeats 4000000 in
theorem rowB2 {w : World} {mg mb : Str → Option Value} {loose : List Str} {mean : ExcName → Option Value} {gb : Heap} (G : Gd w mg mb loose mean gb)
    {hc : Heap} {outer : List Env} {L : Addr} {gd : Option (List Code)} {h : Heap} {gs : Array GenState} {dr : Drawn} {tk : Nat} {os : OsState} {Q : Flow → Shared → Prop} {E : Value → Shared → Prop} {m : Str → Option Value} {c1 c2 c3 c5 c7 : Option Value} {ca : Addr} {oc : Obj} {ps : Array Value} {objs : List (Addr × Obj)}
    {x : Str} {t1 : Tok} {P : Addr} {pv : List Value} {cP : Nat} {pl : List Int} {en : Bool}
    (X : RowCx gb hc outer L) (I : RowInv gb hc outer L h m c1 c2 c3 (some (.bool en)) c5 (some (.ref P)) c7 (some (.str x t1)) objs ca oc ps)
    (hP : (P, W.listOf pv.toArray cP) ∈ objs) (hi : IntsAre pv pl) (hn : x.length < 100) (hne : en = true → 0 < pl.length ∧ 0 < pl.getD ((-1 : Int) + (pl.length : Int)).toNat 0 ∧ pl.getD ((-1 : Int) + (pl.length : Int)).toNat 0 < 1000) (hsz : pl.length < 100)
    (hQ : ∀ h' tk' D objs', PlacesAt objs' D pl en x.length → (∀ q ∈ objs, q ∈ objs') →
      RowInv gb hc outer L h' m c1 (some (.ref D)) c3 (some (.bool en)) c5 (some (.ref P)) c7 (some (.str x t1)) objs' ca oc ps → Q .next ⟨h', gs, dr, tk', os⟩) :
    wpAny (model PySem.Challenge.rw_ny0036_01.row.prog w) ((Ax 370 800 none (some outer) gd).deeper (rowEnv w.params L)) (execs (((rowBody w.params).drop 5).take 1) (rowEnv w.params L)) Q E ⟨h, gs, dr, tk, os⟩ := by
  w_top off
  k_with_none
  k_with "call ref" => refine' hold ?_
  k_with "storeName str" => ((rename Fr _ _ _ _ => sF); (rename News _ _ _ _ => sN); (refine' storeRow sF sN ?hk ?hx ?hc ?U ?hd ?_; (case hk => rfl); (case hx => with_unfolding_all rfl); (case hc => with_unfolding_all rfl); (case U => k_updF); (case hd => assumption)); (clear sF sN); intro _ _ _ _ _)
  k_with "eval ListComp" => refine' hold ?_
  k_with "pyIter ref" => refine' hold ?_
  k_with "storeName ref" => ((rename Fr _ _ _ _ => sF); (rename News _ _ _ _ => sN); (refine' storeRow sF sN ?hk ?hx ?hc ?U ?hd ?_; (case hk => rfl); (case hx => with_unfolding_all rfl); (case hc => with_unfolding_all rfl); (case U => k_updF); (case hd => assumption)); (clear sF sN); intro _ _ _ _ _)
  have l36 := X.lt36
  have caL := I.caL X
  obtain ⟨h₀, o1, o2, o3, o4, o5, o6, o7, o8, st₀, F, N, e1, e2, e3, e4, e5, e6, e7, e8, htl, hsup, back⟩ := RowInv.open (front := []) X I
  obtain ⟨X₀, T₀, C₀⟩ := G.keeps st₀
  revert X₀; k_fill; intro X₀
  conv => pattern (List.drop _ _); whnf
  simp only [List.take_succ_cons, List.take_zero]
  unfold rowEnv
  conv => pattern (rowScope _); whnf
  conv => pattern (rowScope _); whnf
  dsimp only [rowLed, List.cons_append, List.nil_append] at N
  walk_at "go"
  refine' compBy ?hclos ?hcell ?hkind ?hnames ?hx ?_ ?hs
  case hclos => with_unfolding_all rfl
  case hcell => decide
  case hkind => rfl
  case hnames => decide
  case hx => with_unfolding_all rfl
  case hs => intro _; with_unfolding_all rfl
  walk_at "go"
  (rename News _ _ _ _ => N2); (rename Fr _ _ _ _ => F2); (rename IsRange _ _ _ _ _ _ _ _ => hr)
  rename_i h2 tk2 _ _ _ k2
  have I2 := back _ _ [] _ _ _ _ _ _ _ _ _ _ _ _ _ _ _ _ F2 N2 (fun _ q => nomatch q) ⟨e1, e2, e3, e4, e5, e6, e7, e8⟩
  simp only [List.nil_append] at I2
  have caL2 : @LT.lt Nat _ ca h2.objs.size := Heap.lt_size I2.hca
  have LL2 : @LT.lt Nat _ (L + 8) h2.objs.size := by obtain ⟨o, q, _⟩ := I2.d1; exact Heap.lt_size q
  have ob2 : ∀ q ∈ objs, @LT.lt Nat _ q.1 h2.objs.size := fun q hq => Heap.lt_size (I2.objs q hq).1
  clear F2 N2 back htl hsup X₀ T₀ C₀
  refine range_go hr (by lia) (by lia) (by lia) (by lia) fun h3 k3 s3 it3 => ?_
  have I3 := I2.ext k3
  clear I2 k3
  dsimp only
  generalize h2.objs.size = i0 at *
  refine ⟨i0 + 1, s3, i0, [i0], [i0], ((x.length : Int) - 0).toNat, _, _, rfl, Walks.range rfl i0 0 1 _, ?_, it3, fun b hb => by rw [List.mem_singleton.mp hb]; exact Nat.lt_succ_self _, UP gb hc outer L m c1 c2 c3 (some (.bool en)) c5 (some (.ref P)) c7 (some (.str x t1)) objs ca oc ps pl en i0, ⟨rfl, [], I3, (fun _ q => nomatch q), fun j hj => absurd hj (Nat.not_lt_zero _)⟩, ?_, ?_, ?_⟩
  · have := sizeLine_eq; lia
  · rintro i ys h h' ⟨el, tups, I', ht, hy⟩ k
    refine ⟨el, tups, I'.but X (W := [i0, i0 + 1, i0 + 2]) (fun b o nb q => k b o ?_ ?_ ?_ q) (fun b hb => ?_), ht, hy⟩
    · simp only [List.mem_cons, List.not_mem_nil, or_false, not_or] at nb ⊢; exact nb.1
    · simp only [List.mem_cons, List.not_mem_nil, or_false, not_or] at nb; exact nb.2.1
    · simp only [List.mem_cons, List.not_mem_nil, or_false, not_or] at nb; exact nb.2.2
    · have nt : ∀ d : Nat, d < 3 → ∀ q ∈ tups ++ objs, q.1 ≠ i0 + d := fun d hd q hq => by
        rcases List.mem_append.mp hq with hq | hq
        · have := ht q hq
          match d, hd with
          | 0, _ => exact this.1
          | 1, _ => exact this.2.1
          | 2, _ => exact this.2.2
        · exact Nat.ne_of_lt (Nat.lt_of_lt_of_le (ob2 q hq) (Nat.le_add_right _ _))
      simp only [List.mem_cons, List.not_mem_nil, or_false] at hb
      rcases hb with rfl | rfl | rfl
      · exact ⟨LL2, Nat.ne_of_gt caL2, nt 0 (by decide)⟩
      · exact ⟨by lia, Nat.ne_of_gt (by lia), nt 1 (by decide)⟩
      · exact ⟨by lia, Nat.ne_of_gt (by lia), nt 2 (by decide)⟩
  · rintro i ys v ⟨h4, gs4, dr4, tk4, os4⟩ m4 E' hlt ⟨tv, rfl⟩ ⟨el, tups, I', ht, hy⟩ hyl hpl hst hns hmk rfl rfl rfl
    obtain ⟨h₀', p1, p2, p3, p4, p5, p6, p7, p8, st', F', N', f1, f2, f3, f4, f5, f6, f7, f8, htl', hsup', back'⟩ := RowInv.open (front := []) X I'
    obtain ⟨X', T', C'⟩ := G.keeps st'
    dsimp only [rowLed, List.cons_append, List.nil_append] at N'
    dsimp only at hns F' N' ⊢
    refine wpAny_pure ?_
    rw [if_pos rfl]
    walk_at "go"
    rw [show (0 + (i : Int) * 1) = (i : Int) by lia]
    refine place G (Nat.le_of_ble_eq_true rfl) (Nat.le_of_ble_eq_true rfl) rfl (I'.stays X) ⟨_, (I'.objs _ (List.mem_append_right _ hP)).1, rfl, _, rfl⟩ hi hne hsz ?_
    intro h5 tk5 a ta tb k5 ha hga
    try k_unfold
    have na : ∀ b, (∃ o, h4.get? b = some o) → a ≠ b := fun b ⟨o, q⟩ z => by rw [z, q] at ha; cases ha
    have n0 : a ≠ i0 := na i0 ⟨_, hst⟩
    have n1 : a ≠ i0 + 1 := by obtain ⟨n, q⟩ := hpl; exact na _ ⟨_, q⟩
    have n2 : a ≠ i0 + 2 := by obtain ⟨o, _, _, q, _⟩ := hns; exact na _ ⟨_, q⟩
    have oa := I'.fresh ha
    refine ⟨⟨h5, _, rfl, fun b _ o q => k5 b o q⟩, by simp [el], (a, { cls := .type "tuple", data := .seq #[.int (placeOf pl en i).1 ta, .int (placeOf pl en i).2 tb] }) :: tups, (I'.ext k5).more (fun q hq => ?_), fun q hq => ?_, fun j hj => ?_⟩
    · rw [List.cons_append] at hq
      rcases List.mem_cons.mp hq with rfl | hq
      · exact .inr ⟨hga, oa⟩
      · exact .inl hq
    · rcases List.mem_cons.mp hq with rfl | hq
      · exact ⟨n0, n1, n2⟩
      · exact ht q hq
    · rcases Nat.lt_succ_iff_lt_or_eq.mp hj with z | z
      · obtain ⟨a', ta', tb', q1, q2⟩ := hy j z
        exact ⟨a', ta', tb', by rw [List.getElem?_append_left (by lia)]; exact q1, .tail _ q2⟩
      · subst z
        refine ⟨a, ta, tb, ?_, .head _⟩
        rw [List.getElem?_append_right (by lia), el, Nat.sub_self]
        rfl
  · rintro h4 tk4 ys ⟨el, tups, I', ht, hy⟩ hyl hpl
    obtain ⟨n, hpl⟩ := hpl
    have oD := X.own (b := i0 + 1) (by lia)
    have I6 := I'.more (objs' := [(i0 + 1, { cls := .type "list", data := .seq ys.toArray n })] ++ (tups ++ objs)) (fun q hq => by
      rcases List.mem_append.mp hq with hq | hq
      · rw [List.mem_singleton.mp hq]; exact .inr ⟨hpl, oD⟩
      · exact .inl hq)
    have caL' := I'.caL X
    obtain ⟨h₀', p1, p2, p3, p4, p5, p6, p7, p8, st', F', N', f1, f2, f3, f4, f5, f6, f7, f8, htl', hsup', back'⟩ := RowInv.open X I6
    obtain ⟨X', T', C'⟩ := G.keeps st'
    dsimp only [rowLed, List.cons_append, List.nil_append] at N'
    walk_at "go"
    (rename News _ _ _ _ => N9); (rename Fr _ _ _ _ => F9); (rename Obj.data _ = Data.cell (some (Value.ref (i0 + 1))) => e2')
    have I9 := back' _ _ [_] _ _ _ _ _ _ _ _ _ _ _ _ _ _ _ _ F9 N9 (fun q hq => by rw [List.mem_singleton.mp hq]; exact oD) ⟨f1, e2', f3, f4, f5, f6, f7, f8⟩
    refine hQ _ _ (i0 + 1) _ ⟨ys, n, .head _, by lia, fun j hj => ?_⟩ (fun q hq => .tail _ (List.mem_append_right _ hq)) I9
    obtain ⟨a', ta', tb', q1, q2⟩ := hy j (by lia)
    exact ⟨a', ta', tb', q1, .tail _ (List.mem_append_left _ q2)⟩
end Mine
namespace Mine
local macro_rules | `(tactic| omega) => `(tactic| lia)
set_option maxRecDepth 100000 in
set_option maxHeartbeats 4000000 in
theorem rowB3 {w : World} {mg mb : Str → Option Value} {loose : List Str} {mean : ExcName → Option Value} {gb : Heap} (G : Gd w mg mb loose mean gb)
    {hc : Heap} {outer : List Env} {L : Addr} {gd : Option (List Code)} {h : Heap} {gs : Array GenState} {dr : Drawn} {tk : Nat} {os : OsState} {Q : Flow → Shared → Prop} {E : Value → Shared → Prop} {m : Str → Option Value} {c1 c3 c5 c7 c8 : Option Value} {ca : Addr} {oc : Obj} {ps : Array Value} {objs : List (Addr × Obj)}
    {P D : Addr} {pv : List Value} {cP : Nat} {pl : List Int} {en : Bool} {n lines : Nat}
    (X : RowCx gb hc outer L) (I : RowInv gb hc outer L h m c1 (some (.ref D)) c3 (some (.bool en)) c5 (some (.ref P)) c7 c8 objs ca oc ps)
    (hP : (P, W.listOf pv.toArray cP) ∈ objs) (hi : IntsAre pv pl) (hn : n < 100) (hn0 : 0 < n) (hsz : pl.length < 100) (hD : PlacesAt objs D pl en n) (hlines : (placeOf pl en ((n - 1 : Nat) : Int)).1 = (lines : Int)) (hl2 : lines < 1000)
    (hQ : ∀ h' tk' tl ta, RowInv gb hc outer L h' (fun y => if y = Str.ofString "asked" then some (.int ((if en then lines else min lines pl.length : Nat) : Int) ta) else if y = Str.ofString "lines" then some (.int (lines : Int) tl) else m y) c1 (some (.ref D)) c3 (some (.bool en)) c5 (some (.ref P)) c7 c8 objs ca oc ps → Q .next ⟨h', gs, dr, tk', os⟩) :
    wpAny (model PySem.Challenge.rw_ny0036_01.row.prog w) ((Ax 370 800 none (some outer) gd).deeper (rowEnv w.params L)) (execs (((rowBody w.params).drop 6).take 2) (rowEnv w.params L)) Q E ⟨h, gs, dr, tk, os⟩ := by
  w_top off
  k_with_none
  k_with "subscriptTail Name UnaryOp ref int" => ((rename News _ _ _ _ => sN); (refine' item_last (News.isList sN (.head _)) (by assumption) (by assumption) ?_ ?hs); (case hs => with_unfolding_all rfl))
  have l36 := X.lt36
  have caL := I.caL X
  obtain ⟨dv, cD, mD, hdl, hdk⟩ := hD
  obtain ⟨a, ta, tb, hdv, ma⟩ := hdk (n - 1) (by lia)
  have hdv' : dv[dv.length - 1]? = some (.ref a) := by rw [hdl]; exact hdv
  have hd0 : 0 < dv.length := by lia
  have oma := (I.objs _ ma).2
  rw [hlines] at ma
  have I1 := I.less (objs' := [(D, _), (a, _), (P, _)] ++ objs) (fun q hq => by
    simp only [List.cons_append, List.nil_append, List.mem_cons] at hq
    rcases hq with rfl | rfl | rfl | hq
    · exact mD
    · exact ma
    · exact hP
    · exact hq)
  obtain ⟨h₀, o1, o2, o3, o4, o5, o6, o7, o8, st₀, F, N, e1, e2, e3, e4, e5, e6, e7, e8, htl, hsup, back⟩ := RowInv.open X I1
  obtain ⟨X₀, T₀, C₀⟩ := G.keeps st₀
  revert X₀; k_fill; intro X₀
  conv => pattern (List.drop _ _); whnf
  simp only [List.take_succ_cons, List.take_zero]
  unfold rowEnv
  conv => pattern (rowScope _); whnf
  conv => pattern (rowScope _); whnf
  dsimp only [rowLed, List.cons_append, List.nil_append] at N
  have own3 : ∀ q ∈ [(D, W.listOf dv.toArray cD), (a, { cls := .type "tuple", data := .seq #[.int (lines : Int) ta, .int (placeOf pl en ((n - 1 : Nat) : Int)).2 tb] }), (P, W.listOf pv.toArray cP)], Own hc L q.1 := fun q hq => by
    simp only [List.mem_cons, List.not_mem_nil, or_false] at hq
    rcases hq with rfl | rfl | rfl
    · exact (I.objs _ mD).2
    · exact oma
    · exact (I.objs _ hP).2
  cases en with
  | true =>
    walk_at "go"
    (rename News _ _ _ _ => N9); (rename Fr _ _ _ _ => F9)
    exact hQ _ _ ta ta ((back _ _ [_, _, _] _ _ _ _ _ _ _ _ _ _ _ _ _ _ _ _ F9 N9 own3 ⟨e1, e2, e3, e4, e5, e6, e7, e8⟩).less (objs' := objs) (fun q hq => List.mem_append_right _ hq))
  | false =>
    walk_at "go"
    (rename News _ _ _ _ => N9); (rename Fr _ _ _ _ => F9)
    rw [show (if ((pl.length : Nat) : Int) < (lines : Int) then ((pl.length : Nat) : Int) else (lines : Int)) = ((min lines pl.length : Nat) : Int) by split <;> lia] at F9
    exact hQ _ _ ta _ ((back _ _ [_, _, _] _ _ _ _ _ _ _ _ _ _ _ _ _ _ _ _ F9 N9 own3 ⟨e1, e2, e3, e4, e5, e6, e7, e8⟩).less (objs' := objs) (fun q hq => List.mem_append_right _ hq))
/-- the sizes asked for -/
def askedOf (pl : List Int) (n : Nat) : List Int := (List.range n).map fun j => pl.getD (min j (pl.length - 1)) 0
theorem ints_cons {a m : Int} {t : Tok} {vs : List Value} {ms : List Int} (h : IntsAre (.int a t :: vs) (m :: ms)) : a = m ∧ IntsAre vs ms := by
  cases h with
  | cons _ _ r => exact ⟨rfl, r⟩
theorem paired_map {α : Type} {c g : α → Int} (inj : ∀ a b, c a = c b → a = b) {vs ys : List Value} (p : Paired (fun v y => ∃ (a : α) (t u : Tok), v = Value.int (c a) t ∧ y = Value.int (g a) u) vs ys) : ∀ ns : List α, IntsAre vs (ns.map c) → IntsAre ys (ns.map g) := by
  induction p with
  | nil =>
    intro ns h
    cases ns with
    | nil => exact .nil
    | cons n r => cases h
  | cons q _ ih =>
    intro ns h
    obtain ⟨a, t, u, rfl, rfl⟩ := q
    cases ns with
    | nil => cases h
    | cons n r =>
      obtain ⟨e, h'⟩ := ints_cons h
      rw [inj _ _ e]
      exact .cons _ _ (ih r h')
set_option maxRecDepth 100000 in
set_option maxHeartbeats 4000000 in
theorem rowB4 {w : World} {mg mb : Str → Option Value} {loose : List Str} {mean : ExcName → Option Value} {gb : Heap} (G : Gd w mg mb loose mean gb)
    {hc : Heap} {outer : List Env} {L : Addr} {gd : Option (List Code)} {h : Heap} {gs : Array GenState} {dr : Drawn} {tk : Nat} {os : OsState} {Q : Flow → Shared → Prop} {E : Value → Shared → Prop} {m : Str → Option Value} {c1 c2 c3 c4 c5 c7 c8 : Option Value} {ca : Addr} {oc : Obj} {ps : Array Value} {objs : List (Addr × Obj)}
    {P T : Addr} {pv tv : List Value} {cP cT : Nat} {pl told : List Int} {asked : Nat} {ta : Tok}
    (X : RowCx gb hc outer L) (I : RowInv gb hc outer L h m c1 c2 c3 c4 c5 (some (.ref P)) c7 c8 objs ca oc ps)
    (hm1 : m (Str.ofString "told") = some (.ref T)) (hm2 : m (Str.ofString "asked") = some (.int (asked : Int) ta))
    (hP : (P, W.listOf pv.toArray cP) ∈ objs) (hi : IntsAre pv pl) (hT : (T, W.listOf tv.toArray cT) ∈ objs) (hit : IntsAre tv told) (ha : asked < 1000) (ha0 : 0 < asked → 0 < pl.length) (hsz : pl.length < 100) (htold : told = askedOf pl asked)
    (hQ : ∀ h' tk', RowInv gb hc outer L h' m c1 c2 c3 c4 c5 (some (.ref P)) c7 c8 objs ca oc ps → Q .next ⟨h', gs, dr, tk', os⟩) :
    wpAny (model PySem.Challenge.rw_ny0036_01.row.prog w) ((Ax 370 800 none (some outer) gd).deeper (rowEnv w.params L)) (execs (((rowBody w.params).drop 8).take 1) (rowEnv w.params L)) Q E ⟨h, gs, dr, tk, os⟩ := by
  w_top off
  k_with_none
  k_with "subscriptTail Name UnaryOp ref int" => ((rename News _ _ _ _ => sN); (refine' item_last (News.isList sN (.head _)) (by assumption) (by assumption) ?_ ?hs); (case hs => with_unfolding_all rfl))
  k_with "call builtin:min cons nil" => refine' hold ?_
  k_with "eval ListComp" => refine' hold ?_
  k_with "pyIter ref" => refine' hold ?_
  have l36 := X.lt36
  have caL := I.caL X
  let m1 : Str → Option Value := fun y => if y = Str.ofString "told" then some (.ref T) else if y = Str.ofString "asked" then some (.int (asked : Int) ta) else m y
  have hmm : ∀ y, m y = m1 y := fun y => by
    show m y = if y = Str.ofString "told" then some (.ref T) else if y = Str.ofString "asked" then some (.int (asked : Int) ta) else m y
    rw [← map_one hm2 y, ← map_one hm1 y]
  have I1 := (I.map hmm).less (objs' := [(T, _), (P, _)] ++ objs) (fun q hq => by
    simp only [List.cons_append, List.nil_append, List.mem_cons] at hq
    rcases hq with rfl | rfl | hq
    · exact hT
    · exact hP
    · exact hq)
  obtain ⟨h₀, o1, o2, o3, o4, o5, o6, o7, o8, st₀, F, N, e1, e2, e3, e4, e5, e6, e7, e8, htl, hsup, back⟩ := RowInv.open X I1
  obtain ⟨X₀, T₀, C₀⟩ := G.keeps st₀
  dsimp only [m1] at F
  revert X₀; k_fill; intro X₀
  conv => pattern (List.drop _ _); whnf
  simp only [List.take_succ_cons, List.take_zero]
  unfold rowEnv
  conv => pattern (rowScope _); whnf
  conv => pattern (rowScope _); whnf
  dsimp only [rowLed, List.cons_append, List.nil_append] at N
  have own2 : ∀ q ∈ [(T, W.listOf tv.toArray cT), (P, W.listOf pv.toArray cP)], Own hc L q.1 := fun q hq => by
    simp only [List.mem_cons, List.not_mem_nil, or_false] at hq
    rcases hq with rfl | rfl
    · exact (I.objs _ hT).2
    · exact (I.objs _ hP).2
  walk_at "go"
  refine' wpAny_ListComp_free (fun _ => true) (fun v y => ∃ (j : Nat) (t u : Tok), v = Value.int (j : Int) t ∧ y = Value.int (pl.getD (min j (pl.length - 1)) 0) u) ?hclos ?hcell ?hkind ?hnames ?hx ?_ ?hs
  case hclos => with_unfolding_all rfl
  case hcell => decide
  case hkind => rfl
  case hnames => decide
  case hx => with_unfolding_all rfl
  case hs => intro _; with_unfolding_all rfl
  walk_at "go"
  (rename News _ _ _ _ => N2); (rename Fr _ _ _ _ => F2); (rename IsRange _ _ _ _ _ _ _ _ => hr)
  rename_i h2 tk2 _ _ _ k2
  have I2 := (back _ _ [_, _] _ _ _ _ _ _ _ _ _ _ _ _ _ _ _ _ F2 N2 own2 ⟨e1, e2, e3, e4, e5, e6, e7, e8⟩).less (objs' := objs) (fun q hq => List.mem_append_right _ hq)
  have caL2 : @LT.lt Nat _ ca h2.objs.size := Heap.lt_size I2.hca
  have LL2 : @LT.lt Nat _ (L + 8) h2.objs.size := by obtain ⟨o, q, _⟩ := I2.d1; exact Heap.lt_size q
  have ob2 : ∀ q ∈ objs, @LT.lt Nat _ q.1 h2.objs.size := fun q hq => Heap.lt_size (I2.objs q hq).1
  clear F2 N2 back htl hsup X₀ T₀ C₀
  refine range_go hr (by lia) (by lia) (by lia) (by lia) fun h3 k3 s3 it3 => ?_
  have I3 := I2.ext k3
  clear I2 k3
  dsimp only
  generalize h2.objs.size = i0 at *
  have hW : ∀ b ∈ [i0], @LT.lt Nat _ (L + 8) b ∧ b ≠ ca ∧ ∀ q ∈ objs, q.1 ≠ b := fun b hb => by rw [List.mem_singleton.mp hb]; exact ⟨LL2, Nat.ne_of_gt caL2, fun q hq => Nat.ne_of_lt (ob2 q hq)⟩
  refine ⟨i0, [i0], [i0], ((asked : Int) - 0).toNat, _, _, rfl, (Walks.range rfl i0 0 1 _).bound, ?_, it3, fun b hb => by rw [List.mem_singleton.mp hb, s3]; exact Nat.lt_succ_self _, ⟨?_, ?_⟩, ?_⟩
  · have := sizeLine_eq; lia
  · rintro C i v s5 m5 E' hC hv hns hmx k5 _
    exact wpAny_tests_nil ⟨rfl, s5.heap, s5.toks, rfl, fun _ _ e => e⟩
  · rintro C i v ⟨h5, g5, d5, tk5, os5⟩ m5 E' hC ⟨hi', tvv, rfl⟩ _ hns hmx k5 _
    rw [show (0 + (i : Int) * 1) = (i : Int) by lia] at *
    have I5 := (I3.but X k5 hW).less (objs' := [(P, _)] ++ objs) (fun q hq => by
      simp only [List.cons_append, List.nil_append, List.mem_cons] at hq
      rcases hq with rfl | hq
      · exact hP
      · exact hq)
    have hpl0 : 0 < pl.length := ha0 (by lia)
    obtain ⟨h₀', p1, p2, p3, p4, p5, p6, p7, p8, st', F', N', f1, f2, f3, f4, f5, f6, f7, f8, htl', hsup', back'⟩ := RowInv.open X I5
    obtain ⟨X', T', C'⟩ := G.keeps st'
    dsimp only [rowLed, List.cons_append, List.nil_append] at N'
    dsimp only at hns hmx F' N' ⊢
    walk_at "go"
    refine min_two_ints rfl fun h6 tk6 k6 => ?_
    have F6 := Mine.Fr.ext F' k6
    have N6 := Mine.News.ext N' k6
    clear F' N'
    by_cases hcm : ((pl.length : Nat) : Int) - 1 < (i : Int)
    · rw [if_pos hcm]
      walk_at "go"
      · rw [show (((pl.length : Nat) : Int) - 1).toNat = min i (pl.length - 1) by lia]
      · exact ⟨h6, _, rfl, k6⟩
    · rw [if_neg hcm]
      walk_at "go"
      · rw [show ((i : Int)).toNat = min i (pl.length - 1) by lia]
      · exact ⟨h6, _, rfl, k6⟩
  · rintro D' h5 tk5 ys vs hD' _ hpl' hvl hP' hpair hk5
    obtain ⟨c', hpl'⟩ := hpl'
    have oD := I3.fresh hD'
    have I5 := (I3.but X hk5 hW).more (objs' := [(T, _), (D', _)] ++ objs) (fun q hq => by
      simp only [List.cons_append, List.nil_append, List.mem_cons] at hq
      rcases hq with rfl | rfl | hq
      · exact .inl hT
      · exact .inr ⟨hpl', oD⟩
      · exact .inl hq)
    have hys : IntsAre ys.toList (askedOf pl asked) := by
      have nv : NatsAre vs (List.range' 0 asked) := nats_range (by lia) (fun j v hj => by
        obtain ⟨_, t, e⟩ := hP' j v hj
        exact ⟨t, by rw [e]; congr 1; lia⟩)
      rw [List.filter_eq_self.mpr (fun _ _ => rfl)] at hpair
      have := paired_map (c := fun j : Nat => ((j : Nat) : Int)) (g := fun j => pl.getD (min j (pl.length - 1)) 0) (fun _ _ => Int.ofNat.inj) hpair _ nv
      unfold askedOf
      rw [List.range_eq_range']
      exact this
    obtain ⟨h₀', p1, p2, p3, p4, p5, p6, p7, p8, st', F', N', f1, f2, f3, f4, f5, f6, f7, f8, htl', hsup', back'⟩ := RowInv.open X I5
    obtain ⟨X', T', C'⟩ := G.keeps st'
    dsimp only [rowLed, List.cons_append, List.nil_append] at N'
    rw [← htold] at hys
    obtain ⟨yl, rfl⟩ : ∃ yl : List Value, ys = yl.toArray := ⟨ys.toList, by simp⟩
    simp only [List.toList_toArray] at hys
    have hll : told.length < 1000 := by rw [htold]; unfold askedOf; simp; lia
    walk_at "go"
    have I6 := I5.less (objs' := objs) (fun q hq => List.mem_append_right _ hq)
    exact hQ _ _ (I6.map fun y => (hmm y).symm)
end Mine
section
open StrLaws
namespace Mine
/-- the lines of what is left, as numbers -/
def segs (o : Nat → Option Int) : Nat → Nat → List Nat → List (List Nat)
  | 0, _, l => [l]
  | f + 1, j, l => match o j with
    | none => [l]
    | some v => if l.length ≤ v.toNat then [l] else l.take v.toNat :: segs o f (j + 1) (l.drop v.toNat)
/-- line (from 1) and column of the k-th sign of what is left -/
def placeN (o : Nat → Option Int) : Nat → Nat → Nat → Nat × Nat
  | 0, _, k => (1, k + 1)
  | f + 1, j, k => match o j with
    | none => (1, k + 1)
    | some v => if k < v.toNat then (1, k + 1) else ((placeN o f (j + 1) (k - v.toNat)).1 + 1, (placeN o f (j + 1) (k - v.toNat)).2)
/-- lines joined by line feeds -/
def joinL : List (List Nat) → List Nat
  | [] => []
  | [l] => l
  | l :: r => l ++ 10 :: joinL r
theorem segs_ne (o : Nat → Option Int) (f j : Nat) (l : List Nat) : segs o f j l ≠ [] := by
  cases f with
  | zero => intro q; cases q
  | succ f =>
    unfold segs
    split
    · intro q; cases q
    · split <;> (intro q; cases q)
theorem joinL_cons {l : List Nat} {r : List (List Nat)} (h : r ≠ []) : joinL (l :: r) = l ++ 10 :: joinL r := by
  cases r with
  | nil => exact absurd rfl h
  | cons a b => rfl
theorem place_zero (o : Nat → Option Int) (hpos : ∀ j v, o j = some v → 0 < v) (f j : Nat) : placeN o f j 0 = (1, 1) := by
  cases f with
  | zero => rfl
  | succ f =>
    unfold placeN
    split
    · rfl
    · rename_i v hv
      rw [if_pos (by have := hpos j v hv; omega)]
theorem laid_go (o : Nat → Option Int) (hpos : ∀ j v, o j = some v → 0 < v) : ∀ (f j : Nat) (l : List Nat), 0 < l.length → l.length ≤ f →
    (joinL (segs o f j l)).length + 1 = l.length + (placeN o f j (l.length - 1)).1 ∧
    (∀ k, k < l.length → (joinL (segs o f j l))[k + (placeN o f j k).1 - 1]? = l[k]?) ∧
    (∀ k, k + 1 < l.length → ((placeN o f j (k + 1)).1 = (placeN o f j k).1 ∧ (placeN o f j (k + 1)).2 = (placeN o f j k).2 + 1) ∨
      ((placeN o f j (k + 1)).1 = (placeN o f j k).1 + 1 ∧ (placeN o f j (k + 1)).2 = 1 ∧ (joinL (segs o f j l))[k + (placeN o f j k).1]? = some 10))
  | 0, j, l, h0, hf => absurd hf (by omega)
  | f + 1, j, l, h0, hf => by
    have one : ∀ T, T = l → (∀ k, k < l.length → placeN o (f + 1) j k = (1, k + 1)) → (T.length + 1 = l.length + (placeN o (f + 1) j (l.length - 1)).1 ∧
        (∀ k, k < l.length → T[k + (placeN o (f + 1) j k).1 - 1]? = l[k]?) ∧
        (∀ k, k + 1 < l.length → ((placeN o (f + 1) j (k + 1)).1 = (placeN o (f + 1) j k).1 ∧ (placeN o (f + 1) j (k + 1)).2 = (placeN o (f + 1) j k).2 + 1) ∨
          ((placeN o (f + 1) j (k + 1)).1 = (placeN o (f + 1) j k).1 + 1 ∧ (placeN o (f + 1) j (k + 1)).2 = 1 ∧ T[k + (placeN o (f + 1) j k).1]? = some 10))) := fun T hT hp => by
      refine ⟨by rw [hp _ (by omega), hT], fun k hk => by rw [hp k hk, hT]; rfl, fun k hk => .inl ?_⟩
      rw [hp k (by omega), hp (k + 1) hk]
      exact ⟨rfl, rfl⟩
    cases ho : o j with
    | none =>
      have e1 : segs o (f + 1) j l = [l] := by unfold segs; rw [ho]
      have e2 : ∀ k, placeN o (f + 1) j k = (1, k + 1) := fun k => by unfold placeN; rw [ho]
      rw [e1]
      exact one l rfl fun k _ => e2 k
    | some v =>
      have hv := hpos j v ho
      by_cases hl : l.length ≤ v.toNat
      · have e1 : segs o (f + 1) j l = [l] := by unfold segs; rw [ho]; dsimp only; rw [if_pos hl]
        rw [e1]
        exact one l rfl fun k hk => by unfold placeN; rw [ho]; dsimp only; rw [if_pos (by omega)]
      · have e1 : segs o (f + 1) j l = l.take v.toNat :: segs o f (j + 1) (l.drop v.toNat) := by rw [segs, ho]; dsimp only; rw [if_neg hl]
        have e2 : ∀ k, k < v.toNat → placeN o (f + 1) j k = (1, k + 1) := fun k hk => by rw [placeN, ho]; dsimp only; rw [if_pos hk]
        have e3 : ∀ k, v.toNat ≤ k → placeN o (f + 1) j k = ((placeN o f (j + 1) (k - v.toNat)).1 + 1, (placeN o f (j + 1) (k - v.toNat)).2) := fun k hk => by rw [placeN, ho]; dsimp only; rw [if_neg (by omega)]
        have dl : (l.drop v.toNat).length = l.length - v.toNat := List.length_drop
        obtain ⟨i1, i2, i3⟩ := laid_go o hpos f (j + 1) (l.drop v.toNat) (by omega) (by omega)
        have tl : (l.take v.toNat).length = v.toNat := by rw [List.length_take]; omega
        rw [e1, joinL_cons (segs_ne _ _ _ _)]
        generalize hT : joinL (segs o f (j + 1) (l.drop v.toNat)) = T at *
        have front : ∀ k, k < v.toNat → (l.take v.toNat ++ 10 :: T)[k]? = l[k]? := fun k hk => by
          rw [List.getElem?_append_left (by omega), List.getElem?_take, if_pos hk]
        have mid : (l.take v.toNat ++ 10 :: T)[v.toNat]? = some 10 := by
          rw [List.getElem?_append_right (by omega), tl, Nat.sub_self]; rfl
        have behind : ∀ k, (l.take v.toNat ++ 10 :: T)[v.toNat + 1 + k]? = T[k]? := fun k => by
          rw [List.getElem?_append_right (by omega), tl, show v.toNat + 1 + k - v.toNat = k + 1 by omega]; rfl
        have p1 : ∀ k, k < l.length - v.toNat → 1 ≤ (placeN o f (j + 1) k).1 := fun k hk => by
          have : ∀ f j k, 1 ≤ (placeN o f j k).1 := fun f => by
            induction f with
            | zero => intro j k; exact Nat.le_refl _
            | succ f ih =>
              intro j k
              unfold placeN
              split
              · exact Nat.le_refl _
              · split
                · exact Nat.le_refl _
                · exact Nat.succ_le_succ (Nat.zero_le _)
          exact this _ _ _
        refine ⟨?_, fun k hk => ?_, fun k hk => ?_⟩
        · rw [e3 _ (by omega), List.length_append, List.length_cons, tl]
          rw [dl, show l.length - v.toNat - 1 = l.length - 1 - v.toNat by lia] at i1
          dsimp only
          omega
        · rcases Nat.lt_or_ge k v.toNat with z | z
          · rw [e2 k z]; exact front k z
          · have := i2 (k - v.toNat) (by omega)
            have q1 := p1 (k - v.toNat) (by omega)
            rw [e3 k z]
            dsimp only
            rw [show k + ((placeN o f (j + 1) (k - v.toNat)).1 + 1) - 1 = v.toNat + 1 + (k - v.toNat + (placeN o f (j + 1) (k - v.toNat)).1 - 1) by omega, behind, this, List.getElem?_drop, show v.toNat + (k - v.toNat) = k by omega]
        · rcases Nat.lt_trichotomy (k + 1) v.toNat with z | z | z
          · rw [e2 k (by omega), e2 (k + 1) z]; exact .inl ⟨rfl, rfl⟩
          · refine .inr ?_
            rw [e2 k (by omega), e3 (k + 1) (by omega), show k + 1 - v.toNat = 0 by omega, place_zero o hpos]
            exact ⟨rfl, rfl, by rw [show k + 1 = v.toNat by omega]; exact mid⟩
          · have q1 := p1 (k - v.toNat) (by omega)
            have := i3 (k - v.toNat) (by omega)
            rw [e3 k (by omega), e3 (k + 1) (by omega), show k + 1 - v.toNat = k - v.toNat + 1 by omega]
            dsimp only
            rcases this with ⟨a, b⟩ | ⟨a, b, c⟩
            · exact .inl ⟨by lia, b⟩
            · refine .inr ⟨by lia, b, ?_⟩
              rw [show k + ((placeN o f (j + 1) (k - v.toNat)).1 + 1) = v.toNat + 1 + (k - v.toNat + (placeN o f (j + 1) (k - v.toNat)).1) by omega, behind]
              exact c
end Mine
end
section
open StrLaws PySem.Builtin.Str
namespace Mine
theorem slice_to (x : Str) {v : Int} (h : 0 ≤ v) : (Txt.slice x none (some v)).cps.toList = x.cps.toList.take v.toNat := by
  have e : strSliceIndices none (some v) 1 x.length = strSliceIndices (some ((0 : Nat) : Int)) (some ((min v.toNat x.length : Nat) : Int)) 1 x.length := by
    unfold strSliceIndices
    dsimp only
    congr 1 <;> (repeat' split) <;> lia
  have e2 : Txt.slice x none (some v) = Txt.slice x (some ((0 : Nat) : Int)) (some ((min v.toNat x.length : Nat) : Int)) := by unfold Txt.slice; rw [e]
  rw [e2, slice_nat x (Nat.zero_le _) (Nat.min_le_right _ _), List.drop_zero, Nat.sub_zero]
  have : x.cps.toList.length = x.length := by simp [Str.length]
  rw [← this]
  exact List.take_eq_take_iff.mpr (by lia)
theorem slice_from (x : Str) {v : Int} (h : 0 ≤ v) : (Txt.slice x (some v) none).cps.toList = x.cps.toList.drop v.toNat := by
  have e : strSliceIndices (some v) none 1 x.length = strSliceIndices (some ((min v.toNat x.length : Nat) : Int)) (some ((x.length : Nat) : Int)) 1 x.length := by
    unfold strSliceIndices
    dsimp only
    congr 1 <;> (repeat' split) <;> lia
  have e2 : Txt.slice x (some v) none = Txt.slice x (some ((min v.toNat x.length : Nat) : Int)) (some ((x.length : Nat) : Int)) := by unfold Txt.slice; rw [e]
  rw [e2, slice_nat x (Nat.min_le_right _ _) (Nat.le_refl _)]
  have hl : x.cps.toList.length = x.length := by simp [Str.length]
  rw [List.take_of_length_le (by rw [List.length_drop]; lia)]
  by_cases z : v.toNat ≤ x.length
  · rw [Nat.min_eq_left z]
  · rw [Nat.min_eq_right (by lia), List.drop_of_length_le (by lia), List.drop_of_length_le (by lia)]
theorem empty_iff (x : Str) : (x == Str.ofString "") = true ↔ x.cps.toList = [] := by
  rw [beq_iff_eq]
  constructor
  · intro e; rw [e]; rfl
  · intro e
    obtain ⟨c⟩ := x
    have : c = #[] := by simpa using e
    rw [this]; rfl
/-- what _law_typed tells: the sizes, the lines -/
theorem typed_go (ns : List Int) (hpos : ∀ j v, outAt ns j = some v → 0 < v) : ∀ (f j : Nat) (told : List Int) (lines : List Str) (left : Str), left.cps.toList ≠ [] → left.cps.toList.length ≤ f → told.length + left.cps.toList.length ≤ 40 →
    ∃ (c : Nat) (ls : List Str) (lf : Str), typedGo ns (f + 1) j told lines left = (told ++ (List.range c).map (fun i => (outAt ns (j + i)).getD 0), lines ++ ls, lf) ∧
      ((ls ++ if lf != Str.ofString "" then [lf] else []).map fun s => s.cps.toList) = segs (outAt ns) f j left.cps.toList ∧
      (∀ i, i < c → (outAt ns (j + i)).isSome = true) ∧ (c = (segs (outAt ns) f j left.cps.toList).length ∨ c + 1 = (segs (outAt ns) f j left.cps.toList).length ∧ outAt ns (j + c) = none)
  | 0, j, told, lines, left, h0, hf, _ => absurd (List.length_eq_zero_iff.mp (Nat.le_zero.mp hf)) h0
  | f + 1, j, told, lines, left, h0, hf, h40 => by
    have lne : (left != Str.ofString "") = true := by
      rw [bne, Bool.not_eq_true']
      cases z : left == Str.ofString "" with
      | false => rfl
      | true => exact absurd ((empty_iff left).mp z) h0
    have l0 : 0 < left.cps.toList.length := List.length_pos_iff.mpr h0
    cases ho : outAt ns j with
    | none =>
      refine ⟨0, [], left, ?_, ?_, (fun i hi => absurd hi (Nat.not_lt_zero _)), .inr ⟨?_, by rw [Nat.add_zero]; exact ho⟩⟩
      · rw [typedGo_none ho]; simp
      · rw [if_pos lne, segs, ho]; rfl
      · rw [segs, ho]; rfl
    | some v =>
      have hv := hpos j v ho
      have hd := slice_from left (v := v) (by lia)
      have ht := slice_to left (v := v) (by lia)
      by_cases hl : left.cps.toList.length ≤ v.toNat
      · have hemp : (Txt.slice left (some v) none == Str.ofString "") = true := (empty_iff _).mpr (by rw [hd]; exact List.drop_of_length_le hl)
        refine ⟨1, [Txt.slice left none (some v)], Txt.slice left (some v) none, ?_, ?_, (fun i hi => ?_), .inl ?_⟩
        · rw [typedGo_stop ho (.inl hemp)]
          simp [ho]
        · rw [if_neg (by rw [bne, hemp]; decide), segs, ho]
          dsimp only
          rw [if_pos hl, List.append_nil, List.map_singleton, ht, List.take_of_length_le hl]
        · rw [Nat.lt_one_iff.mp hi, Nat.add_zero, ho]; rfl
        · rw [segs, ho]; dsimp only; rw [if_pos hl]; rfl
      · have hdl : (left.cps.toList.drop v.toNat).length = left.cps.toList.length - v.toNat := List.length_drop
        have hne : ¬ ((Txt.slice left (some v) none == Str.ofString "") = true ∨ 40 < told.length + 1) := fun z => by
          rcases z with z | z
          · have := (empty_iff _).mp z
            rw [hd] at this
            rw [this, List.length_nil] at hdl
            lia
          · lia
        have nd : (Txt.slice left (some v) none).cps.toList ≠ [] := fun z => by
          rw [hd] at z
          rw [z, List.length_nil] at hdl
          lia
        obtain ⟨c, ls, lf, e1, e2, e3, e4⟩ := typed_go ns hpos f (j + 1) (told ++ [v]) (lines ++ [Txt.slice left none (some v)]) (Txt.slice left (some v) none) nd (by rw [hd, hdl]; lia) (by rw [hd, hdl, List.length_append, List.length_singleton]; lia)
        have es : segs (outAt ns) (f + 1) j left.cps.toList = left.cps.toList.take v.toNat :: segs (outAt ns) f (j + 1) (left.cps.toList.drop v.toNat) := by rw [segs, ho]; dsimp only; rw [if_neg hl]
        rw [hd] at e2 e4
        refine ⟨c + 1, Txt.slice left none (some v) :: ls, lf, ?_, ?_, (fun i hi => ?_), ?_⟩
        · rw [typedGo_go ho hne, e1, List.range_succ_eq_map, List.map_cons, List.map_map, show outAt ns (j + 0) = some v from ho]
          simp only [List.append_assoc, List.singleton_append, Option.getD_some]
          refine congrArg (fun z => (told ++ v :: z, lines ++ Txt.slice left none (some v) :: ls, lf)) (List.map_congr_left fun i _ => ?_)
          simp only [Function.comp_apply]
          rw [show j + 1 + i = j + (i + 1) by lia]
        · rw [es, List.cons_append, List.map_cons, e2, ht]
        · cases i with
          | zero => rw [Nat.add_zero, ho]; rfl
          | succ i => have := e3 i (by lia); rw [show j + 1 + i = j + (i + 1) by lia] at this; exact this
        · rw [es, List.length_cons]
          rcases e4 with z | ⟨z, z2⟩
          · exact .inl (by lia)
          · exact .inr ⟨by lia, by rw [show j + (c + 1) = j + 1 + c by lia]; exact z2⟩
end Mine
end
section
open StrLaws
namespace Mine
theorem place_eq (o : Nat → Option Int) : ∀ (r : List Int) (j f k : Nat) (st : Int), (∀ i, i < r.length → o (j + i) = r[i]?) → (∀ v ∈ r, 0 < v) → k < f →
    (∀ p, placeGo r (j : Int) st (st + (k : Int)) = some p → p = ((j : Int) + ((placeN o f j k).1 : Nat), (((placeN o f j k).2 : Nat) : Int))) ∧
    (placeGo r (j : Int) st (st + (k : Int)) = none → r.sum ≤ (k : Int) ∧ 0 ≤ r.sum ∧ ∃ f', k - r.sum.toNat < f' ∧ (placeN o f j k).1 = (placeN o f' (j + r.length) (k - r.sum.toNat)).1 + r.length ∧ (placeN o f j k).2 = (placeN o f' (j + r.length) (k - r.sum.toNat)).2)
  | [], j, f, k, st, _, _, hf => by
    refine ⟨(fun p q => by cases q), fun _ => ⟨by simp, by simp, f, by simpa using hf, by simp, by simp⟩⟩
  | s :: r, j, f, k, st, ho, hp, hf => by
    have hs : 0 < s := hp s (.head _)
    have o0 : o j = some s := by have := ho 0 (Nat.succ_pos _); simpa using this
    obtain ⟨f, rfl⟩ : ∃ f', f = f' + 1 := ⟨f - 1, by omega⟩
    by_cases hk : k < s.toNat
    · have e : placeN o (f + 1) j k = (1, k + 1) := by rw [placeN, o0]; dsimp only; rw [if_pos hk]
      have e2 : placeGo (s :: r) (j : Int) st (st + (k : Int)) = some ((j : Int) + 1, st + (k : Int) - st + 1) := by rw [placeGo, if_pos (by omega)]
      rw [e, e2]
      refine ⟨fun p q => ?_, fun q => by cases q⟩
      cases q
      exact Prod.ext rfl (by dsimp only; lia)
    · have e : placeN o (f + 1) j k = ((placeN o f (j + 1) (k - s.toNat)).1 + 1, (placeN o f (j + 1) (k - s.toNat)).2) := by rw [placeN, o0]; dsimp only; rw [if_neg hk]
      have e2 : placeGo (s :: r) (j : Int) st (st + (k : Int)) = placeGo r ((j + 1 : Nat) : Int) (st + s) (st + s + ((k - s.toNat : Nat) : Int)) := by
        rw [placeGo, if_neg (by omega)]
        congr 1
        omega
      obtain ⟨i1, i2⟩ := place_eq o r (j + 1) f (k - s.toNat) (st + s) (fun i hi => by
        have := ho (i + 1) (by simpa using hi)
        rw [show j + (i + 1) = j + 1 + i by lia] at this
        simpa using this) (fun v hv => hp v (.tail _ hv)) (by omega)
      rw [e, e2]
      refine ⟨fun p q => ?_, fun q => ?_⟩
      · rw [i1 p q]
        exact Prod.ext (by dsimp only; lia) rfl
      · obtain ⟨a, a0, f', b, c, d⟩ := i2 q
        rw [List.sum_cons, List.length_cons]
        have e3 : k - (s + r.sum).toNat = k - s.toNat - r.sum.toNat := by omega
        refine ⟨by omega, by omega, f', by rw [e3]; exact b, ?_, ?_⟩
        · rw [e3, show j + (r.length + 1) = j + 1 + r.length by omega]; dsimp only; lia
        · rw [e3, show j + (r.length + 1) = j + 1 + r.length by omega]; exact d
/-- the same size again and again -/
theorem place_end {o : Nat → Option Int} {v : Int} (hv : 0 < v) : ∀ (f j k : Nat), (∀ i, j ≤ i → o i = some v) → k < f → placeN o f j k = (k / v.toNat + 1, k % v.toNat + 1)
  | 0, _, _, _, hf => absurd hf (Nat.not_lt_zero _)
  | f + 1, j, k, ho, hf => by
    have hv0 : 0 < v.toNat := by omega
    rw [placeN, ho j (Nat.le_refl _)]
    dsimp only
    by_cases hk : k < v.toNat
    · rw [if_pos hk, Nat.div_eq_of_lt hk, Nat.mod_eq_of_lt hk]
    · rw [if_neg hk, place_end hv f (j + 1) (k - v.toNat) (fun i hi => ho i (by omega)) (by omega)]
      have d1 : k / v.toNat = (k - v.toNat) / v.toNat + 1 := by rw [Nat.div_eq_sub_div hv0 (by omega)]
      have d2 : k % v.toNat = (k - v.toNat) % v.toNat := by rw [Nat.mod_eq_sub_mod (by omega)]
      rw [d1, d2]
/-- the plain sizes, and whether a nought stands behind them -/
def plOf (ns : List Int) : List Int := ns.take (plainLen ns)
def enOf (ns : List Int) : Bool := decide (ns[plainLen ns]? = some 0)
theorem plOf_len (ns : List Int) : (plOf ns).length = plainLen ns := by unfold plOf; rw [List.length_take]; have := plainLen_le ns; lia
theorem plOf_nz : ∀ (ns : List Int) (i : Nat) (v : Int), i < plainLen ns → ns[i]? = some v → v ≠ 0
  | [], i, v, h, _ => absurd h (Nat.not_lt_zero _)
  | y :: r, i, v, h, hv => by
    unfold plainLen at h
    by_cases z : y = 0 ∨ y = 127
    · rw [if_pos z] at h; exact absurd h (Nat.not_lt_zero _)
    · rw [if_neg z] at h
      cases i with
      | zero => cases hv; exact fun q => z (.inl q)
      | succ i => exact plOf_nz r i v (by omega) (by simpa using hv)
theorem out_pos {ns : List Int} (hns : ∀ y ∈ ns, 0 ≤ y ∧ y < 1000) (j : Nat) (v : Int) (h : outAt ns j = some v) : 0 < v := by
  unfold outAt at h
  split at h
  · rename_i hj
    have := plOf_nz ns j v hj h
    have := hns v (List.mem_of_getElem? h)
    omega
  · split at h
    · rename_i hz
      have := plOf_nz ns (plainLen ns - 1) v (by omega) h
      have := hns v (List.mem_of_getElem? h)
      omega
    · cases h
theorem out_plain {ns : List Int} {i : Nat} (h : i < (plOf ns).length) : outAt ns i = (plOf ns)[i]? := by
  rw [plOf_len] at h
  unfold outAt plOf
  rw [if_pos h, List.getElem?_take, if_pos h]
theorem out_end {ns : List Int} (hen : enOf ns = true) (h0 : 0 < plainLen ns) {i : Nat} (hi : plainLen ns ≤ i) : outAt ns i = some ((plOf ns).getD ((-1 : Int) + ((plOf ns).length : Int)).toNat 0) := by
  have hz : ns[plainLen ns]? = some 0 := by unfold enOf at hen; exact of_decide_eq_true hen
  unfold outAt
  rw [if_neg (by omega), if_pos ⟨hz, h0⟩, plOf_len, show ((-1 : Int) + ((plainLen ns : Nat) : Int)).toNat = plainLen ns - 1 by omega]
  have hl := plainLen_le ns
  have e : ns[plainLen ns - 1]? = some (ns[plainLen ns - 1]'(by omega)) := List.getElem?_eq_getElem _
  unfold plOf
  rw [List.getD_eq_getElem?_getD, List.getElem?_take, if_pos (by omega), e]
  rfl
theorem out_none {ns : List Int} (hen : enOf ns = false) {i : Nat} (hi : plainLen ns ≤ i) : outAt ns i = none := by
  have hz : ¬ ns[plainLen ns]? = some 0 := by unfold enOf at hen; exact of_decide_eq_false hen
  unfold outAt
  rw [if_neg (by omega), if_neg (fun q => hz q.1)]
/-- _law_place tells line and column -/
theorem place_law {ns : List Int} (hns : ∀ y ∈ ns, 0 ≤ y ∧ y < 1000) (hn0 : ns[0]? ≠ some 0) {f k : Nat} (hf : k < f) :
    placeOf (plOf ns) (enOf ns) (k : Int) = ((((placeN (outAt ns) f 0 k).1 : Nat) : Int), (((placeN (outAt ns) f 0 k).2 : Nat) : Int)) := by
  have hpp : ∀ v ∈ plOf ns, 0 < v := fun v hv => by
    obtain ⟨i, hi⟩ := List.mem_iff_getElem?.mp hv
    have hil := (List.getElem?_eq_some_iff.mp hi).1
    exact out_pos hns i v ((out_plain hil).trans hi)
  obtain ⟨h1, h2⟩ := place_eq (outAt ns) (plOf ns) 0 f k 0 (fun i hi => by rw [Nat.zero_add]; exact out_plain hi) hpp hf
  unfold placeOf
  rw [show (0 : Int) + (k : Int) = (k : Int) by lia, show ((0 : Nat) : Int) = (0 : Int) from rfl] at h1 h2
  cases hg : placeGo (plOf ns) 0 0 (k : Int) with
  | some p =>
    have := h1 p hg
    rw [this]
    exact Prod.ext (by dsimp only; lia) rfl
  | none =>
    obtain ⟨a, a0, f', b, c, d⟩ := h2 hg
    rw [Nat.zero_add] at c d
    dsimp only
    cases hen : enOf ns with
    | true =>
      have hz : ns[plainLen ns]? = some 0 := by unfold enOf at hen; exact of_decide_eq_true hen
      have h0 : 0 < plainLen ns := by
        rcases Nat.eq_zero_or_pos (plainLen ns) with z | z
        · rw [z] at hz; exact absurd hz hn0
        · exact z
      have hv := out_pos hns _ _ (out_end hen h0 (Nat.le_refl _))
      generalize hV : (plOf ns).getD ((-1 : Int) + ((plOf ns).length : Int)).toNat 0 = V at *
      have hend := place_end (o := outAt ns) hv f' (plOf ns).length (k - (plOf ns).sum.toNat) (fun i hi => by rw [plOf_len] at hi; rw [← hV]; exact out_end hen h0 hi) b
      rw [hend] at c d
      have hk : (k : Int) - (plOf ns).sum = ((k - (plOf ns).sum.toNat : Nat) : Int) := by omega
      have hVn : V = ((V.toNat : Nat) : Int) := by omega
      rw [if_pos rfl, c, d, hk, hVn]
      have q1 : Int.fdiv ((k - (plOf ns).sum.toNat : Nat) : Int) ((V.toNat : Nat) : Int) = (((k - (plOf ns).sum.toNat) / V.toNat : Nat) : Int) := by
        rw [Int.fdiv_eq_ediv_of_nonneg _ (by omega)]; rfl
      have q2 : Int.fmod ((k - (plOf ns).sum.toNat : Nat) : Int) ((V.toNat : Nat) : Int) = (((k - (plOf ns).sum.toNat) % V.toNat : Nat) : Int) := by
        rw [Int.fmod_eq_emod_of_nonneg _ (by omega)]; rfl
      rw [q1, q2]
      have tn : (((V.toNat : Nat) : Int)).toNat = V.toNat := Int.toNat_natCast _
      rw [tn]
      exact Prod.ext (by dsimp only; lia) (by dsimp only; lia)
    | false =>
      rw [if_neg (by decide), c, d]
      have hp : placeN (outAt ns) f' (plOf ns).length (k - (plOf ns).sum.toNat) = (1, k - (plOf ns).sum.toNat + 1) := by
        cases f' with
        | zero => rfl
        | succ f' => rw [placeN, out_none hen (by rw [plOf_len]; exact Nat.le_refl _)]
      rw [hp]
      exact Prod.ext (by dsimp only; lia) (by dsimp only; omega)
end Mine
end
section
open StrLaws
namespace Mine
theorem strJoin_list : ∀ ls : List Str, (Str.join (Str.ofString "\n") ls).cps.toList = joinL (ls.map fun s => s.cps.toList)
  | [] => rfl
  | [x] => rfl
  | x :: y :: r => by
    have ih := strJoin_list (y :: r)
    show (x ++ Str.ofString "\n" ++ Str.join (Str.ofString "\n") (y :: r)).cps.toList = x.cps.toList ++ 10 :: joinL ((y :: r).map fun s => s.cps.toList)
    rw [← ih, Str.cps_append, Str.cps_append]
    rw [show (Str.ofString "\n").cps = #[10] by decide +kernel]
    simp
theorem segs_len (o : Nat → Option Int) : ∀ (f j : Nat) (l : List Nat), (joinL (segs o f j l)).length + 1 = l.length + (segs o f j l).length ∧ ∀ c ∈ joinL (segs o f j l), c = 10 ∨ c ∈ l
  | 0, j, l => ⟨rfl, fun c hc => .inr hc⟩
  | f + 1, j, l => by
    cases ho : o j with
    | none => rw [show segs o (f + 1) j l = [l] by rw [segs, ho]]; exact ⟨rfl, fun c hc => .inr hc⟩
    | some v =>
      by_cases hl : l.length ≤ v.toNat
      · rw [show segs o (f + 1) j l = [l] by rw [segs, ho]; dsimp only; rw [if_pos hl]]; exact ⟨rfl, fun c hc => .inr hc⟩
      · obtain ⟨i1, i2⟩ := segs_len o f (j + 1) (l.drop v.toNat)
        rw [show segs o (f + 1) j l = l.take v.toNat :: segs o f (j + 1) (l.drop v.toNat) by rw [segs, ho]; dsimp only; rw [if_neg hl], joinL_cons (segs_ne _ _ _ _)]
        rw [List.length_drop] at i1
        refine ⟨?_, fun c hc => ?_⟩
        · rw [List.length_append, List.length_cons, List.length_cons, List.length_take]
          lia
        · rcases List.mem_append.mp hc with q | q
          · exact .inr (List.mem_of_mem_take q)
          · rcases List.mem_cons.mp q with q | q
            · exact .inl q
            · exact (i2 c q).imp id List.mem_of_mem_drop
theorem plain_law {ns : List Int} {x : Str} (hns : ∀ y ∈ ns, 0 ≤ y ∧ y < 1000) (hn0 : ns[0]? ≠ some 0) (hx0 : 0 < x.length) (hx : x.length ≤ 40) (hnl : ∀ c ∈ x.cps.toList, c ≠ 10) (hb : ∀ c ∈ x.cps.toList, c < 16 ^ 8) :
    ∃ told lines left ln cl, typedGo ns 42 0 [] [] x = (told, lines, left) ∧ Laid x (Txt.join (Str.ofString "\n") (lines ++ if left != Str.ofString "" then [left] else [])) ln cl ∧
      (∀ j, j < x.length → placeOf (plOf ns) (enOf ns) (j : Int) = ((ln j : Int), (cl j : Int))) ∧
      told = askedOf (plOf ns) (if enOf ns then ln (x.length - 1) else min (ln (x.length - 1)) (plOf ns).length) ∧
      (∀ c ∈ (Txt.join (Str.ofString "\n") (lines ++ if left != Str.ofString "" then [left] else [])).cps.toList, c < 16 ^ 8) ∧ (enOf ns = true → 0 < (plOf ns).length) := by
  have hl : x.cps.toList.length = x.length := by simp [Str.length]
  have hpos := out_pos hns
  have hne : x.cps.toList ≠ [] := fun z => by rw [z] at hl; simp at hl; lia
  obtain ⟨c, ls, lf, e1, e2, e3, e4⟩ := typed_go ns hpos 41 0 [] [] x hne (by lia) (by simp only [List.length_nil]; lia)
  obtain ⟨i1, i2, i3⟩ := laid_go (outAt ns) hpos 41 0 x.cps.toList (by lia) (by lia)
  obtain ⟨s1, s2⟩ := segs_len (outAt ns) 41 0 x.cps.toList
  have h0e : enOf ns = true → 0 < plainLen ns := fun hen => by
    have hz : ns[plainLen ns]? = some 0 := by unfold enOf at hen; exact of_decide_eq_true hen
    rcases Nat.eq_zero_or_pos (plainLen ns) with z | z
    · rw [z] at hz; exact absurd hz hn0
    · exact z
  rw [List.nil_append, List.nil_append] at e1
  have ej : (Txt.join (Str.ofString "\n") (ls ++ if lf != Str.ofString "" then [lf] else [])).cps.toList = joinL (segs (outAt ns) 41 0 x.cps.toList) := by
    unfold Txt.join
    rw [glued_eq_join, strJoin_list, e2]
  have ejl : (Txt.join (Str.ofString "\n") (ls ++ if lf != Str.ofString "" then [lf] else [])).length = (joinL (segs (outAt ns) 41 0 x.cps.toList)).length := by rw [← ej]; simp [Str.length]
  rw [hl] at i1 i2 i3 s1
  refine ⟨_, ls, lf, fun k => (placeN (outAt ns) 41 0 k).1, fun k => (placeN (outAt ns) 41 0 k).2, e1, ⟨hx0, ?_, fun k hk => ?_, ?_, fun k hk => ?_, hnl⟩, fun j hj => place_law hns hn0 (by lia), ?_, fun c hc => ?_, fun hen => by rw [plOf_len]; exact h0e hen⟩
  · rw [ejl]; exact i1
  · rw [ej]; exact i2 k hk
  · rw [place_zero _ hpos]; exact ⟨rfl, rfl⟩
  · rw [ej]; exact i3 k hk
  · have hsg : (segs (outAt ns) 41 0 x.cps.toList).length = (placeN (outAt ns) 41 0 (x.length - 1)).1 := by lia
    rw [hsg] at e4
    dsimp only
    have hc : (if enOf ns = true then (placeN (outAt ns) 41 0 (x.length - 1)).1 else min (placeN (outAt ns) 41 0 (x.length - 1)).1 (plOf ns).length) = c := by
      rw [plOf_len]
      cases hen : enOf ns with
      | true =>
        rw [if_pos rfl]
        rcases e4 with z | ⟨z, z2⟩
        · lia
        · rw [Nat.zero_add] at z2
          by_cases q : c < plainLen ns
          · rw [out_plain (by rw [plOf_len]; exact q), List.getElem?_eq_getElem (by rw [plOf_len]; exact q)] at z2; cases z2
          · rw [out_end hen (h0e hen) (by lia)] at z2; cases z2
      | false =>
        rw [if_neg (by decide)]
        have hcp : c ≤ plainLen ns := by
          rcases Nat.lt_or_ge (plainLen ns) c with q | q
          · have := e3 (plainLen ns) q
            rw [Nat.zero_add, out_none hen (Nat.le_refl _)] at this
            cases this
          · exact q
        rcases e4 with z | ⟨z, z2⟩
        · lia
        · rw [Nat.zero_add] at z2
          have : plainLen ns ≤ c := by
            rcases Nat.lt_or_ge c (plainLen ns) with q | q
            · rw [out_plain (by rw [plOf_len]; exact q), List.getElem?_eq_getElem (by rw [plOf_len]; exact q)] at z2; cases z2
            · exact q
          lia
    rw [hc]
    unfold askedOf
    refine List.map_congr_left fun i hi => ?_
    have hi' := List.mem_range.mp hi
    have h3 := e3 i hi'
    rw [Nat.zero_add] at h3 ⊢
    by_cases q : i < plainLen ns
    · rw [out_plain (by rw [plOf_len]; exact q), plOf_len, show min i (plainLen ns - 1) = i by lia, List.getD_eq_getElem?_getD]
    · cases hen : enOf ns with
      | true =>
        rw [out_end hen (h0e hen) (by lia), plOf_len, show ((-1 : Int) + ((plainLen ns : Nat) : Int)).toNat = min i (plainLen ns - 1) by lia]
        rfl
      | false => rw [out_none hen (by lia)] at h3; cases h3
  · rw [ej] at hc
    rcases s2 c hc with q | q
    · rw [q]; decide
    · exact hb c q
end Mine
end
namespace Mine
local macro_rules | `(tactic| omega) => `(tactic| lia)
/-- the plain rows, under way -/
inductive LoopA (gb hc : Heap) (outer : List Env) (L : Addr) (gs : Array GenState) (dr : Drawn) (os : OsState) (m : Str → Option Value) (c7 c8 : Option Value) (ca : Addr) (oc : Obj) (ps : Array Value) (row P : Addr) (vs : List Value) (ns : List Int) (i0 : Nat) (n : Nat) (s : Shared) : Prop
  | mk : ∀ i h pv c c5 tk, (s = ⟨h, gs, dr, tk, os⟩) → (i + n = ns.length + 1) → (i ≤ plainLen ns) → (IntsAre pv (ns.take i)) → (RowInv gb hc outer L h m none none none none c5 (some (.ref P)) c7 c8 [(P, W.listOf pv.toArray c)] ca oc ps) → (h.IsListIter i0 row i) → (h.IsList row vs.toArray) → LoopA gb hc outer L gs dr os m c7 c8 ca oc ps row P vs ns i0 n s
/-- the plain sizes are gathered -/
inductive MidA (gb hc : Heap) (outer : List Env) (L : Addr) (gs : Array GenState) (dr : Drawn) (os : OsState) (m : Str → Option Value) (c7 c8 : Option Value) (ca : Addr) (oc : Obj) (ps : Array Value) (P : Addr) (ns : List Int) (f : Flow) (s' : Shared) : Prop
  | mk : (f = .next) → ∀ h' tk' pv c c5, (s' = ⟨h', gs, dr, tk', os⟩) → (IntsAre pv (plOf ns)) → (RowInv gb hc outer L h' m none none none none c5 (some (.ref P)) c7 c8 [(P, W.listOf pv.toArray c)] ca oc ps) → MidA gb hc outer L gs dr os m c7 c8 ca oc ps P ns f s'
set_option maxRecDepth 100000 in
set_option maxHeartbeats 4000000 in
theorem rowA1 {w : World} {mg mb : Str → Option Value} {loose : List Str} {mean : ExcName → Option Value} {gb : Heap} (G : Gd w mg mb loose mean gb)
    {hc : Heap} {outer : List Env} {L : Addr} {gd : Option (List Code)} {h : Heap} {gs : Array GenState} {dr : Drawn} {tk : Nat} {os : OsState} {Q : Flow → Shared → Prop} {E : Value → Shared → Prop} {m : Str → Option Value} {c7 c8 : Option Value} {ca : Addr} {oc : Obj} {ps : Array Value}
    {row : Addr} {vs : List Value} {ns : List Int}
    (X : RowCx gb hc outer L) (I : RowInv gb hc outer L h m none none none none none none c7 c8 [] ca oc ps) (hcaL : @LT.lt Nat _ ca L)
    (hm : m (Str.ofString "row") = some (.ref row)) (hl : hc.IsList row vs.toArray) (hi : IntsAre vs ns) (hnl : ns.length ≤ 60) (hrow : row ≠ 36 ∧ row ∉ frs outer)
    (hQ : ∀ h' tk' P pv c c5, IntsAre pv (plOf ns) → RowInv gb hc outer L h' m none none none none c5 (some (.ref P)) c7 c8 [(P, W.listOf pv.toArray c)] ca oc ps → Q .next ⟨h', gs, dr, tk', os⟩) :
    wpAny (model PySem.Challenge.rw_ny0036_01.row.prog w) ((Ax 370 800 none (some outer) gd).deeper (rowEnv w.params L)) (execs ((rowBody w.params).take 2) (rowEnv w.params L)) Q E ⟨h, gs, dr, tk, os⟩ := by
  w_top off
  k_with_none
  k_with "pyIter ref" => refine' hold ?_
  k_with "execs cons For nil" => refine' hold ?_
  k_with "storeName ref" => ((rename Fr _ _ _ _ => sF); (rename News _ _ _ _ => sN); (refine' storeRow sF sN ?hk ?hx ?hc ?U ?hd ?_; (case hk => rfl); (case hx => with_unfolding_all rfl); (case hc => with_unfolding_all rfl); (case U => k_updF); (case hd => assumption)); (clear sF sN); intro _ _ _ _ _)
  k_with "storeName int" => ((rename Fr _ _ _ _ => sF); (rename News _ _ _ _ => sN); (refine' storeRow sF sN ?hk ?hx ?hc ?U ?hd ?_; (case hk => rfl); (case hx => with_unfolding_all rfl); (case hc => with_unfolding_all rfl); (case U => k_updF); (case hd => assumption)); (clear sF sN); intro _ _ _ _ _)
  have l36 := X.lt36
  have caL := I.caL X
  have frL : ∀ q ∈ frOf h outer, @LT.lt Nat _ q.1 L := fun q hq => X.frL _ (frOf_mem hq).2
  have I1 := I.map (map_one hm)
  obtain ⟨h₀, o1, o2, o3, o4, o5, o6, o7, o8, st₀, F, N, e1, e2, e3, e4, e5, e6, e7, e8, htl, hsup, back⟩ := RowInv.open (front := []) (back := []) X I1
  obtain ⟨X₀, T₀, C₀⟩ := G.keeps st₀
  revert X₀; k_fill; intro X₀
  conv => pattern (rowBody _); whnf
  simp only [List.take_succ_cons, List.take_zero]
  unfold rowEnv
  conv => pattern (rowScope _); whnf
  conv => pattern (rowScope _); whnf
  simp only [List.nil_append] at htl
  dsimp only [rowLed, List.cons_append, List.nil_append] at N
  have hl0 : h₀.IsList row vs.toArray := by
    obtain ⟨o, ho, r⟩ := hl
    refine ⟨o, hsup row o ho hrow.1 (fun z => ?_) hrow.2, r⟩
    have z' := I.hca
    rw [← z, (I.up row o ho (by simpa using hrow.1)).1 hrow.2] at z'
    obtain ⟨r1, n, r2⟩ := r
    cases z'
    rcases I.tb.2 with ⟨_, q, _⟩ | ⟨_, _, _, _, q, _⟩
    · exact hrow.1 (z.trans q)
    · rw [r2] at q; cases q
  walk_at "go"
  (rename News _ _ _ _ => N2); (rename Fr _ _ _ _ => F2); (rename Obj.data _ = Data.cell (some (Value.ref _)) => e6')
  rename_i P h1 l1 h2 o6'
  have oP : Own hc L P := X.own (by lia)
  have I2 := (back _ _ [(P, W.listOf #[] 0)] _ _ _ _ _ _ _ _ _ _ _ _ _ _ _ _ F2 N2 (fun q hq => by rw [List.mem_singleton.mp hq]; exact oP) ⟨e1, e2, e3, e4, e5, e6', e7, e8⟩).map (fun y => (map_one hm y).symm)
  simp only [List.append_nil] at I2
  have hl2 : h2.IsList row vs.toArray := F2.lst hl0
  refine wpAny_execs_cons (wpAny_mono (Q := MidA gb hc outer L gs dr os m c7 c8 ca oc ps P ns) (E := E) ?_ ?_ (fun _ _ q => q))
  rotate_left
  · rintro f s' ⟨rfl, h', tk', pv, c, c5, rfl, q1, q2⟩
    exact wpAny_execs_nil (hQ _ _ _ _ _ _ q1 q2)
  refine wpAny_For ?_ (fun _ => by with_unfolding_all rfl)
  walk_at "go"
  clear F2 N2 back X₀ T₀ C₀ hsup htl
  refine wpAny_pyIter_list hl2 ?_
  have k3 : ∀ b o, h2.get? b = some o → (h2.push { cls := .type "list_iterator", data := .fields #[.ref row, .int 0 0] }).get? b = some o := fun b o q => Heap.get?_push_of_some _ q
  have it3 := Heap.get?_push_size h2 (o := { cls := .type "list_iterator", data := .fields #[.ref row, .int 0 0] }) rfl
  have I3 := I2.ext k3
  have hl3 := hl2.push { cls := .type "list_iterator", data := .fields #[.ref row, .int 0 0] }
  have LL2 : @LT.lt Nat _ (L + 8) h2.objs.size := by obtain ⟨o, q, _⟩ := I2.d1; exact Heap.lt_size q
  have PI : @LT.lt Nat _ P h2.objs.size := Heap.lt_size (I2.objs _ (.head _)).1
  have RI : @LT.lt Nat _ row h2.objs.size := by obtain ⟨o, ho, _⟩ := hl2; exact Heap.lt_size ho
  clear I2 k3
  dsimp only
  generalize h2.push { cls := .type "list_iterator", data := .fields #[.ref row, .int 0 0] } = h3 at *
  generalize h2.objs.size = i0 at *
  have hlen : vs.length = ns.length := hi.length
  refine forBy (LoopA gb hc outer L gs dr os m c7 c8 ca oc ps row P vs ns i0) ?_ (ns.length + 1) ?_ (fun _ => rfl)
  rotate_left
  · exact ⟨0, h3, [], 0, none, _, rfl, by lia, Nat.zero_le _, .nil, I3, ⟨_, it3, rfl, rfl⟩, hl3⟩
  rintro R' hR n s ⟨i, h4, pv, c, c5, tk4, rfl, hin, hip, hpv, I4, it4, hl4⟩
  have WK := (Walks.list (prog := PySem.Challenge.rw_ny0036_01.row.prog) (w := w) (A := (Ax 370 800 none (some outer) gd).deeper (rowEnv w.params L)) rfl i0 row (Nat.ne_of_lt RI) vs.toArray)
  have hW : ∀ b ∈ [i0], @LT.lt Nat _ (L + 8) b ∧ b ≠ ca ∧ ∀ q ∈ [(P, W.listOf pv.toArray c)], q.1 ≠ b := fun b hb => by
    rw [List.mem_singleton.mp hb]
    exact ⟨LL2, Nat.ne_of_gt (by lia), fun q hq => by rw [List.mem_singleton.mp hq]; exact Nat.ne_of_lt PI⟩
  have hpl := plainLen_le ns
  by_cases hlt : i < vs.toArray.size
  · refine WK.item i _ _ _ hlt ⟨it4, hl4⟩ fun v h5 tk5 hv it5 k5 => ?_
    obtain ⟨y, ty, rfl, hy⟩ := hi.at i v (by simpa using hv)
    have I5 := I4.but X k5 hW
    obtain ⟨⟨oI, hoI, hcI⟩, hl5⟩ := it5
    have I6 := I5.more (objs' := [(i0, oI), (P, W.listOf pv.toArray c)] ++ []) (fun q hq => by
      simp only [List.append_nil, List.mem_cons, List.not_mem_nil, or_false] at hq
      rcases hq with rfl | rfl
      · exact .inr ⟨hoI, X.own LL2⟩
      · exact .inl (.head _))
    have I7 := I6.map (map_one hm)
    have frL : ∀ q ∈ frOf h5 outer, @LT.lt Nat _ q.1 L := fun q hq => X.frL _ (frOf_mem hq).2
    obtain ⟨h₀, o1, o2, o3, o4, o5, o6, o7, o8, st₀, F, N, e1, e2, e3, e4, e5, e6, e7, e8, htl, hsup, back⟩ := RowInv.open X I7
    obtain ⟨X₀, T₀, C₀⟩ := G.keeps st₀
    dsimp only [rowLed, List.cons_append, List.nil_append] at N
    simp only [List.nil_append] at htl
    have hil : i < ns.length := (List.getElem?_eq_some_iff.mp hy).1
    have hpvl : pv.length = i := by have := hpv.length; rw [List.length_take] at this; lia
    have hpvs : pv.toArray.size ≤ 60 := by simp; lia
    have hP8 : @LT.lt Nat _ (L + 8) P := by lia
    dsimp only
    walk_at "go"
    · (rename News _ _ _ _ => N8); (rename Fr _ _ _ _ => F8); (rename (List.any _ _) = true => hany); (rename Obj.data _ = Data.cell (some (Value.int y ty)) => e5m)
      have hy0 : y = 0 ∨ y = 127 := by
        simp at hany
        lia
      have hpe := plainLen_stop hip hy hy0
      have I9 := (back _ _ [_, _] _ _ _ _ _ _ _ _ _ _ _ _ _ _ _ _ F8 (fun q hq => N8 q (.tail _ hq)) (fun q hq => by
        simp only [List.mem_cons, List.not_mem_nil, or_false] at hq
        rcases hq with rfl | rfl
        · exact X.own LL2
        · exact oP) ⟨e1, e2, e3, e4, e5m, e6, e7, e8⟩).less (objs' := [(P, W.listOf pv.toArray c)]) (fun q hq => .tail _ hq)
      exact hR _ _ ⟨rfl, _, _, pv, c, _, rfl, by unfold plOf; rw [hpe]; exact hpv, I9.map fun y => (map_one hm y).symm⟩
    · (rename News _ _ _ _ => N8); (rename Fr _ _ _ _ => F8); (rename (List.any _ _) = false => hany); (rename Obj.data _ = Data.cell (some (Value.int y ty)) => e5m)
      have hy0 : y ≠ 0 ∧ y ≠ 127 := by
        simp at hany
        lia
      have hlt' := plainLen_go hip hy hy0.1 hy0.2
      rw [show pv.toArray.push (Value.int y ty) = (pv ++ [Value.int y ty]).toArray by simp] at N8
      have I9 := (back _ _ [_, _] _ _ _ _ _ _ _ _ _ _ _ _ _ _ _ _ F8 (fun q hq => N8 q (.tail _ hq)) (fun q hq => by
        simp only [List.mem_cons, List.not_mem_nil, or_false] at hq
        rcases hq with rfl | rfl
        · exact X.own LL2
        · exact oP) ⟨e1, e2, e3, e4, e5m, e6, e7, e8⟩).less (objs' := [(i0, oI), (P, W.listOf (pv ++ [Value.int y ty]).toArray (c + 1))]) (fun q hq => hq)
      have hl9 := F8.keep
      refine ⟨n - 1, by lia, i + 1, _, pv ++ [Value.int y ty], c + 1, _, _, rfl, by lia, by lia, ?_, (I9.less (objs' := [(P, W.listOf (pv ++ [Value.int y ty]).toArray (c + 1))]) (fun q hq => .tail _ hq)).map (fun y => (map_one hm y).symm), ⟨oI, (I9.objs _ (.head _)).1, hcI⟩, ?_⟩
      · rw [List.take_succ, hy]
        exact ints_snoc hpv y ty
      · obtain ⟨o, ho, r⟩ := hl
        exact ⟨o, (I9.up row o ho (by simpa using hrow.1)).1 hrow.2, r⟩
  · have hie : i = plainLen ns := by simp at hlt; lia
    have hsz : i = vs.toArray.size := by simp at hlt ⊢; lia
    refine WK.done _ _ _ (by rw [← hsz]; exact ⟨it4, hl4⟩) fun h5 tk5 k5 => ?_
    exact wpAny_execs_nil (hR _ _ ⟨rfl, h5, tk5, pv, c, c5, rfl, by unfold plOf; rw [← hie]; exact hpv, I4.but X k5 hW⟩)
end Mine
namespace Mine
local macro_rules | `(tactic| omega) => `(tactic| lia)
theorem en_val {ns : List Int} (h : plainLen ns < ns.length) : (ns.getD (((plOf ns).length : Nat) : Int).toNat 0 == 0) = enOf ns := by
  rw [Int.toNat_natCast, plOf_len, List.getD_eq_getElem?_getD, List.getElem?_eq_getElem h]
  unfold enOf
  rw [List.getElem?_eq_getElem h, Bool.eq_iff_iff, beq_iff_eq, decide_eq_true_eq]
  simp
theorem en_no {ns : List Int} (h : ¬ plainLen ns < ns.length) : enOf ns = false := by
  unfold enOf
  rw [List.getElem?_eq_none (by lia)]
  rfl
set_option maxRecDepth 100000 in
set_option maxHeartbeats 4000000 in
theorem rowA2 {w : World} {mg mb : Str → Option Value} {loose : List Str} {mean : ExcName → Option Value} {gb : Heap} (G : Gd w mg mb loose mean gb)
    {hc : Heap} {outer : List Env} {L : Addr} {gd : Option (List Code)} {h : Heap} {gs : Array GenState} {dr : Drawn} {tk : Nat} {os : OsState} {Q : Flow → Shared → Prop} {E : Value → Shared → Prop} {m : Str → Option Value} {c1 c2 c3 c5 c7 : Option Value} {ca : Addr} {oc : Obj} {ps : Array Value}
    {row P : Addr} {vs pv : List Value} {c : Nat} {ns : List Int} {x : Str} {t1 : Tok}
    (X : RowCx gb hc outer L) (I : RowInv gb hc outer L h m c1 c2 c3 none c5 (some (.ref P)) c7 (some (.str x t1)) [(P, W.listOf pv.toArray c)] ca oc ps)
    (hm : m (Str.ofString "row") = some (.ref row)) (hl : hc.IsList row vs.toArray) (hi : IntsAre vs ns) (hpv : IntsAre pv (plOf ns)) (hnl : ns.length ≤ 60) (hrow : row ≠ 36 ∧ row ∉ frs outer) (hx : x.length ≤ 100) (hns : ∀ y ∈ ns, 0 ≤ y ∧ y < 1000)
    (hR : ∀ h' gs' tk', UpTo (frs outer) [36] hc h' → ((∀ g ∈ gs, g.bare = true) → ∀ g ∈ gs', g.bare = true) → (∃ ca oc ps, h'.get? ca = some oc ∧ h'.get? 36 = some (tabObj ps) ∧ TabOk gb ca oc ps ∧ ca ∉ frs outer) → Q (.ret (.bool true)) ⟨h', gs', dr, tk', os⟩)
    (hQ : ns[0]? ≠ some 0 → ∀ h' tk', RowInv gb hc outer L h' m c1 c2 c3 (some (.bool (enOf ns))) c5 (some (.ref P)) c7 (some (.str x t1)) [(P, W.listOf pv.toArray c)] ca oc ps → Q .next ⟨h', gs, dr, tk', os⟩) :
    wpAny (model PySem.Challenge.rw_ny0036_01.row.prog w) ((Ax 370 800 none (some outer) gd).deeper (rowEnv w.params L)) (execs (((rowBody w.params).drop 2).take 2) (rowEnv w.params L)) Q E ⟨h, gs, dr, tk, os⟩ := by
  w_top off
  k_with_none
  k_with "call ref" => refine' hold ?_
  k_with "storeName bool" => ((rename Fr _ _ _ _ => sF); (rename News _ _ _ _ => sN); (refine' storeRow sF sN ?hk ?hx ?hc ?U ?hd ?_; (case hk => rfl); (case hx => with_unfolding_all rfl); (case hc => with_unfolding_all rfl); (case U => k_updF); (case hd => assumption)); (clear sF sN); intro _ _ _ _ _)
  have l36 := X.lt36
  have caL := I.caL X
  have I1 := I.map (map_one hm)
  have oP := (I.objs _ (.head _)).2
  have oP2 := oP.2
  obtain ⟨h₀, o1, o2, o3, o4, o5, o6, o7, o8, st₀, F, N, e1, e2, e3, e4, e5, e6, e7, e8, htl, hsup, back⟩ := RowInv.open (front := [(P, W.listOf pv.toArray c)]) (back := []) X I1
  obtain ⟨X₀, T₀, C₀⟩ := G.keeps st₀
  revert X₀; k_fill; intro X₀
  conv => pattern (List.drop _ _); whnf
  simp only [List.take_succ_cons, List.take_zero]
  unfold rowEnv
  conv => pattern (rowScope _); whnf
  conv => pattern (rowScope _); whnf
  simp only [List.nil_append] at htl
  dsimp only [rowLed, List.cons_append, List.nil_append] at N
  have hl0 : h₀.IsList row vs.toArray := by
    obtain ⟨o, ho, r⟩ := hl
    refine ⟨o, hsup row o ho hrow.1 (fun z => ?_) hrow.2, r⟩
    have z' := I.hca
    rw [← z, (I.up row o ho (by simpa using hrow.1)).1 hrow.2] at z'
    obtain ⟨r1, n, r2⟩ := r
    cases z'
    rcases I.tb.2 with ⟨_, q, _⟩ | ⟨_, _, _, _, q, _⟩
    · exact hrow.1 (z.trans q)
    · rw [r2] at q; cases q
  have hpl := plainLen_le ns
  have hpll := plOf_len ns
  have hpvl : pv.length = plainLen ns := by have := hpv.length; lia
  have hvsl : vs.length = ns.length := hi.length
  have hpl60 : (plOf ns).length ≤ 60 := by lia
  walk_at "go"
  · (rename News _ _ _ _ => N9); (rename Fr _ _ _ _ => F9); (rename Obj.data _ = Data.cell (some (Value.bool _)) => e4'); (rename (((plOf ns).length : Int) < (ns.length : Int)) => hlt); (rename (ns.getD _ _ = 0) => hz); (rename decide _ = true => hd)
    have hnil : plOf ns = [] := of_decide_eq_true hd
    have hp0 : plainLen ns = 0 := by rw [← hpll, hnil]; rfl
    have hz0 : ns[0]? = some 0 := by
      rw [Int.toNat_natCast, hpll, hp0, List.getD_eq_getElem?_getD] at hz
      rw [List.getElem?_eq_getElem (show 0 < ns.length by lia)] at hz ⊢
      exact congrArg some hz
    have I9 := (back _ _ [_] _ _ _ _ _ _ _ _ _ _ _ _ _ _ _ _ F9 (fun q hq => N9 q (.tail _ hq)) (fun q hq => by rw [List.mem_singleton.mp hq]; exact oP) ⟨e1, e2, e3, e4', e5, e6, e7, e8⟩)
    have rL : @LT.lt Nat _ row L := by obtain ⟨o, ho, _⟩ := hl; rw [X.eL]; exact Heap.lt_size ho
    refine refused (ns := ns) (vs := vs) G (Nat.le_of_ble_eq_true rfl) (Nat.le_of_ble_eq_true rfl) rfl rfl (I9.ok X rfl rfl) (fun b hb => ⟨(I9.fb X rfl b hb).1, ?_⟩) (I9.stays X) (F9.lst hl0) hi hx hns hz0 ?_
    · rw [frs_cons rfl] at hb
      rcases List.mem_cons.mp hb with rfl | hb
      · exact Nat.ne_of_gt rL
      · exact fun z => hrow.2 (z ▸ hb)
    intro h' gs' tk' u bare
    have caF : ca ∉ frs (envOfC (Str.ofString "_law_row") (rowScope w.params) L 81 (.ref 80) :: outer) := fun z => (I9.fb (env := envOfC (Str.ofString "_law_row") (rowScope w.params) L 81 (.ref 80)) X rfl ca z).2.2 rfl
    have n36 : 36 ∉ frs (envOfC (Str.ofString "_law_row") (rowScope w.params) L 81 (.ref 80) :: outer) := fun z => (I9.fb (env := envOfC (Str.ofString "_law_row") (rowScope w.params) L 81 (.ref 80)) X rfl 36 z).2.1 rfl
    have hca' := (u ca oc I9.hca (fun z => nomatch z)).1 caF
    have hP' := (u 36 _ I9.hP (fun z => nomatch z)).1 n36
    have I10 := I9.upto (env := _) X rfl (u.more (fun _ q => q) (fun _ q => nomatch q)) hca' hP' I9.tb
    exact hR _ _ _ I10.up bare ⟨ca, oc, ps, hca', hP', I9.tb, I9.caF⟩
  · (rename News _ _ _ _ => N9); (rename Fr _ _ _ _ => F9); (rename Obj.data _ = Data.cell (some (Value.bool _)) => e4'); (rename (((plOf ns).length : Int) < (ns.length : Int)) => hlt); (rename decide _ = false => hd)
    rw [en_val (by lia)] at e4'
    have I9 := (back _ _ [_] _ _ _ _ _ _ _ _ _ _ _ _ _ _ _ _ F9 (fun q hq => N9 q (.tail _ hq)) (fun q hq => by rw [List.mem_singleton.mp hq]; exact oP) ⟨e1, e2, e3, e4', e5, e6, e7, e8⟩)
    refine hQ (fun z => ?_) _ _ (I9.map fun y => (map_one hm y).symm)
    have := plainLen_zero z
    exact of_decide_eq_false hd (List.length_eq_zero_iff.mp (by lia))
  · (rename News _ _ _ _ => N9); (rename Fr _ _ _ _ => F9); (rename Obj.data _ = Data.cell (some (Value.bool _)) => e4'); (rename (((plOf ns).length : Int) < (ns.length : Int)) => hlt); (rename (ns.getD _ _ ≠ 0) => hz)
    rw [en_val (by lia)] at e4'
    have I9 := (back _ _ [_] _ _ _ _ _ _ _ _ _ _ _ _ _ _ _ _ F9 N9 (fun q hq => by rw [List.mem_singleton.mp hq]; exact oP) ⟨e1, e2, e3, e4', e5, e6, e7, e8⟩)
    refine hQ (fun z => ?_) _ _ (I9.map fun y => (map_one hm y).symm)
    have hp0 := plainLen_zero z
    rw [Int.toNat_natCast, hpll, hp0, List.getD_eq_getElem?_getD, z] at hz
    exact hz rfl
  · (rename News _ _ _ _ => N9); (rename Fr _ _ _ _ => F9); (rename Obj.data _ = Data.cell (some (Value.bool _)) => e4'); (rename ¬ (((plOf ns).length : Int) < (ns.length : Int)) => hlt)
    rw [show decide (((plOf ns).length : Int) < (ns.length : Int)) = enOf ns by rw [en_no (by lia)]; exact decide_eq_false hlt] at e4'
    have I9 := (back _ _ [_] _ _ _ _ _ _ _ _ _ _ _ _ _ _ _ _ F9 N9 (fun q hq => by rw [List.mem_singleton.mp hq]; exact oP) ⟨e1, e2, e3, e4', e5, e6, e7, e8⟩)
    refine hQ (fun z => ?_) _ _ (I9.map fun y => (map_one hm y).symm)
    have hp0 := plainLen_zero z
    have := (List.getElem?_eq_some_iff.mp z).1
    lia
end Mine
namespace Mine
local macro_rules | `(tactic| omega) => `(tactic| lia)
abbrev rowBinds (x : Str) (t1 : Tok) (bs : Str) (t2 : Tok) (row : Addr) : List (Str × Value) := [(Str.ofString "signs", .str x t1), (Str.ofString "barred", .str bs t2), (Str.ofString "row", .ref row)]
theorem cells_get {h₀ h : Heap} {L : Addr} {cm : Str → Option Value} {l : List (Str × Addr)} {cells : List (Addr × Obj)} (x : CellsAre cm l cells) (N : News h₀ L h cells) : ∀ q ∈ l, ∃ o, h.get? q.2 = some o ∧ o.data = .cell (cm q.1) := by
  induction x with
  | nil => exact fun _ q => nomatch q
  | cons a _ ih =>
    intro q hq
    cases hq with
    | head => exact ⟨_, N.get (.head _), a⟩
    | tail _ hq => exact ih (fun q' h' => N q' (.tail _ h')) q hq
set_option maxRecDepth 100000 in
set_option maxHeartbeats 4000000 in
theorem row {w : World} {mg mb : Str → Option Value} {loose : List Str} {mean : ExcName → Option Value} {gb : Heap} (G : Gd w mg mb loose mean gb)
    {A : Around} {h : Heap} {gs : Array GenState} {dr : Drawn} {tk : Nat} {os : OsState} {Q E : Value → Shared → Prop} {row : Addr} {vs : List Value} {ns : List Int} {x bs : Str} {t1 t2 : Tok} {outer : List Env} {ca : Addr} {oc : Obj} {ps : Array Value}
    (hd : A.depth ≤ 370) (hu : A.units ≤ 800) (hh : A.handled = none) (hfr : A.frames = some outer) (hok : FramesOk h outer) (hfb : ∀ b ∈ frs outer, gb.get? b = none ∧ b ≠ 36 ∧ b ≠ ca ∧ b ≠ row)
    (st : gb.StaysIn h) (hca : h.get? ca = some oc) (hP : h.get? 36 = some (tabObj ps)) (tb : TabOk gb ca oc ps)
    (hl : h.IsList row vs.toArray) (hi : IntsAre vs ns) (hx0 : 0 < x.length) (hx : x.length ≤ 40) (hxn : ∀ c ∈ x.cps.toList, c ≠ 10) (hxb : ∀ c ∈ x.cps.toList, c < 16 ^ 8) (hbs : bs.cps.size < 1000) (hns : ∀ y ∈ ns, 0 ≤ y ∧ y < 1000) (hnl : ns.length ≤ 60) (hrow : row ≠ 36)
    (hQ : ∀ h' gs' tk', UpTo (frs outer) [36] h h' → ((∀ g ∈ gs, g.bare = true) → ∀ g ∈ gs', g.bare = true) → (∃ ca oc ps, h'.get? ca = some oc ∧ h'.get? 36 = some (tabObj ps) ∧ TabOk gb ca oc ps ∧ ca ∉ frs outer) → Q (.bool true) ⟨h', gs', dr, tk', os⟩) :
    wpAny (model PySem.Challenge.rw_ny0036_01.row.prog w) A (call (.ref 81) [.str x t1, .str bs t2, .ref row] []) Q E ⟨h, gs, dr, tk, os⟩ := by
  refine wpAny_ax hd hu ?_
  rw [hh, hfr]
  have X := (G.keeps st).1
  have T := (G.keeps st).2.1
  revert X; k_fill; intro X
  refine' callKC (binds := rowBinds x t1 bs t2 row) [] X ?k6 ?k7 T.nolimit ?k8 ?k9 ?kB ?kD ?_ ?c2 ?c3 ?c4
  case k6 => k_is
  case k7 => k_is
  case k8 => k_room
  case k9 => exact BindsTo.of_eq rfl
  case kB => exact kindsX rfl
  case kD => decide +kernel
  case c2 => exact rfl
  case c3 => exact rfl
  case c4 => exact rfl
  intro h₀ L h₁ tk₁ cells hid eL F NC Y k₁
  have Y : CellsAre _ [(_, L + 1 + 1 + 1 + 1 + 1 + 1 + 1 + 1), (_, L + 1 + 1 + 1 + 1 + 1 + 1 + 1), (_, L + 1 + 1 + 1 + 1 + 1 + 1), (_, L + 1 + 1 + 1 + 1 + 1), (_, L + 1 + 1 + 1 + 1), (_, L + 1 + 1 + 1), (_, L + 1 + 1), (_, L + 1)] _ := Y
  have dd := cells_get Y NC
  have rX : RowCx gb h outer L := ⟨G.n36, st, eL, hok, fun b hb => ⟨(hfb b hb).1, (hfb b hb).2.1⟩, ⟨_, hP⟩⟩
  have hcaF : ca ∉ frs outer := fun z => (hfb ca z).2.2.1 rfl
  have hrowF : row ∉ frs outer := fun z => (hfb row z).2.2.2 rfl
  have I : RowInv gb h outer L h₁ _ none none none none none none (some (.str bs t2)) (some (.str x t1)) [] ca oc ps :=
    ⟨F.ns, fun b o q _ => ⟨fun _ => k₁ b o q, o.slots, k₁ b o q⟩, dd _ (.head _), dd _ (.tail _ (.head _)), dd _ (.tail _ (.tail _ (.head _))), dd _ (.tail _ (.tail _ (.tail _ (.head _)))), dd _ (.tail _ (.tail _ (.tail _ (.tail _ (.head _))))), dd _ (.tail _ (.tail _ (.tail _ (.tail _ (.tail _ (.head _)))))), dd _ (.tail _ (.tail _ (.tail _ (.tail _ (.tail _ (.tail _ (.head _))))))), dd _ (.tail _ (.tail _ (.tail _ (.tail _ (.tail _ (.tail _ (.tail _ (.head _)))))))), (fun _ q => nomatch q), k₁ _ _ hca, k₁ _ _ hP, tb, hcaF⟩
  clear X T Y
  have hcaL : @LT.lt Nat _ ca L := by rw [eL]; exact Heap.lt_size hca
  show wpAny _ ((Ax 370 800 none (some outer) A.guards).deeper (rowEnv w.params L)) (execs (rowBody w.params) (rowEnv w.params L)) _ _ _
  refine execs_split 2 (rowA1 G rX I hcaL (by with_unfolding_all rfl) hl hi hnl ⟨hrow, hrowF⟩ ?_)
  intro h2 tk2 P pv c c5 hpv I2
  refine execs_part 2 2 (rowA2 G rX I2 (by with_unfolding_all rfl) hl hi hpv hnl ⟨hrow, hrowF⟩ (by lia) hns (fun h' gs' tk' a b c => hQ h' gs' tk' a b c) ?_)
  intro hn0 h3 tk3 I3
  obtain ⟨told, lines, left, ln, cl, hgo, ld, hp, htold, htb, hen⟩ := plain_law hns hn0 hx0 hx hxn hxb
  have lo := ld.lo (x.length - 1) (by lia)
  have hpl := plainLen_le ns
  have hpll := plOf_len ns
  have hlast : enOf ns = true → 0 < (plOf ns).length ∧ 0 < (plOf ns).getD ((-1 : Int) + ((plOf ns).length : Int)).toNat 0 ∧ (plOf ns).getD ((-1 : Int) + ((plOf ns).length : Int)).toNat 0 < 1000 := fun e => by
    have h0 := hen e
    have ho := out_end e (by lia) (Nat.le_refl _)
    refine ⟨h0, out_pos hns _ _ ho, ?_⟩
    rw [show ((-1 : Int) + ((plOf ns).length : Int)).toNat = (plOf ns).length - 1 by lia, List.getD_eq_getElem?_getD, List.getElem?_eq_getElem (by lia)]
    have hm : (plOf ns)[(plOf ns).length - 1] ∈ ns := List.mem_of_mem_take (List.getElem_mem (l := plOf ns) _)
    exact (hns _ hm).2
  refine execs_part 4 1 (rowB1 G rX I3 (by with_unfolding_all rfl) hl hi (by lia) hns hn0 ⟨hrow, hrowF⟩ hgo ?_)
  intro h4 gs4 tk4 T tv cT tt htv oT bare I4
  refine execs_part 5 1 (rowB2 G rX I4 (.tail _ (.head _)) hpv (by lia) hlast (by lia) ?_)
  intro h5 tk5 D objs' PA sub I5
  refine execs_part 6 2 (rowB3 (n := x.length) (lines := ln (x.length - 1)) G rX I5 (sub _ (.tail _ (.head _))) hpv (by lia) hx0 (by lia) PA (by rw [hp _ (by lia)]) (by lia) ?_)
  intro h6 tk6 tl ta I6
  refine execs_part 8 1 (rowB4 (asked := if enOf ns then ln (x.length - 1) else min (ln (x.length - 1)) (plOf ns).length) (ta := ta) G rX I6 (by with_unfolding_all rfl) (by with_unfolding_all rfl) (sub _ (.tail _ (.head _))) hpv (sub _ (.head _)) htv ?_ ?_ (by lia) htold ?_)
  · split <;> lia
  · split
    · exact fun _ => hen (by assumption)
    · lia
  intro h7 tk7 I7
  refine rowF (lines := ln (x.length - 1)) (tl := tl) G rX I7 (by with_unfolding_all rfl) ld (by lia) hxb htb hbs PA hp rfl ?_
  intro h8 tk8 m8 _ _ _ _ _ _ _ _ ca8 oc8 ps8 I8
  exact RetTo.ret (hQ _ _ _ I8.up bare ⟨ca8, oc8, ps8, I8.hca, I8.hP, I8.tb, I8.caF⟩)
end Mine
namespace Mine
/-- the law's end: True; all but the table stands, the generators are bare -/
theorem law_post {M : Model} {A : Around} {cd : Code} {s s₁ : Shared} {cw : ClaimW} {cl : Str → Option Addr} {mean : ExcName → Option Value} {args : List WData} {c P : Addr} (hT : TabsAt [(c, P)] s₁.heap) (hr : ∀ a x, cw.raises a x = false) (hp : cw.post args (.bool true) args = true)
    (h : codeAny M A cd (fun r s' => r = .ok (.ret (.bool true)) ∧ (∀ b o, b ≠ P → s₁.heap.get? b = some o → s'.heap.get? b = some o) ∧ (∃ ps, s'.heap.get? P = some (tabObj ps)) ∧ s'.os = s₁.os ∧ AllBare s'.gens) s) : codeAny M A cd (GoodWG cw cl mean args s₁) s :=
  codeAny_mono h fun r s' ⟨hr', keep, ⟨ps, hP⟩, hos, hg⟩ => by
    subst hr'
    have hTP := hT (c, P) (.head _)
    refine ⟨.inl ⟨.bool true, .bool true, [], rfl, hr args, .bool true, hp, fun _ => ⟨List.nodup_nil, fun _ q => nomatch q⟩⟩, ⟨fun b o e => ?_, fun b o e => ?_⟩, hos, hg⟩
    · by_cases hb : b = P
      · subst hb
        have e2 := hTP.2
        rw [e] at e2
        cases e2
        exact .inr (.inl ⟨(hTP.1.tab hTP.2).isCodeTable, rfl, #[], ps, rfl, by rw [Array.empty_append]; exact hP⟩)
      · exact .inl (keep b o hb e)
    · by_cases hb : b = P
      · subst hb; exact ⟨_, hP⟩
      · exact ⟨o, keep b o hb e⟩
end Mine
namespace Mine
noncomputable def lawFd (p : Params) : Option FuncData := match (Mine.hd.heap_39 p).lookup 86 with
  | some o => (match o.data with | .func f => some f | _ => none)
  | none => none
noncomputable def lawBody (p : Params) : List Stmt := match lawFd p with
  | some f => (match f.body with | .stmts b => b | _ => [])
  | none => []
noncomputable def lawScope (p : Params) : Scope := match lawFd p with | some f => f.scope | none => default
noncomputable def lawEnv (p : Params) (L fa : Addr) (cd : Value) : Env := envOf (Str.ofString "law") (lawScope p) L fa cd
end Mine
namespace Mine
/-- a word that the walk leaves alone -/
def Sealed (p : Prop) : Prop := p
/-- in sight while lists are made by hand -/
structure ByHand : Prop where
/-- a list comprehension without a test over a list that stands -/
theorem compList {prog : Program} {w : World} {A : Around} {E : Value → Shared → Prop} {s : Shared} {env : Env} {elt iter : Expr} {x : Str} {px : Pos} {scope : Scope} {cl : List (Str × Addr)} {pos : Pos} {Q : Value → Shared → Prop} (F : Value → Value → Prop) (hh : A.handled = none)
    (hclos : closureFor scope env = pure cl) (hcell : ∀ y ∈ scope.names, y.2 ≠ .cell) (hkind : scope.kind = .function)
    (hnames : ∀ y ∈ scope.names, y.2 = .local → scope.names.lookup y.1 = some .local) (hx : scope.names.lookup x = some .local)
    (h : wpAny (model prog w) A (eval iter env) (fun xv s₁ => Sealed (∃ D, ∃ ws : List Value, xv = .ref D ∧ s₁.heap.IsList D (List.toArray ws) ∧ ws.length ≤ 100 ∧
      (∀ C (i : Nat) v s₃ m₃ E', s₁.heap.objs.size ≤ C → ws[i]? = some v → s₃.heap.Ns C m₃ → m₃ x = some v → (∀ b o, s₁.heap.get? b = some o → s₃.heap.get? b = some o) →
        wpAny (model prog w) A (eval elt (compEnvC scope cl C env)) (fun y s₄ => Sealed (F v y ∧ Keeps s₃ s₄)) E' s₃) ∧
      (∀ D' h' tk ys n, s₁.heap.get? D' = none → h'.get? D' = some (W.listOf (List.toArray ys) n) → Paired F ws ys → (∀ b o, s₁.heap.get? b = some o → h'.get? b = some o) → Q (.ref D') { s₁ with heap := h', toks := tk }))) E s)
    (hs : ∀ x, foldedSetIterable iter env x = pure x := by intro _; rfl) :
    wpAny (model prog w) A (eval (.ListComp elt [⟨.Name x px, iter, [], 0⟩] scope pos) env) Q E s := by
  refine wpAny_ListComp_free (fun _ => true) F hclos hcell hkind hnames hx (wpAny_mono h (fun xv s₁ h₁ => ?_) fun _ _ e => e) hs
  obtain ⟨D, ws, rfl, hl, hw, he, hq⟩ := h₁
  refine wpAny_pyIter_list hl ?_
  have k3 : ∀ b o, s₁.heap.get? b = some o → (s₁.heap.push { cls := .type "list_iterator", data := .fields #[.ref D, .int 0 0] }).get? b = some o := fun b o q => Heap.get?_push_of_some _ q
  have s3 : (s₁.heap.push { cls := .type "list_iterator", data := .fields #[.ref D, .int 0 0] }).objs.size = s₁.heap.objs.size + 1 := Heap.size_push ..
  have it3 := Heap.get?_push_size s₁.heap (o := { cls := .type "list_iterator", data := .fields #[.ref D, .int 0 0] }) rfl
  have hl3 := hl.push { cls := .type "list_iterator", data := .fields #[.ref D, .int 0 0] }
  have DI : @LT.lt Nat _ D s₁.heap.objs.size := by obtain ⟨o, q, _⟩ := hl; exact Heap.lt_size q
  have nI : s₁.heap.get? s₁.heap.objs.size = none := Heap.get?_none_of_le (Nat.le_refl _)
  have out : ∀ b o, s₁.heap.get? b = some o → b ∉ [s₁.heap.objs.size] := fun b o q z => by rw [List.mem_singleton.mp z, nI] at q; cases q
  dsimp only
  generalize s₁.heap.push { cls := .type "list_iterator", data := .fields #[.ref D, .int 0 0] } = h3 at *
  refine ⟨s₁.heap.objs.size, [s₁.heap.objs.size, D], [s₁.heap.objs.size], ws.toArray.size, _, _, rfl, Walks.list hh s₁.heap.objs.size D (Nat.ne_of_lt DI) ws.toArray, ?_, ⟨⟨_, it3, rfl, rfl⟩, hl3⟩, fun b hb => ?_, ⟨?_, ?_⟩, ?_⟩
  · have := sizeLine_eq; simp; lia
  · rw [s3]
    rcases List.mem_cons.mp hb with rfl | hb
    · exact Nat.lt_succ_self _
    · rw [List.mem_singleton.mp hb]; exact Nat.lt_succ_of_lt DI
  · rintro C i v s5 m5 E' hC hv hns hmx k5 _
    exact wpAny_tests_nil ⟨rfl, s5.heap, s5.toks, rfl, fun _ _ e => e⟩
  · rintro C i v s5 m5 E' hC hv _ hns hmx k5 _
    rw [s3] at hC
    exact he C i v s5 m5 E' (Nat.le_of_succ_le hC) (by simpa using hv) hns hmx fun b o q => k5 b o (out b o q) (k3 b o q)
  · rintro D' h' tk ys vs hD' hl' ⟨n, hpl⟩ hlen hP hF k'
    have hvs : vs = ws := by
      apply List.ext_getElem?
      intro j
      cases e : vs[j]? with
      | some v => have := hP j v e; simpa using this.symm
      | none =>
        have := List.getElem?_eq_none_iff.mp e
        rw [List.getElem?_eq_none]
        simp at hlen; lia
    subst hvs
    have hf : (vs.filter fun _ => true) = vs := List.filter_eq_self.mpr (fun _ _ => rfl)
    rw [hf] at hF
    refine hq D' h' tk ys.toList n ?_ (by simpa [W.listOf] using hpl) hF fun b o q => k' b o (out b o q) (k3 b o q)
    cases q : s₁.heap.get? D' with
    | none => rfl
    | some o => rw [k3 _ _ q] at hD'; cases hD'
end Mine
namespace Mine
local macro_rules | `(tactic| omega) => `(tactic| lia)
set_option maxRecDepth 100000 in
set_option maxHeartbeats 4000000 in
theorem lawS1 {w : World} {mg mb : Str → Option Value} {loose : List Str} {mean : ExcName → Option Value} {gb : Heap} (G : Gd w mg mb loose mean gb)
    {A : Around} {L fa : Addr} {cd : Value} {h : Heap} {gs : Array GenState} {dr : Drawn} {tk : Nat} {os : OsState} {Q : Flow → Shared → Prop} {E : Value → Shared → Prop} {sc : Addr} {vs : List Value} {ns : List Int}
    (F : Fr gb L h (fun y => if y = Str.ofString "script" then some (.ref sc) else none)) (N : News gb L h [(36, tabObj #[])]) (hl : gb.IsList sc vs.toArray) (hi : IntsAre vs ns) (hn : ns.length ≤ 63)
    (hQ : ∀ h' tk' D ys c, IntsAre ys (ns.map fun k => k.fmod 1000000) → D ≠ 36 → Fr gb L h' (fun y => if y = Str.ofString "draws" then some (.ref D) else if y = Str.ofString "script" then some (.ref sc) else none) → News gb L h' [(D, W.listOf ys.toArray c), (36, tabObj #[])] → Q .next ⟨h', gs, dr, tk', os⟩) :
    wpAny (model PySem.Challenge.rw_ny0036_01.row.prog w) (callerA.deeper (lawEnv w.params L fa cd)) (execs ((lawBody w.params).take 1) (lawEnv w.params L fa cd)) Q E ⟨h, gs, dr, tk, os⟩ := by
  w_top off
  k_with_none
  have X₀ := G.X
  have T₀ := G.T
  have C₀ := G.C
  revert X₀; k_fill; intro X₀
  conv => pattern (lawBody _); whnf
  simp only [List.take_succ_cons, List.take_zero]
  unfold lawEnv
  conv => pattern (lawScope _); whnf
  conv => pattern (lawScope _); whnf
  walk_at "go"
  (rename News _ _ _ _ => N9); (rename Fr _ _ _ _ => F9); (rename IntsAre _ (List.map _ _) => hi9)
  rename_i o1
  rw [List.take_of_length_le hn] at hi9
  exact hQ _ _ _ _ _ hi9 (fun z => o1.2 z.symm) F9 (fun q hq => N9 q (by
    simp only [List.mem_cons, List.not_mem_nil, or_false] at hq ⊢
    rcases hq with rfl | rfl
    · exact .inl rfl
    · exact .inr (.inr rfl)))
end Mine
namespace Mine
local macro_rules | `(tactic| omega) => `(tactic| lia)
/-- the table of sizes -/
def sizeTab : List Int := [0, 1, 2, 3, 4, 5, 6, 127]
theorem push_all {h₀ h5 : Heap} {L C : Addr} {m m5 : Str → Option Value} {news : List (Addr × Obj)} {o : Obj} (F5 : Fr h₀ L h5 m) (N5 : News h₀ L h5 news) (hns : h5.Ns C m5) (hf : o.isFreed = false) :
    ∃ h6, h6 = h5.push o ∧ Fr h₀ L h6 m ∧ News h₀ L h6 ((h5.objs.size, o) :: news) ∧ h6.Ns C m5 ∧ ∀ b q, h5.get? b = some q → h6.get? b = some q :=
  ⟨_, rfl, F5.push o, News.push F5 N5 o (hfree := hf), hns.keeps (fun b q z => Heap.get?_push_of_some _ z), fun b q z => Heap.get?_push_of_some _ z⟩
theorem News.more1 {h₀ h h' : Heap} {L D : Addr} {m : Str → Option Value} {news : List (Addr × Obj)} {o : Obj} (N : News h₀ L h' news) (F : Fr h₀ L h m) (nD : h.get? D = none) (hD : h'.get? D = some o) : News h₀ L h' ((D, o) :: news) := fun q hq => by
  rcases List.mem_cons.mp hq with rfl | hq
  · refine ⟨hD, fun z => ?_, ?_⟩
    · obtain ⟨oL, _, _, e, _⟩ := F.ns
      rw [← z, nD] at e; cases e
    · cases e : h₀.get? D with
      | none => rfl
      | some o' => rw [F.keep _ _ e] at nD; cases nD
  · exact N q hq
set_option maxRecDepth 100000 in
set_option maxHeartbeats 4000000 in
theorem lawS2 {w : World} {mg mb : Str → Option Value} {loose : List Str} {mean : ExcName → Option Value} {gb : Heap} (G : Gd w mg mb loose mean gb)
    {A : Around} {L fa : Addr} {cd : Value} {h : Heap} {gs : Array GenState} {dr : Drawn} {tk : Nat} {os : OsState} {Q : Flow → Shared → Prop} {E : Value → Shared → Prop} {sc : Addr} {vs : List Value} {ns : List Int} {m : Str → Option Value}
    (F : Fr gb L h (fun y => if y = Str.ofString "draws" then some (.ref sc) else m y)) {cc : Nat} (N : News gb L h [(sc, W.listOf vs.toArray cc), (36, tabObj #[])]) (hsc : sc ≠ 36) (hb : ∀ y ∈ ns, 0 ≤ y ∧ y < 1000000) (hi : IntsAre vs ns) (hn : ns.length ≤ 63)
    (hQ : ∀ h' tk' Z zv zs c, IntsAre zv zs → zs.length ≤ 7 → (∀ z ∈ zs, 0 ≤ z ∧ z < 1000) → @Ne Nat Z sc → @Ne Nat Z 36 → Fr gb L h' (fun y => if y = Str.ofString "sizes" then some (.ref Z) else if y = Str.ofString "draws" then some (.ref sc) else m y) → News gb L h' [(Z, W.listOf zv.toArray c), (sc, W.listOf vs.toArray cc), (36, tabObj #[])] → Q .next ⟨h', gs, dr, tk', os⟩) :
    wpAny (model PySem.Challenge.rw_ny0036_01.row.prog w) (callerA.deeper (lawEnv w.params L fa cd)) (execs (((lawBody w.params).drop 1).take 1) (lawEnv w.params L fa cd)) Q E ⟨h, gs, dr, tk, os⟩ := by
  w_top off
  k_with_none
  k_with "eval ListComp" => refine' hold ?_
  k_with "newList" => ((rename ByHand => bh); refine' hold ?_)
  have X₀ := G.X
  have T₀ := G.T
  have C₀ := G.C
  revert X₀; k_fill; intro X₀
  conv => pattern (List.drop _ _); whnf
  simp only [List.take_succ_cons, List.take_zero]
  unfold lawEnv
  conv => pattern (lawScope _); whnf
  conv => pattern (lawScope _); whnf
  walk_at "go"
  refine' compList (fun v y => ∃ (a : Int) (t u : Tok), v = Value.int a t ∧ y = Value.int (sizeTab.getD (Int.fmod a 8).toNat 0) u) rfl ?hclos ?hcell ?hkind ?hnames ?hx ?_ ?hs
  case hclos => with_unfolding_all rfl
  case hcell => decide
  case hkind => rfl
  case hnames => decide
  case hx => with_unfolding_all rfl
  case hs => intro _; with_unfolding_all rfl
  walk_at "go"
  (rename News _ _ _ _ => N2); (rename Fr _ _ _ _ => F2); (rename IntsAre _ (List.take 5 ns) => hi5)
  rename_i D ws h2 _ _ l1
  have hw5 : ws.length ≤ 5 := by have := hi5.length; rw [List.length_take] at this; lia
  refine ⟨D, ws, rfl, N2.isList (.head _), by lia, ?_, ?_⟩
  · rintro C i v ⟨h5, g5, d5, tk5, os5⟩ m5 E' hC hv hns hmx k5
    obtain ⟨a, t, rfl, ha⟩ := IntsAre.at hi5 i v hv
    dsimp only at hC k5 hns ⊢
    have F5 := Mine.Fr.ext F2 k5
    have N5 := Mine.News.ext N2 k5
    have hb5 := hb a (List.mem_of_mem_take (List.mem_of_getElem? ha))
    clear F2 N2
    have bh : ByHand := ⟨⟩
    walk_at "go"
    refine wpAny_newObj_type ?_ (by show (List.toArray _).size ≤ sizeLine; have := sizeLine_eq; rw [List.size_toArray]; simp only [List.length_cons, List.length_nil]; lia)
    have kq := push_all (o := W.listOf (List.toArray [Value.int 0 tk5, Value.int 1 (tk5 + 1), Value.int 2 (tk5 + 1 + 1), Value.int 3 (tk5 + 1 + 1 + 1), Value.int 4 (tk5 + 1 + 1 + 1 + 1), Value.int 5 (tk5 + 1 + 1 + 1 + 1 + 1), Value.int 6 (tk5 + 1 + 1 + 1 + 1 + 1 + 1), Value.int 127 (tk5 + 1 + 1 + 1 + 1 + 1 + 1 + 1)]) 0) F5 N5 hns rfl
    dsimp only
    obtain ⟨h6, eh6, F6, N6, hns6, k6⟩ := kq
    show wpAny _ _ _ _ _ ⟨h5.push (W.listOf (List.toArray [Value.int 0 tk5, Value.int 1 (tk5 + 1), Value.int 2 (tk5 + 1 + 1), Value.int 3 (tk5 + 1 + 1 + 1), Value.int 4 (tk5 + 1 + 1 + 1 + 1), Value.int 5 (tk5 + 1 + 1 + 1 + 1 + 1), Value.int 6 (tk5 + 1 + 1 + 1 + 1 + 1 + 1), Value.int 127 (tk5 + 1 + 1 + 1 + 1 + 1 + 1 + 1)]) 0), g5, d5, _, os5⟩
    rw [← eh6]
    clear F5 N5 hns eh6
    generalize h5.objs.size = p6 at *
    walk_at "go"
    all_goals ((rename a.fmod 8 = _ => kk); exact ⟨⟨a, t, _, rfl, by rw [kk]; rfl⟩, h6, _, rfl, k6⟩)
  · rintro D' h' tk' ys c nD' hD' hp k'
    have hiy : IntsAre ys ((ns.take 5).map fun k => sizeTab.getD (k.fmod 8).toNat 0) := paired_map (c := fun a : Int => a) (fun _ _ e => e) hp _ (by simpa using hi5)
    have F7 := Mine.Fr.ext F2 k'
    have N7 := Mine.News.more1 (Mine.News.ext N2 k') F2 nD' hD'
    have ne : ∀ b o, h2.get? b = some o → @Ne Nat D' b := fun b o q z => by
      rw [show D' = b from z, q] at nD'; cases nD'
    have n1 := ne _ _ (N2.get (.head _))
    have n2 := ne _ _ (N2.get (.tail _ (.head _)))
    have n3 := ne _ _ (N2.get (.tail _ (.tail _ (.head _))))
    have hiz : ∀ z ∈ (ns.take 5).map (fun k => sizeTab.getD (k.fmod 8).toNat 0), 0 ≤ z ∧ z < 1000 := fun z hz => by
      obtain ⟨k, _, rfl⟩ := List.mem_map.mp hz
      have h8 : (k.fmod 8).toNat < 8 := by have := Int.fmod_lt_of_pos k (b := 8) (by decide); lia
      revert h8
      generalize (k.fmod 8).toNat = j
      revert j
      decide
    have hzl : ((ns.take 5).map (fun k => sizeTab.getD (k.fmod 8).toNat 0)).length ≤ 5 := by rw [List.length_map, List.length_take]; lia
    clear F2 N2 hp k' hi5
    generalize (ns.take 5).map (fun k => sizeTab.getD (k.fmod 8).toNat 0) = zs at *
    dsimp only
    walk_at "go"
    all_goals
      (rename News _ _ _ _ => N9); (rename Fr _ _ _ _ => F9); (rename IntsAre _ (zs ++ _) => hi9)
      refine hQ _ _ _ _ _ 0 hi9 ?_ ?_ ?_ ?_ F9 ?_
      · simp only [List.length_append, List.length_cons, List.length_nil]; lia
      · intro z hz
        rcases List.mem_append.mp hz with hz' | hz'
        · exact hiz z hz'
        · clear hz; revert z; decide
      · lia
      · lia
      · intro q hq
        refine N9 q ?_
        simp only [List.mem_cons, List.not_mem_nil, or_false] at hq ⊢
        rcases hq with rfl | rfl | rfl
        · exact .inl rfl
        · simp
        · simp
end Mine
namespace Mine
local macro_rules | `(tactic| omega) => `(tactic| lia)
/-- the signs that the law draws from -/
def OneSign (y : Value) : Prop := ∃ (c : Nat) (u : Tok), y = .str ⟨#[c]⟩ u ∧ c ≠ 10 ∧ c < 16 ^ 8
theorem paired_signs {ws ys : List Value} (p : Paired (fun _ y => OneSign y) ws ys) : ∃ l : List Str, StrsAre ys l ∧ l.length = ws.length ∧ ∀ a ∈ l, a.length = 1 ∧ ∀ q ∈ a.cps.toList, q ≠ 10 ∧ q < 16 ^ 8 := by
  induction p with
  | nil => exact ⟨[], .nil, rfl, fun _ q => nomatch q⟩
  | cons q _ ih =>
    obtain ⟨c, u, rfl, h1, h2⟩ := q
    obtain ⟨l, a, b, d⟩ := ih
    refine ⟨⟨#[c]⟩ :: l, .cons _ _ a, congrArg Nat.succ b, fun x hx => ?_⟩
    rcases List.mem_cons.mp hx with rfl | hx
    · refine ⟨rfl, fun q hq => ?_⟩
      rw [List.mem_singleton.mp (show q ∈ [c] from hq)]
      exact ⟨h1, h2⟩
    · exact d x hx
theorem join_all' {P : Nat → Prop} (sep : Str) (hs : sep.cps.toList = []) : ∀ l : List Str, (∀ a ∈ l, ∀ q ∈ a.cps.toList, P q) → ∀ q ∈ (Str.join sep l).cps.toList, P q
  | [], _, q, hq => by
    have hq' : q ∈ ([] : List Nat) := hq
    exact nomatch hq'
  | [x], h, q, hq => h x (.head _) q hq
  | x :: y :: r, h, q, hq => by
    have hq' : q ∈ (x ++ sep ++ Str.join sep (y :: r)).cps.toList := hq
    rw [Str.cps_append, Str.cps_append, Array.toList_append, Array.toList_append, hs, List.append_nil] at hq'
    rcases List.mem_append.mp hq' with z | z
    · exact h x (.head _) q z
    · exact join_all' sep hs (y :: r) (fun a ha => h a (.tail _ ha)) q z
theorem join_all {P : Nat → Prop} (l : List Str) (h : ∀ a ∈ l, ∀ q ∈ a.cps.toList, P q) : ∀ q ∈ (Txt.join (Str.ofString "") l).cps.toList, P q := by
  show ∀ q ∈ (Builtin.Str.glued (Str.ofString "") l).cps.toList, P q
  rw [StrLaws.glued_eq_join]
  exact join_all' _ (by decide +kernel) l h
/-- the alphabet's signs -/
def signTab : List Nat := [97, 98, 39, 35, 9, 13, 8232, 127]
theorem sign_at : ∀ j : Nat, j < 8 → Txt.item (Str.ofString "ab'#\t\r\u2028\x7f") (j : Int) = ⟨#[signTab.getD j 0]⟩ := by decide +kernel
theorem sign_fine : ∀ j : Nat, j < 8 → signTab.getD j 0 ≠ 10 ∧ signTab.getD j 0 < 16 ^ 8 := by decide
theorem oneSign {k : Int} {u : Tok} (h0 : 0 ≤ k) (h8 : k < 8) : OneSign (.str (Txt.item (Str.ofString "ab'#\t\r\u2028\x7f") k) u) := by
  obtain ⟨j, rfl⟩ := Int.eq_ofNat_of_zero_le h0
  have hj : j < 8 := by lia
  exact ⟨_, u, by rw [show ((j : Nat) : Int) = (j : Int) from rfl, sign_at j hj], (sign_fine j hj).1, (sign_fine j hj).2⟩
/-- what stands ahead of the signs drawn -/
theorem head_fine : (Str.ofString "a\rb'#a\u2028\tab").length = 10 ∧ ∀ q ∈ (Str.ofString "a\rb'#a\u2028\tab").cps.toList, q ≠ 10 ∧ q < 16 ^ 8 := by decide +kernel
theorem storeLawS {M : Model} {A : Around} {E : Value → Shared → Prop} {s : Shared} {h₀ : Heap} {L a : Addr} {m : Str → Option Value} {cn : Str} {cs : Scope} {ccd : Value} {x y V : Str} {t : Tok} {news : List (Addr × Obj)} {Q : Unit → Shared → Prop} (F : Fr h₀ L s.heap m) (N : News h₀ L s.heap news)
    (hk : cs.kind = .function) (hx : (envOf cn cs L a ccd).kindOf x = some .local) (e : y = V)
    (h : ∀ h' t', Fr h₀ L h' (fun z => if z = x then some (.str V t') else m z) → News h₀ L h' news → Q () { s with heap := h', toks := s.toks + 1 }) : wpAny M A (storeName (envOf cn cs L a ccd) x (.str y t)) Q E s :=
  storeX_L (cl := []) F N (fun h' F' N' => h h' t (e ▸ F') N') hk hx
set_option maxRecDepth 100000 in
set_option maxHeartbeats 4000000 in
theorem lawS3 {w : World} {mg mb : Str → Option Value} {loose : List Str} {mean : ExcName → Option Value} {gb : Heap} (G : Gd w mg mb loose mean gb)
    {A : Around} {L fa : Addr} {cd : Value} {h : Heap} {gs : Array GenState} {dr : Drawn} {tk : Nat} {os : OsState} {Q : Flow → Shared → Prop} {E : Value → Shared → Prop} {sc Z : Addr} {vs zv : List Value} {ns : List Int} {m : Str → Option Value} {c cc : Nat}
    (F : Fr gb L h (fun y => if y = Str.ofString "sizes" then some (.ref Z) else if y = Str.ofString "draws" then some (.ref sc) else m y)) (N : News gb L h [(Z, W.listOf zv.toArray c), (sc, W.listOf vs.toArray cc), (36, tabObj #[])]) (hZ1 : @Ne Nat Z sc) (hZ2 : @Ne Nat Z 36) (hsc : sc ≠ 36) (hb : ∀ y ∈ ns, 0 ≤ y ∧ y < 1000000) (hi : IntsAre vs ns) (hn : ns.length ≤ 63)
    (hQ : ∀ h' tk' X t, 0 < X.length → X.length ≤ 40 → (∀ q ∈ X.cps.toList, q ≠ 10 ∧ q < 16 ^ 8) → Fr gb L h' (fun y => if y = Str.ofString "signs" then some (.str X t) else if y = Str.ofString "sizes" then some (.ref Z) else if y = Str.ofString "draws" then some (.ref sc) else m y) → News gb L h' [(Z, W.listOf zv.toArray c), (sc, W.listOf vs.toArray cc), (36, tabObj #[])] → Q .next ⟨h', gs, dr, tk', os⟩) :
    wpAny (model PySem.Challenge.rw_ny0036_01.row.prog w) (callerA.deeper (lawEnv w.params L fa cd)) (execs (((lawBody w.params).drop 2).take 1) (lawEnv w.params L fa cd)) Q E ⟨h, gs, dr, tk, os⟩ := by
  w_top off
  k_with_none
  k_with "eval ListComp" => refine' hold ?_
  k_with "storeName str" => refine' hold ?_
  k_with "call builtin:str.join" => refine' hold ?_
  k_with "subscriptTail Constant BinOp str int" => refine' hold ?_
  k_with "binaryOp Add str str" => refine' hold ?_
  have X₀ := G.X
  have T₀ := G.T
  have C₀ := G.C
  revert X₀; k_fill; intro X₀
  conv => pattern (List.drop _ _); whnf
  simp only [List.take_succ_cons, List.take_zero]
  unfold lawEnv
  conv => pattern (lawScope _); whnf
  conv => pattern (lawScope _); whnf
  walk_at "go"
  refine' compList (fun _ y => OneSign y) rfl ?hclos ?hcell ?hkind ?hnames ?hx ?_ ?hs
  case hclos => with_unfolding_all rfl
  case hcell => decide
  case hkind => rfl
  case hnames => decide
  case hx => with_unfolding_all rfl
  case hs => intro _; with_unfolding_all rfl
  walk_at "go"
  (rename News _ _ _ _ => N2); (rename Fr _ _ _ _ => F2); (rename IntsAre _ (List.take 8 ns) => hi5)
  rename_i D ws h2 _ _ l1
  have hw5 : ws.length ≤ 8 := by have := hi5.length; rw [List.length_take] at this; lia
  refine ⟨D, ws, rfl, N2.isList (.head _), by lia, ?_, ?_⟩
  · rintro C i v ⟨h5, g5, d5, tk5, os5⟩ m5 E' hC hv hns hmx k5
    obtain ⟨a, t, rfl, ha⟩ := IntsAre.at hi5 i v hv
    dsimp only at hC k5 hns ⊢
    have F5 := Mine.Fr.ext F2 k5
    have N5 := Mine.News.ext N2 k5
    have hb5 := hb a (List.mem_of_mem_take (List.mem_of_getElem? ha))
    clear F2 N2
    walk_at "go"
    exact ⟨oneSign (Int.fmod_nonneg_of_pos _ (by decide)) (Int.fmod_lt_of_pos _ (by decide)), h5, _, rfl, fun _ _ e => e⟩
  · rintro D' h' tk' ys c nD' hD' hp k'
    have F7 := Mine.Fr.ext F2 k'
    have N7 := Mine.News.more1 (Mine.News.ext N2 k') F2 nD' hD'
    obtain ⟨l, hl, hll, hlf⟩ := paired_signs hp
    dsimp only
    clear F2 N2 hp k'
    have hl8 : l.length ≤ 8 := by lia
    have hones := KT.join_ones l (fun a ha => (hlf a ha).1)
    have hsum : (l.map (·.length)).sum ≤ 8 := by
      have := PyProof.Rows.sumLen_of_ones l (fun a ha => (hlf a ha).1)
      lia
    have hfine := join_all l (fun a ha => (hlf a ha).2)
    walk_at "go"
    unfold Hold
    refine' join_list (N7.isList (.head _)) (by simpa using hl) (by rw [show (Str.ofString "").length = 0 from by decide]; lia) ?_
    intro t9 tk9
    generalize Txt.join (Str.ofString "") l = jl at hones hfine ⊢
    dsimp only
    walk_at "go"
    unfold Hold
    refine' PyProof.Rows.add_str ?_ (by have := sizeLine_eq; rw [head_fine.1]; lia)
    intro t10 tk10
    walk_at "go"
    unfold Hold
    refine storeLawS F7 N7 rfl (by with_unfolding_all rfl) rfl ?_
    intro h11 t11 F11 N11
    walk_at "go"
    refine hQ _ _ _ _ ?_ ?_ ?_ F11 (fun q hq => N11 q (.tail _ (.tail _ hq)))
    · rw [Str.length_append, head_fine.1]; lia
    · rw [Str.length_append, head_fine.1]; lia
    · intro q hq
      rw [Str.cps_append, Array.toList_append] at hq
      exact (List.mem_append.mp hq).elim (head_fine.2 q) (hfine q)
end Mine
namespace Mine
local macro_rules | `(tactic| omega) => `(tactic| lia)
set_option maxRecDepth 100000 in
set_option maxHeartbeats 4000000 in
theorem lawS4 {w : World} {mg mb : Str → Option Value} {loose : List Str} {mean : ExcName → Option Value} {gb : Heap} (G : Gd w mg mb loose mean gb)
    {A : Around} {L fa : Addr} {cd : Value} {h : Heap} {gs : Array GenState} {dr : Drawn} {tk : Nat} {os : OsState} {Q : Flow → Shared → Prop} {E : Value → Shared → Prop} {sc Z : Addr} {vs zv : List Value} {ns : List Int} {m : Str → Option Value} {c cc : Nat} {X : Str} {t1 : Tok}
    (F : Fr gb L h (fun y => if y = Str.ofString "signs" then some (.str X t1) else if y = Str.ofString "sizes" then some (.ref Z) else if y = Str.ofString "draws" then some (.ref sc) else m y)) (N : News gb L h [(Z, W.listOf zv.toArray c), (sc, W.listOf vs.toArray cc), (36, tabObj #[])]) (hZ1 : @Ne Nat Z sc) (hZ2 : @Ne Nat Z 36) (hsc : sc ≠ 36) (hb : ∀ y ∈ ns, 0 ≤ y ∧ y < 1000000) (hi : IntsAre vs ns) (hn : ns.length ≤ 63)
    (hQ : ∀ h' tk' bs t, bs.cps.size < 1000 → Fr gb L h' (fun y => if y = Str.ofString "barred" then some (.str bs t) else if y = Str.ofString "signs" then some (.str X t1) else if y = Str.ofString "sizes" then some (.ref Z) else if y = Str.ofString "draws" then some (.ref sc) else m y) → News gb L h' [(Z, W.listOf zv.toArray c), (sc, W.listOf vs.toArray cc), (36, tabObj #[])] → Q .next ⟨h', gs, dr, tk', os⟩) :
    wpAny (model PySem.Challenge.rw_ny0036_01.row.prog w) (callerA.deeper (lawEnv w.params L fa cd)) (execs (((lawBody w.params).drop 3).take 1) (lawEnv w.params L fa cd)) Q E ⟨h, gs, dr, tk, os⟩ := by
  w_top off
  k_with_none
  k_with "newList" => refine' hold ?_
  k_with "storeName str" => refine' hold ?_
  have X₀ := G.X
  have T₀ := G.T
  have C₀ := G.C
  revert X₀; k_fill; intro X₀
  conv => pattern (List.drop _ _); whnf
  simp only [List.take_succ_cons, List.take_zero]
  unfold lawEnv
  conv => pattern (lawScope _); whnf
  conv => pattern (lawScope _); whnf
  walk_at "go"
  unfold Hold
  refine wpAny_newObj_type ?_ (by show (List.toArray _).size ≤ sizeLine; have := sizeLine_eq; rw [List.size_toArray]; simp only [List.length_cons, List.length_nil]; omega)
  have N6 := News.push F N (W.listOf (List.toArray [Value.str (Str.ofString "\r") tk, Value.str (Str.ofString "'") (tk + 1), Value.str (Str.ofString "\r#") (tk + 1 + 1), Value.str (Str.ofString "") (tk + 1 + 1 + 1)]) 0)
  have F6 := F.push (W.listOf (List.toArray [Value.str (Str.ofString "\r") tk, Value.str (Str.ofString "'") (tk + 1), Value.str (Str.ofString "\r#") (tk + 1 + 1), Value.str (Str.ofString "") (tk + 1 + 1 + 1)]) 0)
  clear F N
  dsimp only
  show wpAny _ _ _ _ _ ⟨h.push (W.listOf (List.toArray [Value.str (Str.ofString "\r") tk, Value.str (Str.ofString "'") (tk + 1), Value.str (Str.ofString "\r#") (tk + 1 + 1), Value.str (Str.ofString "") (tk + 1 + 1 + 1)]) 0), gs, dr, _, os⟩
  generalize h.push (W.listOf (List.toArray [Value.str (Str.ofString "\r") tk, Value.str (Str.ofString "'") (tk + 1), Value.str (Str.ofString "\r#") (tk + 1 + 1), Value.str (Str.ofString "") (tk + 1 + 1 + 1)]) 0) = h6 at *
  generalize h.objs.size = p6 at *
  walk_at "go"
  all_goals
    unfold Hold
    (rename News _ _ _ _ => N9); (rename Fr _ _ _ _ => F9)
    refine storeLawS F9 N9 rfl (by with_unfolding_all rfl) rfl ?_
    intro h11 t11 F11 N11
    walk_at "go"
    exact hQ _ _ _ _ (by decide +kernel) F11 (fun q hq => N11 q (.tail _ hq))
end Mine
namespace Mine
local macro_rules | `(tactic| omega) => `(tactic| lia)
/-- behind a call that keeps all but the law's frame's slots and the table -/
theorem Fr.behind {gb h h' : Heap} {L : Addr} {m : Str → Option Value} (F : Fr gb L h m) (n36 : gb.get? 36 = none) (hL : L ≠ 36) (u : UpTo [L] [36] h h') : Fr gb L h' m := by
  refine ⟨?_, fun b o q => (u b o (F.keep b o q) (fun z => ?_)).1 (fun z => ?_), F.above⟩
  · obtain ⟨o, es, ep, ho, hd, r⟩ := F.ns
    obtain ⟨_, sl, e⟩ := u L o ho (fun z => hL (List.mem_singleton.mp z))
    exact ⟨_, es, ep, e, hd, r⟩
  · rw [List.mem_singleton.mp z, n36] at q; cases q
  · have := Heap.lt_size q
    rw [List.mem_singleton.mp z] at this
    exact Nat.lt_irrefl _ (Nat.lt_of_lt_of_le this F.above)
set_option maxRecDepth 100000 in
set_option maxHeartbeats 4000000 in
theorem lawS5 {w : World} {mg mb : Str → Option Value} {loose : List Str} {mean : ExcName → Option Value} {gb : Heap} (G : Gd w mg mb loose mean gb)
    {A : Around} {L fa : Addr} {cd : Value} {h : Heap} {gs : Array GenState} {dr : Drawn} {tk : Nat} {os : OsState} {Q : Flow → Shared → Prop} {E : Value → Shared → Prop} {Z : Addr} {zv : List Value} {zs : List Int} {m : Str → Option Value} {c : Nat} {X bs : Str} {t1 t2 : Tok}
    (F : Fr gb L h (fun y => if y = Str.ofString "barred" then some (.str bs t2) else if y = Str.ofString "signs" then some (.str X t1) else if y = Str.ofString "sizes" then some (.ref Z) else m y)) (N : News gb L h [(Z, W.listOf zv.toArray c), (36, tabObj #[])]) (hZ2 : @Ne Nat Z 36)
    (hi : IntsAre zv zs) (hzl : zs.length ≤ 7) (hns : ∀ y ∈ zs, 0 ≤ y ∧ y < 1000) (hx0 : 0 < X.length) (hx : X.length ≤ 40) (hxc : ∀ c ∈ X.cps.toList, c ≠ 10 ∧ c < 16 ^ 8) (hbs : bs.cps.size < 1000)
    (hQ : ∀ h' gs' tk', gb.StaysIn h' → (∃ ps, h'.get? 36 = some (tabObj ps)) → ((∀ g ∈ gs, g.bare = true) → ∀ g ∈ gs', g.bare = true) → Q (.ret (.bool true)) ⟨h', gs', dr, tk', os⟩) :
    wpAny (model PySem.Challenge.rw_ny0036_01.row.prog w) (callerA.deeper (lawEnv w.params L fa cd)) (execs (((lawBody w.params).drop 4).take 1) (lawEnv w.params L fa cd)) Q E ⟨h, gs, dr, tk, os⟩ := by
  w_top off
  k_with_none
  k_with "call ref" => refine' hold ?_
  have X₀ := G.X
  have T₀ := G.T
  have C₀ := G.C
  revert X₀; k_fill; intro X₀
  conv => pattern (List.drop _ _); whnf
  simp only [List.take_succ_cons, List.take_zero]
  unfold lawEnv
  conv => pattern (lawScope _); whnf
  conv => pattern (lawScope _); whnf
  walk_at "go"
  unfold Hold
  have n36 := G.n36
  have n36' := N _ (.tail _ (.head _))
  have nZ := N _ (.head _)
  have gL : gb.get? L = none := Heap.get?_none_of_le F.above
  have hL36 : L ≠ 36 := n36'.2.1.symm
  have hLZ : L ≠ Z := nZ.2.1.symm
  refine row (ns := zs) (vs := zv) (ca := 36) (oc := tabObj #[]) (ps := #[]) G (by with_unfolding_all exact Nat.le_of_ble_eq_true rfl) (by with_unfolding_all exact Nat.le_of_ble_eq_true rfl) rfl rfl (framesOk_cons (by rfl) rfl F.ns (fun _ q => nomatch q)) (fun b hb => ?_) F.keep n36'.1 n36'.1 ⟨n36, .inl ⟨rfl, rfl, rfl⟩⟩ (N.isList (.head _)) hi hx0 hx (fun q hq => (hxc q hq).1) (fun q hq => (hxc q hq).2) hbs hns (by lia) hZ2 ?_
  · have hb' : b ∈ [L] := hb
    rw [List.mem_singleton.mp hb']
    exact ⟨gL, hL36, hL36, hLZ⟩
  intro h2 gs2 tk2 u bare ⟨ca, oc, ps, hca, hP, tb, caF⟩
  have u' : UpTo [L] [36] h h2 := u
  have F2 := Fr.behind F n36 hL36 u'
  have caL : ca ≠ L := fun z => caF (by show ca ∈ [L]; rw [z]; exact .head _)
  have N2 : News gb L h2 [(Z, W.listOf zv.toArray c), (ca, oc), (36, tabObj ps)] := fun q hq => by
    simp only [List.mem_cons, List.not_mem_nil, or_false] at hq
    rcases hq with rfl | rfl | rfl
    · exact ⟨(u' _ _ nZ.1 (fun z => hZ2 (List.mem_singleton.mp z))).1 (fun z => hLZ (List.mem_singleton.mp z).symm), nZ.2⟩
    · exact ⟨hca, caL, tb.1⟩
    · exact ⟨hP, n36'.2.1, n36⟩
  clear F N
  walk_at "go"
  unfold Hold
  (rename News _ _ _ _ => N3); (rename Fr _ _ _ _ => F3); (rename IntsAre _ _ => hi3); (rename _ ∧ _ => l3)
  rename_i D3 ws3 h3
  have nD := N3 _ (.head _)
  have hLD : L ≠ D3 := nD.2.1.symm
  have hD36 : D3 ≠ 36 := Nat.ne_of_gt l3.2.2.2
  refine row (ns := [3] ++ zs) (vs := ws3) (ca := ca) (oc := oc) (ps := ps) G (by with_unfolding_all exact Nat.le_of_ble_eq_true rfl) (by with_unfolding_all exact Nat.le_of_ble_eq_true rfl) rfl rfl (framesOk_cons (by rfl) rfl F3.ns (fun _ q => nomatch q)) (fun b hb => ?_) F3.keep (N3 (ca, oc) (by simp)).1 (N3 (36, tabObj ps) (by simp)).1 tb (N3.isList (.head _)) hi3 hx0 hx (fun q hq => (hxc q hq).1) (fun q hq => (hxc q hq).2) hbs (fun y hy => ?_) (by simp only [List.length_append, List.length_cons, List.length_nil]; lia) hD36 ?_
  · have hb' : b ∈ [L] := hb
    rw [List.mem_singleton.mp hb']
    exact ⟨gL, hL36, caL.symm, hLD⟩
  · rcases List.mem_append.mp hy with hy | hy
    · rw [List.mem_singleton.mp hy]; decide
    · exact hns y hy
  intro h4 gs4 tk4 u4 bare4 ⟨ca4, oc4, ps4, _, hP4, _, _⟩
  exact hQ _ _ _ (Fr.behind F3 n36 hL36 u4).keep ⟨ps4, hP4⟩ (fun z => bare4 (bare z))
end Mine
namespace Mine
theorem News.sub {h₀ h : Heap} {L : Addr} {a b : List (Addr × Obj)} (N : News h₀ L h a) (e : ∀ q ∈ b, q ∈ a) : News h₀ L h b := fun q hq => N q (e q hq)
theorem led5 {a b c : Addr × Obj} : ∀ q ∈ [a, c], q ∈ [a, b, c] := fun q hq => by
  rcases List.mem_cons.mp hq with rfl | hq
  · exact .head _
  · rw [List.mem_singleton.mp hq]; exact .tail _ (.tail _ (.head _))
set_option maxRecDepth 100000 in
set_option maxHeartbeats 4000000 in
/-- law's whole body -/
theorem lawAll {w : World} {mg mb : Str → Option Value} {loose : List Str} {mean : ExcName → Option Value} {gb : Heap} (G : Gd w mg mb loose mean gb)
    {L fa : Addr} {cd : Value} {h : Heap} {gs : Array GenState} {dr : Drawn} {tk : Nat} {os : OsState} {Q : Flow → Shared → Prop} {E : Value → Shared → Prop} {sc : Addr} {vs : List Value} {ns : List Int}
    (F : Fr gb L h (fun y => if y = Str.ofString "script" then some (.ref sc) else none)) (N : News gb L h [(36, tabObj #[])]) (hl : gb.IsList sc vs.toArray) (hi : IntsAre vs ns) (hn : ns.length ≤ 63)
    (hQ : ∀ h' gs' tk', gb.StaysIn h' → (∃ ps, h'.get? 36 = some (tabObj ps)) → ((∀ g ∈ gs, g.bare = true) → ∀ g ∈ gs', g.bare = true) → Q (.ret (.bool true)) ⟨h', gs', dr, tk', os⟩) :
    wpAny (model PySem.Challenge.rw_ny0036_01.row.prog w) (callerA.deeper (lawEnv w.params L fa cd)) (execs (lawBody w.params) (lawEnv w.params L fa cd)) Q E ⟨h, gs, dr, tk, os⟩ := by
  refine execs_split 1 (lawS1 G (A := callerA) F N hl hi hn ?_)
  intro h1 tk1 D ys c hy hD F1 N1
  have hb : ∀ y ∈ ns.map (fun k => k.fmod 1000000), 0 ≤ y ∧ y < 1000000 := fun y hy => by
    obtain ⟨k, _, rfl⟩ := List.mem_map.mp hy
    exact ⟨Int.fmod_nonneg_of_pos _ (by decide), Int.fmod_lt_of_pos _ (by decide)⟩
  have hn1 : (ns.map (fun k => k.fmod 1000000)).length ≤ 63 := by rw [List.length_map]; exact hn
  refine execs_part 1 1 (lawS2 G (A := callerA) F1 N1 hD hb hy hn1 ?_)
  intro h2 tk2 Z zv zs c2 hz hzl hzb hZ1 hZ2 F2 N2
  refine execs_part 2 1 (lawS3 G (A := callerA) F2 N2 hZ1 hZ2 hD hb hy hn1 ?_)
  intro h3 tk3 X t3 hx0 hx hxc F3 N3
  refine execs_part 3 1 (lawS4 G (A := callerA) F3 N3 hZ1 hZ2 hD hb hy hn1 ?_)
  intro h4 tk4 bs t4 hbs F4 N4
  refine execs_part 4 1 (lawS5 G (A := callerA) F4 (News.sub N4 led5) hZ2 hz hzl hzb hx0 hx hxc hbs ?_)
  exact hQ
end Mine
namespace Mine
theorem lookup_one {k : Str} {v : Value} (y : Str) : List.lookup y [(k, v)].reverse = if y = k then some v else none := by
  by_cases h : y = k
  · subst h; simp
  · rw [if_neg h]
    have : (y == k) = false := by simpa using h
    simp [List.lookup, this]
set_option maxRecDepth 100000 in
set_option maxHeartbeats 8000000 in
theorem lawHolds : PySem.Challenge.rw_ny0036_01.Holds := by
  refine hd ?_
  k_fill
  intro w s₀ s₁ mg mb G Y fa o pm cd doc dV kV ho hd hcd hD hmg hg args vals as hpre hlay hrd hwl hlo
  have KX := km_in_of Y
  km_tabs Y
  have X := (Ground.X G).1
  have V := (Ground.X G).2
  refine Ground.open G ?_
  intro T B D TE TW
  try (refine guard_noD D (by decide +kernel) ?_; clear D)
  km_lay T hmg ho hd cd
  clear hmg
  wrow_args hpre hlay hrd hwl hlo
  first | refine callC_kw (enter_call ?_) | refine enter_call ?_
  w_top on
  refine law_post hT9 (fun _ _ => rfl) (by with_unfolding_all rfl) ?_
  w_call any ho hd hcd hD T F
  clear hd
  kn_ghosts F T
  k_drop
  (rename News _ _ _ _ => N9); (rename Fr _ _ _ _ => F9); (rename IntsAre _ _ => hi9); (rename Top topProg _ _ _ _ _ => T10); (rename Frag.In _ _ => X10)
  have n36 : (ghostOf s₁.heap [(40, 36)]).get? 36 = none := (N9 _ (.head _)).2.2
  have hn9 : ∀ {ws : List Int}, ¬ ((63 : Nat) : Int) < (ws.length : Int) → ws.length ≤ 63 := fun h => by omega
  refine lawAll (E := _) (Q := _) (L := s₁.heap.objs.size) (fa := fa) (cd := cd) ⟨X10, T10, by assumption, n36⟩ (Mine.Fr.congr F9 lookup_one) N9 (by assumption) hi9 (hn9 (by assumption)) ?_
  intro h' gs' tk' st hP bare
  exact ⟨rfl, fun b o hb e => st b o (ghost_ne e (by simpa using hb)), hP, rfl, bare (by rw [hg]; exact AllBare.empty)⟩
end Mine
theorem PySem.Challenge.cw_ny0036_01_holds : PySem.Challenge.rw_ny0036_01.Holds := by
  exact Mine.lawHolds
