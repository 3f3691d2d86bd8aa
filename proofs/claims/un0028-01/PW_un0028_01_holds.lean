import PyProof.Rows.All
import Wide.All
import OpenK.AllK
import Wide.FinOn
import PySem.Challenge.RW_un0028_01
open PySem PySem.W PyProof.Rows
set_option Elab.async false
set_option maxRecDepth 100000
set_option linter.all false
set_option compiler.extract_closed false
namespace Mine
-- Hd
section
local macro_rules | `(tactic| o_head $_) => `(tactic| with_unfolding_all assumption)
set_option maxRecDepth 100000 in
set_option maxHeartbeats 8000000 in
theorem pk : PySem.Challenge.rw_un0028_01.row.Holds → PySem.Challenge.rw_un0028_01.row.Holds := by
  intro said
  k_head
end
-- Base
def Hid (p : Prop) : Prop := p
theorem hid_of {p : Prop} (h : p) : Hid p := h
theorem hid_1 {p : Prop} (h : Hid p) : p := h
theorem hid_l {p q : Prop} (h : Hid (p ∧ q)) : p := And.left (show p ∧ q from h)
theorem hid_r {p q : Prop} (h : Hid (p ∧ q)) : Hid q := And.right (show p ∧ q from h)
local macro_rules | `(tactic| walk_at "trip1") => `(tactic| ((iterate 12 (first | with_reducible assumption | with_reducible apply And.right | skip)); done))
local macro_rules | `(tactic| walk_at "trip") => `(tactic| first | (apply And.left; walk_at "trip1") | (walk_at "trip1"))
local macro_rules | `(tactic| lcg_off) => `(tactic| first | exact True.intro | (refine And.intro (by first | (walk_at "trip") | exact ⟨by k_ne, by k_ne, by k_ne⟩) ?_; lcg_off))
local macro_rules | `(tactic| walk_at "hid") => `(tactic| ((iterate 30 (first | with_reducible assumption | with_reducible apply hid_r | skip)); done))
local macro_rules | `(tactic| walk_at "hid0") => `(tactic| first | (apply hid_l; walk_at "hid") | (apply hid_1; walk_at "hid"))
local macro_rules | `(tactic| walk_at "hid1") => `(tactic| first | (walk_at "hid0") | (refine Ne.symm ?_; walk_at "hid0"))
local macro_rules | `(tactic| k_ne) => `(tactic| (refine neN ?_; (try dsimp only); first | (walk_at "hid1") | omega))
local macro_rules | `(tactic| k_lt $h) => `(tactic| (replace $h := allLt_of $h; dsimp only [AllLt] at $h:ident))
structure Glo (w : World) (p : Program) (loose : List Str) (mean : ExcName → Option Value) (mg mb : Str → Option Value) (h : Heap) : Prop where
  K : (pk.heap_1 w.params).In h
  T : Top p loose mean mg mb h
section
variable {w : World} {p : Program} {loose : List Str} {mean : ExcName → Option Value} {mg mb : Str → Option Value} {h h' : Heap}
theorem Glo.keeps (G : Glo w p loose mean mg mb h) (k : h.StaysIn h') : Glo w p loose mean mg mb h' := ⟨G.K.keeps k, G.T.keeps k⟩
end
section
variable {prog : Program} {w : World} {A : Around} {s : Shared} {K : Frag} {Q E : Value → Shared → Prop}
theorem enter {name qual : Str} {params : Arguments} {body : List Stmt} {scope : Scope} {dV kV doc pm cdv ct oc : Value} {an od : Option Addr} {osl : Array (Option Value)} {f : Addr} {args : List Value} {binds : List (Str × Value)}
    (X : K.In s.heap) (hlim : s.heap.NoLimit)
    (ho : K.lookup f = some ⟨oc, od, .func (fnOf name qual params body scope dV kV doc pm an cdv ct), osl⟩) (hcd : codeIn K cdv qual = true) (hroom : A.depth < recursionLimit)
    (hbind : BindsTo s (fnOf name qual params body scope dV kV doc pm an cdv ct) ⟨args, []⟩ binds) (hloc : ∀ y ∈ binds, scope.names.lookup y.1 = some .local)
    (h : ∀ L h₁, L = s.heap.objs.size → Fr s.heap L h₁ (fun y => binds.reverse.lookup y) → News s.heap L h₁ [] →
      wpAny (model prog w) (A.deeper (envOf qual scope L f cdv)) (execs body (envOf qual scope L f cdv))
        (fun fl s' => Q (match fl with | .ret v => v | _ => .none) s') (fun _ _ => False) { s with heap := h₁, toks := s.toks + binds.length })
    (hco : scope.isCoroutine = false) (hgen : scope.isGenerator = false) (hk : scope.kind = .function)
    (hcell : ∀ x ∈ scope.names, x.2 ≠ .cell) : wpAny (model prog w) A (call (.ref f) args) Q E s := by
  refine wpAny_call (codeAny_call_def (fd := fnOf name qual params body scope dV kV doc pm an cdv ct) (body := body) (binds := binds) hroom (X _ _ ho) rfl hlim (codeRec_of X hcd) rfl hbind hcell hloc (fun h₁ hns hk₁ => ?_) hco hgen hk)
  exact wpAny_mono (h s.heap.objs.size h₁ rfl ⟨hns, hk₁, Nat.le_refl _⟩ (fun _ hp => nomatch hp)) (fun _ _ x => x) fun _ _ x => x.elim
end
theorem wpPeek1 {α : Type} {K : Frag} {M : Model} {A : Around} {E : Value → Shared → Prop} {Q : α → Shared → Prop} {s : Shared} {o : Obj} {r : Addr → α} (X : K.In s.heap)
    (q : Q (r s.heap.objs.size) { s with heap := s.heap.push o }) : ∀ (t : Sem α) (g : Addr → Option α), peek1 K ⟨M.prog, M.w.params⟩ t = some (o, g) → (∀ D, g D = some (r D)) → wpAny M A t Q E s := by
  intro t
  induction t with
  | rule _ k ih => exact fun g e hg Γ p hΓ => ih () g e hg Γ p hΓ
  | point _ k ih => exact fun g e hg Γ p hΓ => ih () g e hg Γ p hΓ
  | ask k ih => exact fun g e hg Γ p hΓ => ih _ g e hg Γ p hΓ
  | load a _ k ih =>
    intro g e hg Γ p hΓ
    cases ho : K.lookup a with
    | none => simp only [peek1, ho] at e; cases e
    | some ob => simp only [peek1, ho] at e; exact ⟨ob, X _ _ ho, ih ob g e hg Γ p hΓ⟩
  | alloc ob k _ =>
    intro g e hg
    obtain ⟨rfl, rfl⟩ := Prod.mk.inj (Option.some.inj (show some (ob, fun D => peek K ⟨M.prog, M.w.params⟩ (k D)) = some (o, g) from e))
    have X' : K.In (s.heap.push ob) := X.keeps fun b x hb => Heap.get?_push_of_some _ hb
    show wpAny M A (alloc ob >>= k) Q E s
    exact wpAny_bind (wpAny_alloc ((Looks.of_peek (M := M) (h := s.heap.push ob) X' (hg s.heap.objs.size)).here (s := { s with heap := s.heap.push ob }) q))
  | _ => intro g e; cases e
section
variable {prog : Program} {w : World} {A : Around} {s : Shared} {K : Frag} {Q E : Value → Shared → Prop}
theorem enterV {name qual : Str} {params : Arguments} {body : List Stmt} {scope : Scope} {dV kV doc pm cdv ct oc : Value} {an od : Option Addr} {osl : Array (Option Value)} {f : Addr} {args : List Value} {o : Obj} {g₁ : Addr → Option (List (Str × Value))} {binds : Addr → List (Str × Value)}
    (X : K.In s.heap) (hlim : s.heap.NoLimit)
    (ho : K.lookup f = some ⟨oc, od, .func (fnOf name qual params body scope dV kV doc pm an cdv ct), osl⟩) (hcd : codeIn K cdv qual = true) (hroom : A.depth < recursionLimit)
    (hp : peek1 K ⟨prog, w.params⟩ (bindArgs (fnOf name qual params body scope dV kV doc pm an cdv ct) ⟨args, []⟩) = some (o, g₁)) (hf : o.isFreed = false)
    (hg : ∀ D, g₁ D = some (binds D)) (hloc : ∀ D, ∀ y ∈ binds D, scope.names.lookup y.1 = some .local)
    (h : ∀ D L h₁, Fr s.heap L h₁ (fun y => (binds D).reverse.lookup y) → News s.heap L h₁ [(D, o)] →
      wpAny (model prog w) (A.deeper (envOf qual scope L f cdv)) (execs body (envOf qual scope L f cdv))
        (fun fl s' => Q (match fl with | .ret v => v | _ => .none) s') (fun _ _ => False) { s with heap := h₁, toks := s.toks + (binds D).length })
    (hco : scope.isCoroutine = false) (hgen : scope.isGenerator = false) (hk : scope.kind = .function)
    (hcell : ∀ x ∈ scope.names, x.2 ≠ .cell) : wpAny (model prog w) A (call (.ref f) args) Q E s := by
  refine wpAny_call (codeAny_call_function (fd := fnOf name qual params body scope dV kV doc pm an cdv ct) (body := body) hroom (X _ _ ho) rfl hco hgen rfl (codeRec_of X hcd) ?_)
  refine wpPeek1 X ?_ _ g₁ hp hg
  have kp : s.heap.StaysIn (s.heap.push o) := fun b x e => Heap.get?_push_of_some _ e
  refine wpAny_newFunctionEnv hcell (hloc _) (fun h₁ hns hsb => ⟨(hlim.keeps kp).fresh _ hsb, codeAny_func ?_⟩) hk
  have hk₁ : ∀ b x, (s.heap.push o).get? b = some x → h₁.get? b = some x := fun b x e => hsb.extBut b x (Nat.ne_of_lt (Heap.lt_size e)) (Heap.get?_push_of_some _ e)
  refine wpAny_mono (h s.heap.objs.size _ h₁ ⟨hns, fun b x e => hk₁ b x (kp b x e), ?_⟩ fun p hp => ?_) (fun _ _ x => x) fun _ _ x => x.elim
  · show s.heap.objs.size ≤ (s.heap.push o).objs.size
    rw [Heap.size_push]; omega
  · rw [List.mem_singleton.mp hp]
    refine ⟨hk₁ _ _ (Heap.get?_push_size _ hf), ?_, Heap.get?_none_of_le (Nat.le_refl _)⟩
    show s.heap.objs.size ≠ (s.heap.push o).objs.size
    rw [Heap.size_push]; omega
end
section
variable {prog : Program} {w : World} {A : Around} {s : Shared} {K : Frag} {Q E : Value → Shared → Prop}
theorem enterC {name qual : Str} {params : Arguments} {body : List Stmt} {scope : Scope} {dV kV doc pm cdv ct oc : Value} {an od : Option Addr} {osl : Array (Option Value)} {f : Addr} {args : List Value} {binds : List (Str × Value)}
    (X : K.In s.heap) (hlim : s.heap.NoLimit)
    (ho : K.lookup f = some ⟨oc, od, .func (fnOf name qual params body scope dV kV doc pm an cdv ct), osl⟩) (hcd : codeIn K cdv qual = true) (hroom : A.depth < recursionLimit)
    (hbind : BindsTo s (fnOf name qual params body scope dV kV doc pm an cdv ct) ⟨args, []⟩ binds)
    (hkind : (binds.all fun y => scope.names.lookup y.1 == some .local || scope.names.lookup y.1 == some .cell) = true)
    (hnd : ((cellsFrom 0 scope.names []).map (·.1)).Nodup)
    (h : ∀ L h₁ tk cells, L = s.heap.objs.size → Fr s.heap L h₁ (bindL (envOfC qual scope L f cdv).kindOf binds fun _ => none) → News s.heap L h₁ cells →
      CellsAre (bindC (envOfC qual scope L f cdv).kindOf binds fun _ => none) (cellsFrom (L + 1) scope.names []) cells →
      wpAny (model prog w) (A.deeper (envOfC qual scope L f cdv)) (execs body (envOfC qual scope L f cdv))
        (fun fl s' => Q (match fl with | .ret v => v | _ => .none) s') (fun _ _ => False) { s with heap := h₁, toks := tk })
    (hco : scope.isCoroutine = false) (hgen : scope.isGenerator = false) (hk : scope.kind = .function) : wpAny (model prog w) A (call (.ref f) args) Q E s := by
  refine wpAny_call (codeAny_call_function (fd := fnOf name qual params body scope dV kV doc pm an cdv ct) (body := body) hroom (X _ _ ho) rfl hco hgen rfl (codeRec_of X hcd) (hbind _ _ _ _ ?_))
  refine wpAny_newFunctionEnv_cells hk (kindsX hkind _) fun env' he s' x => ?_
  subst he
  refine ⟨hlim.keeps x.toInCall.keep, codeAny_func ?_⟩
  obtain ⟨h₁, tk, rfl, _⟩ := x.done
  obtain ⟨cells, NC, Y⟩ := Cl.news (h₀ := s.heap) (Nat.le_refl _) fun n c hm => ⟨x.cell n c (lookup_of_mem_nodup (cellsFrom_names scope.names 0 (s.heap.objs.size + 1) [] [] rfl ▸ hnd) hm), x.above n c hm⟩
  exact wpAny_mono (h s.heap.objs.size h₁ tk cells rfl ⟨x.toInCall.ns, x.toInCall.keep, Nat.le_refl _⟩ NC Y) (fun _ _ x => x) fun _ _ x => x.elim
end
theorem frStays {h₀ h h' : Heap} {L : Addr} {m : Str → Option Value} (k : h.StaysIn h') (F : Fr h₀ L h m) : Fr h₀ L h' m := ⟨F.ns.keeps k, fun b o e => k b o (F.keep b o e), F.above⟩
theorem newsStays {h₀ h h' : Heap} {L : Addr} {news : List (Addr × Obj)} (k : h.StaysIn h') (N : News h₀ L h news) : News h₀ L h' news := fun p hp => ⟨k _ _ (N p hp).1, (N p hp).2⟩
theorem topAt {p : Program} {loose : List Str} {mean : ExcName → Option Value} {mg mb : Str → Option Value} {h₀ h : Heap} {L : Addr} {m : Str → Option Value} (T : Top p loose mean mg mb h₀) (F : Fr h₀ L h m) : Top p loose mean mg mb h := T.keeps F.keep
theorem roomLe {a b : Nat} (h : a ≤ b) : a ≤ b := h
-- a bound on the depth or the units of these surroundings
local macro_rules | `(tactic| walk_at "m_room") => `(tactic| first | omega | ((try simp only [depth_deeper, Around.in1_depth, units_deeper, units_in1, Around.deeper, recursionLimit, cLine]); omega))
local macro_rules | `(tactic| walk_at "m_top") => `(tactic| exact topAt (by assumption) (by assumption))
-- behind a call that keeps the heap: the frame and the ledger are carried over
local macro_rules | `(tactic| walk_at "m_stays") => `(tactic| ((rename Heap.StaysIn _ _ => st9); (have F9 := frStays st9 (by assumption)); (have N9 := newsStays st9 (by assumption)); (try clear st9); k_sweep; (try dsimp only)))
local macro_rules | `(tactic| walk_at "m_steps") => `(tactic| repeat' (first | (k_unfold; (try dsimp only)) | walk1 | (dsimp only; walk1) | fail "no step"))
theorem fill : PySem.Challenge.rw_un0028_01 = PySem.Challenge.rw_un0028_01 ∧ pk.heap_1 = pk.heap_1 := ⟨rfl, rfl⟩
-- F0
section
variable {prog : Program} {w : World} {A : Around} {E : Value → Shared → Prop} {s : Shared}
theorem issub_in {k : Value} {dep : Int} {tk : Tok} {Q : Fin → Shared → Prop} (hk : k = .int dep tk) (hq : Q (.done (.ret (.bool true))) s) :
    wpAny (model prog w) A (Builtin.«issubclass.nested» ⟨[.type "str", .type "str", k], []⟩) Q E s := by
  subst hk
  have hm : ((Value.type "type" == Value.type "type") = true) := rfl
  have hself := PySem.F.sub_str_str
  have hmeta := PySem.F.isi_meta_str
  repeat (any_goals (first | assumption | (rw [if_pos hm]) | (rw [hself]) | (rw [hmeta]) | wp_step))
theorem issub_nested {D : Addr} {k : Value} {Q : Fin → Shared → Prop} {o : Obj} {n : Nat} (hk : k = rawInt 0) (ho : s.heap.get? D = some o) (hc : o.cls = .type "tuple") (hdt : o.data = .seq #[.type "str", .type "bytes"] n)
    (hq : Q (.done (.ret (.bool true))) s) :
    wpAny (model prog w) A (Builtin.«issubclass.nested» ⟨[.type "str", .ref D, k], []⟩) Q E s := by
  subst hk
  have ht : s.TypeIs (.ref D) "tuple" := ⟨o, ho, hc⟩
  have hsub := PySem.F.sub_tuple_tuple
  have hm : ¬ ((Value.type "tuple" == Value.type "type") = true) := by decide
  have hm2 : ¬ ((Value.type "tuple" == Value.type "types.UnionType") = true) := by decide
  obtain ⟨hh, g, d, t, os⟩ := s
  repeat (any_goals (first | assumption | (rw [if_neg hm]) | (rw [if_neg hm2]) | wp_step))
  rw [hdt]
  refine wpAny_pure ?_
  simp only [Option.getD_some, ← Array.forIn_toList, List.forIn_cons]
  refine wpAny_bind (wpAny_bind (wpAny_bind (wpAny_call ?_)))
  refine codeAny_call_builtin (by decide +kernel) F.entry_issubclass_nested ?_
  have hk0 : builtinKind "issubclass.nested" = none := by decide +kernel
  have hs0 : Manifest.signature? "issubclass.nested" = none := by decide +kernel
  simp only [checkBuiltinCall, hk0, hs0]
  refine wpAny_pure ?_
  refine issub_in rfl ?_
  dsimp only
  repeat (any_goals (first | assumption | wp_step))
theorem issub_ok {D : Addr} {o : Obj} {n : Nat} {Q : Value → Shared → Prop} (ho : s.heap.get? D = some o) (hc : o.cls = .type "tuple") (hdt : o.data = .seq #[.type "str", .type "bytes"] n) (hq : Q (.bool true) s) :
    wpAny (model prog w) A (call (.builtin "issubclass") [.type "str", .ref D]) Q E s := by
  have g : Meets (Builtin.«issubclass» ⟨[.type "str", .ref D], []⟩) (fun _ R s => (s.heap.get? D = some o) ∧ R (.ok (.ret (.bool true))) s) :=
    fun _ _ _ _ _ hs => issubclass_outer (issub_nested rfl hs.1 hc hdt hs.2)
  exact call_issubclass g ⟨ho, hq⟩
end
-- F1
set_option maxHeartbeats 4000000 in
theorem fill1 : PySem.Challenge.rw_un0028_01 = PySem.Challenge.rw_un0028_01 ∧ pk.heap_1 = pk.heap_1 := by
  k_fill
  exact ⟨rfl, rfl⟩
local macro_rules | `(tactic| walk_at "call builtin:issubclass") => `(tactic| (k_here; with_unfolding_all refine' issub_ok ?m1 ?m2 ?m3 ?_; (case m1 => exact News.get (by assumption) (by k_mem)); (case m2 => exact rfl); (case m3 => exact rfl)))
set_option maxHeartbeats 4000000 in
theorem fspath_ok {w : World} {p loose mean mg mb} {dp un : Nat} {fr : Option (List Env)} {gd : Option (List Code)} {s : Shared} {x : Str} {t : Tok} {Q E : Value → Shared → Prop}
    (X : (pk.heap_1 w.params).In s.heap) (T : Top p loose mean mg mb s.heap) (hd : dp ≤ 900) (hu : un ≤ 9000)
    (hQ : ∀ h' tk, s.heap.StaysIn h' → Q (.str x t) { s with heap := h', toks := tk }) :
    wpAny (model PySem.Challenge.rw_un0028_01.row.prog w) ⟨none, dp, fr, gd, un⟩ (call (.ref 123) [.str x t]) Q E s := by
  (refine enter (by k_in) (by exact Top.nolimit (by assumption)) (by k_is) (by k_is) (by (first | omega | ((try simp only [depth_deeper, Around.in1_depth, Around.deeper, recursionLimit]); omega))) (by (first | exact BindsTo.of_eq rfl | exact binds_K (by k_in) rfl (by k_is) rfl rfl rfl)) (by exact locs rfl) ?_ (by exact rfl) (by exact rfl) (by exact rfl) (by decide); k_whole)
  intro L h₁ hL F N
  k_fold
  walk_at "m_steps"
  exact hQ _ _ (Fr.keep (by assumption))
set_option maxHeartbeats 4000000 in
theorem getsep_ok {w : World} {p loose mean mg mb} {dp un : Nat} {fr : Option (List Env)} {gd : Option (List Code)} {s : Shared} {x : Str} {t : Tok} {Q E : Value → Shared → Prop}
    (X : (pk.heap_1 w.params).In s.heap) (T : Top p loose mean mg mb s.heap) (hd : dp ≤ 900) (hu : un ≤ 9000)
    (hQ : ∀ h' tk t, s.heap.StaysIn h' → Q (.str (Str.ofString "/") t) { s with heap := h', toks := tk }) :
    wpAny (model PySem.Challenge.rw_un0028_01.row.prog w) ⟨none, dp, fr, gd, un⟩ (call (.ref 137) [.str x t]) Q E s := by
  (refine enter (by k_in) (by exact Top.nolimit (by assumption)) (by k_is) (by k_is) (by (first | omega | ((try simp only [depth_deeper, Around.in1_depth, Around.deeper, recursionLimit]); omega))) (by (first | exact BindsTo.of_eq rfl | exact binds_K (by k_in) rfl (by k_is) rfl rfl rfl)) (by exact locs rfl) ?_ (by exact rfl) (by exact rfl) (by exact rfl) (by decide); k_whole)
  intro L h₁ hL F N
  k_fold
  walk_at "m_steps"
  exact hQ _ _ _ (Fr.keep (by assumption))
local macro_rules | `(tactic| walk_at "call ref") => `(tactic| (k_here; with_unfolding_all refine' fspath_ok ?m1 ?m2 ?m3 ?m4 ?_; (case m1 => k_in); (case m2 => (walk_at "m_top")); (case m3 => (walk_at "m_room")); (case m4 => (walk_at "m_room")); intro h9 tk9 st9; walk_at "m_stays"))
local macro_rules | `(tactic| walk_at "call ref") => `(tactic| (k_here; with_unfolding_all refine' getsep_ok ?m1 ?m2 ?m3 ?m4 ?_; (case m1 => k_in); (case m2 => (walk_at "m_top")); (case m3 => (walk_at "m_room")); (case m4 => (walk_at "m_room")); intro h9 tk9 t9 st9; walk_at "m_stays"))
-- F2
theorem fill2 : PySem.Challenge.rw_un0028_01 = PySem.Challenge.rw_un0028_01 ∧ pk.heap_1 = pk.heap_1 := by
  k_fill
  exact ⟨rfl, rfl⟩
abbrev slash : Str := Str.ofString "/"
def dirHead (x : Str) : Str := Txt.slice x none (some (Txt.rfind x slash + 1))
def dirnameF (x : Str) : Str :=
  if (dirHead x).length ≠ 0 ∧ (dirHead x != Txt.mul slash (dirHead x).length) = true then Txt.rstripChars (dirHead x) slash else dirHead x
local macro_rules | `(tactic| walk_at "m_ends") => `(tactic| ((try dsimp only); (try k_unfold); (try dsimp only)))
set_option maxHeartbeats 4000000 in
theorem dirname_ok {w : World} {p loose mean mg mb} {dp un : Nat} {fr : Option (List Env)} {gd : Option (List Code)} {s : Shared} {x : Str} {t : Tok} {Q E : Value → Shared → Prop}
    (X : (pk.heap_1 w.params).In s.heap) (T : Top p loose mean mg mb s.heap) (hd : dp ≤ 890) (hu : un ≤ 8900) (hx : x.length ≤ 1048576)
    (hQ : ∀ h' tk t, s.heap.StaysIn h' → Q (.str (dirnameF x) t) { s with heap := h', toks := tk }) :
    wpAny (model PySem.Challenge.rw_un0028_01.row.prog w) ⟨none, dp, fr, gd, un⟩ (call (.ref 151) [.str x t]) Q E s := by
  have e1 : (dirHead x).length ≠ 0 → (dirHead x != Txt.mul slash (dirHead x).length) = true → dirnameF x = Txt.rstripChars (dirHead x) slash := fun h1 h2 => if_pos ⟨h1, h2⟩
  have e2 : ¬ (dirHead x).length ≠ 0 → dirnameF x = dirHead x := fun h1 => if_neg fun h => h1 h.1
  have e3 : ¬ (dirHead x != Txt.mul slash (dirHead x).length) = true → dirnameF x = dirHead x := fun h1 => if_neg fun h => h1 h.2
  unfold dirHead slash at e1 e2 e3
  (refine enter (by k_in) (by exact Top.nolimit (by assumption)) (by k_is) (by k_is) (by (first | omega | ((try simp only [depth_deeper, Around.in1_depth, Around.deeper, recursionLimit]); omega))) (by (first | exact BindsTo.of_eq rfl | exact binds_K (by k_in) rfl (by k_is) rfl rfl rfl)) (by exact locs rfl) ?_ (by exact rfl) (by exact rfl) (by exact rfl) (by decide); k_whole)
  intro L h₁ hL F N
  k_fold
  walk_at "m_steps"
  all_goals walk_at "m_ends"
  all_goals (refine Eq.subst (motive := fun z => Q (.str z _) _) ?_ (hQ _ _ _ (Fr.keep (by assumption))))
  · exact e1 (by omega) (by assumption)
  · exact e3 (Bool.eq_false_iff.mp (by assumption))
  · exact e2 (by omega)
set_option maxHeartbeats 4000000 in
theorem join_ok {w : World} {p loose mean mg mb} {dp un : Nat} {fr : Option (List Env)} {gd : Option (List Code)} {s : Shared} {x y : Str} {t t' : Tok} {Q E : Value → Shared → Prop}
    (X : (pk.heap_1 w.params).In s.heap) (T : Top p loose mean mg mb s.heap) (hd : dp ≤ 890) (hu : un ≤ 8900) (hx : x.length ≤ 10000) (hy : y.length ≤ 10000)
    (h1 : Txt.startswith y slash = false) (h2 : x.length ≠ 0) (h3 : Txt.endswith x slash = false)
    (hQ : ∀ h' tk t, s.heap.StaysIn h' → Q (.str (x ++ (slash ++ y)) t) { s with heap := h', toks := tk }) :
    wpAny (model PySem.Challenge.rw_un0028_01.row.prog w) ⟨none, dp, fr, gd, un⟩ (call (.ref 144) [.str x t, .str y t']) Q E s := by
  (refine enterV (by k_in) (by exact Top.nolimit (by assumption)) (by k_is) (by k_is) (by (first | omega | ((try simp only [depth_deeper, Around.in1_depth, Around.deeper, recursionLimit]); omega))) (by exact rfl) (by exact rfl) (by exact fun _ => rfl) (by exact fun _ => locs rfl) ?_ (by exact rfl) (by exact rfl) (by exact rfl) (by decide); k_whole)
  intro D L h₁ F N
  k_fold
  walk_at "m_steps"
  all_goals walk_at "m_ends"
  all_goals (first | exact hQ _ _ _ (Fr.keep (by assumption)) | (exfalso; simp_all))
-- F5
section
open AutoSeq1 (wpAny_loadPart')
namespace MF
theorem owner_map : Manifest.owners.lookup (String.ofList ['p', 'a', 'm'].reverse) = some Manifest.sig_map := by kernel_rfl
theorem slot_map_next : Slot "map" "__next__" "map.__next__" :=
  .of (owner := "map") (n := "__next__") (by rw [typeLookup_type, builtinLookup_eq_fast]; kernel_rfl) (by decide +kernel) (by decide +kernel) (by decide +kernel)
    (by first | exact .inl (by decide +kernel) | exact .inr (by decide +kernel)) (by rw [isSubtype_type]; kernel_rfl)
theorem entry_map_next : entryFor table "map.__next__" = some Builtin.«map.__next__» := entryFor_of_tree (by kernel_rfl)
theorem args_map_next (a : Value) : argsOk "map.__next__" ⟨[a], []⟩ := by
  unfold argsOk; rw [signature?_of (id := "map.__next__") (n := ['_', '_', 't', 'x', 'e', 'n', '_', '_']) (o := ['p', 'a', 'm']) (by kernel_rfl) owner_map]; kernel_rfl
theorem slot_map_init : Slot "map" "__init__" "object.__init__" :=
  .of (owner := "object") (n := "__init__") (by rw [typeLookup_type, builtinLookup_eq_fast]; kernel_rfl) (by decide +kernel) (by decide +kernel) (by decide +kernel)
    (by first | exact .inl (by decide +kernel) | exact .inr (by decide +kernel)) (by rw [isSubtype_type]; kernel_rfl)
theorem mro_map : mroOf (.type "map") = pure [.type "map", .type "object"] := by rw [mroOf_type]; kernel_rfl
theorem lookup_map_new : typeLookup (.type "map") "__new__" = pure (some (.builtin "map.__new__")) := by rw [typeLookup_type, builtinLookup_eq_fast]; kernel_rfl
theorem called_map : TypeCalled "map" "map.__new__" "object.__init__" :=
  ⟨by decide +kernel, by decide +kernel, ⟨_, _, mro_map⟩, madeBy_type mro_map lookup_map_new (by decide +kernel), by decide +kernel, by rw [isSubtype_type]; kernel_rfl, slot_map_init⟩
theorem typeCall_map_2 (a b : Value) : checkTypeCall "map" ⟨[a, b], []⟩ = pure () := by kernel_rfl
theorem newCall_map_2 (a b : Value) : checkBuiltinCall "map.__new__" ⟨[.type "map", a, b], []⟩ = pure () := by kernel_rfl
theorem entry_map_new : entryFor table "map.__new__" = some Builtin.«map.__new__» := entryFor_of_tree (by kernel_rfl)
theorem slot_map_iter : Slot "map" "__iter__" "map.__iter__" :=
  .of (owner := "map") (n := "__iter__") (by rw [typeLookup_type, builtinLookup_eq_fast]; kernel_rfl) (by decide +kernel) (by decide +kernel) (by decide +kernel)
    (by first | exact .inl (by decide +kernel) | exact .inr (by decide +kernel)) (by rw [isSubtype_type]; kernel_rfl)
theorem map_no_len : typeLookup (.type "map") "__len__" = pure none := by rw [typeLookup_type, builtinLookup_eq_fast]; kernel_rfl
theorem map_no_hint : typeLookup (.type "map") "__length_hint__" = pure none := by rw [typeLookup_type, builtinLookup_eq_fast]; kernel_rfl
theorem sub_map : isSubtype (.type "map") (.type "map") = pure true := by rw [isSubtype_type]; kernel_rfl
theorem args_map_iter (a : Value) : argsOk "map.__iter__" ⟨[a], []⟩ := by
  unfold argsOk; rw [signature?_of (id := "map.__iter__") (n := ['_', '_', 'r', 'e', 't', 'i', '_', '_']) (o := ['p', 'a', 'm']) (by kernel_rfl) owner_map]; kernel_rfl
theorem entry_map_iter : entryFor table "map.__iter__" = some Builtin.«dict_keyiterator.__iter__» :=
  entryFor_alias (id' := "dict_keyiterator.__iter__") (by kernel_rfl) (by first | rfl | decide +kernel | (unfold String.splitOn; simp +decide [String.splitOnAux])) (by decide +kernel) (by kernel_rfl)
theorem args_object_init_3 (a b c : Value) : argsOk "object.__init__" ⟨[a, b, c], []⟩ := by
  unfold argsOk; rw [signature?_of (id := "object.__init__") (n := ['_', '_', 't', 'i', 'n', 'i', '_', '_']) (o := ['t', 'c', 'e', 'j', 'b', 'o']) (by kernel_rfl) PySem.F.owner_object]; kernel_rfl
end MF
abbrev IsMap (h : Heap) (M T I : Addr) (f : Value) : Prop :=
  h.get? M = some { cls := .type "map", data := .fields #[.ref T, f] } ∧ h.get? T = some { cls := .type "tuple", data := .seq #[.ref I] }
def mapHeap (h : Heap) (f : Value) (l : Addr) : Heap :=
  ((h.push { cls := .type "list_iterator", data := .fields #[.ref l, .int 0 0] }).push { cls := .type "tuple", data := .seq #[.ref h.objs.size] }).push { cls := .type "map", data := .fields #[.ref (h.objs.size + 1), f] }
theorem mapHeap_keep {h : Heap} {f : Value} {l b : Addr} {o : Obj} (e : h.get? b = some o) : (mapHeap h f l).get? b = some o := Heap.get?_push_of_some _ (Heap.get?_push_of_some _ (Heap.get?_push_of_some _ e))
theorem mapHeap_is (h : Heap) (f : Value) (l : Addr) : IsMap (mapHeap h f l) (h.objs.size + 2) (h.objs.size + 1) h.objs.size f ∧ (mapHeap h f l).IsListIter h.objs.size l 0 := by
  have z1 : (h.push { cls := .type "list_iterator", data := .fields #[.ref l, .int 0 0] }).objs.size = h.objs.size + 1 := Heap.size_push ..
  have z2 : ((h.push { cls := .type "list_iterator", data := .fields #[.ref l, .int 0 0] }).push { cls := .type "tuple", data := .seq #[.ref h.objs.size] }).objs.size = h.objs.size + 2 := by rw [Heap.size_push, z1]
  refine ⟨⟨?_, ?_⟩, ⟨_, Heap.get?_push_of_some _ (Heap.get?_push_of_some _ (Heap.get?_push_size _ rfl)), rfl, rfl⟩⟩
  · rw [← z2]; exact Heap.get?_push_size _ rfl
  · refine Heap.get?_push_of_some _ ?_
    rw [← z1]; exact Heap.get?_push_size _ rfl
theorem meets_map_new (f : Value) (l : Addr) (items : Array Value) :
    Meets (Builtin.«map.__new__» ⟨[.type "map", f, .ref l], []⟩) (fun _ R s => s.heap.IsList l items ∧ R (.ok (.ret (.ref (s.heap.objs.size + 2)))) { s with heap := mapHeap s.heap f l }) :=
  .of_wp fun prog w A R s h => by
    obtain ⟨hp, g, d, tk, os⟩ := s; obtain ⟨hL, h⟩ := h
    have hsub := MF.sub_map
    wp_walk using wpAny_pyIter_list hL
    refine ⟨_, rfl, ?_⟩
    simp only [Heap.size_push]
    exact h
section
variable {prog : Program} {w : World} {A : Around} {E : Value → Shared → Prop} {s : Shared}
theorem call_map {f : Value} {l : Addr} {items : Array Value} {Q : Value → Shared → Prop} (hl : s.heap.IsList l items) (h : Q (.ref (s.heap.objs.size + 2)) { s with heap := mapHeap s.heap f l }) :
    wpAny (model prog w) A (call (.type "map") [f, .ref l]) Q E s :=
  callType_new MF.called_map (by decide) (MF.typeCall_map_2 _ _) (MF.newCall_map_2 _ _) (fun obj => MF.args_object_init_3 obj _ _) MF.entry_map_new
    (meets_map_new f l items) ⟨hl, ⟨_, (mapHeap_is s.heap f l).1.1, rfl⟩, h⟩
theorem next_map_item {M T I l : Addr} {f x : Value} {i : Nat} {items : Array Value} {Q : Option Value → Shared → Prop} (hm : IsMap s.heap M T I f) (hit : s.heap.IsListIter I l i) (hl : s.heap.IsList l items) (hx : items[i]? = some x)
    (hf : ∀ h', h'.IsListIter I l (i + 1) → Heap.SameBut I s.heap h' → wpAny (model prog w) A.in1 (call f [x]) (fun v s' => Q (some v) s') (fun _ _ => False) { s with heap := h' }) :
    wpAny (model prog w) A (pyNext (.ref M)) Q E s := by
  have hT : s.TypeIs (.ref M) "map" := ⟨_, hm.1, rfl⟩
  have hMI : M ≠ I := fun e => by
    obtain ⟨o, ho, hc, _⟩ := hit
    rw [← e, hm.1] at ho; cases ho; exact absurd (Value.type.inj hc) (by decide)
  unfold pyNext
  refine wpAny_bind (wpAny_attempt (wpAny_callSpecial?_slot (name := Str.ofString "__next__") hT MF.slot_map_next
    (wpAny_call_entry MF.slot_map_next hT MF.entry_map_next ?_ (MF.args_map_next _))))
  show wpAny _ _ (field (.ref M) 0 >>= _) _ _ _
  refine wpAny_bind (wpAny_field hm.1 rfl (x := .ref T) rfl ?_)
  refine wpAny_bind (wpAny_seqItems hm.2 rfl ?_)
  simp only [← Array.forIn_toList, List.forIn_cons, List.forIn_nil]
  refine wpAny_bind (wpAny_bind (wpAny_bind (wpAny_holding ?_)))
  refine wpAny_nextOf_list_item hit hl hx fun h' hit' hs => ?_
  have hm' : h'.get? M = some { cls := .type "map", data := .fields #[.ref T, f] } := (hs.2 M hMI).trans hm.1
  refine wpAny_pure (wpAny_pure (wpAny_bind (wpAny_field hm' rfl (x := f) rfl ?_)))
  refine wpAny_bind (wpAny_holding (wpAny_mono (hf h' hit' hs) (fun v s' hq => ?_) fun _ _ x => x.elim))
  exact wpAny_bind (wpAny_letGo (wpAny_pure ⟨_, rfl, wpAny_pure hq⟩))
theorem next_map_end {M T I l : Addr} {f : Value} {i : Nat} {items : Array Value} {Q : Option Value → Shared → Prop} (hh : A.handled = none) (hm : IsMap s.heap M T I f) (hit : s.heap.IsListIter I l i) (hl : s.heap.IsList l items) (hx : items[i]? = none)
    (hQ : ∀ h', Heap.ExtBut I s.heap h' → Q none { s with heap := h' }) :
    wpAny (model prog w) A (pyNext (.ref M)) Q E s := by
  have hT : s.TypeIs (.ref M) "map" := ⟨_, hm.1, rfl⟩
  unfold pyNext
  refine wpAny_bind (wpAny_attempt (wpAny_callSpecial?_slot (name := Str.ofString "__next__") hT MF.slot_map_next
    (wpAny_call_entry MF.slot_map_next hT MF.entry_map_next ?_ (MF.args_map_next _))))
  show wpAny _ _ (field (.ref M) 0 >>= _) _ _ _
  refine wpAny_bind (wpAny_field hm.1 rfl (x := .ref T) rfl ?_)
  refine wpAny_bind (wpAny_seqItems hm.2 rfl ?_)
  simp only [← Array.forIn_toList, List.forIn_cons, List.forIn_nil]
  refine wpAny_bind (wpAny_bind (wpAny_bind (wpAny_holding ?_)))
  refine wpAny_nextOf_list_end hh hit hl hx fun h' x he' hx' => ?_
  obtain ⟨o, ho, hc⟩ := hx'
  refine wpAny_bind (wpAny_isInstance (T := "StopIteration") (b := true) ⟨o, ho, hc⟩ isSubtype_stop ?_)
  exact wpAny_pure (hQ _ he')
end
end
-- F6
section
open AutoSeq1 (wpAny_loadPart')
abbrev lst (acc : Array Value) (c : Nat) : Obj := { cls := .type "list", data := .seq acc c }
def Stays1 (I : Addr) (h h' : Heap) : Prop := ∀ b o, b ≠ I → h.get? b = some o → h'.get? b = some o
theorem Stays1.trans {I : Addr} {h h' h'' : Heap} (a : Stays1 I h h') (b : Stays1 I h' h'') : Stays1 I h h'' := fun x o n e => b x o n (a x o n e)
section
variable {prog : Program} {w : World} {A : Around} {E : Value → Shared → Prop} {s : Shared}
theorem extend_turn {S : Addr} {it res : Value} {R : Result → Shared → Prop}
    (h : wpAny (model prog w) A.in1 (pyNext it) (fun r s' => match r with
      | none => R (.ok (.ret res)) s'
      | some v => ∃ acc c, s'.heap.get? S = some (lst acc c) ∧ acc.size ≤ 1000 ∧
        codeAny (model prog w) A (.builtin "list.extend.loop" ⟨[.ref S, it, res], []⟩) R { s' with heap := s'.heap.update S (Obj.mapSeq (·.push v)) }) (fun e s' => R (.error e) s') s) :
    codeAny (model prog w) A (.builtin "list.extend.loop" ⟨[.ref S, it, res], []⟩) R s := by
  refine codeAny_builtin PySem.F.entry_extend_loop ?_
  rw [Around.under_plainId PySem.F.plain_extend_loop _]
  show wpAny _ A.in1 (pyNext it >>= _) _ _ s
  refine wpAny_bind (wpAny_mono h (fun r s' hr => ?_) fun _ _ x => x)
  cases r with
  | none => exact wpAny_pure hr
  | some v =>
    obtain ⟨acc, c, hS, hz, hk⟩ := hr
    show wpAny _ A.in1 (updateSeq S (·.push v) >>= _) _ _ _
    exact wpAny_bind (wpAny_updateSeq hS rfl (wpAny_pure ⟨plainId_quiet PySem.F.plain_extend_loop _, hk⟩) (by rw [sizeLine_eq]; omega) (by show (acc.push v).size ≤ sizeLine + 1; rw [Array.size_push, sizeLine_eq]; omega))
theorem collect_map2 {M T I l : Addr} {f x0 x1 : Value} {Q : List Value → Shared → Prop} (hh : A.handled = none) (hm : IsMap s.heap M T I f) (hit : s.heap.IsListIter I l 0) (hl : s.heap.IsList l #[x0, x1])
    (hf : ∀ x, x = x0 ∨ x = x1 → ∀ h' tk, Stays1 I s.heap h' → ∀ Q' : Value → Shared → Prop, (∀ h'' tk', h'.StaysIn h'' → Q' x { s with heap := h'', toks := tk' }) →
      wpAny (model prog w) A.in1.in1 (call f [x]) Q' (fun _ _ => False) { s with heap := h', toks := tk })
    (hQ : ∀ h' tk, Stays1 I s.heap h' → Q [x0, x1] { s with heap := h', toks := tk }) :
    wpAny (model prog w) A (collect (.ref M)) Q E s := by
  have hlI : l ≠ I := fun e => by
    obtain ⟨o, ho, hc, _⟩ := hit
    obtain ⟨o', ho', hc', _⟩ := hl
    rw [e, ho] at ho'; cases ho'; rw [hc] at hc'; exact absurd (Value.type.inj hc') (by decide)
  have hMI : M ≠ I := fun e => by
    obtain ⟨o, ho, hc, _⟩ := hit
    have := hm.1
    rw [e, ho] at this; cases this; exact absurd (Value.type.inj hc) (by decide)
  have hTI : T ≠ I := fun e => by
    obtain ⟨o, ho, hc, _⟩ := hit
    have := hm.2
    rw [e, ho] at this; cases this; exact absurd (Value.type.inj hc) (by decide)
  have hIlt : I < s.heap.objs.size := by obtain ⟨o, ho, _⟩ := hit; exact Heap.lt_size ho
  generalize hS : s.heap.objs.size = S at hIlt
  have hSI : S ≠ I := Nat.ne_of_gt hIlt
  have lS : ∀ {b o}, s.heap.get? b = some o → b ≠ S := fun e q => absurd (Heap.lt_size e) (by rw [hS, q]; exact Nat.lt_irrefl _)
  -- what is needed of a heap amid the walk
  have mapAt : ∀ h' : Heap, Stays1 I s.heap h' → IsMap h' M T I f ∧ h'.IsList l #[x0, x1] := fun h' k => by
    obtain ⟨o', ho', r⟩ := hl
    exact ⟨⟨k _ _ hMI hm.1, k _ _ hTI hm.2⟩, ⟨o', k _ _ hlI ho', r⟩⟩
  have upd : ∀ {h' : Heap} {g : Obj → Obj}, Stays1 I s.heap h' → Stays1 I s.heap (h'.update S g) := fun k b o n e => (Heap.get?_update_other _ _ (Ne.symm (lS e))).trans (k b o n e)
  unfold collect
  refine wpAny_bind (wpAny_runValue (codeAny_builtin PySem.F.entry_proto_collect ?_))
  rw [Around.under_plainId PySem.F.plain_proto_collect _]
  show wpAny _ A.in1 (newList [] >>= fun l => again (.builtin "list.__iadd__" ⟨[l, .ref M], []⟩)) _ _ s
  refine wpAny_bind (wpAny_newObj_type ?_)
  refine wpAny_pure ⟨plainId_quiet PySem.F.plain_list_iadd _, codeAny_builtin PySem.F.entry_list_iadd ?_⟩
  rw [Around.under_plainId PySem.F.plain_list_iadd _, hS]
  have hMS : S ≠ M := Ne.symm (lS hm.1)
  show wpAny _ A.in1 (Builtin.List.listExtendWith (.ref S) (.ref M) (.ref S)) _ _ _
  unfold Builtin.List.listExtendWith
  have k0 : Stays1 I s.heap (s.heap.push (lst #[] 0)) := fun b o _ e => Heap.get?_push_of_some _ e
  have hT0 : Shared.TypeIs { s with heap := s.heap.push (lst #[] 0) } (.ref M) "map" := ⟨_, (mapAt _ k0).1.1, rfl⟩
  refine wpAny_bind (wpAny_typeOf hT0 ?_)
  have h1 : Builtin.List.listSameRef (.ref S) (.ref M) = false := by simp [Builtin.List.listSameRef, hMS]
  have h2 : (Value.type "map" == Value.type "list") = false := by decide
  have h3 : (Value.type "map" == Value.type "tuple") = false := by decide
  simp only [h1, h2, h3, Bool.or_false, Bool.false_eq_true, if_false]
  refine wpAny_bind (wpAny_pyIter_slot hT0 MF.slot_map_iter (wpAny_call_entry MF.slot_map_iter hT0 MF.entry_map_iter ?_ (MF.args_map_iter _)))
  show wpAny _ _ (ret (.ref M)) _ _ _
  refine wpAny_pure ⟨_, rfl, "map", _, hT0, MF.slot_map_next.lookup, ?_⟩
  refine wpAny_bind (wpAny_holding ?_)
  unfold Builtin.List.listLengthHint
  refine wpAny_bind (wpAny_specialOf hT0 MF.map_no_len ?_)
  show wpAny _ A.in1 (specialOf (Value.ref M) (Str.ofString "__length_hint__") >>= _) _ _ _
  refine wpAny_bind (wpAny_specialOf hT0 MF.map_no_hint ?_)
  refine wpAny_pure ?_
  show wpAny _ A.in1 (rule "list.extend.makes-room" >>= fun _ => Builtin.List.listTouch (.ref S) >>= fun _ =>
    again (.builtin "list.extend.loop" ⟨[.ref S, .ref M, .ref S], []⟩)) _ _ _
  refine wpAny_bind (wpAny_rule ?_)
  have hS₁ : (s.heap.push (lst #[] 0)).get? S = some (lst #[] 0) := by rw [← hS]; exact Heap.get?_push_size _ rfl
  refine wpAny_bind ?_
  show wpAny _ A.in1 (updateSeq S (·.push .none) >>= fun _ => updateSeq S (·.pop)) _ _ _
  refine wpAny_bind (wpAny_updateSeq hS₁ rfl ?_)
  have hS₂ := Heap.get?_update_self (Obj.mapSeq (·.push Value.none)) hS₁ rfl
  refine wpAny_updateSeq hS₂ rfl ?_
  have hS₃ := Heap.get?_update_self (Obj.mapSeq (·.pop)) hS₂ rfl
  have k3 := upd (g := Obj.mapSeq (·.pop)) (upd (g := Obj.mapSeq (·.push Value.none)) k0)
  refine wpAny_pure ⟨plainId_quiet PySem.F.plain_extend_loop _, ?_⟩
  have it0 : ∀ {h' : Heap} {i : Nat} {g : Obj → Obj}, h'.IsListIter I l i → (h'.update S g).IsListIter I l i := fun ⟨o, ho, r⟩ => ⟨o, (Heap.get?_update_other _ _ hSI).trans ho, r⟩
  have itk : ∀ {h' h'' : Heap} {i : Nat}, h'.IsListIter I l i → h'.StaysIn h'' → h''.IsListIter I l i := fun ⟨o, ho, r⟩ k => ⟨o, k _ _ ho, r⟩
  have itp : (s.heap.push (lst #[] 0)).IsListIter I l 0 := by obtain ⟨o, ho, r⟩ := hit; exact ⟨o, Heap.get?_push_of_some _ ho, r⟩
  generalize hH : ((s.heap.push (lst #[] 0)).update S (Obj.mapSeq (·.push Value.none))).update S (Obj.mapSeq (·.pop)) = H at hS₃ k3
  have itH : H.IsListIter I l 0 := by rw [← hH]; exact it0 (it0 itp)
  replace hS₃ : H.get? S = some (lst #[] _) := hS₃
  -- the first
  refine extend_turn ?_
  refine next_map_item (A := A.in1) (mapAt H k3).1 itH (mapAt H k3).2 rfl fun h1 it1 b1 => ?_
  have k4 : Stays1 I s.heap h1 := k3.trans fun b o n e => (b1.2 b n).trans e
  refine hf x0 (.inl rfl) h1 _ k4 _ fun h2 tk2 st2 => ?_
  have k5 : Stays1 I s.heap h2 := k4.trans fun b o _ e => st2 b o e
  have e5 : h2.get? S = some (lst #[] _) := st2 _ _ ((b1.2 S hSI).trans hS₃)
  refine ⟨_, _, e5, by decide, ?_⟩
  have e6 := Heap.get?_update_self (Obj.mapSeq (·.push x0)) e5 rfl
  have k6 := upd (g := Obj.mapSeq (·.push x0)) k5
  have it6 := it0 (g := Obj.mapSeq (·.push x0)) (itk it1 st2)
  generalize h2.update S (Obj.mapSeq (·.push x0)) = H2 at e6 k6 it6
  replace e6 : H2.get? S = some (lst #[x0] _) := e6
  -- the second
  refine extend_turn ?_
  refine next_map_item (A := A.in1) (mapAt H2 k6).1 it6 (mapAt H2 k6).2 rfl fun h3 it3 b3 => ?_
  have k7 : Stays1 I s.heap h3 := k6.trans fun b o n e => (b3.2 b n).trans e
  refine hf x1 (.inr rfl) h3 _ k7 _ fun h4 tk4 st4 => ?_
  have k8 : Stays1 I s.heap h4 := k7.trans fun b o _ e => st4 b o e
  have e8 : h4.get? S = some (lst #[x0] _) := st4 _ _ ((b3.2 S hSI).trans e6)
  refine ⟨_, _, e8, Nat.le_of_ble_eq_true rfl, ?_⟩
  have e9 := Heap.get?_update_self (Obj.mapSeq (·.push x1)) e8 rfl
  have k9 := upd (g := Obj.mapSeq (·.push x1)) k8
  have it9 := it0 (g := Obj.mapSeq (·.push x1)) (itk it3 st4)
  generalize h4.update S (Obj.mapSeq (·.push x1)) = H3 at e9 k9 it9
  replace e9 : H3.get? S = some (lst #[x0, x1] _) := e9
  -- no more
  refine extend_turn ?_
  refine next_map_end (A := A.in1) hh (mapAt H3 k9).1 it9 (mapAt H3 k9).2 rfl fun h5 b5 => ?_
  show wpAny _ A (load S >>= _) _ _ _
  refine wpAny_bind (wpAny_load (b5 _ _ hSI e9) ?_)
  exact wpAny_pure (hQ _ _ (k9.trans b5))
theorem call_tuple_map2 {M T I l : Addr} {f x0 x1 : Value} {Q : Value → Shared → Prop} (hh : A.handled = none) (hm : IsMap s.heap M T I f) (hit : s.heap.IsListIter I l 0) (hl : s.heap.IsList l #[x0, x1])
    (hf : ∀ x, x = x0 ∨ x = x1 → ∀ h' tk, Stays1 I s.heap h' → ∀ Q' : Value → Shared → Prop, (∀ h'' tk', h'.StaysIn h'' → Q' x { s with heap := h'', toks := tk' }) →
      wpAny (model prog w) A.in1.in1.in1.in1 (call f [x]) Q' (fun _ _ => False) { s with heap := h', toks := tk })
    (hQ : ∀ h' tk, Stays1 I s.heap h' → Q (.ref h'.objs.size) { s with heap := h'.push { cls := .type "tuple", data := .seq #[x0, x1] }, toks := tk }) :
    wpAny (model prog w) A (call (.type "tuple") [.ref M]) Q E s := by
  refine callType_codes (Q₁ := fun obj s₁ => s₁.TypeIs obj "tuple" ∧ Q obj s₁) PySem.F.called_tuple (PySem.F.typeCall_tuple_1 _) PySem.F.entry_object_init
    ?_ fun obj s₁ h₁ => ⟨h₁.1, PySem.F.args_object_init_2 obj _, object_init_meets PySem.F.called_tuple.init.lookup PySem.F.called_tuple.made (by decide) prog w A.in1 _ s₁ ⟨h₁.1, rfl, h₁.2⟩⟩
  refine codeAny_of_tree ?_
  show wpAny _ A.in1.in1 (do checkBuiltinCall "tuple.__new__" ⟨[.type "tuple", .ref M], []⟩; again (.builtin "tuple.__new__" ⟨[.type "tuple", .ref M], []⟩)) _ _ s
  refine wpAny_bind (wpAny_of_eq (PySem.F.newCall_tuple_1 _) (wpAny_pure ⟨plainId_quiet PySem.F.plain_tuple_new _, codeAny_builtin PySem.F.entry_tuple_new ?_⟩))
  rw [Around.under_plainId PySem.F.plain_tuple_new _]
  have hsub := sub_tuple_self
  have hinit := init_tuple_lookup
  have hmh := madeHere_tuple
  have hT : s.TypeIs (.ref M) "map" := ⟨_, hm.1, rfl⟩
  wp_walk using wpAny_typeOf hT, collect_map2 (A := A.in1.in1) hh hm hit hl hf
  intro h' tk k
  show wpAny _ _ (Builtin.Tuple.tupleExact [x0, x1].toArray >>= fun v => ret v) _ _ _
  unfold Builtin.Tuple.tupleExact
  refine wpAny_bind (wpAny_newObj_type ?_ (Nat.le_of_ble_eq_true rfl))
  exact wpAny_pure ⟨⟨_, Heap.get?_push_size _ rfl, rfl⟩, hQ h' tk k⟩
theorem tuple_map_step {l : Addr} {f x0 x1 : Value} {Q : Value → Shared → Prop} (hh : A.handled = none) (hl : s.heap.IsList l #[x0, x1])
    (hf : ∀ x, x = x0 ∨ x = x1 → ∀ h' tk, s.heap.StaysIn h' → ∀ Q' : Value → Shared → Prop, (∀ h'' tk', h'.StaysIn h'' → Q' x { s with heap := h'', toks := tk' }) →
      wpAny (model prog w) A.in1.in1.in1.in1 (call f [x]) Q' (fun _ _ => False) { s with heap := h', toks := tk })
    (hQ : ∀ h' tk, s.heap.StaysIn h' → Q (.ref h'.objs.size) { s with heap := h'.push { cls := .type "tuple", data := .seq #[x0, x1] }, toks := tk }) :
    wpAny (model prog w) A (call (.type "tuple") [.ref (s.heap.objs.size + 2)]) Q E { s with heap := mapHeap s.heap f l } := by
  have k0 : s.heap.StaysIn (mapHeap s.heap f l) := fun b o e => mapHeap_keep e
  have k1 : ∀ h', Stays1 s.heap.objs.size (mapHeap s.heap f l) h' → s.heap.StaysIn h' := fun h' k b o e => k b o (Nat.ne_of_lt (Heap.lt_size e)) (k0 b o e)
  obtain ⟨o, ho, r⟩ := hl
  exact call_tuple_map2 (s := { s with heap := mapHeap s.heap f l }) hh (mapHeap_is s.heap f l).1 (mapHeap_is s.heap f l).2 ⟨o, k0 _ _ ho, r⟩ (fun x hx h' tk k => hf x hx h' tk (k1 h' k)) fun h' tk k => hQ h' tk (k1 h' k)
theorem tuple_map_F {l : Addr} {f x0 x1 : Value} {Q : Value → Shared → Prop} {h₀ : Heap} {L : Addr} {m : Str → Option Value} {news : List (Addr × Obj)} (F : Fr h₀ L s.heap m) (N : News h₀ L s.heap news) (hh : A.handled = none) (hl : s.heap.IsList l #[x0, x1])
    (hf : ∀ x, x = x0 ∨ x = x1 → ∀ h' tk, s.heap.StaysIn h' → ∀ Q' : Value → Shared → Prop, (∀ h'' tk', h'.StaysIn h'' → Q' x { s with heap := h'', toks := tk' }) →
      wpAny (model prog w) A.in1.in1.in1.in1 (call f [x]) Q' (fun _ _ => False) { s with heap := h', toks := tk })
    (hQ : ∀ D h' tk, Fr h₀ L h' m → News h₀ L h' ((D, { cls := .type "tuple", data := .seq #[x0, x1] }) :: news) → (∀ p ∈ news, p.1 < D) → Q (.ref D) { s with heap := h', toks := tk }) :
    wpAny (model prog w) A (call (.type "tuple") [.ref (s.heap.objs.size + 2)]) Q E { s with heap := mapHeap s.heap f l } :=
  tuple_map_step hh hl hf fun h' tk st => hQ _ _ tk ((frStays st F).push _) (News.push (frStays st F) (newsStays st N) _) fun p hp => Heap.lt_size (newsStays st N p hp).1
end
end
local macro_rules | `(tactic| walk_at "call type:map") => `(tactic| (k_here; with_unfolding_all refine' call_map ?m1 ?_; (case m1 => (first | assumption | is_list | exact stays_list (Fr.keep (by assumption)) (by assumption)))))
-- F7
section
variable {M : Model} {A : Around} {E : Value → Shared → Prop} {s : Shared} {env : Env}
theorem try_ok {body orelse : List Stmt} {handlers : List ExceptHandler} {pos : Pos} {Q : Flow → Shared → Prop}
    (h : wpAny M A (execs body env) (fun f s' => match f with | .next => wpAny M A (execs orelse env) Q E s' | f => Q f s') (fun _ _ => False) s) :
    wpAny M A (exec (.Try body handlers orelse [] pos) env) Q E s := by
  show wpAny M A (do standAt pos; tryStmt false (execs body env) handlers (execs orelse env) [] env) Q E s
  refine wpAny_bind (wpAny_standAt ?_)
  simp only [tryStmt, List.isEmpty_nil, if_true]
  refine wpAny_bind (wpAny_attempt (wpAny_mono h (fun f s' hf => ?_) fun _ _ x => x.elim))
  cases f with
  | next => exact hf
  | _ => exact wpAny_pure hf
end
local macro_rules | `(tactic| walk_at "exec Try") => `(tactic| (k_here; (with_reducible show wpAny _ _ (exec (Stmt.Try _ _ _ [] _) _) _ _ _); refine try_ok ?_; k_fold))
-- Comp
section
open PySem.Calls
open LCg LCt
def SrcAt2 (T : String) (h₀ : Heap) (ax : Addr) (its : Array Value) (news : List (Addr × Obj)) : Prop :=
  ∃ o, (h₀.get? ax = some o ∨ (ax, o) ∈ news) ∧ o.cls = .type T ∧ ∃ n, o.data = .seq its n
theorem SrcAt2.at {T : String} {h₀ h : Heap} {L ax : Addr} {its : Array Value} {news : List (Addr × Obj)} (S : SrcAt2 T h₀ ax its news) (k : ∀ b o, h₀.get? b = some o → h.get? b = some o) (N : News h₀ L h news) :
    ∃ o, h.get? ax = some o ∧ o.cls = .type T ∧ ∃ n, o.data = .seq its n := by
  obtain ⟨o, ho, r⟩ := S
  exact ⟨o, ho.elim (k _ _) fun hm => (N _ hm).1, r⟩
theorem SrcAt2.mono {T : String} {h₀ : Heap} {ax : Addr} {its : Array Value} {news news' : List (Addr × Obj)} (S : SrcAt2 T h₀ ax its news) (k : ∀ p ∈ news, p ∈ news') : SrcAt2 T h₀ ax its news' := by
  obtain ⟨o, ho, r⟩ := S
  exact ⟨o, ho.imp id (k _), r⟩
theorem SrcAt2.base {h₀ : Heap} {ax : Addr} {its : Array Value} {news : List (Addr × Obj)} (h : h₀.IsList ax its) : SrcAt2 "list" h₀ ax its news := let ⟨o, e, hc, n, hd⟩ := h; ⟨o, .inl e, hc, n, hd⟩
section
variable {prog : Program} {w : World} {A : Around} {E : Value → Shared → Prop} {s : Shared} {h₀ : Heap} {L : Addr} {m : Str → Option Value} {env : Env}
structure IterOf (prog : Program) (w : World) (A : Around) (T : String) (h₀ : Heap) (L : Addr) (I ax : Addr) (its : Array Value) (fp : List Addr) (St : Nat → Heap → Prop) : Prop where
  W : Walks prog w A I fp [I] its.size (fun i v => its[i]? = some v) St
  obj : ∀ i h, St i h → ∃ o, h.get? I = some o
  stays : ∀ i h h' o nw, St i h → h.get? I = some o → h'.get? I = some o → (∀ b o, h₀.get? b = some o → h'.get? b = some o) → News h₀ L h' nw → SrcAt2 T h₀ ax its nw → St i h'
theorem src_iter {T : String} {ax : Addr} {its : Array Value} {news : List (Addr × Obj)} {Q : Value → Shared → Prop} (hT : T = "list" ∨ T = "tuple") (hh : A.handled = none) (F : Fr h₀ L s.heap m) (N : News h₀ L s.heap news) (S : SrcAt2 T h₀ ax its news)
    (h : ∀ I fp St h', IterOf prog w A T h₀ L I ax its fp St → St 0 h' → (∀ b ∈ fp, b < h'.objs.size) → Fr h₀ L h' m → News h₀ L h' news → L ≠ I → h₀.get? I = none → (∀ p ∈ news, p.1 ≠ I) → Q (.ref I) { s with heap := h' }) :
    wpAny (model prog w) A (pyIter (.ref ax)) Q E s := by
  have hl := S.at F.keep N
  have hlt : ax < s.heap.objs.size := by obtain ⟨_, e, _⟩ := hl; exact Heap.lt_size e
  have fpl : ∀ (o : Obj), ∀ b ∈ [s.heap.objs.size, ax], b < (s.heap.push o).objs.size := fun o b hb => by
    rw [Heap.size_push]
    rcases List.mem_cons.mp hb with rfl | hb
    · exact Nat.lt_succ_self _
    · rw [List.mem_singleton.mp hb]; exact Nat.lt_succ_of_lt hlt
  rcases hT with rfl | rfl
  · refine wpAny_pyIter_list hl ?_
    have up : ∀ b o, s.heap.get? b = some o → (s.heap.push { cls := .type "list_iterator", data := .fields #[.ref ax, .int 0 0] }).get? b = some o := fun b o e => Heap.get?_push_of_some _ e
    refine h s.heap.objs.size [s.heap.objs.size, ax] _ _ ⟨Walks.list hh s.heap.objs.size ax (Nat.ne_of_lt hlt) its, fun i h st => ?_, fun i h h' o nw st e e' k N' S' => ⟨?_, S'.at k N'⟩⟩ ⟨⟨_, Heap.get?_push_size _ rfl, rfl, rfl⟩, Heap.IsList.push hl _⟩ (fpl _)
      (F.keeps up) (N.grown up) (Nat.ne_of_lt F.ns.lt) (next_is_new F) fun p hp => Nat.ne_of_lt (Heap.lt_size (N p hp).1)
    · obtain ⟨o, e, _⟩ := st.1; exact ⟨o, e⟩
    · obtain ⟨o', q, r⟩ := st.1; rw [e] at q; cases q; exact ⟨o, e', r⟩
  · refine wpAny_pyIter_tuple hl ?_
    have up : ∀ b o, s.heap.get? b = some o → (s.heap.push { cls := .type "tuple_iterator", data := .fields #[.ref ax, .int 0 0] }).get? b = some o := fun b o e => Heap.get?_push_of_some _ e
    refine h s.heap.objs.size [s.heap.objs.size, ax] _ _ ⟨Walks.tuple hh s.heap.objs.size ax (Nat.ne_of_lt hlt) its, fun i h st => ?_, fun i h h' o nw st e e' k N' S' => ⟨?_, S'.at k N'⟩⟩ ⟨⟨_, Heap.get?_push_size _ rfl, rfl, rfl⟩, Heap.IsTuple.at hl fun o e => up _ _ e⟩ (fpl _)
      (F.keeps up) (N.grown up) (Nat.ne_of_lt F.ns.lt) (next_is_new F) fun p hp => Nat.ne_of_lt (Heap.lt_size (N p hp).1)
    · obtain ⟨o, e, _⟩ := st.1; exact ⟨o, e⟩
    · obtain ⟨o', q, r⟩ := st.1; rw [e] at q; cases q; exact ⟨o, e', r⟩
def Src2 (prog : Program) (w : World) (A : Around) (h₀ : Heap) (L : Addr) (m : Str → Option Value) (env : Env) (elt : Expr) (x : Str) (scope : Scope) (cl : List (Str × Addr)) (Fin : Shared → List Value → List (Addr × Obj) → Prop) (xv : Value) (s₁ : Shared) : Prop :=
  ∃ T ax its news, (T = "list" ∨ T = "tuple") ∧ xv = .ref ax ∧ A.handled = none ∧ Fr h₀ L s₁.heap m ∧ News h₀ L s₁.heap news ∧ SrcAt2 T h₀ ax its news ∧ its.size ≤ sizeLine ∧
    ∀ s₂ : Shared, (∃ h, s₂ = { s₁ with heap := h }) → CompRest prog w A h₀ L m env elt x scope cl s₂ (SrcAt2 T h₀ ax its) (fun i v => its[i]? = some v) (Fin s₂) its.size 0 [] news
def Src2T (prog : Program) (w : World) (A : Around) (h₀ : Heap) (L : Addr) (m : Str → Option Value) (env : Env) (ct elt : Expr) (x : Str) (scope : Scope) (cl : List (Str × Addr)) (Fin : Shared → List Value → List (Addr × Obj) → Prop) (xv : Value) (s₁ : Shared) : Prop :=
  ∃ T ax its news, (T = "list" ∨ T = "tuple") ∧ xv = .ref ax ∧ A.handled = none ∧ Fr h₀ L s₁.heap m ∧ News h₀ L s₁.heap news ∧ SrcAt2 T h₀ ax its news ∧ its.size ≤ sizeLine ∧
    ∀ s₂ : Shared, (∃ h, s₂ = { s₁ with heap := h }) → CompRestT prog w A h₀ L m env ct elt x scope cl s₂ (SrcAt2 T h₀ ax its) (fun i v => its[i]? = some v) (Fin s₂) its.size 0 [] news
theorem fin_expr {Q : Value → Shared → Prop} {D C : Addr} {h : Heap} {tk : Nat} {m' : Str → Option Value} {ys : List Value} {news' : List (Addr × Obj)} {s₂ : Shared} (F' : Fr h₀ L h m) (N' : News h₀ L h ((D, LCg.lst ys) :: news')) (o1 : Off1 D news') (hn : h.Ns C m') (hC₀ : h₀.get? C = none) (hCL : C ≠ L) (hCD : C ≠ D) (offC : ∀ p ∈ news', p.1 ≠ C) (fin : FinE h₀ L m s₂ Q ys news') :
    compPost (model prog w) A E none Q (.ref D) C (.ok .next) { s₂ with heap := h, toks := tk } := by
  refine ⟨m', hn, fun h'' hs'' => fin D h'' tk (F'.change hs'' hCL hC₀) (fun p hp => ?_) o1⟩
  refine ⟨hs''.extBut _ _ ?_ (N' p hp).1, (N' p hp).2⟩
  rcases List.mem_cons.mp hp with rfl | hp
  · exact Ne.symm hCD
  · exact offC p hp
theorem fin_assign {y : Str} {py : Pos} {Q : Flow → Shared → Prop} {D C : Addr} {h : Heap} {tk : Nat} {m' : Str → Option Value} {ys : List Value} {news' : List (Addr × Obj)} {s₂ : Shared} (hy : env.kindOf y = some .local) (hp : (env.scope.kind == .class || (env.scope.kind == .module && env.locals != env.globals)) = false)
    (F' : Fr h₀ env.locals h m) (N' : News h₀ env.locals h ((D, LCg.lst ys) :: news')) (o1 : Off1 D news') (hn : h.Ns C m') (hC₀ : h₀.get? C = none) (hCL : C ≠ env.locals) (hCD : C ≠ D) (offC : ∀ p ∈ news', p.1 ≠ C) (fin : FinA h₀ env.locals m s₂ y Q ys news') :
    compPost (model prog w) A E (some (assign (.Name y py) env)) (fun _ s' => Q .next s') (.ref D) C (.ok .next) { s₂ with heap := h, toks := tk } := by
  show wpAny _ A (assign (.Name y py) env (.ref D)) _ _ _
  refine wpAny_assign_Name (wpAny_storeName_local hy F'.ns (fun h₂ hn₂ hs₂ => ?_) hp)
  have hL₀ : h₀.get? env.locals = none := Heap.get?_none_of_le F'.above
  have F₂ : Fr h₀ env.locals h₂ (fun z => if z = y then some (.ref D) else m z) := ⟨hn₂, fun b o e => hs₂.extBut b o (fun q => by rw [q, hL₀] at e; cases e) (F'.keep b o e), F'.above⟩
  refine ⟨m', hn.sameBut hs₂ hCL, fun h'' hs'' => fin D h'' _ (F₂.change hs'' hCL hC₀) (fun p hp => ?_) o1⟩
  have z : h₂.get? p.1 = some p.2 := hs₂.extBut _ _ (N' p hp).2.1 (N' p hp).1
  refine ⟨hs''.extBut _ _ ?_ z, (N' p hp).2⟩
  rcases List.mem_cons.mp hp with rfl | hp
  · exact Ne.symm hCD
  · exact offC p hp
section
variable {elt ct iter : Expr} {x y : Str} {px py : Pos} {scope : Scope} {cl : List (Str × Addr)} {pos spos : Pos}
theorem LC_U {Q : Value → Shared → Prop} (F₀ : Fr h₀ L s.heap m) (hclos : closureFor scope env = pure cl) (hcell : ∀ y ∈ scope.names, y.2 ≠ .cell) (hkind : scope.kind = .function)
    (hnames : ∀ y ∈ scope.names, y.2 = .local → scope.names.lookup y.1 = some .local) (hx : scope.names.lookup x = some .local)
    (h : wpAny (model prog w) A (eval iter env) (Src2 prog w A h₀ L m env elt x scope cl (fun s₂ => FinE h₀ L m s₂ Q)) E s)
    (hs : ∀ x, foldedSetIterable iter env x = pure x := by intro _; rfl) :
    wpAny (model prog w) A (eval (.ListComp elt [⟨.Name x px, iter, [], 0⟩] scope pos) env) Q E s := by
  have _ := F₀
  rw [eval_ListComp]
  refine wpAny_comprehension_free (use := none) rfl hs hclos hkind hnames (wpAny_mono h (fun xv s₁ h₁ => ?_) fun _ _ e => e)
  obtain ⟨T, ax, its, news, hT, rfl, hh, F, N, S, hsz, R⟩ := h₁
  refine src_iter hT hh F N S fun I fp St h' IO st0 hfp F' N' hLI hI0 off => ?_
  exact block_U (s₂ := { s₁ with heap := h' }) IO.W hsz IO.obj IO.stays hcell hkind hx st0 hfp F' N' hLI hI0 off S (R _ ⟨_, rfl⟩)
    fun D C h tk m' ys news' F' N' o1 hn hC₀ _ hCL _ hCD offC fin => fin_expr F' N' o1 hn hC₀ hCL hCD offC fin
theorem LC_T {Q : Value → Shared → Prop} (F₀ : Fr h₀ L s.heap m) (hclos : closureFor scope env = pure cl) (hcell : ∀ y ∈ scope.names, y.2 ≠ .cell) (hkind : scope.kind = .function)
    (hnames : ∀ y ∈ scope.names, y.2 = .local → scope.names.lookup y.1 = some .local) (hx : scope.names.lookup x = some .local)
    (h : wpAny (model prog w) A (eval iter env) (Src2T prog w A h₀ L m env ct elt x scope cl (fun s₂ => FinE h₀ L m s₂ Q)) E s)
    (hs : ∀ x, foldedSetIterable iter env x = pure x := by intro _; rfl) :
    wpAny (model prog w) A (eval (.ListComp elt [⟨.Name x px, iter, [ct], 0⟩] scope pos) env) Q E s := by
  have _ := F₀
  rw [eval_ListComp]
  refine wpAny_comprehension_free (use := none) rfl hs hclos hkind hnames (wpAny_mono h (fun xv s₁ h₁ => ?_) fun _ _ e => e)
  obtain ⟨T, ax, its, news, hT, rfl, hh, F, N, S, hsz, R⟩ := h₁
  refine src_iter hT hh F N S fun I fp St h' IO st0 hfp F' N' hLI hI0 off => ?_
  exact block_T (s₂ := { s₁ with heap := h' }) IO.W hsz IO.obj IO.stays hcell hkind hx st0 hfp F' N' hLI hI0 off S (R _ ⟨_, rfl⟩)
    fun D C h tk m' ys news' F' N' o1 hn hC₀ _ hCL _ hCD offC fin => fin_expr F' N' o1 hn hC₀ hCL hCD offC fin
theorem ALC_U {Q : Flow → Shared → Prop} (F₀ : Fr h₀ L s.heap m) (hLe : env.locals = L)
    (hsw : swapsWith (.ListComp elt [⟨.Name x px, iter, [], 0⟩] scope pos) (some (.Name y py)) spos.line env = pure true)
    (hclos : closureFor scope env = pure cl) (hcell : ∀ z ∈ scope.names, z.2 ≠ .cell) (hkind : scope.kind = .function)
    (hnames : ∀ z ∈ scope.names, z.2 = .local → scope.names.lookup z.1 = some .local) (hx : scope.names.lookup x = some .local)
    (hy : env.kindOf y = some .local) (hp : (env.scope.kind == .class || (env.scope.kind == .module && env.locals != env.globals)) = false)
    (h : wpAny (model prog w) A (eval iter env) (Src2 prog w A h₀ L m env elt x scope cl (fun s₂ => FinA h₀ L m s₂ y Q)) E s)
    (hs : ∀ x, foldedSetIterable iter env x = pure x := by intro _; rfl) :
    wpAny (model prog w) A (exec (.Assign [.Name y py] (.ListComp elt [⟨.Name x px, iter, [], 0⟩] scope pos) spos) env) Q E s := by
  have _ := F₀
  subst hLe
  rw [exec_Assign_Name_used _ _ _ _ hsw]
  refine wpAny_bind (wpAny_standAt (wpAny_bind ?_))
  show wpAny _ A (do let _ ← comprehension (.ListComp elt [⟨.Name x px, iter, [], 0⟩] scope pos) scope env _ (newList []) false (eval iter env) (some (assign (.Name y py) env))) _ _ s
  refine wpAny_bind (wpAny_mono (wpAny_comprehension_free (use := some (assign (.Name y py) env)) (Q := fun _ s' => Q .next s') rfl hs hclos hkind hnames
    (wpAny_mono h (fun xv s₁ h₁ => ?_) fun _ _ e => e)) (fun _ s' hq => wpAny_pure (wpAny_pure hq)) fun _ _ e => e)
  obtain ⟨T, ax, its, news, hT, rfl, hh, F, N, S, hsz, R⟩ := h₁
  refine src_iter hT hh F N S fun I fp St h' IO st0 hfp F' N' hLI hI0 off => ?_
  exact block_U (s₂ := { s₁ with heap := h' }) IO.W hsz IO.obj IO.stays hcell hkind hx st0 hfp F' N' hLI hI0 off S (R _ ⟨_, rfl⟩)
    fun D C h tk m' ys news' F' N' o1 hn hC₀ _ hCL _ hCD offC fin => fin_assign hy hp F' N' o1 hn hC₀ hCL hCD offC fin
end
end
theorem Src2.tup {elt : Expr} {x : Str} {scope : Scope} {cl : List (Str × Addr)} {prog : Program} {w : World} {A : Around} {h₀ : Heap} {L : Addr} {m : Str → Option Value} {env : Env} {Fin : Shared → List Value → List (Addr × Obj) → Prop} {ax : Addr} {its : Array Value} {k : Nat} {news : List (Addr × Obj)} {s₁ : Shared}
    (hh : A.handled = none) (F : Fr h₀ L s₁.heap m) (N : News h₀ L s₁.heap news) (hm : (ax, ({ cls := .type "tuple", data := .seq its k } : Obj)) ∈ news) (hsz : its.size ≤ sizeLine)
    (h : ∀ g, CompRest prog w A h₀ L m env elt x scope cl { s₁ with heap := g } (SrcAt2 "tuple" h₀ ax its) (fun i v => its[i]? = some v) (Fin { s₁ with heap := g }) its.size 0 [] news) :
    Src2 prog w A h₀ L m env elt x scope cl Fin (.ref ax) s₁ := ⟨"tuple", ax, its, news, .inr rfl, rfl, hh, F, N, ⟨_, .inr hm, rfl, _, rfl⟩, hsz, fun _ ⟨g, e⟩ => e ▸ h g⟩
theorem Src2.lst {elt : Expr} {x : Str} {scope : Scope} {cl : List (Str × Addr)} {prog : Program} {w : World} {A : Around} {h₀ : Heap} {L : Addr} {m : Str → Option Value} {env : Env} {Fin : Shared → List Value → List (Addr × Obj) → Prop} {ax : Addr} {its : Array Value} {k : Nat} {news : List (Addr × Obj)} {s₁ : Shared}
    (hh : A.handled = none) (F : Fr h₀ L s₁.heap m) (N : News h₀ L s₁.heap news) (hm : (ax, ({ cls := .type "list", data := .seq its k } : Obj)) ∈ news) (hsz : its.size ≤ sizeLine)
    (h : ∀ g, CompRest prog w A h₀ L m env elt x scope cl { s₁ with heap := g } (SrcAt2 "list" h₀ ax its) (fun i v => its[i]? = some v) (Fin { s₁ with heap := g }) its.size 0 [] news) :
    Src2 prog w A h₀ L m env elt x scope cl Fin (.ref ax) s₁ := ⟨"list", ax, its, news, .inl rfl, rfl, hh, F, N, ⟨_, .inr hm, rfl, _, rfl⟩, hsz, fun _ ⟨g, e⟩ => e ▸ h g⟩
end
local macro_rules | `(tactic| walk_at "exec Assign cons ListComp") => `(tactic| (k_here; (with_reducible show wpAny _ _ (exec (Stmt.Assign _ (Expr.ListComp _ [Comprehension.mk _ _ [] _] _ _) _) _) _ _ _); k_dflt (refine ALC_U (F₀ := by k_asm) (by rfl) (by with_unfolding_all rfl) (by with_unfolding_all rfl) (by decide) (by rfl) (by decide) (by rfl) (by rfl) (by rfl) ?_)))
local macro_rules | `(tactic| walk_at "eval ListComp") => `(tactic| (k_here; (with_reducible show wpAny _ _ (eval (Expr.ListComp _ [Comprehension.mk _ _ [] _] _ _) _) _ _ _); k_dflt (refine LC_U (F₀ := by k_asm) (by with_unfolding_all rfl) (by decide) (by rfl) (by decide) (by rfl) ?_)))
local macro_rules | `(tactic| walk_at "Src2") => `(tactic| (k_here; k_dflt (first
  | (refine Src2.tup (by rfl) (by k_asm) (by k_asm) (by k_mem) (by first | size_fits | exact Nat.le_of_ble_eq_true rfl) ?_; intro g'; lcg_lit)
  | (refine Src2.lst (by rfl) (by k_asm) (by k_asm) (by k_mem) (by first | size_fits | exact Nat.le_of_ble_eq_true rfl) ?_; intro g'; lcg_lit))))
section
open PySem.Calls
open LCg LCt
theorem newsLt {h₀ h : Heap} {L : Addr} {news : List (Addr × Obj)} (N : News h₀ L h news) : AllLt h.objs.size news := allLt_of fun p hp => Heap.lt_size (N p hp).1
end
local macro_rules | `(tactic| walk_at "CompEnd") => `(tactic| ((rename News _ _ _ _ => Nn9); (revert Nn9; rename News _ _ _ _ => No9; intro Nn9); (have lo9 := newsLt No9); (simp only [AllLt, and_true] at lo9); lcg_end))
local macro_rules | `(tactic| lcg_src) => `(tactic| exact ⟨_, Or.inr (by k_mem), rfl, _, rfl⟩)
-- SetB
section
open PySem.Calls
section
variable {prog : Program} {w : World} {A : Around} {E : Value → Shared → Prop} {s : Shared}
def hashB (b : Bool) : Int := if b then 1 else 0
theorem pyHash_bool {b : Bool} {Q : Int → Shared → Prop} (h : Q (hashB b) { s with toks := s.toks + 1 }) : wpAny (model prog w) A (pyHash (.bool b)) Q E s := by
  have hT : s.TypeIs (.bool b) "bool" := rfl
  show wpAny _ A (pyHashByItsType (.bool b)) _ _ _
  unfold pyHashByItsType
  refine wpAny_bind (wpAny_cRoomFor_byValue rfl ?_)
  refine wpAny_bind (wpAny_specialOf hT PySem.F.slot_bool_hash.lookup ?_)
  rw [if_neg (by decide)]
  refine wpAny_bind (wpAny_specialOf hT PySem.F.slot_bool_hash.lookup ?_)
  rw [if_neg (by decide)]
  show wpAny _ _ (callSpecialIfBoundUnlessNone? (.bool b) "__hash__" _ >>= _) Q E s
  refine wpAny_bind (wpAny_callSpecialIfBoundUnlessNone?_slot hT PySem.F.slot_bool_hash
    (wpAny_call_entry PySem.F.slot_bool_hash hT entry_int_hash ?_ (args_int_hash _)))
  cases b
  · refine (show wpAny _ _ (do ret (← mkInt 0)) _ _ s from wpAny_ret_mkInt ?_)
    show wpAny _ _ (pyHashByItsType.reduced 0) Q E _
    unfold pyHashByItsType.reduced
    rw [if_pos (by decide)]
    exact wpAny_pure h
  · refine (show wpAny _ _ (do ret (← mkInt 1)) _ _ s from wpAny_ret_mkInt ?_)
    show wpAny _ _ (pyHashByItsType.reduced 1) Q E _
    unfold pyHashByItsType.reduced
    rw [if_pos (by decide)]
    exact wpAny_pure h
theorem eqBool_bool {b : Bool} {Q : Bool → Shared → Prop} (h : Q true s) : wpAny (model prog w) A (eqBool (.bool b) (.bool b)) Q E s := by
  unfold eqBool
  show wpAny _ _ (if (Value.bool b == Value.bool b) = true then _ else _) Q E s
  rw [if_pos (by cases b <;> rfl)]
  exact wpAny_bind (wpAny_rule (wpAny_pure h))
def setO (es : Array (Int × Value)) (ep : Nat) (t : SetTable) : Obj := { cls := .type "set", data := .set es ep t }
def laidB (led b : Bool) : Array (Int × Value) × SetTable × Bool × Bool := layNew (.fresh 0 0 led) #[] (hashB b) (.bool b)
theorem laidB_facts (led b : Bool) : (laidB led b).1 = #[(hashB b, .bool b)] ∧ (laidB led b).2.1.fits 1 = true ∧ (laidB led b).2.1.plain = true ∧ (laidB led b).2.1.led = led ∧ (laidB led b).2.1.tooFull = false ∧ (laidB led b).2.2.2 = false := by
  cases led <;> cases b <;> decide +kernel
theorem set_add_first {S : Addr} {led b : Bool} {Q : Value → Shared → Prop} (hS : s.heap.get? S = some (setO #[] 0 (.fresh 0 0 led)))
    (h : ∀ h' ep, Heap.SameBut S s.heap h' → h'.get? S = some (setO #[(hashB b, .bool b)] ep (laidB led b).2.1) → Q .none { s with heap := h', toks := s.toks + 1 }) :
    wpAny (model prog w) A (call (.builtin "set.add") [.ref S, .bool b]) Q E s := by
  have hT : s.TypeIs (.ref S) "set" := ⟨_, hS, rfl⟩
  obtain ⟨f1, f2, f3, f4, f5, f6⟩ := laidB_facts led b
  refine wpAny_call_entry PySem.F.slot_set_add hT PySem.F.entry_set_add ?_ (PySem.F.args_set_add_2 _ _)
  unfold Builtin.«set.add» Builtin.Frozenset.oneOther
  simp only [List.isEmpty_nil, bind_assoc]
  unfold Builtin.Frozenset.addrOf setAdd
  refine wpAny_bind (wpAny_pure ?_)
  try dsimp only
  refine wpAny_bind (wpAny_pure ?_)
  try dsimp only
  refine wpAny_bind ?_
  refine wpAny_holding ?_
  refine wpAny_bind (pyHash_bool ?_)
  unfold setAddHashed
  refine wpAny_holding ?_
  unfold setAddHashedIn
  refine wpAny_bind (wpAny_setState_of hS rfl rfl ?_)
  have hb : byScan (.bool b) #[] = true := by simp [byScan, Value.scannable, scanBound]
  dsimp only
  rw [if_pos hb]
  unfold setAddByScan setScan
  refine wpAny_bind (wpAny_bind (wpAny_rule (wpAny_bind ?_)))
  refine wpAny_pure ?_
  dsimp only
  refine wpAny_bind (wpAny_pure ?_)
  have hl : layNew (.fresh 0 0 led) #[] (hashB b) (.bool b) = laidB led b := rfl
  rw [hl]
  generalize laidB led b = R at *
  obtain ⟨es, t, d, g⟩ := R
  simp only at f1 f2 f3 f4 f5 f6
  subst f1 f6
  dsimp only
  rw [if_pos f3]
  refine wpAny_bind (wpAny_pure ?_)
  simp only [if_true, f5, Bool.and_false, Bool.false_eq_true, if_false]
  refine wpAny_bind (wpAny_storeSet_of hS rfl ?_ (Nat.le_of_ble_eq_true rfl))
  refine wpAny_pure (wpAny_pure ?_)
  show wpAny _ _ (ret Value.none) _ _ _
  refine wpAny_pure ⟨_, rfl, h _ 1 (Heap.SameBut.update ..) ?_⟩
  exact Heap.get?_update_self _ hS rfl
theorem set_add_again {S : Addr} {b : Bool} {ep : Nat} {t : SetTable} {Q : Value → Shared → Prop} (hS : s.heap.get? S = some (setO #[(hashB b, .bool b)] ep t)) (hf : t.fits 1 = true)
    (h : Q .none { s with toks := s.toks + 1 }) :
    wpAny (model prog w) A (call (.builtin "set.add") [.ref S, .bool b]) Q E s := by
  have hT : s.TypeIs (.ref S) "set" := ⟨_, hS, rfl⟩
  refine wpAny_call_entry PySem.F.slot_set_add hT PySem.F.entry_set_add ?_ (PySem.F.args_set_add_2 _ _)
  unfold Builtin.«set.add» Builtin.Frozenset.oneOther
  simp only [List.isEmpty_nil, bind_assoc]
  unfold Builtin.Frozenset.addrOf setAdd
  refine wpAny_bind (wpAny_pure ?_)
  try dsimp only
  refine wpAny_bind (wpAny_pure ?_)
  try dsimp only
  refine wpAny_bind ?_
  refine wpAny_holding ?_
  refine wpAny_bind (pyHash_bool ?_)
  unfold setAddHashed
  refine wpAny_holding ?_
  unfold setAddHashedIn
  refine wpAny_bind (wpAny_setState_of hS rfl hf ?_)
  have hb : byScan (.bool b) #[(hashB b, .bool b)] = true := by simp [byScan, Value.scannable, scanBound]
  dsimp only
  rw [if_pos hb]
  unfold setAddByScan setScan
  refine wpAny_bind (wpAny_bind (wpAny_rule (wpAny_bind ?_)))
  dsimp only
  unfold setScanFrom
  rw [if_pos (by simp)]
  refine wpAny_bind (wpAny_setEpoch_of hS rfl hf (wpAny_bind (eqBool_bool ?_)))
  simp only [Bool.and_self, if_true]
  refine wpAny_pure (wpAny_pure (wpAny_pure ?_))
  show wpAny _ _ (ret Value.none) _ _ _
  exact wpAny_pure ⟨_, rfl, h⟩
end
namespace MF
theorem owner_si : Manifest.owners.lookup (String.ofList ['r', 'o', 't', 'a', 'r', 'e', 't', 'i', '_', 't', 'e', 's'].reverse) = some Manifest.sig_set_iterator := by kernel_rfl
theorem slot_si_next : Slot "set_iterator" "__next__" "set_iterator.__next__" :=
  .of (owner := "set_iterator") (n := "__next__") (by rw [typeLookup_type, builtinLookup_eq_fast]; kernel_rfl) (by decide +kernel) (by decide +kernel) (by decide +kernel)
    (by first | exact .inl (by decide +kernel) | exact .inr (by decide +kernel)) (by rw [isSubtype_type]; kernel_rfl)
theorem entry_si_next : entryFor table "set_iterator.__next__" = some Builtin.«set_iterator.__next__» := entryFor_of_tree (by kernel_rfl)
theorem args_si_next (a : Value) : argsOk "set_iterator.__next__" ⟨[a], []⟩ := by
  unfold argsOk; rw [signature?_of (id := "set_iterator.__next__") (n := ['_', '_', 't', 'x', 'e', 'n', '_', '_']) (o := ['r', 'o', 't', 'a', 'r', 'e', 't', 'i', '_', 't', 'e', 's']) (by kernel_rfl) owner_si]; kernel_rfl
theorem entry_set_iter : entryFor table "set.__iter__" = some Builtin.«frozenset.__iter__» :=
  entryFor_alias (id' := "frozenset.__iter__") (by kernel_rfl) (by first | rfl | decide +kernel | (unfold String.splitOn; simp +decide [String.splitOnAux])) (by decide +kernel) (by kernel_rfl)
end MF
theorem laidB_place (led b : Bool) : SetTable.below (laidB led b).2.1.place 0 = 0 ∧ ∃ j, (laidB led b).2.1.place[0]? = some j ∧ SetTable.below (laidB led b).2.1.place (j + 1) = 1 := by
  cases led <;> cases b <;> exact ⟨by decide +kernel, _, rfl, by decide +kernel⟩
theorem pick_one {α : Type} (next : Nat → Nat) (x : α) : pickOrder next #[x] = #[x] := by
  simp [pickOrder, pickOrder.go, Nat.mod_one]
abbrev siO (S : Addr) (slot i : Nat) (ep : Nat) : Obj := { cls := .type "set_iterator", data := .fields #[rawInt slot, rawInt i, .ref S, rawInt 1, rawInt ep] }
abbrev oneB (led b : Bool) (ep : Nat) : Obj := setO #[(hashB b, .bool b)] ep (laidB led b).2.1
section
variable {prog : Program} {w : World} {A : Around} {E : Value → Shared → Prop} {s : Shared}
theorem iter_set1 {S : Addr} {led b : Bool} {ep : Nat} {Q : Value → Shared → Prop} (hS : s.heap.get? S = some (oneB led b ep))
    (h : Q (.ref s.heap.objs.size) { s with heap := s.heap.push (siO S 0 0 ep) }) : wpAny (model prog w) A (pyIter (.ref S)) Q E s := by
  have hT : s.TypeIs (.ref S) "set" := ⟨_, hS, rfl⟩
  obtain ⟨f1, f2, f3, f4, f5, f6⟩ := laidB_facts led b
  refine wpAny_pyIter_slot hT PySem.F.slot_set_iter (wpAny_call_entry PySem.F.slot_set_iter hT MF.entry_set_iter ?_ (PySem.F.args_set_iter_1 _))
  unfold Builtin.«frozenset.__iter__»
  show wpAny _ _ (Builtin.Frozenset.sizeOf S >>= _) _ _ _
  unfold Builtin.Frozenset.sizeOf
  refine wpAny_bind (wpAny_bind (wpAny_setEntries_of hS rfl f2 (wpAny_pure ?_)))
  unfold setDrawn setsByText
  refine wpAny_bind (wpAny_bind (wpAny_setState_of hS rfl f2 ?_))
  dsimp only
  refine wpAny_bind (wpAny_bind (wpAny_askSetting (wpAny_pure (wpAny_pure ?_))))
  refine wpAny_ite ?_
  split
  · rename_i hc
    exact absurd (show (!w.params.followText "set-order" && (!(laidB led b).2.1.plain && decide (1 > 1))) = true from hc) (by simp)
  · refine wpAny_bind (wpAny_pure (wpAny_bind (wpAny_setEpoch_of hS rfl f2 ?_)))
    refine wpAny_bind (wpAny_newObj_type ?_ (by size_fits))
    exact wpAny_pure ⟨_, rfl, "set_iterator", _, ⟨_, Heap.get?_push_size _ rfl, rfl⟩, MF.slot_si_next.lookup, h⟩
structure OneT (t : SetTable) (led : Bool) (j : Nat) : Prop where
  fits : t.fits 1 = true
  plain : t.plain = true
  led : t.led = led
  at0 : SetTable.below t.place 0 = 0
  place : t.place[0]? = some j
  at1 : SetTable.below t.place (j + 1) = 1
theorem laidB_one (led b : Bool) : ∃ j, OneT (laidB led b).2.1 led j := by
  obtain ⟨f1, f2, f3, f4, f5, f6⟩ := laidB_facts led b
  obtain ⟨p1, j, p2, p3⟩ := laidB_place led b
  exact ⟨j, f2, f3, f4, p1, p2, p3⟩
theorem setNext_first {S : Addr} {b : Bool} {ep : Nat} {t : SetTable} {j : Nat} {led : Bool} {Q : Option (Value × Nat) → Shared → Prop} (O : OneT t led j) (hS : s.heap.get? S = some (setO #[(hashB b, .bool b)] ep t)) (hled : led = !w.params.followText "set-order")
    (h : Q (some (.bool b, if w.params.followText "set-order" = true then 0 else j + 1)) s) : wpAny (model prog w) A (setNext S 0 0 ep) Q E s := by
  unfold setNext setsByText
  refine wpAny_bind (wpAny_setState_of hS rfl O.fits ?_)
  dsimp only
  refine wpAny_bind (wpAny_bind (wpAny_askSetting (wpAny_pure ?_)))
  show wpAny _ A (if w.params.followText "set-order" = true then _ else _) Q E s
  cases hb : w.params.followText "set-order" with
  | true =>
    rw [hb, if_pos rfl] at h
    rw [if_pos rfl]
    refine wpAny_ite ?_
    rw [if_neg (by simp)]
    refine wpAny_bind ?_
    unfold setWalk setsByText
    refine wpAny_bind (wpAny_setState_of hS rfl O.fits ?_)
    dsimp only
    refine wpAny_bind (wpAny_bind (wpAny_askSetting (wpAny_pure ?_)))
    show wpAny _ A (if w.params.followText "set-order" = true then _ else _) _ E s
    rw [hb, if_pos rfl]
    refine wpAny_bind (wpAny_askSetting (wpAny_pure ?_))
    rw [pick_one]
    exact wpAny_pure h
  | false =>
    rw [hb] at h hled
    rw [if_neg (by decide)] at h ⊢
    have e1 := O.plain
    have e2 := O.led
    have e3 := O.at0
    have e4 := O.place
    refine wpAny_ite ?_
    split
    · rename_i hc
      exact absurd (show ((!t.plain && decide (1 > 1))) = true from hc) (by simp)
    · refine wpAny_bind ?_
      show wpAny _ A (if (!t.led && !(#[(hashB b, Value.bool b)] : Array (Int × Value)).isEmpty) = true then _ else _) _ _ _
      rw [if_neg (by rw [e2, hled]; simp)]
      refine wpAny_pure ?_
      rw [e3, e4]
      exact wpAny_pure h
theorem setNext_end {S : Addr} {b : Bool} {ep : Nat} {t : SetTable} {j : Nat} {led : Bool} {Q : Option (Value × Nat) → Shared → Prop} (O : OneT t led j) (hS : s.heap.get? S = some (setO #[(hashB b, .bool b)] ep t)) (hled : led = !w.params.followText "set-order")
    (h : Q none s) : wpAny (model prog w) A (setNext S (if w.params.followText "set-order" = true then 0 else j + 1) 1 ep) Q E s := by
  unfold setNext setsByText
  refine wpAny_bind (wpAny_setState_of hS rfl O.fits ?_)
  dsimp only
  refine wpAny_bind (wpAny_bind (wpAny_askSetting (wpAny_pure ?_)))
  show wpAny _ A (if w.params.followText "set-order" = true then _ else _) Q E s
  cases hb : w.params.followText "set-order" with
  | true =>
    rw [if_pos rfl]
    refine wpAny_ite ?_
    rw [if_neg (by simp)]
    refine wpAny_bind ?_
    unfold setWalk setsByText
    refine wpAny_bind (wpAny_setState_of hS rfl O.fits ?_)
    dsimp only
    refine wpAny_bind (wpAny_bind (wpAny_askSetting (wpAny_pure ?_)))
    show wpAny _ A (if w.params.followText "set-order" = true then _ else _) _ E s
    rw [hb, if_pos rfl]
    refine wpAny_bind (wpAny_askSetting (wpAny_pure ?_))
    rw [pick_one]
    exact wpAny_pure h
  | false =>
    rw [hb] at hled
    rw [if_neg (by decide)]
    have e1 := O.plain
    have e2 := O.led
    have e3 := O.at1
    refine wpAny_ite ?_
    split
    · rename_i hc
      exact absurd (show ((!t.plain && decide (1 > 1))) = true from hc) (by simp)
    · refine wpAny_bind ?_
      show wpAny _ A (if (!t.led && !(#[(hashB b, Value.bool b)] : Array (Int × Value)).isEmpty) = true then _ else _) _ _ _
      rw [if_neg (by rw [e2, hled]; simp)]
      refine wpAny_pure ?_
      rw [if_neg (by decide), e3]
      exact wpAny_pure h
theorem iter_set1T {S : Addr} {b : Bool} {ep : Nat} {t : SetTable} {j : Nat} {led : Bool} {Q : Value → Shared → Prop} (O : OneT t led j) (hS : s.heap.get? S = some (setO #[(hashB b, .bool b)] ep t))
    (h : Q (.ref s.heap.objs.size) { s with heap := s.heap.push (siO S 0 0 ep) }) : wpAny (model prog w) A (pyIter (.ref S)) Q E s := by
  have hT : s.TypeIs (.ref S) "set" := ⟨_, hS, rfl⟩
  have f2 := O.fits
  refine wpAny_pyIter_slot hT PySem.F.slot_set_iter (wpAny_call_entry PySem.F.slot_set_iter hT MF.entry_set_iter ?_ (PySem.F.args_set_iter_1 _))
  unfold Builtin.«frozenset.__iter__»
  show wpAny _ _ (Builtin.Frozenset.sizeOf S >>= _) _ _ _
  unfold Builtin.Frozenset.sizeOf
  refine wpAny_bind (wpAny_bind (wpAny_setEntries_of hS rfl f2 (wpAny_pure ?_)))
  unfold setDrawn setsByText
  refine wpAny_bind (wpAny_bind (wpAny_setState_of hS rfl f2 ?_))
  dsimp only
  refine wpAny_bind (wpAny_bind (wpAny_askSetting (wpAny_pure (wpAny_pure ?_))))
  refine wpAny_ite ?_
  split
  · rename_i hc
    exact absurd (show (!w.params.followText "set-order" && (!t.plain && decide (1 > 1))) = true from hc) (by simp)
  · refine wpAny_bind (wpAny_pure (wpAny_bind (wpAny_setEpoch_of hS rfl f2 ?_)))
    refine wpAny_bind (wpAny_newObj_type ?_ (by size_fits))
    exact wpAny_pure ⟨_, rfl, "set_iterator", _, ⟨_, Heap.get?_push_size _ rfl, rfl⟩, MF.slot_si_next.lookup, h⟩
theorem next_set1 {I S : Addr} {b : Bool} {ep : Nat} {t : SetTable} {j : Nat} {led : Bool} {Q : Option Value → Shared → Prop} (O : OneT t led j) (hI : s.heap.get? I = some (siO S 0 0 ep)) (hS : s.heap.get? S = some (setO #[(hashB b, .bool b)] ep t)) (hled : led = !w.params.followText "set-order")
    (hQ : ∀ h', Heap.SameBut I s.heap h' → h'.get? I = some (siO S (if w.params.followText "set-order" = true then 0 else j + 1) 1 ep) → Q (some (.bool b)) { s with heap := h' }) : wpAny (model prog w) A (pyNext (.ref I)) Q E s := by
  have hT : s.TypeIs (.ref I) "set_iterator" := ⟨_, hI, rfl⟩
  unfold pyNext
  refine wpAny_bind (wpAny_attempt (wpAny_callSpecial?_slot (name := Str.ofString "__next__") hT MF.slot_si_next
    (wpAny_call_entry MF.slot_si_next hT MF.entry_si_next ?_ (MF.args_si_next _))))
  unfold Builtin.«set_iterator.__next__»
  show wpAny _ _ (fieldsOf (.ref I) >>= _) _ _ _
  refine wpAny_bind (wpAny_fieldsOf hI rfl ?_)
  dsimp only
  refine wpAny_bind (wpAny_setEntries_of hS rfl O.fits ?_)
  refine wpAny_ite ?_
  rw [if_neg (by simp)]
  dsimp only [rawInt]
  refine wpAny_bind (setNext_first O hS hled ?_)
  dsimp only
  refine wpAny_bind (wpAny_setField_rec hI (by simp) fun h1 e1 b1 => ?_)
  refine wpAny_bind (wpAny_setField_rec e1 (by simp) fun h2 e2 b2 => ?_)
  exact wpAny_pure ⟨_, rfl, wpAny_pure (hQ h2 (b1.trans b2) e2)⟩
theorem next_set1_end {I S : Addr} {b : Bool} {ep : Nat} {t : SetTable} {j : Nat} {led : Bool} {Q : Option Value → Shared → Prop} (hh : A.handled = none) (O : OneT t led j) (hI : s.heap.get? I = some (siO S (if w.params.followText "set-order" = true then 0 else j + 1) 1 ep)) (hS : s.heap.get? S = some (setO #[(hashB b, .bool b)] ep t)) (hled : led = !w.params.followText "set-order")
    (hQ : ∀ h', Heap.ExtBut I s.heap h' → Q none { s with heap := h' }) : wpAny (model prog w) A (pyNext (.ref I)) Q E s := by
  have hT : s.TypeIs (.ref I) "set_iterator" := ⟨_, hI, rfl⟩
  unfold pyNext
  refine wpAny_bind (wpAny_attempt (wpAny_callSpecial?_slot (name := Str.ofString "__next__") hT MF.slot_si_next
    (wpAny_call_entry MF.slot_si_next hT MF.entry_si_next ?_ (MF.args_si_next _))))
  unfold Builtin.«set_iterator.__next__»
  show wpAny _ _ (fieldsOf (.ref I) >>= _) _ _ _
  refine wpAny_bind (wpAny_fieldsOf hI rfl ?_)
  dsimp only
  refine wpAny_bind (wpAny_setEntries_of hS rfl O.fits ?_)
  refine wpAny_ite ?_
  rw [if_neg (by simp)]
  dsimp only [rawInt]
  refine wpAny_bind (setNext_end O hS hled ?_)
  dsimp only
  refine wpAny_bind (wpAny_setField_rec hI (by simp) fun h1 e1 b1 => ?_)
  show wpAny _ _ (newExc (.type "StopIteration") [] >>= _) _ _ _
  refine wpAny_bind ?_
  simp only [newExc, newTuple]
  refine wpAny_bind (wpAny_newObj_type ?_ (by size_fits))
  refine wpAny_bind (m := firstArgMember _ _) (wpAny_of_eq (a := Value.none) (by first | rfl | (simp only [firstArgMember]; rfl)) ?_)
  refine wpAny_newObj_type ?_ (by size_fits)
  simp only [raiseNew]
  refine wpAny_bind (wpAny_handled ?_)
  first | rw [show A.in1.handled = none from hh] | rw [hh]
  refine wpAny_bind (wpAny_pure (wpAny_throw ?_))
  refine wpAny_bind (wpAny_isInstance (T := "StopIteration") (b := true) ⟨_, Heap.get?_push_size _ rfl, rfl⟩ isSubtype_stop ?_)
  exact wpAny_pure (hQ _ ((b1.extBut.push _).push _))
end
end
-- G1
section
open PySem.Calls
open LCg LCt
theorem compTurn_set1 (elt target iter : Expr) (scope : Scope) (pos : Pos) (it acc : Value) (env : Env) :
    compTurn (.SetComp elt [⟨target, iter, [], 0⟩] scope pos) 0 it acc env = (standAt iter.pos >>= fun _ => pyNext it >>= fun r => match r with
      | none => pure (.done .next)
      | some v => letOwnedTupleGo target it v >>= fun _ => assign target env v >>= fun _ =>
        (eval elt env >>= fun x => standAt elt.pos >>= fun _ => call (.builtin "set.add") [acc, x] >>= fun _ => pure ()) >>= fun _ =>
          again (.compLoop (.SetComp elt [⟨target, iter, [], 0⟩] scope pos) 0 it acc env)) := by rfl
section
variable {prog : Program} {w : World} {A : Around} {E : Value → Shared → Prop} {R : Result → Shared → Prop} {s : Shared} {env : Env}
theorem compStart_set {elt target iter ifs rest scope pos it acc env}
    (h0 : codeAny (model prog w) A (.compLoop (.SetComp elt (⟨target, iter, ifs, 0⟩ :: rest) scope pos) 0 it acc env) R s)
    (h : wpAny (model prog w) A (pyIter it) (fun it' s' => codeAny (model prog w) A (.compLoop (.SetComp elt (⟨target, iter, ifs, 0⟩ :: rest) scope pos) 0 it' acc env) R s')
      (notedBy (model prog w) A env fun x s' => R (.error x) s') s) :
    codeAny (model prog w) A (.compStart (.SetComp elt (⟨target, iter, ifs, 0⟩ :: rest) scope pos) 0 it acc env) R s := by
  refine codeAny_of_tree ?_
  show wpAny _ A ((compStart (.SetComp elt (⟨target, iter, ifs, 0⟩ :: rest) scope pos) 0 it acc env).onRaise (fun x => do noteFrame x env; standAt theWindowsPlace)) _ _ s
  refine wpAny_notedAt ?_
  unfold compStart
  show wpAny _ A (ask >>= _) _ _ s
  refine wpAny_bind (wpAny_askSetting (wpAny_ite ?_))
  split
  · first
      | exact wpAny_bind (wpAny_pure (wpAny_pure (And.intro rfl h0)))
      | exact wpAny_pure (And.intro rfl h0)
  · first
      | exact wpAny_bind (wpAny_rule (wpAny_bind (wpAny_standAt (wpAny_bind (wpAny_mono h (fun it' s' h' => wpAny_pure (And.intro rfl h')) fun _ _ x => x)))))
      | (refine wpAny_bind (wpAny_rule ?_); show wpAny _ _ (standAt iter.pos >>= _) _ _ s; exact wpAny_bind (wpAny_standAt (wpAny_bind (wpAny_mono h (fun it' s' h' => wpAny_pure (And.intro rfl h')) fun _ _ x => x))))
theorem compLoop_set {elt target iter : Expr} {scope : Scope} {pos : Pos} {it acc : Value} {env : Env} (I : Nat → Shared → Prop)
    (turn : ∀ n s, I n s → wpAny (model prog w) A (pyNext it) (fun r s₁ => match r with
      | none => R (.ok .next) s₁
      | some v => wpAny (model prog w) A (assign target env v) (fun _ s₂ => wpAny (model prog w) A (eval elt env) (fun x s₃ =>
          wpAny (model prog w) A (call (.builtin "set.add") [acc, x]) (fun _ s₄ => ∃ m, m < n ∧ I m s₄) (notedBy (model prog w) A env fun e s' => R (.error e) s') s₃)
          (notedBy (model prog w) A env fun e s' => R (.error e) s') s₂) (notedBy (model prog w) A env fun e s' => R (.error e) s') s₁) (notedBy (model prog w) A env fun e s' => R (.error e) s') s)
    (n : Nat) (h : I n s) (ht : ∀ v, letOwnedTupleGo target it v = pure () := by intro _; rfl) :
    codeAny (model prog w) A (.compLoop (.SetComp elt [⟨target, iter, [], 0⟩] scope pos) 0 it acc env) R s := by
  refine codeAny_loop rfl I (fun n s hI => ?_) n h
  show wpAny _ _ ((compTurn (.SetComp elt [⟨target, iter, [], 0⟩] scope pos) 0 it acc env).onRaise (fun x => do noteFrame x env; theTreesLotGoes x)) _ _ s
  refine wpAny_noted ?_
  rw [compTurn_set1]
  refine wpAny_bind (wpAny_standAt (wpAny_bind (wpAny_mono (turn n s hI) (fun r s₁ h₁ => ?_) fun _ _ h' => h')))
  cases r with
  | none => exact wpAny_pure h₁
  | some v =>
    refine wpAny_bind (wpAny_of_eq (ht v) ?_)
    exact wpAny_bind (wpAny_mono h₁ (fun _ s₂ h₂ => wpAny_bind (wpAny_bind (wpAny_mono h₂ (fun x s₃ h₃ => wpAny_bind (wpAny_standAt (wpAny_bind (wpAny_mono h₃
      (fun _ s₄ h₄ => wpAny_pure (wpAny_pure ⟨rfl, h₄⟩)) fun _ _ h' => h')))) fun _ _ h' => h'))) fun _ _ h' => h')
end
abbrev setHas (led b : Bool) (i : Nat) (o : Obj) : Prop := (i = 0 ∧ o = setO #[] 0 (.fresh 0 0 led)) ∨ (i ≠ 0 ∧ ∃ ep, o = oneB led b ep)
def SrcS (prog : Program) (w : World) (A : Around) (h₀ : Heap) (L : Addr) (m : Str → Option Value) (env : Env) (elt : Expr) (x : Str) (scope : Scope) (cl : List (Str × Addr)) (Q : Value → Shared → Prop) (xv : Value) (s₁ : Shared) : Prop :=
  ∃ T ax its news b, (T = "list" ∨ T = "tuple") ∧ xv = .ref ax ∧ A.handled = none ∧ Fr h₀ L s₁.heap m ∧ News h₀ L s₁.heap news ∧ SrcAt2 T h₀ ax its news ∧ its.size ≠ 0 ∧
    (∀ v C oC m₂ h tk (E' : Value → Shared → Prop) (Q' : Value → Shared → Prop), v ∈ its → NsObj oC m₂ → m₂ x = some v → Fr h₀ L h m → News h₀ L h ((C, oC) :: news) →
      (∀ h' tk', h.StaysIn h' → Q' (.bool b) { s₁ with heap := h', toks := tk' }) → wpAny (model prog w) A (eval elt (compEnvC scope cl C env)) Q' E' { s₁ with heap := h, toks := tk }) ∧
    ∀ D h tk ep, Fr h₀ L h m → News h₀ L h ((D, oneB (!w.params.followText "set-order") b ep) :: news) → Off1 D news → Q (.ref D) { s₁ with heap := h, toks := tk }
section
variable {prog : Program} {w : World} {A : Around} {E : Value → Shared → Prop} {s : Shared} {h₀ : Heap} {L : Addr} {m : Str → Option Value} {env : Env}
theorem sc_expr {elt iter : Expr} {x : Str} {px : Pos} {scope : Scope} {cl : List (Str × Addr)} {pos : Pos} {Q : Value → Shared → Prop} (F₀ : Fr h₀ L s.heap m) (hclos : closureFor scope env = pure cl) (hcell : ∀ y ∈ scope.names, y.2 ≠ .cell) (hkind : scope.kind = .function)
    (hnames : ∀ y ∈ scope.names, y.2 = .local → scope.names.lookup y.1 = some .local) (hx : scope.names.lookup x = some .local)
    (h : wpAny (model prog w) A (eval iter env) (SrcS prog w A h₀ L m env elt x scope cl Q) E s)
    (hs : ∀ x, foldedSetIterable iter env x = pure x := by intro _; rfl) :
    wpAny (model prog w) A (eval (.SetComp elt [⟨.Name x px, iter, [], 0⟩] scope pos) env) Q E s := by
  have _ := F₀
  rw [arm_eval_SetComp]
  refine wpAny_comprehension_free (use := none) rfl hs hclos hkind hnames (wpAny_mono h (fun xv s₁ h₁ => ?_) fun _ _ e => e)
  obtain ⟨T, ax, its, news, b, hT, rfl, hh, F, N, S, hne, hel, hQ⟩ := h₁
  refine src_iter hT hh F N S fun I fp St h' IO st0 hfp F' N' hLI hI0 off => ?_
  have W := IO.W
  generalize hs₂ : ({ s₁ with heap := h' } : Shared) = s₂
  have hh₂ : s₂.heap = h' := by rw [← hs₂]
  rw [← hh₂] at F' N' st0
  have hfp' : ∀ b ∈ fp, b < s₂.heap.objs.size := by rw [hh₂]; exact hfp
  unfold newSet setsByText
  refine wpAny_bind (wpAny_bind (wpAny_askSetting (wpAny_pure ?_)))
  dsimp only
  generalize hled : (!w.params.followText "set-order") = led at hQ
  have hled' : (!(model prog w).w.params.followText "set-order") = led := hled
  rw [hled']
  refine wpAny_newObj_type (wpAny_newFunctionEnv hcell (by intro y hy; simp at hy) (fun h₁ hns₁ hsb₁ => ?_) hkind)
  dsimp only at hns₁ hsb₁ ⊢
  generalize hH2 : s₂.heap.push { cls := .type "set", dict := none, data := .set #[] 0 (.fresh 0 0 led) } = H2 at hns₁ hsb₁ ⊢
  have hC : H2.objs.size = s₂.heap.objs.size + 1 := by rw [← hH2, Heap.size_push]
  have hDC : s₂.heap.objs.size ≠ H2.objs.size := by rw [hC]; exact Nat.ne_of_lt (Nat.lt_succ_self _)
  have below : ∀ b, b < s₂.heap.objs.size → b ≠ H2.objs.size ∧ b ≠ s₂.heap.objs.size := fun b hb => ⟨by rw [hC]; exact Nat.ne_of_lt (Nat.lt_succ_of_lt hb), Nat.ne_of_lt hb⟩
  have hDf : s₂.heap.objs.size ∉ fp := fun hm => Nat.lt_irrefl _ (hfp' _ hm)
  have hCf : H2.objs.size ∉ fp := fun hm => by have := hfp' _ hm; rw [hC] at this; exact Nat.lt_irrefl _ (Nat.lt_of_succ_lt this)
  have hIf : I ∈ fp := W.sub I (List.mem_singleton.mpr rfl)
  have hIlt : I < s₂.heap.objs.size := hfp' I hIf
  have old : ∀ b o, s₂.heap.get? b = some o → h₁.get? b = some o := fun b o e => hsb₁.extBut b o (below b (Heap.lt_size e)).1 (Heap.get?_push_of_some _ (hH2 ▸ Heap.get?_push_of_some _ e))
  have hacc : h₁.get? s₂.heap.objs.size = some (setO #[] 0 (.fresh 0 0 led)) := hsb₁.extBut _ _ hDC (Heap.get?_push_of_some _ (hH2 ▸ Heap.get?_push_size _ rfl))
  have hst₁ : St 0 h₁ := W.frame _ _ _ st0 fun b _ o e => old b o e
  have fresh₀ : ∀ a, s₂.heap.objs.size ≤ a → h₀.get? a = none := fun a ha => by
    cases e : h₀.get? a with
    | none => rfl
    | some o' => exact absurd (Heap.lt_size (F'.keep a o' e)) (Nat.not_lt.mpr ha)
  have hD₀ : h₀.get? s₂.heap.objs.size = none := fresh₀ _ (Nat.le_refl _)
  have hC₀ : h₀.get? H2.objs.size = none := fresh₀ _ (by rw [hC]; exact Nat.le_succ _)
  have hLlt : L < s₂.heap.objs.size := F'.ns.lt
  have hDL : s₂.heap.objs.size ≠ L := Ne.symm (below L hLlt).2
  have hCL : H2.objs.size ≠ L := Ne.symm (below L hLlt).1
  have hCI : I ≠ H2.objs.size := (below I hIlt).1
  have hDI : I ≠ s₂.heap.objs.size := (below I hIlt).2
  have offC : ∀ p ∈ news, p.1 ≠ H2.objs.size ∧ p.1 ≠ s₂.heap.objs.size := fun p hp => below _ (Heap.lt_size (N' p hp).1)
  have off1 : ∀ {l : List (Addr × Obj)}, (∀ p ∈ l, p.1 ≠ s₂.heap.objs.size) → Off1 s₂.heap.objs.size l := by
    intro l
    induction l with
    | nil => exact fun _ => trivial
    | cons q r ih => exact fun k => ⟨k _ List.mem_cons_self, ih fun p hp => k p (List.mem_cons_of_mem _ hp)⟩
  have loop : ∀ s₃ : Shared, s₃ = { s₂ with heap := h₁, toks := s₂.toks + ([] : List (Str × Value)).length } →
      codeAny (model prog w) A (.compLoop (.SetComp elt [⟨.Name x px, iter, [], 0⟩] scope pos) 0 (.ref I) (.ref s₂.heap.objs.size) (compEnvC scope cl H2.objs.size env))
        (compPost (model prog w) A E none Q (.ref s₂.heap.objs.size) H2.objs.size) s₃ := by
    rintro s₃ rfl
    refine compLoop_set
      (fun k s' => ∃ h' tk i oD m', s' = { s₂ with heap := h', toks := tk } ∧ i ≤ its.size ∧ k = its.size + 1 - i ∧ St i h' ∧ Fr h₀ L h' m ∧ h'.Ns H2.objs.size m' ∧ News h₀ L h' ((s₂.heap.objs.size, oD) :: news) ∧ setHas led b i oD) ?_ (its.size + 1)
      ⟨h₁, _, 0, _, _, rfl, Nat.zero_le _, rfl, hst₁, F'.keeps old, hns₁, fun p hp => ?_, .inl ⟨rfl, rfl⟩⟩
    · rintro k s' ⟨h', tk, i, oD, m', rfl, hi, rfl, hst', F₁, hn', N₁, hD⟩
      by_cases hlt : i < its.size
      · refine W.item i _ _ _ hlt hst' fun v h₂ tk₂ hPv hst₂ hk₂ => ?_
        refine wpAny_assign_Name (wpAny_storeName_local (lookup_relabel_local hx) (hn'.at' fun o e => hk₂ _ o (by simpa using Ne.symm hCI) e) (fun h₃ hn₃ hs₃ => ?_) (by simp [compEnvC, relabel, hkind]))
        have hst₃ : St (i + 1) h₃ := W.frame _ _ _ hst₂ fun b hb o e => hs₃.extBut b o (fun q => hCf (by have q' : b = H2.objs.size := q; rw [← q']; exact hb)) e
        obtain ⟨oC, heC, hoC⟩ := ns_obj hn₃
        have F₃ : Fr h₀ L h₃ m := (fr_but F₁ hk₂ hLI hI0).change hs₃ hCL hC₀
        have N₂ : News h₀ L h₂ ((s₂.heap.objs.size, oD) :: news) := news_but N₁ hk₂ fun p hp => by
          rcases List.mem_cons.mp hp with rfl | hp
          · exact Ne.symm hDI
          · exact off p hp
        have N₃ : News h₀ L h₃ ((s₂.heap.objs.size, oD) :: news) := fun p hp => by
          refine ⟨hs₃.extBut _ _ ?_ (N₂ p hp).1, (N₂ p hp).2⟩
          rcases List.mem_cons.mp hp with rfl | hp
          · exact hDC
          · exact (offC p hp).1
        have NC : News h₀ L h₃ ((H2.objs.size, oC) :: news) := fun p hp => by
          rcases List.mem_cons.mp hp with rfl | hp
          · exact ⟨heC, hCL, hC₀⟩
          · exact N₃ p (List.mem_cons_of_mem _ hp)
        subst hs₂
        refine hel v H2.objs.size oC _ h₃ _ _ _ (Array.mem_of_getElem? hPv) hoC (by simp) F₃ NC fun h₄ tk₄ st₄ => ?_
        have zD := (newsStays st₄ N₃) (_, oD) List.mem_cons_self
        have N₄ := newsStays st₄ N₃
        have F₄ := frStays st₄ F₃
        have hst₄ : St (i + 1) h₄ := W.frame _ _ _ hst₃ fun b _ o e => st₄ b o e
        have hn₄ : h₄.Ns H2.objs.size _ := hn₃.at' fun o e => st₄ _ o e
        rcases hD with ⟨hi0, rfl⟩ | ⟨hi0, ep, rfl⟩
        · refine set_add_first zD.1 fun h₅ ep hs₅ hD₅ => ?_
          refine ⟨its.size + 1 - (i + 1), by omega, h₅, _, i + 1, _, _, rfl, hlt, rfl, W.frame _ _ _ hst₄ fun b hb o e => hs₅.extBut b o (fun q => hDf (by have q' : b = _ := q; rw [← q']; exact hb)) e, F₄.change hs₅ hDL hD₀, hn₄.sameBut hs₅ (Ne.symm hDC), fun p hp => ?_, .inr ⟨Nat.succ_ne_zero _, ep, rfl⟩⟩
          rcases List.mem_cons.mp hp with rfl | hp
          · exact ⟨hD₅, hDL, hD₀⟩
          · exact ⟨hs₅.extBut _ _ (offC p hp).2 (N₄ p (List.mem_cons_of_mem _ hp)).1, (N₄ p (List.mem_cons_of_mem _ hp)).2⟩
        · refine set_add_again zD.1 (laidB_facts led b).2.1 ?_
          exact ⟨its.size + 1 - (i + 1), by omega, h₄, _, i + 1, _, _, rfl, hlt, rfl, hst₄, F₄, hn₄, N₄, .inr ⟨Nat.succ_ne_zero _, ep, rfl⟩⟩
      · obtain rfl : i = its.size := Nat.le_antisymm hi (Nat.not_lt.mp hlt)
        refine W.done _ _ _ hst' fun h₂ tk₂ hk₂ => ?_
        have N₂ : News h₀ L h₂ ((s₂.heap.objs.size, oD) :: news) := news_but N₁ hk₂ fun p hp => by
          rcases List.mem_cons.mp hp with rfl | hp
          · exact Ne.symm hDI
          · exact off p hp
        refine ⟨m', hn'.at' fun o e => hk₂ _ o (by simpa using Ne.symm hCI) e, fun h'' hs'' => ?_⟩
        have F₂ := (fr_but F₁ hk₂ hLI hI0).change hs'' hCL hC₀
        rcases hD with ⟨hi0, _⟩ | ⟨_, ep, rfl⟩
        · exact absurd hi0 hne
        · subst hs₂
          refine hQ _ h'' tk₂ ep F₂ (fun p hp => ⟨hs''.extBut _ _ ?_ (N₂ p hp).1, (N₂ p hp).2⟩) (off1 fun p hp => (offC p hp).2)
          rcases List.mem_cons.mp hp with rfl | hp
          · exact hDC
          · exact (offC p hp).1
    · rcases List.mem_cons.mp hp with rfl | hp
      · exact ⟨hacc, hDL, hD₀⟩
      · exact ⟨old _ _ (N' p hp).1, (N' p hp).2⟩
  exact compStart_set (loop _ rfl) (W.self 0 _ _ _ hst₁ (loop _ rfl))
theorem unpack_set1 {S : Addr} {b : Bool} {ep : Nat} {news : List (Addr × Obj)} {Q : List Value → Shared → Prop} (hh : A.handled = none) (F : Fr h₀ L s.heap m) (N : News h₀ L s.heap news)
    (hm : (S, oneB (!w.params.followText "set-order") b ep) ∈ news)
    (h : ∀ h', Fr h₀ L h' m → News h₀ L h' news → Q [.bool b] { s with heap := h' }) : wpAny (model prog w) A (unpackItems (.ref S) 1 none) Q E s := by
  have hS := (N _ hm).1
  have hT : s.TypeIs (.ref S) "set" := ⟨_, hS, rfl⟩
  have hlt : S ≠ s.heap.objs.size := Nat.ne_of_lt (Heap.lt_size hS)
  obtain ⟨j, O⟩ := laidB_one (!w.params.followText "set-order") b
  unfold unpackItems
  refine wpAny_bind ?_
  unfold notIterableAtAll
  refine wpAny_bind (wpAny_specialOf hT PySem.F.slot_set_iter.lookup ?_)
  refine wpAny_pure ?_
  simp only [Bool.false_eq_true, if_false]
  refine wpAny_bind (wpAny_holding (iter_set1T O hS ?_))
  refine wpAny_bind (wpAny_holding ?_)
  have hS₁ : ∀ (h' : Heap), Heap.SameBut s.heap.objs.size (s.heap.push (siO S 0 0 ep)) h' → h'.get? S = some (oneB (!w.params.followText "set-order") b ep) := fun h' k => k.extBut _ _ hlt (Heap.get?_push_of_some _ hS)
  show wpAny _ _ (pyNext (.ref s.heap.objs.size) >>= _) _ _ _
  refine wpAny_bind (next_set1 O (Heap.get?_push_size _ rfl) (Heap.get?_push_of_some _ hS) rfl fun h₁ b₁ e₁ => ?_)
  refine wpAny_bind (wpAny_holding (wpAny_pure (wpAny_pure ?_)))
  rw [if_neg (by simp)]
  refine wpAny_bind (wpAny_holding (next_set1_end hh O e₁ (hS₁ _ b₁) rfl fun h₂ b₂ => ?_))
  simp only [Option.isSome_none, Bool.false_eq_true, if_false]
  have hx : Heap.ExtBut s.heap.objs.size s.heap h₂ := fun c o hc e => b₂ c o hc (b₁.extBut c o hc (Heap.get?_push_of_some _ e))
  exact wpAny_pure (h h₂ (F.extBut hx (Nat.le_refl _)) (N.extBut hx (Nat.le_refl _)))
end
end
-- G2a
section
open LCg LCt
inductive All2 {α β : Type} (R : α → β → Prop) : List α → List β → Prop
  | nil : All2 R [] []
  | cons {a b l r} : R a b → All2 R l r → All2 R (a :: l) (b :: r)
theorem SrcS.tup2 {elt : Expr} {x : Str} {scope : Scope} {cl : List (Str × Addr)} {prog : Program} {w : World} {A : Around} {h₀ : Heap} {L : Addr} {m : Str → Option Value} {env : Env} {Q : Value → Shared → Prop} {ax : Addr} {v0 v1 : Value} {k : Nat} {news : List (Addr × Obj)} {s₁ : Shared} (b : Bool)
    (hh : A.handled = none) (F : Fr h₀ L s₁.heap m) (N : News h₀ L s₁.heap news) (hm : (ax, ({ cls := .type "tuple", data := .seq #[v0, v1] k } : Obj)) ∈ news)
    (h0 : ∀ C oC m₂ h tk (E' : Value → Shared → Prop) (Q' : Value → Shared → Prop), NsObj oC m₂ → m₂ x = some v0 → Fr h₀ L h m → News h₀ L h ((C, oC) :: news) →
      (∀ h' tk', h.StaysIn h' → Q' (.bool b) { s₁ with heap := h', toks := tk' }) → wpAny (model prog w) A (eval elt (compEnvC scope cl C env)) Q' E' { s₁ with heap := h, toks := tk })
    (h1 : ∀ C oC m₂ h tk (E' : Value → Shared → Prop) (Q' : Value → Shared → Prop), NsObj oC m₂ → m₂ x = some v1 → Fr h₀ L h m → News h₀ L h ((C, oC) :: news) →
      (∀ h' tk', h.StaysIn h' → Q' (.bool b) { s₁ with heap := h', toks := tk' }) → wpAny (model prog w) A (eval elt (compEnvC scope cl C env)) Q' E' { s₁ with heap := h, toks := tk })
    (hQ : ∀ D h tk ep, Fr h₀ L h m → News h₀ L h ((D, oneB (!w.params.followText "set-order") b ep) :: news) → Off1 D news → Q (.ref D) { s₁ with heap := h, toks := tk }) :
    SrcS prog w A h₀ L m env elt x scope cl Q (.ref ax) s₁ :=
  ⟨"tuple", ax, #[v0, v1], news, b, .inr rfl, rfl, hh, F, N, ⟨_, .inr hm, rfl, _, rfl⟩, by simp, fun v C oC m₂ h tk E' Q' hv hC hx F' N' q => by
    have : v = v0 ∨ v = v1 := by simpa using hv
    rcases this with rfl | rfl
    · exact h0 C oC m₂ h tk E' Q' hC hx F' N' q
    · exact h1 C oC m₂ h tk E' Q' hC hx F' N' q, hQ⟩
end
local macro_rules | `(tactic| walk_at "eval SetComp") => `(tactic| (k_here; k_dflt (refine sc_expr (F₀ := by k_asm) (by with_unfolding_all rfl) (by decide) (by rfl) (by decide) (by rfl) ?_)))
section
open LCg LCt
section
variable {prog : Program} {w : World} {A : Around} {E : Value → Shared → Prop} {s : Shared} {h₀ : Heap} {L : Addr} {m : Str → Option Value} {env : Env}
theorem assign_set1 {n : Str} {pn tp : Pos} {kk : Nat} {S : Addr} {b : Bool} {ep : Nat} {news : List (Addr × Obj)} {Q : Unit → Shared → Prop} (F : Fr h₀ L s.heap m) (N : News h₀ L s.heap news)
    (hm : (S, oneB (!w.params.followText "set-order") b ep) ∈ news) (hh : A.handled = none)
    (h : ∀ h', Fr h₀ L h' m → News h₀ L h' news → wpAny (model prog w) A (storeName env n (.bool b)) Q E { s with heap := h' }) :
    wpAny (model prog w) A (assign (.Tuple [.Name n pn] kk tp) env (.ref S)) Q E s := by
  rw [arm_assign_Tuple]
  refine wpAny_bind (wpAny_standAt ?_)
  unfold unpack
  refine wpAny_bind (wpAny_holding (unpack_set1 hh F N hm fun h' F' N' => ?_))
  show wpAny _ _ (assignInOrder [assign (.Name n pn) env] [.bool b]) _ _ _
  refine assignInOrder_cons ?_
  refine assign_Name ?_
  exact wpAny_mono (h h' F' N') (fun _ _ q => assignInOrder_nil q) fun _ _ x => x
theorem restT_filter {ct elt : Expr} {x : Str} {scope : Scope} {cl : List (Str × Addr)} {S : List (Addr × Obj) → Prop} {P : Nat → Value → Prop} {Fin : List Value → List (Addr × Obj) → Prop} {news : List (Addr × Obj)} {n : Nat} (its : List Value) (p : Value → Bool)
    (hn : n = its.length) (hP : ∀ i v, P i v → its[i]? = some v) (hS : S news)
    (test : ∀ v C oC m₂ h tk (E' : Value → Shared → Prop) (Q' : Bool → Shared → Prop), v ∈ its → NsObj oC m₂ → m₂ x = some v → Fr h₀ L h m → News h₀ L h ((C, oC) :: news) →
      (∀ h' tk', h.StaysIn h' → Q' (p v) { s with heap := h', toks := tk' }) → wpAny (model prog w) A (isTrue ct (compEnvC scope cl C env) (eval ct (compEnvC scope cl C env))) Q' E' { s with heap := h, toks := tk })
    (take : ∀ v C oC m₂ h tk (E' : Value → Shared → Prop) (Q' : Value → Shared → Prop), v ∈ its → NsObj oC m₂ → m₂ x = some v → Fr h₀ L h m → News h₀ L h ((C, oC) :: news) →
      (∀ h' tk', h.StaysIn h' → Q' v { s with heap := h', toks := tk' }) → wpAny (model prog w) A (eval elt (compEnvC scope cl C env)) Q' E' { s with heap := h, toks := tk })
    (fin : Fin (its.filter p) news) : CompRestT prog w A h₀ L m env ct elt x scope cl s S P Fin n 0 [] news := by
  subst hn
  have key : ∀ (j i : Nat), i + j = its.length → CompRestT prog w A h₀ L m env ct elt x scope cl s S P Fin j i ((its.take i).filter p) news := by
    intro j
    induction j with
    | zero =>
      intro i hi
      have e : i = its.length := by omega
      subst e
      rw [List.take_length]
      exact CompRestT.zero fin
    | succ j ih =>
      intro i hi
      refine CompRestT.succ ?_
      intro v I oI C oC D m₂ h tk E' hv hC hx F N off ne
      have hv' := hP i v hv
      have hmem : v ∈ its := List.mem_of_getElem? hv'
      have hlt : i < its.length := by omega
      have et : its.take (i + 1) = its.take i ++ [v] := by rw [List.take_add_one, hv']; rfl
      have N1 : ∀ {h' : Heap}, News h₀ L h' ((I, oI) :: (C, oC) :: (D, LCg.lst ((its.take i).filter p)) :: news) → News h₀ L h' ((C, oC) :: news) := fun N' q hq => by
        rcases List.mem_cons.mp hq with rfl | hq
        · exact N' _ (List.mem_cons_of_mem _ List.mem_cons_self)
        · exact N' _ (List.mem_cons_of_mem _ (List.mem_cons_of_mem _ (List.mem_cons_of_mem _ hq)))
      refine test v C oC m₂ h tk E' _ hmem hC hx F (N1 N) fun h' tk' st => ?_
      cases hp : p v with
      | true =>
        rw [if_pos rfl]
        have F' := frStays st F
        have N' := newsStays st N
        refine take v C oC m₂ h' tk' E' _ hmem hC hx F' (N1 N') fun h'' tk'' st' => ?_
        refine ⟨h'', tk'', news, rfl, frStays st' F', newsStays st' N', off, hS, ?_⟩
        have := ih (i + 1) (by omega)
        rw [et, List.filter_append] at this
        simpa [hp] using this
      | false =>
        rw [if_neg (by decide)]
        refine ⟨h', tk', news, rfl, frStays st F, newsStays st N, off, hS, ?_⟩
        have := ih (i + 1) (by omega)
        rw [et, List.filter_append] at this
        simpa [hp] using this
  exact key its.length 0 (by omega)
theorem restU_rel {elt : Expr} {x : Str} {scope : Scope} {cl : List (Str × Addr)} {S : List (Addr × Obj) → Prop} {P : Nat → Value → Prop} {Fin : List Value → List (Addr × Obj) → Prop} {news : List (Addr × Obj)} {n : Nat} (its : List Value) (Rl : Value → Value → Prop)
    (hn : n = its.length) (hP : ∀ i v, P i v → its[i]? = some v) (hS : S news)
    (turn : ∀ v C oC m₂ h tk (E' : Value → Shared → Prop) (Q' : Value → Shared → Prop), v ∈ its → NsObj oC m₂ → m₂ x = some v → Fr h₀ L h m → News h₀ L h ((C, oC) :: news) →
      (∀ y h' tk', Rl v y → h.StaysIn h' → Q' y { s with heap := h', toks := tk' }) → wpAny (model prog w) A (eval elt (compEnvC scope cl C env)) Q' E' { s with heap := h, toks := tk })
    (fin : ∀ ys, All2 Rl its ys → Fin ys news) : CompRest prog w A h₀ L m env elt x scope cl s S P Fin n 0 [] news := by
  subst hn
  have key : ∀ (j i : Nat) (ys : List Value), i + j = its.length → All2 Rl (its.take i) ys → CompRest prog w A h₀ L m env elt x scope cl s S P Fin j i ys news := by
    intro j
    induction j with
    | zero =>
      intro i ys hi hy
      have e : i = its.length := by omega
      subst e
      rw [List.take_length] at hy
      exact CompRest.zero (fin ys hy)
    | succ j ih =>
      intro i ys hi hy
      refine CompRest.succ ?_
      intro v I oI C oC D m₂ h tk E' hv hC hx F N off ne
      have hv' := hP i v hv
      have hmem : v ∈ its := List.mem_of_getElem? hv'
      have et : its.take (i + 1) = its.take i ++ [v] := by rw [List.take_add_one, hv']; rfl
      have N1 : ∀ {h' : Heap}, News h₀ L h' ((I, oI) :: (C, oC) :: (D, LCg.lst ys) :: news) → News h₀ L h' ((C, oC) :: news) := fun N' q hq => by
        rcases List.mem_cons.mp hq with rfl | hq
        · exact N' _ (List.mem_cons_of_mem _ List.mem_cons_self)
        · exact N' _ (List.mem_cons_of_mem _ (List.mem_cons_of_mem _ (List.mem_cons_of_mem _ hq)))
      refine turn v C oC m₂ h tk E' _ hmem hC hx F (N1 N) fun y h' tk' hR st => ?_
      refine ⟨h', tk', news, rfl, frStays st F, newsStays st N, off, hS, ?_⟩
      refine ih (i + 1) _ (by omega) ?_
      rw [et]
      have app : ∀ {a b : List Value}, All2 Rl a b → All2 Rl (a ++ [v]) (b ++ [y]) := by
        intro a b hab
        induction hab with
        | nil => exact .cons hR .nil
        | cons r _ ih => exact .cons r ih
      exact app hy
  exact key its.length 0 [] (by omega) (by simp only [List.take_zero]; exact .nil)
end
theorem CompEnd.inner {h₀ : Heap} {L I C D Dn : Addr} {m : Str → Option Value} {s₁ : Shared} {oI oC oD o : Obj} {S : List (Addr × Obj) → Prop} {rest : Value → List (Addr × Obj) → Prop} {h' : Heap} {tk : Nat} {news : List (Addr × Obj)}
    (F : Fr h₀ L h' m) (N : News h₀ L h' ((Dn, o) :: (I, oI) :: (C, oC) :: (D, oD) :: news)) (o1 : Off1 Dn ((I, oI) :: (C, oC) :: (D, oD) :: news)) (off : Off3 I C D news) (hS : S ((Dn, o) :: news)) (r : rest (.ref Dn) ((Dn, o) :: news)) :
    CompEnd h₀ L m s₁ I oI C oC D oD S rest (.ref Dn) { s₁ with heap := h', toks := tk } :=
  ⟨h', tk, (Dn, o) :: news, rfl, F, fun p hp => N p (by
    simp only [List.mem_cons] at hp ⊢
    rcases hp with h | h | h | h | h
    · exact .inr (.inl h)
    · exact .inr (.inr (.inl h))
    · exact .inr (.inr (.inr (.inl h)))
    · exact .inl h
    · exact .inr (.inr (.inr (.inr h)))), ⟨⟨Ne.symm o1.1, Ne.symm o1.2.1, Ne.symm o1.2.2.1⟩, off⟩, hS, r⟩
end
local macro_rules | `(tactic| walk_at "assign Tuple") => `(tactic| (k_here; (refine assign_set1 (by k_asm) (by k_asm) (by k_mem) (by rfl) ?_); intro _ _ _; (try k_sweep)))
section
open LCg LCt
theorem Src2T.filter {ct elt : Expr} {x : Str} {scope : Scope} {cl : List (Str × Addr)} {prog : Program} {w : World} {A : Around} {h₀ : Heap} {L : Addr} {m : Str → Option Value} {env : Env} {Fin : Shared → List Value → List (Addr × Obj) → Prop} {ax : Addr} {its : List Value} {k : Nat} {news : List (Addr × Obj)} {s₁ : Shared} (p : Value → Bool)
    (hh : A.handled = none) (F : Fr h₀ L s₁.heap m) (N : News h₀ L s₁.heap news) (hm : (ax, ({ cls := .type "list", data := .seq its.toArray k } : Obj)) ∈ news) (hsz : its.length ≤ sizeLine)
    (test : ∀ v C oC m₂ h tk (E' : Value → Shared → Prop) (Q' : Bool → Shared → Prop), v ∈ its → NsObj oC m₂ → m₂ x = some v → Fr h₀ L h m → News h₀ L h ((C, oC) :: news) →
      (∀ h' tk', h.StaysIn h' → Q' (p v) { s₁ with heap := h', toks := tk' }) → wpAny (model prog w) A (isTrue ct (compEnvC scope cl C env) (eval ct (compEnvC scope cl C env))) Q' E' { s₁ with heap := h, toks := tk })
    (take : ∀ v C oC m₂ h tk (E' : Value → Shared → Prop) (Q' : Value → Shared → Prop), v ∈ its → NsObj oC m₂ → m₂ x = some v → Fr h₀ L h m → News h₀ L h ((C, oC) :: news) →
      (∀ h' tk', h.StaysIn h' → Q' v { s₁ with heap := h', toks := tk' }) → wpAny (model prog w) A (eval elt (compEnvC scope cl C env)) Q' E' { s₁ with heap := h, toks := tk })
    (fin : ∀ g ys, ys = its.filter p → Fin { s₁ with heap := g } ys news) :
    Src2T prog w A h₀ L m env ct elt x scope cl Fin (.ref ax) s₁ :=
  ⟨"list", ax, its.toArray, news, .inl rfl, rfl, hh, F, N, ⟨_, .inr hm, rfl, _, rfl⟩, by simpa using hsz, fun _ ⟨g, e⟩ => e ▸ restT_filter its p (by simp) (fun i v h => by simpa using h) ⟨_, .inr hm, rfl, _, rfl⟩ test take (fin g _ rfl)⟩
end
local macro_rules | `(tactic| walk_at "eval ListComp") => `(tactic| (k_here; (with_reducible show wpAny _ _ (eval (Expr.ListComp _ [Comprehension.mk _ _ [_] _] _ _) _) _ _ _); k_dflt (refine LC_T (F₀ := by k_asm) (by with_unfolding_all rfl) (by decide) (by rfl) (by decide) (by rfl) ?_)))
-- H1
section
open PySem.MeetsSeq PySem.MeetsSeq3
open AutoSeq1 (wpAny_loadPart')
def lexLt : List Str → List Str → Bool
  | [], [] => false
  | [], _ :: _ => true
  | _ :: _, [] => false
  | a :: l, b :: r => if a = b then lexLt l r else decide (a.cps.toList < b.cps.toList)
def lexOp (g : Bool) (a b : List Str) : Bool := if g then lexLt b a else lexLt a b
def lexCode (g : Bool) : Int := if g then 4 else 0
theorem lexOp_cons_eq (g : Bool) (a : Str) (l r : List Str) : lexOp g (a :: l) (a :: r) = lexOp g l r := by cases g <;> simp [lexOp, lexLt]
abbrev lobj (items : Array Value) (n : Nat) : Obj := { cls := .type "list", dict := none, data := .seq items n, slots := #[] }
section
variable {prog : Program} {w : World} {A : Around} {E : Value → Shared → Prop} {s : Shared} {x y : Str} {t u : Tok}
theorem rc_lt {Q : Value → Shared → Prop} (h : Q (.bool (x.cps.toList < y.cps.toList)) s) : wpAny (model prog w) A (richCompare .Lt (.str x t) (.str y u)) Q E s := P.lt_str h
theorem rc_gt {Q : Value → Shared → Prop} (h : Q (.bool (y.cps.toList < x.cps.toList)) s) : wpAny (model prog w) A (richCompare .Gt (.str x t) (.str y u)) Q E s := P.gt_str h
end
set_option maxHeartbeats 4000000 in
theorem lt_loop (g : Bool) (l b : Addr) (xs ys : List (Str × Tok)) (n n2 : Nat) (k : Nat) :
    ∀ i : Nat, xs.length - i = k → i ≤ ys.length → i ≤ xs.length → Meets (Builtin.«list.__eq__.loop» ⟨[.ref l, .ref b, rawInt i, rawInt (lexCode g)], []⟩)
      (fun _ R s => s.heap.get? l = some (lobj (strValues xs).toArray n) ∧ s.heap.get? b = some (lobj (strValues ys).toArray n2) ∧
        R (.ok (.ret (.bool (lexOp g ((xs.drop i).map (·.1)) ((ys.drop i).map (·.1)))))) s) := by
  induction k with
  | zero =>
    intro i hk hy hx prog w A R s h
    obtain ⟨hp, gn, d, tk, os⟩ := s; obtain ⟨hl, hb, h⟩ := h
    have ei : i = xs.length := by omega
    have hd : xs.drop i = [] := by rw [ei]; simp
    have hi1 : (strValues xs).toArray[((i : Nat) : Int).toNat]? = none := by simp [strValues]; omega
    cases g
    all_goals
      dsimp only [lexCode] at *
      wp_walk using wpAny_loadPart' hl, wpAny_loadPart' hb
      rw [hi1]
      wp_walk using wpAny_loadPart' hl, wpAny_loadPart' hb
      rw [hd] at h
      refine Eq.subst (motive := fun z => R (.ok (.ret (.bool z))) _) ?_ h
      cases e : ys.drop i with
      | nil =>
        have : ys.length ≤ i := by simpa using e
        simp [lexOp, lexLt, strValues]; omega
      | cons p r =>
        have : i < ys.length := by
          rcases Nat.lt_or_ge i ys.length with h | h
          · exact h
          · rw [List.drop_of_length_le h] at e; cases e
        simp [lexOp, lexLt, strValues]; omega
  | succ k ih =>
    intro i hk hy hx prog w A R s h
    obtain ⟨hp, gn, d, tk, os⟩ := s; obtain ⟨hl, hb, h⟩ := h
    have hlt : i < xs.length := by omega
    have hi1 : (strValues xs).toArray[((i : Nat) : Int).toNat]? = some (.str xs[i].1 xs[i].2) := by simp [strValues, hlt]
    have hdx : xs.drop i = xs[i] :: xs.drop (i + 1) := List.drop_eq_getElem_cons hlt
    have hc : ((i : Int) + 1) = ((i + 1 : Nat) : Int) := by push_cast; rfl
    rcases Nat.lt_or_ge i ys.length with hlt2 | hge
    · have hi2 : (strValues ys).toArray[((i : Nat) : Int).toNat]? = some (.str ys[i].1 ys[i].2) := by simp [strValues, hlt2]
      have hdy : ys.drop i = ys[i] :: ys.drop (i + 1) := List.drop_eq_getElem_cons hlt2
      rw [hdx, hdy, List.map_cons, List.map_cons] at h
      cases g
      all_goals
        dsimp only [lexCode] at *
        wp_walk using wpAny_loadPart' hl, wpAny_loadPart' hb
        rw [hi1, hi2]
        refine wpAny_bind (eqBool_str ?_)
        cases hb' : (xs[i].1 == ys[i].1) with
        | true =>
          rw [eq_of_beq hb', lexOp_cons_eq] at h
          wp_walk
          rw [hc]
          exact ⟨plainId_quiet plain_eq_loop _, codeAny_builtin entry_eq_loop (by
            rw [Around.under_plainId plain_eq_loop _]
            exact ih (i + 1) (by omega) hlt2 hlt prog w A R _ ⟨hl, hb, h⟩)⟩
        | false =>
          have hne : xs[i].1 ≠ ys[i].1 := fun e => by rw [e] at hb'; simp at hb'
          wp_walk using wpAny_loadPart' hl, wpAny_loadPart' hb
          rw [hi1, hi2]
          dsimp only
          refine wpAny_bind ?_
          first
          | ((with_reducible refine rc_lt ?_); refine wpAny_pure ?_; refine Eq.subst (motive := fun z => R (.ok (.ret (.bool z))) _) ?_ h; simp [lexOp, lexLt, hne])
          | ((with_reducible refine rc_gt ?_); refine wpAny_pure ?_; refine Eq.subst (motive := fun z => R (.ok (.ret (.bool z))) _) ?_ h; simp [lexOp, lexLt, Ne.symm hne])
    · have hi2 : (strValues ys).toArray[((i : Nat) : Int).toNat]? = none := by simp [strValues]; omega
      have hdy : ys.drop i = [] := List.drop_of_length_le hge
      rw [hdx, hdy] at h
      cases g
      all_goals
        dsimp only [lexCode] at *
        wp_walk using wpAny_loadPart' hl, wpAny_loadPart' hb
        rw [hi1, hi2]
        wp_walk using wpAny_loadPart' hl, wpAny_loadPart' hb
        refine Eq.subst (motive := fun z => R (.ok (.ret (.bool z))) _) ?_ h
        have hn : ¬ xs.length < ys.length := by omega
        have hn' : ys.length < xs.length := by omega
        have hn'' : ¬ ys.length ≤ 0 ∨ ys.length ≤ 0 := by omega
        first
        | (show false = decide ((strValues xs).toArray.size < (strValues ys).toArray.size); rw [List.size_toArray, List.size_toArray, strValues, strValues, List.length_map, List.length_map]; simp [hn])
        | (show true = decide ((strValues xs).toArray.size > (strValues ys).toArray.size); rw [List.size_toArray, List.size_toArray, strValues, strValues, List.length_map, List.length_map]; simp [hn'])
end
-- H2
section
open PySem.MeetsSeq PySem.MeetsSeq3
open AutoSeq1 (wpAny_loadPart')
theorem list_lt (l b : Addr) (xs ys : List (Str × Tok)) (n n2 : Nat) :
    Meets (Builtin.«list.__lt__» ⟨[.ref l, .ref b], []⟩)
      (fun _ R s => s.heap.get? l = some (lobj (strValues xs).toArray n) ∧ s.heap.get? b = some (lobj (strValues ys).toArray n2) ∧
        R (.ok (.ret (.bool (lexLt (xs.map (·.1)) (ys.map (·.1)))))) s) := by
  intro prog w A R s h
  obtain ⟨hp, g, d, tk, os⟩ := s; obtain ⟨hl, hb, h⟩ := h
  have f3 := AutoSeq1.sub_list_list
  wp_walk using wpAny_loadPart' hl, wpAny_loadPart' hb
  exact ⟨plainId_quiet plain_eq_loop _, codeAny_builtin entry_eq_loop (by
    rw [Around.under_plainId plain_eq_loop _]
    exact lt_loop false l b xs ys n n2 _ 0 rfl (Nat.zero_le _) (Nat.zero_le _) prog w A R _ ⟨hl, hb, h⟩)⟩
theorem list_gt (l b : Addr) (xs ys : List (Str × Tok)) (n n2 : Nat) :
    Meets (Builtin.«list.__gt__» ⟨[.ref l, .ref b], []⟩)
      (fun _ R s => s.heap.get? l = some (lobj (strValues xs).toArray n) ∧ s.heap.get? b = some (lobj (strValues ys).toArray n2) ∧
        R (.ok (.ret (.bool (lexLt (ys.map (·.1)) (xs.map (·.1)))))) s) := by
  intro prog w A R s h
  obtain ⟨hp, g, d, tk, os⟩ := s; obtain ⟨hl, hb, h⟩ := h
  have f3 := AutoSeq1.sub_list_list
  wp_walk using wpAny_loadPart' hl, wpAny_loadPart' hb
  exact ⟨plainId_quiet plain_eq_loop _, codeAny_builtin entry_eq_loop (by
    rw [Around.under_plainId plain_eq_loop _]
    exact lt_loop true l b xs ys n n2 _ 0 rfl (Nat.zero_le _) (Nat.zero_le _) prog w A R _ ⟨hl, hb, h⟩)⟩
section
variable {prog : Program} {w : World} {A : Around} {E : Value → Shared → Prop} {s : Shared}
theorem rcl_lt {l b : Addr} {xs ys : List (Str × Tok)} {n n2 : Nat} {Q : Value → Shared → Prop} (hu : A.units < cLine) (hl : s.heap.get? l = some (lobj (strValues xs).toArray n)) (hb : s.heap.get? b = some (lobj (strValues ys).toArray n2))
    (h : Q (.bool (lexLt (xs.map (·.1)) (ys.map (·.1)))) s) : wpAny (model prog w) A (richCompare .Lt (.ref l) (.ref b)) Q E s :=
  richCompare_meets_room ⟨_, hl, rfl⟩ ⟨_, hb, rfl⟩ F.slot_list_lt F.entry_list_lt (F.args_list_lt_2 _ _) (list_lt l b xs ys n n2) ⟨hl, hb, (fun e => nomatch e), h⟩ hu
theorem rcl_gt {l b : Addr} {xs ys : List (Str × Tok)} {n n2 : Nat} {Q : Value → Shared → Prop} (hu : A.units < cLine) (hl : s.heap.get? l = some (lobj (strValues xs).toArray n)) (hb : s.heap.get? b = some (lobj (strValues ys).toArray n2))
    (h : Q (.bool (lexLt (ys.map (·.1)) (xs.map (·.1)))) s) : wpAny (model prog w) A (richCompare .Gt (.ref l) (.ref b)) Q E s :=
  richCompare_meets_room ⟨_, hl, rfl⟩ ⟨_, hb, rfl⟩ F.slot_list_gt F.entry_list_gt (F.args_list_gt_2 _ _) (list_gt l b xs ys n n2) ⟨hl, hb, (fun e => nomatch e), h⟩ hu
--MM
theorem call_min2 {l : Addr} {v0 v1 : Value} {bt : Bool} {Q : Value → Shared → Prop} (hh : A.handled = none) (hl : s.heap.IsList l #[v0, v1])
    (hcmp : ∀ h' tk (Q' : Value → Shared → Prop) (E' : Value → Shared → Prop), s.heap.StaysIn h' → Q' (.bool bt) { s with heap := h', toks := tk } → wpAny (model prog w) A.in1 (richCompare .Lt v1 v0) Q' E' { s with heap := h', toks := tk })
    (hQ : ∀ h' tk, s.heap.StaysIn h' → Q (if bt then v1 else v0) { s with heap := h', toks := tk }) :
    wpAny (model prog w) A (call (.builtin "min") [.ref l]) Q E s := by
  have hname : (toString "min" ++ toString ".loop" : String) = "min.loop" := by decide
  have hlt : l < s.heap.objs.size := by obtain ⟨_, e, _⟩ := hl; exact Heap.lt_size e
  refine call_function_tree F.kind_min F.plain_min F.entry_min (F.args_min1 _) ?_
  show wpAny _ A.in1 (Builtin.Builtins.bindParams "min" ["key", "default"] 0 ⟨[], []⟩ >>= _) _ _ s
  refine wpAny_bind (wpAny_of_eq (show Builtin.Builtins.bindParams "min" ["key", "default"] 0 ⟨[], []⟩ = pure [none, none] from rfl) ?_)
  refine wpAny_bind (wpAny_pure ?_)
  refine wpAny_bind (wpAny_pyIter_list hl ?_)
  generalize hI : s.heap.objs.size = I at *
  have W := Walks.list (prog := prog) (w := w) (A := A.in1) hh I l (Nat.ne_of_lt hlt) #[v0, v1]
  refine wpAny_bind (wpAny_newObj_type ?_)
  rw [hname]
  have zI : (s.heap.push { cls := .type "list_iterator", data := .fields #[.ref l, .int 0 0] }).objs.size = I + 1 := by rw [Heap.size_push, hI]
  have kI : s.heap.StaysIn (s.heap.push { cls := .type "list_iterator", data := .fields #[.ref l, .int 0 0] }) := fun b o e => Heap.get?_push_of_some _ e
  have itI : (s.heap.push { cls := .type "list_iterator", data := .fields #[.ref l, .int 0 0] }).IsListIter I l 0 := ⟨_, by rw [← hI]; exact Heap.get?_push_size _ rfl, rfl, rfl⟩
  have lI := Heap.IsList.push hl { cls := .type "list_iterator", data := .fields #[.ref l, .int 0 0] }
  generalize hH : s.heap.push { cls := .type "list_iterator", data := .fields #[.ref l, .int 0 0] } = H at *
  have kS : H.StaysIn (H.push { cls := .type "list", data := .seq ([] : List Value).toArray }) := fun b o e => Heap.get?_push_of_some _ e
  have eS : (H.push { cls := .type "list", data := .seq ([] : List Value).toArray }).get? H.objs.size = some { cls := .type "list", data := .seq ([] : List Value).toArray } := Heap.get?_push_size _ rfl
  generalize hS' : H.objs.size = S at *
  have hSlt : I < S := by rw [zI]; exact Nat.lt_succ_self _
  have hSI : S ≠ I := Nat.ne_of_gt hSlt
  have hSl : S ≠ l := Nat.ne_of_gt (Nat.lt_trans hlt hSlt)
  have st0 : (H.push { cls := .type "list", data := .seq ([] : List Value).toArray }).IsListIter I l 0 ∧ (H.push { cls := .type "list", data := .seq ([] : List Value).toArray }).IsList l #[v0, v1] := ⟨⟨_, kS _ _ itI.choose_spec.1, itI.choose_spec.2⟩, ⟨_, kS _ _ lI.choose_spec.1, lI.choose_spec.2⟩⟩
  have k0 : s.heap.StaysIn (H.push { cls := .type "list", data := .seq ([] : List Value).toArray }) := fun b o e => kS b o (kI b o e)
  generalize H.push { cls := .type "list", data := .seq ([] : List Value).toArray } = G at *
  have up : ∀ {h1 h2 : Heap} {g : Obj → Obj}, s.heap.StaysIn h1 → (∀ b o, b ∉ [I] → h1.get? b = some o → h2.get? b = some o) → s.heap.StaysIn (h2.update S g) := fun k1 k2 b o e => by
    have hb := Heap.lt_size e
    rw [hI] at hb
    refine (Heap.get?_update_other _ _ ?_).trans (k2 b o ?_ (k1 b o e))
    · exact (Nat.ne_of_gt (Nat.lt_trans hb hSlt))
    · rw [List.mem_singleton]; exact Nat.ne_of_lt hb
  have off : ∀ {h1 h2 : Heap} {o : Obj}, (∀ b o, b ∉ [I] → h1.get? b = some o → h2.get? b = some o) → h1.get? S = some o → h2.get? S = some o := fun k e => k _ _ (by rw [List.mem_singleton]; exact hSI) e
  have onlyI : ∀ {h1 h2 : Heap}, s.heap.StaysIn h1 → (∀ b o, b ∉ [I] → h1.get? b = some o → h2.get? b = some o) → s.heap.StaysIn h2 := fun k1 k2 b o e => k2 b o (by rw [List.mem_singleton]; have hb := Heap.lt_size e; rw [hI] at hb; exact Nat.ne_of_lt hb) (k1 b o e)
  have upd : ∀ {h1 : Heap} {g : Obj → Obj}, s.heap.StaysIn h1 → s.heap.StaysIn (h1.update S g) := fun k1 => up k1 fun _ _ _ e => e
  have updSt : ∀ {h1 : Heap} {g : Obj → Obj} {i : Nat}, (h1.IsListIter I l i ∧ h1.IsList l #[v0, v1]) → ((h1.update S g).IsListIter I l i ∧ (h1.update S g).IsList l #[v0, v1]) := fun h => ⟨⟨_, (Heap.get?_update_other _ _ hSI).trans h.1.choose_spec.1, h.1.choose_spec.2⟩, ⟨_, (Heap.get?_update_other _ _ hSl).trans h.2.choose_spec.1, h.2.choose_spec.2⟩⟩
  refine wpAny_pure ⟨plainId_quiet F.plain_min_loop _, ?_⟩
  refine codeAny_builtin F.entry_min_loop ?_
  rw [Around.under_plainId F.plain_min_loop _]
  show wpAny _ A.in1 (seqItems? (.ref S) >>= _) _ _ _
  refine wpAny_bind (wpAny_seqItems eS rfl ?_)
  show wpAny _ A.in1 (tryCatch (pyNext (.ref I)) _ >>= _) _ _ _
  refine wpAny_bind (wpAny_tryCatch (W.item 0 _ _ _ (by simp) st0 fun v h1 tk1 hP st1 k1 => ?_))
  have ev : v = v0 := by have : some v0 = some v := hP; exact (Option.some.inj this).symm
  subst ev
  have e1 := off k1 eS
  show wpAny _ A.in1 (updateSeq S (fun _ => #[v, v]) >>= _) _ _ _
  refine wpAny_bind ?_
  refine wpAny_updateSeq e1 rfl ?_
  rw [hname]
  have e2 := Heap.get?_update_self (Obj.mapSeq (fun _ => #[v, v])) e1 rfl
  have s2 := updSt (g := Obj.mapSeq (fun _ => #[v, v])) st1
  have c2 := upd (g := Obj.mapSeq (fun _ => #[v, v])) (onlyI k0 k1)
  generalize h1.update S (Obj.mapSeq (fun _ => #[v, v])) = G2 at *
  refine wpAny_pure ⟨plainId_quiet F.plain_min_loop _, ?_⟩
  refine codeAny_builtin F.entry_min_loop ?_
  rw [Around.under_plainId F.plain_min_loop _]
  show wpAny _ A.in1 (seqItems? (.ref S) >>= _) _ _ _
  refine wpAny_bind (wpAny_seqItems e2 rfl ?_)
  show wpAny _ A.in1 (tryCatch (pyNext (.ref I)) _ >>= _) _ _ _
  refine wpAny_bind (wpAny_tryCatch (W.item 1 _ _ _ (by simp) s2 fun v' h3 tk3 hP3 st3 k3 => ?_))
  have ev : v' = v1 := by have : some v1 = some v' := hP3; exact (Option.some.inj this).symm
  subst ev
  have e3 := off k3 e2
  have c3 := onlyI c2 k3
  show wpAny _ A.in1 (tryCatch (holding [v', v'] (richCompare .Lt v' v >>= _)) _ >>= _) _ _ _
  refine wpAny_bind (wpAny_tryCatch (wpAny_holding (wpAny_bind (hcmp _ _ _ _ c3 ?_))))
  refine wpAny_bind (wpAny_holding (wpAny_truthy_bool ?_))
  refine wpAny_bind (wpAny_letGo (wpAny_pure ?_))
  have fin : ∀ (h4 : Heap) (tk4 : Nat) (r : Value) (c : Nat), (h4.IsListIter I l 2 ∧ h4.IsList l #[v, v']) → s.heap.StaysIn h4 → h4.get? S = some { cls := .type "list", data := .seq #[r, r] c } → (∀ h' tk, s.heap.StaysIn h' → Q r { s with heap := h', toks := tk }) →
      codeAny (model prog w) A (.builtin "min.loop" ⟨[.ref I, .none, .ref S], []⟩) (fun r s' => match r with | .ok (.ret v) => Q v s' | .ok _ => False | .error e => E e s') { s with heap := h4, toks := tk4 } := by
    intro h4 tk4 r c s4 c4 e4 hq
    refine codeAny_builtin F.entry_min_loop ?_
    rw [Around.under_plainId F.plain_min_loop _]
    show wpAny _ A.in1 (seqItems? (.ref S) >>= _) _ _ _
    refine wpAny_bind (wpAny_seqItems e4 rfl ?_)
    show wpAny _ A.in1 (tryCatch (pyNext (.ref I)) _ >>= _) _ _ _
    refine wpAny_bind (wpAny_tryCatch (W.done _ _ _ s4 fun h5 tk5 k5 => ?_))
    have e5 := off k5 e4
    show wpAny _ A.in1 (updateSeq S (fun _ => #[]) >>= _) _ _ _
    refine wpAny_bind ?_
    refine wpAny_updateSeq e5 rfl (wpAny_bind (wpAny_letGo (wpAny_pure ?_)))
    exact hq _ _ (upd (onlyI c4 k5))
  cases bt with
  | true =>
    simp only [if_true]
    refine wpAny_bind ?_
    refine wpAny_updateSeq e3 rfl (wpAny_bind (wpAny_letGo ?_))
    rw [hname]
    exact wpAny_pure ⟨plainId_quiet F.plain_min_loop _, codeAny_mono (fin _ _ v' _ (updSt st3) (upd c3) (Heap.get?_update_self _ e3 rfl) hQ) fun r s' h => by cases r with | ok f => cases f <;> exact h | error e => exact h⟩
  | false =>
    simp only [Bool.false_eq_true, if_false]
    refine wpAny_bind (wpAny_letGo ?_)
    rw [hname]
    exact wpAny_pure ⟨plainId_quiet F.plain_min_loop _, codeAny_mono (fin _ _ v _ st3 c3 e3 hQ) fun r s' h => by cases r with | ok f => cases f <;> exact h | error e => exact h⟩
theorem call_max2 {l : Addr} {v0 v1 : Value} {bt : Bool} {Q : Value → Shared → Prop} (hh : A.handled = none) (hl : s.heap.IsList l #[v0, v1])
    (hcmp : ∀ h' tk (Q' : Value → Shared → Prop) (E' : Value → Shared → Prop), s.heap.StaysIn h' → Q' (.bool bt) { s with heap := h', toks := tk } → wpAny (model prog w) A.in1 (richCompare .Gt v1 v0) Q' E' { s with heap := h', toks := tk })
    (hQ : ∀ h' tk, s.heap.StaysIn h' → Q (if bt then v1 else v0) { s with heap := h', toks := tk }) :
    wpAny (model prog w) A (call (.builtin "max") [.ref l]) Q E s := by
  have hname : (toString "max" ++ toString ".loop" : String) = "max.loop" := by decide
  have hlt : l < s.heap.objs.size := by obtain ⟨_, e, _⟩ := hl; exact Heap.lt_size e
  refine call_function_tree F.kind_max F.plain_max F.entry_max (F.args_max1 _) ?_
  show wpAny _ A.in1 (Builtin.Builtins.bindParams "max" ["key", "default"] 0 ⟨[], []⟩ >>= _) _ _ s
  refine wpAny_bind (wpAny_of_eq (show Builtin.Builtins.bindParams "max" ["key", "default"] 0 ⟨[], []⟩ = pure [none, none] from rfl) ?_)
  refine wpAny_bind (wpAny_pure ?_)
  refine wpAny_bind (wpAny_pyIter_list hl ?_)
  generalize hI : s.heap.objs.size = I at *
  have W := Walks.list (prog := prog) (w := w) (A := A.in1) hh I l (Nat.ne_of_lt hlt) #[v0, v1]
  refine wpAny_bind (wpAny_newObj_type ?_)
  rw [hname]
  have zI : (s.heap.push { cls := .type "list_iterator", data := .fields #[.ref l, .int 0 0] }).objs.size = I + 1 := by rw [Heap.size_push, hI]
  have kI : s.heap.StaysIn (s.heap.push { cls := .type "list_iterator", data := .fields #[.ref l, .int 0 0] }) := fun b o e => Heap.get?_push_of_some _ e
  have itI : (s.heap.push { cls := .type "list_iterator", data := .fields #[.ref l, .int 0 0] }).IsListIter I l 0 := ⟨_, by rw [← hI]; exact Heap.get?_push_size _ rfl, rfl, rfl⟩
  have lI := Heap.IsList.push hl { cls := .type "list_iterator", data := .fields #[.ref l, .int 0 0] }
  generalize hH : s.heap.push { cls := .type "list_iterator", data := .fields #[.ref l, .int 0 0] } = H at *
  have kS : H.StaysIn (H.push { cls := .type "list", data := .seq ([] : List Value).toArray }) := fun b o e => Heap.get?_push_of_some _ e
  have eS : (H.push { cls := .type "list", data := .seq ([] : List Value).toArray }).get? H.objs.size = some { cls := .type "list", data := .seq ([] : List Value).toArray } := Heap.get?_push_size _ rfl
  generalize hS' : H.objs.size = S at *
  have hSlt : I < S := by rw [zI]; exact Nat.lt_succ_self _
  have hSI : S ≠ I := Nat.ne_of_gt hSlt
  have hSl : S ≠ l := Nat.ne_of_gt (Nat.lt_trans hlt hSlt)
  have st0 : (H.push { cls := .type "list", data := .seq ([] : List Value).toArray }).IsListIter I l 0 ∧ (H.push { cls := .type "list", data := .seq ([] : List Value).toArray }).IsList l #[v0, v1] := ⟨⟨_, kS _ _ itI.choose_spec.1, itI.choose_spec.2⟩, ⟨_, kS _ _ lI.choose_spec.1, lI.choose_spec.2⟩⟩
  have k0 : s.heap.StaysIn (H.push { cls := .type "list", data := .seq ([] : List Value).toArray }) := fun b o e => kS b o (kI b o e)
  generalize H.push { cls := .type "list", data := .seq ([] : List Value).toArray } = G at *
  have up : ∀ {h1 h2 : Heap} {g : Obj → Obj}, s.heap.StaysIn h1 → (∀ b o, b ∉ [I] → h1.get? b = some o → h2.get? b = some o) → s.heap.StaysIn (h2.update S g) := fun k1 k2 b o e => by
    have hb := Heap.lt_size e
    rw [hI] at hb
    refine (Heap.get?_update_other _ _ ?_).trans (k2 b o ?_ (k1 b o e))
    · exact (Nat.ne_of_gt (Nat.lt_trans hb hSlt))
    · rw [List.mem_singleton]; exact Nat.ne_of_lt hb
  have off : ∀ {h1 h2 : Heap} {o : Obj}, (∀ b o, b ∉ [I] → h1.get? b = some o → h2.get? b = some o) → h1.get? S = some o → h2.get? S = some o := fun k e => k _ _ (by rw [List.mem_singleton]; exact hSI) e
  have onlyI : ∀ {h1 h2 : Heap}, s.heap.StaysIn h1 → (∀ b o, b ∉ [I] → h1.get? b = some o → h2.get? b = some o) → s.heap.StaysIn h2 := fun k1 k2 b o e => k2 b o (by rw [List.mem_singleton]; have hb := Heap.lt_size e; rw [hI] at hb; exact Nat.ne_of_lt hb) (k1 b o e)
  have upd : ∀ {h1 : Heap} {g : Obj → Obj}, s.heap.StaysIn h1 → s.heap.StaysIn (h1.update S g) := fun k1 => up k1 fun _ _ _ e => e
  have updSt : ∀ {h1 : Heap} {g : Obj → Obj} {i : Nat}, (h1.IsListIter I l i ∧ h1.IsList l #[v0, v1]) → ((h1.update S g).IsListIter I l i ∧ (h1.update S g).IsList l #[v0, v1]) := fun h => ⟨⟨_, (Heap.get?_update_other _ _ hSI).trans h.1.choose_spec.1, h.1.choose_spec.2⟩, ⟨_, (Heap.get?_update_other _ _ hSl).trans h.2.choose_spec.1, h.2.choose_spec.2⟩⟩
  refine wpAny_pure ⟨plainId_quiet F.plain_max_loop _, ?_⟩
  refine codeAny_builtin F.entry_max_loop ?_
  rw [Around.under_plainId F.plain_max_loop _]
  show wpAny _ A.in1 (seqItems? (.ref S) >>= _) _ _ _
  refine wpAny_bind (wpAny_seqItems eS rfl ?_)
  show wpAny _ A.in1 (tryCatch (pyNext (.ref I)) _ >>= _) _ _ _
  refine wpAny_bind (wpAny_tryCatch (W.item 0 _ _ _ (by simp) st0 fun v h1 tk1 hP st1 k1 => ?_))
  have ev : v = v0 := by have : some v0 = some v := hP; exact (Option.some.inj this).symm
  subst ev
  have e1 := off k1 eS
  show wpAny _ A.in1 (updateSeq S (fun _ => #[v, v]) >>= _) _ _ _
  refine wpAny_bind ?_
  refine wpAny_updateSeq e1 rfl ?_
  rw [hname]
  have e2 := Heap.get?_update_self (Obj.mapSeq (fun _ => #[v, v])) e1 rfl
  have s2 := updSt (g := Obj.mapSeq (fun _ => #[v, v])) st1
  have c2 := upd (g := Obj.mapSeq (fun _ => #[v, v])) (onlyI k0 k1)
  generalize h1.update S (Obj.mapSeq (fun _ => #[v, v])) = G2 at *
  refine wpAny_pure ⟨plainId_quiet F.plain_max_loop _, ?_⟩
  refine codeAny_builtin F.entry_max_loop ?_
  rw [Around.under_plainId F.plain_max_loop _]
  show wpAny _ A.in1 (seqItems? (.ref S) >>= _) _ _ _
  refine wpAny_bind (wpAny_seqItems e2 rfl ?_)
  show wpAny _ A.in1 (tryCatch (pyNext (.ref I)) _ >>= _) _ _ _
  refine wpAny_bind (wpAny_tryCatch (W.item 1 _ _ _ (by simp) s2 fun v' h3 tk3 hP3 st3 k3 => ?_))
  have ev : v' = v1 := by have : some v1 = some v' := hP3; exact (Option.some.inj this).symm
  subst ev
  have e3 := off k3 e2
  have c3 := onlyI c2 k3
  show wpAny _ A.in1 (tryCatch (holding [v', v'] (richCompare .Gt v' v >>= _)) _ >>= _) _ _ _
  refine wpAny_bind (wpAny_tryCatch (wpAny_holding (wpAny_bind (hcmp _ _ _ _ c3 ?_))))
  refine wpAny_bind (wpAny_holding (wpAny_truthy_bool ?_))
  refine wpAny_bind (wpAny_letGo (wpAny_pure ?_))
  have fin : ∀ (h4 : Heap) (tk4 : Nat) (r : Value) (c : Nat), (h4.IsListIter I l 2 ∧ h4.IsList l #[v, v']) → s.heap.StaysIn h4 → h4.get? S = some { cls := .type "list", data := .seq #[r, r] c } → (∀ h' tk, s.heap.StaysIn h' → Q r { s with heap := h', toks := tk }) →
      codeAny (model prog w) A (.builtin "max.loop" ⟨[.ref I, .none, .ref S], []⟩) (fun r s' => match r with | .ok (.ret v) => Q v s' | .ok _ => False | .error e => E e s') { s with heap := h4, toks := tk4 } := by
    intro h4 tk4 r c s4 c4 e4 hq
    refine codeAny_builtin F.entry_max_loop ?_
    rw [Around.under_plainId F.plain_max_loop _]
    show wpAny _ A.in1 (seqItems? (.ref S) >>= _) _ _ _
    refine wpAny_bind (wpAny_seqItems e4 rfl ?_)
    show wpAny _ A.in1 (tryCatch (pyNext (.ref I)) _ >>= _) _ _ _
    refine wpAny_bind (wpAny_tryCatch (W.done _ _ _ s4 fun h5 tk5 k5 => ?_))
    have e5 := off k5 e4
    show wpAny _ A.in1 (updateSeq S (fun _ => #[]) >>= _) _ _ _
    refine wpAny_bind ?_
    refine wpAny_updateSeq e5 rfl (wpAny_bind (wpAny_letGo (wpAny_pure ?_)))
    exact hq _ _ (upd (onlyI c4 k5))
  cases bt with
  | true =>
    simp only [if_true]
    refine wpAny_bind ?_
    refine wpAny_updateSeq e3 rfl (wpAny_bind (wpAny_letGo ?_))
    rw [hname]
    exact wpAny_pure ⟨plainId_quiet F.plain_max_loop _, codeAny_mono (fin _ _ v' _ (updSt st3) (upd c3) (Heap.get?_update_self _ e3 rfl) hQ) fun r s' h => by cases r with | ok f => cases f <;> exact h | error e => exact h⟩
  | false =>
    simp only [Bool.false_eq_true, if_false]
    refine wpAny_bind (wpAny_letGo ?_)
    rw [hname]
    exact wpAny_pure ⟨plainId_quiet F.plain_max_loop _, codeAny_mono (fin _ _ v _ st3 c3 e3 hQ) fun r s' h => by cases r with | ok f => cases f <;> exact h | error e => exact h⟩
end
end
-- H3
section
open LCg LCt
def keepC : Value → Bool
  | .str c _ => decide (c.length ≠ 0) && c != Str.ofString "."
  | _ => false
def keepS (c : Str) : Bool := decide (c.length ≠ 0) && c != Str.ofString "."
theorem svMem {l : List (Str × Tok)} {v : Value} {n : Nat} (h : v ∈ strValues l) (hb : ∀ a, a ∈ l.map (fun x => x.fst) → a.length ≤ n) : ∃ c t, v = .str c t ∧ c.length ≤ n := by
  obtain ⟨p, hp, rfl⟩ := List.mem_map.mp h
  exact ⟨_, _, rfl, hb _ (List.mem_map_of_mem hp)⟩
theorem svLe {l : List (Str × Tok)} {x y : Str} (h : l.map (·.1) = Txt.split x y) (hx : x.length ≤ 10000) : (strValues l).length ≤ sizeLine := by
  have := len_le_of_split h
  rw [strValues, List.length_map, sizeLine_eq]; omega
theorem keepC_t {c : Str} {t : Tok} (h1 : c.length ≠ 0) (h2 : (c != Str.ofString ".") = true) : keepC (.str c t) = true := by
  show (decide (c.length ≠ 0) && c != Str.ofString ".") = true
  rw [decide_eq_true h1, h2]; rfl
theorem keepC_f1 {c : Str} {t : Tok} (h1 : ¬ c.length ≠ 0) : keepC (.str c t) = false := by
  show (decide (c.length ≠ 0) && c != Str.ofString ".") = false
  rw [decide_eq_false h1]; rfl
theorem keepC_f2 {c : Str} {t : Tok} (h2 : (c != Str.ofString ".") = false) : keepC (.str c t) = false := by
  show (decide (c.length ≠ 0) && c != Str.ofString ".") = false
  rw [h2, Bool.and_false]
theorem svFilter {l : List (Str × Tok)} {ys : List Value} {ss : List Str} (h : ys = (strValues l).filter keepC) (hs : l.map (fun x => x.fst) = ss) : ∃ l', ys = strValues l' ∧ l'.map (fun x => x.fst) = ss.filter keepS := by
  refine ⟨l.filter fun p => keepS p.1, ?_, ?_⟩
  · subst h
    rw [strValues, strValues, List.filter_map]; rfl
  · subst hs
    rw [List.filter_map]; rfl
section
variable {prog : Program} {w : World} {A : Around} {E : Value → Shared → Prop} {s : Shared} {h₀ : Heap} {L : Addr} {m : Str → Option Value}
theorem lst_lobj (l : List (Str × Tok)) : LCg.lst (strValues l) = lobj (strValues l).toArray (strValues l).length := rfl
theorem min2_N {D a b : Addr} {la lb : List (Str × Tok)} {news : List (Addr × Obj)} {Q : Value → Shared → Prop} (hh : A.handled = none) (hu : A.units + 2 < cLine) (F : Fr h₀ L s.heap m) (N : News h₀ L s.heap news)
    (hD : (D, LCg.lst [.ref a, .ref b]) ∈ news) (ha : (a, LCg.lst (strValues la)) ∈ news) (hb : (b, LCg.lst (strValues lb)) ∈ news)
    (h : ∀ r c h' tk, Fr h₀ L h' m → News h₀ L h' ((r, LCg.lst (strValues c)) :: news) → (r = if lexLt (lb.map (·.1)) (la.map (·.1)) then b else a) → (c = if lexLt (lb.map (·.1)) (la.map (·.1)) then lb else la) → Q (.ref r) { s with heap := h', toks := tk }) :
    wpAny (model prog w) A (call (.builtin "min") [.ref D]) Q E s := by
  refine call_min2 (bt := lexLt (lb.map (·.1)) (la.map (·.1))) hh ⟨_, (N _ hD).1, rfl, _, rfl⟩ (fun h' tk Q' E' st q => rcl_lt (by rw [units_in1]; exact Nat.lt_of_succ_lt hu) (st _ _ (N _ hb).1) (st _ _ (N _ ha).1) q) fun h' tk st => ?_
  have F' := frStays st F
  have N' := newsStays st N
  cases hb' : lexLt (lb.map (·.1)) (la.map (·.1)) with
  | true =>
    rw [hb'] at h
    exact h b lb h' tk F' (fun p hp => by rcases List.mem_cons.mp hp with rfl | hp; exact N' _ hb; exact N' _ hp) rfl rfl
  | false =>
    rw [hb'] at h
    exact h a la h' tk F' (fun p hp => by rcases List.mem_cons.mp hp with rfl | hp; exact N' _ ha; exact N' _ hp) rfl rfl
theorem max2_N {D a b : Addr} {la lb : List (Str × Tok)} {news : List (Addr × Obj)} {Q : Value → Shared → Prop} (hh : A.handled = none) (hu : A.units + 2 < cLine) (F : Fr h₀ L s.heap m) (N : News h₀ L s.heap news)
    (hD : (D, LCg.lst [.ref a, .ref b]) ∈ news) (ha : (a, LCg.lst (strValues la)) ∈ news) (hb : (b, LCg.lst (strValues lb)) ∈ news)
    (h : ∀ r c h' tk, Fr h₀ L h' m → News h₀ L h' ((r, LCg.lst (strValues c)) :: news) → (r = if lexLt (la.map (·.1)) (lb.map (·.1)) then b else a) → (c = if lexLt (la.map (·.1)) (lb.map (·.1)) then lb else la) → Q (.ref r) { s with heap := h', toks := tk }) :
    wpAny (model prog w) A (call (.builtin "max") [.ref D]) Q E s := by
  refine call_max2 (bt := lexLt (la.map (·.1)) (lb.map (·.1))) hh ⟨_, (N _ hD).1, rfl, _, rfl⟩ (fun h' tk Q' E' st q => rcl_gt (by rw [units_in1]; exact Nat.lt_of_succ_lt hu) (st _ _ (N _ hb).1) (st _ _ (N _ ha).1) q) fun h' tk st => ?_
  have F' := frStays st F
  have N' := newsStays st N
  cases hb' : lexLt (la.map (·.1)) (lb.map (·.1)) with
  | true =>
    rw [hb'] at h
    exact h b lb h' tk F' (fun p hp => by rcases List.mem_cons.mp hp with rfl | hp; exact N' _ hb; exact N' _ hp) rfl rfl
  | false =>
    rw [hb'] at h
    exact h a la h' tk F' (fun p hp => by rcases List.mem_cons.mp hp with rfl | hp; exact N' _ ha; exact N' _ hp) rfl rfl
end
end
local macro_rules | `(tactic| walk_at "call builtin:min") => `(tactic| (k_here; refine min2_N (by exact rfl) (by walk_at "m_room") (by k_asm) (by k_asm) (by k_mem) (by k_mem) (by k_mem) ?_; (intro r9 c9 h9 tk9 F9 N9 e9 f9; (try dsimp only))))
local macro_rules | `(tactic| walk_at "call builtin:max") => `(tactic| (k_here; refine max2_N (by exact rfl) (by walk_at "m_room") (by k_asm) (by k_asm) (by k_mem) (by k_mem) (by k_mem) ?_; (intro r9 c9 h9 tk9 F9 N9 e9 f9; (try dsimp only))))
-- L1
section
variable {prog : Program} {w : World} {A : Around} {E : Value → Shared → Prop} {s : Shared} {env : Env} {h₀ : Heap} {target : Expr} {body : List Stmt} {Q : Flow → Shared → Prop}
theorem fr_ext {L : Addr} {h : Heap} {m m' : Str → Option Value} (e : ∀ y, m y = m' y) (F : Fr h₀ L h m) : Fr h₀ L h m' := by
  have : m = m' := funext e
  subst this; exact F
theorem subL_of : ∀ {l all : List (Addr × Obj)}, (∀ p ∈ l, p ∈ all) → SubL l all
  | [], _, _ => trivial
  | p :: _, _, h => ⟨h p List.mem_cons_self, subL_of fun q hq => h q (List.mem_cons_of_mem _ hq)⟩
theorem enum_state {σ : Type} {elts : List Expr} {k : Nat} {pos : Pos} {l : Addr} {lo : Obj} {vs : List Value} {n : Nat} {m₀ : Str → Option Value} {news : List (Addr × Obj)}
    (fm : σ → Str → Option Value) (ns : σ → List (Addr × Obj)) (Inv : Nat → σ → Prop) (a : σ)
    (hh : A.handled = none) (F : Fr h₀ env.locals s.heap m₀) (N : News h₀ env.locals s.heap news) (hm : (l, lo) ∈ news) (hc : lo.cls = .type "list") (hd : lo.data = .seq vs.toArray n)
    (hf : ∀ y, m₀ y = fm a y) (hn : ∀ p ∈ ns a, p ∈ news) (hk : ∀ b, (l, lo) ∈ ns b) (h0 : Inv 0 a)
    (turn : ∀ i v b T t I o1 o2 h tk, vs[i]? = some v → Inv i b → (∀ p ∈ news, p.1 < I) → IsTup h T #[.int (i : Int) t, v] → o1.cls = .type "enumerate" → o2.cls = .type "list_iterator" → Fr h₀ env.locals h (fm b) → News h₀ env.locals h ((I + 1, o1) :: (I, o2) :: ns b) →
      wpAny (model prog w) A (assign (.Tuple elts k pos) env (.ref T)) (fun _ s₂ => wpAny (model prog w) A (execs body env)
        (UnrPostW h₀ env.locals { s with heap := h, toks := tk } [(I + 1, o1), (I, o2)] (fun m' n' => ∃ b', (∀ y, m' y = fm b' y) ∧ SubL (ns b') n' ∧ Inv (i + 1) b') Q) E s₂) E { s with heap := h, toks := tk })
    (fin : ∀ b h tk, Inv vs.length b → Fr h₀ env.locals h (fm b) → News h₀ env.locals h (ns b) → Q .next { s with heap := h, toks := tk }) :
    wpAny (model prog w) A (call (.type "enumerate") [.ref l]) (fun xv s₁ => wpAny (model prog w) A (pyIter xv) (fun it s₂ => TurnsAt prog w A h₀ env (.Tuple elts k pos) body Q E it s₂) E s₁) E s := by
  refine ktu_enum hh F N hm hc hd rfl fun I hI => ?_
  have key : ∀ (r : List Value) (i : Nat) (m : Str → Option Value) (nw : List (Addr × Obj)) (b : σ), vs.drop i = r → i ≤ vs.length → (∀ y, m y = fm b y) → (∀ p ∈ ns b, p ∈ nw) → Inv i b →
      ItemsRest prog w A E h₀ env (.Tuple elts k pos) body Q s [(I + 1, "enumerate"), (I, "list_iterator")] [(l, lo)] (enumItems i r) m nw := by
    intro r
    induction r with
    | nil =>
      intro i m nw b hr hi hf hn hi'
      have : i = vs.length := by
        have := List.drop_eq_nil_iff.mp hr
        omega
      subst this
      exact ItemsRest.zero fun h tk F N => fin b h tk hi' (fr_ext hf F) fun p hp => N p (hn p hp)
    | cons v r ih =>
      intro i m nw b hr hi hf hn hi'
      have hv : vs[i]? = some v := by
        have := congrArg List.head? hr
        simpa [List.head?_drop] using this
      have hlt : i < vs.length := by
        rcases Nat.lt_or_ge i vs.length with h | h
        · exact h
        · rw [List.drop_of_length_le h] at hr; cases hr
      have hr' : vs.drop (i + 1) = r := by
        have := congrArg List.tail hr
        simpa [List.tail_drop] using this
      refine ItemsRest.pair fun T t h tk hT F => ?_
      intro o1 h1 o2 h2 N
      have hl : (l, lo) ∈ nw := hn _ (hk b)
      refine wpAny_mono (turn i v b T t I o1 o2 h tk hv hi' hI hT h1 h2 (fr_ext hf F) fun p hp => N p ?_) (fun _ s₂ h₂ => wpAny_mono h₂ (fun f s₃ h₃ => ?_) fun _ _ e => e) fun _ _ e => e
      · rcases List.mem_cons.mp hp with e | hp
        · rw [e]; exact List.mem_cons_self
        · rcases List.mem_cons.mp hp with e | hp
          · rw [e]; exact List.mem_cons_of_mem _ List.mem_cons_self
          · exact List.mem_cons_of_mem _ (List.mem_cons_of_mem _ (hn p hp))
      · have fin : UnrEndW h₀ env.locals { s with heap := h, toks := tk } [(I + 1, o1), (I, o2)] (fun m' n' => ∃ b', (∀ y, m' y = fm b' y) ∧ SubL (ns b') n' ∧ Inv (i + 1) b') s₃ →
            UnrEndW h₀ env.locals { s with heap := h, toks := tk } [(I + 1, o1), (I, o2)] (fun m' n' => SubL [(l, lo)] n' ∧ ItemsRest prog w A E h₀ env (.Tuple elts k pos) body Q s [(I + 1, "enumerate"), (I, "list_iterator")] [(l, lo)] (enumItems (i + 1) r) m' n') s₃ := by
          rintro ⟨h', tk', m', n', e, F', N', off, b', hf', hn', hI'⟩
          exact ⟨h', tk', m', n', e, F', N', off, ⟨hn'.mem _ (hk b'), trivial⟩, ih (i + 1) m' n' b' hr' hlt hf' hn'.mem hI'⟩
        cases f with
        | ret v => exact h₃
        | brk => exact h₃
        | next => exact fin h₃
        | cont => exact fin h₃
  exact key vs 0 m₀ news a rfl (Nat.zero_le _) hf hn h0
theorem list_state {σ : Type} {l : Addr} {lo : Obj} {vs : List Value} {n : Nat} {m₀ : Str → Option Value} {news : List (Addr × Obj)}
    (fm : σ → Str → Option Value) (ns : σ → List (Addr × Obj)) (Inv : Nat → σ → Prop) (a : σ)
    (hh : A.handled = none) (F : Fr h₀ env.locals s.heap m₀) (N : News h₀ env.locals s.heap news) (hm : (l, lo) ∈ news) (hc : lo.cls = .type "list") (hd : lo.data = .seq vs.toArray n)
    (hf : ∀ y, m₀ y = fm a y) (hn : ∀ p ∈ ns a, p ∈ news) (hk : ∀ b, (l, lo) ∈ ns b) (h0 : Inv 0 a)
    (turn : ∀ i v b I o2 h tk, vs[i]? = some v → Inv i b → (∀ p ∈ news, p.1 < I) → o2.cls = .type "list_iterator" → Fr h₀ env.locals h (fm b) → News h₀ env.locals h ((I, o2) :: ns b) →
      wpAny (model prog w) A (assign target env v) (fun _ s₂ => wpAny (model prog w) A (execs body env)
        (UnrPostW h₀ env.locals { s with heap := h, toks := tk } [(I, o2)] (fun m' n' => ∃ b', (∀ y, m' y = fm b' y) ∧ SubL (ns b') n' ∧ Inv (i + 1) b') Q) E s₂) E { s with heap := h, toks := tk })
    (fin : ∀ b h tk, Inv vs.length b → Fr h₀ env.locals h (fm b) → News h₀ env.locals h (ns b) → Q .next { s with heap := h, toks := tk }) :
    wpAny (model prog w) A (pyIter (.ref l)) (fun it s₂ => TurnsAt prog w A h₀ env target body Q E it s₂) E s := by
  refine iter_listTurns hh F N hm hc hd fun I hI => ?_
  have key : ∀ (r : List Value) (i : Nat) (m : Str → Option Value) (nw : List (Addr × Obj)) (b : σ), vs.drop i = r → i ≤ vs.length → (∀ y, m y = fm b y) → (∀ p ∈ ns b, p ∈ nw) → Inv i b →
      ItemsRest prog w A E h₀ env target body Q s [(I, "list_iterator")] [(l, lo)] (r.map .val) m nw := by
    intro r
    induction r with
    | nil =>
      intro i m nw b hr hi hf hn hi'
      have : i = vs.length := by
        have := List.drop_eq_nil_iff.mp hr
        omega
      subst this
      exact ItemsRest.zero fun h tk F N => fin b h tk hi' (fr_ext hf F) fun p hp => N p (hn p hp)
    | cons v r ih =>
      intro i m nw b hr hi hf hn hi'
      have hv : vs[i]? = some v := by
        have := congrArg List.head? hr
        simpa [List.head?_drop] using this
      have hlt : i < vs.length := by
        rcases Nat.lt_or_ge i vs.length with h | h
        · exact h
        · rw [List.drop_of_length_le h] at hr; cases hr
      have hr' : vs.drop (i + 1) = r := by
        have := congrArg List.tail hr
        simpa [List.tail_drop] using this
      refine ItemsRest.val fun h tk F => ?_
      intro o2 h2 N
      have hl : (l, lo) ∈ nw := hn _ (hk b)
      refine wpAny_mono (turn i v b I o2 h tk hv hi' hI h2 (fr_ext hf F) fun p hp => N p ?_) (fun _ s₂ h₂ => wpAny_mono h₂ (fun f s₃ h₃ => ?_) fun _ _ e => e) fun _ _ e => e
      · rcases List.mem_cons.mp hp with e | hp
        · rw [e]; exact List.mem_cons_self
        · exact List.mem_cons_of_mem _ (hn p hp)
      · have fin : UnrEndW h₀ env.locals { s with heap := h, toks := tk } [(I, o2)] (fun m' n' => ∃ b', (∀ y, m' y = fm b' y) ∧ SubL (ns b') n' ∧ Inv (i + 1) b') s₃ →
            UnrEndW h₀ env.locals { s with heap := h, toks := tk } [(I, o2)] (fun m' n' => SubL [(l, lo)] n' ∧ ItemsRest prog w A E h₀ env target body Q s [(I, "list_iterator")] [(l, lo)] (r.map .val) m' n') s₃ := by
          rintro ⟨h', tk', m', n', e, F', N', off, b', hf', hn', hI'⟩
          exact ⟨h', tk', m', n', e, F', N', off, ⟨hn'.mem _ (hk b'), trivial⟩, ih (i + 1) m' n' b' hr' hlt hf' hn'.mem hI'⟩
        cases f with
        | ret v => exact h₃
        | brk => exact h₃
        | next => exact fin h₃
        | cont => exact fin h₃
  exact key vs 0 m₀ news a rfl (Nat.zero_le _) hf hn h0
end
-- P1
theorem str_ext {a b : Str} (h : a.cps.toList = b.cps.toList) : a = b := by
  cases a; cases b
  simp only [Str.mk.injEq] at *
  exact Array.toList_inj.mp h
theorem ltL_asymm {a b : List Nat} (h : a < b) : ¬ b < a := List.lt_asymm h
theorem ltL_tri {a b : List Nat} (h : ¬ a < b) (h' : ¬ b < a) : a = b := by
  have h1 : b ≤ a := List.not_lt.mp h
  have h2 : a ≤ b := List.not_lt.mp h'
  exact List.le_antisymm h2 h1
theorem lexLt_irrefl : ∀ a : List Str, lexLt a a = false
  | [] => rfl
  | x :: r => by simp [lexLt, lexLt_irrefl r]
theorem lexLt_asymm : ∀ a b : List Str, lexLt a b = true → lexLt b a = false
  | [], [], h => by simp [lexLt] at h
  | [], _ :: _, _ => rfl
  | _ :: _, [], h => by simp [lexLt] at h
  | x :: l, y :: r, h => by
    by_cases e : x = y
    · subst e
      simp only [lexLt, if_true] at h ⊢
      exact lexLt_asymm l r h
    · simp only [lexLt, e, Ne.symm e, if_false, decide_eq_true_eq, decide_eq_false_iff_not] at h ⊢
      exact ltL_asymm h
theorem lexLt_tri : ∀ a b : List Str, lexLt a b = false → lexLt b a = false → a = b
  | [], [], _, _ => rfl
  | [], _ :: _, h, _ => by simp [lexLt] at h
  | _ :: _, [], _, h => by simp [lexLt] at h
  | x :: l, y :: r, h, h' => by
    by_cases e : x = y
    · subst e
      simp only [lexLt, if_true] at h h'
      rw [lexLt_tri l r h h']
    · simp only [lexLt, e, Ne.symm e, if_false, decide_eq_false_iff_not] at h h'
      exact absurd (str_ext (ltL_tri h h')) e
def lcp : List Str → List Str → List Str
  | a :: l, b :: r => if a = b then a :: lcp l r else []
  | _, _ => []
theorem lcp_comm : ∀ a b : List Str, lcp a b = lcp b a
  | [], [] => rfl
  | [], _ :: _ => rfl
  | _ :: _, [] => rfl
  | x :: l, y :: r => by
    by_cases e : x = y
    · subst e; simp [lcp, lcp_comm l r]
    · simp [lcp, e, Ne.symm e]
theorem lcp_self : ∀ a : List Str, lcp a a = a
  | [] => rfl
  | x :: l => by simp [lcp, lcp_self l]
theorem lexLt_pos : ∀ (i : Nat) (a b : List Str), lexLt b a = false → a.take i = b.take i → i < a.length → i < b.length
  | _, _ :: _, [], h, _, _ => by simp [lexLt] at h
  | _, [], _, _, _, h => by simp at h
  | 0, _ :: _, _ :: _, _, _, _ => by simp
  | i + 1, x :: l, y :: r, h, e, hi => by
    simp only [List.take_succ_cons, List.cons.injEq] at e
    obtain ⟨rfl, e⟩ := e
    simp only [lexLt, if_true] at h
    have := lexLt_pos i l r h e (by simpa using hi)
    simpa using this
theorem lcp_cut : ∀ (i : Nat) (a b : List Str), a.take i = b.take i → i < a.length → (∀ x y, a[i]? = some x → b[i]? = some y → x ≠ y) → lcp a b = a.take i
  | _, [], _, _, h, _ => by simp at h
  | 0, x :: l, [], _, _, _ => by simp [lcp]
  | 0, x :: l, y :: r, _, _, h => by
    have := h x y rfl rfl
    simp [lcp, this]
  | i + 1, x :: l, [], e, _, _ => by simp at e
  | i + 1, x :: l, y :: r, e, hi, h => by
    simp only [List.take_succ_cons, List.cons.injEq] at e
    obtain ⟨rfl, e⟩ := e
    have := lcp_cut i l r e (by simpa using hi) (fun u v hu hv => h u v (by simpa using hu) (by simpa using hv))
    simp [lcp, this]
theorem lcp_whole : ∀ (a b : List Str), a.take a.length = b.take a.length → lcp a b = a
  | [], b, _ => by cases b <;> rfl
  | x :: l, [], e => by simp at e
  | x :: l, y :: r, e => by
    simp only [List.length_cons, List.take_succ_cons, List.cons.injEq] at e
    obtain ⟨rfl, e⟩ := e
    simp [lcp, lcp_whole l r e]
theorem take_more {a b : List Str} {i : Nat} {x : Str} (e : a.take i = b.take i) (ha : a[i]? = some x) (hb : b[i]? = some x) : a.take (i + 1) = b.take (i + 1) := by
  rw [List.take_add_one, List.take_add_one, e, ha, hb]
theorem mm_facts {la lb c1 c2 : List (Str × Tok)} (h1 : c1 = if lexLt (lb.map (·.1)) (la.map (·.1)) then lb else la) (h2 : c2 = if lexLt (la.map (·.1)) (lb.map (·.1)) then lb else la) :
    lexLt (c2.map (·.1)) (c1.map (·.1)) = false ∧ lcp (c1.map (·.1)) (c2.map (·.1)) = lcp (la.map (·.1)) (lb.map (·.1)) ∧ (c1 = la ∨ c1 = lb) ∧ (c2 = la ∨ c2 = lb) := by
  cases e1 : lexLt (lb.map (·.1)) (la.map (·.1)) with
  | true =>
    have e2 := lexLt_asymm _ _ e1
    rw [e1] at h1; rw [e2] at h2
    simp only [if_true, Bool.false_eq_true, if_false] at h1 h2
    subst h1 h2
    exact ⟨e2, lcp_comm _ _, .inr rfl, .inl rfl⟩
  | false =>
    rw [e1] at h1
    simp only [Bool.false_eq_true, if_false] at h1
    subst h1
    cases e2 : lexLt (c1.map (·.1)) (lb.map (·.1)) with
    | true =>
      rw [e2] at h2
      simp only [if_true] at h2
      subst h2
      exact ⟨e1, rfl, .inl rfl, .inr rfl⟩
    | false =>
      rw [e2] at h2
      simp only [Bool.false_eq_true, if_false] at h2
      subst h2
      exact ⟨lexLt_irrefl _, by rw [lexLt_tri _ _ e2 e1], .inl rfl, .inl rfl⟩
-- L2
abbrev fr2 (xi xc : Str) (m₀ : Str → Option Value) (b : Option Value × Option Value) : Str → Option Value := fun y => if y = xc then b.2 else if y = xi then b.1 else m₀ y
section
variable {prog : Program} {w : World} {A : Around} {E : Value → Shared → Prop} {s : Shared} {env : Env} {h₀ : Heap} {target : Expr} {body : List Stmt} {Q : Flow → Shared → Prop}
theorem enum_quiet {elts : List Expr} {k : Nat} {pos : Pos} {l : Addr} {lo : Obj} {vs : List Value} {n : Nat} {m₀ : Str → Option Value} {news : List (Addr × Obj)} (xi xc : Str) (Inv : Nat → Prop)
    (hh : A.handled = none) (F : Fr h₀ env.locals s.heap m₀) (N : News h₀ env.locals s.heap news) (hm : (l, lo) ∈ news) (hc : lo.cls = .type "list") (hd : lo.data = .seq vs.toArray n) (h0 : Inv 0)
    (turn : ∀ i v iv cv T t I o1 o2 h tk, vs[i]? = some v → Inv i → (∀ p ∈ news, p.1 < I) → IsTup h T #[.int (i : Int) t, v] → o1.cls = .type "enumerate" → o2.cls = .type "list_iterator" → Fr h₀ env.locals h (fun y => if y = xc then cv else if y = xi then iv else m₀ y) → News h₀ env.locals h ((I + 1, o1) :: (I, o2) :: news) →
      wpAny (model prog w) A (assign (.Tuple elts k pos) env (.ref T)) (fun _ s₂ => wpAny (model prog w) A (execs body env)
        (UnrPostW h₀ env.locals { s with heap := h, toks := tk } [(I + 1, o1), (I, o2)] (fun m' n' => (∃ b, ∀ y, m' y = fr2 xi xc m₀ b y) ∧ SubL news n' ∧ Inv (i + 1)) Q) E s₂) E { s with heap := h, toks := tk })
    (fin : ∀ iv cv h tk, Inv vs.length → Fr h₀ env.locals h (fun y => if y = xc then cv else if y = xi then iv else m₀ y) → News h₀ env.locals h news → Q .next { s with heap := h, toks := tk }) :
    wpAny (model prog w) A (call (.type "enumerate") [.ref l]) (fun xv s₁ => wpAny (model prog w) A (pyIter xv) (fun it s₂ => TurnsAt prog w A h₀ env (.Tuple elts k pos) body Q E it s₂) E s₁) E s := by
  refine enum_state (fr2 xi xc m₀) (fun _ => news) (fun i _ => Inv i) (m₀ xi, m₀ xc) hh F N hm hc hd ?_ (fun p hp => hp) (fun _ => hm) h0 ?_ ?_
  · intro y
    by_cases h1 : y = xc
    · subst h1; simp [fr2]
    · by_cases h2 : y = xi
      · subst h2; simp [fr2, h1]
      · simp [fr2, h1, h2]
  · intro i v b T t I o1 o2 h tk hv hi hI hT h1 h2 F N
    refine wpAny_mono (turn i v b.1 b.2 T t I o1 o2 h tk hv hi hI hT h1 h2 F N) (fun _ s₂ h₂ => wpAny_mono h₂ (fun f s₃ h₃ => ?_) fun _ _ e => e) fun _ _ e => e
    have fin : UnrEndW h₀ env.locals { s with heap := h, toks := tk } [(I + 1, o1), (I, o2)] (fun m' n' => (∃ b, ∀ y, m' y = fr2 xi xc m₀ b y) ∧ SubL news n' ∧ Inv (i + 1)) s₃ →
        UnrEndW h₀ env.locals { s with heap := h, toks := tk } [(I + 1, o1), (I, o2)] (fun m' n' => ∃ b', (∀ y, m' y = fr2 xi xc m₀ b' y) ∧ SubL news n' ∧ Inv (i + 1)) s₃ := by
      rintro ⟨h', tk', m', n', e, F', N', off, ⟨b', hb⟩, hs, hi⟩
      exact ⟨h', tk', m', n', e, F', N', off, b', hb, hs, hi⟩
    cases f with
    | ret v => exact h₃
    | brk => exact h₃
    | next => exact fin h₃
    | cont => exact fin h₃
  · intro b h tk hi F N
    exact fin b.1 b.2 h tk hi F N
end
theorem quietEnd {xi xc : Str} {m₀ : Str → Option Value} {iv cv iv' cv' : Option Value} {P : Prop} (h : P) :
    (∃ b, ∀ y, (fun y => if y = xc then cv' else if y = xi then iv' else if y = xc then cv else if y = xi then iv else m₀ y) y = fr2 xi xc m₀ b y) ∧ P := by
  refine ⟨⟨(iv', cv'), fun y => ?_⟩, h⟩
  by_cases h1 : y = xc
  · simp [fr2, h1]
  · by_cases h2 : y = xi
    · simp [fr2, h1, h2]
    · simp [fr2, h1, h2]
-- L3
abbrev slash0 : Str := Str.ofString "/"
def parts (x : Str) : List Str := (Txt.split x (Str.ofString "/")).filter keepS
def commonF (b : Bool) (x y : Str) : Str := (if b then Str.ofString "/" else Str.ofString "") ++ Txt.join (Str.ofString "/") (lcp (parts x) (parts y))
theorem svGet {c : List (Str × Tok)} {i : Nat} {v : Value} (h : (strValues c)[i]? = some v) : ∃ sv tv, v = .str sv tv ∧ c[i]? = some (sv, tv) := by
  rw [strValues, List.getElem?_map] at h
  cases e : c[i]? with
  | none => rw [e] at h; cases h
  | some p => rw [e] at h; exact ⟨p.1, p.2, (Option.some.inj h).symm, rfl⟩
theorem strsAre_sv : ∀ c : List (Str × Tok), StrsAre (strValues c) (c.map (·.1))
  | [] => .nil
  | p :: r => .cons p.1 p.2 (strsAre_sv r)
theorem sum_le {n : Nat} : ∀ (l : List Str), (∀ a ∈ l, a.length ≤ n) → (l.map (·.length)).sum ≤ l.length * n
  | [], _ => by simp
  | a :: r, h => by
    have h1 := h a List.mem_cons_self
    have h2 := sum_le r fun b hb => h b (List.mem_cons_of_mem _ hb)
    simp only [List.map_cons, List.sum_cons, List.length_cons, Nat.succ_mul]
    omega
theorem join_len (sep : Str) (l : List Str) : (Txt.join sep l).length ≤ (l.map (·.length)).sum + l.length * sep.length := by
  show (Builtin.Str.glued sep l).length ≤ _
  rw [size_glued]
  exact Nat.add_le_add_left (Nat.mul_le_mul_right _ (Nat.sub_le _ _)) _
structure Light (c : List Str) : Prop where
  weight : (c.map (·.length)).sum + c.length ≤ 1048576
theorem Light.of {c : List Str} (h : ∀ a ∈ c, a.length ≤ 1000) (hl : c.length ≤ 1002) : Light c := by
  have := sum_le c h
  have h2 : c.length * 1000 ≤ 1002 * 1000 := Nat.mul_le_mul_right _ hl
  exact ⟨by omega⟩
theorem Light.join {c : List Str} (h : Light c) : (Txt.join (Str.ofString "/") c).length ≤ 1048576 := by
  have h1 := join_len (Str.ofString "/") c
  have h2 : (Str.ofString "/").length = 1 := by decide
  rw [h2] at h1
  have := h.weight
  omega
theorem light_parts {l ls : List (Str × Tok)} {x y : Str} (h : l.map (·.1) = Txt.split x y) (hb : ∀ a, a ∈ l.map (fun x => x.fst) → a.length ≤ x.length) (hx : x.length ≤ 1000) (hs : ls.map (fun x => x.fst) = (Txt.split x y).filter keepS) :
    (∀ a ∈ ls.map (fun x => x.fst), a.length ≤ 1000) ∧ ls.length ≤ 1002 := by
  have := len_le_of_split h
  constructor
  · intro a ha
    rw [hs] at ha
    have := (List.mem_filter.mp ha).1
    rw [← h] at this
    exact Nat.le_trans (hb a this) hx
  · have e : ls.length = ((Txt.split x y).filter keepS).length := by rw [← hs, List.length_map]
    have h2 := List.length_filter_le keepS (Txt.split x y)
    have h3 : l.length = (Txt.split x y).length := by rw [← h, List.length_map]
    omega
theorem slice_upto (vs : List Value) (i : Nat) : slicePick vs.toArray none (some (i : Int)) none = (vs.take i).toArray := by
  have e : sliceBounds none (some (i : Int)) none vs.toArray.size = (((0 : Nat) : Int), ((min i vs.toArray.size : Nat) : Int), 1) := by
    simp only [sliceBounds, Option.getD_none, show (1 : Int) > 0 by decide, if_true, if_neg (show ¬ ((i : Int) < 0) by omega)]
    congr 1
    congr 1
    omega
  rw [kmk_pick_nat _ e]
  congr 1
  show (vs.drop 0).take (min i vs.toArray.size - 0) = _
  rw [List.drop_zero, Nat.sub_zero, List.size_toArray, kmk_take_min]
section
variable {prog : Program} {w : World} {A : Around} {E : Value → Shared → Prop} {s : Shared} {h₀ : Heap} {L : Addr} {m : Str → Option Value} {news : List (Addr × Obj)}
theorem slice_take_N {value slice : PySem.Expr} {l : Addr} {c : List (Str × Tok)} {n i : Nat} {t : Tok} {Q : Value → Shared → Prop} (F : Fr h₀ L s.heap m) (N : News h₀ L s.heap news) (hm : (l, ({ cls := .type "list", data := .seq (strValues c).toArray n } : Obj)) ∈ news) (hz : c.length ≤ 1002)
    (h : ∀ D h', Fr h₀ L h' m → News h₀ L h' ((D, { cls := .type "list", data := .seq (strValues (c.take i)).toArray 0 }) :: news) → (∀ p ∈ news, p.1 < D) → Q (.ref D) { s with heap := h' })
    (hs : subscripted slice false (.ref l) (.ref s.heap.objs.size) = operate [.ref s.heap.objs.size, .ref l] (getItem (.ref l) (.ref s.heap.objs.size))) (ht : ∀ r, letTemporaryGo value (.ref l) r = pure ()) :
    wpAny (model prog w) A (subscriptTail value slice (.ref l) (.ref s.heap.objs.size)) Q E { s with heap := s.heap.push { cls := .type "slice", data := .fields #[.none, .int (i : Int) t, .none] } } := by
  refine kmk_slice (lo := none) (hi := some (i : Int)) F N ⟨_, (N _ hm).1, rfl, _, rfl⟩ .none (.int _ _) (fun D h' F' N' l1 => h D h' F' ?_ l1) hs ht (by rw [List.size_toArray, strValues, List.length_map, sizeLine_eq]; omega)
  rw [slice_upto] at N'
  have e : (strValues c).take i = strValues (c.take i) := by rw [strValues, strValues, List.map_take]
  rw [e] at N'
  exact N'
theorem join_sv {D : Addr} {x : Str} {t : Tok} {c : List (Str × Tok)} {n : Nat} {Q : Value → Shared → Prop} (N : News h₀ L s.heap news) (hm : (D, ({ cls := .type "list", data := .seq (strValues c).toArray n } : Obj)) ∈ news) (hx : x.length ≤ 16) (hw : Light (c.map (·.1)))
    (h : ∀ t' k, Q (.str (Txt.join x (c.map (·.1))) t') { s with toks := k }) : wpAny (model prog w) A (call (.builtin "str.join") [.str x t, .ref D]) Q E s :=
  join_listW ⟨_, (N _ hm).1, rfl, _, rfl⟩ (by simpa using strsAre_sv c) hx hw.weight h
theorem item_sv {value slice : PySem.Expr} {r : Addr} {c : List (Str × Tok)} {n i : Nat} {u : Tok} {Q : Value → Shared → Prop} (N : News h₀ L s.heap news) (hm : (r, ({ cls := .type "list", data := .seq (strValues c).toArray n } : Obj)) ∈ news) (hi : i < c.length) (hc : c.length ≤ 1002)
    (h : ∀ y t', (c.map (·.1))[i]? = some y → Q (.str y t') s)
    (hs : subscripted slice false (.ref r) (.int (i : Int) u) = operate [.ref r, .int (i : Int) u] (getItem (.ref r) (.int (i : Int) u))) (hg : ∀ v, letTemporaryGo value (.ref r) v = pure ()) :
    wpAny (model prog w) A (subscriptTail value slice (.ref r) (.int (i : Int) u)) Q E s :=
  item_strs (l := c) ⟨_, (N _ hm).1, rfl, _, rfl⟩ (by omega) (by omega) (by omega) (fun y t' hy => h y t' (by simpa using hy)) hs hg
theorem add_strB {x y : Str} {t u : Tok} {Q : Value → Shared → Prop} (hx : x.length ≤ 16) (hy : y.length ≤ 1048576) (h : ∀ t' tk, Q (.str (x ++ y) t') { s with toks := tk }) : wpAny (model prog w) A (binaryOp .Add (.str x t) (.str y u)) Q E s :=
  PyProof.Rows.add_str h (by rw [sizeLine_eq]; omega)
end
section
variable {prog : Program} {w : World} {A : Around} {E : Value → Shared → Prop} {s : Shared} {env : Env} {h₀ : Heap} {body : List Stmt} {Q : Flow → Shared → Prop}
theorem enum_cp {elts : List Expr} {k : Nat} {pos : Pos} {l : Addr} {n : Nat} {c1 c2 : List (Str × Tok)} {m₀ : Str → Option Value} {news : List (Addr × Obj)} (xi xc : Str) (m1 : lexLt (c2.map (·.1)) (c1.map (·.1)) = false)
    (hh : A.handled = none) (F : Fr h₀ env.locals s.heap m₀) (N : News h₀ env.locals s.heap news) (hm : (l, ({ cls := .type "list", data := .seq (strValues c1).toArray n } : Obj)) ∈ news)
    (turn : ∀ i sv tv iv cv T t I o1 o2 h tk, c1[i]? = some (sv, tv) → (c1.map (·.1)).take i = (c2.map (·.1)).take i → i < c2.length → (∀ p ∈ news, p.1 < I) → IsTup h T #[.int (i : Int) t, .str sv tv] → o1.cls = .type "enumerate" → o2.cls = .type "list_iterator" → Fr h₀ env.locals h (fun y => if y = xc then cv else if y = xi then iv else m₀ y) → News h₀ env.locals h ((I + 1, o1) :: (I, o2) :: news) →
      wpAny (model prog w) A (assign (.Tuple elts k pos) env (.ref T)) (fun _ s₂ => wpAny (model prog w) A (execs body env)
        (UnrPostW h₀ env.locals { s with heap := h, toks := tk } [(I + 1, o1), (I, o2)] (fun m' n' => (∃ b, ∀ y, m' y = fr2 xi xc m₀ b y) ∧ SubL news n' ∧ (c1.map (·.1)).take (i + 1) = (c2.map (·.1)).take (i + 1)) Q) E s₂) E { s with heap := h, toks := tk })
    (fin : ∀ iv cv h tk, lcp (c1.map (·.1)) (c2.map (·.1)) = c1.map (·.1) → Fr h₀ env.locals h (fun y => if y = xc then cv else if y = xi then iv else m₀ y) → News h₀ env.locals h news → Q .next { s with heap := h, toks := tk }) :
    wpAny (model prog w) A (call (.type "enumerate") [.ref l]) (fun xv s₁ => wpAny (model prog w) A (pyIter xv) (fun it s₂ => TurnsAt prog w A h₀ env (.Tuple elts k pos) body Q E it s₂) E s₁) E s := by
  refine enum_quiet xi xc (fun i => (c1.map (·.1)).take i = (c2.map (·.1)).take i) hh F N hm rfl rfl (by simp) ?_ ?_
  · intro i v iv cv T t I o1 o2 h tk hv hi hI hT h1 h2 F N
    obtain ⟨sv, tv, rfl, hc⟩ := svGet hv
    have hlt : i < c1.length := by
      rcases Nat.lt_or_ge i c1.length with h | h
      · exact h
      · rw [List.getElem?_eq_none h] at hc; cases hc
    have := lexLt_pos i _ _ m1 hi (by simpa using hlt)
    exact turn i sv tv iv cv T t I o1 o2 h tk hc hi (by simpa using this) hI hT h1 h2 F N
  · intro iv cv h tk hi F N
    refine fin iv cv h tk (lcp_whole _ _ ?_) F N
    have e : (strValues c1).length = (c1.map (·.1)).length := by rw [strValues, List.length_map, List.length_map]
    rw [← e]; exact hi
end
theorem cp_same {c1 c2 : List (Str × Tok)} {i : Nat} {sv y : Str} {tv : Tok} (h1 : c1[i]? = some (sv, tv)) (h2 : (c2.map (·.1))[i]? = some y) (he : (c1.map (·.1)).take i = (c2.map (·.1)).take i) (hs : (sv != y) = false) : (c1.map (·.1)).take (i + 1) = (c2.map (·.1)).take (i + 1) := by
  have : sv = y := by simpa using hs
  subst this
  exact take_more he (by simp [h1]) h2
theorem cp_diff {c1 c2 : List (Str × Tok)} {i : Nat} {sv y : Str} {tv : Tok} (h1 : c1[i]? = some (sv, tv)) (h2 : (c2.map (·.1))[i]? = some y) (he : (c1.map (·.1)).take i = (c2.map (·.1)).take i) (hs : (sv != y) = true) : (c1.take i).map (·.1) = lcp (c1.map (·.1)) (c2.map (·.1)) := by
  have hne : sv ≠ y := by simpa using hs
  have hlt : i < c1.length := by
    rcases Nat.lt_or_ge i c1.length with h | h
    · exact h
    · rw [List.getElem?_eq_none h] at h1; cases h1
  rw [lcp_cut i _ _ he (by simpa using hlt), List.map_take]
  intro a b ha hb
  rw [h2] at hb
  rw [List.getElem?_map, h1] at ha
  cases hb; cases ha
  exact hne
theorem Light.take {c : List (Str × Tok)} (i : Nat) (h : (∀ a ∈ c.map (fun x => x.fst), a.length ≤ 1000) ∧ c.length ≤ 1002) : Light ((c.take i).map (·.1)) := by
  refine Light.of (fun a ha => h.1 a ?_) (by rw [List.length_map, List.length_take]; omega)
  rw [List.map_take] at ha
  exact List.mem_of_mem_take ha
-- L4
abbrev LB (c : List (Str × Tok)) : Prop := (∀ a ∈ c.map (fun x => x.fst), a.length ≤ 1000) ∧ c.length ≤ 1002
theorem cp_facts {l1 l2 ls1 ls2 c1 c2 : List (Str × Tok)} {x y : Str} (f1 : c1 = if lexLt (ls2.map (fun x => x.fst)) (ls1.map (fun x => x.fst)) = true then ls2 else ls1) (f2 : c2 = if lexLt (ls1.map (fun x => x.fst)) (ls2.map (fun x => x.fst)) = true then ls2 else ls1)
    (a3 : ls1.map (fun x => x.fst) = (Txt.split x (Str.ofString "/")).filter keepS) (b3 : ls2.map (fun x => x.fst) = (Txt.split y (Str.ofString "/")).filter keepS)
    (a1 : l1.map (fun x => x.fst) = Txt.split x (Str.ofString "/")) (b1 : l2.map (fun x => x.fst) = Txt.split y (Str.ofString "/"))
    (a2 : ∀ a, a ∈ l1.map (fun x => x.fst) → a.length ≤ x.length) (b2 : ∀ a, a ∈ l2.map (fun x => x.fst) → a.length ≤ y.length) (hx : x.length ≤ 1000) (hy : y.length ≤ 1000) :
    lexLt (c2.map (fun x => x.fst)) (c1.map (fun x => x.fst)) = false ∧ lcp (c1.map (fun x => x.fst)) (c2.map (fun x => x.fst)) = lcp (parts x) (parts y) ∧ LB c1 ∧ LB c2 := by
  obtain ⟨m1, m2, m3, m4⟩ := mm_facts f1 f2
  have g1 := light_parts a1 a2 hx a3
  have g2 := light_parts b1 b2 hy b3
  refine ⟨m1, ?_, ?_, ?_⟩
  · rw [m2, a3, b3]; rfl
  · rcases m3 with rfl | rfl
    · exact g1
    · exact g2
  · rcases m4 with rfl | rfl
    · exact g1
    · exact g2
theorem Light.all {c : List (Str × Tok)} (h : LB c) : Light (c.map (·.1)) := Light.of h.1 (by rw [List.length_map]; exact h.2)
theorem cp_end_t {b : Bool} {x y : Str} {c : List Str} (hb : b = true) (e : c = lcp (parts x) (parts y)) : commonF b x y = Str.ofString "/" ++ Txt.join (Str.ofString "/") c := by
  unfold commonF; rw [if_pos hb, e]
theorem cp_end_f {b : Bool} {x y : Str} {c : List Str} (hb : b = false) (e : c = lcp (parts x) (parts y)) : commonF b x y = Str.ofString "" ++ Txt.join (Str.ofString "/") c := by
  unfold commonF; rw [if_neg (by simp [hb]), e]
theorem LB.le {c : List (Str × Tok)} (h : LB c) : c.length ≤ 1002 := h.2
theorem UnrEnd2 {h₀ : Heap} {L I : Addr} {o1 o2 : Obj} {news : List (Addr × Obj)} {s₁ : Shared} {h' : Heap} {tk : Nat} {m' : Str → Option Value} {rest : (Str → Option Value) → List (Addr × Obj) → Prop} (F : Fr h₀ L h' m') (N : News h₀ L h' ((I + 1, o1) :: (I, o2) :: news)) (lt : ∀ p ∈ news, p.1 < I) (r : rest m' news) :
    UnrEndW h₀ L s₁ [(I + 1, o1), (I, o2)] rest { s₁ with heap := h', toks := tk } :=
  ⟨h', tk, m', news, rfl, F, N, fun p hp q hq => by
    rcases List.mem_cons.mp hq with rfl | hq
    · exact Nat.ne_of_lt (Nat.lt_succ_of_lt (lt p hp))
    · rw [List.mem_singleton.mp hq]; exact Nat.ne_of_lt (lt p hp), r⟩
theorem UnrEnd1 {h₀ : Heap} {L I : Addr} {o2 : Obj} {news : List (Addr × Obj)} {s₁ : Shared} {h' : Heap} {tk : Nat} {m' : Str → Option Value} {rest : (Str → Option Value) → List (Addr × Obj) → Prop} (F : Fr h₀ L h' m') (N : News h₀ L h' ((I, o2) :: news)) (lt : ∀ p ∈ news, p.1 < I) (r : rest m' news) :
    UnrEndW h₀ L s₁ [(I, o2)] rest { s₁ with heap := h', toks := tk } :=
  ⟨h', tk, m', news, rfl, F, N, fun p hp q hq => by
    rw [List.mem_singleton.mp hq]; exact Nat.ne_of_lt (lt p hp), r⟩
local macro_rules | `(tactic| walk_at "subscriptTail Name Name ref int") => `(tactic| (k_here; refine item_sv (by k_asm) (by k_mem) (by assumption) (by exact LB.le (by assumption)) ?_ (by with_unfolding_all rfl) (by (intro _; with_unfolding_all rfl)); (intro y9 t9 hy9; (try dsimp only))))
local macro_rules | `(tactic| walk_at "subscriptTail Name Slice ref ref") => `(tactic| (k_here; refine slice_take_N (s := ⟨_, _, _, _, _⟩) (by k_asm) (by k_asm) (by k_mem) (by exact LB.le (by assumption)) ?_ (by with_unfolding_all rfl) (by (intro _; with_unfolding_all rfl)); (intro D9 h9 F9 N9 l9; (try k_lt l9); (try dsimp only))))
local macro_rules | `(tactic| walk_at "call builtin:str.join") => `(tactic| (k_here; refine join_sv (by k_asm) (by k_mem) (by decide) (by first | exact Light.take _ (by assumption) | exact Light.all (by assumption)) ?_; (intro t9 k9; (try dsimp only))))
local macro_rules | `(tactic| walk_at "binaryOp Add str str") => `(tactic| (k_here; refine add_strB (by decide) (by first | exact Light.join (Light.take _ (by assumption)) | exact Light.join (Light.all (by assumption))) ?_; (intro t9 k9; (try dsimp only))))
-- G2
local macro_rules | `(tactic| walk_at "exec For Tuple Call cons nil") => `(tactic| (k_here; (rename Fr _ _ _ _ => lF'); (with_unfolding_all refine' For_turns lF' ?_; k_whole)))
section
open LCg LCt
theorem fill4 : PySem.Challenge.rw_un0028_01 = PySem.Challenge.rw_un0028_01 ∧ pk.heap_1 = pk.heap_1 := by
  k_fill
  exact ⟨rfl, rfl⟩
set_option maxHeartbeats 4000000 in
theorem commonpath_ok {w : World} {p loose mean mg mb} {dp un : Nat} {fr : Option (List Env)} {gd : Option (List Code)} {s : Shared} {x y : Str} {t t' : Tok} {q : Addr} {b : Bool} {Q E : Value → Shared → Prop}
    (X : (pk.heap_1 w.params).In s.heap) (T : Top p loose mean mg mb s.heap) (hd : dp ≤ 890) (hu : un ≤ 8900) (hx : x.length ≤ 1000) (hy : y.length ≤ 1000)
    (hb1 : Txt.startswith x slash = b) (hb2 : Txt.startswith y slash = b)
    (hl : s.heap.IsList q #[.str x t, .str y t'])
    (hQ : ∀ h' tk t, s.heap.StaysIn h' → Q (.str (commonF b x y) t) { s with heap := h', toks := tk }) :
    wpAny (model PySem.Challenge.rw_un0028_01.row.prog w) ⟨none, dp, fr, gd, un⟩ (call (.ref 156) [.ref q]) Q E s := by
  have hx4 : x.length ≤ 10000 := by omega
  have hy4 : y.length ≤ 10000 := by omega
  (refine enterC (by k_in) (by exact Top.nolimit (by assumption)) (by k_is) (by k_is) (by (first | omega | ((try simp only [depth_deeper, Around.in1_depth, Around.deeper, recursionLimit]); omega))) (by (first | exact BindsTo.of_eq rfl | exact binds_K (by k_in) rfl (by k_is) rfl rfl rfl)) (by exact rfl) (by decide +kernel) ?_ (by exact rfl) (by exact rfl) (by exact rfl); k_whole)
  intro L h₁ tk cells hL F N Y
  k_cells Y
  (try dsimp only)
  (with_reducible show wpAny _ _ _ _ _ _)
  k_fold
  walk_at "m_steps"
  ((with_reducible rename Fr _ _ _ _ => F8); (with_reducible rename News _ _ _ _ => N8); with_unfolding_all refine' tuple_map_F (s := ⟨_, _, _, _, _⟩) (l := ?ztml) F8 N8 ?ztm0 ?ztm1 ?ztm2 ?_; (case ztm0 => exact rfl); (case ztm1 => (first | assumption | is_list | exact stays_list (Fr.keep F8) (by assumption))); (case ztm2 => (intro x9 hx9 h9 tk9 st9 Q9 hQ9; (rcases hx9 with e9 | e9) <;> (subst e9; refine' fspath_ok ?ztn1 ?ztn2 ?ztn3 ?ztn4 hQ9; (case ztn1 => exact Frag.In.keeps (Frag.In.keeps (by assumption) (Fr.keep F8)) st9); (case ztn2 => exact Top.keeps (topAt (by assumption) F8) st9); (case ztn3 => walk_at "m_room"); (case ztn4 => walk_at "m_room")))); (clear F8 N8; intro D9 h9 tk9 F9 N9 l9; (try k_lt l9); (try dsimp only)))
  walk_at "m_steps"
  refine SrcS.tup2 b rfl (by k_asm) (by k_asm) (by k_mem) ?_ ?_ ?_
  · intro C oC m₂ h tk E' Q' hC hx F' N' q
    walk_at "m_steps"
    exact Eq.subst (motive := fun z => Q' (.bool z) _) hb1.symm (q _ _ fun _ _ e => e)
  · intro C oC m₂ h tk E' Q' hC hx F' N' q
    walk_at "m_steps"
    exact Eq.subst (motive := fun z => Q' (.bool z) _) hb2.symm (q _ _ fun _ _ e => e)
  intro D h tk ep F' N' o1
  (try k_sweep)
  walk_at "m_steps"
  (refine Src2T.filter keepC rfl (by k_asm) (by k_asm) (by k_mem) (svLe (by assumption) (by assumption)) ?_ ?_ ?_; (focus (intro v C oC m₂ h tk E' Q' hv hC hx F' N' q; (obtain ⟨c, tc, ev, hc⟩ := svMem hv (by assumption)); subst ev; walk_at "m_steps"; all_goals (refine Eq.subst (motive := fun z => Q' z _) ?_ (q _ _ fun _ _ e => e)); all_goals first | exact keepC_t (by omega) (by assumption) | exact keepC_f2 (by assumption) | exact keepC_f1 (by omega))); (focus (intro v C oC m₂ h tk E' Q' hv hC hx F' N' q; walk_at "m_steps"; exact q _ _ fun _ _ e => e)); (intro g ys hys Dn hn tkn Fn Nn on; (obtain ⟨ls, e9, hls⟩ := svFilter hys (by assumption)); subst e9; clear hys; refine CompEnd.inner Fn Nn on (by (simp only [LCg.Off3, and_true]; assumption)) (by lcg_src) ?_))
  walk_at "m_steps"
  (refine Src2T.filter keepC rfl (by k_asm) (by k_asm) (by k_mem) (svLe (by assumption) (by assumption)) ?_ ?_ ?_; (focus (intro v C oC m₂ h tk E' Q' hv hC hx F' N' q; (obtain ⟨c, tc, ev, hc⟩ := svMem hv (by assumption)); subst ev; walk_at "m_steps"; all_goals (refine Eq.subst (motive := fun z => Q' z _) ?_ (q _ _ fun _ _ e => e)); all_goals first | exact keepC_t (by omega) (by assumption) | exact keepC_f2 (by assumption) | exact keepC_f1 (by omega))); (focus (intro v C oC m₂ h tk E' Q' hv hC hx F' N' q; walk_at "m_steps"; exact q _ _ fun _ _ e => e)); (intro g ys hys Dn hn tkn Fn Nn on; (obtain ⟨ls, e9, hls⟩ := svFilter hys (by assumption)); subst e9; clear hys; refine CompEnd.inner Fn Nn on (by (simp only [LCg.Off3, and_true]; assumption)) (by lcg_src) ?_))
  walk_at "m_steps"
  obtain ⟨m1, m2, lb1, lb2⟩ := cp_facts (by assumption) (by assumption) (by assumption) (by assumption) (by assumption) (by assumption) (by assumption) (by assumption) hx hy
  refine' enum_cp (s := ⟨_, _, _, _, _⟩) (Str.ofString "i") (Str.ofString "c") m1 ?hh ?hF ?hN ?hm ?_ ?_
  case hh => exact rfl
  case hF => k_asm
  case hN => k_asm
  case hm => k_mem
  · intro i sv tv iv cv T t I o1 o2 h tk hc hi hlt hI hT h1 h2 F N
    have hI' := hI
    k_lt hI
    walk_at "m_steps"
    all_goals try walk_at "m_ends"
    · refine Eq.subst (motive := fun z => Q (.str z _) _) ?_ (hQ _ _ _ (Fr.keep (by assumption)))
      exact cp_end_t (by assumption) ((cp_diff hc (by assumption) hi (by assumption)).trans m2)
    · refine Eq.subst (motive := fun z => Q (.str z _) _) ?_ (hQ _ _ _ (Fr.keep (by assumption)))
      exact cp_end_f (by assumption) ((cp_diff hc (by assumption) hi (by assumption)).trans m2)
    · refine UnrEnd2 (by assumption) (by k_asm) hI' ?_
      exact quietEnd ⟨subL_of fun _ h => h, cp_same hc (by assumption) hi (by assumption)⟩
  · intro iv cv h tk hf F N
    walk_at "m_steps"
    all_goals try walk_at "m_ends"
    all_goals (refine Eq.subst (motive := fun z => Q (.str z _) _) ?_ (hQ _ _ _ (Fr.keep (by assumption))))
    · exact cp_end_t (by assumption) (hf.symm.trans m2)
    · exact cp_end_f (by assumption) (hf.symm.trans m2)
end
-- M1
def med3 (a b c : Int) : Int := max (min a b) (min (max a b) c)
theorem med3_swap (a b c : Int) : med3 a b c = med3 b a c := by unfold med3; rw [Int.min_comm, Int.max_comm a b]
theorem med3_mid {x y z : Int} (h1 : x ≤ y) (h2 : y ≤ z) : med3 x y z = y ∧ med3 y x z = y ∧ med3 x z y = y ∧ med3 z x y = y ∧ med3 y z x = y ∧ med3 z y x = y := by
  have h3 := Int.le_trans h1 h2
  have e1 : med3 x y z = y := by unfold med3; rw [Int.max_eq_right h1, Int.min_eq_left h1, Int.min_eq_left h2, Int.max_eq_right h1]
  have e2 : med3 x z y = y := by unfold med3; rw [Int.max_eq_right h3, Int.min_eq_left h3, Int.min_eq_right h2, Int.max_eq_right h1]
  have e3 : med3 y z x = y := by unfold med3; rw [Int.max_eq_right h2, Int.min_eq_left h2, Int.min_eq_right h3, Int.max_eq_left h1]
  exact ⟨e1, med3_swap x y z ▸ e1, e2, med3_swap x z y ▸ e2, e3, med3_swap y z x ▸ e3⟩
theorem two_perm {p q b c : Int} (h : [p, q].Perm [b, c]) : (b = p ∧ c = q) ∨ (b = q ∧ c = p) := by
  rcases List.mem_cons.mp (h.symm.subset (List.mem_cons_self (a := b) (l := [c]))) with rfl | hb
  · exact .inl ⟨rfl, List.mem_singleton.mp (((List.perm_cons _).mp h).symm.subset (List.mem_cons_self (a := c) (l := [])))⟩
  · have hb := List.mem_singleton.mp hb
    subst hb
    exact .inr ⟨rfl, List.mem_singleton.mp (((List.perm_cons _).mp ((List.Perm.swap _ _ _).trans h)).symm.subset (List.mem_cons_self (a := c) (l := [])))⟩
theorem med_of {l : List Int} {a b c : Int} (hp : l.Perm [a, b, c]) (ho : l.Pairwise (fun x y => x ≤ y)) : ∃ x z, l = [x, med3 a b c, z] := by
  have hl : l.length = 3 := by rw [hp.length_eq]; rfl
  match l, hl with
  | [x, y, z], _ =>
    obtain ⟨h1, h2, -⟩ := List.pairwise_cons.mp ho |>.imp_right fun h => List.pairwise_cons.mp h
    obtain ⟨e1, e2, e3, e4, e5, e6⟩ := med3_mid (h1 y List.mem_cons_self) (h2 z List.mem_cons_self)
    refine ⟨x, z, ?_⟩
    rcases List.mem_cons.mp (hp.symm.subset (List.mem_cons_self (a := a) (l := [b, c]))) with rfl | ha
    · rcases two_perm ((List.perm_cons _).mp hp) with ⟨rfl, rfl⟩ | ⟨rfl, rfl⟩
      · rw [e1]
      · rw [e3]
    · rcases List.mem_cons.mp ha with rfl | ha
      · rcases two_perm ((List.perm_cons _).mp ((List.Perm.swap _ _ _).trans hp)) with ⟨rfl, rfl⟩ | ⟨rfl, rfl⟩
        · rw [e2]
        · rw [e5]
      · have ha := List.mem_singleton.mp ha
        subst ha
        rcases two_perm ((List.perm_cons _).mp ((List.perm_append_comm (l₁ := [a]) (l₂ := [x, y])).trans hp)) with ⟨rfl, rfl⟩ | ⟨rfl, rfl⟩
        · rw [e4]
        · rw [e6]
theorem med_end {l : List Int} {a b c : Int} (hp : l.Perm [a, b, c]) (ho : l.Pairwise (fun x y => x ≤ y)) : l.getD ((l.length : Int).fdiv 2).toNat 0 = med3 a b c := by
  obtain ⟨x, z, rfl⟩ := med_of hp ho
  have e : ((([x, med3 a b c, z] : List Int).length : Int).fdiv 2).toNat = 1 := by
    show ((3 : Int).fdiv 2).toNat = 1
    decide
  rw [e]; rfl
theorem med_no {l : List Int} {a b c : Int} (hp : l.Perm [a, b, c]) (h : ¬ (l.length : Int).fmod 2 = 1) : False := by
  have hl : l.length = 3 := by rw [hp.length_eq]; rfl
  rw [hl] at h
  exact h (by decide)
theorem fillM : PySem.Challenge.rw_un0028_01 = PySem.Challenge.rw_un0028_01 ∧ pk.heap_1 = pk.heap_1 := by
  k_fill
  exact ⟨rfl, rfl⟩
set_option maxHeartbeats 4000000 in
theorem median_ok {w : World} {p loose mean mg mb} {dp un : Nat} {fr : Option (List Env)} {gd : Option (List Code)} {s : Shared} {a b c : Int} {ta tb tc : Tok} {q : Addr} {Q E : Value → Shared → Prop}
    (X : (pk.heap_1 w.params).In s.heap) (T : Top p loose mean mg mb s.heap) (hd : dp ≤ 890) (hu : un ≤ 8900)
    (hl : s.heap.IsList q #[.int a ta, .int b tb, .int c tc])
    (hQ : ∀ h' tk t, s.heap.StaysIn h' → Q (.int (med3 a b c) t) { s with heap := h', toks := tk }) :
    wpAny (model PySem.Challenge.rw_un0028_01.row.prog w) ⟨none, dp, fr, gd, un⟩ (call (.ref 41) [.ref q]) Q E s := by
  (refine enter (by k_in) (by exact Top.nolimit (by assumption)) (by k_is) (by k_is) (by (first | omega | ((try simp only [depth_deeper, Around.in1_depth, Around.deeper, recursionLimit]); omega))) (by (first | exact BindsTo.of_eq rfl | exact binds_K (by k_in) rfl (by k_is) rfl rfl rfl)) (by exact locs rfl) ?_ (by exact rfl) (by exact rfl) (by exact rfl) (by decide); k_whole)
  intro L h₁ hL F N
  k_fold
  walk_at "m_steps"
  all_goals walk_at "m_ends"
  · refine Eq.subst (motive := fun z => Q (.int z _) _) ?_ (hQ _ _ _ (Fr.keep (by assumption)))
    exact (med_end (by assumption) (by assumption)).symm
  · exact (med_no (by assumption) (by assumption)).elim
-- L5
section
open PySem.Calls
section
variable {prog : Program} {w : World} {A : Around} {E : Value → Shared → Prop} {s : Shared} {env : Env} {h₀ : Heap} {target : Expr} {body : List Stmt} {Q : Flow → Shared → Prop}
theorem base_turns {σ : Type} {I : Addr} {fp wr : List Addr} {n : Nat} {P Md : Nat → Value → Heap → Prop} {St : Nat → Heap → Prop} {ws : List (Addr × String)} {m₀ : Str → Option Value} {news : List (Addr × Obj)} {hp : Heap} {tk0 : Nat}
    (fm : σ → Str → Option Value) (ns : σ → List (Addr × Obj)) (Inv : Nat → σ → Prop) (a : σ)
    (W : KTurns prog w A target I fp wr n P Md St) (hobj : ∀ i h, St i h → ∃ its, Objs ws its ∧ ∀ p ∈ its, h.get? p.1 = some p.2)
    (hws : ∀ b ∈ ws.map (·.1), b ∈ fp ∧ h₀.get? b = none) (hwr : ∀ b ∈ wr, b ∈ ws.map (·.1)) (hfp : ∀ b ∈ fp, b ∈ ws.map (·.1) ∨ h₀.get? b ≠ none) (hL : env.locals ∉ fp)
    (hst : St 0 hp) (F : Fr h₀ env.locals hp m₀) (N : News h₀ env.locals hp news) (hnw : ∀ p ∈ news, p.1 ∉ wr)
    (hf : ∀ y, m₀ y = fm a y) (hn : ∀ p ∈ ns a, p ∈ news) (h0 : Inv 0 a)
    (turn : ∀ i v b its h tk, i < n → P i v h → Inv i b → Objs ws its → Fr h₀ env.locals h (fm b) → News h₀ env.locals h (its ++ ns b) →
      wpAny (model prog w) A (assign target env v) (fun _ s₂ => wpAny (model prog w) A (execs body env)
        (UnrPostW h₀ env.locals { s with heap := h, toks := tk } its (fun m' n' => ∃ b', (∀ y, m' y = fm b' y) ∧ SubL (ns b') n' ∧ Inv (i + 1) b') Q) E s₂) E { s with heap := h, toks := tk })
    (fin : ∀ b h tk, Inv n b → Fr h₀ env.locals h (fm b) → News h₀ env.locals h (ns b) → Q .next { s with heap := h, toks := tk }) :
    TurnsAt prog w A h₀ env target body Q E (.ref I) { s with heap := hp, toks := tk0 } := by
  refine ⟨I, fp, wr, n, P, Md, St, m₀, news, fun i m nw => ∃ b, (∀ y, m y = fm b y) ∧ (∀ p ∈ ns b, p ∈ nw) ∧ Inv i b, rfl, W, hL, fun b hb => (hws b (hwr b hb)).2, hnw, hst, F, N, ⟨a, hf, hn, h0⟩, ?_, ?_⟩
  · intro i v m₁ news₁ h₁ tk₁ own hin hPi hJ hoff hown hget hall hst₁ F₁ N₁
    obtain ⟨b, hf₁, hn₁, hI⟩ := hJ
    obtain ⟨its, hits, hval⟩ := hobj (i + 1) h₁ hst₁
    have hmap := hits.map
    have N₂ : News h₀ env.locals h₁ (its ++ ns b) := fun p hp => by
      rcases List.mem_append.mp hp with hp | hp
      · have h1 : p.1 ∈ ws.map (·.1) := by rw [← hmap]; exact List.mem_map.mpr ⟨p, hp, rfl⟩
        exact N₁ _ (List.mem_append_left _ (hall p.1 (hws _ h1).1 (hws _ h1).2 p.2 (hval p hp)))
      · exact N₁ _ (List.mem_append_right _ (hn₁ p hp))
    have fin' : ∀ s₃, UnrEndW h₀ env.locals { s with heap := h₁, toks := tk₁ } its (fun m' n' => ∃ b', (∀ y, m' y = fm b' y) ∧ SubL (ns b') n' ∧ Inv (i + 1) b') s₃ →
        LoopStepU h₀ env.locals wr own (fun m nw => ∃ b, (∀ y, m y = fm b y) ∧ (∀ p ∈ ns b, p ∈ nw) ∧ Inv (i + 1) b) { s with heap := h₁, toks := tk₁ } .next s₃ := by
      rintro s₃ ⟨h', tk, m', news', e, F', N', ho, b', hb1, hb2, hb3⟩
      refine ⟨rfl, h', tk, m', news', e, F', ?_, ?_, b', hb1, hb2.mem, hb3⟩
      · rintro ⟨pa, po⟩ hp
        rcases List.mem_append.mp hp with hp | hp
        · have h2 : h₁.get? pa = some po := hget _ hp
          rcases hfp pa (hown _ hp) with h3 | h3
          · have h4 : pa ∈ its.map (·.1) := by rw [hmap]; exact h3
            obtain ⟨⟨qa, qo⟩, hq, hqe⟩ := List.mem_map.mp h4
            have hqe' : qa = pa := hqe
            subst hqe'
            have h5 : h₁.get? qa = some qo := hval _ hq
            have h6 : qo = po := Option.some.inj (h5.symm.trans h2)
            subst h6
            exact N' _ (List.mem_append_left _ hq)
          · exact absurd (N₁ _ (List.mem_append_left _ hp)).2.2 h3
        · exact N' _ (List.mem_append_right _ hp)
      · intro p hp hI
        have h4 : p.1 ∈ its.map (·.1) := by rw [hmap]; exact hwr _ hI
        obtain ⟨q, hq, hqe⟩ := List.mem_map.mp h4
        exact ho p hp q hq hqe.symm
    refine wpAny_mono (turn i v b its h₁ tk₁ hin hPi hI hits (fr_ext hf₁ F₁) N₂) (fun _ s₂ h₂ => wpAny_mono h₂ (fun f s₃ p => ?_) fun _ _ e => e) fun _ _ e => e
    cases f with
    | ret v => exact .ret p
    | brk => exact .brk p
    | next => exact .next (fin' _ p)
    | cont => exact .cont (fin' _ p)
  · intro h' tk m' news' F' N' _ hJ
    obtain ⟨b, hb1, hb2, hb3⟩ := hJ
    exact fin b h' tk hb3 (fr_ext hb1 F') fun p hp => N' p (hb2 p hp)
theorem objs2 {a b : Addr} {x y : String} {its : List (Addr × Obj)} (h : Objs [(a, x), (b, y)] its) : ∃ o1 o2, its = [(a, o1), (b, o2)] ∧ o1.cls = .type x ∧ o2.cls = .type y := by
  rcases its with _ | ⟨⟨p1, p2⟩, _ | ⟨⟨q1, q2⟩, _ | ⟨r, t⟩⟩⟩
  · exact (show False from h).elim
  · exact (show False from h.2).elim
  · have e1 : p1 = a := h.1.1
    have e2 : q1 = b := h.2.1.1
    exact ⟨p2, q2, by rw [e1, e2], h.1.2, h.2.1.2⟩
  · exact (show False from h.2.2).elim
theorem objs1 {a : Addr} {x : String} {its : List (Addr × Obj)} (h : Objs [(a, x)] its) : ∃ o1, its = [(a, o1)] ∧ o1.cls = .type x := by
  rcases its with _ | ⟨⟨p1, p2⟩, _ | ⟨r, t⟩⟩
  · exact (show False from h).elim
  · have e1 : p1 = a := h.1.1
    exact ⟨p2, by rw [e1], h.1.2⟩
  · exact (show False from h.2).elim
theorem enum_base {σ : Type} {elts : List Expr} {k : Nat} {pos : Pos} {l : Addr} {vs : List Value} {m₀ : Str → Option Value} {news : List (Addr × Obj)}
    (fm : σ → Str → Option Value) (ns : σ → List (Addr × Obj)) (Inv : Nat → σ → Prop) (a : σ)
    (hh : A.handled = none) (F : Fr h₀ env.locals s.heap m₀) (N : News h₀ env.locals s.heap news) (hl : h₀.IsList l vs.toArray)
    (hf : ∀ y, m₀ y = fm a y) (hn : ∀ p ∈ ns a, p ∈ news) (h0 : Inv 0 a)
    (turn : ∀ i v b T t I o1 o2 h tk, vs[i]? = some v → Inv i b → (∀ p ∈ news, p.1 < I) → IsTup h T #[.int (i : Int) t, v] → o1.cls = .type "enumerate" → o2.cls = .type "list_iterator" → Fr h₀ env.locals h (fm b) → News h₀ env.locals h ((I + 1, o1) :: (I, o2) :: ns b) →
      wpAny (model prog w) A (assign (.Tuple elts k pos) env (.ref T)) (fun _ s₂ => wpAny (model prog w) A (execs body env)
        (UnrPostW h₀ env.locals { s with heap := h, toks := tk } [(I + 1, o1), (I, o2)] (fun m' n' => ∃ b', (∀ y, m' y = fm b' y) ∧ SubL (ns b') n' ∧ Inv (i + 1) b') Q) E s₂) E { s with heap := h, toks := tk })
    (fin : ∀ b h tk, Inv vs.length b → Fr h₀ env.locals h (fm b) → News h₀ env.locals h (ns b) → Q .next { s with heap := h, toks := tk }) :
    wpAny (model prog w) A (call (.type "enumerate") [.ref l]) (fun xv s₁ => wpAny (model prog w) A (pyIter xv) (fun it s₂ => TurnsAt prog w A h₀ env (.Tuple elts k pos) body Q E it s₂) E s₁) E s := by
  obtain ⟨lo, hlo, hlc, ln, hld⟩ := hl
  have hl' : s.heap.IsList l vs.toArray := ⟨lo, F.keep _ _ hlo, hlc, ln, hld⟩
  have hlt : l < s.heap.objs.size := Heap.lt_size (F.keep _ _ hlo)
  have hLs : env.locals < s.heap.objs.size := F.ns.lt
  refine call_enumerate_list hl' fun h' hE hI hsz hk => ?_
  refine wpAny_pyIter_enum hE ?_
  refine base_turns (ws := [(s.heap.objs.size + 1, "enumerate"), (s.heap.objs.size, "list_iterator")]) (tk0 := s.toks) fm ns Inv a (KTurns.ofWalksU (WalksT.enumerate hh (s.heap.objs.size + 1) s.heap.objs.size l (Nat.succ_ne_self _) (ktu_ne 1 hlt) (Nat.ne_of_lt hlt) vs.toArray).toU) ?_ ?_ ?_ ?_ ?_ ?_ (F.keeps hk) (N.grown hk) ?_ hf hn h0 ?_ (by simpa using fin)
  · rintro i h ⟨⟨old, he⟩, ⟨oi, hoi, hic, _⟩, _⟩
    have he' : ∃ oe : Obj, h.get? (s.heap.objs.size + 1) = some oe ∧ oe.cls = .type "enumerate" := ⟨_, he, rfl⟩
    obtain ⟨oe, h1, h2⟩ := he'
    refine ⟨[(s.heap.objs.size + 1, oe), (s.heap.objs.size, oi)], ⟨⟨rfl, h2⟩, ⟨rfl, hic⟩, trivial⟩, fun p hp => ?_⟩
    rcases List.mem_cons.mp hp with rfl | hp
    · exact h1
    · rw [List.mem_singleton.mp hp]; exact hoi
  · intro b hb
    have hb' : b = s.heap.objs.size + 1 ∨ b = s.heap.objs.size := by simpa using hb
    rcases hb' with rfl | rfl
    · exact ⟨by simp, ktu_new F (Nat.le_add_right _ _)⟩
    · exact ⟨by simp, ktu_new F (Nat.le_refl _)⟩
  · intro b hb
    simpa using hb
  · intro b hb
    have hb' : b = s.heap.objs.size + 1 ∨ b = s.heap.objs.size ∨ b = l := by simpa using hb
    rcases hb' with rfl | rfl | rfl
    · exact .inl (by simp)
    · exact .inl (by simp)
    · exact .inr (by rw [hlo]; simp)
  · intro hI'
    have hb' : env.locals = s.heap.objs.size + 1 ∨ env.locals = s.heap.objs.size ∨ env.locals = l := by simpa using hI'
    rcases hb' with e | e | e
    · exact ktu_ne 1 hLs e
    · exact Nat.ne_of_lt hLs e
    · exact absurd (Heap.lt_size hlo) (by rw [← e]; exact Nat.not_lt.mpr F.above)
  · exact ⟨⟨.none, hE⟩, hI, hl'.at fun o e => hk l o e⟩
  · intro p hp hI'
    have hb' : p.1 = s.heap.objs.size + 1 ∨ p.1 = s.heap.objs.size := by simpa using hI'
    have hlp := Heap.lt_size (N p hp).1
    rcases hb' with e | e
    · exact ktu_ne 1 hlp e
    · exact Nat.ne_of_lt hlp e
  · rintro i v b its h tk hi ⟨T, vals, rfl, ⟨t, x, hx, rfl⟩, hT⟩ hInv hits F' N'
    obtain ⟨o1, o2, rfl, c1, c2⟩ := objs2 hits
    exact turn i x b T t s.heap.objs.size o1 o2 h tk (by simpa using hx) hInv (fun p hp => Heap.lt_size (N p hp).1) hT c1 c2 F' N'
theorem list_base {σ : Type} {l : Addr} {vs : List Value} {m₀ : Str → Option Value} {news : List (Addr × Obj)}
    (fm : σ → Str → Option Value) (ns : σ → List (Addr × Obj)) (Inv : Nat → σ → Prop) (a : σ)
    (hh : A.handled = none) (F : Fr h₀ env.locals s.heap m₀) (N : News h₀ env.locals s.heap news) (hl : h₀.IsList l vs.toArray)
    (hf : ∀ y, m₀ y = fm a y) (hn : ∀ p ∈ ns a, p ∈ news) (h0 : Inv 0 a)
    (turn : ∀ i v b I o2 h tk, vs[i]? = some v → Inv i b → (∀ p ∈ news, p.1 < I) → o2.cls = .type "list_iterator" → Fr h₀ env.locals h (fm b) → News h₀ env.locals h ((I, o2) :: ns b) →
      wpAny (model prog w) A (assign target env v) (fun _ s₂ => wpAny (model prog w) A (execs body env)
        (UnrPostW h₀ env.locals { s with heap := h, toks := tk } [(I, o2)] (fun m' n' => ∃ b', (∀ y, m' y = fm b' y) ∧ SubL (ns b') n' ∧ Inv (i + 1) b') Q) E s₂) E { s with heap := h, toks := tk })
    (fin : ∀ b h tk, Inv vs.length b → Fr h₀ env.locals h (fm b) → News h₀ env.locals h (ns b) → Q .next { s with heap := h, toks := tk }) :
    wpAny (model prog w) A (pyIter (.ref l)) (fun it s₂ => TurnsAt prog w A h₀ env target body Q E it s₂) E s := by
  obtain ⟨lo, hlo, hlc, ln, hld⟩ := hl
  have hl' : s.heap.IsList l vs.toArray := ⟨lo, F.keep _ _ hlo, hlc, ln, hld⟩
  have hlt : l < s.heap.objs.size := Heap.lt_size (F.keep _ _ hlo)
  have hLs : env.locals < s.heap.objs.size := F.ns.lt
  have hne : l ≠ s.heap.objs.size := Nat.ne_of_lt hlt
  refine wpAny_pyIter_list hl' ?_
  refine base_turns (ws := [(s.heap.objs.size, "list_iterator")]) (tk0 := s.toks) fm ns Inv a (KTurns.ofWalks (Walks.list hh s.heap.objs.size l hne vs.toArray) fun i v s Q E st q => letGo_listiter st.1 q) ?_ ?_ ?_ ?_ ?_ ?_ (F.push _) (fun p hp => ⟨Heap.get?_push_of_some _ (N p hp).1, (N p hp).2⟩) ?_ hf hn h0 ?_ (by simpa using fin)
  · intro i h st
    obtain ⟨it, hit, hic, _⟩ := st.1
    exact ⟨[(s.heap.objs.size, it)], ⟨⟨rfl, hic⟩, trivial⟩, fun p hp => by rw [List.mem_singleton.mp hp]; exact hit⟩
  · intro b hb
    have hb' : b = s.heap.objs.size := by simpa using hb
    rw [hb']
    exact ⟨List.mem_cons_self .., next_is_new F⟩
  · intro b hb
    simpa using hb
  · intro b hb
    have hb' : b = s.heap.objs.size ∨ b = l := by simpa using hb
    rcases hb' with e | e
    · exact .inl (by simp [e])
    · exact .inr (by rw [e, hlo]; simp)
  · intro hI
    rcases List.mem_cons.mp hI with e | hI
    · exact absurd F.ns.lt (e ▸ Nat.lt_irrefl _)
    · exact absurd (Heap.lt_size hlo) (by rw [← List.mem_singleton.mp hI]; exact Nat.not_lt.mpr F.above)
  · exact ⟨⟨_, Heap.get?_push_size _ rfl, rfl, rfl⟩, hl'.at fun o e => Heap.get?_push_of_some _ e⟩
  · intro p hp hI
    exact absurd (Heap.lt_size (N p hp).1) ((List.mem_singleton.mp hI) ▸ Nat.lt_irrefl _)
  · intro i v b its h tk hi hP hInv hits F' N'
    obtain ⟨o1, rfl, c1⟩ := objs1 hits
    exact turn i v b s.heap.objs.size o1 h tk (by have hP' : vs.toArray[i]? = some v := hP; simpa using hP') hInv (fun p hp => Heap.lt_size (N p hp).1) c1 F' N'
end
def Hold (P : Prop) : Prop := P
theorem hold {P : Prop} (h : Hold P) : P := h
theorem holdIn {P : Prop} (h : P) : Hold P := h
end
local macro_rules | `(tactic| walk_at "call ref") => `(tactic| (k_here; refine hold ?_))
local macro_rules | `(tactic| walk_at "call type:enumerate") => `(tactic| (k_here; (with_reducible show wpAny _ _ (call (Value.type _) [Value.ref _]) (fun xv s₁ => wpAny _ _ (pyIter xv) (fun it s₂ => TurnsAt _ _ _ _ _ _ _ _ _ it s₂) _ s₁) _ _); refine hold ?_))
local macro_rules | `(tactic| walk_at "exec For Tuple Call cons nil") => `(tactic| (k_here; (rename Fr _ _ _ _ => lF'); (with_unfolding_all refine' For_turns lF' ?_; k_whole)))
-- T0
def Good (p : Str) : Prop := ∃ l c, p.cps.toList = l ++ [c] ∧ c ≠ 47
theorem Good.facts {p : Str} (h : Good p) : Txt.endswith p slash = false ∧ p.length ≠ 0 := by
  obtain ⟨l, c, e, hc⟩ := h
  have hl : p.cps.size = l.length + 1 := by rw [← Array.length_toList, e]; simp
  have hlen : p.length = l.length + 1 := hl
  refine ⟨?_, by omega⟩
  cases hb : Txt.endswith p slash with
  | false => rfl
  | true =>
    exfalso
    unfold Txt.endswith at hb
    rw [Bool.and_eq_true] at hb
    have h1 := eq_of_beq hb.2
    have h2 : p.cps[l.length]? = some c := by
      rw [← Array.getElem?_toList, e]; simp
    have h3 := congrArg (fun a : Array Nat => a[0]?) h1
    have e1 : slash.length = 1 := by decide
    have e2 : slash.cps[0]? = some 47 := by decide
    simp only [Array.getElem?_extract, e1, hlen, e2] at h3
    simp only [Nat.add_sub_cancel, hl, Nat.min_self] at h3
    rw [show l.length + 0 = l.length from rfl, h2] at h3
    simp at h3
    exact hc h3
def nameF (i : Nat) (n : Int) : Str := Txt.item (Str.ofString "ba") ((n.fdiv 12).fmod 2) ++ ⟨#[(97 + (i : Int)).toNat]⟩
theorem fmod2 (a : Int) : a.fmod 2 = 0 ∨ a.fmod 2 = 1 := by
  have h1 := Int.fmod_nonneg_of_pos a (b := 2) (by omega)
  have h2 := Int.fmod_lt_of_pos a (b := 2) (by omega)
  omega
theorem name_table : ∀ i : Nat, i < 13 → ∀ j : Nat, j < 2 → Txt.startswith (Txt.item (Str.ofString "ba") ((j : Nat) : Int) ++ ⟨#[(97 + (i : Int)).toNat]⟩) slash = false := by decide +kernel
theorem name_starts {i : Nat} (hi : i < 13) (a : Int) : Txt.startswith (Txt.item (Str.ofString "ba") (a.fmod 2) ++ ⟨#[(97 + (i : Int)).toNat]⟩) slash = false := by
  rcases fmod2 a with h | h
  · rw [h]; exact name_table i hi 0 (by omega)
  · rw [h]; exact name_table i hi 1 (by omega)
theorem name_len (i : Nat) (a : Int) : (Txt.item (Str.ofString "ba") a ++ (⟨#[(97 + (i : Int)).toNat]⟩ : Str)).length = 2 := by
  rw [Str.length_append]; rfl
theorem Good.next {x : Str} {i : Nat} {a : Int} : Good (x ++ (slash ++ (Txt.item (Str.ofString "ba") a ++ (⟨#[(97 + (i : Int)).toNat]⟩ : Str)))) := by
  refine ⟨(x ++ (slash ++ Txt.item (Str.ofString "ba") a)).cps.toList, (97 + (i : Int)).toNat, ?_, by omega⟩
  show ((x.cps ++ (slash.cps ++ ((Txt.item (Str.ofString "ba") a).cps ++ #[(97 + (i : Int)).toNat]))).toList) = (x.cps ++ (slash.cps ++ (Txt.item (Str.ofString "ba") a).cps)).toList ++ [(97 + (i : Int)).toNat]
  simp
def put {β : Type} (kvs : List (Str × β)) (k : Str) (v : β) : List (Str × β) :=
  if kvs.any (fun kv => kv.1 = k) then kvs.map (fun kv => if kv.1 = k then (kv.1, v) else kv) else kvs ++ [(k, v)]
def intKvs (es : List (Str × Int × Tok)) : List (Str × Value) := es.map fun p => (p.1, .int p.2.1 p.2.2)
def treeStep (i : Nat) (n : Int) (ps : List Str) : Str := ps.getD (n.fmod (ps.length : Int)).toNat Str.empty ++ (slash ++ nameF i n)
def endF (n : Int) : Int := (n.fdiv 24).fmod 41 - 20
def treeAt (top : Str) (ns : List Int) : Nat → List Str × List (Str × Int)
  | 0 => ([top], [(top, 0)])
  | i + 1 => ((treeAt top ns i).1 ++ [treeStep i (ns.getD i 0) (treeAt top ns i).1], put (treeAt top ns i).2 (treeStep i (ns.getD i 0) (treeAt top ns i).1) (endF (ns.getD i 0)))
def st3 (es : List (Str × Int × Tok)) (p : Str) (v : Int) (t : Tok) : List (Str × Int × Tok) :=
  if es.any (fun e => e.1 = p) then es.map (fun e => if e.1 = p then (e.1, v, t) else e) else es ++ [(p, v, t)]
theorem st3_kvs (es : List (Str × Int × Tok)) (p : Str) (v : Int) (t : Tok) : intKvs (st3 es p v t) = stored (intKvs es) p (.int v t) := by
  unfold st3 stored intKvs
  rw [List.any_map]
  show List.map _ (if es.any (fun e => e.1 = p) then _ else _) = if es.any (fun e => e.1 = p) then _ else _
  split
  · rw [List.map_map, List.map_map]
    refine List.map_congr_left fun e _ => ?_
    show (fun p => ((p.1, Value.int p.2.1 p.2.2) : Str × Value)) (if e.1 = p then (e.1, v, t) else e) = if e.1 = p then (e.1, Value.int v t) else (e.1, .int e.2.1 e.2.2)
    split <;> rfl
  · simp
theorem st3_pairs (es : List (Str × Int × Tok)) (p : Str) (v : Int) (t : Tok) : (st3 es p v t).map (fun e => (e.1, e.2.1)) = put (es.map fun e => (e.1, e.2.1)) p v := by
  unfold st3 put
  rw [List.any_map]
  show List.map _ (if es.any (fun e => e.1 = p) then _ else _) = if es.any (fun e => e.1 = p) then _ else _
  split
  · rw [List.map_map, List.map_map]
    refine List.map_congr_left fun e _ => ?_
    show (fun p => ((p.1, p.2.1) : Str × Int)) (if e.1 = p then (e.1, v, t) else e) = if e.1 = p then (e.1, v) else (e.1, e.2.1)
    split <;> rfl
  · simp
def TreeInv (top : Str) (ns : List Int) (i : Nat) (ps : List Str) (es : List (Str × Int)) : Prop :=
  ps = (treeAt top ns i).1 ∧ es = (treeAt top ns i).2 ∧ ps.length = i + 1 ∧ es.length ≤ i + 1 ∧ ∀ p ∈ ps, Good p ∧ p.length ≤ 4 + 3 * i
-- T1
section
variable {prog : Program} {w : World} {A : Around} {E : Value → Shared → Prop} {s : Shared} {h₀ : Heap} {L : Addr} {m : Str → Option Value} {news : List (Addr × Obj)}
theorem len_sv {r : Addr} {c : List (Str × Tok)} {n : Nat} {Q : Value → Shared → Prop} (N : News h₀ L s.heap news) (hm : (r, ({ cls := .type "list", data := .seq (strValues c).toArray n } : Obj)) ∈ news) (hc : c.length ≤ 1002)
    (h : ∀ t tk, Q (.int (c.length : Int) t) { s with toks := tk }) : wpAny (model prog w) A (call (.builtin "len") [.ref r]) Q E s := by
  have e : (strValues c).toArray.size = c.length := by rw [List.size_toArray, strValues, List.length_map]
  refine len_list (items := (strValues c).toArray) ⟨_, (N _ hm).1, rfl, _, rfl⟩ (by rw [e]; omega) ?_
  rw [e]
  exact h _ _
theorem item_mod {value slice : PySem.Expr} {r : Addr} {c : List (Str × Tok)} {n : Nat} {a : Int} {u : Tok} {Q : Value → Shared → Prop} (N : News h₀ L s.heap news) (hm : (r, ({ cls := .type "list", data := .seq (strValues c).toArray n } : Obj)) ∈ news) (h0 : 0 < c.length) (hc : c.length ≤ 1002)
    (h : ∀ y t', (c.map (·.1))[(a.fmod (c.length : Int)).toNat]? = some y → Q (.str y t') s)
    (hs : subscripted slice false (.ref r) (.int (a.fmod (c.length : Int)) u) = operate [.ref r, .int (a.fmod (c.length : Int)) u] (getItem (.ref r) (.int (a.fmod (c.length : Int)) u))) (hg : ∀ v, letTemporaryGo value (.ref r) v = pure ()) :
    wpAny (model prog w) A (subscriptTail value slice (.ref r) (.int (a.fmod (c.length : Int)) u)) Q E s := by
  have h1 := Int.fmod_nonneg_of_pos a (b := (c.length : Int)) (by omega)
  have h2 := Int.fmod_lt_of_pos a (b := (c.length : Int)) (by omega)
  exact item_strs (l := c) ⟨_, (N _ hm).1, rfl, _, rfl⟩ h1 h2 (by omega) h hs hg
end
section
variable {prog : Program} {w : World} {A : Around} {E : Value → Shared → Prop} {s : Shared} {h₀ : Heap} {L : Addr} {m : Str → Option Value} {news : List (Addr × Obj)} {g : Obj → List (Addr × Obj)}
theorem append_sv {D : Addr} {c : List (Str × Tok)} {n : Nat} {y : Str} {t : Tok} {Q : Value → Shared → Prop} (F : Fr h₀ L s.heap m) (N : News h₀ L s.heap news) (U : UpdF D ({ cls := .type "list", data := .seq (strValues c).toArray n } : Obj) news g) (hc : c.length ≤ 1002)
    (h : ∀ h', Fr h₀ L h' m → News h₀ L h' (g { cls := .type "list", data := .seq (strValues (c ++ [(y, t)])).toArray (n + 1) }) → Q .none { s with heap := h' }) :
    wpAny (model prog w) A (call (.builtin "list.append") [.ref D, .str y t]) Q E s := by
  obtain ⟨pre, post, rfl, hg, a, b⟩ := U.split
  have hm := N (D, _) (List.mem_append_right _ (.head _))
  refine append_at (hsz := by rw [List.size_toArray, strValues, List.length_map, sizeLine_eq]; omega) hm.1 fun h' hs hD => ?_
  have e : ({ cls := .type "list", data := .seq ((strValues c).toArray.push (.str y t)) (n + 1) } : Obj) = { cls := .type "list", data := .seq (strValues (c ++ [(y, t)])).toArray (n + 1) } := by
    simp [strValues]
  rw [e] at hD
  exact h h' (F.change hs hm.2.1 hm.2.2) (hg _ ▸ N.setIn a b hs hD)
theorem set_sv {D : Addr} {o : Obj} {es : List (Str × Int × Tok)} {k : Str} {v : Int} {t t' : Tok} {Q : Unit → Shared → Prop} (F : Fr h₀ L s.heap m) (N : News h₀ L s.heap news) (U : UpdF D o news g) (hd : o.IsDictOf (PySem.strKind prog w) (intKvs es)) (hz : es.length ≤ 1002)
    (h : ∀ h' o', Fr h₀ L h' m → News h₀ L h' (g o') → o'.IsDictOf (PySem.strKind prog w) (intKvs (st3 es k v t)) → Q () { s with heap := h', toks := s.toks + 1 }) : wpAny (model prog w) A (setItem (.ref D) (.str k t') (.int v t)) Q E s :=
  kda_set F N U hd (strKind_is _ _ _ _) (by rw [intKvs, List.length_map, sizeLine_eq]; omega) fun h' o' F' N' hd' => h h' o' F' N' (by rw [st3_kvs]; exact hd')
end
local macro_rules | `(tactic| walk_at "call builtin:list.append") => `(tactic| (k_here; refine append_sv (by k_asm) (by k_asm) (by k_updF) (by omega) ?_; (intro h9 F9 N9; (try dsimp only at N9); (try k_sweep))))
local macro_rules | `(tactic| walk_at "setItem ref str") => `(tactic| (k_here; refine set_sv (by k_asm) (by k_asm) (by k_updF) (by assumption) (by omega) ?_; (intro h9 o9 F9 N9 d9; (try dsimp only at N9); (try k_sweep))))
local macro_rules | `(tactic| walk_at "call builtin:len") => `(tactic| (k_here; refine len_sv (by k_asm) (by k_mem) (by omega) ?_; (intro t9 k9; (try dsimp only))))
local macro_rules | `(tactic| walk_at "subscriptTail Name BinOp ref int") => `(tactic| (k_here; refine item_mod (by k_asm) (by k_mem) (by omega) (by omega) ?_ (by with_unfolding_all rfl) (by (intro _; with_unfolding_all rfl)); (intro y9 t9 hy9; (try dsimp only))))
theorem tree_next {top : Str} {ns : List Int} {i : Nat} {n : Int} {ps : List (Str × Tok)} {es : List (Str × Int × Tok)} {y : Str} {t t' : Tok} (_hn : ns.length ≤ 13)
    (i1 : ps.map (·.1) = (treeAt top ns i).1) (i2 : (es.map fun p => (p.1, p.2.1)) = (treeAt top ns i).2) (i3 : ps.length = i + 1) (i4 : es.length ≤ i + 1) (i5 : ∀ p ∈ ps.map (·.1), Good p ∧ p.length ≤ 4 + 3 * i)
    (hv : ns[i]? = some n) (hy : (ps.map (·.1))[(n.fmod (ps.length : Int)).toNat]? = some y) :
    TreeInv top ns (i + 1) ((ps ++ [(y ++ (slash ++ (Txt.item (Str.ofString "ba") ((n.fdiv 12).fmod 2) ++ (⟨#[(97 + (i : Int)).toNat]⟩ : Str))), t)]).map (·.1))
      ((st3 es (y ++ (slash ++ (Txt.item (Str.ofString "ba") ((n.fdiv 12).fmod 2) ++ (⟨#[(97 + (i : Int)).toNat]⟩ : Str)))) ((n.fdiv 24).fmod 41 - 20) t').map fun p => (p.1, p.2.1)) := by
  have en : ns.getD i 0 = n := by rw [List.getD_eq_getElem?_getD, hv]; rfl
  have ey : y ++ (slash ++ (Txt.item (Str.ofString "ba") ((n.fdiv 12).fmod 2) ++ (⟨#[(97 + (i : Int)).toNat]⟩ : Str))) = treeStep i (ns.getD i 0) (treeAt top ns i).1 := by
    unfold treeStep nameF
    rw [en, ← i1, List.getD_eq_getElem?_getD, List.length_map, hy]; rfl
  have e1 : ((ps ++ [(y ++ (slash ++ (Txt.item (Str.ofString "ba") ((n.fdiv 12).fmod 2) ++ (⟨#[(97 + (i : Int)).toNat]⟩ : Str))), t)]).map (·.1)) = (treeAt top ns (i + 1)).1 := by
    show _ = (treeAt top ns i).1 ++ [treeStep i (ns.getD i 0) (treeAt top ns i).1]
    rw [List.map_append, i1, ← ey]; rfl
  refine ⟨e1, ?_, by simp [i3], ?_, ?_⟩
  · show _ = put (treeAt top ns i).2 (treeStep i (ns.getD i 0) (treeAt top ns i).1) (endF (ns.getD i 0))
    rw [st3_pairs, i2, ey, en]; rfl
  · rw [List.length_map]
    unfold st3
    split
    · rw [List.length_map]; omega
    · rw [List.length_append]; simp; omega
  · intro p hp
    rw [List.map_append, List.mem_append] at hp
    rcases hp with hp | hp
    · have := i5 p hp
      exact ⟨this.1, by omega⟩
    · have hp' : p = y ++ (slash ++ (Txt.item (Str.ofString "ba") ((n.fdiv 12).fmod 2) ++ (⟨#[(97 + (i : Int)).toNat]⟩ : Str))) := by simpa using hp
      subst hp'
      refine ⟨Good.next, ?_⟩
      have hy' := (i5 y (List.mem_of_getElem? hy)).2
      have e2 : slash.length = 1 := by decide
      rw [Str.length_append, Str.length_append, name_len, e2]
      omega
theorem goodAt {ps : List Str} {y : Str} {k i : Nat} (i5 : ∀ p ∈ ps, Good p ∧ p.length ≤ 4 + 3 * i) (h : ps[k]? = some y) : Good y ∧ y.length ≤ 4 + 3 * i := i5 _ (List.mem_of_getElem? h)
local macro_rules | `(tactic| walk_at "join5") => `(tactic| exact Nat.le_trans (goodAt (by assumption) (by assumption)).2 (by omega))
local macro_rules | `(tactic| walk_at "join6") => `(tactic| exact Nat.le_trans (Nat.le_of_eq (name_len _ _)) (by decide))
local macro_rules | `(tactic| walk_at "join7") => `(tactic| exact name_starts (by omega) _)
local macro_rules | `(tactic| walk_at "join8") => `(tactic| exact (goodAt (by assumption) (by assumption)).1.facts.2)
local macro_rules | `(tactic| walk_at "join9") => `(tactic| exact (goodAt (by assumption) (by assumption)).1.facts.1)
theorem fillT : PySem.Challenge.rw_un0028_01 = PySem.Challenge.rw_un0028_01 ∧ pk.heap_1 = pk.heap_1 := by
  k_fill
  exact ⟨rfl, rfl⟩
structure TS where
  ps : List (Str × Tok)
  n : Nat
  o : Obj
  es : List (Str × Int × Tok)
  a1 : Option Value
  a2 : Option Value
  a3 : Option Value
abbrev fr3 (x1 x2 x3 : Str) (m₀ : Str → Option Value) (a1 a2 a3 : Option Value) : Str → Option Value := fun y => if y = x3 then a3 else if y = x2 then a2 else if y = x1 then a1 else m₀ y
theorem fr3_self (x1 x2 x3 : Str) (m₀ : Str → Option Value) (y : Str) : m₀ y = fr3 x1 x2 x3 m₀ (m₀ x1) (m₀ x2) (m₀ x3) y := by
  by_cases h3 : y = x3
  · simp [fr3, h3]
  · by_cases h2 : y = x2
    · subst h2; simp [fr3, h3]
    · by_cases h1 : y = x1
      · subst h1; simp [fr3, h3, h2]
      · simp [fr3, h1, h2, h3]
theorem fr3_again (x1 x2 x3 : Str) (m₀ : Str → Option Value) (a1 a2 a3 b1 b2 b3 : Option Value) (y : Str) : fr3 x1 x2 x3 (fr3 x1 x2 x3 m₀ a1 a2 a3) b1 b2 b3 y = fr3 x1 x2 x3 m₀ b1 b2 b3 y := by
  by_cases h3 : y = x3
  · simp [fr3, h3]
  · by_cases h2 : y = x2
    · simp [fr3, h3, h2]
    · by_cases h1 : y = x1
      · simp [fr3, h3, h2, h1]
      · simp [fr3, h1, h2, h3]
theorem intsGet {vs : List Value} {ns : List Int} (h : IntsAre vs ns) {i : Nat} {v : Value} (hv : vs[i]? = some v) : ∃ n t, v = .int n t ∧ ns[i]? = some n := by
  obtain ⟨k, t, e, hk⟩ := IntsAre.at h i v hv
  exact ⟨k, t, e, hk⟩
section
variable {prog : Program} {w : World} {A : Around} {E : Value → Shared → Prop} {s : Shared} {env : Env} {h₀ : Heap} {body : List Stmt} {Q : Flow → Shared → Prop}
theorem enum_tree {elts : List Expr} {k : Nat} {pos : Pos} {l D1 D2 : Addr} {vs : List Value} {ns : List Int} {m₀ : Str → Option Value} {o : Obj} {ps : List (Str × Tok)} {c : Nat} {es : List (Str × Int × Tok)} (IP : Nat → List Str → List (Str × Int) → Prop)
    (hh : A.handled = none) (F : Fr h₀ env.locals s.heap m₀) (N : News h₀ env.locals s.heap [(D2, o), (D1, { cls := .type "list", data := .seq (strValues ps).toArray c })]) (hl : h₀.IsList l vs.toArray) (hi : IntsAre vs ns)
    (hd : o.IsDictOf (PySem.strKind prog w) (intKvs es)) (h0 : IP 0 (ps.map (·.1)) (es.map fun p => (p.1, p.2.1)))
    (turn : ∀ i n tn ps c o es a1 a2 a3 T t I o1 o2 h tk, ns[i]? = some n → IP i (ps.map (·.1)) (es.map fun p => (p.1, p.2.1)) → ((@LT.lt Nat _ D2 I) ∧ (@LT.lt Nat _ D1 I)) → IsTup h T #[.int (i : Int) t, .int n tn] → o1.cls = .type "enumerate" → o2.cls = .type "list_iterator" → Fr h₀ env.locals h (fun y => if y = Str.ofString "path" then a3 else if y = Str.ofString "v" then a2 else if y = Str.ofString "k" then a1 else m₀ y) →
      News h₀ env.locals h [(I + 1, o1), (I, o2), (D2, o), (D1, { cls := .type "list", data := .seq (strValues ps).toArray c })] → o.IsDictOf (PySem.strKind prog w) (intKvs es) →
      wpAny (model prog w) A (assign (.Tuple elts k pos) env (.ref T)) (fun _ s₂ => wpAny (model prog w) A (execs body env)
        (UnrPostW h₀ env.locals { s with heap := h, toks := tk } [(I + 1, o1), (I, o2)] (fun m' n' => ∃ ps' c' o' es' b1 b2 b3, (∀ y, m' y = fr3 (Str.ofString "k") (Str.ofString "v") (Str.ofString "path") (fun y => if y = Str.ofString "path" then a3 else if y = Str.ofString "v" then a2 else if y = Str.ofString "k" then a1 else m₀ y) b1 b2 b3 y) ∧
          (D2, o') ∈ n' ∧ (D1, ({ cls := .type "list", data := .seq (strValues ps').toArray c' } : Obj)) ∈ n' ∧ o'.IsDictOf (PySem.strKind prog w) (intKvs es') ∧ IP (i + 1) (ps'.map (·.1)) (es'.map fun p => (p.1, p.2.1))) Q) E s₂) E { s with heap := h, toks := tk })
    (fin : ∀ ps c o es a1 a2 a3 h tk, IP ns.length (ps.map (·.1)) (es.map fun p => (p.1, p.2.1)) → Fr h₀ env.locals h (fun y => if y = Str.ofString "path" then a3 else if y = Str.ofString "v" then a2 else if y = Str.ofString "k" then a1 else m₀ y) →
      News h₀ env.locals h [(D2, o), (D1, { cls := .type "list", data := .seq (strValues ps).toArray c })] → o.IsDictOf (PySem.strKind prog w) (intKvs es) → Q .next { s with heap := h, toks := tk }) :
    wpAny (model prog w) A (call (.type "enumerate") [.ref l]) (fun xv s₁ => wpAny (model prog w) A (pyIter xv) (fun it s₂ => TurnsAt prog w A h₀ env (.Tuple elts k pos) body Q E it s₂) E s₁) E s := by
  refine enum_base (σ := TS) (fun b => fr3 (Str.ofString "k") (Str.ofString "v") (Str.ofString "path") m₀ b.a1 b.a2 b.a3) (fun b => [(D2, b.o), (D1, { cls := .type "list", data := .seq (strValues b.ps).toArray b.n })])
    (fun i b => b.o.IsDictOf (PySem.strKind prog w) (intKvs b.es) ∧ IP i (b.ps.map (·.1)) (b.es.map fun p => (p.1, p.2.1))) ⟨ps, c, o, es, m₀ (Str.ofString "k"), m₀ (Str.ofString "v"), m₀ (Str.ofString "path")⟩ hh F N hl (fr3_self _ _ _ m₀) (fun p hp => hp) ⟨hd, h0⟩ ?_ ?_
  · intro i v b T t I o1 o2 h tk hv hInv hI hT h1 h2 F N
    obtain ⟨n, tn, rfl, hn⟩ := intsGet hi hv
    refine wpAny_mono (turn i n tn b.ps b.n b.o b.es b.a1 b.a2 b.a3 T t I o1 o2 h tk hn hInv.2 ⟨hI _ List.mem_cons_self, hI _ (List.mem_cons_of_mem _ List.mem_cons_self)⟩ hT h1 h2 F N hInv.1) (fun _ s₂ h₂ => wpAny_mono h₂ (fun f s₃ h₃ => ?_) fun _ _ e => e) fun _ _ e => e
    have fin : ∀ {s₃}, UnrEndW h₀ env.locals { s with heap := h, toks := tk } [(I + 1, o1), (I, o2)] (fun m' n' => ∃ ps' c' o' es' b1 b2 b3, (∀ y, m' y = fr3 (Str.ofString "k") (Str.ofString "v") (Str.ofString "path") (fr3 (Str.ofString "k") (Str.ofString "v") (Str.ofString "path") m₀ b.a1 b.a2 b.a3) b1 b2 b3 y) ∧
          (D2, o') ∈ n' ∧ (D1, ({ cls := .type "list", data := .seq (strValues ps').toArray c' } : Obj)) ∈ n' ∧ o'.IsDictOf (PySem.strKind prog w) (intKvs es') ∧ IP (i + 1) (ps'.map (·.1)) (es'.map fun p => (p.1, p.2.1))) s₃ →
        UnrEndW h₀ env.locals { s with heap := h, toks := tk } [(I + 1, o1), (I, o2)] (fun m' n' => ∃ b' : TS, (∀ y, m' y = fr3 (Str.ofString "k") (Str.ofString "v") (Str.ofString "path") m₀ b'.a1 b'.a2 b'.a3 y) ∧ SubL [(D2, b'.o), (D1, { cls := .type "list", data := .seq (strValues b'.ps).toArray b'.n })] n' ∧
          (b'.o.IsDictOf (PySem.strKind prog w) (intKvs b'.es) ∧ IP (i + 1) (b'.ps.map (·.1)) (b'.es.map fun p => (p.1, p.2.1)))) s₃ := by
      rintro s₃ ⟨h', tk', m', n', e, F', N', off, ps', c', o', es', b1, b2, b3, hm, k1, k2, hd', hp⟩
      exact ⟨h', tk', m', n', e, F', N', off, ⟨ps', c', o', es', b1, b2, b3⟩, fun y => (hm y).trans (fr3_again _ _ _ _ _ _ _ _ _ _ y), ⟨k1, k2, trivial⟩, hd', hp⟩
    cases f with
    | ret v => exact h₃
    | brk => exact h₃
    | next => exact fin h₃
    | cont => exact fin h₃
  · intro b h tk hInv F N
    have e : vs.length = ns.length := hi.length
    rw [e] at hInv
    exact fin b.ps b.n b.o b.es b.a1 b.a2 b.a3 h tk hInv.2 F N hInv.1
end
set_option maxHeartbeats 4000000 in
theorem tree_ok {w : World} {p loose mean mg mb} {dp un : Nat} {fr : Option (List Env)} {gd : Option (List Code)} {s : Shared} {top : Str} {t : Tok} {q : Addr} {vs : List Value} {ns : List Int} {Q E : Value → Shared → Prop}
    (X : (pk.heap_1 w.params).In s.heap) (T : Top p loose mean mg mb s.heap) (hd : dp ≤ 880) (hu : un ≤ 8800)
    (hl : s.heap.IsList q vs.toArray) (hi : IntsAre vs ns) (hn : ns.length ≤ 13) (hg : Good top) (ht : top.length ≤ 4)
    (hQ : ∀ TT D1 D2 ps c o es h' tk, s.heap.StaysIn h' → h'.get? TT = some { cls := .type "tuple", data := .seq #[.ref D1, .ref D2] } → h'.get? D1 = some { cls := .type "list", data := .seq (strValues ps).toArray c } → h'.get? D2 = some o →
      s.heap.get? TT = none → s.heap.get? D1 = none → s.heap.get? D2 = none → o.IsDictOf (PySem.strKind PySem.Challenge.rw_un0028_01.row.prog w) (intKvs es) → TreeInv top ns ns.length (ps.map (·.1)) (es.map fun p => (p.1, p.2.1)) → Q (.ref TT) { s with heap := h', toks := tk }) :
    wpAny (model PySem.Challenge.rw_un0028_01.row.prog w) ⟨none, dp, fr, gd, un⟩ (call (.ref 163) [.str top t, .ref q]) Q E s := by
  (refine enter (by k_in) (by exact Top.nolimit (by assumption)) (by k_is) (by k_is) (by (first | omega | ((try simp only [depth_deeper, Around.in1_depth, Around.deeper, recursionLimit]); omega))) (by (first | exact BindsTo.of_eq rfl | exact binds_K (by k_in) rfl (by k_is) rfl rfl rfl)) (by exact locs rfl) ?_ (by exact rfl) (by exact rfl) (by exact rfl) (by decide); k_whole)
  intro L h₁ hL F N
  k_fold
  walk_at "m_steps"
  (k_dflt (refine kdn_eval (knd := PySem.strKind _ _) (by k_asm) (by first | k_asm | exact News.nil) (by exact Top.nolimit (by k_asm)) (by rfl) (by rfl) (by exact List.cons_ne_nil _ _) (by exact Nat.le_of_ble_eq_true rfl) ?_); intro d' h' o' F' N' l1 lo' hd'; (try k_lt l1))
  walk_at "m_steps"
  refine holdIn ?_
  refine' enum_tree (s := ⟨_, _, _, _, _⟩) (ps := [(top, t)]) (es := [(top, 0, _)]) (TreeInv top ns) ?hh ?hF ?hN ?hl hi ?hd ?h0 ?_ ?_
  case hh => exact rfl
  case hF => k_asm
  case hN => k_asm
  case hl => assumption
  case hd => k_asm
  case h0 => exact ⟨rfl, rfl, rfl, Nat.le_refl _, fun p hp => by rw [List.mem_singleton.mp hp]; exact ⟨hg, by omega⟩⟩
  · intro i n tn ps c o es a1 a2 a3 T t I o1 o2 h tk hv hI hlt hT h1 h2 F N hd
    obtain ⟨hlt1, hlt2⟩ := hlt
    obtain ⟨i1, i2, i3, i4, i5⟩ := hI
    rw [List.length_map] at i3 i4
    have hi13 : i < ns.length := by
      rcases Nat.lt_or_ge i ns.length with h | h
      · exact h
      · rw [List.getElem?_eq_none h] at hv; cases hv
    walk_at "m_steps"
    refine holdIn ?_
    (with_unfolding_all refine' join_ok ?jm1 ?jm2 ?jm3 ?jm4 ?jm5 ?jm6 ?jm7 ?jm8 ?jm9 ?_; (case jm1 => k_in); (case jm2 => (walk_at "m_top")); (case jm3 => (walk_at "m_room")); (case jm4 => (walk_at "m_room")); (case jm5 => walk_at "join5"); (case jm6 => walk_at "join6"); (case jm7 => walk_at "join7"); (case jm8 => walk_at "join8"); (case jm9 => walk_at "join9"); intro h9 tk9 t9 st9; walk_at "m_stays")
    walk_at "m_steps"
    refine UnrEnd2 (by assumption) (by k_asm) ?_ ?_
    · intro p hp
      simp only [List.mem_cons, List.not_mem_nil, or_false] at hp
      rcases hp with rfl | rfl
      · exact hlt1
      · exact hlt2
    · refine ⟨ps ++ [(_, _)], _, _, st3 es _ _ _, _, _, _, fun y => rfl, List.mem_cons_self, List.mem_cons_of_mem _ List.mem_cons_self, by assumption, ?_⟩
      exact tree_next hn i1 i2 i3 i4 i5 hv (by assumption)
  · intro ps c o es a1 a2 a3 h tk hI F N hd
    walk_at "m_steps"
    walk_at "m_ends"
    rename News _ _ _ _ => N9
    exact hQ _ _ _ ps c o es _ _ (Fr.keep (by assumption)) (N9.get (by k_mem)) (N9.get (by k_mem)) (N9.get (by k_mem)) (N9 _ List.mem_cons_self).2.2 (N9 _ (List.mem_cons_of_mem _ (List.mem_cons_of_mem _ List.mem_cons_self))).2.2 (N9 _ (List.mem_cons_of_mem _ List.mem_cons_self)).2.2 hd hI
-- O1
theorem slice_from1 (vs : List Value) : slicePick vs.toArray (some (1 : Int)) none none = (vs.drop 1).toArray := by
  have e : sliceBounds (some (1 : Int)) none none vs.toArray.size = (((min 1 vs.toArray.size : Nat) : Int), ((vs.toArray.size : Nat) : Int), 1) := by
    simp only [sliceBounds, Option.getD_none, show (1 : Int) > 0 by decide, if_true, if_neg (show ¬ ((1 : Int) < 0) by decide)]
    congr 1
    omega
  rw [kmk_pick_nat _ e]
  congr 1
  show (vs.drop (min 1 vs.toArray.size)).take (vs.toArray.size - min 1 vs.toArray.size) = _
  rw [List.size_toArray, kmk_drop_min]
  apply List.take_of_length_le
  rw [List.length_drop]; omega
section
variable {prog : Program} {w : World} {A : Around} {E : Value → Shared → Prop} {s : Shared} {h₀ : Heap} {L : Addr} {m : Str → Option Value} {news : List (Addr × Obj)}
theorem slice_from1_B {value slice : PySem.Expr} {l : Addr} {c : List (Str × Tok)} {t : Tok} {Q : Value → Shared → Prop} (F : Fr h₀ L s.heap m) (N : News h₀ L s.heap news) (hl : h₀.IsList l (strValues c).toArray) (hz : c.length ≤ 1002)
    (h : ∀ D h', Fr h₀ L h' m → News h₀ L h' ((D, { cls := .type "list", data := .seq (strValues (c.drop 1)).toArray 0 }) :: news) → (∀ p ∈ news, p.1 < D) → Q (.ref D) { s with heap := h' })
    (hs : subscripted slice false (.ref l) (.ref s.heap.objs.size) = operate [.ref s.heap.objs.size, .ref l] (getItem (.ref l) (.ref s.heap.objs.size))) (ht : ∀ r, letTemporaryGo value (.ref l) r = pure ()) :
    wpAny (model prog w) A (subscriptTail value slice (.ref l) (.ref s.heap.objs.size)) Q E { s with heap := s.heap.push { cls := .type "slice", data := .fields #[.int 1 t, .none, .none] } } := by
  refine kmk_slice (lo := some 1) (hi := none) F N (Fr.lst F hl) (.int _ _) .none (fun D h' F' N' l1 => h D h' F' ?_ l1) hs ht (by rw [List.size_toArray, strValues, List.length_map, sizeLine_eq]; omega)
  rw [slice_from1] at N'
  have e : (strValues c).drop 1 = strValues (c.drop 1) := by rw [strValues, strValues, List.map_drop]
  rw [e] at N'
  exact N'
end
structure OS where
  lo : Int
  hi : Int
  t1 : Tok
  t2 : Tok
  a : Option Value
abbrev frO (m₀ : Str → Option Value) (a : Option Value) (v2 v1 : Option Value) : Str → Option Value := fun y => if y = Str.ofString "path" then a else if y = Str.ofString "high" then v2 else if y = Str.ofString "low" then v1 else m₀ y
section
variable {prog : Program} {w : World} {A : Around} {E : Value → Shared → Prop} {s : Shared} {env : Env} {h₀ : Heap} {target : Expr} {body : List Stmt} {Q : Flow → Shared → Prop}
theorem list_open {D : Addr} {n : Nat} {c : List (Str × Tok)} {m₀ : Str → Option Value} {news : List (Addr × Obj)} {low high : Int} {tl th : Tok} (st : Int × Int → Str → Int × Int)
    (hh : A.handled = none) (F : Fr h₀ env.locals s.heap m₀) (N : News h₀ env.locals s.heap news) (hm : (D, ({ cls := .type "list", data := .seq (strValues c).toArray n } : Obj)) ∈ news) (h1 : m₀ (Str.ofString "low") = some (.int low tl)) (h2 : m₀ (Str.ofString "high") = some (.int high th))
    (turn : ∀ (i : Nat) x tx lo hi t1 t2 a I o2 h tk, c[i]? = some (x, tx) → (∀ p ∈ news, p.1 < I) → o2.cls = .type "list_iterator" → Fr h₀ env.locals h (fun y => if y = Str.ofString "path" then a else if y = Str.ofString "high" then some (.int hi t2) else if y = Str.ofString "low" then some (.int lo t1) else m₀ y) → News h₀ env.locals h ((I, o2) :: news) →
      wpAny (model prog w) A (assign target env (.str x tx)) (fun _ s₂ => wpAny (model prog w) A (execs body env)
        (UnrPostW h₀ env.locals { s with heap := h, toks := tk } [(I, o2)] (fun m' n' => ∃ a' t1' t2', (∀ y, m' y = frO m₀ a' (some (.int (st (lo, hi) x).2 t2')) (some (.int (st (lo, hi) x).1 t1')) y) ∧ SubL news n') Q) E s₂) E { s with heap := h, toks := tk })
    (fin : ∀ lo hi t1 t2 a h tk, (lo, hi) = (c.map (·.1)).foldl st (low, high) → Fr h₀ env.locals h (fun y => if y = Str.ofString "path" then a else if y = Str.ofString "high" then some (.int hi t2) else if y = Str.ofString "low" then some (.int lo t1) else m₀ y) → News h₀ env.locals h news → Q .next { s with heap := h, toks := tk }) :
    wpAny (model prog w) A (pyIter (.ref D)) (fun it s₂ => TurnsAt prog w A h₀ env target body Q E it s₂) E s := by
  refine list_state (σ := OS) (fun b => frO m₀ b.a (some (.int b.hi b.t2)) (some (.int b.lo b.t1))) (fun _ => news) (fun i b => (b.lo, b.hi) = ((c.take i).map (·.1)).foldl st (low, high)) ⟨low, high, tl, th, m₀ (Str.ofString "path")⟩ hh F N hm rfl rfl ?_ (fun p hp => hp) (fun _ => hm) rfl ?_ ?_
  · intro y
    by_cases e3 : y = Str.ofString "path"
    · simp [frO, e3]
    · by_cases e2 : y = Str.ofString "high"
      · subst e2; simp [frO, e3, h2]
      · by_cases e1 : y = Str.ofString "low"
        · subst e1; simp [frO, e3, e2, h1]
        · simp [frO, e1, e2, e3]
  · intro i v b I o2 h tk hv hI hlt hc F N
    obtain ⟨x, tx, rfl, hx⟩ := svGet hv
    refine wpAny_mono (turn i x tx b.lo b.hi b.t1 b.t2 b.a I o2 h tk hx hlt hc F N) (fun _ s₂ h₂ => wpAny_mono h₂ (fun f s₃ h₃ => ?_) fun _ _ e => e) fun _ _ e => e
    have fin : ∀ {s₃}, UnrEndW h₀ env.locals { s with heap := h, toks := tk } [(I, o2)] (fun m' n' => ∃ a' t1' t2', (∀ y, m' y = frO m₀ a' (some (.int (st (b.lo, b.hi) x).2 t2')) (some (.int (st (b.lo, b.hi) x).1 t1')) y) ∧ SubL news n') s₃ →
        UnrEndW h₀ env.locals { s with heap := h, toks := tk } [(I, o2)] (fun m' n' => ∃ b' : OS, (∀ y, m' y = frO m₀ b'.a (some (.int b'.hi b'.t2)) (some (.int b'.lo b'.t1)) y) ∧ SubL news n' ∧ (b'.lo, b'.hi) = ((c.take (i + 1)).map (·.1)).foldl st (low, high)) s₃ := by
      rintro s₃ ⟨h', tk', m', n', e, F', N', off, a', t1', t2', hm', hs'⟩
      refine ⟨h', tk', m', n', e, F', N', off, ⟨(st (b.lo, b.hi) x).1, (st (b.lo, b.hi) x).2, t1', t2', a'⟩, hm', hs', ?_⟩
      rw [List.take_add_one, hx, List.map_append, List.foldl_append, ← hI]
      rfl
    cases f with
    | ret v => exact h₃
    | brk => exact h₃
    | next => exact fin h₃
    | cont => exact fin h₃
  · intro b h tk hI F N
    refine fin b.lo b.hi b.t1 b.t2 b.a h tk ?_ F N
    have e : (strValues c).length = c.length := by rw [strValues, List.length_map]
    rw [e, List.take_length] at hI
    exact hI
theorem item_dB {value slice : PySem.Expr} {d : Addr} {o : Obj} {kvs : List (Str × Value)} {k : Str} {t : Tok} {v : Value} {L : Addr} {m : Str → Option Value} {Q : Value → Shared → Prop} (F : Fr h₀ L s.heap m) (hw : h₀.get? d = some o) (hd : o.IsDictOf (PySem.strKind prog w) kvs) (hl : valueAt kvs k = some v) (h : Q v { s with toks := s.toks + 1 })
    (hs : subscripted slice false (.ref d) (.str k t) = operate [.ref d, .str k t] (getItem (.ref d) (.str k t))) (hg : ∀ r, letTemporaryGo value (.ref d) r = pure ()) :
    wpAny (model prog w) A (subscriptTail value slice (.ref d) (.str k t)) Q E s :=
  kda_item (h₀ := { objs := #[] }) (L := s.heap.objs.size) (news := [(d, o)]) (fun p hp => by
    rw [List.mem_singleton.mp hp]
    exact ⟨F.keep _ _ hw, Nat.ne_of_lt (Heap.lt_size (F.keep _ _ hw)), by simp [Heap.get?]⟩) List.mem_cons_self hd (strKind_is _ _ _ _) hl h hs hg
theorem item_sB {value slice : PySem.Expr} {r L : Addr} {c : List (Str × Tok)} {i : Nat} {u : Tok} {m : Str → Option Value} {Q : Value → Shared → Prop} (F : Fr h₀ L s.heap m) (hl : h₀.IsList r (strValues c).toArray) (hi : i < c.length) (hc : c.length ≤ 1002)
    (h : ∀ y t', (c.map (·.1))[i]? = some y → Q (.str y t') s)
    (hs : subscripted slice false (.ref r) (.int (i : Int) u) = operate [.ref r, .int (i : Int) u] (getItem (.ref r) (.int (i : Int) u))) (hg : ∀ v, letTemporaryGo value (.ref r) v = pure ()) :
    wpAny (model prog w) A (subscriptTail value slice (.ref r) (.int (i : Int) u)) Q E s :=
  item_strs (l := c) (Fr.lst F hl) (by omega) (by omega) (by omega) (fun y t' hy => h y t' (by simpa using hy)) hs hg
end
def openStep (b : Bool) (top e : Str) (wv : Str → Int) (lh : Int × Int) (x : Str) : Int × Int :=
  if x.cps.toList < e.cps.toList ∧ (commonF b x e == dirnameF x) = true then
    (if (Txt.count x (Str.ofString "/") - Txt.count top (Str.ofString "/")).fmod 2 = 1 then (if wv x > lh.1 then wv x else lh.1, lh.2) else (lh.1, if wv x < lh.2 then wv x else lh.2))
  else lh
section
variable {b : Bool} {top y e x : Str} {wv : Str → Int} {lo hi : Int} {l : List Str}
theorem os1 (ht : l[0]? = some top) (hy : l[0]? = some y) (c1 : x.cps.toList < e.cps.toList) (c2 : (commonF b x e == dirnameF x) = true) (c3 : (Txt.count x (Str.ofString "/") - Txt.count y (Str.ofString "/")).fmod 2 = 1) : openStep b top e wv (lo, hi) x = (if wv x > lo then wv x else lo, hi) := by
  rw [ht] at hy; cases hy
  unfold openStep; rw [if_pos ⟨c1, c2⟩, if_pos c3]
theorem os2 (ht : l[0]? = some top) (hy : l[0]? = some y) (c1 : x.cps.toList < e.cps.toList) (c2 : (commonF b x e == dirnameF x) = true) (c3 : ¬ (Txt.count x (Str.ofString "/") - Txt.count y (Str.ofString "/")).fmod 2 = 1) : openStep b top e wv (lo, hi) x = (lo, if wv x < hi then wv x else hi) := by
  rw [ht] at hy; cases hy
  unfold openStep; rw [if_pos ⟨c1, c2⟩, if_neg c3]
theorem os3 (c2 : (commonF b x e == dirnameF x) = false) : openStep b top e wv (lo, hi) x = (lo, hi) := by
  unfold openStep; rw [if_neg fun h => by rw [c2] at h; cases h.2]
theorem os4 (c1 : ¬ x.cps.toList < e.cps.toList) : openStep b top e wv (lo, hi) x = (lo, hi) := by
  unfold openStep; rw [if_neg fun h => c1 h.1]
variable {m₀ : Str → Option Value} {p a v2 v1 v1o v2o : Option Value}
theorem frO_low (z : Str) : (if z = Str.ofString "low" then v1 else if z = Str.ofString "path" then p else if z = Str.ofString "path" then a else if z = Str.ofString "high" then v2 else if z = Str.ofString "low" then v1o else m₀ z) = frO m₀ p v2 v1 z := by
  have n1 : Str.ofString "low" ≠ Str.ofString "path" := by decide
  have n2 : Str.ofString "low" ≠ Str.ofString "high" := by decide
  by_cases e1 : z = Str.ofString "low"
  · subst e1; simp [frO, n1, n2]
  · by_cases e2 : z = Str.ofString "path"
    · subst e2; simp [frO, Ne.symm n1]
    · simp [frO, e1, e2]
theorem frO_high (z : Str) : (if z = Str.ofString "high" then v2 else if z = Str.ofString "path" then p else if z = Str.ofString "path" then a else if z = Str.ofString "high" then v2o else if z = Str.ofString "low" then v1 else m₀ z) = frO m₀ p v2 v1 z := by
  have n1 : Str.ofString "high" ≠ Str.ofString "path" := by decide
  by_cases e1 : z = Str.ofString "high"
  · subst e1; simp [frO, n1]
  · by_cases e2 : z = Str.ofString "path"
    · subst e2; simp [frO, Ne.symm n1]
    · simp [frO, e1, e2]
theorem frO_path (z : Str) : (if z = Str.ofString "path" then p else if z = Str.ofString "path" then a else if z = Str.ofString "high" then v2 else if z = Str.ofString "low" then v1 else m₀ z) = frO m₀ p v2 v1 z := by
  by_cases e2 : z = Str.ofString "path"
  · simp [frO, e2]
  · simp [frO, e2]
end
theorem UnrEnd1s {h₀ : Heap} {L I : Addr} {o2 : Obj} {news all : List (Addr × Obj)} {s₁ : Shared} {h' : Heap} {tk : Nat} {m' : Str → Option Value} {rest : (Str → Option Value) → List (Addr × Obj) → Prop} (F : Fr h₀ L h' m') (N : News h₀ L h' all) (sub : ∀ p ∈ (I, o2) :: news, p ∈ all) (lt : ∀ p ∈ news, p.1 < I) (r : rest m' news) :
    UnrEndW h₀ L s₁ [(I, o2)] rest { s₁ with heap := h', toks := tk } := UnrEnd1 F (fun p hp => N p (sub p hp)) lt r
theorem openEnd {m' m₀ : Str → Option Value} {st : Int × Int} {lo hi : Int} {t1 t2 : Tok} {a : Option Value} {P : Prop} (e : st = (lo, hi)) (h : ∀ y, m' y = frO m₀ a (some (.int hi t2)) (some (.int lo t1)) y) (hp : P) :
    ∃ a' t1' t2', (∀ y, m' y = frO m₀ a' (some (.int st.2 t2')) (some (.int st.1 t1')) y) ∧ P := by
  subst e
  exact ⟨a, t1, t2, h, hp⟩
theorem fillO : PySem.Challenge.rw_un0028_01 = PySem.Challenge.rw_un0028_01 ∧ pk.heap_1 = pk.heap_1 := by
  k_fill
  exact ⟨rfl, rfl⟩
local macro_rules | `(tactic| walk_at "call ref") => `(tactic| (k_here; with_unfolding_all refine' dirname_ok ?m1 ?m2 ?m3 ?m4 ?m5 ?_; (case m1 => k_in); (case m2 => (walk_at "m_top")); (case m3 => (walk_at "m_room")); (case m4 => (walk_at "m_room")); (case m5 => omega); intro h9 tk9 t9 st9; walk_at "m_stays"))
local macro_rules | `(tactic| walk_at "subscriptTail Name Constant ref int") => `(tactic| (k_here; refine item_sB (i := 0) (by k_asm) (by assumption) (by omega) (by omega) ?_ (by with_unfolding_all rfl) (by (intro _; with_unfolding_all rfl)); (intro y9 t9 hy9; (try dsimp only))))
local macro_rules | `(tactic| walk_at "subscriptTail Name Name ref str") => `(tactic| (k_here; refine item_dB (by k_asm) (by assumption) (by assumption) (by assumption) ?_ (by with_unfolding_all rfl) (by (intro _; with_unfolding_all rfl)); (try dsimp only)))
local macro_rules | `(tactic| walk_at "pyIter ref") => `(tactic| (k_here; (with_reducible show wpAny _ _ (pyIter (Value.ref _)) (fun it s₂ => TurnsAt _ _ _ _ _ (Expr.Name _ _) _ _ _ it s₂) _ _); refine hold ?_))
local macro_rules | `(tactic| walk_at "exec For Name Subscript cons nil") => `(tactic| (k_here; (rename Fr _ _ _ _ => lF'); (with_unfolding_all refine' For_turns lF' ?_; k_whole)))
set_option maxHeartbeats 4000000 in
theorem open_ok {w : World} {p loose mean mg mb} {dp un : Nat} {fr : Option (List Env)} {gd : Option (List Code)} {s : Shared} {e : Str} {te tl th : Tok} {q dw : Addr} {ps : List (Str × Tok)} {ow : Obj} {wes : List (Str × Int × Tok)} {low high : Int} {b : Bool} {Q E : Value → Shared → Prop}
    (X : (pk.heap_1 w.params).In s.heap) (T : Top p loose mean mg mb s.heap) (hd : dp ≤ 880) (hu : un ≤ 8800)
    (hl : s.heap.IsList q (strValues ps).toArray) (hn : ps.length ≤ 14) (hw : s.heap.get? dw = some ow) (hdw : ow.IsDictOf (PySem.strKind PySem.Challenge.rw_un0028_01.row.prog w) (intKvs wes))
    (hp : ∀ x ∈ ps.map (·.1), x.length ≤ 1000 ∧ Txt.startswith x slash = b) (he : e.length ≤ 1000) (heb : Txt.startswith e slash = b) (wv : Str → Int) (hwv : ∀ x ∈ (ps.drop 1).map (·.1), ∃ t, valueAt (intKvs wes) x = some (.int (wv x) t)) (h0 : 0 < ps.length) {top : Str} (htop : (ps.map (fun x => x.fst))[0]? = some top)
    (hQ : ∀ h' tk lo hi, s.heap.StaysIn h' → (lo, hi) = ((ps.drop 1).map (·.1)).foldl (openStep b top e wv) (low, high) → Q (.bool (decide (lo < hi))) { s with heap := h', toks := tk }) :
    wpAny (model PySem.Challenge.rw_un0028_01.row.prog w) ⟨none, dp, fr, gd, un⟩ (call (.ref 182) [.ref q, .ref dw, .str e te, .int low tl, .int high th]) Q E s := by
  (refine enter (by k_in) (by exact Top.nolimit (by assumption)) (by k_is) (by k_is) (by (first | omega | ((try simp only [depth_deeper, Around.in1_depth, Around.deeper, recursionLimit]); omega))) (by (first | exact BindsTo.of_eq rfl | exact binds_K (by k_in) rfl (by k_is) rfl rfl rfl)) (by exact locs rfl) ?_ (by exact rfl) (by exact rfl) (by exact rfl) (by decide); k_whole)
  intro L h₁ hL F N
  k_fold
  walk_at "m_steps"
  (refine slice_from1_B (s := ⟨_, _, _, _, _⟩) (by k_asm) (by (first | k_asm | exact News.nil)) (by assumption) (by omega) ?_ (by with_unfolding_all rfl) (by (intro _; with_unfolding_all rfl)); (intro D9 h9 F9 N9 l9; (try k_lt l9); (try dsimp only)))
  walk_at "m_steps"
  refine holdIn ?_
  refine' list_open (s := ⟨_, _, _, _, _⟩) (low := low) (high := high) (openStep b top e wv) ?hh ?hF ?hN ?hm ?h1 ?h2 ?_ ?_
  case hh => exact rfl
  case hF => k_asm
  case hN => k_asm
  case hm => k_mem
  case h1 => exact rfl
  case h2 => exact rfl
  · intro i x tx lo hi t1 t2 a I o2 h tk hx hlt hc F N
    have hlt' := hlt
    k_lt hlt
    have hxm : x ∈ (ps.drop 1).map (·.1) := List.mem_of_getElem? (i := i) (by rw [List.getElem?_map, hx]; rfl)
    have hxp := hp x (by rw [List.map_drop] at hxm; exact List.mem_of_mem_drop hxm)
    obtain ⟨hxl, hxb⟩ := hxp
    obtain ⟨tw, htw⟩ := hwv x hxm
    clear hp hwv hxm
    walk_at "m_steps"
    refine holdIn ?_
    (with_unfolding_all refine' commonpath_ok ?cm1 ?cm2 ?cm3 ?cm4 ?cm5 ?cm6 ?cm7 ?cm8 ?cm9 ?_; (case cm9 => first | is_list | (rename News _ _ _ _ => N8; exact ⟨_, (N8 _ (by k_mem)).1, rfl, _, rfl⟩)); (case cm1 => k_in); (case cm2 => (walk_at "m_top")); (case cm3 => (walk_at "m_room")); (case cm4 => (walk_at "m_room")); (case cm5 => assumption); (case cm6 => assumption); (case cm7 => assumption); (case cm8 => assumption); intro h9 tk9 t9 st9; walk_at "m_stays")
    walk_at "m_steps"
    · refine UnrEnd1s (by assumption) (by k_asm) (by lcg_sub) hlt' ?_
      exact openEnd (os1 htop (by assumption) (by assumption) (by assumption) (by assumption)) frO_low (subL_of fun _ h => h)
    · refine UnrEnd1s (by assumption) (by k_asm) (by lcg_sub) hlt' ?_
      exact openEnd (os2 htop (by assumption) (by assumption) (by assumption) (by assumption)) frO_high (subL_of fun _ h => h)
    · refine UnrEnd1s (by assumption) (by k_asm) (by lcg_sub) hlt' ?_
      exact openEnd (os3 (by assumption)) frO_path (subL_of fun _ h => h)
    · refine UnrEnd1s (by assumption) (by k_asm) (by lcg_sub) hlt' ?_
      exact openEnd (os4 (by assumption)) frO_path (subL_of fun _ h => h)
  · intro lo hi t1 t2 a h tk hr F N
    walk_at "m_steps"
    walk_at "m_ends"
    exact hQ _ _ lo hi (Fr.keep (by assumption)) hr
-- W0
theorem va_map_ne {k k' : Str} {v : Value} (h : k' ≠ k) : ∀ kvs : List (Str × Value), ((kvs.map (fun kv => if kv.1 = k then (kv.1, v) else kv)).find? (fun kv => decide (kv.1 = k'))).map (·.2) = (kvs.find? (fun kv => decide (kv.1 = k'))).map (·.2)
  | [] => rfl
  | p :: r => by
    have ih := va_map_ne (v := v) h r
    rw [List.map_cons, List.find?_cons, List.find?_cons]
    by_cases e : p.1 = k
    · have e' : ¬ p.1 = k' := fun q => h (q.symm.trans e)
      rw [if_pos e]
      simp only [e', decide_false]
      exact ih
    · rw [if_neg e]
      by_cases e' : p.1 = k'
      · simp only [e', decide_true]
      · simp only [e', decide_false]
        exact ih
theorem va_map_eq {k : Str} {v : Value} : ∀ kvs : List (Str × Value), kvs.any (fun kv => decide (kv.1 = k)) = true → ((kvs.map (fun kv => if kv.1 = k then (kv.1, v) else kv)).find? (fun kv => decide (kv.1 = k))).map (·.2) = some v
  | [], h => by simp at h
  | p :: r, h => by
    rw [List.map_cons, List.find?_cons]
    by_cases e : p.1 = k
    · rw [if_pos e]
      simp only [e, decide_true]
      rfl
    · rw [if_neg e]
      simp only [e, decide_false]
      rw [List.any_cons] at h
      exact va_map_eq r (by simpa [e] using h)
theorem va_stored (kvs : List (Str × Value)) (k k' : Str) (v : Value) : valueAt (stored kvs k v) k' = if k' = k then some v else valueAt kvs k' := by
  unfold valueAt stored
  by_cases ha : kvs.any (fun kv => decide (kv.1 = k)) = true
  · rw [if_pos ha]
    by_cases e : k' = k
    · rw [if_pos e, e]; exact va_map_eq kvs ha
    · rw [if_neg e]; exact va_map_ne e kvs
  · rw [if_neg ha]
    rw [List.find?_append]
    by_cases e : k' = k
    · subst e
      rw [if_pos rfl]
      have : kvs.find? (fun kv => decide (kv.1 = k')) = none := by
        rw [List.find?_eq_none]
        intro p hp hq
        exact ha (List.any_eq_true.mpr ⟨p, hp, hq⟩)
      rw [this]
      simp
    · rw [if_neg e]
      have : ([(k, v)] : List (Str × Value)).find? (fun kv => decide (kv.1 = k')) = none := by
        simp [Ne.symm e]
      rw [this, Option.or_none]
-- WO
section
open LCg LCt
section
variable {prog : Program} {w : World} {A : Around} {E : Value → Shared → Prop} {s : Shared} {h₀ : Heap} {L : Addr} {m : Str → Option Value} {news : List (Addr × Obj)}
theorem slice_rev_B {value slice : PySem.Expr} {ops : List Value} {l : Addr} {c : List (Str × Tok)} {t : Tok} {Q : Value → Shared → Prop} (F : Fr h₀ L s.heap m) (N : News h₀ L s.heap news) (hl : h₀.IsList l (strValues c).toArray) (hz : c.length ≤ 1002)
    (h : ∀ D h', Fr h₀ L h' m → News h₀ L h' ((D, { cls := .type "list", data := .seq (strValues c.reverse).toArray 0 }) :: news) → (∀ p ∈ news, p.1 < D) → Q (.ref D) { s with heap := h' })
    (hs : subscripted slice false (.ref l) (.ref s.heap.objs.size) = operate ops (getItem (.ref l) (.ref s.heap.objs.size))) (ht : ∀ r, letTemporaryGo value (.ref l) r = pure ()) :
    wpAny (model prog w) A (subscriptTail value slice (.ref l) (.ref s.heap.objs.size)) Q E { s with heap := s.heap.push { cls := .type "slice", data := .fields #[.none, .none, .int (-1) t] } } := by
  refine slice_list3 (ops := ops) F N (Fr.lst F hl) .none .none (.int _ _) (by decide) (fun h' F' N' => h _ h' F' ?_ fun p hp => Nat.lt_succ_of_lt (Heap.lt_size (N p hp).1)) hs ht (by rw [List.size_toArray, strValues, List.length_map, sizeLine_eq]; omega)
  rw [krv_pick] at N'
  have e : (strValues c).toArray.toList.reverse = strValues c.reverse := by simp [strValues]
  rw [e] at N'
  exact N'
end
structure WS where
  o : Obj
  es : List (Str × Int × Tok)
  a1 : Option Value
  a2 : Option Value
  a3 : Option Value
section
variable {prog : Program} {w : World} {A : Around} {E : Value → Shared → Prop} {s : Shared} {env : Env} {h₀ : Heap} {target : Expr} {body : List Stmt} {Q : Flow → Shared → Prop}
theorem list_worths {D Dw : Addr} {n : Nat} {c : List (Str × Tok)} {m₀ : Str → Option Value} {o : Obj} {es : List (Str × Int × Tok)} {news : List (Addr × Obj)} {g : Obj → List (Addr × Obj)} {oc : Obj} (IP : Nat → List (Str × Int × Tok) → Prop)
    (hh : A.handled = none) (F : Fr h₀ env.locals s.heap m₀) (N : News h₀ env.locals s.heap news) (hcell : oc.data = .cell (some (.ref Dw))) (U : UpdF Dw o news g) (hg : g o = news) (hk : ∀ o', (D, ({ cls := .type "list", data := .seq (strValues c).toArray n } : Obj)) ∈ g o')
    (hd : o.IsDictOf (PySem.strKind prog w) (intKvs es)) (h0 : IP 0 es)
    (turn : ∀ (i : Nat) x tx o es a1 a2 a3 I o2 h tk, c[i]? = some (x, tx) → IP i es → (∀ p ∈ news, p.1 < I) → o2.cls = .type "list_iterator" → o.IsDictOf (PySem.strKind prog w) (intKvs es) →
      Fr h₀ env.locals h (fun y => if y = Str.ofString "odd" then a3 else if y = Str.ofString "told" then a2 else if y = Str.ofString "path" then a1 else m₀ y) → News h₀ env.locals h ((I, o2) :: g o) →
      wpAny (model prog w) A (assign target env (.str x tx)) (fun _ s₂ => wpAny (model prog w) A (execs body env)
        (UnrPostW h₀ env.locals { s with heap := h, toks := tk } [(I, o2)] (fun m' n' => ∃ o' es' b1 b2 b3, (∀ y, m' y = fr3 (Str.ofString "path") (Str.ofString "told") (Str.ofString "odd") (fun y => if y = Str.ofString "odd" then a3 else if y = Str.ofString "told" then a2 else if y = Str.ofString "path" then a1 else m₀ y) b1 b2 b3 y) ∧
          SubL (g o') n' ∧ o'.IsDictOf (PySem.strKind prog w) (intKvs es') ∧ IP (i + 1) es') Q) E s₂) E { s with heap := h, toks := tk })
    (fin : ∀ o es a1 a2 a3 h tk, IP c.length es → o.IsDictOf (PySem.strKind prog w) (intKvs es) → Fr h₀ env.locals h (fun y => if y = Str.ofString "odd" then a3 else if y = Str.ofString "told" then a2 else if y = Str.ofString "path" then a1 else m₀ y) →
      News h₀ env.locals h (g o) → Q .next { s with heap := h, toks := tk }) :
    wpAny (model prog w) A (pyIter (.ref D)) (fun it s₂ => TurnsAt prog w A h₀ env target body Q E it s₂) E s := by
  have _ := U
  have _ := hcell
  refine list_state (σ := WS) (fun b => fr3 (Str.ofString "path") (Str.ofString "told") (Str.ofString "odd") m₀ b.a1 b.a2 b.a3) (fun b => g b.o)
    (fun i b => b.o.IsDictOf (PySem.strKind prog w) (intKvs b.es) ∧ IP i b.es) ⟨o, es, m₀ (Str.ofString "path"), m₀ (Str.ofString "told"), m₀ (Str.ofString "odd")⟩ hh F N (hg ▸ hk o) rfl rfl (fr3_self _ _ _ m₀) (fun p hp => hg ▸ hp) (fun b => hk b.o) ⟨hd, h0⟩ ?_ ?_
  · intro i v b I o2 h tk hv hInv hlt hc F N
    obtain ⟨x, tx, rfl, hx⟩ := svGet hv
    refine wpAny_mono (turn i x tx b.o b.es b.a1 b.a2 b.a3 I o2 h tk hx hInv.2 hlt hc hInv.1 F N) (fun _ s₂ h₂ => wpAny_mono h₂ (fun f s₃ h₃ => ?_) fun _ _ e => e) fun _ _ e => e
    have fin : ∀ {s₃}, UnrEndW h₀ env.locals { s with heap := h, toks := tk } [(I, o2)] (fun m' n' => ∃ o' es' b1 b2 b3, (∀ y, m' y = fr3 (Str.ofString "path") (Str.ofString "told") (Str.ofString "odd") (fr3 (Str.ofString "path") (Str.ofString "told") (Str.ofString "odd") m₀ b.a1 b.a2 b.a3) b1 b2 b3 y) ∧
          SubL (g o') n' ∧ o'.IsDictOf (PySem.strKind prog w) (intKvs es') ∧ IP (i + 1) es') s₃ →
        UnrEndW h₀ env.locals { s with heap := h, toks := tk } [(I, o2)] (fun m' n' => ∃ b' : WS, (∀ y, m' y = fr3 (Str.ofString "path") (Str.ofString "told") (Str.ofString "odd") m₀ b'.a1 b'.a2 b'.a3 y) ∧ SubL (g b'.o) n' ∧
          (b'.o.IsDictOf (PySem.strKind prog w) (intKvs b'.es) ∧ IP (i + 1) b'.es)) s₃ := by
      rintro s₃ ⟨h', tk', m', n', e, F', N', off, o', es', b1, b2, b3, hm, k1, hd', hp⟩
      exact ⟨h', tk', m', n', e, F', N', off, ⟨o', es', b1, b2, b3⟩, fun y => (hm y).trans (fr3_again _ _ _ _ _ _ _ _ _ _ y), k1, hd', hp⟩
    cases f with
    | ret v => exact h₃
    | brk => exact h₃
    | next => exact fin h₃
    | cont => exact fin h₃
  · intro b h tk hInv F N
    have e : (strValues c).length = c.length := by rw [strValues, List.length_map]
    rw [e] at hInv
    exact fin b.o b.es b.a1 b.a2 b.a3 h tk hInv.2 hInv.1 F N
end
def RelW (wv : Str → Int) (v y : Value) : Prop := ∃ k t tn, v = .str k t ∧ y = .int (wv k) tn
theorem svMem2 {l : List (Str × Tok)} {v : Value} (h : v ∈ strValues l) : ∃ c t, v = .str c t ∧ c ∈ l.map (fun x => x.fst) := by
  obtain ⟨p, hp, rfl⟩ := List.mem_map.mp h
  exact ⟨_, _, rfl, List.mem_map_of_mem hp⟩
theorem relW_ints {wv : Str → Int} : ∀ {c : List (Str × Tok)} {ys : List Value}, All2 (RelW wv) (strValues c) ys → IntsAre ys (c.map fun p => wv p.1)
  | [], _, .nil => .nil
  | p :: r, _, .cons (b := y) h hr => by
    obtain ⟨k, t, tn, e1, rfl⟩ := h
    have e1' : Value.str p.1 p.2 = .str k t := e1
    cases e1'
    exact .cons _ _ (relW_ints hr)
theorem Src2.baseRel {elt : Expr} {x : Str} {scope : Scope} {cl : List (Str × Addr)} {prog : Program} {w : World} {A : Around} {h₀ : Heap} {L : Addr} {m : Str → Option Value} {env : Env} {Fin : Shared → List Value → List (Addr × Obj) → Prop} {ax : Addr} {its : List Value} {news : List (Addr × Obj)} {s₁ : Shared} (Rl : Value → Value → Prop)
    (hl : h₀.IsList ax its.toArray) (hh : A.handled = none) (F : Fr h₀ L s₁.heap m) (N : News h₀ L s₁.heap news) (hsz : its.length ≤ sizeLine)
    (turn : ∀ v C oC m₂ h tk (E' : Value → Shared → Prop) (Q' : Value → Shared → Prop), v ∈ its → NsObj oC m₂ → m₂ x = some v → Fr h₀ L h m → News h₀ L h ((C, oC) :: news) →
      (∀ y h' tk', Rl v y → h.StaysIn h' → Q' y { s₁ with heap := h', toks := tk' }) → wpAny (model prog w) A (eval elt (compEnvC scope cl C env)) Q' E' { s₁ with heap := h, toks := tk })
    (fin : ∀ g ys, All2 Rl its ys → Fin { s₁ with heap := g } ys news) :
    Src2 prog w A h₀ L m env elt x scope cl Fin (.ref ax) s₁ :=
  ⟨"list", ax, its.toArray, news, .inl rfl, rfl, hh, F, N, SrcAt2.base hl, by simpa using hsz, fun _ ⟨g, e⟩ => e ▸ restU_rel its Rl (by simp) (fun i v h => by simpa using h) (SrcAt2.base hl) turn (fin g)⟩
def minL : List Int → Int
  | [] => 0
  | [a] => a
  | a :: b :: r => min a (minL (b :: r))
def maxL : List Int → Int
  | [] => 0
  | [a] => a
  | a :: b :: r => max a (maxL (b :: r))
theorem minL_is : ∀ {l : List Int} {m : Int}, m ∈ l → (∀ a ∈ l, m ≤ a) → minL l = m
  | [a], m, h, _ => by simpa [minL] using (List.mem_singleton.mp h).symm
  | a :: b :: r, m, h, hl => by
    have h1 := hl a List.mem_cons_self
    rcases List.mem_cons.mp h with rfl | h
    · have h2 : m ≤ minL (b :: r) := by
        have : ∀ {l : List Int}, l ≠ [] → minL l ∈ l := by
          intro l
          induction l with
          | nil => intro h; exact absurd rfl h
          | cons c q ih =>
            intro _
            cases q with
            | nil => exact List.mem_cons_self
            | cons d q =>
              have := ih (by simp)
              rcases Int.le_total c (minL (d :: q)) with h | h
              · rw [minL, Int.min_eq_left h]; exact List.mem_cons_self
              · rw [minL, Int.min_eq_right h]; exact List.mem_cons_of_mem _ this
        exact hl _ (List.mem_cons_of_mem _ (this (by simp)))
      rw [minL, Int.min_eq_left h2]
    · have ih := minL_is h fun c hc => hl c (List.mem_cons_of_mem _ hc)
      rw [minL, ih, Int.min_eq_right h1]
theorem maxL_is : ∀ {l : List Int} {m : Int}, m ∈ l → (∀ a ∈ l, a ≤ m) → maxL l = m
  | [a], m, h, _ => by simpa [maxL] using (List.mem_singleton.mp h).symm
  | a :: b :: r, m, h, hl => by
    have h1 := hl a List.mem_cons_self
    rcases List.mem_cons.mp h with rfl | h
    · have h2 : maxL (b :: r) ≤ m := by
        have : ∀ {l : List Int}, l ≠ [] → maxL l ∈ l := by
          intro l
          induction l with
          | nil => intro h; exact absurd rfl h
          | cons c q ih =>
            intro _
            cases q with
            | nil => exact List.mem_cons_self
            | cons d q =>
              have := ih (by simp)
              rcases Int.le_total (maxL (d :: q)) c with h | h
              · rw [maxL, Int.max_eq_left h]; exact List.mem_cons_self
              · rw [maxL, Int.max_eq_right h]; exact List.mem_cons_of_mem _ this
        exact hl _ (List.mem_cons_of_mem _ (this (by simp)))
      rw [maxL, Int.max_eq_left h2]
    · have ih := maxL_is h fun c hc => hl c (List.mem_cons_of_mem _ hc)
      rw [maxL, ih, Int.max_eq_right h1]
def worthVal (top x : Str) (e : Int) (told : List Int) : Int :=
  if told = [] then e else if ((Txt.count x (Str.ofString "/") - Txt.count top (Str.ofString "/")).fmod 2 == 1) = true then minL told else maxL told
section
variable {prog : Program} {w : World} {A : Around} {E : Value → Shared → Prop} {s : Shared} {h₀ : Heap} {L : Addr} {m : Str → Option Value} {news : List (Addr × Obj)}
theorem min_told {D : Addr} {ys : List Value} {n : Nat} {ns : List Int} {Q : Value → Shared → Prop} (hh : A.handled = none) (F : Fr h₀ L s.heap m) (N : News h₀ L s.heap news) (hm : (D, ({ cls := .type "list", data := .seq ys.toArray n } : Obj)) ∈ news) (hi : IntsAre ys ns) (hne : decide (ns = []) = false)
    (h : ∀ h' t tk, Fr h₀ L h' m → News h₀ L h' news → Q (.int (minL ns) t) { s with heap := h', toks := tk }) : wpAny (model prog w) A (call (.builtin "min") [.ref D]) Q E s :=
  min_list_N hh F N ⟨_, (N _ hm).1, rfl, _, rfl⟩ hi (List.length_pos_iff.mpr (of_decide_eq_false hne)) fun h' M t tk F' N' h1 h2 => by
    have := h h' t tk F' N'
    rw [minL_is h1 h2] at this
    exact this
theorem max_told {D : Addr} {ys : List Value} {n : Nat} {ns : List Int} {Q : Value → Shared → Prop} (hh : A.handled = none) (F : Fr h₀ L s.heap m) (N : News h₀ L s.heap news) (hm : (D, ({ cls := .type "list", data := .seq ys.toArray n } : Obj)) ∈ news) (hi : IntsAre ys ns) (hne : decide (ns = []) = false)
    (h : ∀ h' t tk, Fr h₀ L h' m → News h₀ L h' news → Q (.int (maxL ns) t) { s with heap := h', toks := tk }) : wpAny (model prog w) A (call (.builtin "max") [.ref D]) Q E s :=
  max_list_N hh F N ⟨_, (N _ hm).1, rfl, _, rfl⟩ hi (List.length_pos_iff.mpr (of_decide_eq_false hne)) fun h' M t tk F' N' h1 h2 => by
    have := h h' t tk F' N'
    rw [maxL_is h1 h2] at this
    exact this
end
end
local macro_rules | `(tactic| walk_at "call builtin:min") => `(tactic| (k_here; refine min_told (by exact rfl) (by k_asm) (by k_asm) (by k_mem) (by assumption) (by assumption) ?_; (intro h9 t9 tk9 F9 N9; (try dsimp only))))
local macro_rules | `(tactic| walk_at "call builtin:max") => `(tactic| (k_here; refine max_told (by exact rfl) (by k_asm) (by k_asm) (by k_mem) (by assumption) (by assumption) ?_; (intro h9 t9 tk9 F9 N9; (try dsimp only))))
section
open LCg LCt
def WInv (wv : Str → Int) (c : List (Str × Tok)) (i : Nat) (es : List (Str × Int × Tok)) : Prop :=
  es.length ≤ i ∧ ∀ k ∈ (c.take i).map (fun x => x.fst), ∃ t, valueAt (intKvs es) k = some (.int (wv k) t)
theorem winv_next {wv : Str → Int} {c : List (Str × Tok)} {i : Nat} {es : List (Str × Int × Tok)} {x : Str} {tx t : Tok} {v : Int} (h : WInv wv c i es) (hx : c[i]? = some (x, tx)) (hv : v = wv x) : WInv wv c (i + 1) (st3 es x v t) := by
  refine ⟨?_, fun k hk => ?_⟩
  · unfold st3
    have := h.1
    split
    · rw [List.length_map]; omega
    · rw [List.length_append]; simp; omega
  · rw [st3_kvs, va_stored]
    by_cases e : k = x
    · subst e; exact ⟨t, by rw [if_pos rfl, hv]⟩
    · rw [if_neg e]
      rw [List.take_add_one, hx, List.map_append, List.mem_append] at hk
      rcases hk with hk | hk
      · exact h.2 k hk
      · exact absurd (by simpa using hk) e
section
variable {wv : Str → Int} {top y x : Str} {e : Int} {cc : List (Str × Tok)} {l inn : List Str}
theorem wend1 (hw : wv x = worthVal top x e (inn.map wv)) (hcm : cc.map (fun x => x.fst) = inn) (c : decide (cc.map (fun p => wv p.fst) = []) = true) : e = wv x := by
  have e1 : inn.map wv = cc.map (fun p => wv p.fst) := by rw [← hcm, List.map_map]; rfl
  rw [hw, e1]; unfold worthVal; rw [if_pos (of_decide_eq_true c)]
theorem wend2 (hw : wv x = worthVal top x e (inn.map wv)) (hcm : cc.map (fun x => x.fst) = inn) (ht : l[0]? = some top) (hy : l[Int.toNat 0]? = some y) (c : decide (cc.map (fun p => wv p.fst) = []) = false)
    (c2 : (Txt.count x (Str.ofString "/") - Txt.count y (Str.ofString "/")).fmod 2 = 1) : minL (cc.map (fun p => wv p.fst)) = wv x := by
  have hy' : l[0]? = some y := hy
  rw [ht] at hy'; cases hy'
  have e1 : inn.map wv = cc.map (fun p => wv p.fst) := by rw [← hcm, List.map_map]; rfl
  rw [hw, e1]; unfold worthVal; rw [if_neg (of_decide_eq_false c), if_pos (by rw [c2]; rfl)]
theorem wend3 (hw : wv x = worthVal top x e (inn.map wv)) (hcm : cc.map (fun x => x.fst) = inn) (ht : l[0]? = some top) (hy : l[Int.toNat 0]? = some y) (c : decide (cc.map (fun p => wv p.fst) = []) = false)
    (c2 : ¬ (Txt.count x (Str.ofString "/") - Txt.count y (Str.ofString "/")).fmod 2 = 1) : maxL (cc.map (fun p => wv p.fst)) = wv x := by
  have hy' : l[0]? = some y := hy
  rw [ht] at hy'; cases hy'
  have e1 : inn.map wv = cc.map (fun p => wv p.fst) := by rw [← hcm, List.map_map]; rfl
  rw [hw, e1]; unfold worthVal; rw [if_neg (of_decide_eq_false c), if_neg (fun h => c2 (eq_of_beq h))]
end
end
local macro_rules | `(tactic| walk_at "subscriptTail Name Name ref str") => `(tactic| (k_here; refine kda_item (knd := PySem.strKind _ _) (by k_asm) (by k_mem) (by k_asm) (strKind_is _ _ _ _) (by assumption) ?_ (by with_unfolding_all rfl) (by (intro _; with_unfolding_all rfl)); (try dsimp only)))
section
open LCg LCt
theorem fillW : PySem.Challenge.rw_un0028_01 = PySem.Challenge.rw_un0028_01 ∧ pk.heap_1 = pk.heap_1 := by
  k_fill
  exact ⟨rfl, rfl⟩
set_option maxHeartbeats 4000000 in
theorem worths_ok {w : World} {p loose mean mg mb} {dp un : Nat} {fr : Option (List Env)} {gd : Option (List Code)} {s : Shared} {q de di : Addr} {ps : List (Str × Tok)} {oe oi : Obj} {ees : List (Str × Int × Tok)} {iks : List (Str × Value)} {Q E : Value → Shared → Prop}
    (X : (pk.heap_1 w.params).In s.heap) (T : Top p loose mean mg mb s.heap) (hd : dp ≤ 880) (hu : un ≤ 8800)
    (hl : s.heap.IsList q (strValues ps).toArray) (hn : ps.length ≤ 14) (hne : 0 < ps.length) (he : s.heap.get? de = some oe) (hde : oe.IsDictOf (PySem.strKind PySem.Challenge.rw_un0028_01.row.prog w) (intKvs ees))
    (hi : s.heap.get? di = some oi) (hdi : oi.IsDictOf (PySem.strKind PySem.Challenge.rw_un0028_01.row.prog w) iks)
    (inn : Str → List Str) (env : Str → Int) (wv : Str → Int) (hin : ∀ x ∈ ps.map (fun x => x.fst), ∃ r c, valueAt iks x = some (.ref r) ∧ s.heap.IsList r (strValues c).toArray ∧ c.length ≤ 14 ∧ c.map (fun x => x.fst) = inn x)
    (hen : ∀ x ∈ ps.map (fun x => x.fst), ∃ t, valueAt (intKvs ees) x = some (.int (env x) t)) (hord : ∀ (i : Nat) x tx, ps.reverse[i]? = some (x, tx) → ∀ k ∈ inn x, k ∈ (ps.reverse.take i).map (fun x => x.fst))
    {top : Str} (htop : (ps.map (fun x => x.fst))[0]? = some top) (hwv : ∀ x ∈ ps.map (fun x => x.fst), wv x = worthVal top x (env x) ((inn x).map wv))
    (hQ : ∀ D o es h' tk, s.heap.StaysIn h' → s.heap.get? D = none → h'.get? D = some o → o.IsDictOf (PySem.strKind PySem.Challenge.rw_un0028_01.row.prog w) (intKvs es) → (∀ x ∈ ps.map (fun x => x.fst), ∃ t, valueAt (intKvs es) x = some (.int (wv x) t)) → Q (.ref D) { s with heap := h', toks := tk }) :
    wpAny (model PySem.Challenge.rw_un0028_01.row.prog w) ⟨none, dp, fr, gd, un⟩ (call (.ref 168) [.ref q, .ref de, .ref di]) Q E s := by
  (refine enterC (by k_in) (by exact Top.nolimit (by assumption)) (by k_is) (by k_is) (by (first | omega | ((try simp only [depth_deeper, Around.in1_depth, Around.deeper, recursionLimit]); omega))) (by (first | exact BindsTo.of_eq rfl | exact binds_K (by k_in) rfl (by k_is) rfl rfl rfl)) (by exact rfl) (by decide +kernel) ?_ (by exact rfl) (by exact rfl) (by exact rfl); k_whole)
  intro L h₁ tk cells hL F N Y
  k_cells Y
  (try dsimp only)
  (with_reducible show wpAny _ _ _ _ _ _)
  k_fold
  walk_at "m_steps"
  ((with_reducible show wpAny _ _ (subscriptTail _ (Expr.Slice none none (some _) _) _ _) _ _ _); refine slice_rev_B (s := ⟨_, _, _, _, _⟩) (by k_asm) (by (first | k_asm | exact News.nil)) (by assumption) (by omega) ?_ (by with_unfolding_all rfl) (by (intro _; with_unfolding_all rfl)); (intro D9 h9 F9 N9 l9; (try k_lt l9); (try dsimp only)))
  walk_at "m_steps"
  refine holdIn ?_
  refine' list_worths (s := ⟨_, _, _, _, _⟩) (es := []) (WInv wv ps.reverse) ?hh ?hF ?hN ?hcell ?hU ?hg ?hk ?hd ?h0 ?_ ?_
  case hh => exact rfl
  case hF => k_asm
  case hN => k_asm
  case hd => k_asm
  case hcell => assumption
  case hU => k_updF
  case h0 => exact ⟨Nat.le_refl _, fun _ h => by simp at h⟩
  case hg => exact rfl
  case hk => (intro o'; k_mem)
  · intro i x tx o es a1 a2 a3 I o2 h tk hx hI hlt hc hdo F N
    have hlt' := hlt
    k_lt hlt
    (try dsimp only at N)
    have hxm : x ∈ ps.map (fun x => x.fst) := List.mem_reverse.mp (List.mem_of_getElem? (i := i) (by rw [← List.map_reverse, List.getElem?_map, hx]; rfl))
    obtain ⟨r, cc, hr, hrl, hcl, hcm⟩ := hin x hxm
    obtain ⟨te, hte⟩ := hen x hxm
    have hord' := hord i x tx hx
    have hIw := hI
    have hwx := hwv x hxm
    obtain ⟨hI1, hI2⟩ := hI
    have hi14 : i < ps.length := by
      rcases Nat.lt_or_ge i ps.length with h | h
      · exact h
      · rw [List.getElem?_eq_none (by rw [List.length_reverse]; exact h)] at hx; cases hx
    have hkids : ∀ k ∈ cc.map (fun x => x.fst), ∃ t, valueAt (intKvs es) k = some (.int (wv k) t) := fun k hk => hI2 k (hord' k (hcm ▸ hk))
    clear hin hen hord hI2 hord' hwv
    walk_at "m_steps"
    refine Src2.baseRel (RelW wv) hrl rfl (by k_asm) (by k_asm) (by rw [strValues, List.length_map, sizeLine_eq]; omega) ?_ ?_
    · intro v C oC m₂ h tk E' Q' hv hC hx F' N' q
      obtain ⟨k, tk', rfl, hkm⟩ := svMem2 hv
      obtain ⟨tv, hkv⟩ := hkids k hkm
      walk_at "m_steps"
      exact q _ _ _ ⟨_, _, _, rfl, rfl⟩ fun _ _ e => e
    intro g ys hys
    have hints := relW_ints hys
    walk_at "m_steps"
    all_goals (refine UnrEnd1s (by assumption) (by k_asm) (by lcg_sub) ?_ ⟨_, _, _, _, _, fun y => rfl, subL_of fun _ h => h, by assumption, ?_⟩)
    all_goals try (intro p hp; simp only [List.mem_cons, List.not_mem_nil, or_false] at hp; (rcases hp with hp | hp | hp) <;> (subst hp; first | exact hlt.1 | exact hlt.2.1 | exact hlt.2.2.1))
    · exact winv_next hIw hx (wend1 hwx (by assumption) (by assumption))
    · exact winv_next hIw hx (wend2 hwx (by assumption) htop (by assumption) (by assumption) (by assumption))
    · exact winv_next hIw hx (wend3 hwx (by assumption) htop (by assumption) (by assumption) (by assumption))
  · intro o es a1 a2 a3 h tk hI hdo F N
    (try dsimp only at N)
    walk_at "m_steps"
    walk_at "m_ends"
    refine hQ _ o es _ _ (Fr.keep (by assumption)) (N (_, o) (by k_mem)).2.2 (N.get (by k_mem)) hdo fun x hx => ?_
    refine hI.2 x ?_
    rw [List.take_length, List.map_reverse, List.mem_reverse]
    exact hx
end
-- S1
structure Part (h₀ h : Heap) (own : List (Addr × Obj)) : Prop where
  keep : ∀ b o, h₀.get? b = some o → h.get? b = some o
  size : h₀.objs.size ≤ h.objs.size
  own : ∀ p ∈ own, h.get? p.1 = some p.2 ∧ h₀.get? p.1 = none
theorem Part.up {h₀ h : Heap} {own : List (Addr × Obj)} (P : Part h₀ h own) : ∀ b o, h₀.get? b = some o → (hideAll h (own.map (·.1))).get? b = some o := fun b o e =>
  hideAll_get _ (P.keep b o e) fun hm => by
    obtain ⟨p, hp, rfl⟩ := List.mem_map.mp hm
    rw [(P.own p hp).2] at e; cases e
theorem Part.self {h₀ h : Heap} {own : List (Addr × Obj)} (P : Part h₀ h own) : Part (hideAll h (own.map (·.1))) h own :=
  ⟨fun _ _ e => of_hideAll _ e, Nat.le_of_eq (hideAll_size _ _), fun p hp => ⟨(P.own p hp).1, hideAll_none _ (List.mem_map_of_mem hp)⟩⟩
def StaysBut (as : List Addr) (h h' : Heap) : Prop := ∀ b o, b ∉ as → h.get? b = some o → h'.get? b = some o
theorem staysBut_hide {as : List Addr} {h h' : Heap} (k : ∀ b o, (hideAll h as).get? b = some o → h'.get? b = some o) : StaysBut as h h' := fun b o hb e => k b o (hideAll_get _ e hb)
section
variable {prog : Program} {w : World} {A : Around} {s : Shared} {K : Frag} {Q E : Value → Shared → Prop}
theorem enterG {h₀ : Heap} {own : List (Addr × Obj)} {name qual : Str} {params : Arguments} {body : List Stmt} {scope : Scope} {dV kV doc pm cdv ct oc : Value} {an od : Option Addr} {osl : Array (Option Value)} {f : Addr} {args : List Value} {binds : List (Str × Value)}
    (P : Part h₀ s.heap own) (X : K.In h₀) (hlim : s.heap.NoLimit)
    (ho : K.lookup f = some ⟨oc, od, .func (fnOf name qual params body scope dV kV doc pm an cdv ct), osl⟩) (hcd : codeIn K cdv qual = true) (hroom : A.depth < recursionLimit)
    (hbind : BindsTo s (fnOf name qual params body scope dV kV doc pm an cdv ct) ⟨args, []⟩ binds)
    (hkind : (binds.all fun y => scope.names.lookup y.1 == some .local || scope.names.lookup y.1 == some .cell) = true)
    (hnd : ((cellsFrom 0 scope.names []).map (·.1)).Nodup)
    (h : ∀ L h₁ tk cells, L = s.heap.objs.size → Fr h₀ L h₁ (bindL (envOfC qual scope L f cdv).kindOf binds fun _ => none) → News h₀ L h₁ (cells ++ own) → (∀ b o, s.heap.get? b = some o → h₁.get? b = some o) →
      CellsAre (bindC (envOfC qual scope L f cdv).kindOf binds fun _ => none) (cellsFrom (L + 1) scope.names []) cells →
      wpAny (model prog w) (A.deeper (envOfC qual scope L f cdv)) (execs body (envOfC qual scope L f cdv))
        (fun fl s' => Q (match fl with | .ret v => v | _ => .none) s') (fun _ _ => False) { s with heap := h₁, toks := tk })
    (hco : scope.isCoroutine = false) (hgen : scope.isGenerator = false) (hk : scope.kind = .function) : wpAny (model prog w) A (call (.ref f) args) Q E s := by
  have X' : K.In s.heap := X.keeps P.keep
  refine wpAny_call (codeAny_call_function (fd := fnOf name qual params body scope dV kV doc pm an cdv ct) (body := body) hroom (X' _ _ ho) rfl hco hgen rfl (codeRec_of X' hcd) (hbind _ _ _ _ ?_))
  refine wpAny_newFunctionEnv_cells hk (kindsX hkind _) fun env' he s' x => ?_
  subst he
  refine ⟨hlim.keeps x.toInCall.keep, codeAny_func ?_⟩
  obtain ⟨h₁, tk, rfl, _⟩ := x.done
  obtain ⟨cells, NC, Y⟩ := Cl.news (h₀ := s.heap) (Nat.le_refl _) fun n c hm => ⟨x.cell n c (lookup_of_mem_nodup (cellsFrom_names scope.names 0 (s.heap.objs.size + 1) [] [] rfl ▸ hnd) hm), x.above n c hm⟩
  have hkeep := x.toInCall.keep
  refine wpAny_mono (h s.heap.objs.size h₁ tk cells rfl ⟨x.toInCall.ns, fun b o e => hkeep _ _ (P.keep b o e), P.size⟩ (fun p hp => ?_) hkeep Y) (fun _ _ x => x) fun _ _ x => x.elim
  rcases List.mem_append.mp hp with hp | hp
  · have n := NC p hp
    refine ⟨n.1, n.2.1, ?_⟩
    cases e : h₀.get? p.1 with
    | none => rfl
    | some o => have := P.keep _ _ e; rw [n.2.2] at this; cases this
  · have n := P.own p hp
    exact ⟨hkeep _ _ n.1, Nat.ne_of_lt (Heap.lt_size n.1), n.2⟩
end
-- S0
theorem triples_snoc (l : List Value) (a b : Int) (t u : Tok) (c : Value) (h : TriplesOk l) : TriplesOk (l ++ [.int a t, .int b u, c]) := by
  fun_induction TriplesOk l with
  | case1 => exact trivial
  | case2 _ _ _ _ _ rest ih => exact ih h
  | case3 => exact h.elim
theorem codeAmong_app {pos pos' : Pos} {c cv : Value} (l : List Value) (h : TriplesOk l) (e : codeAmong pos' (l ++ [rawInt pos.line, rawInt pos.col, c]) = some cv) : codeAmong pos' l = some cv ∨ cv = c := by
  fun_induction TriplesOk l with
  | case1 =>
    simp only [List.nil_append, rawInt, codeAmong] at e
    split at e
    · exact .inr (Option.some.inj e).symm
    · cases e
  | case2 a t b u d rest ih =>
    simp only [List.cons_append, codeAmong] at e ⊢
    split at e
    · rename_i hc
      rw [if_pos hc]; exact .inl e
    · rename_i hc
      rw [if_neg hc]; exact ih h e
  | case3 => exact h.elim
def TabOk (h : Heap) (P : Addr) (q : Str) (ps : Array Value) : Prop :=
  TriplesOk ps.toList ∧ ∀ pos cv, codeAmong pos ps.toList = some cv → ∃ c', cv = .ref c' ∧ c' ≠ P ∧ h.CodeRec (.ref c') q
theorem TabOk.but {h h' : Heap} {P : Addr} {q : Str} {ps : Array Value} (x : TabOk h P q ps) (k : ∀ b o, b ≠ P → h.get? b = some o → h'.get? b = some o) : TabOk h' P q ps :=
  ⟨x.1, fun pos cv e => by
    obtain ⟨c', e1, hne, c2, oc, vs, tq, e2, hoc, r⟩ := x.2 pos cv e
    cases e2
    exact ⟨_, e1, hne, _, oc, vs, tq, rfl, k _ _ hne hoc, r⟩⟩
theorem TabOk.grown {h h' : Heap} {P c' : Addr} {q : Str} {ps vs : Array Value} {pos : Pos} {oc : Obj} {t : Tok} (x : TabOk h P q ps) (k : ∀ b o, h.get? b = some o → b ≠ P → h'.get? b = some o) (hc : h'.get? c' = some oc) (hd : oc.data = .fields vs) (hv : vs[1]? = some (.str q t)) (hne : c' ≠ P) :
    TabOk h' P q (ps ++ #[rawInt pos.line, rawInt pos.col, .ref c']) := by
  refine ⟨?_, fun pos' cv e => ?_⟩
  · rw [Array.toList_append]
    exact triples_snoc _ _ _ _ _ _ x.1
  · rw [Array.toList_append] at e
    rcases codeAmong_app (pos := pos) _ x.1 e with e | e
    · obtain ⟨c2, e1, hn, c3, oc3, vs3, tq, e2, hoc, r⟩ := x.2 pos' cv e
      cases e2
      exact ⟨_, e1, hn, _, oc3, vs3, tq, rfl, k _ _ hoc hn, r⟩
    · exact ⟨c', e, hne, c', oc, vs, t, rfl, hc, hd, hv⟩
-- R1
section
open PySem.Calls
abbrev itObj (l : Addr) : Obj := { cls := .type "list_iterator", data := .fields #[.ref l, .int 0 0] }
section
variable {prog : Program} {w : World} {A : Around} {E : Value → Shared → Prop} {s : Shared} {env : Env} {h₀ : Heap} {L : Addr} {m : Str → Option Value} {news : List (Addr × Obj)} {target : Expr} {body : List Stmt} {Q : Flow → Shared → Prop}
theorem iter_list {l : Addr} {items : Array Value} {Q : Value → Shared → Prop} (F : Fr h₀ L s.heap m) (N : News h₀ L s.heap news) (hl : h₀.IsList l items)
    (h : ∀ (I : Addr) h', Fr h₀ L h' m → News h₀ L h' ((I, itObj l) :: news) → (∀ p ∈ news, p.1 < I) → Q (.ref I) { s with heap := h' }) :
    wpAny (model prog w) A (call (.builtin "iter") [.ref l]) Q E s := by
  refine call_function_entry (by decide +kernel) (by decide +kernel) kdk_entry_iter (kdk_args_iter _) ?_
  unfold Builtin.«iter»
  refine wpAny_bind (m := someArgs "iter" 1 2 _) (wpAny_of_eq (a := [Value.ref l]) (by first | rfl | kernel_rfl!) ?_)
  show wpAny _ _ (pyIter (.ref l) >>= _) _ _ _
  refine wpAny_bind (wpAny_pyIter_list (Fr.lst F hl) ?_)
  exact wpAny_pure ⟨_, rfl, h _ _ (F.push _) (News.push F N _ rfl) (fun q hq => Heap.lt_size (N q hq).1)⟩
theorem base_turnsP {σ : Type} {I : Addr} {fp wr : List Addr} {n : Nat} {P Md : Nat → Value → Heap → Prop} {St : Nat → Heap → Prop} {ws : List Addr} {Ob : List (Addr × Obj) → Prop} {m₀ : Str → Option Value} {hp : Heap} {tk0 : Nat}
    (fm : σ → Str → Option Value) (ns : σ → List (Addr × Obj)) (Inv : Nat → σ → Prop) (a : σ)
    (W : KTurns prog w A target I fp wr n P Md St) (hobj : ∀ i h, St i h → ∃ its, its.map (·.1) = ws ∧ Ob its ∧ ∀ p ∈ its, h.get? p.1 = some p.2)
    (hws : ∀ b ∈ ws, b ∈ fp ∧ h₀.get? b = none) (hwr : ∀ b ∈ wr, b ∈ ws) (hfp : ∀ b ∈ fp, b ∈ ws ∨ h₀.get? b ≠ none) (hL : env.locals ∉ fp)
    (hst : St 0 hp) (F : Fr h₀ env.locals hp m₀) (N : News h₀ env.locals hp news) (hnw : ∀ p ∈ news, p.1 ∉ wr)
    (hf : ∀ y, m₀ y = fm a y) (hn : ∀ p ∈ ns a, p ∈ news) (h0 : Inv 0 a)
    (turn : ∀ i v b its h tk, i < n → P i v h → Inv i b → its.map (·.1) = ws → Ob its → Fr h₀ env.locals h (fm b) → News h₀ env.locals h (its ++ ns b) →
      wpAny (model prog w) A (assign target env v) (fun _ s₂ => wpAny (model prog w) A (execs body env)
        (UnrPostW h₀ env.locals { s with heap := h, toks := tk } its (fun m' n' => ∃ b', (∀ y, m' y = fm b' y) ∧ SubL (ns b') n' ∧ Inv (i + 1) b') Q) E s₂) E { s with heap := h, toks := tk })
    (fin : ∀ b h tk, Inv n b → Fr h₀ env.locals h (fm b) → News h₀ env.locals h (ns b) → Q .next { s with heap := h, toks := tk }) :
    TurnsAt prog w A h₀ env target body Q E (.ref I) { s with heap := hp, toks := tk0 } := by
  refine ⟨I, fp, wr, n, P, Md, St, m₀, news, fun i m nw => ∃ b, (∀ y, m y = fm b y) ∧ (∀ p ∈ ns b, p ∈ nw) ∧ Inv i b, rfl, W, hL, fun b hb => (hws b (hwr b hb)).2, hnw, hst, F, N, ⟨a, hf, hn, h0⟩, ?_, ?_⟩
  · intro i v m₁ news₁ h₁ tk₁ own hin hPi hJ hoff hown hget hall hst₁ F₁ N₁
    obtain ⟨b, hf₁, hn₁, hI⟩ := hJ
    obtain ⟨its, hmap, hob, hval⟩ := hobj (i + 1) h₁ hst₁
    have N₂ : News h₀ env.locals h₁ (its ++ ns b) := fun p hp => by
      rcases List.mem_append.mp hp with hp | hp
      · have h1 : p.1 ∈ ws := by rw [← hmap]; exact List.mem_map.mpr ⟨p, hp, rfl⟩
        exact N₁ _ (List.mem_append_left _ (hall p.1 (hws _ h1).1 (hws _ h1).2 p.2 (hval p hp)))
      · exact N₁ _ (List.mem_append_right _ (hn₁ p hp))
    have fin' : ∀ s₃, UnrEndW h₀ env.locals { s with heap := h₁, toks := tk₁ } its (fun m' n' => ∃ b', (∀ y, m' y = fm b' y) ∧ SubL (ns b') n' ∧ Inv (i + 1) b') s₃ →
        LoopStepU h₀ env.locals wr own (fun m nw => ∃ b, (∀ y, m y = fm b y) ∧ (∀ p ∈ ns b, p ∈ nw) ∧ Inv (i + 1) b) { s with heap := h₁, toks := tk₁ } .next s₃ := by
      rintro s₃ ⟨h', tk, m', news', e, F', N', ho, b', hb1, hb2, hb3⟩
      refine ⟨rfl, h', tk, m', news', e, F', ?_, ?_, b', hb1, hb2.mem, hb3⟩
      · rintro ⟨pa, po⟩ hp
        rcases List.mem_append.mp hp with hp | hp
        · have h2 : h₁.get? pa = some po := hget _ hp
          rcases hfp pa (hown _ hp) with h3 | h3
          · have h4 : pa ∈ its.map (·.1) := by rw [hmap]; exact h3
            obtain ⟨⟨qa, qo⟩, hq, hqe⟩ := List.mem_map.mp h4
            have hqe' : qa = pa := hqe
            subst hqe'
            have h5 : h₁.get? qa = some qo := hval _ hq
            have h6 : qo = po := Option.some.inj (h5.symm.trans h2)
            subst h6
            exact N' _ (List.mem_append_left _ hq)
          · exact absurd (N₁ _ (List.mem_append_left _ hp)).2.2 h3
        · exact N' _ (List.mem_append_right _ hp)
      · intro p hp hI
        have h4 : p.1 ∈ its.map (·.1) := by rw [hmap]; exact hwr _ hI
        obtain ⟨q, hq, hqe⟩ := List.mem_map.mp h4
        exact ho p hp q hq hqe.symm
    refine wpAny_mono (turn i v b its h₁ tk₁ hin hPi hI hmap hob (fr_ext hf₁ F₁) N₂) (fun _ s₂ h₂ => wpAny_mono h₂ (fun f s₃ p => ?_) fun _ _ e => e) fun _ _ e => e
    cases f with
    | ret v => exact .ret p
    | brk => exact .brk p
    | next => exact .next (fin' _ p)
    | cont => exact .cont (fin' _ p)
  · intro h' tk m' news' F' N' _ hJ
    obtain ⟨b, hb1, hb2, hb3⟩ := hJ
    exact fin b h' tk hb3 (fr_ext hb1 F') fun p hp => N' p (hb2 p hp)
def ItOf (l : Addr) (o : Obj) : Prop := o.cls = .type "list_iterator" ∧ ∃ i : Nat, o.data = .fields #[.ref l, .int i 0]
theorem iter_turns {σ : Type} {l I : Addr} {vs : List Value} {m₀ : Str → Option Value}
    (fm : σ → Str → Option Value) (ns : σ → List (Addr × Obj)) (Inv : Nat → σ → Prop) (a : σ)
    (hh : A.handled = none) (F : Fr h₀ env.locals s.heap m₀) (N : News h₀ env.locals s.heap ((I, itObj l) :: news)) (hlI : ∀ p ∈ news, p.1 ≠ I) (hl : h₀.IsList l vs.toArray)
    (hf : ∀ y, m₀ y = fm a y) (hn : ∀ p ∈ ns a, p ∈ news) (h0 : Inv 0 a)
    (turn : ∀ i v b o2 h tk, vs[i]? = some v → Inv i b → ItOf l o2 → Fr h₀ env.locals h (fm b) → News h₀ env.locals h ((I, o2) :: ns b) →
      wpAny (model prog w) A (assign target env v) (fun _ s₂ => wpAny (model prog w) A (execs body env)
        (UnrPostW h₀ env.locals { s with heap := h, toks := tk } [(I, o2)] (fun m' n' => ∃ b', (∀ y, m' y = fm b' y) ∧ SubL (ns b') n' ∧ Inv (i + 1) b') Q) E s₂) E { s with heap := h, toks := tk })
    (fin : ∀ b h tk, Inv vs.length b → Fr h₀ env.locals h (fm b) → News h₀ env.locals h (ns b) → Q .next { s with heap := h, toks := tk }) :
    wpAny (model prog w) A (pyIter (.ref I)) (fun it s₂ => TurnsAt prog w A h₀ env target body Q E it s₂) E s := by
  have hI := N (I, itObj l) List.mem_cons_self
  obtain ⟨lo, hlo, hlc, ln, hld⟩ := hl
  have hl' : s.heap.IsList l vs.toArray := ⟨lo, F.keep _ _ hlo, hlc, ln, hld⟩
  have hne : l ≠ I := fun q => by rw [q, hI.2.2] at hlo; cases hlo
  have hit : s.heap.IsListIter I l 0 := ⟨_, hI.1, rfl, rfl⟩
  refine wpAny_pyIter_listiter hit ?_
  refine base_turnsP (ws := [I]) (Ob := fun its => ∀ p ∈ its, ItOf l p.2) (tk0 := s.toks) fm ns Inv a (KTurns.ofWalks (Walks.list hh I l hne vs.toArray) fun i v s Q E st q => letGo_listiter st.1 q) ?_ ?_ ?_ ?_ ?_ ?_ F (fun p hp => N p (List.mem_cons_of_mem _ hp)) ?_ hf hn h0 ?_ (by simpa using fin)
  · intro i h st
    obtain ⟨it, hit, hic, hid⟩ := st.1
    exact ⟨[(I, it)], rfl, fun p hp => by rw [List.mem_singleton.mp hp]; exact ⟨hic, _, hid⟩, fun p hp => by rw [List.mem_singleton.mp hp]; exact hit⟩
  · intro b hb
    have hb' : b = I := by simpa using hb
    rw [hb']
    exact ⟨List.mem_cons_self .., hI.2.2⟩
  · intro b hb
    simpa using hb
  · intro b hb
    have hb' : b = I ∨ b = l := by simpa using hb
    rcases hb' with e | e
    · exact .inl (by simp [e])
    · exact .inr (by rw [e, hlo]; simp)
  · intro hJ
    rcases List.mem_cons.mp hJ with e | hJ
    · exact hI.2.1 e.symm
    · exact absurd (Heap.lt_size hlo) (by rw [← List.mem_singleton.mp hJ]; exact Nat.not_lt.mpr F.above)
  · exact ⟨hit, hl'⟩
  · intro p hp hJ
    exact hlI p hp (List.mem_singleton.mp hJ)
  · intro i v b its h tk hi hP hInv hmap hob F' N'
    obtain ⟨o1, rfl⟩ : ∃ o1, its = [(I, o1)] := by
      rcases its with _ | ⟨⟨p1, p2⟩, _ | ⟨r, t⟩⟩
      · cases hmap
      · simp only [List.map_cons, List.map_nil, List.cons.injEq, and_true] at hmap
        exact ⟨p2, by rw [hmap]⟩
      · simp at hmap
    exact turn i v b o1 h tk (by have hP' : vs.toArray[i]? = some v := hP; simpa using hP') hInv (hob _ List.mem_cons_self) F' N'
end
end
-- R2
section
open PySem.Calls
abbrev qLam : Str := Str.ofString "_law_search.<locals>.<lambda>"
abbrev lkObj (lk : List (Str × Tok)) (n : Nat) : Obj := { cls := .type "list", data := .seq (strValues lk).toArray n }
abbrev ownS (tab : Array Value) (D : Addr) (lk : List (Str × Tok)) (n : Nat) : List (Addr × Obj) := [(170, tabObj tab), (D, lkObj lk n)]
def After (D : Addr) (h : Heap) (r : List Str) (h' : Heap) : Prop :=
  ∃ tab lk n, StaysBut [170, D] h h' ∧ h'.get? 170 = some (tabObj tab) ∧ h'.get? D = some (lkObj lk n) ∧ TabOk h' 170 qLam tab ∧ lk.map (·.1) = r
theorem codeAmong_mem {pos : Pos} {cv : Value} (l : List Value) (h : TriplesOk l) (e : codeAmong pos l = some cv) : cv ∈ l := by
  fun_induction TriplesOk l with
  | case1 => cases e
  | case2 a t b u d rest ih =>
    simp only [codeAmong] at e
    split at e
    · cases e; simp
    · have := ih h e
      simp [this]
  | case3 => exact h.elim
def TabC (h₀ : Heap) (cos : List (Addr × Obj)) (ps : Array Value) : Prop :=
  TriplesOk ps.toList ∧ ∀ pos cv, codeAmong pos ps.toList = some cv → ∃ c' oc vs t, cv = .ref c' ∧ c' ≠ 170 ∧ (h₀.get? c' = some oc ∨ (c', oc) ∈ cos) ∧ oc.data = .fields vs ∧ vs[1]? = some (.str qLam t)
theorem TabC.ok {h₀ h : Heap} {L : Addr} {m : Str → Option Value} {cos : List (Addr × Obj)} {ps : Array Value} (x : TabC h₀ cos ps) (F : Fr h₀ L h m) (N : News h₀ L h cos) : TabOk h 170 qLam ps :=
  ⟨x.1, fun pos cv e => by
    obtain ⟨c', oc, vs, t, e1, hne, h1, h2, h3⟩ := x.2 pos cv e
    refine ⟨c', e1, hne, c', oc, vs, t, rfl, ?_, h2, h3⟩
    rcases h1 with h1 | h1
    · exact F.keep _ _ h1
    · exact (N _ h1).1⟩
def CodeSign (o : Obj) : Prop := ∃ vs t, o.data = .fields vs ∧ vs[1]? = some (.str qLam t)
theorem cos_of {h₀ h : Heap} {L : Addr} {m : Str → Option Value} (F : Fr h₀ L h m) : ∀ l : List Value, ∃ cos, News h₀ L h cos ∧ (∀ p ∈ cos, CodeSign p.2) ∧ ∀ c' oc, Value.ref c' ∈ l → h.get? c' = some oc → CodeSign oc → h₀.get? c' = some oc ∨ (c', oc) ∈ cos
  | [] => ⟨[], (fun _ h => nomatch h), (fun _ h => nomatch h), fun _ _ h => nomatch h⟩
  | v :: l => by
    obtain ⟨cos, N, S, C⟩ := cos_of F l
    by_cases hv : ∃ c' oc, v = .ref c' ∧ h.get? c' = some oc ∧ CodeSign oc ∧ h₀.get? c' = none
    · obtain ⟨c', oc, rfl, ho, hs, hn⟩ := hv
      refine ⟨(c', oc) :: cos, fun p hp => ?_, fun p hp => ?_, fun c2 o2 hm h2 hs2 => ?_⟩
      · rcases List.mem_cons.mp hp with rfl | hp
        · refine ⟨ho, fun q => ?_, hn⟩
          obtain ⟨oL, es, ep, e, hd, _⟩ := F.ns
          obtain ⟨vs, t, hd', _⟩ := hs
          have q' : c' = L := q
          rw [q', e] at ho
          cases ho
          rw [hd] at hd'; cases hd'
        · exact N p hp
      · rcases List.mem_cons.mp hp with rfl | hp
        · exact hs
        · exact S p hp
      · rcases List.mem_cons.mp hm with e | hm
        · cases e
          rw [ho] at h2; cases h2
          exact .inr List.mem_cons_self
        · exact (C c2 o2 hm h2 hs2).imp id fun h => List.mem_cons_of_mem _ h
    · refine ⟨cos, N, S, fun c2 o2 hm h2 hs2 => ?_⟩
      rcases List.mem_cons.mp hm with e | hm
      · left
        cases hc : h₀.get? c2 with
        | none => exact (hv ⟨c2, o2, e.symm, h2, hs2, hc⟩).elim
        | some o => rw [F.keep _ _ hc] at h2; exact h2
      · exact C c2 o2 hm h2 hs2
theorem tabC_of {h₀ h : Heap} {L : Addr} {m : Str → Option Value} {ps : Array Value} (F : Fr h₀ L h m) (x : TabOk h 170 qLam ps) : ∃ cos, News h₀ L h cos ∧ (∀ p ∈ cos, CodeSign p.2) ∧ TabC h₀ cos ps := by
  obtain ⟨cos, N, S, C⟩ := cos_of F ps.toList
  refine ⟨cos, N, S, x.1, fun pos cv e => ?_⟩
  obtain ⟨c', e1, hne, c2, oc, vs, t, e2, hoc, hd, hv⟩ := x.2 pos cv e
  cases e2
  subst e1
  exact ⟨c', oc, vs, t, rfl, hne, C c' oc (codeAmong_mem _ x.1 e) hoc ⟨vs, t, hd, hv⟩, hd, hv⟩
theorem sign_it {l : Addr} {o : Obj} (h : ItOf l o) (h' : CodeSign o) : False := by
  obtain ⟨_, i, hd⟩ := h
  obtain ⟨vs, t, hd', hv⟩ := h'
  rw [hd] at hd'; cases hd'
  cases hv
structure RS where
  v : Int
  t : Tok
  a : Option Value
  tab : Array Value
  lk : List (Str × Tok)
  n : Nat
  cos : List (Addr × Obj)
abbrev frR (m₀ : Str → Option Value) (v a : Option Value) : Str → Option Value := fun y => if y = Str.ofString "value" then v else if y = Str.ofString "element" then a else m₀ y
section
variable {prog : Program} {w : World} {A : Around} {E : Value → Shared → Prop} {s : Shared} {env : Env} {h₀ : Heap} {target : Expr} {body : List Stmt} {Q : Flow → Shared → Prop}
theorem red_turns {I l D : Addr} {ks : List (Str × Tok)} {tab : Array Value} {lk : List (Str × Tok)} {n : Nat} {m₀ : Str → Option Value} {low : Int} {tl : Tok} (st : Int × List Str → Str → Int × List Str)
    (hh : A.handled = none) (F : Fr h₀ env.locals s.heap m₀) (N : News h₀ env.locals s.heap [(I, itObj l), (170, tabObj tab), (D, lkObj lk n)]) (hlI : ∀ p ∈ ownS tab D lk n, p.1 ≠ I) (hl : h₀.IsList l (strValues ks).toArray)
    (h1 : m₀ (Str.ofString "value") = some (.int low tl)) (tok : TabOk s.heap 170 qLam tab)
    (turn : ∀ (i : Nat) x tx v t a tab' lk' n' cos o2 h tk, ks[i]? = some (x, tx) → (v, lk'.map (·.1)) = ((ks.take i).map (·.1)).foldl st (low, lk.map (·.1)) → ItOf l o2 → TabC h₀ cos tab' →
      Fr h₀ env.locals h (fun y => if y = Str.ofString "value" then some (.int v t) else if y = Str.ofString "element" then a else m₀ y) → News h₀ env.locals h ((I, o2) :: (170, tabObj tab') :: (D, lkObj lk' n') :: cos) →
      wpAny (model prog w) A (assign target env (.str x tx)) (fun _ s₂ => wpAny (model prog w) A (execs body env)
        (UnrPostW h₀ env.locals { s with heap := h, toks := tk } [(I, o2)] (fun m' n' => ∃ t' a' tab'' lk'' n'' cos, (∀ y, m' y = frR m₀ (some (.int (st (v, lk'.map (·.1)) x).1 t')) a' y) ∧ lk''.map (·.1) = (st (v, lk'.map (·.1)) x).2 ∧ TabC h₀ cos tab'' ∧ SubL (ownS tab'' D lk'' n'' ++ cos) n') Q) E s₂) E { s with heap := h, toks := tk })
    (fin : ∀ v t a tab' lk' n' h tk, (v, lk'.map (·.1)) = (ks.map (·.1)).foldl st (low, lk.map (·.1)) → TabOk h 170 qLam tab' →
      Fr h₀ env.locals h (fun y => if y = Str.ofString "value" then some (.int v t) else if y = Str.ofString "element" then a else m₀ y) → News h₀ env.locals h (ownS tab' D lk' n') → Q .next { s with heap := h, toks := tk }) :
    wpAny (model prog w) A (pyIter (.ref I)) (fun it s₂ => TurnsAt prog w A h₀ env target body Q E it s₂) E s := by
  obtain ⟨cos, Nc, Sc, Tc⟩ := tabC_of F tok
  have hcI : ∀ p ∈ ownS tab D lk n ++ cos, p.1 ≠ I := fun p hp => by
    rcases List.mem_append.mp hp with hp | hp
    · exact hlI p hp
    · intro q
      have h1 := (Nc p hp).1
      rw [q, (N _ List.mem_cons_self).1] at h1
      have e := Option.some.inj h1
      exact sign_it (l := l) (o := p.2) (e ▸ ⟨rfl, 0, rfl⟩) (Sc p hp)
  refine iter_turns (σ := RS) (news := ownS tab D lk n ++ cos) (fun b => frR m₀ (some (.int b.v b.t)) b.a) (fun b => ownS b.tab D b.lk b.n ++ b.cos) (fun i b => (b.v, b.lk.map (·.1)) = ((ks.take i).map (·.1)).foldl st (low, lk.map (·.1)) ∧ TabC h₀ b.cos b.tab) ⟨low, tl, m₀ (Str.ofString "element"), tab, lk, n, cos⟩ hh F ?_ hcI hl ?_ (fun p hp => hp) ⟨rfl, Tc⟩ ?_ ?_
  · intro p hp
    rcases List.mem_cons.mp hp with rfl | hp
    · exact N _ List.mem_cons_self
    · rcases List.mem_append.mp hp with hp | hp
      · exact N _ (List.mem_cons_of_mem _ hp)
      · exact Nc _ hp
  · intro y
    by_cases e3 : y = Str.ofString "value"
    · subst e3; simp [frR, h1]
    · by_cases e2 : y = Str.ofString "element"
      · subst e2; simp [frR, e3]
      · simp [frR, e3, e2]
  · intro i v b o2 h tk hv hI hc F N
    obtain ⟨x, tx, rfl, hx⟩ := svGet hv
    refine wpAny_mono (turn i x tx b.v b.t b.a b.tab b.lk b.n b.cos o2 h tk hx hI.1 hc hI.2 F N) (fun _ s₂ h₂ => wpAny_mono h₂ (fun f s₃ h₃ => ?_) fun _ _ e => e) fun _ _ e => e
    have fin : ∀ {s₃}, UnrEndW h₀ env.locals { s with heap := h, toks := tk } [(I, o2)] (fun m' n' => ∃ t' a' tab'' lk'' n'' cos, (∀ y, m' y = frR m₀ (some (.int (st (b.v, b.lk.map (·.1)) x).1 t')) a' y) ∧ lk''.map (·.1) = (st (b.v, b.lk.map (·.1)) x).2 ∧ TabC h₀ cos tab'' ∧ SubL (ownS tab'' D lk'' n'' ++ cos) n') s₃ →
        UnrEndW h₀ env.locals { s with heap := h, toks := tk } [(I, o2)] (fun m' n' => ∃ b' : RS, (∀ y, m' y = frR m₀ (some (.int b'.v b'.t)) b'.a y) ∧ SubL (ownS b'.tab D b'.lk b'.n ++ b'.cos) n' ∧ (b'.v, b'.lk.map (·.1)) = ((ks.take (i + 1)).map (·.1)).foldl st (low, lk.map (·.1)) ∧ TabC h₀ b'.cos b'.tab) s₃ := by
      rintro s₃ ⟨h', tk', m', n', e, F', N', off, t', a', tab'', lk'', n'', cos', hm', hl', hC, hs'⟩
      refine ⟨h', tk', m', n', e, F', N', off, ⟨_, t', a', tab'', lk'', n'', cos'⟩, hm', hs', ?_, hC⟩
      rw [List.take_add_one, hx, List.map_append, List.foldl_append, ← hI.1]
      show ((st (b.v, b.lk.map (·.1)) x).1, lk''.map (·.1)) = st (b.v, b.lk.map (·.1)) x
      rw [hl']
    cases f with
    | ret v => exact h₃
    | brk => exact h₃
    | next => exact fin h₃
    | cont => exact fin h₃
  · intro b h tk hI F N
    have No : News h₀ env.locals h b.cos := fun p hp => N p (List.mem_append_right _ hp)
    refine fin b.v b.t b.a b.tab b.lk b.n h tk ?_ (hI.2.ok F No) F fun p hp => N p (List.mem_append_left _ hp)
    have e : (strValues ks).length = ks.length := by rw [strValues, List.length_map]
    have := hI.1
    rw [e, List.take_length] at this
    exact this
theorem after_turn {hg h h' : Heap} {L I l D : Addr} {m : Str → Option Value} {o2 : Obj} {tab : Array Value} {lk : List (Str × Tok)} {n : Nat} {cos : List (Addr × Obj)} {r : List Str} (F : Fr hg L h m) (N : News hg L h ((I, o2) :: (170, tabObj tab) :: (D, lkObj lk n) :: cos))
    (ho : ItOf l o2) (h1 : (170 : Addr) ≠ I) (h2 : D ≠ I) (A : After D h r h') :
    ∃ tab' lk' n' cos', Fr hg L h' m ∧ News hg L h' ((I, o2) :: (170, tabObj tab') :: (D, lkObj lk' n') :: cos') ∧ TabC hg cos' tab' ∧ lk'.map (·.1) = r ∧ ∀ p ∈ (170, tabObj tab') :: (D, lkObj lk' n') :: cos', p.1 ≠ I := by
  obtain ⟨tab', lk', n', k, a1, a2, tok, e⟩ := A
  have n0 := N _ List.mem_cons_self
  have n1 := N _ (List.mem_cons_of_mem _ List.mem_cons_self)
  have n2 := N _ (List.mem_cons_of_mem _ (List.mem_cons_of_mem _ List.mem_cons_self))
  have off : ∀ b, b ≠ 170 → b ≠ D → b ∉ ([170, D] : List Addr) := fun b q1 q2 hm => by
    rcases List.mem_cons.mp hm with q | hm
    · exact q1 q
    · exact q2 (List.mem_singleton.mp hm)
  have F' : Fr hg L h' m := by
    obtain ⟨oL, es, ep, eL, r⟩ := F.ns
    refine ⟨⟨oL, es, ep, k _ _ (off _ (fun q => n1.2.1 q.symm) fun q => n2.2.1 q.symm) eL, r⟩, fun b o hb => k _ _ (off _ (fun q => ?_) fun q => ?_) (F.keep b o hb), F.above⟩
    · have := n1.2.2; rw [← q, hb] at this; cases this
    · have := n2.2.2; rw [← q, hb] at this; cases this
  have hI' : h'.get? I = some o2 := k _ _ (off _ (fun q => h1 q.symm) fun q => h2 q.symm) n0.1
  obtain ⟨cos', Nc, Sc, Tc⟩ := tabC_of F' tok
  refine ⟨tab', lk', n', cos', F', fun p hp => ?_, Tc, e, fun p hp => ?_⟩
  · rcases List.mem_cons.mp hp with rfl | hp
    · exact ⟨hI', n0.2⟩
    · rcases List.mem_cons.mp hp with rfl | hp
      · exact ⟨a1, n1.2⟩
      · rcases List.mem_cons.mp hp with rfl | hp
        · exact ⟨a2, n2.2⟩
        · exact Nc p hp
  · rcases List.mem_cons.mp hp with rfl | hp
    · exact h1
    · rcases List.mem_cons.mp hp with rfl | hp
      · exact h2
      · intro q
        have h3 := (Nc p hp).1
        rw [q, hI'] at h3
        exact sign_it (o := p.2) (Option.some.inj h3 ▸ ho) (Sc p hp)
end
end
-- R3
section
open PySem.Calls
section
variable {prog : Program} {w : World} {A : Around} {s : Shared} {K : Frag} {Q E : Value → Shared → Prop}
theorem enterP {h₀ : Heap} {own : List (Addr × Obj)} {name qual : Str} {params : Arguments} {body : List Stmt} {scope : Scope} {dV kV doc pm cdv ct oc : Value} {an od : Option Addr} {osl : Array (Option Value)} {f : Addr} {args : List Value} (binds : List (Str × Value))
    (P : Part h₀ s.heap own) (X : K.In h₀) (hlim : s.heap.NoLimit)
    (ho : K.lookup f = some ⟨oc, od, .func (fnOf name qual params body scope dV kV doc pm an cdv ct), osl⟩) (hcd : codeIn K cdv qual = true) (hroom : A.depth < recursionLimit)
    (hbind : BindsTo s (fnOf name qual params body scope dV kV doc pm an cdv ct) ⟨args, []⟩ binds) (hloc : ∀ y ∈ binds, scope.names.lookup y.1 = some .local)
    (h : ∀ L h₁, L = s.heap.objs.size → Fr h₀ L h₁ (fun y => binds.reverse.lookup y) → News h₀ L h₁ own → (∀ b o, s.heap.get? b = some o → h₁.get? b = some o) →
      wpAny (model prog w) (A.deeper (envOf qual scope L f cdv)) (execs body (envOf qual scope L f cdv))
        (fun fl s' => Q (match fl with | .ret v => v | _ => .none) s') (fun _ _ => False) { s with heap := h₁, toks := s.toks + binds.length })
    (hco : scope.isCoroutine = false) (hgen : scope.isGenerator = false) (hk : scope.kind = .function)
    (hcell : ∀ x ∈ scope.names, x.2 ≠ .cell) : wpAny (model prog w) A (call (.ref f) args) Q E s := by
  have X' : K.In s.heap := X.keeps P.keep
  refine wpAny_call (codeAny_call_def (fd := fnOf name qual params body scope dV kV doc pm an cdv ct) (body := body) (binds := binds) hroom (X' _ _ ho) rfl hlim (codeRec_of X' hcd) rfl hbind hcell hloc (fun h₁ hns hk₁ => ?_) hco hgen hk)
  refine wpAny_mono (h s.heap.objs.size h₁ rfl ⟨hns, fun b o e => hk₁ _ _ (P.keep b o e), P.size⟩ (fun p hp => ?_) hk₁) (fun _ _ x => x) fun _ _ x => x.elim
  have n := P.own p hp
  exact ⟨hk₁ _ _ n.1, Nat.ne_of_lt (Heap.lt_size n.1), n.2⟩
end
end
local macro_rules | `(tactic| walk_at "call builtin:iter") => `(tactic| (k_here; (with_reducible show wpAny _ _ (call (Value.builtin "iter") [Value.ref _]) _ _ _); refine iter_list (by k_asm) (by k_asm) (by assumption) ?_; (intro I9 h9 F9 N9 l9; (try k_lt l9); (try dsimp only))))
local macro_rules | `(tactic| walk_at "pyIter ref") => `(tactic| (k_here; (with_reducible show wpAny _ _ (pyIter (Value.ref _)) (fun it s₂ => TurnsAt _ _ _ _ _ (Expr.Name _ _) _ _ _ it s₂) _ _); refine hold ?_))
local macro_rules | `(tactic| walk_at "exec For Name Name cons nil") => `(tactic| (k_here; (rename Fr _ _ _ _ => lF'); (with_unfolding_all refine' For_turns lF' ?_; k_whole)))
local macro_rules | `(tactic| walk_at "compareOp Is") => `(tactic| (k_here; (with_reducible show wpAny _ _ (compareOp CmpOp.Is (Value.int _ _) (Value.ref _)) _ _ _); refine wpAny_is_other (by rfl) (by intro x; cases x) ?_))
section
open PySem.Calls
theorem TabOk.base {h h' : Heap} {D : Addr} {ps : Array Value} {lk : List (Str × Tok)} {n : Nat} (x : TabOk h 170 qLam ps) (hD : h.get? D = some (lkObj lk n)) (k : ∀ b o, b ∉ [170, D] → h.get? b = some o → h'.get? b = some o) : TabOk h' 170 qLam ps :=
  ⟨x.1, fun pos cv e => by
    obtain ⟨c', e1, hne, c2, oc, vs, tq, e2, hoc, hd, r⟩ := x.2 pos cv e
    cases e2
    refine ⟨_, e1, hne, _, oc, vs, tq, rfl, k _ _ (fun hm => ?_) hoc, hd, r⟩
    rcases List.mem_cons.mp hm with q | hm
    · exact hne q
    · rw [List.mem_singleton.mp hm, hD] at hoc
      cases hoc; cases hd⟩
theorem fnAt_up {h h' : Heap} {f : Addr} (x : FnAt f h) (k : ∀ b o, h.get? b = some o → h'.get? b = some o) : FnAt f h' :=
  let ⟨_, _, _, _, e⟩ := x; ⟨_, _, _, _, k _ _ e⟩
theorem fnAt_fr {h₀ h : Heap} {L f : Addr} {m : Str → Option Value} (x : FnAt f h₀) (F : Fr h₀ L h m) : FnAt f h := fnAt_up x F.keep
end
local macro_rules | `(tactic| walk_at "callWith ref") => `(tactic| (k_here; (refine callWith_F (by exact fnAt_fr (by assumption) (by assumption)) ?_; k_whole)))
local macro_rules | `(tactic| walk_at "FnAt") => `(tactic| exact fnAt_fr (by assumption) (by assumption))
section
open PySem.Calls
theorem frR_turn {m₀ : Str → Option Value} {v v' a a' : Option Value} (y : Str) : (if y = Str.ofString "value" then v' else if y = Str.ofString "element" then a' else if y = Str.ofString "value" then v else if y = Str.ofString "element" then a else m₀ y) = frR m₀ v' a' y := by
  by_cases e3 : y = Str.ofString "value"
  · simp [frR, e3]
  · by_cases e2 : y = Str.ofString "element"
    · simp [frR, e2]
    · simp [frR, e3, e2]
theorem fillR : PySem.Challenge.rw_un0028_01 = PySem.Challenge.rw_un0028_01 ∧ pk.heap_1 = pk.heap_1 := by
  k_fill
  exact ⟨rfl, rfl⟩
set_option maxHeartbeats 4000000 in
theorem reduce_ok {w : World} {p loose mean mg mb} {dp un : Nat} {fr : Option (List Env)} {gd : Option (List Code)} {s : Shared} {h₀ : Heap} {tab : Array Value} {D l f : Addr} {lk ks : List (Str × Tok)} {n : Nat} {low : Int} {tl : Tok} {Q E : Value → Shared → Prop}
    (st : Int × List Str → Str → Int × List Str)
    (P : Part h₀ s.heap (ownS tab D lk n)) (X : (pk.heap_1 w.params).In h₀) (T : Top p loose mean mg mb h₀) (hd : dp ≤ 870) (hu : un ≤ 8700)
    (hl : h₀.IsList l (strValues ks).toArray) (hf : FnAt f h₀) (hne : @Ne Nat D 170) (tok : TabOk s.heap 170 qLam tab)
    (callee : ∀ {dp' un' : Nat} {fr' : Option (List Env)} {gd' : Option (List Code)} {s' : Shared} {Q' E' : Value → Shared → Prop} (i : Nat) (x : Str) (tx : Tok) (v : Int) (t : Tok) (tab' : Array Value) (lk' : List (Str × Tok)) (n' : Nat), ks[i]? = some (x, tx) → (v, lk'.map (·.1)) = ((ks.take i).map (·.1)).foldl st (low, lk.map (·.1)) →
      Part h₀ s'.heap (ownS tab' D lk' n') → TabOk s'.heap 170 qLam tab' → dp' ≤ dp + 3 → un' ≤ un + 20 →
      (∀ h' tk t', After D s'.heap (st (v, lk'.map (·.1)) x).2 h' → Q' (.int (st (v, lk'.map (·.1)) x).1 t') { s' with heap := h', toks := tk }) →
      wpAny (model PySem.Challenge.rw_un0028_01.row.prog w) ⟨none, dp', fr', gd', un'⟩ (call (.ref f) [.int v t, .str x tx]) Q' E' s')
    (hQ : ∀ h' tk t, After D s.heap ((ks.map (·.1)).foldl st (low, lk.map (·.1))).2 h' → Q (.int ((ks.map (·.1)).foldl st (low, lk.map (·.1))).1 t) { s with heap := h', toks := tk }) :
    wpAny (model PySem.Challenge.rw_un0028_01.row.prog w) ⟨none, dp, fr, gd, un⟩ (call (.ref 50) [.ref f, .ref l, .int low tl]) Q E s := by
  have U := P.up
  have P0 := P
  have tokg : TabOk (hideAll s.heap [170, D]) 170 qLam tab := tok.base (P.own _ (List.mem_cons_of_mem _ List.mem_cons_self)).1 fun b o hb e => hideAll_get _ e hb
  replace P := P.self
  replace X := X.keeps U
  replace T := T.keeps U
  replace hl : (hideAll s.heap [170, D]).IsList l (strValues ks).toArray := by obtain ⟨o, ho, e⟩ := hl; exact ⟨o, U _ _ ho, e⟩
  have GG : ∀ {h' : Heap}, (∀ b o, (hideAll s.heap [170, D]).get? b = some o → h'.get? b = some o) → StaysBut [170, D] s.heap h' := staysBut_hide
  simp only [List.map_cons, List.map_nil] at P X T U
  replace hf := fnAt_up hf U
  generalize hideAll s.heap [170, D] = hg at *
  refine enterP [(Str.ofString "function", .ref f), (Str.ofString "sequence", .ref l), (Str.ofString "initial", .int low tl)] (K := Mine.pk.heap_1 w.params) P X (Top.nolimit (Top.keeps T P.keep)) (by k_is) (by k_is) ?room ?bind ?loc ?_ rfl rfl rfl ?cell
  case room => (try simp only [recursionLimit]); omega
  case bind => exact binds_K (X.keeps P.keep) rfl (by k_is) rfl rfl rfl
  case loc => exact locs rfl
  case cell => decide
  k_whole
  intro L h₁ hL F N K1
  have hDL : @LT.lt Nat _ D L := by rw [hL]; exact Heap.lt_size (P.own _ (List.mem_cons_of_mem _ List.mem_cons_self)).1
  have h1L : @LT.lt Nat _ 170 L := by rw [hL]; exact Heap.lt_size (P.own _ List.mem_cons_self).1
  (try dsimp only)
  (with_reducible show wpAny _ _ _ _ _ _)
  k_fold
  walk_at "m_steps"
  refine holdIn ?_
  refine' red_turns (s := ⟨_, _, _, _, _⟩) (low := low) st ?hh ?hF ?hN ?hI ?hl ?h1 ?tok ?_ ?_
  case hh => exact rfl
  case hF => k_asm
  case hN => k_asm
  case hl => assumption
  case h1 => exact rfl
  case hI =>
    rename _ ∧ _ => l9
    intro p hp q
    rcases List.mem_cons.mp hp with rfl | hp
    · exact Nat.ne_of_lt l9.1 q
    · rw [List.mem_singleton.mp hp] at q; exact Nat.ne_of_lt l9.2.1 q
  case tok => exact tokg.but fun b o _ e => Fr.keep (by assumption) b o e
  · rename _ ∧ _ => l9
    intro i x tx v t a tab' lk' n' cos o2 h tk hx hst ho2 tok' F N
    walk_at "m_steps"
    refine callee i x tx v t tab' lk' n' hx hst ?hP ?hT (by walk_at "m_room") (by walk_at "m_room") ?_
    case hP =>
      rename Fr _ _ _ _ => F8
      rename News _ _ _ _ => N8
      refine ⟨fun b o e => F8.keep _ _ (U _ _ e), Nat.le_trans P0.size (Nat.le_trans (Nat.le_of_eq hL.symm) (Nat.le_of_lt F8.ns.lt)), fun p hp => ?_⟩
      rcases List.mem_cons.mp hp with rfl | hp
      · exact ⟨(N8 _ (by simp)).1, (P0.own _ List.mem_cons_self).2⟩
      · rw [List.mem_singleton.mp hp]
        exact ⟨(N8 _ (by simp)).1, (P0.own _ (List.mem_cons_of_mem _ List.mem_cons_self)).2⟩
    case hT =>
      rename Fr _ _ _ _ => F8
      rename News _ _ _ _ => N8
      exact TabC.ok tok' F8 fun p hp => N8 p (by simp [hp])
    intro h'' tk'' t'' A''
    rename Fr _ _ _ _ => F8
    rename News _ _ _ _ => N8
    obtain ⟨tab3, lk3, n3, cos3, F9, N9, C9, e9, off9⟩ := after_turn F8 N8 ho2 (Nat.ne_of_lt l9.1) (Nat.ne_of_lt l9.2.1) A''
    clear F8 N8
    k_sweep
    walk_at "m_steps"
    exact ⟨_, _, _, _, rfl, by assumption, by assumption, fun p hp q hq => by rw [List.mem_singleton.mp hq]; exact off9 p hp, _, _, _, _, _, _, frR_turn, e9, C9, subL_of fun _ h => h⟩
  · intro v t a tab' lk' n' h tk hst tok' F N
    walk_at "m_steps"
    all_goals walk_at "m_ends"
    have e1 : v = ((ks.map (·.1)).foldl st (low, lk.map (·.1))).1 := by rw [← hst]
    have e2 : lk'.map (·.1) = ((ks.map (·.1)).foldl st (low, lk.map (·.1))).2 := by rw [← hst]
    rw [e1]
    exact hQ _ _ _ ⟨tab', lk', n', GG (Fr.keep (by assumption)), (N _ List.mem_cons_self).1, (N _ (List.mem_cons_of_mem _ List.mem_cons_self)).1, tok', e2⟩
end
-- A0
section
variable (inn : Str → List Str) (ev : Str → Int)
def stepMost (go : Str → Int → Int → Int × List Str) (hi : Int) (st : Int × List Str) (k : Str) : Int × List Str :=
  if st.1 ≥ hi then st else ((go k st.1 hi).1, st.2 ++ (go k st.1 hi).2)
def stepLeast (go : Str → Int → Int → Int × List Str) (lo : Int) (st : Int × List Str) (k : Str) : Int × List Str :=
  if st.1 ≤ lo then st else ((go k lo st.1).1, st.2 ++ (go k lo st.1).2)
def srch : Nat → Bool → Str → Int → Int → Int × List Str
  | 0, _, _, _, _ => (0, [])
  | n + 1, most, x, lo, hi =>
    if inn x = [] then (med3 hi (ev x) lo, [x])
    else if most = true then (inn x).foldl (stepMost (srch n false) hi) (lo, [])
    else (inn x).foldl (stepLeast (srch n true) lo) (hi, [])
def lvs : Nat → Str → List Str
  | 0, _ => []
  | n + 1, x => if inn x = [] then [x] else (inn x).flatMap (lvs n)
def Ht : Nat → Str → Prop
  | 0, _ => False
  | n + 1, x => ∀ k ∈ inn x, Ht n k
end
section
variable {inn : Str → List Str} {ev : Str → Int} {go : Str → Int → Int → Int × List Str} {cap : Str → Nat}
theorem most_pre (hi : Int) : ∀ (ks : List Str) (v : Int) (l m : List Str), ks.foldl (stepMost go hi) (v, l ++ m) = ((ks.foldl (stepMost go hi) (v, m)).1, l ++ (ks.foldl (stepMost go hi) (v, m)).2)
  | [], _, _, _ => rfl
  | k :: ks, v, l, m => by
    simp only [List.foldl_cons, stepMost]
    by_cases c : v ≥ hi
    · simp only [if_pos c]; exact most_pre hi ks v l m
    · simp only [if_neg c, List.append_assoc]; exact most_pre hi ks _ l _
theorem least_pre (lo : Int) : ∀ (ks : List Str) (v : Int) (l m : List Str), ks.foldl (stepLeast go lo) (v, l ++ m) = ((ks.foldl (stepLeast go lo) (v, m)).1, l ++ (ks.foldl (stepLeast go lo) (v, m)).2)
  | [], _, _, _ => rfl
  | k :: ks, v, l, m => by
    simp only [List.foldl_cons, stepLeast]
    by_cases c : v ≤ lo
    · simp only [if_pos c]; exact least_pre lo ks v l m
    · simp only [if_neg c, List.append_assoc]; exact least_pre lo ks _ l _
theorem most_len (hi : Int) (h : ∀ k a b, (go k a b).2.length ≤ cap k) : ∀ (ks : List Str) (v : Int) (l : List Str), (ks.foldl (stepMost go hi) (v, l)).2.length ≤ l.length + (ks.map cap).sum
  | [], _, _ => by simp
  | k :: ks, v, l => by
    simp only [List.foldl_cons, stepMost, List.map_cons, List.sum_cons]
    by_cases c : v ≥ hi
    · simp only [if_pos c]; have := most_len hi h ks v l; omega
    · simp only [if_neg c]
      have h1 := most_len hi h ks (go k v hi).1 (l ++ (go k v hi).2)
      have h2 := h k v hi
      rw [List.length_append] at h1; omega
theorem least_len (lo : Int) (h : ∀ k a b, (go k a b).2.length ≤ cap k) : ∀ (ks : List Str) (v : Int) (l : List Str), (ks.foldl (stepLeast go lo) (v, l)).2.length ≤ l.length + (ks.map cap).sum
  | [], _, _ => by simp
  | k :: ks, v, l => by
    simp only [List.foldl_cons, stepLeast, List.map_cons, List.sum_cons]
    by_cases c : v ≤ lo
    · simp only [if_pos c]; have := least_len lo h ks v l; omega
    · simp only [if_neg c]
      have h1 := least_len lo h ks (go k lo v).1 (l ++ (go k lo v).2)
      have h2 := h k lo v
      rw [List.length_append] at h1; omega
theorem flat_len (f : Str → List Str) : ∀ ks : List Str, (ks.flatMap f).length = (ks.map fun k => (f k).length).sum
  | [] => rfl
  | k :: ks => by simp [flat_len f ks]
theorem srch_len : ∀ (n : Nat) (most : Bool) (x : Str) (lo hi : Int), (srch inn ev n most x lo hi).2.length ≤ (lvs inn n x).length
  | 0, _, _, _, _ => Nat.le_refl _
  | n + 1, most, x, lo, hi => by
    unfold srch lvs
    by_cases c : inn x = []
    · simp [c]
    · simp only [if_neg c, flat_len]
      by_cases c2 : most = true
      · simp only [if_pos c2]
        have := most_len hi (fun k a b => srch_len n false k a b) (inn x) lo []
        simpa using this
      · simp only [if_neg c2]
        have := least_len lo (fun k a b => srch_len n true k a b) (inn x) hi []
        simpa using this
theorem sum_take {f : Str → Nat} : ∀ (ks : List Str) (i : Nat) (k : Str), ks[i]? = some k → ((ks.take i).map f).sum + f k ≤ (ks.map f).sum
  | [], i, k, h => by simp at h
  | a :: ks, 0, k, h => by
    simp at h; subst h
    simp
  | a :: ks, i + 1, k, h => by
    have := sum_take (f := f) ks i k (by simpa using h)
    simp only [List.take_succ_cons, List.map_cons, List.sum_cons]
    omega
theorem most_room {n : Nat} {x : Str} {hi v low : Int} {l lk : List Str} {i : Nat} {k : Str} (he : (inn x)[i]? = some k) (hc : inn x ≠ []) (hst : (v, l) = ((inn x).take i).foldl (stepMost (srch inn ev n false) hi) (low, lk)) (hb : lk.length + (lvs inn (n + 1) x).length ≤ 100) : l.length + (lvs inn n k).length ≤ 100 := by
  have h1 := most_len hi (fun k a b => srch_len (inn := inn) (ev := ev) n false k a b) ((inn x).take i) low lk
  rw [← hst] at h1
  have h2 := sum_take (f := fun k => (lvs inn n k).length) (inn x) i k he
  rw [lvs, if_neg hc, flat_len] at hb
  simp only at h1 h2
  omega
theorem least_room {n : Nat} {x : Str} {lo v high : Int} {l lk : List Str} {i : Nat} {k : Str} (he : (inn x)[i]? = some k) (hc : inn x ≠ []) (hst : (v, l) = ((inn x).take i).foldl (stepLeast (srch inn ev n true) lo) (high, lk)) (hb : lk.length + (lvs inn (n + 1) x).length ≤ 100) : l.length + (lvs inn n k).length ≤ 100 := by
  have h1 := least_len lo (fun k a b => srch_len (inn := inn) (ev := ev) n true k a b) ((inn x).take i) high lk
  rw [← hst] at h1
  have h2 := sum_take (f := fun k => (lvs inn n k).length) (inn x) i k he
  rw [lvs, if_neg hc, flat_len] at hb
  simp only at h1 h2
  omega
end
-- R4
section
open PySem.Calls
section
variable {prog : Program} {w : World} {A : Around} {s : Shared} {K : Frag} {Q E : Value → Shared → Prop}
theorem enterL {h₀ : Heap} {own : List (Addr × Obj)} {name qual : Str} {params : Arguments} {body : Expr} {scope : Scope} {cl : List (Str × Addr)} {pm ctv : Value} {c' f : Addr} {args : List Value} {binds : List (Str × Value)}
    (P : Part h₀ s.heap own) (hlim : s.heap.NoLimit) (ho : s.heap.get? f = some (kla_obj name qual params body scope cl pm c' ctv)) (hcd : s.heap.CodeRec (.ref c') qual) (hroom : A.depth < recursionLimit)
    (hbind : bindArgs (kla_fn name qual params body scope cl pm (.ref c') ctv) ⟨args, []⟩ = pure binds) (hloc : ∀ y ∈ binds, scope.names.lookup y.1 = some .local)
    (h : ∀ L h₁, L = s.heap.objs.size → Fr h₀ L h₁ (fun y => binds.reverse.lookup y) → News h₀ L h₁ own →
      wpAny (model prog w) (A.deeper (envX qual scope L f (.ref c') cl)) (eval body (envX qual scope L f (.ref c') cl)) Q (fun _ _ => False) { s with heap := h₁, toks := s.toks + binds.length })
    (hco : scope.isCoroutine = false) (hgen : scope.isGenerator = false) (hk : scope.kind = .function)
    (hcell : ∀ x ∈ scope.names, x.2 ≠ .cell) : wpAny (model prog w) A (call (.ref f) args) Q E s := by
  refine wpAny_call (kla_callFunE hroom ho rfl hco hgen rfl hcd ?_)
  rw [hbind]
  refine wpAny_pure (wpAny_newFunctionEnv hcell hloc (fun h₁ hns hsb => ⟨hlim.fresh _ hsb, ?_⟩) hk)
  have hk₁ : ∀ b o, s.heap.get? b = some o → h₁.get? b = some o := fun b o e => hsb.extBut b o (Nat.ne_of_lt (Heap.lt_size e)) (Heap.get?_push_of_some _ e)
  refine kla_codeExpr (wpAny_mono (h s.heap.objs.size h₁ rfl ⟨hns, fun b o e => hk₁ _ _ (P.keep b o e), P.size⟩ fun p hp => ?_) (fun v s' x => x) fun _ _ x => x.elim)
  have n := P.own p hp
  exact ⟨hk₁ _ _ n.1, Nat.ne_of_lt (Heap.lt_size n.1), n.2⟩
end
section
variable {M : Model} {A : Around} {E : Value → Shared → Prop} {s : Shared} {h₀ : Heap} {L a c : Addr} {m mg mb : Str → Option Value} {cn : Str} {cs : Scope} {ccd : Value} {cl : List (Str × Addr)} {news : List (Addr × Obj)} {g : Obj → List (Addr × Obj)}
  {p : Program} {loose : List Str} {mean : ExcName → Option Value} {name qual : Str} {params : Arguments} {body : Expr} {scope : Scope} {ps : Array Value} {pos : Pos} {firstLine : Nat} {clos : List (Str × Addr)}
theorem lam_make {Q : Value → Shared → Prop} (F : Fr h₀ L s.heap m) (N : News h₀ L s.heap news) (T : Top p loose mean mg mb h₀) (C : CodeHd h₀ c 170) (hcd : ccd = .ref c) (U : UpdF 170 (tabObj ps) news g) (tok : TabOk h₀ 170 qLam ps)
    (hcl : closureFor scope (envX cn cs L a ccd cl) = pure clos) (hq : qual = qLam)
    (h : ∀ f c' ctv tab' h' tk, Fr h₀ L h' m →
      News h₀ L h' ((f, kla_obj name qual params body scope clos ((mg "__name__").getD .none) c' ctv) :: g (tabObj tab')) → h'.CodeRec (.ref c') qual → c' ≠ 170 → TabOk h' 170 qLam tab' →
      (∀ q ∈ news, q.1 < f) → Q (.ref f) { s with heap := h', toks := tk }) :
    wpAny M A (makeFunction name qual params (.expr body) scope (envX cn cs L a ccd cl) [] [] [] pos firstLine) Q E s := by
  subst hq
  have hmem : (170, tabObj ps) ∈ news := by
    obtain ⟨own, rest, e, _⟩ := U.split
    rw [e]; simp
  cases hca : codeAmong pos ps.toList with
  | none =>
    refine kla_nest F N T C hcd U tok.1 hca hcl fun f c' oc vs t ctv h' tk F' N' hd hv l1 l2 => ?_
    have hne : c' ≠ 170 := fun q => by
      have := l1 _ hmem
      rw [q] at this; exact Nat.lt_irrefl _ this
    have hoc : h'.get? c' = some oc := (N' _ (List.mem_cons_of_mem _ List.mem_cons_self)).1
    refine h f c' ctv (ps ++ #[rawInt pos.line, rawInt pos.col, .ref c']) h' tk F' (fun p hp => N' p ?_) ⟨c', oc, vs, t, rfl, hoc, hd, hv⟩ hne (TabOk.grown tok (fun b o e _ => F'.keep b o e) hoc hd hv hne) fun q hq => Nat.lt_trans (l1 q hq) l2
    rcases List.mem_cons.mp hp with rfl | hp
    · exact List.mem_cons_self
    · exact List.mem_cons_of_mem _ (List.mem_cons_of_mem _ hp)
  | some cv =>
    obtain ⟨c', e1, hcne, hrec⟩ := tok.2 _ _ hca
    subst e1
    refine kla_hit F N T C hcd hmem tok.1 hca hcl fun f ctv h' tk F' N' l1 => ?_
    have hg : g (tabObj ps) = news := by
      obtain ⟨own, rest, e, hg, _⟩ := U.split
      rw [hg, e]
    refine h f c' ctv ps h' tk F' (by rw [hg]; exact N') ?_ hcne (tok.but fun b o _ e => F'.keep b o e) l1
    obtain ⟨c2, oc, vs, t, e2, hoc, hd, hv⟩ := hrec
    exact ⟨c2, oc, vs, t, e2, F'.keep _ _ hoc, hd, hv⟩
end
theorem codeRec_stays {h h' : Heap} {c' D : Addr} {q : Str} {lk : List (Str × Tok)} {n : Nat} (x : h.CodeRec (.ref c') q) (h1 : c' ≠ 170) (hD : h.get? D = some (lkObj lk n)) (k : StaysBut [170, D] h h') : h'.CodeRec (.ref c') q := by
  obtain ⟨c2, oc, vs, t, e, hoc, hd, hv⟩ := x
  cases e
  refine ⟨_, oc, vs, t, rfl, k _ _ (fun hm => ?_) hoc, hd, hv⟩
  rcases List.mem_cons.mp hm with q | hm
  · exact h1 q
  · rw [List.mem_singleton.mp hm, hD] at hoc
    cases hoc; cases hd
theorem part_of {hg h : Heap} {L : Addr} {m : Str → Option Value} {news : List (Addr × Obj)} (F : Fr hg L h m) (N : News hg L h news) (own : List (Addr × Obj)) (sub : ∀ p ∈ own, p ∈ news) : Part hg h own :=
  ⟨F.keep, Nat.le_trans F.above (Nat.le_of_lt F.ns.lt), fun p hp => ⟨(N p (sub p hp)).1, (N p (sub p hp)).2.2⟩⟩
theorem part_cells {hg h h2 : Heap} {L D : Addr} {m : Str → Option Value} {news : List (Addr × Obj)} {tab tab2 : Array Value} {lk lk2 : List (Str × Tok)} {n n2 : Nat} (F : Fr hg L h m) (N : News hg L h news) (cells : List (Addr × Obj)) (hc : ∀ p ∈ cells, p ∈ news) (off : ∀ p ∈ cells, p.1 ∉ ([170, D] : List Addr))
    (h1 : (170, tabObj tab) ∈ news) (hD : (D, lkObj lk n) ∈ news) (PP : Part (hideAll h [170, D]) h2 (ownS tab2 D lk2 n2)) : Part hg h2 (cells ++ ownS tab2 D lk2 n2) := by
  have PA : Part hg h (ownS tab D lk n) := part_of F N _ fun p hp => by
    rcases List.mem_cons.mp hp with rfl | hp
    · exact h1
    · rw [List.mem_singleton.mp hp]; exact hD
  refine ⟨fun b o e => PP.keep b o (PA.up b o e), Nat.le_trans PA.size (Nat.le_trans (Nat.le_of_eq (hideAll_size _ _).symm) PP.size), fun p hp => ?_⟩
  rcases List.mem_append.mp hp with hp | hp
  · exact ⟨PP.keep _ _ (hideAll_get _ (N p (hc p hp)).1 (off p hp)), (N p (hc p hp)).2.2⟩
  · refine ⟨(PP.own p hp).1, ?_⟩
    rcases List.mem_cons.mp hp with rfl | hp
    · exact (PA.own _ List.mem_cons_self).2
    · rw [List.mem_singleton.mp hp]; exact (PA.own _ (List.mem_cons_of_mem _ List.mem_cons_self)).2
theorem StaysBut.trans {as : List Addr} {h h1 h2 : Heap} (a : StaysBut as h h1) (b : StaysBut as h1 h2) : StaysBut as h h2 := fun c o hc e => b c o hc (a c o hc e)
theorem After.from {D : Addr} {h h1 h2 : Heap} {r : List Str} (a : StaysBut [170, D] h h1) (b : After D h1 r h2) : After D h r h2 := by
  obtain ⟨tab, lk, n, k, r⟩ := b
  exact ⟨tab, lk, n, a.trans k, r⟩
theorem StaysBut.less {as bs : List Addr} {h h' : Heap} (a : StaysBut (as ++ bs) h h') (k : ∀ b ∈ as, ∀ o, h.get? b = some o → h'.get? b = some o) : StaysBut bs h h' := fun b o hb e => by
  by_cases ha : b ∈ as
  · exact k b ha o e
  · exact a b o (fun hm => (List.mem_append.mp hm).elim ha hb) e
theorem stays_cells {h h' : Heap} {D : Addr} {tab : Array Value} {lk : List (Str × Tok)} {n : Nat} {cells : List (Addr × Obj)} {news : List (Addr × Obj)} {hg : Heap} {L : Addr} {m : Str → Option Value} (P : Part hg h (cells ++ ownS tab D lk n)) (F : Fr (hideAll h ((cells ++ ownS tab D lk n).map (·.1))) L h' m) (N : News (hideAll h ((cells ++ ownS tab D lk n).map (·.1))) L h' news) (hc : ∀ p ∈ cells, p ∈ news) : StaysBut [170, D] h h' := by
  have a : StaysBut (cells.map (·.1) ++ [170, D]) h h' := fun b o hb e => F.keep b o (hideAll_get _ e (by rw [List.map_append]; exact hb))
  refine a.less fun b hb o e => ?_
  obtain ⟨p, hp, rfl⟩ := List.mem_map.mp hb
  rw [(P.own p (List.mem_append_left _ hp)).1] at e
  cases e
  exact (N p (hc p hp)).1
end
-- S2
section
variable {prog : Program} {w : World} {A : Around} {E : Value → Shared → Prop} {s : Shared}
theorem eq_nil {r l : Addr} {cc : List (Str × Tok)} {Q : Value → Shared → Prop} (hu : A.units < cLine) (hl : s.heap.IsList r (strValues cc).toArray) (he : s.heap.get? l = some (lobj #[] 0)) (h : Q (.bool (decide (cc = []))) s) :
    wpAny (model prog w) A (compareOp .Eq (.ref r) (.ref l)) Q E s := by
  obtain ⟨o, ho, hc, n, hd⟩ := hl
  have eo : o = { cls := .type "list", dict := o.dict, data := .seq (strValues cc).toArray n, slots := o.slots } := by
    cases o; simp only at hc hd; subst hc hd; rfl
  rw [eo] at ho
  show wpAny _ _ (richCompare .Eq (.ref r) (.ref l)) _ _ _
  cases cc with
  | nil =>
    refine richCompare_meets_room ⟨_, ho, rfl⟩ ⟨_, he, rfl⟩ F.slot_list_eq F.entry_list_eq (F.args_list_eq_2 _ _) (PySem.SeqAt.list_eqAt r l (strValues []).toArray #[] n 0 _ _ _ _ rfl fun _ => true) ⟨ho, he, fun j h1 => absurd h1 (by simp [strValues]), (fun e => nomatch e), ?_⟩ hu
    exact h
  | cons p t =>
    refine richCompare_meets_room ⟨_, ho, rfl⟩ ⟨_, he, rfl⟩ F.slot_list_eq F.entry_list_eq (F.args_list_eq_2 _ _) (PySem.SeqAt.list_eq_lengthsAt r l (strValues (p :: t)).toArray #[] n 0 _ _ _ _ (by simp [strValues])) ⟨ho, he, (fun e => nomatch e), ?_⟩ hu
    exact h
end
local macro_rules | `(tactic| walk_at "compareOp Eq ref ref") => `(tactic| (k_here; refine eq_nil (by walk_at "m_room") (by first | assumption | exact Fr.lst (by assumption) (by assumption)) (by (rename News _ _ _ _ => N8; exact (N8 _ (by k_mem)).1)) ?_; (try dsimp only)))
theorem fillS : PySem.Challenge.rw_un0028_01 = PySem.Challenge.rw_un0028_01 ∧ pk.heap_1 = pk.heap_1 := by
  k_fill
  exact ⟨rfl, rfl⟩
structure Dicts (prog : Program) (w : World) (h : Heap) (di de : Addr) (S : List Str) (inn : Str → List Str) (ev : Str → Int) : Prop where
  i : ∃ oi iks, h.get? di = some oi ∧ oi.IsDictOf (PySem.strKind prog w) iks ∧ ∀ x ∈ S, ∃ r c, valueAt iks x = some (.ref r) ∧ h.IsList r (strValues c).toArray ∧ c.length ≤ 14 ∧ c.map (·.1) = inn x
  e : ∃ oe ees, h.get? de = some oe ∧ oe.IsDictOf (PySem.strKind prog w) (intKvs ees) ∧ ∀ x ∈ S, ∃ t, valueAt (intKvs ees) x = some (.int (ev x) t)
  up : ∀ x ∈ S, ∀ k ∈ inn x, k ∈ S
theorem Dicts.keeps {prog : Program} {w : World} {h h' : Heap} {di de : Addr} {S : List Str} {inn : Str → List Str} {ev : Str → Int} (x : Dicts prog w h di de S inn ev) (k : ∀ b o, h.get? b = some o → h'.get? b = some o) : Dicts prog w h' di de S inn ev := by
  obtain ⟨⟨oi, iks, a1, a2, a3⟩, ⟨oe, ees, b1, b2, b3⟩, c⟩ := x
  refine ⟨⟨oi, iks, k _ _ a1, a2, fun x hx => ?_⟩, ⟨oe, ees, k _ _ b1, b2, b3⟩, c⟩
  obtain ⟨r, c, e1, ⟨o, e2, e3⟩, e4⟩ := a3 x hx
  exact ⟨r, c, e1, ⟨o, k _ _ e2, e3⟩, e4⟩
def SearchSpec (prog : Program) (w : World) (K : Frag) (p : Program) (loose : List Str) (mean : ExcName → Option Value) (mg mb : Str → Option Value) (S : List Str) (inn : Str → List Str) (ev : Str → Int) (n : Nat) : Prop :=
  ∀ {dp un : Nat} {fr : Option (List Env)} {gd : Option (List Code)} {s : Shared} {h₀ : Heap} {tab : Array Value} {D di de : Addr} {lk : List (Str × Tok)} {nl : Nat} {x : Str} {tx tl th : Tok} {low high : Int} {most : Bool} {Q E : Value → Shared → Prop},
    Part h₀ s.heap (ownS tab D lk nl) → K.In h₀ → Top p loose mean mg mb h₀ → CodeHd h₀ 174 170 → Dicts prog w h₀ di de S inn ev →
    dp + 5 * n ≤ 700 → un + 50 * n ≤ 7000 → @Ne Nat D 170 → TabOk s.heap 170 qLam tab → x ∈ S → Ht inn n x → lk.length + (lvs inn n x).length ≤ 100 →
    (∀ h' tk t, After D s.heap (lk.map (·.1) ++ (srch inn ev n most x low high).2) h' → Q (.int (srch inn ev n most x low high).1 t) { s with heap := h', toks := tk }) →
    wpAny (model prog w) ⟨none, dp, fr, gd, un⟩ (call (.ref 175) [.ref di, .ref de, .ref D, .str x tx, .int low tl, .int high th, .bool most]) Q E s
set_option maxHeartbeats 4000000 in
theorem search_step {w : World} {p loose mean mg mb} {S : List Str} {inn : Str → List Str} {ev : Str → Int} {ht : Nat} (IH : SearchSpec PySem.Challenge.rw_un0028_01.row.prog w (pk.heap_1 w.params) p loose mean mg mb S inn ev ht) :
    SearchSpec PySem.Challenge.rw_un0028_01.row.prog w (pk.heap_1 w.params) p loose mean mg mb S inn ev (ht + 1) := by
  intro dp un fr gd s h₀ tab D di de lk nl x tx tl th low high most Q E P X T Cd Di hd hu hne tok hx hht hlen hQ
  have U := P.up
  have P0 := P
  have tokg : TabOk (hideAll s.heap [170, D]) 170 qLam tab := tok.base (P.own _ (List.mem_cons_of_mem _ List.mem_cons_self)).1 fun b o hb e => hideAll_get _ e hb
  replace P := P.self
  replace X := X.keeps U
  replace T := T.keeps U
  replace Cd := Cd.keeps U
  replace Di := Di.keeps U
  have GG : ∀ {h' : Heap}, (∀ b o, (hideAll s.heap [170, D]).get? b = some o → h'.get? b = some o) → StaysBut [170, D] s.heap h' := staysBut_hide
  simp only [List.map_cons, List.map_nil] at P X T U Cd Di
  generalize hideAll s.heap [170, D] = hg at *
  have Di' := Di
  obtain ⟨⟨oi, iks, hi, hdi, hin⟩, ⟨oe, ees, he, hde, hen⟩, hup⟩ := Di'
  obtain ⟨r, cc, hr, hrl, hcl, hcc⟩ := hin x hx
  obtain ⟨te, hve⟩ := hen x hx
  have hlk : lk.length ≤ 100 := by omega
  clear hin hen
  (refine enterG (by assumption) (by k_in) (by exact Top.nolimit (Top.keeps (by assumption) (Part.keep (by assumption)))) (by k_is) (by k_is) (by (first | omega | ((try simp only [depth_deeper, Around.in1_depth, Around.deeper, recursionLimit]); omega))) (by (first | exact BindsTo.of_eq rfl | exact binds_K (by k_in) rfl (by k_is) rfl rfl rfl)) (by exact rfl) (by decide +kernel) ?_ (by exact rfl) (by exact rfl) (by exact rfl); k_whole)
  intro L h₁ tk cells hL F N K1 Y
  have hDL : @LT.lt Nat _ D L := by rw [hL]; exact Heap.lt_size (P.own _ (List.mem_cons_of_mem _ List.mem_cons_self)).1
  have h1L : @LT.lt Nat _ 170 L := by rw [hL]; exact Heap.lt_size (P.own _ List.mem_cons_self).1
  obtain ⟨o1, o2, o3, o4, o5, hE, d1, d2, d3, d4, d5⟩ := kc_five Y
  subst hE
  replace d1 : o1.data = .cell (some (.int high th)) := d1
  replace d2 : o2.data = .cell (some (.int low tl)) := d2
  replace d3 : o3.data = .cell (some (.ref D)) := d3
  replace d4 : o4.data = .cell (some (.ref de)) := d4
  replace d5 : o5.data = .cell (some (.ref di)) := d5
  clear Y
  (try dsimp only)
  (with_reducible show wpAny _ _ _ _ _ _)
  k_fold
  (try simp only [List.cons_append, List.nil_append] at N)
  walk_at "m_steps"
  · refine holdIn ?_
    (with_unfolding_all refine' median_ok ?dm1 ?dm2 ?dm3 ?dm4 ?dm5 ?_; (case dm5 => (rename News _ _ _ _ => N8; exact ⟨_, (N8 _ (by k_mem)).1, rfl, _, rfl⟩)); (case dm1 => k_in); (case dm2 => (walk_at "m_top")); (case dm3 => (walk_at "m_room")); (case dm4 => (walk_at "m_room")); intro h9 tk9 t9 st9; walk_at "m_stays")
    walk_at "m_steps"
    walk_at "m_ends"
    have hinn : inn x = [] := by rw [← hcc, ‹cc = []›]; rfl
    have es : srch inn ev (ht + 1) most x low high = (med3 high (ev x) low, [x]) := by rw [srch, if_pos hinn]
    rw [es] at hQ
    rename News _ _ _ _ => N8
    exact hQ _ _ _ ⟨tab, lk ++ [(x, tx)], nl + 1, GG (Fr.keep (by assumption)), (N8 (170, tabObj tab) (by simp)).1, (N8 (D, lkObj (lk ++ [(x, tx)]) (nl + 1)) (by simp)).1, tokg.but fun b o _ e => Fr.keep (by assumption) b o e, by simp⟩
  · have hinn : inn x ≠ [] := fun q => by
      rw [← hcc, List.map_eq_nil_iff] at q
      exact absurd q (by assumption)
    have hmost : most = true := by assumption
    refine kla_eval rfl ?_
    refine' lam_make ?F ?N ?T ?C ?cd ?U tokg ?cl ?q ?_
    case F => k_asm
    case N => k_asm
    case T => k_asm
    case C => assumption
    case cd => exact rfl
    case U => k_updF
    case cl => exact rfl
    case q =>
      show Str.ofString "_law_search" ++ Str.ofString ".<locals>." ++ Str.ofString "<lambda>" = qLam
      decide +kernel
    intro f c' ctv tab' h' tk' F' N' hrec hc170 tok' l1
    (try dsimp only at N')
    (try k_lt l1)
    walk_at "m_steps"
    walk_at "m_ends"
    have PA : Part hg h' (ownS tab' D lk nl) := part_of F' N' _ (by simp)
    have V := PA.up
    have hD' : h'.get? D = some (lkObj lk nl) := (PA.own _ (List.mem_cons_of_mem _ List.mem_cons_self)).1
    have hf170 : f ∉ ([170, D] : List Addr) := fun hm => by
      have l2 := l1
      simp only [List.mem_cons, List.not_mem_nil, or_false] at hm
      rcases hm with q | q
      · exact Nat.ne_of_gt (by omega : @LT.lt Nat _ 170 f) q
      · exact Nat.ne_of_gt (by omega : @LT.lt Nat _ D f) q
    have hff := N' _ List.mem_cons_self
    refine reduce_ok (stepMost (srch inn ev ht false) high) (lk := lk) (n := nl) (tab := tab') (ks := cc) PA.self (X.keeps V) (T.keeps V) (by walk_at "m_room") (by walk_at "m_room") (stays_list V hrl) ⟨_, _, _, _, hideAll_get _ hff.1 hf170⟩ hne tok' ?_ ?_
    · intro dp' un' fr' gd' s' Q' E' i k tk2 v t tab2 lk2 n2 hk hst PP TT hdp hun hq
      replace hdp : dp' ≤ dp + 4 := hdp
      replace hun : un' ≤ un + 23 := hun
      have hki : (inn x)[i]? = some k := by rw [← hcc, List.getElem?_map, hk]; rfl
      have hst' : (v, lk2.map (·.1)) = ((inn x).take i).foldl (stepMost (srch inn ev ht false) high) (low, lk.map (·.1)) := by rw [hst, ← hcc, List.map_take]
      have hkx : k ∈ inn x := List.mem_of_getElem? hki
      have hroom := most_room hki hinn hst' (by rw [List.length_map]; exact hlen)
      rw [List.length_map] at hroom
      have hkS := hup x hx k hkx
      have hkH : Ht inn ht k := hht k hkx
      have SB1 : StaysBut [170, D] h' s'.heap := staysBut_hide PP.keep
      have ho : s'.heap.get? f = _ := PP.keep _ _ (hideAll_get _ hff.1 hf170)
      have hrec' := codeRec_stays hrec hc170 hD' SB1
      have PC := part_cells F' N' [(L + 1 + 1 + 1 + 1 + 1, o1), (L + 1 + 1 + 1, o3), (L + 1 + 1, o4), (L + 1, o5)] (by simp) (fun p hp hm => by
        have hp' : @LT.lt Nat _ L p.1 := by
          simp only [List.mem_cons, List.not_mem_nil, or_false] at hp
          rcases hp with rfl | rfl | rfl | rfl <;> (simp only; omega)
        simp only [List.mem_cons, List.not_mem_nil, or_false] at hm
        rcases hm with q | q
        · exact Nat.ne_of_gt (Nat.lt_trans h1L hp') q
        · exact Nat.ne_of_gt (Nat.lt_trans hDL hp') q) (tab := tab') (lk := lk) (n := nl) (by simp) (by simp) PP
      have U2 := PC.up
      have P3 := PC.self
      have SB : ∀ {L2 : Addr} {h2 : Heap} {m2 : Str → Option Value} {news2 : List (Addr × Obj)}, Fr (hideAll s'.heap (([(L + 1 + 1 + 1 + 1 + 1, o1), (L + 1 + 1 + 1, o3), (L + 1 + 1, o4), (L + 1, o5)] ++ ownS tab2 D lk2 n2).map (·.1))) L2 h2 m2 → News (hideAll s'.heap (([(L + 1 + 1 + 1 + 1 + 1, o1), (L + 1 + 1 + 1, o3), (L + 1 + 1, o4), (L + 1, o5)] ++ ownS tab2 D lk2 n2).map (·.1))) L2 h2 news2 →
          (∀ p ∈ [(L + 1 + 1 + 1 + 1 + 1, o1), (L + 1 + 1 + 1, o3), (L + 1 + 1, o4), (L + 1, o5)], p ∈ news2) → StaysBut [170, D] s'.heap h2 := fun F N hc => stays_cells PC F N hc
      have hD2 := (PP.own _ (List.mem_cons_of_mem _ List.mem_cons_self)).1
      generalize hideAll s'.heap (([(L + 1 + 1 + 1 + 1 + 1, o1), (L + 1 + 1 + 1, o3), (L + 1 + 1, o4), (L + 1, o5)] ++ ownS tab2 D lk2 n2).map (·.1)) = h3 at P3 U2 SB
      have X3 := X.keeps U2
      have T3 := T.keeps U2
      have Cd3 := Cd.keeps U2
      have Di3 := Di.keeps U2
      clear SB1 PC PP PA V hff F' N' hf170 hst hst' X T Cd Di qk ek
      refine enterL (binds := [(Str.ofString "held", .int v t), (Str.ofString "kid", .str k tk2)]) P3 (Top.nolimit (T3.keeps P3.keep)) ho hrec' (by simp only [recursionLimit]; omega) rfl (locs rfl) ?_ rfl rfl rfl (by decide)
      intro L2 h2 hL2 F2 N2
      (try dsimp only)
      (with_reducible show wpAny _ _ _ _ _ _)
      (try simp only [List.cons_append, List.nil_append] at N2)
      walk_at "m_steps"
      · have e : stepMost (srch inn ev ht false) high (v, lk2.map (·.1)) k = (v, lk2.map (·.1)) := by
          simp only [stepMost]; rw [if_pos (by omega)]
        rw [e] at hq
        have SS := SB F2 N2 (by simp)
        exact hq _ _ _ ⟨tab2, lk2, n2, SS, (N2 (170, tabObj tab2) (by simp)).1, (N2 (D, lkObj lk2 n2) (by simp)).1, TT.base hD2 SS, rfl⟩
      · have e : stepMost (srch inn ev ht false) high (v, lk2.map (·.1)) k = ((srch inn ev ht false k v high).1, lk2.map (·.1) ++ (srch inn ev ht false k v high).2) := by
          simp only [stepMost]; rw [if_neg (by omega)]
        rw [e] at hq
        have SS := SB F2 N2 (by simp)
        refine IH (part_of F2 N2 (ownS tab2 D lk2 n2) (by simp)) X3 T3 Cd3 Di3 (by walk_at "m_room") (by walk_at "m_room") hne (TT.base hD2 SS) hkS hkH hroom ?_
        intro h9 tk9 t9 A9
        exact hq _ _ _ (A9.from SS)
    · intro h2 tk3 t3 A3
      have es : srch inn ev (ht + 1) most x low high = (inn x).foldl (stepMost (srch inn ev ht false) high) (low, []) := by rw [srch, if_neg hinn, if_pos hmost]
      have ep := most_pre (go := srch inn ev ht false) high (inn x) low (lk.map (·.1)) []
      rw [List.append_nil] at ep
      rw [hcc, ep] at A3 ⊢
      rw [es] at hQ
      exact hQ _ _ _ (A3.from (GG F'.keep))
  · have hinn : inn x ≠ [] := fun q => by
      rw [← hcc, List.map_eq_nil_iff] at q
      exact absurd q (by assumption)
    have hmost : ¬ most = true := by simp_all
    refine kla_eval rfl ?_
    refine' lam_make ?F ?N ?T ?C ?cd ?U tokg ?cl ?q ?_
    case F => k_asm
    case N => k_asm
    case T => k_asm
    case C => assumption
    case cd => exact rfl
    case U => k_updF
    case cl => exact rfl
    case q =>
      show Str.ofString "_law_search" ++ Str.ofString ".<locals>." ++ Str.ofString "<lambda>" = qLam
      decide +kernel
    intro f c' ctv tab' h' tk' F' N' hrec hc170 tok' l1
    (try dsimp only at N')
    (try k_lt l1)
    walk_at "m_steps"
    walk_at "m_ends"
    have PA : Part hg h' (ownS tab' D lk nl) := part_of F' N' _ (by simp)
    have V := PA.up
    have hD' : h'.get? D = some (lkObj lk nl) := (PA.own _ (List.mem_cons_of_mem _ List.mem_cons_self)).1
    have hf170 : f ∉ ([170, D] : List Addr) := fun hm => by
      have l2 := l1
      simp only [List.mem_cons, List.not_mem_nil, or_false] at hm
      rcases hm with q | q
      · exact Nat.ne_of_gt (by omega : @LT.lt Nat _ 170 f) q
      · exact Nat.ne_of_gt (by omega : @LT.lt Nat _ D f) q
    have hff := N' _ List.mem_cons_self
    refine reduce_ok (stepLeast (srch inn ev ht true) low) (lk := lk) (n := nl) (tab := tab') (ks := cc) PA.self (X.keeps V) (T.keeps V) (by walk_at "m_room") (by walk_at "m_room") (stays_list V hrl) ⟨_, _, _, _, hideAll_get _ hff.1 hf170⟩ hne tok' ?_ ?_
    · intro dp' un' fr' gd' s' Q' E' i k tk2 v t tab2 lk2 n2 hk hst PP TT hdp hun hq
      replace hdp : dp' ≤ dp + 4 := hdp
      replace hun : un' ≤ un + 23 := hun
      have hki : (inn x)[i]? = some k := by rw [← hcc, List.getElem?_map, hk]; rfl
      have hst' : (v, lk2.map (·.1)) = ((inn x).take i).foldl (stepLeast (srch inn ev ht true) low) (high, lk.map (·.1)) := by rw [hst, ← hcc, List.map_take]
      have hkx : k ∈ inn x := List.mem_of_getElem? hki
      have hroom := least_room hki hinn hst' (by rw [List.length_map]; exact hlen)
      rw [List.length_map] at hroom
      have hkS := hup x hx k hkx
      have hkH : Ht inn ht k := hht k hkx
      have SB1 : StaysBut [170, D] h' s'.heap := staysBut_hide PP.keep
      have ho : s'.heap.get? f = _ := PP.keep _ _ (hideAll_get _ hff.1 hf170)
      have hrec' := codeRec_stays hrec hc170 hD' SB1
      have PC := part_cells F' N' [(L + 1 + 1 + 1 + 1, o2), (L + 1 + 1 + 1, o3), (L + 1 + 1, o4), (L + 1, o5)] (by simp) (fun p hp hm => by
        have hp' : @LT.lt Nat _ L p.1 := by
          simp only [List.mem_cons, List.not_mem_nil, or_false] at hp
          rcases hp with rfl | rfl | rfl | rfl <;> (simp only; omega)
        simp only [List.mem_cons, List.not_mem_nil, or_false] at hm
        rcases hm with q | q
        · exact Nat.ne_of_gt (Nat.lt_trans h1L hp') q
        · exact Nat.ne_of_gt (Nat.lt_trans hDL hp') q) (tab := tab') (lk := lk) (n := nl) (by simp) (by simp) PP
      have U2 := PC.up
      have P3 := PC.self
      have SB : ∀ {L2 : Addr} {h2 : Heap} {m2 : Str → Option Value} {news2 : List (Addr × Obj)}, Fr (hideAll s'.heap (([(L + 1 + 1 + 1 + 1, o2), (L + 1 + 1 + 1, o3), (L + 1 + 1, o4), (L + 1, o5)] ++ ownS tab2 D lk2 n2).map (·.1))) L2 h2 m2 → News (hideAll s'.heap (([(L + 1 + 1 + 1 + 1, o2), (L + 1 + 1 + 1, o3), (L + 1 + 1, o4), (L + 1, o5)] ++ ownS tab2 D lk2 n2).map (·.1))) L2 h2 news2 →
          (∀ p ∈ [(L + 1 + 1 + 1 + 1, o2), (L + 1 + 1 + 1, o3), (L + 1 + 1, o4), (L + 1, o5)], p ∈ news2) → StaysBut [170, D] s'.heap h2 := fun F N hc => stays_cells PC F N hc
      have hD2 := (PP.own _ (List.mem_cons_of_mem _ List.mem_cons_self)).1
      generalize hideAll s'.heap (([(L + 1 + 1 + 1 + 1, o2), (L + 1 + 1 + 1, o3), (L + 1 + 1, o4), (L + 1, o5)] ++ ownS tab2 D lk2 n2).map (·.1)) = h3 at P3 U2 SB
      have X3 := X.keeps U2
      have T3 := T.keeps U2
      have Cd3 := Cd.keeps U2
      have Di3 := Di.keeps U2
      clear SB1 PC PP PA V hff F' N' hf170 hst hst' X T Cd Di qk ek
      refine enterL (binds := [(Str.ofString "held", .int v t), (Str.ofString "kid", .str k tk2)]) P3 (Top.nolimit (T3.keeps P3.keep)) ho hrec' (by simp only [recursionLimit]; omega) rfl (locs rfl) ?_ rfl rfl rfl (by decide)
      intro L2 h2 hL2 F2 N2
      (try dsimp only)
      (with_reducible show wpAny _ _ _ _ _ _)
      (try simp only [List.cons_append, List.nil_append] at N2)
      walk_at "m_steps"
      · have e : stepLeast (srch inn ev ht true) low (v, lk2.map (·.1)) k = (v, lk2.map (·.1)) := by
          simp only [stepLeast]; rw [if_pos (by omega)]
        rw [e] at hq
        have SS := SB F2 N2 (by simp)
        exact hq _ _ _ ⟨tab2, lk2, n2, SS, (N2 (170, tabObj tab2) (by simp)).1, (N2 (D, lkObj lk2 n2) (by simp)).1, TT.base hD2 SS, rfl⟩
      · have e : stepLeast (srch inn ev ht true) low (v, lk2.map (·.1)) k = ((srch inn ev ht true k low v).1, lk2.map (·.1) ++ (srch inn ev ht true k low v).2) := by
          simp only [stepLeast]; rw [if_neg (by omega)]
        rw [e] at hq
        have SS := SB F2 N2 (by simp)
        refine IH (part_of F2 N2 (ownS tab2 D lk2 n2) (by simp)) X3 T3 Cd3 Di3 (by walk_at "m_room") (by walk_at "m_room") hne (TT.base hD2 SS) hkS hkH hroom ?_
        intro h9 tk9 t9 A9
        exact hq _ _ _ (A9.from SS)
    · intro h2 tk3 t3 A3
      have es : srch inn ev (ht + 1) most x low high = (inn x).foldl (stepLeast (srch inn ev ht true) low) (high, []) := by rw [srch, if_neg hinn, if_neg hmost]
      have ep := least_pre (go := srch inn ev ht true) low (inn x) high (lk.map (·.1)) []
      rw [List.append_nil] at ep
      rw [hcc, ep] at A3 ⊢
      rw [es] at hQ
      exact hQ _ _ _ (A3.from (GG F'.keep))
theorem search_ok {w : World} {p loose mean mg mb} {S : List Str} {inn : Str → List Str} {ev : Str → Int} : ∀ n : Nat, SearchSpec PySem.Challenge.rw_un0028_01.row.prog w (pk.heap_1 w.params) p loose mean mg mb S inn ev n
  | 0 => fun _ _ _ _ _ _ _ _ _ _ hht _ _ => hht.elim
  | n + 1 => search_step (search_ok n)
-- DC
section
open PySem.Calls
open LCg LCt
abbrev svObj (c : List (Str × Tok)) (e : Nat) : Obj := { cls := .type "list", data := .seq (strValues c).toArray e }
def SrcD (prog : Program) (w : World) (A : Around) (h₀ : Heap) (L : Addr) (m : Str → Option Value) (env : Env) (vx : Expr) (x : Str) (scope : Scope) (cl : List (Str × Addr)) (Q : Value → Shared → Prop) (xv : Value) (s₁ : Shared) : Prop :=
  ∃ ax news ks, ∃ G : Str → List (Str × Tok) → Prop, xv = .ref ax ∧ A.handled = none ∧ Fr h₀ L s₁.heap m ∧ News h₀ L s₁.heap news ∧ SrcAt2 "list" h₀ ax (strValues ks).toArray news ∧ ks.length ≤ 1000 ∧
    (∀ k t I oI D oD P oP C oC mk h tk (E' : Value → Shared → Prop) (Q' : Value → Shared → Prop), (k, t) ∈ ks → NsObj oC (fun _ => none) → oP.data = .cell (some (.str k t)) → Fr h₀ L h m → News h₀ L h ((I, oI) :: (D, oD) :: (P, oP) :: (C, oC) :: (news ++ mk)) →
      (∀ r c e h' tk', Fr h₀ L h' m → News h₀ L h' ((r, svObj c e) :: (I, oI) :: (D, oD) :: (P, oP) :: (C, oC) :: (news ++ mk)) → (∀ p ∈ (I, oI) :: (D, oD) :: (P, oP) :: (C, oC) :: (news ++ mk), p.1 < r) → G k c → Q' (.ref r) { s₁ with heap := h', toks := tk' }) →
      wpAny (model prog w) A (eval vx (compEnvC scope ((x, P) :: cl) C env)) Q' E' { s₁ with heap := h, toks := tk }) ∧
    ∀ D oD kvs mk h tk, Fr h₀ L h m → News h₀ L h ((D, oD) :: (news ++ mk)) → oD.IsDictOf (PySem.strKind prog w) kvs → kvs.length ≤ ks.length →
      (∀ k t, (k, t) ∈ ks → ∃ r c e, valueAt kvs k = some (.ref r) ∧ (r, svObj c e) ∈ mk ∧ G k c) → (∀ p ∈ news, p.1 < D) → (∀ p ∈ mk, D < p.1) → Q (.ref D) { s₁ with heap := h, toks := tk }
section
variable {prog : Program} {w : World} {A : Around} {E : Value → Shared → Prop} {s : Shared} {h₀ : Heap} {L : Addr} {m : Str → Option Value} {env : Env}
theorem dc_expr {vx iter : Expr} {x : Str} {px py : Pos} {scope : Scope} {cl : List (Str × Addr)} {pos : Pos} {Q : Value → Shared → Prop} (F₀ : Fr h₀ L s.heap m) (hclos : closureFor scope env = pure cl)
    (hcells : ∀ n cl, cellsFrom n scope.names cl = (x, n) :: cl) (hpush : ∀ h : Heap, pushCells h scope.names = h.push { cls := .type "cell", data := .cell none }) (hkind : scope.kind = .function)
    (hnames : ∀ y ∈ scope.names, y.2 = .local → scope.names.lookup y.1 = some .local) (hx : ∀ C cl, (compEnvC scope cl C env).kindOf x = some .cell) (hb : (x == ("__debug__" : Str)) = false) (hb2 : (x == ("__classdict__" : Str)) = false)
    (h : wpAny (model prog w) A (eval iter env) (SrcD prog w A h₀ L m env vx x scope cl Q) E s)
    (hs : ∀ x, foldedSetIterable iter env x = pure x := by intro _; rfl) :
    wpAny (model prog w) A (eval (.DictComp (.Name x py) vx [⟨.Name x px, iter, [], 0⟩] scope pos) env) Q E s := by
  have _ := F₀
  rw [arm_eval_DictComp]
  refine wpAny_comprehension_free (use := none) rfl hs hclos hkind hnames (wpAny_mono h (fun xv s₁ h₁ => ?_) fun _ _ e => e)
  obtain ⟨ax, news, ks, G, rfl, hh, F, N, S, hks, hel, hQ⟩ := h₁
  have hsz : (strValues ks).toArray.size = ks.length := by rw [List.size_toArray, strValues, List.length_map]
  refine src_iter (.inl rfl) hh F N S fun I fp St hS IO st0 hfp F' N' hLI hI0 off => ?_
  have W := IO.W
  generalize hs₂ : ({ s₁ with heap := hS } : Shared) = s₂
  have hh₂ : s₂.heap = hS := by rw [← hs₂]
  rw [← hh₂] at F' N' st0
  have hfp' : ∀ b ∈ fp, b < s₂.heap.objs.size := by rw [hh₂]; exact hfp
  refine wpAny_newObj_type ?_
  simp only [newFunctionEnv, Option.isSome_some, if_true]
  refine wpAny_bind (wpAny_alloc ?_)
  refine wpAny_bind (wpAny_layCells _ (fun name kind cells => by cases hkc : kind == NameKind.cell <;> simp [hkc]) _ _ _ _ ?_)
  rw [hcells, hpush]
  show wpAny _ _ (pure _) _ _ _
  refine wpAny_pure ?_
  dsimp only
  generalize hH2 : s₂.heap.push { cls := .type "dict", dict := none, data := .dict #[] } = H2
  generalize hH3 : H2.push { cls := .type "dict", dict := none, data := .dict #[] } = H3
  generalize hH4 : H3.push { cls := .type "cell", data := .cell none } = h₁
  have hC : H2.objs.size = s₂.heap.objs.size + 1 := by rw [← hH2, Heap.size_push]
  have hP : H3.objs.size = s₂.heap.objs.size + 2 := by rw [← hH3, Heap.size_push, hC]
  have below : ∀ b, b < s₂.heap.objs.size → b ≠ H2.objs.size ∧ b ≠ s₂.heap.objs.size ∧ b ≠ H3.objs.size := fun b hb => ⟨by rw [hC]; exact Nat.ne_of_lt (Nat.lt_succ_of_lt hb), Nat.ne_of_lt hb, by rw [hP]; exact Nat.ne_of_lt (by omega)⟩
  have hDC : s₂.heap.objs.size ≠ H2.objs.size := by rw [hC]; exact Nat.ne_of_lt (Nat.lt_succ_self _)
  have hDP : s₂.heap.objs.size ≠ H3.objs.size := by rw [hP]; exact Nat.ne_of_lt (by omega)
  have hCP : H2.objs.size ≠ H3.objs.size := by rw [hP, hC]; exact Nat.ne_of_lt (by omega)
  have hDf : s₂.heap.objs.size ∉ fp := fun hm => Nat.lt_irrefl _ (hfp' _ hm)
  have hCf : H2.objs.size ∉ fp := fun hm => by have := hfp' _ hm; rw [hC] at this; exact Nat.lt_irrefl _ (Nat.lt_of_succ_lt this)
  have hPf : H3.objs.size ∉ fp := fun hm => by have := hfp' _ hm; rw [hP] at this; exact Nat.lt_irrefl _ (Nat.lt_of_succ_lt (Nat.lt_of_succ_lt this))
  have hIf : I ∈ fp := W.sub I (List.mem_singleton.mpr rfl)
  have hIlt : I < s₂.heap.objs.size := hfp' I hIf
  have old2 : ∀ b o, H2.get? b = some o → h₁.get? b = some o := fun b o e => hH4 ▸ Heap.get?_push_of_some _ (hH3 ▸ Heap.get?_push_of_some _ e)
  have old : ∀ b o, s₂.heap.get? b = some o → h₁.get? b = some o := fun b o e => old2 b o (hH2 ▸ Heap.get?_push_of_some _ e)
  have hacc : h₁.get? s₂.heap.objs.size = some { cls := .type "dict", data := .dict #[] } := old2 _ _ (hH2 ▸ Heap.get?_push_size _ rfl)
  have hnsC : h₁.get? H2.objs.size = some { cls := .type "dict", data := .dict #[] } := hH4 ▸ Heap.get?_push_of_some _ (hH3 ▸ Heap.get?_push_size _ rfl)
  have hcell : h₁.get? H3.objs.size = some { cls := .type "cell", data := .cell none } := hH4 ▸ Heap.get?_push_size _ rfl
  have hst₁ : St 0 h₁ := W.frame _ _ _ st0 fun b _ o e => old b o e
  have fresh₀ : ∀ a, s₂.heap.objs.size ≤ a → h₀.get? a = none := fun a ha => by
    cases e : h₀.get? a with
    | none => rfl
    | some o' => exact absurd (Heap.lt_size (F'.keep a o' e)) (Nat.not_lt.mpr ha)
  have hD₀ : h₀.get? s₂.heap.objs.size = none := fresh₀ _ (Nat.le_refl _)
  have hC₀ : h₀.get? H2.objs.size = none := fresh₀ _ (by rw [hC]; exact Nat.le_succ _)
  have hP₀ : h₀.get? H3.objs.size = none := fresh₀ _ (by rw [hP]; omega)
  have hLlt : L < s₂.heap.objs.size := F'.ns.lt
  have hDL : s₂.heap.objs.size ≠ L := Ne.symm (below L hLlt).2.1
  have hCL : H2.objs.size ≠ L := Ne.symm (below L hLlt).1
  have hPL : H3.objs.size ≠ L := Ne.symm (below L hLlt).2.2
  have hCI : I ≠ H2.objs.size := (below I hIlt).1
  have hDI : I ≠ s₂.heap.objs.size := (below I hIlt).2.1
  have hPI : I ≠ H3.objs.size := (below I hIlt).2.2
  have offN : ∀ p ∈ news, p.1 ≠ H2.objs.size ∧ p.1 ≠ s₂.heap.objs.size ∧ p.1 ≠ H3.objs.size := fun p hp => below _ (Heap.lt_size (N' p hp).1)
  have ns0 : ∃ oC, NsObj oC (fun _ => none) ∧ h₁.get? H2.objs.size = some oC := by
    obtain ⟨oC, e1, e2⟩ := ns_obj (Heap.Ns.new H2 (.type "dict"))
    refine ⟨oC, e2, ?_⟩
    rw [← e1, hnsC]
    exact (Heap.get?_push_size _ rfl).symm
  obtain ⟨oC, hoC, hoC1⟩ := ns0
  have hd0 : ({ cls := .type "dict", data := .dict #[] } : Obj).IsDictOf (PySem.strKind prog w) [] := by
    obtain ⟨o, e1, e2⟩ := Heap.dictOf_iff.mp (Heap.DictOf.new (knd := PySem.strKind prog w) s₂.heap)
    rw [Heap.get?_push_size _ rfl] at e1
    cases e1
    exact e2
  have loop : ∀ s₃ : Shared, s₃ = { s₂ with heap := h₁ } →
      codeAny (model prog w) A (.compLoop (.DictComp (.Name x py) vx [⟨.Name x px, iter, [], 0⟩] scope pos) 0 (.ref I) (.ref s₂.heap.objs.size) (compEnvC scope ((x, H3.objs.size) :: cl) H2.objs.size env))
        (compPost (model prog w) A E none Q (.ref s₂.heap.objs.size) H2.objs.size) s₃ := by
    rintro s₃ rfl
    refine codeAny_compLoop_testsD
      (fun k s' => ∃ h' tk i oD oP kvs mk, s' = { s₂ with heap := h', toks := tk } ∧ i ≤ ks.length ∧ k = ks.length + 1 - i ∧ St i h' ∧ Fr h₀ L h' m ∧
        News h₀ L h' ((s₂.heap.objs.size, oD) :: (H3.objs.size, oP) :: (H2.objs.size, oC) :: (news ++ mk)) ∧ oD.IsDictOf (PySem.strKind prog w) kvs ∧ (∃ v₀, oP.data = .cell v₀) ∧
        kvs.length ≤ i ∧ (∀ j, j < i → ∀ k t, ks[j]? = some (k, t) → ∃ r c e, valueAt kvs k = some (.ref r) ∧ (r, svObj c e) ∈ mk ∧ G k c) ∧ (∀ p ∈ mk, H3.objs.size < p.1)) ?_ (ks.length + 1)
      ⟨h₁, _, 0, { cls := .type "dict", data := .dict #[] }, { cls := .type "cell", data := .cell none }, [], [], rfl, Nat.zero_le _, rfl, hst₁, F'.keeps old, fun p hp => ?_, hd0, ⟨none, rfl⟩, Nat.le_refl _, fun _ h => absurd h (Nat.not_lt_zero _), fun _ h => nomatch h⟩
    · rintro k s' ⟨h', tk, i, oD, oP, kvs, mk, rfl, hi, rfl, hst', F₁, N₁, hD, ⟨v₀, hPc⟩, hkl, hJ, hmk⟩
      have hmkI : ∀ p ∈ mk, p.1 ≠ I ∧ p.1 ≠ s₂.heap.objs.size ∧ p.1 ≠ H2.objs.size ∧ p.1 ≠ H3.objs.size := fun p hp => by
        have h1 := hmk p hp
        have h2 : I < H3.objs.size := by rw [hP]; exact Nat.lt_of_lt_of_le hIlt (Nat.le_add_right _ _)
        have h3 : s₂.heap.objs.size < H3.objs.size := by rw [hP]; omega
        have h4 : H2.objs.size < H3.objs.size := by rw [hP, hC]; omega
        exact ⟨Nat.ne_of_gt (Nat.lt_trans h2 h1), Nat.ne_of_gt (Nat.lt_trans h3 h1), Nat.ne_of_gt (Nat.lt_trans h4 h1), Nat.ne_of_gt h1⟩
      by_cases hlt : i < ks.length
      · refine W.item i _ _ _ (by rw [hsz]; exact hlt) hst' fun v h₂ tk₂ hPv hst₂ hk₂ => ?_
        obtain ⟨⟨k, t⟩, hkt⟩ : ∃ p, ks[i]? = some p := ⟨_, List.getElem?_eq_getElem hlt⟩
        have ev : v = .str k t := by
          have hPv' : (strValues ks).toArray[i]? = some v := hPv
          rw [List.getElem?_toArray, strValues, List.getElem?_map, hkt] at hPv'
          exact (Option.some.inj hPv').symm
        subst ev
        have N₂ : News h₀ L h₂ ((s₂.heap.objs.size, oD) :: (H3.objs.size, oP) :: (H2.objs.size, oC) :: (news ++ mk)) := news_but N₁ hk₂ fun p hp => by
          rcases List.mem_cons.mp hp with rfl | hp
          · exact Ne.symm hDI
          · rcases List.mem_cons.mp hp with rfl | hp
            · exact Ne.symm hPI
            · rcases List.mem_cons.mp hp with rfl | hp
              · exact Ne.symm hCI
              · rcases List.mem_append.mp hp with hp | hp
                · exact off p hp
                · exact (hmkI p hp).1
        have F₂ : Fr h₀ L h₂ m := fr_but F₁ hk₂ hLI hI0
        have zP := N₂ (H3.objs.size, oP) (by simp)
        refine wpAny_assign_Name (wpAny_storeName_cell (env := compEnvC scope ((x, H3.objs.size) :: cl) H2.objs.size env) hkind (hx _ _) (by simp [compEnvC]) ⟨oP, zP.1, hPc⟩ fun h₃ hv₃ hs₃ => ?_)
        obtain ⟨oP', hoP', hdP'⟩ := hv₃
        have hst₃ : St (i + 1) h₃ := W.frame _ _ _ hst₂ fun b hb o e => hs₃.extBut b o (fun q => hPf (by have q' : b = H3.objs.size := q; rw [← q']; exact hb)) e
        have F₃ : Fr h₀ L h₃ m := F₂.change hs₃ hPL hP₀
        obtain ⟨oI, hoI⟩ := IO.obj _ _ hst₃
        have N₃ : News h₀ L h₃ ((I, oI) :: (s₂.heap.objs.size, oD) :: (H3.objs.size, oP') :: (H2.objs.size, oC) :: (news ++ mk)) := fun p hp => by
          rcases List.mem_cons.mp hp with rfl | hp
          · exact ⟨hoI, Ne.symm hLI, hI0⟩
          · rcases List.mem_cons.mp hp with rfl | hp
            · have z := N₂ (s₂.heap.objs.size, oD) (by simp)
              exact ⟨hs₃.extBut _ _ hDP z.1, z.2⟩
            · rcases List.mem_cons.mp hp with rfl | hp
              · exact ⟨hoP', zP.2⟩
              · have z := N₂ p (List.mem_cons_of_mem _ (List.mem_cons_of_mem _ hp))
                refine ⟨hs₃.extBut _ _ ?_ z.1, z.2⟩
                rcases List.mem_cons.mp hp with rfl | hp
                · exact hCP
                · rcases List.mem_append.mp hp with hp | hp
                  · exact (offN p hp).2.2
                  · exact (hmkI p hp).2.2.2
        rw [List.forIn_nil]
        refine wpAny_pure ?_
        rw [if_pos rfl]
        refine wpAny_Name (wpAny_loadName_cell (env := compEnvC scope ((x, H3.objs.size) :: cl) H2.objs.size env) hkind (hx _ _) (by simp [compEnvC]) ⟨oP', hoP', hdP'⟩ ?_) hb
        subst hs₂
        refine hel k t I oI _ oD _ oP' _ oC mk h₃ _ _ _ (List.mem_of_getElem? hkt) hoC hdP' F₃ N₃ fun r c e h₅ tk₅ F₅ N₅ l₅ hG => ?_
        have zD := N₅ (hS.objs.size, oD) (by simp)
        have zI := N₅ (I, oI) (by simp)
        refine wpAny_dictSet_pairs (knd := PySem.strKind prog w) (hsz := by rw [sizeLine_eq]; omega) (strKind_is _ _ _ _) (Heap.dictOf_iff.mpr ⟨oD, zD.1, hD⟩) fun h₆ hD₆ hs₆ => ?_
        obtain ⟨oD₆, heD₆, hdD₆⟩ := Heap.dictOf_iff.mp hD₆
        have lr := fun p hp => Nat.ne_of_lt (l₅ p hp)
        have hrD : r ≠ hS.objs.size := Ne.symm (lr (hS.objs.size, oD) (by simp))
        have N₆ : News h₀ L h₆ ((hS.objs.size, oD₆) :: (H3.objs.size, oP') :: (H2.objs.size, oC) :: (news ++ ((r, svObj c e) :: mk))) := fun p hp => by
          rcases List.mem_cons.mp hp with rfl | hp
          · exact ⟨heD₆, zD.2⟩
          · have hp5 : p ∈ (r, svObj c e) :: (I, oI) :: (hS.objs.size, oD) :: (H3.objs.size, oP') :: (H2.objs.size, oC) :: (news ++ mk) := by
              simp only [List.mem_cons, List.mem_append] at hp ⊢
              rcases hp with h | h | h | h | h
              · exact .inr (.inr (.inr (.inl h)))
              · exact .inr (.inr (.inr (.inr (.inl h))))
              · exact .inr (.inr (.inr (.inr (.inr (.inl h)))))
              · exact .inl h
              · exact .inr (.inr (.inr (.inr (.inr (.inr h)))))
            have z := N₅ p hp5
            refine ⟨hs₆.extBut _ _ ?_ z.1, z.2⟩
            rcases List.mem_cons.mp hp with rfl | hp
            · exact Ne.symm hDP
            · rcases List.mem_cons.mp hp with rfl | hp
              · exact Ne.symm hDC
              · rcases List.mem_append.mp hp with hp | hp
                · exact (offN p hp).2.1
                · rcases List.mem_cons.mp hp with rfl | hp
                  · exact hrD
                  · exact (hmkI p hp).2.1
        have F₆ : Fr h₀ L h₆ m := F₅.change hs₆ hDL hD₀
        refine ⟨ks.length + 1 - (i + 1), by omega, h₆, _, i + 1, oD₆, oP', stored kvs k (.ref r), (r, svObj c e) :: mk, rfl, hlt, rfl, ?_, F₆, N₆, hdD₆, ⟨_, hdP'⟩, ?_, ?_, ?_⟩
        · exact IO.stays (i + 1) h₃ h₆ oI _ hst₃ hoI (hs₆.extBut _ _ hDI zI.1) F₆.keep N₆ (S.mono fun p hp => by simp [hp])
        · have := stored_length_le kvs k (.ref r)
          omega
        · intro j hj k' t' hj'
          rw [va_stored]
          by_cases hk : k' = k
          · subst hk
            exact ⟨r, c, e, by rw [if_pos rfl], List.mem_cons_self, hG⟩
          · rw [if_neg hk]
            have hj2 : j < i := by
              rcases Nat.lt_succ_iff_lt_or_eq.mp hj with h | h
              · exact h
              · subst h
                rw [hkt] at hj'; cases hj'
                exact absurd rfl hk
            obtain ⟨r', c', e', a1, a2, a3⟩ := hJ j hj2 k' t' hj'
            exact ⟨r', c', e', a1, List.mem_cons_of_mem _ a2, a3⟩
        · intro p hp
          rcases List.mem_cons.mp hp with rfl | hp
          · exact l₅ (H3.objs.size, oP') (by simp)
          · exact hmk p hp
      · obtain rfl : i = ks.length := Nat.le_antisymm hi (Nat.not_lt.mp hlt)
        refine W.done _ _ _ (by rw [hsz]; exact hst') fun h₂ tk₂ hk₂ => ?_
        have N₂ : News h₀ L h₂ ((s₂.heap.objs.size, oD) :: (H3.objs.size, oP) :: (H2.objs.size, oC) :: (news ++ mk)) := news_but N₁ hk₂ fun p hp => by
          rcases List.mem_cons.mp hp with rfl | hp
          · exact Ne.symm hDI
          · rcases List.mem_cons.mp hp with rfl | hp
            · exact Ne.symm hPI
            · rcases List.mem_cons.mp hp with rfl | hp
              · exact Ne.symm hCI
              · rcases List.mem_append.mp hp with hp | hp
                · exact off p hp
                · exact (hmkI p hp).1
        refine ⟨fun _ => none, hoC.ns (N₂ (H2.objs.size, oC) (by simp)).1, fun h'' hs'' => ?_⟩
        have F₂ := (fr_but F₁ hk₂ hLI hI0).change hs'' hCL hC₀
        subst hs₂
        refine hQ _ oD kvs mk h'' tk₂ F₂ (fun p hp => ⟨hs''.extBut _ _ ?_ (N₂ p ?_).1, (N₂ p ?_).2⟩) hD hkl ?_ (fun p hp => Heap.lt_size (N' p hp).1) (fun p hp => ?_)
        · rcases List.mem_cons.mp hp with rfl | hp
          · exact hDC
          · rcases List.mem_append.mp hp with hp | hp
            · exact (offN p hp).1
            · exact (hmkI p hp).2.2.1
        · rcases List.mem_cons.mp hp with rfl | hp
          · exact List.mem_cons_self
          · exact List.mem_cons_of_mem _ (List.mem_cons_of_mem _ (List.mem_cons_of_mem _ hp))
        · rcases List.mem_cons.mp hp with rfl | hp
          · exact List.mem_cons_self
          · exact List.mem_cons_of_mem _ (List.mem_cons_of_mem _ (List.mem_cons_of_mem _ hp))
        · intro k t hk
          obtain ⟨j, hj, e⟩ := List.mem_iff_getElem.mp hk
          exact hJ j hj k t (by rw [List.getElem?_eq_getElem hj, e])
        · have h1 := hmk p hp
          rw [hP] at h1
          show hS.objs.size < p.1
          exact Nat.lt_trans (by show hS.objs.size < hS.objs.size + 2; omega) h1
    · rcases List.mem_cons.mp hp with rfl | hp
      · exact ⟨hacc, hDL, hD₀⟩
      · rcases List.mem_cons.mp hp with rfl | hp
        · exact ⟨hcell, hPL, hP₀⟩
        · rcases List.mem_cons.mp hp with rfl | hp
          · exact ⟨hoC1, hCL, hC₀⟩
          · rw [List.append_nil] at hp
            exact ⟨old _ _ (N' p hp).1, (N' p hp).2⟩
  exact codeAny_compStart_dict (loop _ rfl) (W.self 0 _ _ _ hst₁ (loop _ rfl))
end
end
-- A1
theorem maxL_lt (v : Int) : ∀ l : List Int, l ≠ [] → (maxL l < v ↔ ∀ a ∈ l, a < v)
  | [], h => absurd rfl h
  | [a], _ => by simp [maxL]
  | a :: b :: r, _ => by
    have ih := maxL_lt v (b :: r) (by simp)
    rw [maxL, List.forall_mem_cons, ← ih]
    exact Int.max_lt
theorem minL_gt (v : Int) : ∀ l : List Int, l ≠ [] → (v < minL l ↔ ∀ a ∈ l, v < a)
  | [], h => absurd rfl h
  | [a], _ => by simp [minL]
  | a :: b :: r, _ => by
    have ih := minL_gt v (b :: r) (by simp)
    rw [minL, List.forall_mem_cons, ← ih]
    exact Int.lt_min
theorem min_lt3 {a b c : Int} : min a b < c ↔ a < c ∨ b < c := by
  rw [Int.min_def]; split <;> omega
theorem lt_max3 {a b c : Int} : c < max a b ↔ c < a ∨ c < b := by
  rw [Int.max_def]; split <;> omega
theorem clampM {lo hi v m : Int} (hv : v ≤ hi) : max lo (min m hi) < v ↔ lo < v ∧ m < v := by
  rw [Int.max_lt, min_lt3]
  exact ⟨fun ⟨a, b⟩ => ⟨a, b.resolve_right (Int.not_lt.mpr hv)⟩, fun ⟨a, b⟩ => ⟨a, .inl b⟩⟩
theorem clampL {lo hi v m : Int} (hv : lo ≤ v) : v < min hi (max m lo) ↔ v < hi ∧ v < m := by
  rw [Int.lt_min, lt_max3]
  exact ⟨fun ⟨a, b⟩ => ⟨a, b.resolve_right (Int.not_lt.mpr hv)⟩, fun ⟨a, b⟩ => ⟨a, .inl b⟩⟩
theorem clampR {lo hi v m : Int} (hv : lo ≤ v) : v < max lo (min m hi) ↔ v < hi ∧ v < m := by
  rw [lt_max3, Int.lt_min]
  exact ⟨fun q => let ⟨a, b⟩ := q.resolve_left (Int.not_lt.mpr hv); ⟨b, a⟩, fun ⟨a, b⟩ => .inr ⟨b, a⟩⟩
theorem mm {a b c : Int} (h : a ≤ c) : max a (min b c) = min c (max b a) := by
  rcases Int.le_total b a with q | q
  · rw [Int.max_eq_left (Int.le_trans (Int.min_le_left _ _) q), Int.max_eq_right q, Int.min_eq_right h]
  · rw [Int.max_eq_left q]
    rcases Int.le_total b c with p | p
    · rw [Int.min_eq_left p, Int.max_eq_right q, Int.min_eq_right p]
    · rw [Int.min_eq_right p, Int.max_eq_right h, Int.min_eq_left p]
theorem med_vv {lo v hi : Int} (h : lo ≤ hi) : max (min lo v) (min (max lo v) hi) = max lo (min v hi) := by
  rcases Int.le_total v lo with q | q
  · rw [Int.min_eq_right q, Int.max_eq_left q, Int.min_eq_left h, Int.max_eq_right q, Int.min_eq_left (Int.le_trans q h), Int.max_eq_left q]
  · rw [Int.min_eq_left q, Int.max_eq_right q]
section
variable {inn : Str → List Str} {ev wv : Str → Int} {A : Str → Str → Str → Prop} {odd : Str → Bool} {S : List Str}
def hM (wv : Str → Int) (hi : Int) (ks : List Str) (lo : Int) : Int := ks.foldl (fun h k => max h (min (wv k) hi)) lo
def hL (wv : Str → Int) (lo : Int) (ks : List Str) (hi : Int) : Int := ks.foldl (fun h k => min h (max (wv k) lo)) hi
theorem hM_lt {hi v : Int} (hv : v ≤ hi) : ∀ (ks : List Str) (lo : Int), (hM wv hi ks lo < v ↔ lo < v ∧ ∀ k ∈ ks, wv k < v)
  | [], lo => by simp [hM]
  | k :: ks, lo => by
    have ih := hM_lt hv ks (max lo (min (wv k) hi))
    show hM wv hi ks (max lo (min (wv k) hi)) < v ↔ _
    rw [ih, List.forall_mem_cons, clampM hv]
    exact and_assoc
theorem hM_le {hi : Int} : ∀ (ks : List Str) (lo : Int), lo ≤ hi → hM wv hi ks lo ≤ hi
  | [], lo, h => h
  | k :: ks, lo, h => hM_le ks _ (Int.max_le.mpr ⟨h, Int.min_le_right _ _⟩)
theorem hL_gt {lo v : Int} (hv : lo ≤ v) : ∀ (ks : List Str) (hi : Int), (v < hL wv lo ks hi ↔ v < hi ∧ ∀ k ∈ ks, v < wv k)
  | [], hi => by simp [hL]
  | k :: ks, hi => by
    have ih := hL_gt hv ks (min hi (max (wv k) lo))
    show v < hL wv lo ks (min hi (max (wv k) lo)) ↔ _
    rw [ih, List.forall_mem_cons, clampL hv]
    exact and_assoc
theorem hL_ge {lo : Int} : ∀ (ks : List Str) (hi : Int), lo ≤ hi → lo ≤ hL wv lo ks hi
  | [], hi, h => h
  | k :: ks, hi, h => hL_ge ks _ (Int.le_min.mpr ⟨h, Int.le_max_right _ _⟩)
theorem hM_all {hi lo : Int} {ks : List Str} (hne : ks ≠ []) (h : lo < hi) : hM wv hi ks lo = max lo (min (maxL (ks.map wv)) hi) := by
  have hn : ks.map wv ≠ [] := fun q => hne (List.map_eq_nil_iff.mp q)
  have h1 := hM_le (wv := wv) ks lo (Int.le_of_lt h)
  have key : ∀ v, v ≤ hi → (hM wv hi ks lo < v ↔ max lo (min (maxL (ks.map wv)) hi) < v) := fun v hv => by
    rw [hM_lt hv]
    have := maxL_lt v (ks.map wv) hn
    simp only [List.forall_mem_map] at this
    rw [← this]
    exact (clampM hv).symm
  have hb := Int.max_le.mpr ⟨Int.le_of_lt h, Int.min_le_right (maxL (ks.map wv)) hi⟩
  exact Int.le_antisymm (Int.not_lt.mp fun q => Int.lt_irrefl _ ((key _ h1).mpr q)) (Int.not_lt.mp fun q => Int.lt_irrefl _ ((key _ hb).mp q))
theorem hL_all {hi lo : Int} {ks : List Str} (hne : ks ≠ []) (h : lo < hi) : hL wv lo ks hi = max lo (min (minL (ks.map wv)) hi) := by
  have hn : ks.map wv ≠ [] := fun q => hne (List.map_eq_nil_iff.mp q)
  have h1 := hL_ge (wv := wv) ks hi (Int.le_of_lt h)
  have key : ∀ v, lo ≤ v → (v < hL wv lo ks hi ↔ v < max lo (min (minL (ks.map wv)) hi)) := fun v hv => by
    rw [hL_gt hv]
    have := minL_gt v (ks.map wv) hn
    simp only [List.forall_mem_map] at this
    rw [← this]
    exact (clampR hv).symm
  exact Int.le_antisymm (Int.not_lt.mp fun q => Int.lt_irrefl _ ((key _ (Int.le_max_left _ _)).mp q)) (Int.not_lt.mp fun q => Int.lt_irrefl _ ((key _ h1).mpr q))
def Opn (wv : Str → Int) (A : Str → Str → Str → Prop) (odd : Str → Bool) (x : Str) (lo hi : Int) (e : Str) : Prop :=
  lo < hi ∧ (∀ p, A x e p → odd p = true → wv p < hi) ∧ (∀ q, A x e q → odd q = false → lo < wv q) ∧ ∀ p q, A x e p → odd p = true → A x e q → odd q = false → wv p < wv q
theorem med3_clamp {lo hi v : Int} (h : lo < hi) : med3 hi v lo = max lo (min v hi) := by
  unfold med3
  rw [Int.min_eq_right (Int.le_trans (Int.le_of_lt h) (Int.le_max_left hi v)), Int.max_comm, Int.min_comm]
open Classical in
theorem ab (hup : ∀ x ∈ S, ∀ k ∈ inn x, k ∈ S) (hw : ∀ x ∈ S, wv x = if inn x = [] then ev x else if odd x = true then minL ((inn x).map wv) else maxL ((inn x).map wv))
    (hodd : ∀ x ∈ S, ∀ k ∈ inn x, odd k = !odd x) (hA0 : ∀ x ∈ S, inn x = [] → ∀ p, ¬ A x x p)
    (hA : ∀ n x pre k suf e, x ∈ S → inn x = pre ++ k :: suf → e ∈ lvs inn n k → ∀ p, A x e p ↔ p ∈ pre ∨ A k e p) :
    ∀ (n : Nat) (x : Str) (lo hi : Int), x ∈ S → Ht inn n x → lo < hi → srch inn ev n (!odd x) x lo hi = (max lo (min (wv x) hi), (lvs inn n x).filter fun e => decide (Opn wv A odd x lo hi e))
  | 0, _, _, _, _, h, _ => h.elim
  | n + 1, x, lo, hi, hx, hh, hlt => by
    have IH := ab hup hw hodd hA0 hA n
    rw [srch, lvs]
    by_cases hn : inn x = []
    · rw [if_pos hn, if_pos hn, hw x hx, if_pos hn, med3_clamp hlt]
      have : Opn wv A odd x lo hi x := ⟨hlt, fun p h => absurd h (hA0 x hx hn p), fun p h => absurd h (hA0 x hx hn p), fun p q h => absurd h (hA0 x hx hn p)⟩
      simp [this]
    · rw [if_neg hn, if_neg hn, hw x hx, if_neg hn]
      cases ho : odd x with
      | false =>
        rw [if_pos (by rfl), if_neg (by decide), ← hM_all hn hlt]
        have hk1 : ∀ k ∈ inn x, odd k = true := fun k hk => by rw [hodd x hx k hk, ho]; rfl
        have key : ∀ (suf pre : List Str), inn x = pre ++ suf → suf.foldl (stepMost (srch inn ev n false) hi) (hM wv hi pre lo, (pre.flatMap (lvs inn n)).filter fun e => decide (Opn wv A odd x lo hi e)) =
            (hM wv hi (inn x) lo, ((inn x).flatMap (lvs inn n)).filter fun e => decide (Opn wv A odd x lo hi e)) := by
          intro suf
          induction suf with
          | nil => intro pre he; rw [List.append_nil] at he; rw [he]; rfl
          | cons k suf ih =>
            intro pre he
            have hkm : k ∈ inn x := by rw [he]; simp
            have ih' := ih (pre ++ [k]) (by rw [he]; simp)
            have hpo : ∀ p ∈ pre, odd p = true := fun p hp => hk1 p (by rw [he]; simp [hp])
            rw [List.foldl_cons]
            have e1 : hM wv hi (pre ++ [k]) lo = max (hM wv hi pre lo) (min (wv k) hi) := by simp [hM]
            rw [e1, List.flatMap_append, List.flatMap_cons, List.flatMap_nil, List.append_nil, List.filter_append] at ih'
            have hbl := hM_le (wv := wv) pre lo (Int.le_of_lt hlt)
            have step : stepMost (srch inn ev n false) hi (hM wv hi pre lo, (pre.flatMap (lvs inn n)).filter fun e => decide (Opn wv A odd x lo hi e)) k =
                (max (hM wv hi pre lo) (min (wv k) hi), (pre.flatMap (lvs inn n)).filter (fun e => decide (Opn wv A odd x lo hi e)) ++ (lvs inn n k).filter fun e => decide (Opn wv A odd x lo hi e)) := by
              unfold stepMost
              by_cases c : hM wv hi pre lo ≥ hi
              · rw [if_pos c]
                have hno : (lvs inn n k).filter (fun e => decide (Opn wv A odd x lo hi e)) = [] := by
                  rw [List.filter_eq_nil_iff]
                  intro e he' hop
                  have hop := of_decide_eq_true hop
                  have := (hM_lt (wv := wv) (Int.le_refl hi) pre lo).mpr ⟨hlt, fun p hp => hop.2.1 p ((hA n x pre k suf e hx he he' p).mpr (.inl hp)) (hpo p hp)⟩
                  exact Int.not_lt.mpr c this
                rw [hno, List.append_nil]
                congr 1
                exact (Int.max_eq_left (Int.le_trans (Int.min_le_right _ _) c)).symm
              · rw [if_neg c]
                have hlt' : hM wv hi pre lo < hi := by omega
                have hko : odd k = true := hk1 k hkm
                have IHk := IH k (hM wv hi pre lo) hi (hup x hx k hkm) (hh k hkm) hlt'
                rw [hko] at IHk
                rw [show (!true) = false from rfl] at IHk
                simp only [IHk]
                have hfe : (lvs inn n k).filter (fun e => decide (Opn wv A odd k (hM wv hi pre lo) hi e)) = (lvs inn n k).filter fun e => decide (Opn wv A odd x lo hi e) := by
                  refine List.filter_congr fun e he' => ?_
                  rw [decide_eq_decide]
                  have hAx := hA n x pre k suf e hx he he'
                  have hpre := (hM_lt (wv := wv) (Int.le_refl hi) pre lo).mp hlt'
                  constructor
                  · rintro ⟨_, a, b, d⟩
                    refine ⟨hlt, fun p hp ho => ?_, fun q hq hqo => ?_, fun p q hp ho hq hqo => ?_⟩
                    · rcases (hAx p).mp hp with h | h
                      · exact hpre.2 p h
                      · exact a p h ho
                    · rcases (hAx q).mp hq with h | h
                      · rw [hpo q h] at hqo; cases hqo
                      · have h1 := b q h hqo
                        by_cases hq2 : wv q ≤ hi
                        · exact ((hM_lt hq2 pre lo).mp h1).1
                        · exact Int.lt_trans hlt (Int.not_le.mp hq2)
                    · have hq' : A k e q := by
                        rcases (hAx q).mp hq with h | h
                        · rw [hpo q h] at hqo; cases hqo
                        · exact h
                      rcases (hAx p).mp hp with h | h
                      · have h1 := b q hq' hqo
                        by_cases hq2 : wv q ≤ hi
                        · exact ((hM_lt hq2 pre lo).mp h1).2 p h
                        · have := hpre.2 p h; omega
                      · exact d p q h ho hq' hqo
                  · rintro ⟨_, a, b, d⟩
                    refine ⟨hlt', fun p hp ho => a p ((hAx p).mpr (.inr hp)) ho, fun q hq hqo => ?_, fun p q hp ho hq hqo => d p q ((hAx p).mpr (.inr hp)) ho ((hAx q).mpr (.inr hq)) hqo⟩
                    by_cases hq2 : wv q ≤ hi
                    · exact (hM_lt hq2 pre lo).mpr ⟨b q ((hAx q).mpr (.inr hq)) hqo, fun p hp => d p q ((hAx p).mpr (.inl hp)) (hpo p hp) ((hAx q).mpr (.inr hq)) hqo⟩
                    · omega
                rw [hfe]
            rw [step]
            exact ih'
        have := key (inn x) [] rfl
        simpa [hM] using this
      | true =>
        rw [if_neg (by decide), if_pos rfl, ← hL_all hn hlt]
        have hk1 : ∀ k ∈ inn x, odd k = false := fun k hk => by rw [hodd x hx k hk, ho]; rfl
        have key : ∀ (suf pre : List Str), inn x = pre ++ suf → suf.foldl (stepLeast (srch inn ev n true) lo) (hL wv lo pre hi, (pre.flatMap (lvs inn n)).filter fun e => decide (Opn wv A odd x lo hi e)) =
            (hL wv lo (inn x) hi, ((inn x).flatMap (lvs inn n)).filter fun e => decide (Opn wv A odd x lo hi e)) := by
          intro suf
          induction suf with
          | nil => intro pre he; rw [List.append_nil] at he; rw [he]; rfl
          | cons k suf ih =>
            intro pre he
            have hkm : k ∈ inn x := by rw [he]; simp
            have ih' := ih (pre ++ [k]) (by rw [he]; simp)
            have hpo : ∀ p ∈ pre, odd p = false := fun p hp => hk1 p (by rw [he]; simp [hp])
            rw [List.foldl_cons]
            have e1 : hL wv lo (pre ++ [k]) hi = min (hL wv lo pre hi) (max (wv k) lo) := by simp [hL]
            rw [e1, List.flatMap_append, List.flatMap_cons, List.flatMap_nil, List.append_nil, List.filter_append] at ih'
            have hbl := hL_ge (wv := wv) pre hi (Int.le_of_lt hlt)
            have step : stepLeast (srch inn ev n true) lo (hL wv lo pre hi, (pre.flatMap (lvs inn n)).filter fun e => decide (Opn wv A odd x lo hi e)) k =
                (min (hL wv lo pre hi) (max (wv k) lo), (pre.flatMap (lvs inn n)).filter (fun e => decide (Opn wv A odd x lo hi e)) ++ (lvs inn n k).filter fun e => decide (Opn wv A odd x lo hi e)) := by
              unfold stepLeast
              by_cases c : hL wv lo pre hi ≤ lo
              · rw [if_pos c]
                have hno : (lvs inn n k).filter (fun e => decide (Opn wv A odd x lo hi e)) = [] := by
                  rw [List.filter_eq_nil_iff]
                  intro e he' hop
                  have hop := of_decide_eq_true hop
                  have := (hL_gt (wv := wv) (Int.le_refl lo) pre hi).mpr ⟨hlt, fun p hp => hop.2.2.1 p ((hA n x pre k suf e hx he he' p).mpr (.inl hp)) (hpo p hp)⟩
                  exact Int.not_lt.mpr c this
                rw [hno, List.append_nil]
                congr 1
                exact (Int.min_eq_left (Int.le_trans c (Int.le_max_right _ _))).symm
              · rw [if_neg c]
                have hlt' : lo < hL wv lo pre hi := by omega
                have hko : odd k = false := hk1 k hkm
                have IHk := IH k lo (hL wv lo pre hi) (hup x hx k hkm) (hh k hkm) hlt'
                rw [hko] at IHk
                rw [show (!false) = true from rfl] at IHk
                simp only [IHk]
                have hfe : (lvs inn n k).filter (fun e => decide (Opn wv A odd k lo (hL wv lo pre hi) e)) = (lvs inn n k).filter fun e => decide (Opn wv A odd x lo hi e) := by
                  refine List.filter_congr fun e he' => ?_
                  rw [decide_eq_decide]
                  have hAx := hA n x pre k suf e hx he he'
                  have hpre := (hL_gt (wv := wv) (Int.le_refl lo) pre hi).mp hlt'
                  constructor
                  · rintro ⟨_, a, b, d⟩
                    refine ⟨hlt, fun p hp ho => ?_, fun q hq hqo => ?_, fun p q hp ho hq hqo => ?_⟩
                    · rcases (hAx p).mp hp with h | h
                      · rw [hpo p h] at ho; cases ho
                      · have h1 := a p h ho
                        by_cases hp2 : lo ≤ wv p
                        · exact ((hL_gt hp2 pre hi).mp h1).1
                        · omega
                    · rcases (hAx q).mp hq with h | h
                      · exact hpre.2 q h
                      · exact b q h hqo
                    · have hp' : A k e p := by
                        rcases (hAx p).mp hp with h | h
                        · rw [hpo p h] at ho; cases ho
                        · exact h
                      rcases (hAx q).mp hq with h | h
                      · have h1 := a p hp' ho
                        by_cases hp2 : lo ≤ wv p
                        · exact ((hL_gt hp2 pre hi).mp h1).2 q h
                        · have := hpre.2 q h; omega
                      · exact d p q hp' ho h hqo
                  · rintro ⟨_, a, b, d⟩
                    refine ⟨hlt', fun p hp ho => ?_, fun q hq hqo => b q ((hAx q).mpr (.inr hq)) hqo, fun p q hp ho hq hqo => d p q ((hAx p).mpr (.inr hp)) ho ((hAx q).mpr (.inr hq)) hqo⟩
                    by_cases hp2 : lo ≤ wv p
                    · exact (hL_gt hp2 pre hi).mpr ⟨a p ((hAx p).mpr (.inr hp)) ho, fun q hq => d p q ((hAx p).mpr (.inr hp)) ho ((hAx q).mpr (.inl hq)) (hpo q hq)⟩
                    · omega
                rw [hfe]
                congr 1
                exact mm (Int.le_of_lt hlt')
            rw [step]
            exact ih'
        have := key (inn x) [] rfl
        simpa [hL] using this
end
-- A2
theorem slash_is : slash = ⟨#[47]⟩ := by decide +kernel
abbrev tl (x : Str) : List Nat := x.cps.toList
theorem tl_app (x y : Str) : tl (x ++ y) = tl x ++ tl y := by
  show (x.cps ++ y.cps).toList = _
  simp
theorem tl_slash : tl slash = [47] := by rw [slash_is]
theorem tl_len (x : Str) : (tl x).length = x.length := Array.length_toList
theorem tl_cut (x n : Str) : tl (x ++ (slash ++ n)) = tl x ++ 47 :: tl n := by rw [tl_app, tl_app, tl_slash]; rfl
theorem at_slash (y : Str) (i : Nat) : StrLaws.At y slash y.length i ↔ (tl y)[i]? = some 47 := by
  rw [slash_is]; exact StrLaws.subAt_one y 47 i
theorem rfind_cut {x n : Str} (hn : 47 ∉ tl n) : Txt.rfind (x ++ (slash ++ n)) slash = (x.length : Int) := by
  have hy := tl_cut x n
  have h0 : StrLaws.At (x ++ (slash ++ n)) slash (x ++ (slash ++ n)).length x.length := by
    rw [at_slash, hy, ← tl_len x]; simp
  have h1 : ∀ k, x.length < k → ¬ StrLaws.At (x ++ (slash ++ n)) slash (x ++ (slash ++ n)).length k := fun k hk h => by
    rw [at_slash, hy, List.getElem?_append_right (by rw [tl_len]; omega), tl_len] at h
    obtain ⟨j, hj⟩ : ∃ j, k - x.length = j + 1 := ⟨k - x.length - 1, by omega⟩
    rw [hj, List.getElem?_cons_succ] at h
    exact hn (List.mem_of_getElem? h)
  unfold Txt.rfind
  rcases StrLaws.last_spec (x ++ (slash ++ n)) slash with ⟨_, h⟩ | ⟨i, e, h, h2⟩
  · exact (h _ h0).elim
  · rw [e]
    have hi : i = x.length := by
      rcases Nat.lt_trichotomy i x.length with h3 | h3 | h3
      · exact (h2 _ h3 h0).elim
      · exact h3
      · exact (h1 _ h3 h).elim
    rw [hi]
theorem str_of_tl {x y : Str} (h : tl x = tl y) : x = y := str_ext h
theorem head_cut {x n : Str} (hn : 47 ∉ tl n) : dirHead (x ++ (slash ++ n)) = x ++ slash := by
  unfold dirHead
  rw [rfind_cut hn]
  have hl : (tl (x ++ (slash ++ n))).length = x.length + 1 + n.length := by
    rw [tl_cut, List.length_append, List.length_cons, tl_len, tl_len]; omega
  have h := StrLaws.sliceText_to (x := x ++ (slash ++ n)) (j := (x.length : Int) + 1) ⟨by omega, by rw [hl]; omega⟩
  rw [show Txt.slice (x ++ (slash ++ n)) none (some ((x.length : Int) + 1)) = StrLaws.sliceText (x ++ (slash ++ n)) none (some ((x.length : Int) + 1)) from rfl, h]
  refine str_of_tl ?_
  rw [tl_app, tl_slash]
  show (((tl (x ++ (slash ++ n))).drop 0).take ((x.length : Int) + 1 - 0).toNat) = _
  rw [tl_cut, List.drop_zero, show ((x.length : Int) + 1 - 0).toNat = x.length + 1 by omega, ← tl_len x, List.take_append]
  rw [List.take_of_length_le (Nat.le_succ _)]
  simp
theorem mul_all (k : Nat) : ∀ (acc : Array Nat), (∀ c ∈ acc.toList, c = 47) → ∀ c ∈ ((List.replicate k slash.cps).foldl (· ++ ·) acc).toList, c = 47 := by
  induction k with
  | zero => exact fun acc h => h
  | succ k ih =>
    intro acc h
    rw [List.replicate_succ, List.foldl_cons]
    refine ih _ fun c hc => ?_
    rw [Array.toList_append, List.mem_append] at hc
    rcases hc with hc | hc
    · exact h c hc
    · have : tl slash = [47] := tl_slash
      have hc' : c ∈ tl slash := hc
      rw [this] at hc'
      simpa using hc'
theorem mul_slash (k : Int) : ∀ c ∈ tl (Txt.mul slash k), c = 47 := by
  unfold Txt.mul
  split
  · intro c hc; exact absurd hc (by show c ∉ ([] : List Nat); simp)
  · split
    · intro c hc; rw [tl_slash] at hc; simpa using hc
    · exact mul_all _ #[] (by simp)
theorem dirname_cut {x n : Str} (hx : Good x) (hn : 47 ∉ tl n) : dirnameF (x ++ (slash ++ n)) = x := by
  obtain ⟨l, c, hxl, hc⟩ := hx
  have hxl' : tl x = l ++ [c] := hxl
  unfold dirnameF
  rw [head_cut hn]
  have hne : (x ++ slash).length ≠ 0 := by rw [← tl_len, tl_app, tl_slash]; simp
  have hmul : (x ++ slash != Txt.mul slash (x ++ slash).length) = true := by
    rw [bne_iff_ne]
    intro q
    have := mul_slash (x ++ slash).length c (by rw [← q, tl_app, hxl']; simp)
    exact hc this
  rw [if_pos ⟨hne, hmul⟩]
  have hcon : slash.cps.contains = fun a => ([47] : List Nat).contains a := by
    funext a
    rw [slash_is]
    simp
  have htw : (((tl (x ++ slash)).drop 0).reverse.takeWhile slash.cps.contains).length = 1 := by
    rw [tl_app, tl_slash, hxl', List.drop_zero, hcon]
    simp only [List.append_assoc, List.cons_append, List.nil_append, List.reverse_append, List.reverse_cons, List.reverse_nil]
    rw [List.takeWhile_cons, if_pos (by decide), List.takeWhile_cons, if_neg (by simpa using hc)]
    rfl
  have hlo : stripLo slash.cps.contains false (x ++ slash) = 0 := rfl
  have hlen : (x ++ slash).length = x.length + 1 := by rw [← tl_len, tl_app, tl_slash, List.length_append, tl_len]; rfl
  have hhi : stripHi slash.cps.contains true (x ++ slash) 0 = x.length := by
    unfold stripHi
    simp only [if_true]
    have htw' : (List.takeWhile slash.cps.contains (List.drop 0 (x ++ slash).cps.toList).reverse).length = 1 := htw
    rw [htw', hlen]; omega
  unfold Txt.rstripChars Txt.stripBy stripSame PySem.stripped
  rw [hlo, hhi, hlen, if_neg (by simp)]
  refine str_of_tl ?_
  show tl (PySem.Builtin.Str.strSub (x ++ slash) 0 x.length) = tl x
  unfold tl
  rw [StrLaws.strSub_toList]
  show ((tl (x ++ slash)).drop 0).take (x.length - 0) = tl x
  rw [tl_app, List.drop_zero, Nat.sub_zero, ← tl_len x, List.take_left']
  rfl
theorem join_snoc (sep n : Str) : ∀ l : List Str, l ≠ [] → Str.join sep (l ++ [n]) = Str.join sep l ++ (sep ++ n)
  | [], h => absurd rfl h
  | [a], _ => by show a ++ sep ++ n = a ++ (sep ++ n); exact Str.append_assoc _ _ _
  | a :: b :: r, _ => by
    have ih := join_snoc sep n (b :: r) (by simp)
    show a ++ sep ++ Str.join sep ((b :: r) ++ [n]) = a ++ sep ++ Str.join sep (b :: r) ++ (sep ++ n)
    rw [ih, Str.append_assoc (a ++ sep)]
theorem free_head {p p' : List Nat} {r r' : List Nat} (hp : 47 ∉ p) (hp' : 47 ∉ p') (h : p ++ 47 :: r = p' ++ 47 :: r') : p = p' ∧ r = r' := by
  induction p generalizing p' with
  | nil =>
    cases p' with
    | nil => simpa using h
    | cons c q => simp at h; exact absurd h.1 (fun e => hp' (by simp [← e]))
  | cons a p ih =>
    cases p' with
    | nil => simp at h; exact absurd h.1 (fun e => hp (by simp [e]))
    | cons c q =>
      simp only [List.cons_append, List.cons.injEq] at h
      obtain ⟨rfl, h⟩ := h
      have := ih (fun hm => hp (by simp [hm])) (fun hm => hp' (by simp [hm])) h
      exact ⟨by rw [this.1], this.2⟩
theorem join_cons2 (p q : Str) (r : List Str) : tl (Str.join slash (p :: q :: r)) = tl p ++ 47 :: tl (Str.join slash (q :: r)) := by
  show tl (p ++ slash ++ Str.join slash (q :: r)) = _
  rw [tl_app, tl_app, tl_slash]; simp
theorem join_inj : ∀ l l' : List Str, l ≠ [] → l' ≠ [] → (∀ p ∈ l, 47 ∉ tl p) → (∀ p ∈ l', 47 ∉ tl p) → Str.join slash l = Str.join slash l' → l = l'
  | [], _, h, _, _, _, _ => absurd rfl h
  | _, [], _, h, _, _, _ => absurd rfl h
  | [a], [b], _, _, _, _, e => by rw [show a = b from e]
  | [a], b :: c :: r, _, _, h1, _, e => by
    have e' := congrArg tl e
    rw [join_cons2] at e'
    exact absurd (by rw [show tl (Str.join slash [a]) = tl a from rfl] at e'; rw [e']; simp) (h1 a (by simp))
  | b :: c :: r, [a], _, _, _, h1, e => by
    have e' := congrArg tl e
    rw [join_cons2] at e'
    exact absurd (by rw [show tl (Str.join slash [a]) = tl a from rfl] at e'; rw [← e']; simp) (h1 a (by simp))
  | a :: b :: r, c :: d :: q, _, _, h1, h2, e => by
    have e' := congrArg tl e
    rw [join_cons2, join_cons2] at e'
    obtain ⟨e1, e2⟩ := free_head (h1 a (by simp)) (h2 c (by simp)) e'
    have := join_inj (b :: r) (d :: q) (by simp) (by simp) (fun p hp => h1 p (by simp [hp])) (fun p hp => h2 p (by simp [hp])) (str_of_tl e2)
    rw [str_of_tl e1, this]
theorem split_ne (x : Str) : Txt.split x slash ≠ [] := fun h => by
  unfold Txt.split at h
  split at h
  · cases h
  · split at h
    · cases h
    · rw [StrLaws.partsBetween_eq] at h
      obtain ⟨p, r, e⟩ := StrLaws.partsFrom_ne x slash.length 0 (PySem.Builtin.Str.occurrences x slash 0 x.length (x.length + 1))
      rw [e] at h; cases h
theorem split_free' (x : Str) : ∀ p ∈ Txt.split x slash, 47 ∉ tl p := by
  rw [slash_is]; exact StrLaws.split_free x 47
theorem split_cut {x n : Str} (hn : 47 ∉ tl n) : Txt.split (x ++ (slash ++ n)) slash = Txt.split x slash ++ [n] := by
  refine join_inj _ _ (split_ne _) (by simp) (split_free' _) (fun p hp => ?_) ?_
  · rcases List.mem_append.mp hp with hp | hp
    · exact split_free' x p hp
    · rw [List.mem_singleton.mp hp]; exact hn
  · rw [StrLaws.join_split, join_snoc _ _ _ (split_ne x), StrLaws.join_split]
theorem parts_cut {x n : Str} (hn : 47 ∉ tl n) (hk : keepS n = true) : parts (x ++ (slash ++ n)) = parts x ++ [n] := by
  show (Txt.split (x ++ (slash ++ n)) slash).filter keepS = (Txt.split x slash).filter keepS ++ [n]
  rw [split_cut hn, List.filter_append]
  simp [hk]
theorem count_cut {x n : Str} (hn : 47 ∉ tl n) : Txt.count (x ++ (slash ++ n)) slash = Txt.count x slash + 1 := by
  have h : ∀ y : Str, Txt.count y slash = ((tl y).count 47 : Nat) := fun y => by
    rw [slash_is, count_is]
    have : ∀ l : List Nat, Spec.countIn (.str ⟨#[47]⟩) (l.map fun n => PyData.str ⟨#[n]⟩) = (l.count 47 : Nat) := by
      intro l
      rw [show (l.map fun n => PyData.str ⟨#[n]⟩) = (l.map fun n => (⟨#[n]⟩ : Str)).map PyData.str by rw [List.map_map]; rfl, cnt_strs]
      congr 1
      induction l with
      | nil => rfl
      | cons a r ih =>
        rw [List.map_cons, List.count_cons, List.count_cons, ih]
        congr 1
        by_cases ha : a = 47
        · subst ha; rfl
        · have h1 : (a == 47) = false := by simpa using ha
          have h2 : ((⟨#[a]⟩ : Str) == ⟨#[47]⟩) = false := by simpa using ha
          rw [h1, h2]
    exact this _
  rw [h, h, tl_cut, List.count_append, List.count_cons_self, List.count_eq_zero.mpr hn]
  omega
-- A3
def enc (top : Str) (c : List Str) : Str := c.foldl (fun x n => x ++ (slash ++ n)) top
theorem enc_snoc (top : Str) (c : List Str) (n : Str) : enc top (c ++ [n]) = enc top c ++ (slash ++ n) := by simp [enc]
def Nm (n : Str) : Prop := ∃ a b, tl n = [a, b] ∧ 97 ≤ a ∧ 97 ≤ b
theorem Nm.free {n : Str} (h : Nm n) : 47 ∉ tl n := by
  obtain ⟨a, b, e, h1, h2⟩ := h
  rw [e]; simp; omega
theorem Nm.keep {n : Str} (h : Nm n) : keepS n = true := by
  obtain ⟨a, b, e, h1, h2⟩ := h
  have hl : n.length = 2 := by rw [← tl_len, e]; rfl
  unfold keepS
  rw [Bool.and_eq_true, decide_eq_true_eq, bne_iff_ne]
  refine ⟨by omega, fun q => ?_⟩
  have := congrArg Str.length q
  rw [hl] at this
  exact absurd this (by decide)
def flat (c : List Str) : List Nat := c.flatMap fun n => 47 :: tl n
theorem flat_app (c d : List Str) : flat (c ++ d) = flat c ++ flat d := by simp [flat]
theorem flat_cons (n : Str) (d : List Str) : flat (n :: d) = 47 :: (tl n ++ flat d) := by simp [flat]
theorem snoc_ind {α : Type} {P : List α → Prop} (h0 : P []) (h1 : ∀ l a, P l → P (l ++ [a])) (l : List α) : P l := by
  rw [← List.reverse_reverse l]
  generalize l.reverse = r
  induction r with
  | nil => exact h0
  | cons a r ih => rw [List.reverse_cons]; exact h1 _ _ ih
theorem tl_enc (top : Str) (c : List Str) : tl (enc top c) = tl top ++ flat c := by
  induction c using snoc_ind with
  | h0 => simp [enc, flat]
  | h1 c n ih => rw [enc_snoc, tl_cut, ih, flat_app]; simp [flat]
structure TopOk (top : Str) (b : Bool) : Prop where
  parts : parts top = [Str.ofString "top"]
  good : Good top
  start : Txt.startswith top slash = b
  pre : (if b then Str.ofString "/" else Str.ofString "") ++ Str.ofString "top" = top
theorem topOk {z : Str} (h : z = Str.ofString "top" ∨ z = Str.ofString "/top") : ∃ b, TopOk z b := by
  rcases h with rfl | rfl
  · exact ⟨false, by decide +kernel, ⟨[116, 111], 112, by decide +kernel, by decide⟩, by decide +kernel, by decide +kernel⟩
  · exact ⟨true, by decide +kernel, ⟨[47, 116, 111], 112, by decide +kernel, by decide⟩, by decide +kernel, by decide +kernel⟩
section
variable {top : Str} {b : Bool}
theorem parts_enc (T : TopOk top b) (c : List Str) (h : ∀ n ∈ c, Nm n) : parts (enc top c) = Str.ofString "top" :: c := by
  induction c using snoc_ind with
  | h0 => exact T.parts
  | h1 c n ih =>
    have hn := h n (by simp)
    rw [enc_snoc, parts_cut hn.free hn.keep, ih fun m hm => h m (by simp [hm])]
    rfl
theorem enc_inj (T : TopOk top b) {c d : List Str} (hc : ∀ n ∈ c, Nm n) (hd : ∀ n ∈ d, Nm n) (e : enc top c = enc top d) : c = d := by
  have := congrArg parts e
  rw [parts_enc T c hc, parts_enc T d hd] at this
  exact (List.cons.inj this).2
theorem pre_join (T : TopOk top b) (e : List Str) : (if b then Str.ofString "/" else Str.ofString "") ++ Txt.join (Str.ofString "/") (Str.ofString "top" :: e) = enc top e := by
  show _ ++ PySem.Builtin.Str.glued (Str.ofString "/") (Str.ofString "top" :: e) = _
  rw [StrLaws.glued_eq_join]
  induction e using snoc_ind with
  | h0 => exact T.pre
  | h1 e n ih =>
    rw [← List.cons_append, join_snoc _ _ _ (by simp), enc_snoc, ← ih, Str.append_assoc]
theorem lcp_sub : ∀ (c d : List Str), ∀ n ∈ lcp c d, n ∈ c
  | a :: l, b :: r, n, h => by
    unfold lcp at h
    split at h
    · rcases List.mem_cons.mp h with rfl | h
      · exact List.mem_cons_self
      · exact List.mem_cons_of_mem _ (lcp_sub l r n h)
    · cases h
  | [], _, _, h => by unfold lcp at h; cases h
  | _ :: _, [], _, h => by unfold lcp at h; cases h
theorem common_enc (T : TopOk top b) {c d : List Str} (hc : ∀ n ∈ c, Nm n) (hd : ∀ n ∈ d, Nm n) : commonF b (enc top c) (enc top d) = enc top (lcp c d) := by
  unfold commonF
  rw [parts_enc T c hc, parts_enc T d hd]
  have : lcp (Str.ofString "top" :: c) (Str.ofString "top" :: d) = Str.ofString "top" :: lcp c d := by
    rw [lcp, if_pos rfl]
  rw [this, pre_join T]
theorem good_enc (T : TopOk top b) {c : List Str} (hc : ∀ n ∈ c, Nm n) : Good (enc top c) := by
  induction c using snoc_ind with
  | h0 => exact T.good
  | h1 c n ih =>
    obtain ⟨a, d, e, h1, h2⟩ := hc n (by simp)
    refine ⟨tl (enc top c) ++ [47, a], d, ?_, by omega⟩
    rw [enc_snoc]
    show tl (enc top c ++ (slash ++ n)) = _
    rw [tl_cut, e]; simp
theorem dirname_enc (T : TopOk top b) {c : List Str} {n : Str} (hc : ∀ m ∈ c, Nm m) (hn : Nm n) : dirnameF (enc top (c ++ [n])) = enc top c := by
  rw [enc_snoc, dirname_cut (good_enc T hc) hn.free]
theorem count_enc (top : Str) {c : List Str} (hc : ∀ n ∈ c, Nm n) : Txt.count (enc top c) slash = Txt.count top slash + c.length := by
  induction c using snoc_ind with
  | h0 => simp [enc]
  | h1 c n ih =>
    rw [enc_snoc, count_cut (hc n (by simp)).free, ih fun m hm => hc m (by simp [hm]), List.length_append]
    simp; omega
theorem starts_iff (x : Str) : Txt.startswith x slash = true ↔ (tl x)[0]? = some 47 := by
  have h := StrLaws.subAt_one x 47 0
  rw [← slash_is] at h
  rw [← h]
  unfold Txt.startswith
  rw [Bool.and_eq_true, decide_eq_true_eq]
theorem start_enc (T : TopOk top b) (c : List Str) : Txt.startswith (enc top c) slash = b := by
  obtain ⟨l, d, e, _⟩ := T.good
  have e' : tl top = l ++ [d] := e
  have h : (tl (enc top c))[0]? = (tl top)[0]? := by
    rw [tl_enc, e']
    cases l <;> simp
  rw [Bool.eq_iff_iff, starts_iff, h, ← starts_iff, T.start]
theorem lt_pre (a u v : List Nat) : a ++ u < a ++ v ↔ u < v := by
  induction a with
  | nil => exact Iff.rfl
  | cons c a ih => rw [List.cons_append, List.cons_append, List.cons_lt_cons_iff]; simp [ih]
theorem enc_lt (c d : List Str) : tl (enc top c) < tl (enc top d) ↔ flat c < flat d := by rw [tl_enc, tl_enc, lt_pre]
theorem flat_lt {n m : Str} {r q : List Str} (hn : Nm n) (hm : Nm m) (hne : n ≠ m) : flat (n :: r) < flat (m :: q) ↔ tl n < tl m := by
  obtain ⟨a, b, e, _, _⟩ := hn
  obtain ⟨c, d, e', _, _⟩ := hm
  have hne' : ¬ (a = c ∧ b = d) := fun h => hne (str_of_tl (by rw [e, e', h.1, h.2]))
  rw [flat_cons, flat_cons, e, e']
  simp only [List.cons_append, List.nil_append, List.cons_lt_cons_iff, Nat.lt_irrefl, false_or, true_and, List.lt_irrefl, and_false, or_false]
  omega
end
-- A4
structure Tree (top : Str) (P : List Str) (C : List (List Str)) : Prop where
  eq : P = C.map (enc top)
  head : C[0]? = some []
  nd : C.Nodup
  up : ∀ (i : Nat) (c : List Str) (n : Str), C[i]? = some (c ++ [n]) → ∃ j, j < i ∧ C[j]? = some c
  nm : ∀ c ∈ C, ∀ n ∈ c, Nm n
  len : ∀ c ∈ C, c.length ≤ 13
def oddF (top x : Str) : Bool := (Txt.count x slash - Txt.count top slash).fmod 2 == 1
def Lft (C : List (List Str)) (top x e p : Str) : Prop :=
  ∃ cx d n m r, x = enc top cx ∧ p = enc top (cx ++ d ++ [n]) ∧ e = enc top (cx ++ d ++ m :: r) ∧ tl n < tl m ∧ cx ∈ C ∧ (cx ++ d ++ [n]) ∈ C ∧ (cx ++ d ++ m :: r) ∈ C
abbrev ltS (a b : Str) : Prop := tl a < tl b
theorem ltS_trans {a b c : Str} (h : ltS a b) (h' : ltS b c) : ltS a c := List.lt_trans h h'
theorem ltS_irrefl (a : Str) : ¬ ltS a a := List.lt_irrefl _
theorem rising_pw : ∀ (l : List Str) (p : Str), risingS p l = true → (∀ x ∈ l, ¬ ltS x p) ∧ l.Pairwise fun a b => ¬ ltS b a
  | [], _, _ => ⟨fun _ h => (nomatch h), .nil⟩
  | x :: r, p, h => by
    simp only [risingS, Bool.and_eq_true, Bool.not_eq_true', ltCps_eq] at h
    obtain ⟨h1, h2⟩ := h
    have h1' : ¬ ltS x p := of_decide_eq_false h1
    obtain ⟨a, b⟩ := rising_pw r x h2
    refine ⟨fun y hy => ?_, List.pairwise_cons.mpr ⟨a, b⟩⟩
    rcases List.mem_cons.mp hy with rfl | hy
    · exact h1'
    · intro q
      have h3 : tl p ≤ tl x := List.not_lt.mp h1'
      have h4 : tl x ≤ tl y := List.not_lt.mp (a y hy)
      exact List.not_lt.mpr (List.le_trans h3 h4) q
theorem sorted_pw : ∀ l : List Str, sortedS l = true → l.Pairwise fun a b => ¬ ltS b a
  | [], _ => .nil
  | x :: r, h => List.pairwise_cons.mpr (rising_pw r x h)
theorem strict_pw {l : List Str} (h : sortedS l = true) (hn : l.Nodup) : l.Pairwise ltS := by
  have h1 := (sorted_pw l h).and hn
  refine h1.imp fun {a b} h => ?_
  by_cases hlt : ltS a b
  · exact hlt
  · exact absurd (str_of_tl (ltL_tri hlt h.1)) h.2
theorem strict_uniq : ∀ (l l' : List Str), l.Pairwise ltS → l'.Pairwise ltS → (∀ x, x ∈ l ↔ x ∈ l') → l = l'
  | [], [], _, _, _ => rfl
  | [], b :: r, _, _, h => absurd ((h b).mpr List.mem_cons_self) (by simp)
  | a :: l, [], _, _, h => absurd ((h a).mp List.mem_cons_self) (by simp)
  | a :: l, b :: r, h1, h2, h => by
    obtain ⟨a1, a2⟩ := List.pairwise_cons.mp h1
    obtain ⟨b1, b2⟩ := List.pairwise_cons.mp h2
    have e : a = b := by
      rcases List.mem_cons.mp ((h a).mp List.mem_cons_self) with e | ha
      · exact e
      · rcases List.mem_cons.mp ((h b).mpr List.mem_cons_self) with e | hb
        · exact e.symm
        · exact absurd (ltS_trans (a1 b hb) (b1 a ha)) (ltS_irrefl a)
    subst e
    rw [strict_uniq l r a2 b2 fun x => ?_]
    constructor
    · intro hx
      rcases List.mem_cons.mp ((h x).mp (List.mem_cons_of_mem _ hx)) with rfl | hx'
      · exact absurd (a1 x hx) (ltS_irrefl x)
      · exact hx'
    · intro hx
      rcases List.mem_cons.mp ((h x).mpr (List.mem_cons_of_mem _ hx)) with rfl | hx'
      · exact absurd (b1 x hx) (ltS_irrefl x)
      · exact hx'
section
variable {top : Str} {b : Bool} {P : List Str} {C : List (List Str)} {inn : Str → List Str}
def Inner (P : List Str) (inn : Str → List Str) : Prop := ∀ x ∈ P, (inn x).Perm ((P.drop 1).filter fun y => dirnameF y == x) ∧ sortedS (inn x) = true
theorem Tree.nodup (t : Tree top P C) (T : TopOk top b) : P.Nodup := by
  rw [t.eq, List.nodup_iff_pairwise_ne, List.pairwise_map]
  have h := List.Pairwise.and_mem.mp t.nd
  exact h.imp fun {c d} h e => h.2.2 (enc_inj T (t.nm c h.1) (t.nm d h.2.1) e)
theorem Tree.mem (t : Tree top P C) {c : List Str} (h : c ∈ C) : enc top c ∈ P := by rw [t.eq]; exact List.mem_map_of_mem h
theorem Tree.of (t : Tree top P C) {x : Str} (h : x ∈ P) : ∃ c ∈ C, x = enc top c := by
  rw [t.eq] at h
  obtain ⟨c, hc, e⟩ := List.mem_map.mp h
  exact ⟨c, hc, e.symm⟩
theorem Tree.cons (t : Tree top P C) : ∃ C', C = [] :: C' ∧ [] ∉ C' := by
  have h := t.head
  cases hC : C with
  | nil => rw [hC] at h; cases h
  | cons c C' =>
    rw [hC] at h
    have : c = [] := Option.some.inj h
    subst this
    have nd := t.nd
    rw [hC] at nd
    exact ⟨C', rfl, (List.nodup_cons.mp nd).1⟩
theorem Tree.tail (t : Tree top P C) {x : Str} : x ∈ P.drop 1 ↔ ∃ c n, (c ++ [n]) ∈ C ∧ x = enc top (c ++ [n]) := by
  obtain ⟨C', hC, hn⟩ := t.cons
  have hP : P.drop 1 = C'.map (enc top) := by rw [t.eq, hC]; rfl
  rw [hP, List.mem_map]
  constructor
  · rintro ⟨c, hc, rfl⟩
    rcases List.eq_nil_or_concat c with rfl | ⟨d, n, rfl⟩
    · exact absurd hc hn
    · rw [List.concat_eq_append] at hc ⊢
      exact ⟨d, n, by rw [hC]; exact List.mem_cons_of_mem _ hc, rfl⟩
  · rintro ⟨c, n, hc, rfl⟩
    rw [hC] at hc
    rcases List.mem_cons.mp hc with e | hc
    · simp at e
    · exact ⟨_, hc, rfl⟩
theorem Tree.par (t : Tree top P C) {c : List Str} {n : Str} (h : (c ++ [n]) ∈ C) : c ∈ C := by
  obtain ⟨i, hi⟩ := List.mem_iff_getElem?.mp h
  obtain ⟨j, _, hj⟩ := t.up i c n hi
  exact List.mem_of_getElem? hj
theorem Tree.pre (t : Tree top P C) {c : List Str} : ∀ d : List Str, (c ++ d) ∈ C → c ∈ C := by
  intro d
  induction d using snoc_ind with
  | h0 => intro h; simpa using h
  | h1 d n ih => intro h; exact ih (t.par (by rw [List.append_assoc]; exact h))
theorem Tree.kids (t : Tree top P C) (T : TopOk top b) (I : Inner P inn) {c : List Str} (hc : c ∈ C) {k : Str} : k ∈ inn (enc top c) ↔ ∃ n, (c ++ [n]) ∈ C ∧ k = enc top (c ++ [n]) := by
  rw [(I _ (t.mem hc)).1.mem_iff, List.mem_filter, t.tail]
  constructor
  · rintro ⟨⟨d, n, hd, rfl⟩, h⟩
    have hnm := t.nm _ hd
    rw [dirname_enc T (fun m hm => hnm m (by simp [hm])) (hnm n (by simp)), beq_iff_eq] at h
    have := enc_inj T (fun m hm => hnm m (by simp [hm])) (t.nm c hc) h
    subst this
    exact ⟨n, hd, rfl⟩
  · rintro ⟨n, hn, rfl⟩
    have hnm := t.nm _ hn
    exact ⟨⟨c, n, hn, rfl⟩, by rw [dirname_enc T (fun m hm => hnm m (by simp [hm])) (hnm n (by simp)), beq_iff_eq]⟩
theorem Tree.strict (t : Tree top P C) (T : TopOk top b) (I : Inner P inn) {x : Str} (hx : x ∈ P) : (inn x).Pairwise ltS :=
  strict_pw (I x hx).2 ((I x hx).1.nodup_iff.mpr ((List.Nodup.sublist (List.drop_sublist 1 P) (t.nodup T)).filter _))
theorem Tree.ups (t : Tree top P C) (T : TopOk top b) (I : Inner P inn) : ∀ x ∈ P, ∀ k ∈ inn x, k ∈ P := fun x hx k hk => by
  obtain ⟨c, hc, rfl⟩ := t.of hx
  obtain ⟨n, hn, rfl⟩ := (t.kids T I hc).mp hk
  exact t.mem hn
theorem Tree.ht (t : Tree top P C) (T : TopOk top b) (I : Inner P inn) : ∀ (n : Nat) (c : List Str), c ∈ C → 14 ≤ n + c.length → Ht inn n (enc top c)
  | 0, c, hc, h => by have := t.len c hc; omega
  | n + 1, c, hc, h => fun k hk => by
    obtain ⟨m, hm, rfl⟩ := (t.kids T I hc).mp hk
    exact t.ht T I n _ hm (by rw [List.length_append]; simp; omega)
theorem odd_enc {c : List Str} (hc : ∀ n ∈ c, Nm n) : oddF top (enc top c) = decide (c.length % 2 = 1) := by
  unfold oddF
  rw [count_enc top hc]
  have e : Txt.count top slash + (c.length : Int) - Txt.count top slash = (c.length : Int) := by omega
  rw [e, Bool.eq_iff_iff, beq_iff_eq, decide_eq_true_eq, Int.fmod_eq_emod_of_nonneg _ (by decide)]
  omega
theorem Tree.odds (t : Tree top P C) (T : TopOk top b) (I : Inner P inn) : ∀ x ∈ P, ∀ k ∈ inn x, oddF top k = !oddF top x := fun x hx k hk => by
  obtain ⟨c, hc, rfl⟩ := t.of hx
  obtain ⟨n, hn, rfl⟩ := (t.kids T I hc).mp hk
  rw [odd_enc (t.nm _ hn), odd_enc (t.nm _ hc), List.length_append, Bool.eq_iff_iff]
  simp
  omega
theorem Tree.lvs_of (t : Tree top P C) (T : TopOk top b) (I : Inner P inn) : ∀ (n : Nat) (c : List Str) (e : Str), c ∈ C → e ∈ lvs inn n (enc top c) → ∃ r, e = enc top (c ++ r) ∧ (c ++ r) ∈ C ∧ inn e = []
  | 0, _, _, _, h => by cases h
  | n + 1, c, e, hc, h => by
    rw [lvs] at h
    by_cases hn : inn (enc top c) = []
    · rw [if_pos hn, List.mem_singleton] at h
      subst h
      exact ⟨[], by simp, by simpa using hc, hn⟩
    · rw [if_neg hn, List.mem_flatMap] at h
      obtain ⟨k, hk, he⟩ := h
      obtain ⟨m, hm, rfl⟩ := (t.kids T I hc).mp hk
      obtain ⟨r, e1, e2, e3⟩ := t.lvs_of T I n _ e hm he
      exact ⟨m :: r, by rw [e1]; simp, by simpa using e2, e3⟩
theorem Tree.lvs_in (t : Tree top P C) (T : TopOk top b) (I : Inner P inn) : ∀ (n : Nat) (c r : List Str), c ∈ C → Ht inn n (enc top c) → (c ++ r) ∈ C → inn (enc top (c ++ r)) = [] → enc top (c ++ r) ∈ lvs inn n (enc top c)
  | 0, _, _, _, h, _, _ => h.elim
  | n + 1, c, r, hc, hh, hr, hl => by
    rw [lvs]
    cases r with
    | nil =>
      rw [List.append_nil] at hl ⊢
      rw [if_pos hl]; exact List.mem_singleton.mpr rfl
    | cons m r =>
      have e : c ++ m :: r = (c ++ [m]) ++ r := by simp
      have hm : (c ++ [m]) ∈ C := t.pre r (e ▸ hr)
      have hk : enc top (c ++ [m]) ∈ inn (enc top c) := (t.kids T I hc).mpr ⟨m, hm, rfl⟩
      have hne : inn (enc top c) ≠ [] := fun q => by rw [q] at hk; cases hk
      rw [if_neg hne, List.mem_flatMap]
      refine ⟨_, hk, ?_⟩
      rw [e] at hr hl ⊢
      exact t.lvs_in T I n _ r hm (hh _ hk) hr hl
theorem kid_lt (t : Tree top P C) {c : List Str} {n m : Str} {r q : List Str} (h1 : (c ++ n :: r) ∈ C) (h2 : (c ++ m :: q) ∈ C) (hlt : ltS (enc top (c ++ [n])) (enc top (c ++ [m]))) : ltS (enc top (c ++ n :: r)) (enc top (c ++ m :: q)) := by
  have n1 := t.nm _ h1 n (by simp)
  have n2 := t.nm _ h2 m (by simp)
  have hne : n ≠ m := fun q => by subst q; exact ltS_irrefl _ hlt
  rw [ltS, enc_lt, flat_app, flat_app, lt_pre, flat_lt n1 n2 hne] at hlt ⊢
  exact hlt
theorem Tree.lvs_strict (t : Tree top P C) (T : TopOk top b) (I : Inner P inn) : ∀ (n : Nat) (c : List Str), c ∈ C → (lvs inn n (enc top c)).Pairwise ltS
  | 0, _, _ => .nil
  | n + 1, c, hc => by
    rw [lvs]
    by_cases hn : inn (enc top c) = []
    · rw [if_pos hn]; exact List.pairwise_singleton _ _
    · rw [if_neg hn, List.pairwise_flatMap]
      refine ⟨fun k hk => ?_, ?_⟩
      · obtain ⟨m, hm, rfl⟩ := (t.kids T I hc).mp hk
        exact t.lvs_strict T I n _ hm
      · have h1 := List.Pairwise.and_mem.mp (t.strict T I (t.mem hc))
        refine h1.imp fun {k k'} h x hx y hy => ?_
        obtain ⟨m, hm, rfl⟩ := (t.kids T I hc).mp h.1
        obtain ⟨m', hm', rfl⟩ := (t.kids T I hc).mp h.2.1
        obtain ⟨r, rfl, hr, _⟩ := t.lvs_of T I n _ x hm hx
        obtain ⟨r', rfl, hr', _⟩ := t.lvs_of T I n _ y hm' hy
        have e1 : c ++ [m] ++ r = c ++ m :: r := by simp
        have e2 : c ++ [m'] ++ r' = c ++ m' :: r' := by simp
        rw [e1] at hr
        rw [e2] at hr'
        rw [e1, e2]
        exact kid_lt t hr hr' h.2.2
theorem Tree.lvs_all (t : Tree top P C) (T : TopOk top b) (I : Inner P inn) {n : Nat} (hn : 14 ≤ n) {SP : List Str} (hp : SP.Perm P) (hs : sortedS SP = true) : lvs inn n top = SP.filter fun e => decide (inn e = []) := by
  obtain ⟨C', hC, _⟩ := t.cons
  have h0 : ([] : List Str) ∈ C := by rw [hC]; exact List.mem_cons_self
  have ht0 : enc top [] = top := rfl
  refine strict_uniq _ _ (ht0 ▸ t.lvs_strict T I n [] h0) ((strict_pw hs (hp.nodup_iff.mpr (t.nodup T))).filter _) fun x => ?_
  rw [List.mem_filter, decide_eq_true_eq, hp.mem_iff]
  constructor
  · intro hx
    obtain ⟨r, rfl, h1, h2⟩ := t.lvs_of T I n [] x h0 (ht0.symm ▸ hx)
    exact ⟨t.mem h1, h2⟩
  · rintro ⟨hx, hl⟩
    obtain ⟨c, hc, rfl⟩ := t.of hx
    have := t.lvs_in T I n [] c h0 (t.ht T I n [] h0 (by simpa using hn)) (by simpa using hc) (by simpa using hl)
    simpa [ht0] using this
end
-- A5
section
variable {top : Str} {b : Bool} {P : List Str} {C : List (List Str)} {inn : Str → List Str} {ev wv : Str → Int}
theorem Tree.lft0 (t : Tree top P C) (T : TopOk top b) (x : Str) (p : Str) : ¬ Lft C top x x p := by
  rintro ⟨cx, d, n, m, r, e1, _, e3, _, h1, _, h3⟩
  have := enc_inj T (t.nm _ h1) (t.nm _ h3) (e1.symm.trans e3)
  have := congrArg List.length this
  simp at this
theorem Tree.lft (t : Tree top P C) (T : TopOk top b) (I : Inner P inn) (n : Nat) (x : Str) (pre : List Str) (k : Str) (suf : List Str) (e : Str) (hx : x ∈ P) (hi : inn x = pre ++ k :: suf) (he : e ∈ lvs inn n k) (p : Str) : Lft C top x e p ↔ p ∈ pre ∨ Lft C top k e p := by
  have hs := t.strict T I hx
  obtain ⟨c, hc, rfl⟩ := t.of hx
  have hk : k ∈ inn (enc top c) := by rw [hi]; simp
  obtain ⟨m0, hm0, rfl⟩ := (t.kids T I hc).mp hk
  obtain ⟨r0, rfl, hr0, _⟩ := t.lvs_of T I n _ e hm0 he
  rw [hi, List.pairwise_append] at hs
  obtain ⟨_, hs2, hs3⟩ := hs
  have hks := (List.pairwise_cons.mp hs2).1
  have key : ∀ {n : Str}, (c ++ [n]) ∈ C → (ltS (enc top (c ++ [n])) (enc top (c ++ [m0])) ↔ n ≠ m0 ∧ tl n < tl m0) := fun {n} hn => by
    rw [ltS, enc_lt, flat_app, flat_app, lt_pre]
    by_cases q : n = m0
    · subst q
      exact ⟨fun h => absurd h (List.lt_irrefl _), fun h => absurd rfl h.1⟩
    · rw [flat_lt (t.nm _ hn n (by simp)) (t.nm _ hm0 m0 (by simp)) q]
      exact ⟨fun h => ⟨q, h⟩, fun h => h.2⟩
  constructor
  · rintro ⟨cx, d, n, m, r, e1, rfl, e3, hlt, h1, h2, h3⟩
    have := enc_inj T (t.nm _ hc) (t.nm _ h1) e1
    subst this
    have e4 := enc_inj T (t.nm _ hr0) (t.nm _ h3) e3
    have e5 : m0 :: r0 = d ++ m :: r := by simpa using e4
    cases d with
    | nil =>
      simp only [List.nil_append, List.cons.injEq] at e5
      obtain ⟨rfl, rfl⟩ := e5
      rw [List.append_nil] at h2 ⊢
      have hne : n ≠ m0 := fun q => by subst q; exact List.lt_irrefl _ hlt
      have hlt2 := (key h2).mpr ⟨hne, hlt⟩
      have hin : enc top (c ++ [n]) ∈ inn (enc top c) := (t.kids T I hc).mpr ⟨n, h2, rfl⟩
      rw [hi, List.mem_append, List.mem_cons] at hin
      rcases hin with h | h | h
      · exact .inl h
      · rw [h] at hlt2; exact absurd hlt2 (ltS_irrefl _)
      · exact absurd (ltS_trans hlt2 (hks _ h)) (ltS_irrefl _)
    | cons m1 d =>
      simp only [List.cons_append, List.cons.injEq] at e5
      obtain ⟨rfl, rfl⟩ := e5
      right
      refine ⟨c ++ [m0], d, n, m, r, rfl, by simp, by simp, hlt, hm0, by simpa using h2, by simpa using h3⟩
  · rintro (h | h)
    · have hlt := hs3 _ h _ List.mem_cons_self
      have hin : p ∈ inn (enc top c) := by rw [hi]; simp [h]
      obtain ⟨n, hn, rfl⟩ := (t.kids T I hc).mp hin
      have := (key hn).mp hlt
      exact ⟨c, [], n, m0, r0, rfl, by simp, by simp, this.2, hc, by simpa using hn, by simpa using hr0⟩
    · obtain ⟨cx, d, n, m, r, e1, rfl, e3, hlt, h1, h2, h3⟩ := h
      have := enc_inj T (t.nm _ hm0) (t.nm _ h1) e1
      subst this
      exact ⟨c, m0 :: d, n, m, r, rfl, by simp, by rw [e3]; simp, hlt, hc, by simpa using h2, by simpa using h3⟩
def wvN (top : Str) (inn : Str → List Str) (ev : Str → Int) : Nat → Str → Int
  | 0, _ => 0
  | n + 1, x => worthVal top x (ev x) ((inn x).map (wvN top inn ev n))
theorem wvN_up : ∀ (n : Nat) (x : Str), Ht inn n x → wvN top inn ev (n + 1) x = wvN top inn ev n x
  | 0, _, h => h.elim
  | n + 1, x, h => by
    show worthVal _ _ _ _ = worthVal _ _ _ _
    congr 1
    exact List.map_congr_left fun k hk => wvN_up n k (h k hk)
theorem ht_up : ∀ (n : Nat) (x : Str), Ht inn n x → Ht inn (n + 1) x
  | 0, _, h => h.elim
  | n + 1, _, h => fun k hk => ht_up n k (h k hk)
theorem Tree.worth (t : Tree top P C) (T : TopOk top b) (I : Inner P inn) (ev : Str → Int) : ∃ wv : Str → Int, ∀ x ∈ P, wv x = worthVal top x (ev x) ((inn x).map wv) := by
  refine ⟨wvN top inn ev (14 + 1), fun x hx => ?_⟩
  obtain ⟨c, hc, rfl⟩ := t.of hx
  have h14 : Ht inn (13 + 1) (enc top c) := t.ht T I 14 c hc (by omega)
  rw [wvN]
  congr 1
  exact List.map_congr_left fun k hk => (wvN_up 14 k (ht_up 13 k (h14 k hk))).symm
theorem worth_ab (h : wv x = worthVal top x (ev x) ((inn x).map wv)) : wv x = if inn x = [] then ev x else if oddF top x = true then minL ((inn x).map wv) else maxL ((inn x).map wv) := by
  rw [h]
  unfold worthVal
  by_cases q : inn x = []
  · rw [if_pos (by rw [q]; rfl), if_pos q]
  · rw [if_neg (fun z => q (List.map_eq_nil_iff.mp z)), if_neg q]
    rfl
def cnd (b : Bool) (e x : Str) : Prop := x.cps.toList < e.cps.toList ∧ (commonF b x e == dirnameF x) = true
theorem fold_open (e : Str) : ∀ (l : List Str) (lo hi : Int), (l.foldl (openStep b top e wv) (lo, hi)).1 < (l.foldl (openStep b top e wv) (lo, hi)).2 ↔
    (lo < hi ∧ (∀ p ∈ l, cnd b e p → oddF top p = true → wv p < hi) ∧ (∀ q ∈ l, cnd b e q → oddF top q = false → lo < wv q) ∧ ∀ p ∈ l, cnd b e p → oddF top p = true → ∀ q ∈ l, cnd b e q → oddF top q = false → wv p < wv q)
  | [], lo, hi => by simp
  | x :: l, lo, hi => by
    rw [List.foldl_cons]
    by_cases hc : cnd b e x
    · cases ho : oddF top x with
      | true =>
        have ho' : (Txt.count x (Str.ofString "/") - Txt.count top (Str.ofString "/")).fmod 2 = 1 := by simpa [oddF] using ho
        have es : openStep b top e wv (lo, hi) x = (if wv x > lo then wv x else lo, hi) := by
          have hc' : _ ∧ _ := hc
          unfold openStep; rw [if_pos hc', if_pos ho']
        rw [es, fold_open e l]
        constructor
        · rintro ⟨a, b', c, d⟩
          refine ⟨by split at a <;> omega, fun p hp h1 h2 => ?_, fun q hq h1 h2 => ?_, fun p hp h1 h2 q hq h3 h4 => ?_⟩
          · rcases List.mem_cons.mp hp with rfl | hp
            · split at a <;> omega
            · exact b' p hp h1 h2
          · rcases List.mem_cons.mp hq with rfl | hq
            · rw [ho] at h2; cases h2
            · have := c q hq h1 h2; split at this <;> omega
          · rcases List.mem_cons.mp hq with rfl | hq2
            · rw [ho] at h4; cases h4
            · rcases List.mem_cons.mp hp with rfl | hp2
              · have := c q hq2 h3 h4; split at this <;> omega
              · exact d p hp2 h1 h2 q hq2 h3 h4
        · rintro ⟨a, b', c, d⟩
          have hx := b' x List.mem_cons_self hc ho
          refine ⟨by split <;> omega, fun p hp h1 h2 => b' p (List.mem_cons_of_mem _ hp) h1 h2, fun q hq h1 h2 => ?_, fun p hp h1 h2 q hq h3 h4 => d p (List.mem_cons_of_mem _ hp) h1 h2 q (List.mem_cons_of_mem _ hq) h3 h4⟩
          have k1 := c q (List.mem_cons_of_mem _ hq) h1 h2
          have k2 := d x List.mem_cons_self hc ho q (List.mem_cons_of_mem _ hq) h1 h2
          split <;> omega
      | false =>
        have ho' : ¬ (Txt.count x (Str.ofString "/") - Txt.count top (Str.ofString "/")).fmod 2 = 1 := by simpa [oddF] using ho
        have es : openStep b top e wv (lo, hi) x = (lo, if wv x < hi then wv x else hi) := by
          have hc' : _ ∧ _ := hc
          unfold openStep; rw [if_pos hc', if_neg ho']
        rw [es, fold_open e l]
        constructor
        · rintro ⟨a, b', c, d⟩
          refine ⟨by split at a <;> omega, fun p hp h1 h2 => ?_, fun q hq h1 h2 => ?_, fun p hp h1 h2 q hq h3 h4 => ?_⟩
          · rcases List.mem_cons.mp hp with rfl | hp
            · rw [ho] at h2; cases h2
            · have := b' p hp h1 h2; split at this <;> omega
          · rcases List.mem_cons.mp hq with rfl | hq
            · split at a <;> omega
            · exact c q hq h1 h2
          · rcases List.mem_cons.mp hp with rfl | hp2
            · rw [ho] at h2; cases h2
            · rcases List.mem_cons.mp hq with rfl | hq2
              · have := b' p hp2 h1 h2; split at this <;> omega
              · exact d p hp2 h1 h2 q hq2 h3 h4
        · rintro ⟨a, b', c, d⟩
          have hx := c x List.mem_cons_self hc ho
          refine ⟨by split <;> omega, fun p hp h1 h2 => ?_, fun q hq h1 h2 => c q (List.mem_cons_of_mem _ hq) h1 h2, fun p hp h1 h2 q hq h3 h4 => d p (List.mem_cons_of_mem _ hp) h1 h2 q (List.mem_cons_of_mem _ hq) h3 h4⟩
          have k1 := b' p (List.mem_cons_of_mem _ hp) h1 h2
          have k2 := d p (List.mem_cons_of_mem _ hp) h1 h2 x List.mem_cons_self hc ho
          split <;> omega
    · have es : openStep b top e wv (lo, hi) x = (lo, hi) := by
        unfold openStep; exact if_neg hc
      rw [es, fold_open e l]
      constructor
      · rintro ⟨a, b', c, d⟩
        refine ⟨a, fun p hp h1 h2 => ?_, fun q hq h1 h2 => ?_, fun p hp h1 h2 q hq h3 h4 => ?_⟩
        · rcases List.mem_cons.mp hp with rfl | hp
          · exact absurd h1 hc
          · exact b' p hp h1 h2
        · rcases List.mem_cons.mp hq with rfl | hq
          · exact absurd h1 hc
          · exact c q hq h1 h2
        · rcases List.mem_cons.mp hp with rfl | hp2
          · exact absurd h1 hc
          · rcases List.mem_cons.mp hq with rfl | hq2
            · exact absurd h3 hc
            · exact d p hp2 h1 h2 q hq2 h3 h4
      · rintro ⟨a, b', c, d⟩
        exact ⟨a, fun p hp h1 h2 => b' p (List.mem_cons_of_mem _ hp) h1 h2, fun q hq h1 h2 => c q (List.mem_cons_of_mem _ hq) h1 h2, fun p hp h1 h2 q hq h3 h4 => d p (List.mem_cons_of_mem _ hp) h1 h2 q (List.mem_cons_of_mem _ hq) h3 h4⟩
theorem lcp_pre : ∀ (c x d : List Str), lcp (c ++ x) d = c → ∃ d', d = c ++ d' ∧ lcp x d' = []
  | [], x, d, h => ⟨d, rfl, h⟩
  | a :: c, x, [], h => by simp [lcp] at h
  | a :: c, x, m :: d, h => by
    rw [List.cons_append, lcp] at h
    by_cases q : a = m
    · subst q
      rw [if_pos rfl] at h
      obtain ⟨d', e, h'⟩ := lcp_pre c x d (List.cons.inj h).2
      exact ⟨d', by rw [e]; rfl, h'⟩
    · rw [if_neg q] at h; cases h
theorem lcp_app : ∀ (c x y : List Str), lcp (c ++ x) (c ++ y) = c ++ lcp x y
  | [], _, _ => rfl
  | a :: c, x, y => by rw [List.cons_append, List.cons_append, lcp, if_pos rfl, lcp_app c x y]; rfl
theorem Tree.cnd_iff (t : Tree top P C) (T : TopOk top b) {e x : Str} (he : e ∈ P) (hx : x ∈ P.drop 1) : cnd b e x ↔ Lft C top top e x := by
  obtain ⟨d, hd, rfl⟩ := t.of he
  obtain ⟨c, n, hc, rfl⟩ := t.tail.mp hx
  have hcn := t.nm _ hc
  have hdn := t.nm _ hd
  have hc' : ∀ m ∈ c, Nm m := fun m hm => hcn m (by simp [hm])
  obtain ⟨C', hC, _⟩ := t.cons
  have h0 : ([] : List Str) ∈ C := by rw [hC]; exact List.mem_cons_self
  unfold cnd
  rw [show ((enc top (c ++ [n])).cps.toList < (enc top d).cps.toList) = (tl (enc top (c ++ [n])) < tl (enc top d)) from rfl, enc_lt, common_enc T hcn hdn, dirname_enc T hc' (hcn n (by simp)), beq_iff_eq]
  constructor
  · rintro ⟨h1, h2⟩
    have h3 := enc_inj T (fun m hm => hcn m (lcp_sub _ _ m hm)) hc' h2
    obtain ⟨d', rfl, h4⟩ := lcp_pre c [n] d h3
    rw [flat_app, flat_app, lt_pre] at h1
    cases d' with
    | nil => exact absurd h1 (by simp [flat])
    | cons m r =>
      have hne : n ≠ m := fun q => by subst q; simp [lcp] at h4
      rw [flat_lt (hcn n (by simp)) (hdn m (by simp)) hne] at h1
      exact ⟨[], c, n, m, r, rfl, by simp, by simp, h1, h0, by simpa using hc, by simpa using hd⟩
  · rintro ⟨cx, d0, n0, m, r, e1, e2, e3, hlt, h1, h2, h3⟩
    have hcx : [] = cx := enc_inj T (by simp) (t.nm _ h1) e1
    subst hcx
    have e4 := enc_inj T hcn (t.nm _ h2) e2
    simp only [List.nil_append] at e4
    have e5 : d = [] ++ d0 ++ m :: r := enc_inj T hdn (t.nm _ h3) e3
    simp only [List.nil_append] at e5
    have e6 := List.append_inj_left' e4 rfl
    have e7 := List.append_inj_right' e4 rfl
    simp only [List.cons.injEq, and_true] at e7
    subst e6 e7 e5
    have hne : n ≠ m := fun q => by subst q; exact List.lt_irrefl _ hlt
    refine ⟨?_, ?_⟩
    · rw [flat_app, flat_app, lt_pre, flat_lt (hcn n (by simp)) (hdn m (by simp)) hne]; exact hlt
    · rw [lcp_app]
      simp [lcp, hne]
theorem Tree.open_iff (t : Tree top P C) (T : TopOk top b) {e : Str} (he : e ∈ P) (lo hi : Int) : ((P.drop 1).foldl (openStep b top e wv) (lo, hi)).1 < ((P.drop 1).foldl (openStep b top e wv) (lo, hi)).2 ↔ Opn wv (Lft C top) (oddF top) top lo hi e := by
  rw [fold_open]
  have hin : ∀ p, Lft C top top e p → p ∈ P.drop 1 := fun p h => by
    obtain ⟨cx, d, n, m, r, _, rfl, _, _, _, h2, _⟩ := h
    exact t.tail.mpr ⟨cx ++ d, n, h2, rfl⟩
  constructor
  · rintro ⟨a, b', c, d⟩
    exact ⟨a, fun p hp ho => b' p (hin p hp) ((t.cnd_iff T he (hin p hp)).mpr hp) ho, fun q hq ho => c q (hin q hq) ((t.cnd_iff T he (hin q hq)).mpr hq) ho,
      fun p q hp ho hq ho' => d p (hin p hp) ((t.cnd_iff T he (hin p hp)).mpr hp) ho q (hin q hq) ((t.cnd_iff T he (hin q hq)).mpr hq) ho'⟩
  · rintro ⟨a, b', c, d⟩
    exact ⟨a, fun p hp h1 h2 => b' p ((t.cnd_iff T he hp).mp h1) h2, fun q hq h1 h2 => c q ((t.cnd_iff T he hq).mp h1) h2,
      fun p hp h1 h2 q hq h3 h4 => d p q ((t.cnd_iff T he hp).mp h1) h2 ((t.cnd_iff T he hq).mp h3) h4⟩
theorem Tree.law (t : Tree top P C) (T : TopOk top b) (I : Inner P inn) (hw : ∀ x ∈ P, wv x = worthVal top x (ev x) ((inn x).map wv)) {SP : List Str} (hp : SP.Perm P) (hs : sortedS SP = true) {lo hi : Int} (hlt : lo < hi) :
    srch inn ev 14 true top lo hi = (max lo (min (wv top) hi), SP.filter fun e => decide (inn e = []) && decide (((P.drop 1).foldl (openStep b top e wv) (lo, hi)).1 < ((P.drop 1).foldl (openStep b top e wv) (lo, hi)).2)) := by
  obtain ⟨C', hC, _⟩ := t.cons
  have h0 : ([] : List Str) ∈ C := by rw [hC]; exact List.mem_cons_self
  have ht0 : enc top [] = top := rfl
  have htP : top ∈ P := ht0 ▸ t.mem h0
  have hodd : oddF top top = false := (odd_enc (top := top) (c := []) (by simp)).trans (by decide)
  have h14 : Ht inn 14 top := ht0 ▸ t.ht T I 14 [] h0 (by simp)
  have h := ab (ev := ev) (wv := wv) (A := Lft C top) (odd := oddF top) (t.ups T I) (fun x hx => worth_ab (hw x hx)) (t.odds T I) (fun x _ _ => t.lft0 T x) (t.lft T I) 14 top lo hi htP h14 hlt
  rw [hodd] at h
  rw [show (!false) = true from rfl] at h
  rw [h, t.lvs_all T I (Nat.le_refl 14) hp hs, List.filter_filter]
  congr 1
  refine List.filter_congr fun e he => ?_
  have heP : e ∈ P := hp.mem_iff.mp he
  rw [Bool.and_comm]
  congr 1
  rw [decide_eq_decide]
  exact (t.open_iff T heP lo hi).symm
end
-- A6
theorem item_b : tl (Txt.item (Str.ofString "ba") 0) = [98] := by decide +kernel
theorem item_a : tl (Txt.item (Str.ofString "ba") 1) = [97] := by decide +kernel
theorem name_tl (i : Nat) (n : Int) : ∃ a, tl (nameF i n) = [a, 97 + i] ∧ 97 ≤ a := by
  unfold nameF
  rw [tl_app]
  have e : tl (⟨#[(97 + (i : Int)).toNat]⟩ : Str) = [97 + i] := by
    show [(97 + (i : Int)).toNat] = _
    rw [show (97 + (i : Int)).toNat = 97 + i by omega]
  rw [e]
  rcases fmod2 (n.fdiv 12) with h | h
  · rw [h, item_b]; exact ⟨98, rfl, by omega⟩
  · rw [h, item_a]; exact ⟨97, rfl, by omega⟩
def Young (i : Nat) (c : List Str) : Prop := ∀ n ∈ c, ∃ a k, tl n = [a, 97 + k] ∧ 97 ≤ a ∧ k < i
structure TreeUp (top : Str) (P : List Str) (C : List (List Str)) (i : Nat) : Prop where
  eq : P = C.map (enc top)
  size : C.length = i + 1
  head : C[0]? = some []
  nd : C.Nodup
  up : ∀ (i : Nat) (c : List Str) (n : Str), C[i]? = some (c ++ [n]) → ∃ j, j < i ∧ C[j]? = some c
  young : ∀ c ∈ C, Young i c
  len : ∀ c ∈ C, c.length ≤ i
theorem treeUp (top : Str) (ns : List Int) : ∀ i : Nat, ∃ C, TreeUp top (treeAt top ns i).1 C i
  | 0 => by
    refine ⟨[[]], rfl, rfl, rfl, by simp, fun i c n h => ?_, fun c hc n hn => ?_, fun c hc => ?_⟩
    · rcases i with _ | i <;> simp at h
    · rw [List.mem_singleton.mp hc] at hn; cases hn
    · rw [List.mem_singleton.mp hc]; simp
  | i + 1 => by
    obtain ⟨C, t⟩ := treeUp top ns i
    have hpl : (treeAt top ns i).1.length = i + 1 := by rw [t.eq, List.length_map, t.size]
    obtain ⟨j, hj, hjl⟩ : ∃ j, ((ns.getD i 0).fmod ((treeAt top ns i).1.length : Int)).toNat = j ∧ j < i + 1 := by
      refine ⟨_, rfl, ?_⟩
      rw [hpl]
      have h1 := Int.fmod_nonneg_of_pos (ns.getD i 0) (b := ((i + 1 : Nat) : Int)) (by omega)
      have h2 := Int.fmod_lt_of_pos (ns.getD i 0) (b := ((i + 1 : Nat) : Int)) (by omega)
      omega
    obtain ⟨c, hc⟩ : ∃ c, C[j]? = some c := ⟨_, List.getElem?_eq_getElem (by rw [t.size]; exact hjl)⟩
    have hcm : c ∈ C := List.mem_of_getElem? hc
    have hst : treeStep i (ns.getD i 0) (treeAt top ns i).1 = enc top (c ++ [nameF i (ns.getD i 0)]) := by
      unfold treeStep
      rw [hj, enc_snoc]
      congr 1
      rw [List.getD_eq_getElem?_getD]
      have : (treeAt top ns i).1[j]? = some (enc top c) := by rw [t.eq, List.getElem?_map, hc]; rfl
      rw [this]; rfl
    obtain ⟨a, hname, ha⟩ := name_tl i (ns.getD i 0)
    have hfresh : (c ++ [nameF i (ns.getD i 0)]) ∉ C := fun h => by
      obtain ⟨a', k, e, _, hk⟩ := t.young _ h (nameF i (ns.getD i 0)) (by simp)
      rw [hname] at e
      simp at e
      omega
    refine ⟨C ++ [c ++ [nameF i (ns.getD i 0)]], ?_, ?_, ?_, ?_, ?_, ?_, ?_⟩
    · show (treeAt top ns i).1 ++ [treeStep i (ns.getD i 0) (treeAt top ns i).1] = _
      rw [hst, List.map_append, t.eq]
      rfl
    · rw [List.length_append, t.size]; rfl
    · rw [List.getElem?_append_left (by rw [t.size]; omega)]; exact t.head
    · rw [List.nodup_append]
      refine ⟨t.nd, by simp, fun d hd e he => ?_⟩
      rw [List.mem_singleton.mp he]
      exact fun q => hfresh (q ▸ hd)
    · intro k d n h
      by_cases hk : k < C.length
      · rw [List.getElem?_append_left hk] at h
        obtain ⟨j', h1, h2⟩ := t.up k d n h
        exact ⟨j', h1, by rw [List.getElem?_append_left (by omega)]; exact h2⟩
      · rw [List.getElem?_append_right (by omega)] at h
        have hk0 : k - C.length = 0 := by
          cases hq : k - C.length with
          | zero => rfl
          | succ q => rw [hq] at h; simp at h
        rw [hk0] at h
        have h' : c ++ [nameF i (ns.getD i 0)] = d ++ [n] := by simpa using h
        have e := List.append_inj_left' h' rfl
        subst e
        refine ⟨j, ?_, by rw [List.getElem?_append_left (by rw [t.size]; exact hjl)]; exact hc⟩
        have := t.size; omega
    · intro d hd n hn
      rcases List.mem_append.mp hd with hd | hd
      · obtain ⟨a', k, e, h1, h2⟩ := t.young d hd n hn
        exact ⟨a', k, e, h1, by omega⟩
      · rw [List.mem_singleton.mp hd] at hn
        rcases List.mem_append.mp hn with hn | hn
        · obtain ⟨a', k, e, h1, h2⟩ := t.young c hcm n hn
          exact ⟨a', k, e, h1, by omega⟩
        · rw [List.mem_singleton.mp hn]
          exact ⟨a, i, hname, ha, by omega⟩
    · intro d hd
      rcases List.mem_append.mp hd with hd | hd
      · have := t.len d hd; omega
      · rw [List.mem_singleton.mp hd, List.length_append]
        have := t.len c hcm
        simp; omega
theorem tree_of (top : Str) (ns : List Int) {i : Nat} (hi : i ≤ 13) : ∃ C, Tree top (treeAt top ns i).1 C := by
  obtain ⟨C, t⟩ := treeUp top ns i
  exact ⟨C, t.eq, t.head, t.nd, t.up, fun c hc n hn => by
    obtain ⟨a, k, e, h1, _⟩ := t.young c hc n hn
    exact ⟨a, 97 + k, e, h1, by omega⟩, fun c hc => Nat.le_trans (t.len c hc) hi⟩
theorem put_keys {β : Type} (kvs : List (Str × β)) (k : Str) (v : β) (x : Str) : x ∈ (put kvs k v).map (·.1) ↔ x ∈ kvs.map (·.1) ∨ x = k := by
  unfold put
  split
  · rename_i h
    have e : (kvs.map fun kv => if kv.1 = k then (kv.1, v) else kv).map (·.1) = kvs.map (·.1) := by
      rw [List.map_map]
      refine List.map_congr_left fun p _ => ?_
      show (if p.1 = k then (p.1, v) else p).1 = p.1
      split <;> rfl
    rw [e]
    refine ⟨.inl, fun q => q.elim id fun q => ?_⟩
    obtain ⟨p, hp, hk⟩ := List.any_eq_true.mp h
    rw [q, ← of_decide_eq_true hk]
    exact List.mem_map_of_mem hp
  · rw [List.map_append, List.mem_append]
    simp
theorem ends_keys (top : Str) (ns : List Int) : ∀ i : Nat, ∀ x ∈ (treeAt top ns i).1, x ∈ (treeAt top ns i).2.map (·.1)
  | 0, x, h => h
  | i + 1, x, h => by
    rcases List.mem_append.mp (show x ∈ (treeAt top ns i).1 ++ [treeStep i (ns.getD i 0) (treeAt top ns i).1] from h) with h | h
    · exact (put_keys _ _ _ _).mpr (.inl (ends_keys top ns i x h))
    · exact (put_keys _ _ _ _).mpr (.inr (List.mem_singleton.mp h))
theorem va_some (es : List (Str × Int × Tok)) (x : Str) (h : x ∈ es.map (·.1)) : ∃ v t, valueAt (intKvs es) x = some (.int v t) := by
  unfold valueAt intKvs
  rw [List.find?_map]
  obtain ⟨p, hp, e⟩ := List.mem_map.mp h
  cases hf : es.find? ((fun kv : Str × Value => decide (kv.1 = x)) ∘ fun p => (p.1, .int p.2.1 p.2.2)) with
  | none =>
    rw [List.find?_eq_none] at hf
    exact absurd (by simpa using e) (hf p hp)
  | some q => exact ⟨q.2.1, q.2.2, rfl⟩
theorem ends_ev {top : Str} {ns : List Int} {i : Nat} {ps : List Str} {es : List (Str × Int × Tok)} (h1 : ps = (treeAt top ns i).1) (h2 : (es.map fun p => (p.1, p.2.1)) = (treeAt top ns i).2) : ∃ ev : Str → Int, ∀ x ∈ ps, ∃ t, valueAt (intKvs es) x = some (.int (ev x) t) := by
  have h : ∀ x ∈ ps, ∃ v t, valueAt (intKvs es) x = some (.int v t) := fun x hx => va_some es x (by
    have := ends_keys top ns i x (h1 ▸ hx)
    rw [← h2, List.map_map] at this
    exact this)
  classical
  refine ⟨fun x => if hx : x ∈ ps then (h x hx).choose else 0, fun x hx => ?_⟩
  have := (h x hx).choose_spec
  simp only [dif_pos hx]
  exact this
theorem Tree.order {top : Str} {b : Bool} {P : List Str} {C : List (List Str)} {inn : Str → List Str} (t : Tree top P C) (T : TopOk top b) (I : Inner P inn) (i : Nat) (x : Str) (hx : P.reverse[i]? = some x) : ∀ k ∈ inn x, k ∈ P.reverse.take i := by
  intro k hk
  have hlen : i < P.length := by
    rcases Nat.lt_or_ge i P.length with h | h
    · exact h
    · rw [List.getElem?_eq_none (by rw [List.length_reverse]; exact h)] at hx; cases hx
  rw [List.getElem?_reverse hlen] at hx
  have hxP : x ∈ P := List.mem_of_getElem? hx
  obtain ⟨c, hc, rfl⟩ := t.of hxP
  obtain ⟨n, hn, rfl⟩ := (t.kids T I hc).mp hk
  obtain ⟨q, hq⟩ := List.mem_iff_getElem?.mp hn
  obtain ⟨j, hj, hjc⟩ := t.up q c n hq
  have hjP : P[j]? = some (enc top c) := by rw [t.eq, List.getElem?_map, hjc]; rfl
  have hqP : P[q]? = some (enc top (c ++ [n])) := by rw [t.eq, List.getElem?_map, hq]; rfl
  have hqlt : q < P.length := by
    rcases Nat.lt_or_ge q P.length with h | h
    · exact h
    · rw [List.getElem?_eq_none h] at hqP; cases hqP
  have e : j = P.length - 1 - i := by
    have nd := t.nodup T
    exact (List.getElem?_inj (by omega) nd).mp (hjP.trans hx.symm)
  rw [List.mem_iff_getElem?]
  refine ⟨P.length - 1 - q, ?_⟩
  rw [List.getElem?_take, if_pos (by omega), List.getElem?_reverse (by omega), show P.length - 1 - (P.length - 1 - q) = q by omega]
  exact hqP
-- LX
section
variable {prog : Program} {w : World} {A : Around} {E : Value → Shared → Prop} {s : Shared} {h₀ : Heap} {L : Addr} {m : Str → Option Value} {news : List (Addr × Obj)}
theorem item_top {value slice : PySem.Expr} {r : Addr} {x y : Str} {t1 t2 : Tok} {n : Nat} {a : Int} {u : Tok} {Q : Value → Shared → Prop} (N : News h₀ L s.heap news) (hm : (r, ({ cls := .type "list", data := .seq #[.str x t1, .str y t2] n } : Obj)) ∈ news)
    (h : ∀ z t', (z = x ∨ z = y) → Q (.str z t') s)
    (hs : ∀ i, subscripted slice false (.ref r) (.int i u) = operate [.ref r, .int i u] (getItem (.ref r) (.int i u))) :
    wpAny (model prog w) A (subscriptTail value slice (.ref r) (.int (a.fmod 2) u)) Q E s := by
  have hl : s.heap.IsList r #[.str x t1, .str y t2] := ⟨_, (N _ hm).1, rfl, _, rfl⟩
  rcases fmod2 a with e | e
  · rw [e]
    exact tail_any hl.typeIs slot_list_getitem.lookup (wpAny_getItem_list hl (by decide) (by decide) (by rfl) (h x t1 (.inl rfl))) (hs _)
  · rw [e]
    exact tail_any hl.typeIs slot_list_getitem.lookup (wpAny_getItem_list hl (by decide) (by decide) (by rfl) (h y t2 (.inr rfl))) (hs _)
theorem slice_from1_N {value slice : PySem.Expr} {l : Addr} {c : List (Str × Tok)} {n : Nat} {t : Tok} {Q : Value → Shared → Prop} (F : Fr h₀ L s.heap m) (N : News h₀ L s.heap news) (hm : (l, svObj c n) ∈ news) (hz : c.length ≤ 1002)
    (h : ∀ D h', Fr h₀ L h' m → News h₀ L h' ((D, { cls := .type "list", data := .seq (strValues (c.drop 1)).toArray 0 }) :: news) → (∀ p ∈ news, p.1 < D) → Q (.ref D) { s with heap := h' })
    (hs : subscripted slice false (.ref l) (.ref s.heap.objs.size) = operate [.ref s.heap.objs.size, .ref l] (getItem (.ref l) (.ref s.heap.objs.size))) (ht : ∀ r, letTemporaryGo value (.ref l) r = pure ()) :
    wpAny (model prog w) A (subscriptTail value slice (.ref l) (.ref s.heap.objs.size)) Q E { s with heap := s.heap.push { cls := .type "slice", data := .fields #[.int 1 t, .none, .none] } } := by
  refine kmk_slice (lo := some 1) (hi := none) F N ⟨_, (N _ hm).1, rfl, _, rfl⟩ (.int _ _) .none (fun D h' F' N' l1 => h D h' F' ?_ l1) hs ht (by rw [List.size_toArray, strValues, List.length_map, sizeLine_eq]; omega)
  rw [slice_from1] at N'
  have e : (strValues c).drop 1 = strValues (c.drop 1) := by rw [strValues, strValues, List.map_drop]
  rw [e] at N'
  exact N'
theorem sv_of : ∀ {vs : List Value} {ss : List Str}, StrsAre vs ss → ∃ l, vs = strValues l ∧ l.map (·.1) = ss
  | _, _, .nil => ⟨[], rfl, rfl⟩
  | _, _, .cons x t h => by
    obtain ⟨l, e1, e2⟩ := sv_of h
    exact ⟨(x, t) :: l, by rw [e1]; rfl, by rw [List.map_cons, e2]⟩
theorem sorted_sv {l : Addr} {c : List (Str × Tok)} {n : Nat} {Q : Value → Shared → Prop} (F : Fr h₀ L s.heap m) (N : News h₀ L s.heap news) (hm : (l, svObj c n) ∈ news) (hz : c.length < 64)
    (h : ∀ r c' e h', Fr h₀ L h' m → News h₀ L h' ((r, svObj c' e) :: news) → (∀ p ∈ news, p.1 < r) → (c'.map (·.1)).Perm (c.map (·.1)) → sortedS (c'.map (·.1)) = true → Q (.ref r) { s with heap := h' }) :
    wpAny (model prog w) A (call (.builtin "sorted") [.ref l]) Q E s := by
  refine sorted_N_str F N ⟨_, (N _ hm).1, rfl, _, rfl⟩ (strsAre_sv c) (by rw [strValues, List.length_map]; exact hz) fun h' vs' ss' e F' N' a1 a2 a3 => ?_
  obtain ⟨c', rfl, rfl⟩ := sv_of a1
  exact h _ c' e h' F' N' (fun p hp => Nat.lt_succ_of_lt (Heap.lt_size (N p hp).1)) a2 a3
theorem news_in {h h' : Heap} {a : Addr} {o : Obj} (F : Fr h₀ L h m) (N' : News h₀ L h' news) (hk : h.get? a = none) (ha : h'.get? a = some o) : News h₀ L h' ((a, o) :: news) := fun p hp => by
  rcases List.mem_cons.mp hp with rfl | hp
  · refine ⟨ha, fun q => ?_, ?_⟩
    · obtain ⟨oL, es, ep, e, _⟩ := F.ns
      have q' : a = L := q
      rw [q', e] at hk; cases hk
    · cases e : h₀.get? a with
      | none => rfl
      | some o2 => rw [F.keep _ _ e] at hk; cases hk
  · exact N' p hp
theorem news_ne {h : Heap} {a : Addr} (N : News h₀ L h news) (hk : h.get? a = none) : ∀ p ∈ news, p.1 ≠ a := fun p hp q => by
  have := (N p hp).1
  rw [q, hk] at this; cases this
end
def AllNe (a : Nat) : List (Addr × Obj) → Prop
  | [] => True
  | p :: r => (@Ne Nat p.1 a) ∧ AllNe a r
theorem allNe_of {a : Addr} : ∀ {l : List (Addr × Obj)}, (∀ p ∈ l, p.1 ≠ a) → AllNe a l
  | [], _ => trivial
  | _ :: _, h => ⟨h _ List.mem_cons_self, allNe_of fun p hp => h p (List.mem_cons_of_mem _ hp)⟩
theorem tail_ne {mk : List (Addr × Obj)} {D d : Addr} (h : ∀ p ∈ mk, @LT.lt Nat _ D p.1) (hd : @LE.le Nat _ d D) : ∀ p ∈ mk, p.1 ≠ d := fun p hp => Nat.ne_of_gt (Nat.lt_of_le_of_lt hd (h p hp))
theorem good_top {z : Str} (h : z = Str.ofString "top" ∨ z = Str.ofString "/top") : Good z ∧ z.length ≤ 4 := by
  rcases h with rfl | rfl
  · exact ⟨⟨[116, 111], 112, by decide +kernel, by decide⟩, by decide +kernel⟩
  · exact ⟨⟨[47, 116, 111], 112, by decide +kernel, by decide⟩, by decide +kernel⟩
-- LY
theorem inn_of {ps : List (Str × Tok)} {kvs : List (Str × Value)} {mk : List (Addr × Obj)} (hps : ps.length ≤ 14)
    (hval : ∀ k t, (k, t) ∈ ps → ∃ r c e, valueAt kvs k = some (.ref r) ∧ (r, svObj c e) ∈ mk ∧ (c.map (·.1)).Perm (((ps.drop 1).map (·.1)).filter fun x => dirnameF x == k) ∧ sortedS (c.map (·.1)) = true) :
    ∃ inn : Str → List Str, Inner (ps.map (·.1)) inn ∧ ∀ x ∈ ps.map (·.1), ∃ r c e, valueAt kvs x = some (.ref r) ∧ (r, svObj c e) ∈ mk ∧ c.length ≤ 14 ∧ c.map (·.1) = inn x := by
  have h : ∀ x ∈ ps.map (·.1), ∃ l : List Str, ∃ r c e, valueAt kvs x = some (.ref r) ∧ (r, svObj c e) ∈ mk ∧ c.length ≤ 14 ∧ c.map (·.1) = l ∧ l.Perm (((ps.map (·.1)).drop 1).filter fun y => dirnameF y == x) ∧ sortedS l = true := fun x hx => by
    obtain ⟨⟨k, t⟩, hp, rfl⟩ := List.mem_map.mp hx
    obtain ⟨r, c, e, h1, h2, h3, h4⟩ := hval k t hp
    refine ⟨c.map (·.1), r, c, e, h1, h2, ?_, rfl, by rw [← List.map_drop]; exact h3, h4⟩
    have h5 := h3.length_eq
    rw [List.length_map] at h5
    have h6 := List.length_filter_le (fun x => dirnameF x == k) ((ps.drop 1).map (·.1))
    rw [List.length_map, List.length_drop] at h6
    omega
  classical
  refine ⟨fun x => if hx : x ∈ ps.map (·.1) then (h x hx).choose else [], fun x hx => ?_, fun x hx => ?_⟩
  · have := (h x hx).choose_spec
    simp only [dif_pos hx]
    obtain ⟨r, c, e, _, _, _, _, h5, h6⟩ := this
    exact ⟨h5, h6⟩
  · have := (h x hx).choose_spec
    simp only [dif_pos hx]
    obtain ⟨r, c, e, h1, h2, h3, h4, _, _⟩ := this
    exact ⟨r, c, e, h1, h2, h3, h4⟩
theorem treeInv_tree {top : Str} {ns : List Int} {ps : List Str} {es : List (Str × Int)} (h : TreeInv top ns ns.length ps es) (hl : ns.length ≤ 13) : ∃ C, Tree top ps C := by
  rw [h.1]; exact tree_of top ns hl
theorem Tree.first {top : Str} {P : List Str} {C : List (List Str)} (t : Tree top P C) : P[0]? = some top := by
  rw [t.eq, List.getElem?_map, t.head]; rfl
theorem Tree.order_ps {top : Str} {b : Bool} {ps : List (Str × Tok)} {C : List (List Str)} {inn : Str → List Str} (t : Tree top (ps.map (·.1)) C) (T : TopOk top b) (I : Inner (ps.map (·.1)) inn) :
    ∀ (i : Nat) x tx, ps.reverse[i]? = some (x, tx) → ∀ k ∈ inn x, k ∈ (ps.reverse.take i).map (fun x => x.fst) := fun i x tx h k hk => by
  have h1 : (ps.map (·.1)).reverse[i]? = some x := by rw [← List.map_reverse, List.getElem?_map, h]; rfl
  have h2 := t.order T I i x h1 k hk
  have e : (ps.map (·.1)).reverse.take i = (ps.reverse.take i).map (·.1) := by rw [← List.map_reverse, ← List.map_take]
  exact e ▸ h2
theorem allLt_mem {d : Nat} (l : List (Addr × Obj)) (h : AllLt d l) (p : Addr × Obj) (hp : p ∈ l) : @LT.lt Nat _ p.1 d := by
  induction l with
  | nil => cases hp
  | cons q l ih =>
    rcases List.mem_cons.mp hp with rfl | hp
    · exact h.1
    · exact ih h.2 hp
-- LZ
theorem exists_sorted (P : List Str) : ∃ SP : List Str, SP.Perm P ∧ sortedS SP = true := by
  refine ⟨P.mergeSort fun a b => !decide (tl b < tl a), List.mergeSort_perm _ _, sortedS_of_pairwise _ ?_⟩
  have hp := List.pairwise_mergeSort (le := fun a b : Str => !decide (tl b < tl a)) (fun a b c h1 h2 => ?_) (fun a b => ?_) P
  · exact hp.imp fun {a b} h => by rw [ltCps_eq]; simpa using h
  · simp only [Bool.not_eq_true', decide_eq_false_iff_not, List.not_lt] at h1 h2 ⊢
    exact List.le_trans h1 h2
  · simp only [Bool.or_eq_true, Bool.not_eq_true', decide_eq_false_iff_not, List.not_lt]
    exact List.le_total _ _
section
variable {w : World} {p : Program} {loose : List Str} {mean : ExcName → Option Value} {mg mb : Str → Option Value} {s : Shared} {hg : Heap} {L : Addr} {m : Str → Option Value} {news mk : List (Addr × Obj)} {Q E : Value → Shared → Prop} {dp un : Nat} {fr : Option (List Env)} {gd : Option (List Code)}
theorem law_search {tab : Array Value} {Dl di de : Addr} {oD oe : Obj} {kvs : List (Str × Value)} {ees : List (Str × Int × Tok)} {ps : List (Str × Tok)} {inn : Str → List Str} {ev wv : Str → Int} {top : Str} {b : Bool} {C : List (List Str)} {low high : Int} {tz tl th : Tok}
    (F : Fr hg L s.heap m) (N : News hg L s.heap news) (X : (pk.heap_1 w.params).In hg) (T : Top p loose mean mg mb hg) (Cd : CodeHd hg 174 170) (tok : TabOk s.heap 170 qLam tab)
    (h1 : (170, tabObj tab) ∈ news) (h2 : (Dl, lkObj [] 0) ∈ news) (h3 : (di, oD) ∈ news) (h4 : (de, oe) ∈ news) (hmk : ∀ q ∈ mk, q ∈ news)
    (n1 : @Ne Nat Dl 170) (n2 : @Ne Nat di 170) (n3 : @Ne Nat di Dl) (n4 : @Ne Nat de 170) (n5 : @Ne Nat de Dl) (n6 : ∀ q ∈ mk, q.1 ≠ 170 ∧ q.1 ≠ Dl)
    (hdD : oD.IsDictOf (PySem.strKind PySem.Challenge.rw_un0028_01.row.prog w) kvs) (hde : oe.IsDictOf (PySem.strKind PySem.Challenge.rw_un0028_01.row.prog w) (intKvs ees))
    (hin : ∀ x ∈ ps.map (·.1), ∃ r c e, valueAt kvs x = some (.ref r) ∧ (r, svObj c e) ∈ mk ∧ c.length ≤ 14 ∧ c.map (·.1) = inn x) (hev : ∀ x ∈ ps.map (·.1), ∃ t, valueAt (intKvs ees) x = some (.int (ev x) t))
    (hps : ps.length ≤ 14) (t : Tree top (ps.map (·.1)) C) (Tk : TopOk top b) (I : Inner (ps.map (·.1)) inn) (hw : ∀ x ∈ ps.map (·.1), wv x = worthVal top x (ev x) ((inn x).map wv)) (hlt : low < high) (hdp : dp ≤ 600) (hun : un ≤ 6000)
    (hQ : ∀ h' tk t, After Dl s.heap (srch inn ev 14 true top low high).2 h' → Q (.int (max low (min (wv top) high)) t) { s with heap := h', toks := tk }) :
    wpAny (model PySem.Challenge.rw_un0028_01.row.prog w) ⟨none, dp, fr, gd, un⟩ (call (.ref 175) [.ref di, .ref de, .ref Dl, .str top tz, .int low tl, .int high th, .bool true]) Q E s := by
  have PA : Part hg s.heap (ownS tab Dl [] 0) := part_of F N _ fun q hq => by
    rcases List.mem_cons.mp hq with rfl | hq
    · exact h1
    · rw [List.mem_singleton.mp hq]; exact h2
  have V := PA.up
  have off : ∀ a, a ≠ 170 → a ≠ Dl → a ∉ ([170, Dl] : List Addr) := fun a q1 q2 hm => by
    rcases List.mem_cons.mp hm with q | hm
    · exact q1 q
    · exact q2 (List.mem_singleton.mp hm)
  have hide : ∀ {a o}, (a, o) ∈ news → a ≠ 170 → a ≠ Dl → (hideAll s.heap [170, Dl]).get? a = some o := fun {a o} hm q1 q2 => hideAll_get _ (N _ hm).1 (off a q1 q2)
  have htop : top ∈ ps.map (·.1) := List.mem_of_getElem? t.first
  obtain ⟨C', hC, _⟩ := t.cons
  have h0 : ([] : List Str) ∈ C := by rw [hC]; exact List.mem_cons_self
  have h14 : Ht inn 14 top := t.ht Tk I 14 [] h0 (by simp)
  obtain ⟨SP, hSP, hSS⟩ := exists_sorted (ps.map (·.1))
  have hlv : (lvs inn 14 top).length ≤ 14 := by
    rw [t.lvs_all Tk I (Nat.le_refl 14) hSP hSS]
    have h1 := List.length_filter_le (fun e => decide (inn e = [])) SP
    have h2 := hSP.length_eq
    rw [List.length_map] at h2
    omega
  have el : (srch inn ev 14 true top low high).1 = max low (min (wv top) high) := by rw [t.law Tk I hw hSP hSS hlt]
  refine search_ok 14 (S := ps.map (·.1)) (inn := inn) (ev := ev) PA.self (X.keeps V) (T.keeps V) (Cd.keeps V) ⟨⟨oD, kvs, hide h3 n2 n3, hdD, fun x hx => ?_⟩, ⟨oe, ees, hide h4 n4 n5, hde, hev⟩, t.ups Tk I⟩ (by omega) (by omega) n1 tok htop h14 (by simp only [List.length_nil]; omega) fun h' tk t A => ?_
  · obtain ⟨r, c, e, a1, a2, a3, a4⟩ := hin x hx
    exact ⟨r, c, a1, ⟨_, hide (hmk _ a2) (n6 _ a2).1 (n6 _ a2).2, rfl, _, rfl⟩, a3, a4⟩
  · rw [el]
    exact hQ h' tk t (by simpa using A)
theorem after_news {h h' : Heap} {Dl : Addr} {tab : Array Value} {lk : List (Str × Tok)} {n : Nat} {r : List Str} {g1 : Obj → List (Addr × Obj)} {g2 : Array Value → Obj → List (Addr × Obj)}
    (F : Fr hg L h m) (N : News hg L h news) (U1 : UpdF 170 (tabObj tab) news g1) (U2 : ∀ tab', UpdF Dl (lkObj lk n) (g1 (tabObj tab')) (g2 tab')) (A : After Dl h r h') :
    ∃ tab' lk' n', Fr hg L h' m ∧ News hg L h' (g2 tab' (lkObj lk' n')) ∧ TabOk h' 170 qLam tab' ∧ lk'.map (·.1) = r := by
  obtain ⟨tab', lk', n', k, a1, a2, tok, e⟩ := A
  obtain ⟨pre, post, e1, e2, o1, o2⟩ := U1.split
  have hm1 : (170, tabObj tab) ∈ news := by rw [e1]; simp
  obtain ⟨pre2, post2, f1, f2, p1, p2⟩ := (U2 tab').split
  have hN1 : ∀ q ∈ g1 (tabObj tab'), q = (170, tabObj tab') ∨ (q ∈ news ∧ q.1 ≠ 170) := fun q hq => by
    rw [e2] at hq
    rcases List.mem_append.mp hq with hq | hq
    · exact .inr ⟨by rw [e1]; simp [hq], o1 q hq⟩
    · rcases List.mem_cons.mp hq with rfl | hq
      · exact .inl rfl
      · exact .inr ⟨by rw [e1]; simp [hq], o2 q hq⟩
  have hDm : (Dl, lkObj lk n) ∈ g1 (tabObj tab') := by rw [f1]; simp
  have hDl : (Dl, lkObj lk n) ∈ news ∧ Dl ≠ 170 := by
    rcases hN1 _ hDm with q | q
    · have := congrArg (fun p : Addr × Obj => p.2.cls) q
      cases this
    · exact q
  have n1 := N _ hm1
  have n2 := N _ hDl.1
  have off : ∀ b, b ≠ 170 → b ≠ Dl → b ∉ ([170, Dl] : List Addr) := fun b q1 q2 hm => by
    rcases List.mem_cons.mp hm with q | hm
    · exact q1 q
    · exact q2 (List.mem_singleton.mp hm)
  refine ⟨tab', lk', n', ?_, fun q hq => ?_, tok, e⟩
  · obtain ⟨oL, es, ep, eL, r⟩ := F.ns
    refine ⟨⟨oL, es, ep, k _ _ (off _ (fun q => n1.2.1 q.symm) fun q => n2.2.1 q.symm) eL, r⟩, fun b o hb => k _ _ (off _ (fun q => ?_) fun q => ?_) (F.keep b o hb), F.above⟩
    · have := n1.2.2; rw [← q, hb] at this; cases this
    · have := n2.2.2; rw [← q, hb] at this; cases this
  · rw [f2] at hq
    have keepq : ∀ q ∈ g1 (tabObj tab'), q.1 ≠ Dl → h'.get? q.1 = some q.2 ∧ q.1 ≠ L ∧ hg.get? q.1 = none := fun q hq hne => by
      rcases hN1 q hq with rfl | ⟨h1, h2⟩
      · exact ⟨a1, n1.2⟩
      · exact ⟨k _ _ (off _ h2 hne) (N q h1).1, (N q h1).2⟩
    rcases List.mem_append.mp hq with hq | hq
    · exact keepq q (by rw [f1]; simp [hq]) (p1 q hq)
    · rcases List.mem_cons.mp hq with rfl | hq
      · exact ⟨a2, n2.2⟩
      · exact keepq q (by rw [f1]; simp [hq]) (p2 q hq)
end
section
variable {prog : Program} {w : World} {A : Around} {E : Value → Shared → Prop} {s : Shared} {env : Env} {h₀ : Heap} {target : Expr} {body : List Stmt} {Q : Flow → Shared → Prop}
theorem list_turnsP {σ : Type} {l : Addr} {n : Nat} {vs : List Value} {m₀ : Str → Option Value} {news : List (Addr × Obj)}
    (fm : σ → Str → Option Value) (ns : σ → List (Addr × Obj)) (Inv : Nat → σ → Prop) (a : σ)
    (hh : A.handled = none) (F : Fr h₀ env.locals s.heap m₀) (N : News h₀ env.locals s.heap news) (hl : (l, ({ cls := .type "list", data := .seq vs.toArray n } : Obj)) ∈ news)
    (hf : ∀ y, m₀ y = fm a y) (hn : ∀ p ∈ ns a, p ∈ news ∧ p.1 ≠ l) (h0 : Inv 0 a)
    (turn : ∀ i v b I oI lo h tk, vs[i]? = some v → Inv i b → ItOf l oI → (∃ k, lo.data = .seq vs.toArray k) → (∀ p ∈ news, p.1 < I) → Fr h₀ env.locals h (fm b) → News h₀ env.locals h ((I, oI) :: (l, lo) :: ns b) →
      wpAny (model prog w) A (assign target env v) (fun _ s₂ => wpAny (model prog w) A (execs body env)
        (UnrPostW h₀ env.locals { s with heap := h, toks := tk } [(I, oI), (l, lo)] (fun m' n' => ∃ b', (∀ y, m' y = fm b' y) ∧ SubL (ns b') n' ∧ Inv (i + 1) b') Q) E s₂) E { s with heap := h, toks := tk })
    (fin : ∀ b h tk, Inv vs.length b → Fr h₀ env.locals h (fm b) → News h₀ env.locals h (ns b) → Q .next { s with heap := h, toks := tk }) :
    wpAny (model prog w) A (pyIter (.ref l)) (fun it s₂ => TurnsAt prog w A h₀ env target body Q E it s₂) E s := by
  have hL := N _ hl
  have hl' : s.heap.IsList l vs.toArray := ⟨_, hL.1, rfl, n, rfl⟩
  have hlt : l < s.heap.objs.size := Heap.lt_size hL.1
  have hLs : env.locals < s.heap.objs.size := F.ns.lt
  have hne : l ≠ s.heap.objs.size := Nat.ne_of_lt hlt
  refine wpAny_pyIter_list hl' ?_
  refine base_turnsP (ws := [s.heap.objs.size, l]) (Ob := fun its => ∃ oI lo k, its = [(s.heap.objs.size, oI), (l, lo)] ∧ ItOf l oI ∧ lo.data = .seq vs.toArray k) (tk0 := s.toks) fm ns Inv a
    (KTurns.ofWalks (Walks.list hh s.heap.objs.size l hne vs.toArray) fun i v s Q E st q => letGo_listiter st.1 q) ?_ ?_ ?_ ?_ ?_ ?_ (F.push _) (fun p hp => ⟨Heap.get?_push_of_some _ (N p hp).1, (N p hp).2⟩) ?_ hf (fun p hp => (hn p hp).1) h0 ?_ (by simpa using fin)
  · intro i h st
    obtain ⟨it, hit, hic, hid⟩ := st.1
    obtain ⟨lo, hlo, hlc, k, hld⟩ := st.2
    exact ⟨[(s.heap.objs.size, it), (l, lo)], rfl, ⟨it, lo, k, rfl, ⟨hic, _, hid⟩, hld⟩, fun p hp => by
      rcases List.mem_cons.mp hp with rfl | hp
      · exact hit
      · rw [List.mem_singleton.mp hp]; exact hlo⟩
  · intro b hb
    have hb' : b = s.heap.objs.size ∨ b = l := by simpa using hb
    rcases hb' with rfl | rfl
    · exact ⟨by simp, next_is_new F⟩
    · exact ⟨by simp, hL.2.2⟩
  · intro b hb
    have : b = s.heap.objs.size := by simpa using hb
    simp [this]
  · intro b hb
    exact .inl (by simpa using hb)
  · intro hI
    rcases List.mem_cons.mp hI with e | hI
    · exact absurd F.ns.lt (e ▸ Nat.lt_irrefl _)
    · exact hL.2.1 (List.mem_singleton.mp hI).symm
  · exact ⟨⟨_, Heap.get?_push_size _ rfl, rfl, rfl⟩, ⟨_, Heap.get?_push_of_some _ hL.1, rfl, n, rfl⟩⟩
  · intro p hp hI
    exact absurd (Heap.lt_size (N p hp).1) ((List.mem_singleton.mp hI) ▸ Nat.lt_irrefl _)
  · intro i v b its h tk hi hP hInv hmap hob F' N'
    obtain ⟨oI, lo, k, rfl, h1, h2⟩ := hob
    exact turn i v b s.heap.objs.size oI lo h tk (by have hP' : vs.toArray[i]? = some v := hP; simpa using hP') hInv h1 ⟨k, h2⟩ (fun p hp => Heap.lt_size (N p hp).1) F' N'
end
-- LV
theorem news_app {hg h : Heap} {L : Addr} {a b : List (Addr × Obj)} (N : News hg L h a) (N' : News hg L h b) : News hg L h (a ++ b) := fun p hp => (List.mem_append.mp hp).elim (N p) (N' p)
theorem newsCons {hg h : Heap} {L a : Addr} {o : Obj} {r : List (Addr × Obj)} (x : h.get? a = some o ∧ a ≠ L ∧ hg.get? a = none) (N : News hg L h r) : News hg L h ((a, o) :: r) := fun p hp => by
  rcases List.mem_cons.mp hp with rfl | hp
  · exact x
  · exact N p hp
theorem namer {s : Shared} {tabs : List (Addr × Addr)} {h : Heap} {m : Str → Option Value} (_ : Fr (ghostOf s.heap tabs) s.heap.objs.size h m) : ∃ s' : Shared, s' = s := ⟨s, rfl⟩
abbrev tupObj (a b : Int) (t u : Tok) : Obj := { cls := .type "tuple", data := .seq #[.int a t, .int b u] }
structure LS where
  looked : Option Value
  told : Option Value
  oh : Obj
  ol : Obj
  tab : Array Value
  cos : List (Addr × Obj)
abbrev frL (m₀ : Str → Option Value) (told looked : Option Value) : Str → Option Value := fun y => if y = Str.ofString "told" then told else if y = Str.ofString "looked" then looked else m₀ y
theorem frL_turn {m₀ : Str → Option Value} {a b c d : Option Value} (y : Str) : (if y = Str.ofString "told" then a else if y = Str.ofString "looked" then b else if y = Str.ofString "told" then c else if y = Str.ofString "looked" then d else m₀ y) = frL m₀ a b y := by
  by_cases e1 : y = Str.ofString "told"
  · simp [frL, e1]
  · by_cases e2 : y = Str.ofString "looked"
    · simp [frL, e2]
    · simp [frL, e1, e2]
theorem cos_ne {h₀ h : Heap} {L d : Addr} {o : Obj} {news cos : List (Addr × Obj)} (N : News h₀ L h news) (hm : (d, o) ∈ news) (hc : ∀ p ∈ cos, p ∈ news ∧ CodeSign p.2) (hs : ¬ CodeSign o) : ∀ p ∈ cos, p.1 ≠ d := fun p hp q => by
  have h1 := (N p (hc p hp).1).1
  rw [q, (N _ hm).1] at h1
  have h2 : o = p.2 := Option.some.inj h1
  exact hs (h2 ▸ (hc p hp).2)
theorem cell_sign {o : Obj} {v : Option Value} (h : o.data = .cell v) : ¬ CodeSign o := fun ⟨vs, t, hd, _⟩ => by rw [h] at hd; cases hd
theorem seq_sign {o : Obj} {v : Array Value} {k : Nat} (h : o.data = .seq v k) : ¬ CodeSign o := fun ⟨vs, t, hd, _⟩ => by rw [h] at hd; cases hd
theorem tab_sign {ps : Array Value} (h : TriplesOk ps.toList) : ¬ CodeSign (tabObj ps) := fun ⟨vs, t, hd, hv⟩ => by
  cases hd
  rw [← Array.getElem?_toList] at hv
  generalize ps.toList = l at h hv
  match l, h with
  | [], _ => cases hv
  | .int _ _ :: .int _ _ :: _ :: _, _ => cases hv
section
variable {prog : Program} {w : World} {A : Around} {E : Value → Shared → Prop} {s : Shared} {env : Env} {h₀ : Heap} {target : Expr} {body : List Stmt} {Q : Flow → Shared → Prop}
abbrev TurnLeft (h₀ : Heap) (m₀ : Str → Option Value) (aH aL : Addr) (mk : List (Addr × Obj)) (m' : Str → Option Value) (n' : List (Addr × Obj)) : Prop :=
  ∃ looked' told' oh' ol' vh' vl' tab' cos', (∀ y, m' y = frL m₀ told' looked' y) ∧ oh'.data = .cell vh' ∧ ol'.data = .cell vl' ∧ TabC h₀ cos' tab' ∧ (∀ p ∈ cos', CodeSign p.2) ∧ SubL ((aH, oh') :: (aL, ol') :: (170, tabObj tab') :: (cos' ++ mk)) n'
theorem law_turns0 {l aH aL T1 T2 : Addr} {n : Nat} {lo1 hi1 lo2 hi2 : Int} {t1 u1 t2 u2 : Tok} {oh ol : Obj} {vh vl : Option Value} {m₀ : Str → Option Value} {news mk : List (Addr × Obj)}
    (hh : A.handled = none) (F : Fr h₀ env.locals s.heap m₀) (N : News h₀ env.locals s.heap news)
    (hl : (l, ({ cls := .type "list", data := .seq #[.ref T1, .ref T2] n } : Obj)) ∈ news) (hT1 : (T1, tupObj lo1 hi1 t1 u1) ∈ mk) (hT2 : (T2, tupObj lo2 hi2 t2 u2) ∈ mk) (hlt1 : lo1 < hi1) (hlt2 : lo2 < hi2) (hb1 : -100 ≤ lo1 ∧ hi1 ≤ 100) (hb2 : -100 ≤ lo2 ∧ hi2 ≤ 100)
    (hH : (aH, oh) ∈ news) (hLo : (aL, ol) ∈ news) (hTab : (170, tabObj #[]) ∈ news) (hmk : ∀ p ∈ mk, p ∈ news)
    (dH : oh.data = .cell vh) (dL : ol.data = .cell vl) (hoff : ∀ p ∈ (aH, oh) :: (aL, ol) :: (170, tabObj #[]) :: mk, p.1 ≠ l)
    (turn : ∀ low high tl th I oI lo T looked told oh ol vh vl tab cos h tk, low < high → (-100 ≤ low ∧ high ≤ 100) → IsTup h T #[.int low tl, .int high th] → ItOf l oI → (∃ k, lo.data = .seq #[.ref T1, .ref T2] k) → oh.data = .cell vh → ol.data = .cell vl → TabC h₀ cos tab → (∀ p ∈ cos, CodeSign p.2) → (∀ p ∈ cos, p.1 ≠ aH) → (∀ p ∈ cos, p.1 ≠ aL) → (∀ p ∈ cos, p.1 ≠ 170) → (∀ p ∈ news, p.1 < I) →
      Fr h₀ env.locals h (fun y => if y = Str.ofString "told" then told else if y = Str.ofString "looked" then looked else m₀ y) →
      News h₀ env.locals h ((I, oI) :: (l, lo) :: (aH, oh) :: (aL, ol) :: (170, tabObj tab) :: (cos ++ mk)) →
      (∀ h' tk' m' looked' told' oh' ol' vh' vl' tab' cos', (∀ y, m' y = frL m₀ told' looked' y) → Fr h₀ env.locals h' m' → News h₀ env.locals h' ((I, oI) :: (l, lo) :: (aH, oh') :: (aL, ol') :: (170, tabObj tab') :: (cos' ++ mk)) →
        oh'.data = .cell vh' → ol'.data = .cell vl' → TabC h₀ cos' tab' → (∀ p ∈ cos', CodeSign p.2) →
        UnrEndW h₀ env.locals { s with heap := h, toks := tk } [(I, oI), (l, lo)] (TurnLeft h₀ m₀ aH aL mk) { s with heap := h', toks := tk' }) →
      wpAny (model prog w) A (assign target env (.ref T)) (fun _ s₂ => wpAny (model prog w) A (execs body env)
        (UnrPostW h₀ env.locals { s with heap := h, toks := tk } [(I, oI), (l, lo)] (TurnLeft h₀ m₀ aH aL mk) Q) E s₂) E { s with heap := h, toks := tk })
    (fin : ∀ looked told oh ol tab cos h tk, Fr h₀ env.locals h (fun y => if y = Str.ofString "told" then told else if y = Str.ofString "looked" then looked else m₀ y) →
      News h₀ env.locals h ((aH, oh) :: (aL, ol) :: (170, tabObj tab) :: (cos ++ mk)) → Q .next { s with heap := h, toks := tk }) :
    wpAny (model prog w) A (pyIter (.ref l)) (fun it s₂ => TurnsAt prog w A h₀ env target body Q E it s₂) E s := by
  refine list_turnsP (σ := LS) (vs := [.ref T1, .ref T2]) (n := n) (fun b => frL m₀ b.told b.looked)
    (fun b => (aH, b.oh) :: (aL, b.ol) :: (170, tabObj b.tab) :: (b.cos ++ mk))
    (fun _ b => (∃ v, b.oh.data = .cell v) ∧ (∃ v, b.ol.data = .cell v) ∧ TabC h₀ b.cos b.tab ∧ ∀ p ∈ b.cos, CodeSign p.2)
    ⟨m₀ (Str.ofString "looked"), m₀ (Str.ofString "told"), oh, ol, #[], []⟩ hh F N hl ?_ ?_ ⟨⟨_, dH⟩, ⟨_, dL⟩, ⟨trivial, fun pos cv e => by cases e⟩, fun _ h => nomatch h⟩ ?_ ?_
  · intro y
    by_cases e1 : y = Str.ofString "told"
    · subst e1; simp [frL]
    · by_cases e2 : y = Str.ofString "looked"
      · subst e2; simp [frL, e1]
      · simp [frL, e1, e2]
  · intro p hp
    rw [List.nil_append] at hp
    exact ⟨List.forall_mem_cons.mpr ⟨hH, List.forall_mem_cons.mpr ⟨hLo, List.forall_mem_cons.mpr ⟨hTab, hmk⟩⟩⟩ p hp, hoff p hp⟩
  · intro i v b I oI lo h tk hv hInv hIt hlo hlI F' N'
    obtain ⟨⟨vh', hvh⟩, ⟨vl', hvl⟩, hTC, hcs⟩ := hInv
    have up : ∀ {q : Addr × Obj} {x1 x2 x3 x4 x5 : Addr × Obj} {cos : List (Addr × Obj)}, q ∈ mk → q ∈ x1 :: x2 :: x3 :: x4 :: x5 :: (cos ++ mk) := fun hq => .tail _ (.tail _ (.tail _ (.tail _ (.tail _ (List.mem_append_right _ hq)))))
    have upc : ∀ {q : Addr × Obj} {x1 x2 x3 x4 x5 : Addr × Obj} {cos : List (Addr × Obj)}, q ∈ cos → q ∈ x1 :: x2 :: x3 :: x4 :: x5 :: (cos ++ mk) := fun hq => .tail _ (.tail _ (.tail _ (.tail _ (.tail _ (List.mem_append_left _ hq)))))
    have hT : ∃ low high tl th T, v = .ref T ∧ low < high ∧ (-100 ≤ low ∧ high ≤ 100) ∧ IsTup h T #[.int low tl, .int high th] := by
      rcases i with _ | _ | i
      · cases hv
        exact ⟨lo1, hi1, t1, u1, T1, rfl, hlt1, hb1, ⟨_, (N' (T1, tupObj lo1 hi1 t1 u1) (up hT1)).1, rfl, _, rfl⟩⟩
      · cases hv
        exact ⟨lo2, hi2, t2, u2, T2, rfl, hlt2, hb2, ⟨_, (N' (T2, tupObj lo2 hi2 t2 u2) (up hT2)).1, rfl, _, rfl⟩⟩
      · cases hv
    obtain ⟨low, high, tl, th, T, rfl, hlt, hlb, hTup⟩ := hT
    have done : ∀ h' tk' m' looked' told' oh' ol' vh' vl' tab' cos', (∀ y, m' y = frL m₀ told' looked' y) → Fr h₀ env.locals h' m' → News h₀ env.locals h' ((I, oI) :: (l, lo) :: (aH, oh') :: (aL, ol') :: (170, tabObj tab') :: (cos' ++ mk)) →
        oh'.data = .cell vh' → ol'.data = .cell vl' → TabC h₀ cos' tab' → (∀ p ∈ cos', CodeSign p.2) →
        UnrEndW h₀ env.locals { s with heap := h, toks := tk } [(I, oI), (l, lo)] (TurnLeft h₀ m₀ aH aL mk) { s with heap := h', toks := tk' } := by
      intro h' tk' m' looked' told' oh' ol' vh'' vl'' tab' cos' hm' F'' N'' a1 a2 a3 a4
      refine ⟨h', tk', m', _, rfl, F'', N'', ?_, looked', told', oh', ol', vh'', vl'', tab', cos', hm', a1, a2, a3, a4, subL_of fun _ h => h⟩
      obtain ⟨k, hk⟩ := hlo
      have cI := cos_ne N'' (d := I) (o := oI) List.mem_cons_self (fun p hp => ⟨upc hp, a4 p hp⟩) (fun h => sign_it hIt h)
      have cl := cos_ne N'' (d := l) (o := lo) (List.mem_cons_of_mem _ List.mem_cons_self) (fun p hp => ⟨upc hp, a4 p hp⟩) (seq_sign hk)
      have base : ∀ (a : Addr) (o o' : Obj), (a, o) ∈ news → a ≠ l → ∀ q ∈ [(I, oI), (l, lo)], (a, o').1 ≠ q.1 := fun a o o' h h' =>
        List.forall_mem_cons.mpr ⟨Nat.ne_of_lt (hlI (a, o) h), List.forall_mem_cons.mpr ⟨h', List.forall_mem_nil _⟩⟩
      obtain ⟨f1, f2⟩ := List.forall_mem_cons.mp hoff
      obtain ⟨f2, f3⟩ := List.forall_mem_cons.mp f2
      obtain ⟨f3, f4⟩ := List.forall_mem_cons.mp f3
      refine List.forall_mem_cons.mpr ⟨base _ oh _ hH f1, List.forall_mem_cons.mpr ⟨base _ ol _ hLo f2, List.forall_mem_cons.mpr ⟨base _ (tabObj #[]) _ hTab f3, List.forall_mem_append.mpr ⟨fun p hp => ?_, fun p hp => base p.1 p.2 p.2 (hmk p hp) (f4 p hp)⟩⟩⟩⟩
      exact List.forall_mem_cons.mpr ⟨cI p hp, List.forall_mem_cons.mpr ⟨cl p hp, List.forall_mem_nil _⟩⟩
    have hco : ∀ p ∈ b.cos, p ∈ ((I, oI) :: (l, lo) :: (aH, b.oh) :: (aL, b.ol) :: (170, tabObj b.tab) :: (b.cos ++ mk)) ∧ CodeSign p.2 := fun p hp => ⟨upc hp, hcs p hp⟩
    refine wpAny_mono (turn low high tl th I oI lo T b.looked b.told b.oh b.ol vh' vl' b.tab b.cos h tk hlt hlb hTup hIt hlo hvh hvl hTC hcs (cos_ne N' (o := b.oh) (.tail _ (.tail _ (.head _))) hco (cell_sign hvh)) (cos_ne N' (o := b.ol) (.tail _ (.tail _ (.tail _ (.head _)))) hco (cell_sign hvl)) (cos_ne N' (o := tabObj b.tab) (.tail _ (.tail _ (.tail _ (.tail _ (.head _))))) hco (tab_sign hTC.1)) hlI F' N' done) (fun _ s₂ h₂ => wpAny_mono h₂ (fun f s₃ h₃ => ?_) fun _ _ e => e) fun _ _ e => e
    have fin : ∀ {s₃}, UnrEndW h₀ env.locals { s with heap := h, toks := tk } [(I, oI), (l, lo)] (TurnLeft h₀ m₀ aH aL mk) s₃ →
        UnrEndW h₀ env.locals { s with heap := h, toks := tk } [(I, oI), (l, lo)] (fun m' n' => ∃ b' : LS, (∀ y, m' y = frL m₀ b'.told b'.looked y) ∧ SubL ((aH, b'.oh) :: (aL, b'.ol) :: (170, tabObj b'.tab) :: (b'.cos ++ mk)) n' ∧
          ((∃ v, b'.oh.data = .cell v) ∧ (∃ v, b'.ol.data = .cell v) ∧ TabC h₀ b'.cos b'.tab ∧ ∀ p ∈ b'.cos, CodeSign p.2)) s₃ := by
      rintro s₃ ⟨h', tk', m', n', e, F'', N'', off, looked', told', oh', ol', vh'', vl'', tab', cos', a1, a2, a3, a4, a5, a6⟩
      exact ⟨h', tk', m', n', e, F'', N'', off, ⟨looked', told', oh', ol', tab', cos'⟩, a1, a6, ⟨_, a2⟩, ⟨_, a3⟩, a4, a5⟩
    cases f with
    | ret v => exact h₃
    | brk => exact h₃
    | next => exact fin h₃
    | cont => exact fin h₃
  · intro b h tk _ F' N'
    exact fin b.looked b.told b.oh b.ol b.tab b.cos h tk F' N'
theorem law_turns {l aH aL aW aI aP D1 D2 D D3 T1 T2 : Addr} {n : Nat} {lo1 hi1 lo2 hi2 : Int} {t1 u1 t2 u2 : Tok} {oh ol ow oi op o1 o2 oD o3 : Obj} {vh vl : Option Value} {m₀ : Str → Option Value} {news mk : List (Addr × Obj)}
    (hh : A.handled = none) (F : Fr h₀ env.locals s.heap m₀) (N : News h₀ env.locals s.heap news)
    (hl : (l, ({ cls := .type "list", data := .seq #[.ref T1, .ref T2] n } : Obj)) ∈ news) (hT1 : (T1, tupObj lo1 hi1 t1 u1) ∈ news) (hT2 : (T2, tupObj lo2 hi2 t2 u2) ∈ news) (hlt1 : lo1 < hi1) (hlt2 : lo2 < hi2) (hb1 : -100 ≤ lo1 ∧ hi1 ≤ 100) (hb2 : -100 ≤ lo2 ∧ hi2 ≤ 100)
    (hH : (aH, oh) ∈ news) (hLo : (aL, ol) ∈ news) (hTab : (170, tabObj #[]) ∈ news) (hW : (aW, ow) ∈ news) (hI : (aI, oi) ∈ news) (hP : (aP, op) ∈ news) (h1 : (D1, o1) ∈ news) (h2 : (D2, o2) ∈ news) (hD : (D, oD) ∈ news) (h3 : (D3, o3) ∈ news) (hmk : ∀ p ∈ mk, p ∈ news)
    (dH : oh.data = .cell vh) (dL : ol.data = .cell vl) (offl : ∀ p ∈ (aH, oh) :: (aL, ol) :: (170, tabObj #[]) :: (aW, ow) :: (aI, oi) :: (aP, op) :: (D1, o1) :: (D2, o2) :: (D, oD) :: (D3, o3) :: (T1, tupObj lo1 hi1 t1 u1) :: (T2, tupObj lo2 hi2 t2 u2) :: mk, p.1 ≠ l)
    (offH : ∀ p ∈ (aW, ow) :: (aI, oi) :: (aP, op) :: (D1, o1) :: (D2, o2) :: (D, oD) :: (D3, o3) :: (T1, tupObj lo1 hi1 t1 u1) :: (T2, tupObj lo2 hi2 t2 u2) :: mk, p.1 ≠ aH ∧ p.1 ≠ aL ∧ p.1 ≠ 170)
    (turn : ∀ mk1, (aW, ow) ∈ mk1 → (aI, oi) ∈ mk1 → (aP, op) ∈ mk1 → (D1, o1) ∈ mk1 → (D2, o2) ∈ mk1 → (D, oD) ∈ mk1 → (D3, o3) ∈ mk1 → (∀ p ∈ mk, p ∈ mk1) → (∀ p ∈ mk1, p.1 ≠ aH) → (∀ p ∈ mk1, p.1 ≠ aL) → (∀ p ∈ mk1, p.1 ≠ 170) →
      ∀ low high tl th I oI lo T looked told oh ol vh vl tab cos h tk, low < high → (-100 ≤ low ∧ high ≤ 100) → IsTup h T #[.int low tl, .int high th] → ItOf l oI → (∃ k, lo.data = .seq #[.ref T1, .ref T2] k) → oh.data = .cell vh → ol.data = .cell vl → TabC h₀ cos tab → (∀ p ∈ cos, CodeSign p.2) → (∀ p ∈ cos, p.1 ≠ aH) → (∀ p ∈ cos, p.1 ≠ aL) → (∀ p ∈ cos, p.1 ≠ 170) → (∀ p ∈ news, p.1 < I) →
      Fr h₀ env.locals h (fun y => if y = Str.ofString "told" then told else if y = Str.ofString "looked" then looked else m₀ y) →
      News h₀ env.locals h ((I, oI) :: (l, lo) :: (aH, oh) :: (aL, ol) :: (170, tabObj tab) :: (cos ++ mk1)) →
      (∀ h' tk' m' looked' told' oh' ol' vh' vl' tab' cos', (∀ y, m' y = frL m₀ told' looked' y) → Fr h₀ env.locals h' m' → News h₀ env.locals h' ((I, oI) :: (l, lo) :: (aH, oh') :: (aL, ol') :: (170, tabObj tab') :: (cos' ++ mk1)) →
        oh'.data = .cell vh' → ol'.data = .cell vl' → TabC h₀ cos' tab' → (∀ p ∈ cos', CodeSign p.2) →
        UnrEndW h₀ env.locals { s with heap := h, toks := tk } [(I, oI), (l, lo)] (TurnLeft h₀ m₀ aH aL mk1) { s with heap := h', toks := tk' }) →
      wpAny (model prog w) A (assign target env (.ref T)) (fun _ s₂ => wpAny (model prog w) A (execs body env)
        (UnrPostW h₀ env.locals { s with heap := h, toks := tk } [(I, oI), (l, lo)] (TurnLeft h₀ m₀ aH aL mk1) Q) E s₂) E { s with heap := h, toks := tk })
    (fin : ∀ looked told oh ol tab cos h tk, Fr h₀ env.locals h (fun y => if y = Str.ofString "told" then told else if y = Str.ofString "looked" then looked else m₀ y) →
      News h₀ env.locals h ((aH, oh) :: (aL, ol) :: (170, tabObj tab) :: (aW, ow) :: (aI, oi) :: (aP, op) :: (D1, o1) :: (D2, o2) :: (D, oD) :: (D3, o3) :: (T1, tupObj lo1 hi1 t1 u1) :: (T2, tupObj lo2 hi2 t2 u2) :: (cos ++ mk)) → Q .next { s with heap := h, toks := tk }) :
    wpAny (model prog w) A (pyIter (.ref l)) (fun it s₂ => TurnsAt prog w A h₀ env target body Q E it s₂) E s := by
  generalize hmk1 : (aW, ow) :: (aI, oi) :: (aP, op) :: (D1, o1) :: (D2, o2) :: (D, oD) :: (D3, o3) :: (T1, tupObj lo1 hi1 t1 u1) :: (T2, tupObj lo2 hi2 t2 u2) :: mk = mk1 at offl offH
  have sub : ∀ p ∈ mk1, p ∈ news := by
    subst hmk1
    exact List.forall_mem_cons.mpr ⟨hW, List.forall_mem_cons.mpr ⟨hI, List.forall_mem_cons.mpr ⟨hP, List.forall_mem_cons.mpr ⟨h1, List.forall_mem_cons.mpr ⟨h2, List.forall_mem_cons.mpr ⟨hD, List.forall_mem_cons.mpr ⟨h3, List.forall_mem_cons.mpr ⟨hT1, List.forall_mem_cons.mpr ⟨hT2, hmk⟩⟩⟩⟩⟩⟩⟩⟩⟩
  have m : ∀ p ∈ (aW, ow) :: (aI, oi) :: (aP, op) :: (D1, o1) :: (D2, o2) :: (D, oD) :: (D3, o3) :: (T1, tupObj lo1 hi1 t1 u1) :: (T2, tupObj lo2 hi2 t2 u2) :: mk, p ∈ mk1 := fun p hp => hmk1 ▸ hp
  clear hmk1
  obtain ⟨mW, m⟩ := List.forall_mem_cons.mp m
  obtain ⟨mI, m⟩ := List.forall_mem_cons.mp m
  obtain ⟨mP, m⟩ := List.forall_mem_cons.mp m
  obtain ⟨m1, m⟩ := List.forall_mem_cons.mp m
  obtain ⟨m2, m⟩ := List.forall_mem_cons.mp m
  obtain ⟨mD, m⟩ := List.forall_mem_cons.mp m
  obtain ⟨m3, m⟩ := List.forall_mem_cons.mp m
  obtain ⟨mT1, m⟩ := List.forall_mem_cons.mp m
  obtain ⟨mT2, m⟩ := List.forall_mem_cons.mp m
  have up : ∀ {q x1 x2 x3 : Addr × Obj} {cos : List (Addr × Obj)}, q ∈ mk1 → q ∈ x1 :: x2 :: x3 :: (cos ++ mk1) := fun hq => .tail _ (.tail _ (.tail _ (List.mem_append_right _ hq)))
  have back : ∀ (oh ol : Obj) tab (cos : List (Addr × Obj)), ∀ p ∈ (aH, oh) :: (aL, ol) :: (170, tabObj tab) :: (aW, ow) :: (aI, oi) :: (aP, op) :: (D1, o1) :: (D2, o2) :: (D, oD) :: (D3, o3) :: (T1, tupObj lo1 hi1 t1 u1) :: (T2, tupObj lo2 hi2 t2 u2) :: (cos ++ mk), p ∈ (aH, oh) :: (aL, ol) :: (170, tabObj tab) :: (cos ++ mk1) := fun _ _ _ _ => List.forall_mem_cons.mpr ⟨.head _, List.forall_mem_cons.mpr ⟨.tail _ (.head _), List.forall_mem_cons.mpr ⟨.tail _ (.tail _ (.head _)), List.forall_mem_cons.mpr ⟨up mW, List.forall_mem_cons.mpr ⟨up mI, List.forall_mem_cons.mpr ⟨up mP, List.forall_mem_cons.mpr ⟨up m1, List.forall_mem_cons.mpr ⟨up m2, List.forall_mem_cons.mpr ⟨up mD, List.forall_mem_cons.mpr ⟨up m3, List.forall_mem_cons.mpr ⟨up mT1, List.forall_mem_cons.mpr ⟨up mT2, List.forall_mem_append.mpr ⟨fun p hp => .tail _ (.tail _ (.tail _ (List.mem_append_left _ hp))), fun p hp => up (m p hp)⟩⟩⟩⟩⟩⟩⟩⟩⟩⟩⟩⟩⟩
  exact law_turns0 hh F N hl mT1 mT2 hlt1 hlt2 hb1 hb2 hH hLo hTab sub dH dL offl
    (turn mk1 mW mI mP m1 m2 mD m3 m (fun p hp => (offH p hp).1) (fun p hp => (offH p hp).2.1) (fun p hp => (offH p hp).2.2))
    fun looked told oh ol tab cos h tk F N => fin looked told oh ol tab cos h tk F fun p hp => N p (back oh ol tab cos p hp)
end
-- LS
section
open PySem.Spec
open LCg LCt
def VV (v : Int) : Prop := -100 ≤ v ∧ v ≤ 100
abbrev text2 (v : Int) : Str := PyData.shown (.list [.int v, .int v])
theorem vv_of (x : Int) {low high : Int} (h : low < high) (hb : -100 ≤ low ∧ high ≤ 100) : VV (max low (min x high)) := by
  obtain ⟨a, b⟩ := hb
  constructor <;> omega
theorem vv_at {kvs : List (Str × Value)} {z : Str} {x : Int} {t : Tok} (_ : valueAt kvs z = some (.int x t)) {low high : Int} (h : low < high) (hb : -100 ≤ low ∧ high ≤ 100) : VV (max low (min x high)) := vv_of x h hb
theorem drawn_in (x : Int) : -100 ≤ x.fmod 41 - 20 ∧ x.fmod 41 - 20 + 5 ≤ 100 := by
  have h1 := Int.fmod_nonneg_of_pos x (b := 41) (by omega)
  have h2 := Int.fmod_lt_of_pos x (b := 41) (by omega)
  omega
theorem int_text : ∀ k : Nat, k < 201 → (PyData.shown (.int ((k : Int) - 100))).length ≤ 4 := by decide +kernel
theorem VV.text {v : Int} (h : VV v) : (PyData.shown (.int v)).length ≤ 4 := by
  have := int_text (v + 100).toNat (by obtain ⟨a, b⟩ := h; omega)
  rwa [show (((v + 100).toNat : Nat) : Int) - 100 = v by obtain ⟨a, b⟩ := h; omega] at this
theorem text2_len {v : Int} (h : VV v) : (text2 v).length ≤ sizeLine := by
  have h1 := h.text
  show (listText [PyData.shown (.int v), PyData.shown (.int v)]).length ≤ _
  have e : listText [PyData.shown (.int v), PyData.shown (.int v)] = Str.ofString "[" ++ Str.ofString "" ++ PyData.shown (.int v) ++ Str.ofString ", " ++ PyData.shown (.int v) ++ Str.ofString "]" := rfl
  have e1 : (Str.ofString "[").length = 1 := by decide
  have e0 : (Str.ofString "").length = 0 := by decide
  have e2 : (Str.ofString "]").length = 1 := by decide
  have e3 : (Str.ofString ", ").length = 2 := by decide
  rw [e, sizeLine_eq]
  simp only [Str.length_append, e0, e1, e2, e3]
  omega
section
variable {prog : Program} {w : World} {A : Around} {E : Value → Shared → Prop} {s : Shared} {h₀ : Heap} {L : Addr} {m : Str → Option Value} {news : List (Addr × Obj)}
theorem str_vv {l : Addr} {a b v : Int} {ta tb : Tok} {n : Nat} {Q : Value → Shared → Prop} (F : Fr h₀ L s.heap m) (N : News h₀ L s.heap news) (hm : (l, ({ cls := .type "list", data := .seq #[.int a ta, .int b tb] n } : Obj)) ∈ news) (hg : A.guards = some []) (hu : A.units + 4 < cLine)
    (hv : VV v) (ha : a = v) (hb : b = v) (h : ∀ h' u tk, Fr h₀ L h' m → News h₀ L h' news → Q (.str (text2 v) u) { s with heap := h', toks := tk }) :
    wpAny (model prog w) A (call (.type "str") [.ref l]) Q E s := by
  subst ha hb
  have r : Reads s.heap (.ref l) (.list [.int b, .int b]) [l] := .list (as := []) (N _ hm).1 rfl rfl (.cons (as := []) (bs := []) (.int _ _) (.cons (as := []) (bs := []) (.int _ _) .nil))
  have hlog : decide (b.natAbs.log2 < 1920) = true := by
    rw [decide_eq_true_eq]
    have h1 := Nat.log2_le_self b.natAbs
    obtain ⟨h2, h3⟩ := hv
    omega
  refine str_of_reads r (by simp [PyData.showable, PyData.showableAll, hlog]) (fun h => by cases h) hg (by show A.units + (1 + 3) < cLine; exact hu) (fun _ _ e => e) (fun h' u tk hk => h h' u tk (F.keptAll hk) (N.grown hk)) (text2_len hv)
end
theorem sameAll_refl : ∀ ss : List Str, PySem.Spec.sameAll (ss.map PyData.str) (ss.map PyData.str) = true
  | [] => rfl
  | a :: r => by simp only [List.map_cons, PySem.Spec.sameAll, PySem.Spec.same, sameAll_refl r]; simp
theorem carried_sv : ∀ c : List (Str × Tok), CarriedAll (strValues c) ((c.map (·.1)).map PyData.str)
  | [] => .nil
  | p :: r => .cons (.str _ _) (carried_sv r)
theorem depth_strs : ∀ ss : List Str, PyData.depthAll (ss.map PyData.str) = 0
  | [] => rfl
  | _ :: r => by simp [PyData.depthAll, PyData.depth, depth_strs r]
theorem lay_strs : ∀ ss : List Str, (∀ x ∈ ss, PyData.strOk x = true) → PyData.canLayAll0 (ss.map PyData.str) = true
  | [], _ => rfl
  | a :: r, h => by
    simp only [List.map_cons, PyData.canLayAll0, PyData.canLay0, Bool.and_eq_true]
    exact ⟨h a List.mem_cons_self, lay_strs r fun x hx => h x (List.mem_cons_of_mem _ hx)⟩
section
variable {prog : Program} {w : World} {A : Around} {E : Value → Shared → Prop} {s : Shared} {h₀ : Heap} {L : Addr} {m : Str → Option Value} {news : List (Addr × Obj)} {env : Env}
theorem ne_same {a b : Addr} {c c' : List (Str × Tok)} {n n' : Nat} {Q : Value → Shared → Prop} (N : News h₀ L s.heap news) (ha : (a, svObj c n) ∈ news) (hb : (b, svObj c' n') ∈ news) (hu : A.units + 64 < cLine) (he : c.map (·.1) = c'.map (·.1)) (hok : ∀ x ∈ c.map (·.1), PyData.strOk x = true) (h : Q (.bool false) s) :
    wpAny (model prog w) A (compareOp .NotEq (.ref a) (.ref b)) Q E s := by
  have la : s.heap.IsList a (strValues c).toArray := ⟨_, (N _ ha).1, rfl, _, rfl⟩
  have lb : s.heap.IsList b (strValues c').toArray := ⟨_, (N _ hb).1, rfl, _, rfl⟩
  have sh : SeqAt.shaped (.list ((c.map (·.1)).map PyData.str)) = true := by
    unfold SeqAt.shaped
    rw [Bool.and_eq_true, decide_eq_true_eq]
    refine ⟨?_, ?_⟩
    · rw [PyData.canLay0]; exact lay_strs _ hok
    · rw [PyData.depth, depth_strs]; decide
  have cb := carried_sv c'
  rw [← he] at cb
  refine ne_dataH_same (reads_newData la (carried_sv c)) (reads_newData lb cb) sh sh hu (SeqAt.noMix_of_shape (.list .str) rfl _ _ (list_map_has fun _ => rfl) (list_map_has fun _ => rfl)) ?_
  rw [show PySem.Spec.same (.list ((c.map (·.1)).map PyData.str)) (.list ((c.map (·.1)).map PyData.str)) = true by simp only [PySem.Spec.same]; exact sameAll_refl _]
  exact h
theorem restT_filterN {ct elt : Expr} {x : Str} {scope : Scope} {cl : List (Str × Addr)} {S : List (Addr × Obj) → Prop} {P : Nat → Value → Prop} {Fin : List Value → List (Addr × Obj) → Prop} {news : List (Addr × Obj)} {n : Nat} (its : List Value) (p : Value → Bool)
    (hn : n = its.length) (hP : ∀ i v, P i v → its[i]? = some v) (hS : S news)
    (test : ∀ v I oI C oC D ys m₂ h tk (E' : Value → Shared → Prop) (Q' : Bool → Shared → Prop), v ∈ its → NsObj oC m₂ → m₂ x = some v → Fr h₀ L h m → News h₀ L h ((I, oI) :: (C, oC) :: (D, LCg.lst ys) :: news) →
      (∀ h' tk', Fr h₀ L h' m → News h₀ L h' ((I, oI) :: (C, oC) :: (D, LCg.lst ys) :: news) → Q' (p v) { s with heap := h', toks := tk' }) → wpAny (model prog w) A (isTrue ct (compEnvC scope cl C env) (eval ct (compEnvC scope cl C env))) Q' E' { s with heap := h, toks := tk })
    (take : ∀ v C oC m₂ h tk (E' : Value → Shared → Prop) (Q' : Value → Shared → Prop), v ∈ its → NsObj oC m₂ → m₂ x = some v → Fr h₀ L h m → News h₀ L h ((C, oC) :: news) →
      (∀ h' tk', h.StaysIn h' → Q' v { s with heap := h', toks := tk' }) → wpAny (model prog w) A (eval elt (compEnvC scope cl C env)) Q' E' { s with heap := h, toks := tk })
    (fin : Fin (its.filter p) news) : LCt.CompRestT prog w A h₀ L m env ct elt x scope cl s S P Fin n 0 [] news := by
  subst hn
  have key : ∀ (j i : Nat), i + j = its.length → LCt.CompRestT prog w A h₀ L m env ct elt x scope cl s S P Fin j i ((its.take i).filter p) news := by
    intro j
    induction j with
    | zero =>
      intro i hi
      have e : i = its.length := by omega
      subst e
      rw [List.take_length]
      exact LCt.CompRestT.zero fin
    | succ j ih =>
      intro i hi
      refine LCt.CompRestT.succ ?_
      intro v I oI C oC D m₂ h tk E' hv hC hx F N off ne
      have hv' := hP i v hv
      have hmem : v ∈ its := List.mem_of_getElem? hv'
      have hlt : i < its.length := by omega
      have et : its.take (i + 1) = its.take i ++ [v] := by rw [List.take_add_one, hv']; rfl
      refine test v I oI C oC D _ m₂ h tk E' _ hmem hC hx F N fun h' tk' F' N' => ?_
      cases hp : p v with
      | true =>
        rw [if_pos rfl]
        refine take v C oC m₂ h' tk' E' _ hmem hC hx F' (fun q hq => ?_) fun h'' tk'' st' => ?_
        · rcases List.mem_cons.mp hq with rfl | hq
          · exact N' _ (List.mem_cons_of_mem _ List.mem_cons_self)
          · exact N' _ (List.mem_cons_of_mem _ (List.mem_cons_of_mem _ (List.mem_cons_of_mem _ hq)))
        refine ⟨h'', tk'', news, rfl, frStays st' F', newsStays st' N', off, hS, ?_⟩
        have := ih (i + 1) (by omega)
        rw [et, List.filter_append] at this
        simpa [hp] using this
      | false =>
        rw [if_neg (by decide)]
        refine ⟨h', tk', news, rfl, F', N', off, hS, ?_⟩
        have := ih (i + 1) (by omega)
        rw [et, List.filter_append] at this
        simpa [hp] using this
  exact key its.length 0 (by omega)
theorem src2T_filterN {ct elt : Expr} {x : Str} {scope : Scope} {cl : List (Str × Addr)} {Fin : Shared → List Value → List (Addr × Obj) → Prop} {ax : Addr} {its : List Value} {k : Nat} {news : List (Addr × Obj)} {s₁ : Shared} (p : Value → Bool)
    (hh : A.handled = none) (F : Fr h₀ L s₁.heap m) (N : News h₀ L s₁.heap news) (hm : (ax, ({ cls := .type "list", data := .seq its.toArray k } : Obj)) ∈ news) (hsz : its.length ≤ sizeLine)
    (test : ∀ v I oI C oC D ys m₂ h tk (E' : Value → Shared → Prop) (Q' : Bool → Shared → Prop), v ∈ its → LCg.NsObj oC m₂ → m₂ x = some v → Fr h₀ L h m → News h₀ L h ((I, oI) :: (C, oC) :: (D, LCg.lst ys) :: news) →
      (∀ h' tk', Fr h₀ L h' m → News h₀ L h' ((I, oI) :: (C, oC) :: (D, LCg.lst ys) :: news) → Q' (p v) { s₁ with heap := h', toks := tk' }) → wpAny (model prog w) A (isTrue ct (compEnvC scope cl C env) (eval ct (compEnvC scope cl C env))) Q' E' { s₁ with heap := h, toks := tk })
    (take : ∀ v C oC m₂ h tk (E' : Value → Shared → Prop) (Q' : Value → Shared → Prop), v ∈ its → LCg.NsObj oC m₂ → m₂ x = some v → Fr h₀ L h m → News h₀ L h ((C, oC) :: news) →
      (∀ h' tk', h.StaysIn h' → Q' v { s₁ with heap := h', toks := tk' }) → wpAny (model prog w) A (eval elt (compEnvC scope cl C env)) Q' E' { s₁ with heap := h, toks := tk })
    (fin : ∀ g ys, ys = its.filter p → Fin { s₁ with heap := g } ys news) :
    Src2T prog w A h₀ L m env ct elt x scope cl Fin (.ref ax) s₁ :=
  ⟨"list", ax, its.toArray, news, .inl rfl, rfl, hh, F, N, ⟨_, .inr hm, rfl, _, rfl⟩, by simpa using hsz, fun _ ⟨g, e⟩ => e ▸ restT_filterN its p (by simp) (fun i v h => by simpa using h) ⟨_, .inr hm, rfl, _, rfl⟩ test take (fin g _ rfl)⟩
end
section
variable {prog : Program} {w : World} {A : Around} {E : Value → Shared → Prop} {s : Shared} {h₀ : Heap} {L : Addr} {m : Str → Option Value} {news : List (Addr × Obj)}
theorem eq_nilN {r l : Addr} {cc : List (Str × Tok)} {n : Nat} {Q : Value → Shared → Prop} (N : News h₀ L s.heap news) (hm : (r, svObj cc n) ∈ news) (hl : (l, W.listOf #[] 0) ∈ news) (hu : A.units < cLine) (h : Q (.bool (decide (cc = []))) s) :
    wpAny (model prog w) A (compareOp .Eq (.ref r) (.ref l)) Q E s := eq_nil hu ⟨_, (N _ hm).1, rfl, _, rfl⟩ (N _ hl).1 h
theorem news_dup {h : Heap} {p : Addr × Obj} (N : News h₀ L h news) (hm : p ∈ news) : News h₀ L h (p :: news) := fun q hq => by
  rcases List.mem_cons.mp hq with rfl | hq
  · exact N _ hm
  · exact N _ hq
end
def tst (inn : Str → List Str) (b : Bool) (z : Str) (P : List Str) (wv : Str → Int) (low high : Int) (c : Str) : Bool :=
  decide (inn c = []) && decide (((P.drop 1).foldl (openStep b z c wv) (low, high)).1 < ((P.drop 1).foldl (openStep b z c wv) (low, high)).2)
def tstV (inn : Str → List Str) (b : Bool) (z : Str) (P : List Str) (wv : Str → Int) (low high : Int) : Value → Bool
  | .str c _ => tst inn b z P wv low high c
  | _ => false
theorem tst_yes {inn : Str → List Str} {b : Bool} {z c : Str} {ps cc : List (Str × Tok)} {wv : Str → Int} {low high lo hi : Int} (h1 : cc = []) (h2 : cc.map (·.1) = inn c) (h3 : (lo, hi) = ((ps.drop 1).map (·.1)).foldl (openStep b z c wv) (low, high)) : tst inn b z (ps.map (·.1)) wv low high c = decide (lo < hi) := by
  subst h1
  unfold tst
  rw [← h2, ← List.map_drop, ← h3]
  simp
theorem tst_no {inn : Str → List Str} {b : Bool} {z c : Str} {P : List Str} {cc : List (Str × Tok)} {wv : Str → Int} {low high : Int} (h1 : ¬ cc = []) (h2 : cc.map (·.1) = inn c) : tst inn b z P wv low high c = false := by
  have : ¬ inn c = [] := fun q => h1 (List.map_eq_nil_iff.mp (h2.trans q))
  unfold tst
  simp [this]
theorem tst_list {inn : Str → List Str} {b : Bool} {z : Str} {P : List Str} {SP : List (Str × Tok)} {wv : Str → Int} {low high : Int} {ys : List Value} (h : ys = (strValues SP).filter (tstV inn b z P wv low high)) : ∃ ls, ys = strValues ls ∧ ls.map (·.1) = (SP.map (·.1)).filter (tst inn b z P wv low high) := by
  refine ⟨SP.filter fun p => tst inn b z P wv low high p.1, ?_, ?_⟩
  · rw [h, strValues, strValues, List.filter_map]; rfl
  · rw [List.filter_map]; rfl
theorem namerZ {z a b : Str} (_ : z = a ∨ z = b) : ∃ z' : Str, z' = z := ⟨z, rfl⟩
theorem Tree.starts {top : Str} {b : Bool} {P : List Str} {C : List (List Str)} (t : Tree top P C) (T : TopOk top b) (hl : ∀ x ∈ P, x.length ≤ 43) : ∀ x ∈ P, x.length ≤ 1000 ∧ Txt.startswith x slash = b := fun x hx => by
  obtain ⟨c, hc, rfl⟩ := t.of hx
  exact ⟨Nat.le_trans (hl _ hx) (by omega), start_enc T c⟩
theorem plain_ok (top : Str) (ns : List Int) (ht : ∀ c ∈ tl top, c < 128) : ∀ i : Nat, i ≤ 13 → ∀ x ∈ (treeAt top ns i).1, ∀ c ∈ tl x, c < 128
  | 0, _, x, hx, c, hc => by rw [List.mem_singleton.mp (show x ∈ [top] from hx)] at hc; exact ht c hc
  | i + 1, hi, x, hx, c, hc => by
    rcases List.mem_append.mp (show x ∈ (treeAt top ns i).1 ++ [treeStep i (ns.getD i 0) (treeAt top ns i).1] from hx) with hx | hx
    · exact plain_ok top ns ht i (by omega) x hx c hc
    · rw [List.mem_singleton.mp hx] at hc
      unfold treeStep at hc
      rw [tl_cut, List.mem_append] at hc
      rcases hc with hc | hc
      · rw [List.getD_eq_getElem?_getD] at hc
        cases hq : (treeAt top ns i).1[((ns.getD i 0).fmod ((treeAt top ns i).1.length : Int)).toNat]? with
        | none => rw [hq] at hc; exact absurd hc (by show c ∉ ([] : List Nat); simp)
        | some y => rw [hq] at hc; exact plain_ok top ns ht i (by omega) y (List.mem_of_getElem? hq) c hc
      · rcases List.mem_cons.mp hc with rfl | hc
        · omega
        · unfold nameF at hc
          rw [tl_app, List.mem_append] at hc
          rcases hc with hc | hc
          · rcases fmod2 ((ns.getD i 0).fdiv 12) with h | h
            · rw [h, item_b] at hc; simp at hc; omega
            · rw [h, item_a] at hc; simp at hc; omega
          · have e : tl (⟨#[(97 + (i : Int)).toNat]⟩ : Str) = [(97 + (i : Int)).toNat] := rfl
            rw [e] at hc
            simp at hc
            omega
theorem ok_of {top : Str} {ns : List Int} {ps : List Str} {es : List (Str × Int)} (h : TreeInv top ns ns.length ps es) (hl : ns.length ≤ 13) (ht : top = Str.ofString "top" ∨ top = Str.ofString "/top") : ∀ x ∈ ps, PyData.strOk x = true := fun x hx => by
  have h1 := plain_ok top ns (by rcases ht with rfl | rfl <;> decide +kernel) ns.length hl x (h.1 ▸ hx)
  unfold PyData.strOk
  rw [Array.all_eq_true_iff_forall_mem]
  intro c hc
  have := h1 c (by simpa using hc)
  simp; omega
end
-- LW
local macro_rules | `(tactic| walk_at "subscriptTail") => `(tactic| (k_here; (with_reducible show wpAny _ _ (subscriptTail (Expr.List _ _) _ (Value.ref _) (Value.int _ _)) _ _ _); refine item_top (by k_asm) (by k_dflt k_mem) ?_ (by (intro _; with_unfolding_all rfl)); (intro z9 t9 hz9; (try dsimp only))))
local macro_rules | `(tactic| walk_at "call ref") => `(tactic| (k_here; with_unfolding_all refine' dirname_ok ?m1 ?m2 ?m3 ?m4 ?m5 ?_; (case m1 => k_in); (case m2 => (walk_at "m_top")); (case m3 => (walk_at "m_room")); (case m4 => (walk_at "m_room")); (case m5 => omega); intro h9 tk9 t9 st9; (have F9 := frStays st9 (by assumption)); (have N9 := newsStays st9 (by assumption)); k_sweep; (try dsimp only)))
local macro_rules | `(tactic| walk_at "eval DictComp") => `(tactic| (k_here; k_dflt (refine dc_expr (F₀ := by k_asm) (by with_unfolding_all rfl) (fun _ _ => rfl) (fun _ => rfl) (by rfl) (by decide) (fun _ _ => rfl) (by decide) (by decide) ?_)))
local macro_rules | `(tactic| walk_at "m_room") => `(tactic| decide)
local macro_rules | `(tactic| walk_at "call builtin:sorted") => `(tactic| (k_here; (with_reducible show wpAny _ _ (call (Value.builtin _) [Value.ref _]) _ _ _); refine hold ?_))
local macro_rules | `(tactic| k_mem) => `(tactic| first | exact List.mem_append_right _ (by assumption) | exact List.mem_append_right _ (List.mem_append_left _ (by assumption)))
local macro_rules | `(tactic| k_all) => `(tactic| ((repeat' (refine List.forall_mem_cons.mpr ⟨?a, ?_⟩; (case a => k_ne))); first | exact List.forall_mem_append.mpr ⟨by assumption, by assumption⟩ | exact tail_ne (by assumption) (by omega) | exact List.forall_mem_append.mpr ⟨by assumption, tail_ne (by assumption) (by omega)⟩ | exact fun p hp => Nat.ne_of_lt (allLt_mem _ (by assumption) p hp)))
local macro_rules | `(tactic| walk_at "vv_eq") => `(tactic| first | exact rfl | exact med_vv (Int.le_of_lt (by assumption)) | (unfold med3; omega) | ((repeat' split) <;> omega))
local macro_rules | `(tactic| walk_at "call type:str") => `(tactic| (k_here; refine hold ?_))
local macro_rules | `(tactic| walk_at "compareOp Eq ref ref") => `(tactic| (k_here; refine eq_nilN (by k_asm) (by k_dflt k_mem) (by k_dflt k_mem) (by (simp only [units_deeper, units_caller, cLine]; omega)) ?_; (try dsimp only)))
local macro_rules | `(tactic| walk_at "compareOp NotEq ref ref") => `(tactic| (k_here; refine ne_same (by k_asm) (by k_dflt k_mem) (by k_dflt k_mem) (by (simp only [units_deeper, units_caller, cLine]; omega)) (by assumption) (by assumption) ?_; (try dsimp only)))
section
open LCg LCt
-- names that the head would give to twins of its own: taken, so it does without them
theorem lawW.tw6221858556970566335 : True := trivial
theorem lawW.tw10373203073905360576 : True := trivial
theorem lawW.tw16224150814729664503 : True := trivial
theorem lawW.tw17972720879951685506 : True := trivial
theorem lawW.tw13314488793599821211 : True := trivial
theorem lawW.tw16833419705609888630 : True := trivial
theorem lawW.tw6862007787456257620 : True := trivial
theorem lawW.tw11811417936800974330 : True := trivial
theorem lawW.tw16508075360618215508 : True := trivial
theorem lawW.tw16587379257743317070 : True := trivial
theorem lawW.tw13710949528935939513 : True := trivial
theorem lawW.tw7634096428830559175 : True := trivial
theorem lawW.tw8394979810349457766 : True := trivial
theorem lawW.tw8628550916696131631 : True := trivial
theorem lawW.tw14704269348094030899 : True := trivial
theorem lawW.tw17182954378833346766 : True := trivial
theorem lawW.tw3111562926611633390 : True := trivial
theorem lawW.tw8338884332833411807 : True := trivial
theorem lawW.tw4793054442121970153 : True := trivial
theorem lawW.tw16793478221131026532 : True := trivial
theorem lawW.tw6366734950401657480 : True := trivial
theorem lawW.tw6963700289264768447 : True := trivial
theorem lawW.tw15837421630678608721 : True := trivial
theorem lawW.tw5096372035956098309 : True := trivial
theorem lawW.tw6060687663828076311 : True := trivial
theorem lawW.tw477348653536222399 : True := trivial
theorem lawW.tw7671038250526634051 : True := trivial
theorem lawW.tw740476775355262725 : True := trivial
theorem lawW.tw183157234100791798 : True := trivial
theorem lawW.tw6124778463112586635 : True := trivial
theorem lawW.tw10323725105537416785 : True := trivial
theorem lawW.tw3250698272750158263 : True := trivial
theorem lawW.tw7596347114553300961 : True := trivial
theorem lawW.tw17241090494272135939 : True := trivial
theorem lawW.tw9495777231283269712 : True := trivial
theorem lawW.tw16378787396327174165 : True := trivial
theorem lawW.tw7528761600027065392 : True := trivial
theorem lawW.tw127939647288966833 : True := trivial
theorem lawW.tw10781865898514297495 : True := trivial
theorem lawW.tw16464374111241874274 : True := trivial
theorem lawW.tw9417477400048455300 : True := trivial
theorem lawW.tw15205840428150716999 : True := trivial
theorem lawW.tw12066443316598921580 : True := trivial
theorem lawW.tw14851150943059438184 : True := trivial
theorem lawW.tw5876037628059912785 : True := trivial
theorem lawW.tw14557141246642960026 : True := trivial
theorem lawW.tw11157671017929565996 : True := trivial
theorem lawW.tw4020554184047071881 : True := trivial
theorem lawW.tw4278675300167311499 : True := trivial
theorem lawW.tw13906929310292416498 : True := trivial
theorem lawW.tw3631070706006994155 : True := trivial
theorem lawW.tw369647526561421140 : True := trivial
theorem lawW.tw7349321273929999853 : True := trivial
theorem lawW.tw2889208277959674157 : True := trivial
theorem lawW.tw15193653759185495433 : True := trivial
theorem lawW.tw13695018222385980133 : True := trivial
theorem lawW.tw11435643154058111245 : True := trivial
theorem lawW.tw9723265886670037198 : True := trivial
theorem lawW.tw10454253927375536042 : True := trivial
theorem lawW.tw14119903953438519306 : True := trivial
theorem lawW.tw2921061358446637568 : True := trivial
theorem lawW.tw17360276217982566422 : True := trivial
theorem lawW.tw2514047275023562472 : True := trivial
theorem lawW.tw14430155699919262865 : True := trivial
theorem lawW.tw998657744529602076 : True := trivial
theorem lawW.tw17669592799310331442 : True := trivial
theorem lawW.tw3312736931318925343 : True := trivial
theorem lawW.tw832007869020081687 : True := trivial
theorem lawW.tw17466611707248247876 : True := trivial
theorem lawW.tw5616390726594237451 : True := trivial
theorem lawW.tw576876221972597778 : True := trivial
theorem lawW.tw14181548622691793080 : True := trivial
theorem lawW.tw2624867076525381048 : True := trivial
theorem lawW.tw6786974215578674009 : True := trivial
theorem lawW.tw6286917189303243436 : True := trivial
theorem lawW.tw3304376149189230282 : True := trivial
theorem lawW.tw12661007695112890515 : True := trivial
theorem lawW.tw3253780815764601401 : True := trivial
theorem lawW.tw9473846916987248066 : True := trivial
theorem lawW.tw6405862435621395458 : True := trivial
theorem lawW.tw6331379522290254346 : True := trivial
theorem lawW.tw652107488216197339 : True := trivial
theorem lawW.tw11298009293073330533 : True := trivial
theorem lawW.tw4015035104538522442 : True := trivial
theorem lawW.tw11675064915541174154 : True := trivial
theorem lawW.tw567373305902187939 : True := trivial
theorem lawW.tw16186419658435052145 : True := trivial
theorem lawW.tw12105882461104613359 : True := trivial
theorem lawW.tw15804723694818891798 : True := trivial
theorem lawW.tw11821436531757217392 : True := trivial
theorem lawW.tw14289096772483602788 : True := trivial
theorem lawW.tw9062489038135839208 : True := trivial
theorem lawW.tw12101774575482346226 : True := trivial
theorem lawW.tw15528336031503503638 : True := trivial
theorem lawW.tw16077138209046748675 : True := trivial
theorem lawW.tw15905872333966320040 : True := trivial
theorem lawW.tw7284482457119159948 : True := trivial
theorem lawW.tw7420773800037065837 : True := trivial
theorem lawW.tw17958809032672441905 : True := trivial
theorem lawW.tw4371806558132219700 : True := trivial
theorem lawW.tw9580262543295336123 : True := trivial
theorem lawW.tw15013272613352080072 : True := trivial
theorem lawW.tw12549253497346991843 : True := trivial
theorem lawW.tw475777054619250458 : True := trivial
theorem lawW.tw15461855828395777322 : True := trivial
theorem lawW.tw2191332860475569811 : True := trivial
theorem lawW.tw10453662481853029057 : True := trivial
theorem lawW.tw2141539122700775770 : True := trivial
theorem lawW.tw12517088020650302309 : True := trivial
theorem lawW.tw4021901368971015211 : True := trivial
theorem lawW.tw18214009734409962441 : True := trivial
theorem lawW.tw3964610782849312419 : True := trivial
theorem lawW.tw12391486260054144651 : True := trivial
theorem lawW.tw4602232671925850586 : True := trivial
theorem lawW.tw15897996613842858796 : True := trivial
theorem lawW.tw4453852755017026533 : True := trivial
theorem lawW.tw16628992466039632922 : True := trivial
theorem lawW.tw13127142173916620757 : True := trivial
theorem lawW.tw18239193959773060764 : True := trivial
theorem lawW.tw18033104633863876076 : True := trivial
theorem lawW.tw7132613591335464596 : True := trivial
theorem lawW.tw14851837385798537347 : True := trivial
theorem lawW.tw8924143142212480447 : True := trivial
theorem lawW.tw14482060773878212503 : True := trivial
theorem lawW.tw7126173295104485333 : True := trivial
theorem lawW.tw4512736329315811901 : True := trivial
theorem lawW.tw7641263032996210870 : True := trivial
theorem lawW.tw10661659950118757057 : True := trivial
theorem lawW.tw12408453519786696178 : True := trivial
theorem lawW.tw16952560539883110453 : True := trivial
theorem lawW.tw14601985160897513372 : True := trivial
theorem lawW.tw14217948907550238663 : True := trivial
theorem lawW.tw5762699887790731203 : True := trivial
theorem lawW.tw3607499344800826224 : True := trivial
theorem lawW.tw6953875838665903427 : True := trivial
theorem lawW.tw7759673376087863220 : True := trivial
theorem lawW.tw8585118008974559213 : True := trivial
theorem lawW.tw15965034625425141189 : True := trivial
theorem lawW.tw11118932221710657541 : True := trivial
theorem lawW.tw15214736633979783329 : True := trivial
theorem lawW.tw13677363356485088646 : True := trivial
theorem lawW.tw2707217405403757203 : True := trivial
theorem lawW.tw16278704415226898818 : True := trivial
theorem lawW.tw1808525024535452419 : True := trivial
theorem lawW.tw11616664982422993347 : True := trivial
theorem lawW.tw3196667844641632388 : True := trivial
theorem lawW.tw2461827466164595010 : True := trivial
theorem lawW.tw4292720126821976676 : True := trivial
theorem lawW.tw16945824560860380400 : True := trivial
theorem lawW.tw4536116001650436633 : True := trivial
theorem lawW.tw14241180328122762786 : True := trivial
theorem lawW.tw6769177493592235245 : True := trivial
theorem lawW.tw3731171582290003350 : True := trivial
theorem lawW.tw12667949365976672649 : True := trivial
theorem lawW.tw16009326164148989667 : True := trivial
theorem lawW.tw5166473575300302617 : True := trivial
theorem lawW.tw9766316118496583260 : True := trivial
theorem lawW.tw8039909837006258960 : True := trivial
theorem lawW.tw14721792301915468086 : True := trivial
theorem lawW.tw14369274615429388795 : True := trivial
theorem lawW.tw14338496751711940475 : True := trivial
theorem lawW.tw9858920193615731425 : True := trivial
theorem lawW.tw6943715910542046393 : True := trivial
theorem lawW.tw8714709804212883027 : True := trivial
theorem lawW.tw5337797629427688976 : True := trivial
theorem lawW.tw4569608782343713836 : True := trivial
theorem lawW.tw4614011815283618059 : True := trivial
theorem lawW.tw13664470755596145291 : True := trivial
theorem lawW.tw14168044699455273371 : True := trivial
theorem lawW.tw18308371001016163162 : True := trivial
theorem lawW.tw3333689087273508690 : True := trivial
theorem lawW.tw423436097245841200 : True := trivial
theorem lawW.tw2628129569175366790 : True := trivial
theorem lawW.tw16243415305154197968 : True := trivial
set_option Elab.async true in
set_option maxHeartbeats 16000000 in
theorem lawW : PySem.Challenge.rw_un0028_01.Holds := by
  w_on; o_law
  o_head (kmHook pk.heap_1 [2, 3, 15, 17, 18, 20, 21, 22, 29, 30, 31, 32, 35, 37, 38, 40, 41, 42, 43, 44, 46, 47, 49, 50, 51, 53, 54, 56,
    57, 58, 65, 67, 68, 70, 71, 72, 73, 74, 77, 84, 86, 87, 89, 90, 91, 93, 94, 96, 97, 98, 100, 101, 103, 104,
    105, 106, 107, 110, 112, 113, 115, 116, 117, 119, 120, 122, 123, 124, 126, 127, 129, 130, 131, 133, 134, 136,
    137, 138, 140, 141, 143, 144, 145, 147, 148, 150, 151, 152, 155, 156, 157, 159, 160, 162, 163, 164, 167, 168,
    169, 171, 172, 174, 175, 176, 178, 179, 181, 182, 183, 186, 187] (fun _ => by kernel_rfl) [170])
  case hw => w_witness2
  k_go0
  all_goals try k_fold
  walk_at "m_steps"
  refine holdIn ?_
  rename Fr _ _ _ _ => F0
  rename News _ _ _ _ => N0
  with_unfolding_all refine' tree_ok ?m1 ?m2 ?m3 ?m4 ?m5 ?m6 ?m7 ?m8 ?m9 ?_
  case m1 => k_in
  case m2 => walk_at "m_top"
  case m3 => decide
  case m4 => decide
  case m5 => exact ⟨_, (N0 _ (by k_mem)).1, rfl, _, rfl⟩
  case m6 => assumption
  case m7 => simp only [List.length_append, List.length_take, List.length_cons, List.length_nil]; omega
  case m8 => exact (good_top (by assumption)).1
  case m9 => exact (good_top (by assumption)).2
  rename _ ∨ _ => hz
  obtain ⟨z, ez⟩ := namerZ hz
  subst ez
  have hns13 : ∀ l : List Int, (List.take 7 l ++ [12, 12, 613, 709, 567, 662] : List Int).length ≤ 13 := fun l => by simp only [List.length_append, List.length_take, List.length_cons, List.length_nil]; omega
  intro TT D1 D2 ps cps o2 es h2 tk2 st hTT hD1 hD2 nT n1 n2 hdict hInv
  have F1 := frStays st F0
  have N1 := news_in F0 (news_in F0 (news_in F0 (newsStays st N0) n2 hD2) n1 hD1) nT hTT
  have eT := allNe_of (news_ne N0 nT)
  have e1 := allNe_of (news_ne N0 n1)
  have e2 := allNe_of (news_ne N0 n2)
  dsimp only [AllNe] at eT e1 e2
  replace eT := hid_of eT
  replace e1 := hid_of e1
  replace e2 := hid_of e2
  clear F0 N0
  have hps : ps.length ≤ 14 := by
    have h1 := hInv.2.2.1
    simp only [List.length_map, List.length_append, List.length_take, List.length_cons, List.length_nil] at h1
    omega
  have hpl : ∀ x ∈ ps.map (·.1), x.length ≤ 43 := fun x hx => by
    have h1 := (hInv.2.2.2.2 x hx).2
    simp only [List.length_append, List.length_take, List.length_cons, List.length_nil] at h1
    omega
  walk_at "m_steps"
  rename Fr _ _ _ _ => F0
  rename News _ _ _ _ => N0
  refine ⟨D1, _, ps, fun k c => (c.map (·.1)).Perm (((ps.drop 1).map (·.1)).filter fun x => dirnameF x == k) ∧ sortedS (c.map (·.1)) = true, rfl, rfl, F0, N0, ⟨_, .inr (by k_mem), rfl, _, rfl⟩, by omega, ?_, ?_⟩
  · intro k t I oI D oD P oP C oC mk h tk E' Q' hk hoC hoP F N q
    simp only [List.cons_append, List.nil_append] at N q
    clear F0 N0
    have hkps : (ps.drop 1).length ≤ 14 := by rw [List.length_drop]; omega
    walk_at "m_steps"
    (refine slice_from1_N (s := ⟨_, _, _, _, _⟩) (by k_asm) (by k_asm) (by k_mem) (by omega) ?_ (by with_unfolding_all rfl) (by (intro _; with_unfolding_all rfl)); (intro D9 h9 F9 N9 l9; (try k_lt l9); (try dsimp only)))
    walk_at "m_steps"
    refine Src2T.filter (fun v => match v with | .str c _ => dirnameF c == k | _ => false) rfl (by k_asm) (by k_asm) (by k_mem) (by rw [strValues, List.length_map, sizeLine_eq]; omega) ?_ ?_ ?_
    · intro v C2 oC2 m2 h3 tk3 E3 Q3 hv hC2 hx3 F3 N3 q3
      obtain ⟨c, tc, rfl, hc⟩ := svMem2 hv
      have hcl : c.length ≤ 43 := hpl c (List.map_subset _ (List.drop_subset 1 ps) hc)
      walk_at "m_steps"
      exact q3 _ _ (by assumption)
    · intro v C2 oC2 m2 h3 tk3 E3 Q3 hv hC2 hx3 F3 N3 q3
      walk_at "m_steps"
      exact q3 _ _ fun _ _ e => e
    · intro g ys hys
      obtain ⟨ls, rfl, hls⟩ : ∃ ls, ys = strValues ls ∧ ls.map (·.1) = ((ps.drop 1).map (·.1)).filter fun x => dirnameF x == k := by
        refine ⟨(ps.drop 1).filter fun p => dirnameF p.1 == k, ?_, ?_⟩
        · rw [hys, strValues, strValues, List.filter_map]; rfl
        · rw [List.filter_map]; rfl
      have hls14 : ls.length ≤ 14 := by
        have h1 := congrArg List.length hls
        rw [List.length_map] at h1
        have h2 := List.length_filter_le (fun x => dirnameF x == k) ((ps.drop 1).map (·.1))
        rw [List.length_map] at h2
        omega
      clear hys
      walk_at "m_steps"
      refine holdIn ?_
      rename Fr _ _ _ _ => F8
      rename News _ _ _ _ => N8
      refine sorted_sv (s := ⟨_, _, _, _, _⟩) F8 N8 (by k_mem) (by omega) fun r c e h9 F9 N9 l9 p9 s9 => ?_
      refine q r c e h9 _ F9 (fun p hp => N9 p ?_) (fun p hp => l9 p (List.mem_cons_of_mem _ (List.mem_cons_of_mem _ hp))) ⟨hls ▸ p9, s9⟩
      rcases List.mem_cons.mp hp with rfl | hp
      · exact List.mem_cons_self
      · exact List.mem_cons_of_mem _ (List.mem_cons_of_mem _ (List.mem_cons_of_mem _ hp))
  · intro D oD kvs mk h tk F N hdD hkl hval hlt hmk
    simp only [List.cons_append, List.nil_append] at N
    replace hmk : ∀ p ∈ mk, @LT.lt Nat _ D p.1 := hmk
    k_lt hlt
    clear F0 N0
    obtain ⟨C, t⟩ := treeInv_tree hInv (hns13 _)
    obtain ⟨b, Tk⟩ := topOk hz
    obtain ⟨inn, I, hin⟩ := inn_of hps hval
    obtain ⟨ev, hev⟩ := ends_ev hInv.1 hInv.2.1
    obtain ⟨wv, hw⟩ := t.worth Tk I ev
    have hps0 : 0 < ps.length := by
      have h1 := hInv.2.2.1
      rw [List.length_map] at h1
      omega
    walk_at "m_steps"
    refine holdIn ?_
    rename Fr _ _ _ _ => F0
    rename News _ _ _ _ => N0
    with_unfolding_all refine' worths_ok ?m1 ?m2 ?m3 ?m4 ?m5 hps hps0 ?m6 hdict ?m7 hdD inn ev wv ?m8 hev (t.order_ps Tk I) t.first hw ?_
    case m1 => k_in
    case m2 => walk_at "m_top"
    case m3 => decide
    case m4 => decide
    case m5 => exact ⟨svObj ps cps, (N0 (D1, svObj ps cps) (by k_mem)).1, rfl, _, rfl⟩
    case m6 => exact (N0 (D2, o2) (by k_mem)).1
    case m7 => exact (N0 (D, oD) (by k_mem)).1
    case m8 =>
      intro x hx
      obtain ⟨r, c, e, a1, a2, a3, a4⟩ := hin x hx
      exact ⟨r, c, a1, ⟨_, (N0 (r, svObj c e) (by simp [a2])).1, rfl, _, rfl⟩, a3, a4⟩
    intro D3 o3 es3 h3 tk3 st3 n3 hD3 hdict3 hval3
    have F1 := frStays st3 F0
    have N1 := news_in F0 (newsStays st3 N0) n3 hD3
    have e3 := allNe_of (news_ne N0 n3)
    dsimp only [AllNe] at e3
    replace e3 := hid_of e3
    clear F0 N0
    walk_at "m_steps"
    rename _ ∧ _ => l9
    have hml := l9
    repeat (replace hml := hml.2)
    rename Fr _ _ _ _ => F0
    rename News _ _ _ _ => N0
    obtain ⟨s1, es1⟩ := namer F0
    subst es1
    refine' law_turns (s := ⟨_, _, _, _, _⟩) (aH := s1.heap.objs.size + 1 + 1 + 1 + 1 + 1) (aL := s1.heap.objs.size + 1 + 1 + 1 + 1) (aW := s1.heap.objs.size + 1 + 1 + 1) (aI := s1.heap.objs.size + 1 + 1) (aP := s1.heap.objs.size + 1) (D1 := D1) (o1 := svObj ps cps) (D2 := D2) (o2 := o2) (D := D) (oD := oD) (D3 := D3) (o3 := o3) (mk := mk)
      ?hh F0 N0 ?hlst ?hT1 ?hT2 ?lt1 ?lt2 ?hb1 ?hb2 ?hH ?hLo ?hTab ?hW ?hI ?hP ?h1 ?h2 ?hD ?h3 ?hmk ?dH ?dL ?hoff ?offH ?_ ?_
    case hh => exact rfl
    case hlst => k_mem
    case hT1 => k_mem
    case hT2 => k_mem
    case lt1 => decide
    case lt2 => omega
    case hb1 => decide
    case hb2 => exact drawn_in _
    case hH => k_mem
    case hLo => k_mem
    case hTab => k_mem
    case hW => k_mem
    case hI => k_mem
    case hP => k_mem
    case h1 => k_mem
    case h2 => k_mem
    case hD => k_mem
    case h3 => k_mem
    case hmk => intro p hp; simp [hp]
    case dH => assumption
    case dL => assumption
    case hoff =>
      iterate 12 refine List.forall_mem_cons.mpr ⟨by k_ne, ?_⟩
      exact fun p hp => Nat.ne_of_lt (allLt_mem _ hml p hp)
    case offH =>
      iterate 9 refine List.forall_mem_cons.mpr ⟨⟨by k_ne, by k_ne, by k_ne⟩, ?_⟩
      exact fun p hp => ⟨tail_ne hmk (by omega) p hp, tail_ne hmk (by omega) p hp, tail_ne hmk (by omega) p hp⟩
    · intro mk1 kW kI kP k1 k2 kD k3 ksub kH kL k170 low high tl th It oI lo TP looked told oh ol vh vl tab cos h tk hlt hlb hT hIt hlo dH dL hTC hcs cH cL c170 hlI F N done
      have hlI' := hlI
      k_lt hlI
      clear F0 N0
      walk_at "m_steps"
      refine holdIn ?_
      rename Fr _ _ _ _ => F2
      rename News _ _ _ _ => N2
      rename _ ∧ _ => l2
      have hml2 := l2
      repeat (replace hml2 := hml2.2)
      with_unfolding_all refine' law_search (mk := mk) (C := C) (ps := ps) (inn := inn) (ev := ev) (wv := wv) F2 N2 ?X ?T ?Cd ?tok ?h1 ?h2 ?h3 ?h4 ?hmk ?n1 ?n2 ?n3 ?n4 ?n5 ?n6 hdD hdict hin hev hps t Tk I hw hlt ?dp ?un ?_
      case X => k_in
      case T => k_asm
      case Cd => assumption
      case tok => exact TabC.ok hTC F2 fun p hp => N2 p (by simp [hp])
      case h1 => k_mem
      case h2 => k_mem
      case h3 => k_mem
      case h4 => k_mem
      case hmk => intro p hp; simp [ksub p hp]
      case n1 => first | omega | k_ne
      case n2 => first | omega | k_ne
      case n3 => first | omega | k_ne
      case n4 => first | omega | k_ne
      case n5 => first | omega | k_ne
      case n6 => exact fun q hq => ⟨tail_ne hmk (by omega) q hq, Nat.ne_of_lt (allLt_mem _ hml2 q (List.mem_append_right _ (ksub q hq)))⟩
      case dp => decide
      case un => decide
      intro h4 tk4 t4 A4
      obtain ⟨tab4, lk4, k4, F4, N4, tok4, e4⟩ := after_news (lk := []) (n := 0) F2 N2 (by k_updF) (fun _ => by (try dsimp only); k_updF) A4
      obtain ⟨cos4, Nc4, Sc4, Tc4⟩ := tabC_of F4 tok4
      replace N4 := news_app N4 Nc4
      simp only [List.cons_append, List.append_assoc] at N4
      clear F2 N2 A4
      obtain ⟨tw, htw⟩ := hval3 _ (List.mem_of_getElem? t.first)
      have hvv := vv_at htw hlt hlb
      walk_at "m_steps"
      refine holdIn ?_
      (with_unfolding_all refine' median_ok ?em1 ?em2 ?em3 ?em4 ?em5 ?_; (case em5 => (rename News _ _ _ _ => N8; exact ⟨_, (N8 _ (by k_mem)).1, rfl, _, rfl⟩)); (case em1 => k_in); (case em2 => (walk_at "m_top")); (case em3 => (walk_at "m_room")); (case em4 => (walk_at "m_room")); intro h9 tk9 t9 st9; walk_at "m_stays")
      walk_at "m_steps"
      refine holdIn ?_
      refine' str_vv ?sam0 ?sam1 ?sam2 ?sam3 ?sam4 ?sam5 ?sam6 ?sam7 ?_; (case sam5 => assumption); (case sam0 => k_asm); (case sam1 => k_asm); (case sam2 => k_dflt k_mem); (case sam3 => exact rfl); (case sam4 => (simp only [units_deeper, units_caller, cLine]; omega)); (case sam6 => walk_at "vv_eq"); (case sam7 => walk_at "vv_eq"); (intro h9 u9 tk9 F9 N9; k_sweep; (try dsimp only))
      walk_at "m_steps"
      refine holdIn ?_
      refine' str_vv ?sbm0 ?sbm1 ?sbm2 ?sbm3 ?sbm4 ?sbm5 ?sbm6 ?sbm7 ?_; (case sbm5 => assumption); (case sbm0 => k_asm); (case sbm1 => k_asm); (case sbm2 => k_dflt k_mem); (case sbm3 => exact rfl); (case sbm4 => (simp only [units_deeper, units_caller, cLine]; omega)); (case sbm6 => walk_at "vv_eq"); (case sbm7 => walk_at "vv_eq"); (intro h9 u9 tk9 F9 N9; k_sweep; (try dsimp only))
      walk_at "m_steps"
      · exfalso
        rename (_ != _) = true => hne
        simp at hne
      refine holdIn ?_
      rename Fr _ _ _ _ => F6
      rename News _ _ _ _ => N6
      refine sorted_sv (s := ⟨_, _, _, _, _⟩) (l := D1) (c := ps) (n := cps) F6 N6 (by k_mem) (by omega) fun r SP e6 h6 F7 N7 l7 p7 s7 => ?_
      k_lt l7
      clear F6 N6
      have hlaw := t.law Tk I hw p7 s7 hlt
      have hSP : SP.length ≤ 14 := by
        have h1 := p7.length_eq
        rw [List.length_map, List.length_map] at h1
        omega
      have hst := t.starts Tk hpl
      refine src2T_filterN (tstV inn b z (ps.map (·.1)) wv low high) rfl F7 N7 (by k_mem) (by rw [strValues, List.length_map, sizeLine_eq]; omega) ?_ ?_ ?_
      · intro v It2 oI2 C2 oC2 Dq ys m2 h8 tk8 E8 Q8 hv hC2 hx2 F8 N8 q8
        obtain ⟨c, tc, rfl, hc⟩ := svMem2 hv
        have hcP : c ∈ ps.map (·.1) := p7.mem_iff.mp hc
        obtain ⟨rc, cc, ec, a1, a2, a3, a4⟩ := hin c hcP
        replace N8 := news_dup (p := (rc, svObj cc ec)) N8 (by simp [ksub _ a2])
        clear F7 N7
        walk_at "m_steps"
        · refine holdIn ?_
          rename Fr _ _ _ _ => F9
          rename News _ _ _ _ => N9
          with_unfolding_all refine' open_ok ?oX ?oT ?od ?ou ?ol hps ?ow hdict3 hst (hst c hcP).1 (hst c hcP).2 wv ?owv hps0 t.first ?_
          case oX => k_in
          case oT => walk_at "m_top"
          case od => decide
          case ou => decide
          case ol => exact ⟨svObj ps cps, (N9 (D1, svObj ps cps) (by k_mem)).1, rfl, _, rfl⟩
          case ow => exact (N9 (D3, o3) (by k_mem)).1
          case owv => exact fun x hx => hval3 x (List.map_subset _ (List.drop_subset 1 ps) hx)
          intro h9 tk9 lo9 hi9 st9 hfold
          have F10 := frStays st9 F9
          have N10 := newsStays st9 N9
          clear F9 N9
          have htst := tst_yes (by assumption) a4 hfold
          walk_at "m_steps"
          all_goals first
            | exact Eq.subst (motive := fun z => Q8 z _) (htst.trans (decide_eq_true (by first | assumption | omega))) (q8 _ _ F10 fun p hp => N10 p (List.mem_cons_of_mem _ (List.mem_cons_of_mem _ hp)))
            | exact Eq.subst (motive := fun z => Q8 z _) (htst.trans (decide_eq_false (by first | assumption | omega))) (q8 _ _ F10 fun p hp => N10 p (List.mem_cons_of_mem _ (List.mem_cons_of_mem _ hp)))
        · rename Fr _ _ _ _ => F9
          rename News _ _ _ _ => N9
          exact Eq.subst (motive := fun z => Q8 z _) (tst_no (by assumption) a4) (q8 _ _ F9 fun p hp => N9 p (List.mem_cons_of_mem _ (List.mem_cons_of_mem _ hp)))
      · intro v C2 oC2 m2 h8 tk8 E8 Q8 hv hC2 hx2 F8 N8 q8
        clear F7 N7
        walk_at "m_steps"
        exact q8 _ _ fun _ _ e => e
      · intro g ys hys
        obtain ⟨ls, rfl, hls⟩ := tst_list hys
        have hle : lk4.map (·.1) = ls.map (·.1) := by
          rw [e4, hls, hlaw]
          rfl
        have hok : ∀ x ∈ lk4.map (·.1), PyData.strOk x = true := fun x hx => by
          rw [hle, hls] at hx
          exact ok_of hInv (hns13 _) hz x (p7.mem_iff.mp (List.mem_filter.mp hx).1)
        clear hys
        walk_at "m_steps"
        rename Fr _ _ _ _ => F9
        rename News _ _ _ _ => N9
        rename _ = Data.cell (some (Value.int low _)) => dA
        rename _ = Data.cell (some (Value.int high _)) => dB
        refine done _ _ _ _ _ _ _ _ _ tab4 cos4 frL_turn F9 (by
          iterate 5 (refine newsCons (N9 (_, _) ?_) ?_; (k_mem))
          intro p hp
          refine N9 p ?_
          rcases List.mem_append.mp hp with hp | hp <;> simp [hp]) dB dA Tc4 Sc4
    · intro looked told oh ol tab cos h tk F N
      clear F0 N0
      walk_at "m_steps"
      all_goals (try dsimp only)
      all_goals (k_end; wrow_close)
end
end Mine
theorem PySem.Challenge.cw_un0028_01_holds : PySem.Challenge.rw_un0028_01.Holds :=
  Mine.lawW
