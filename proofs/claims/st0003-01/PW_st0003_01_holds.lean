import PyProof.Rows.All
import Wide.All
import OpenK.AllK
import Wide.FinOn
import PyProof.GenQ
import KE.RegLcTurns
import KE.KCat
import KE.KMulAny
import OpenK.KEqL
import PyProof.StrLawsNeg
import KE.GnOn
import KE.KCompIf
import KE.KCompFold
import KE.KAnyBase
import KE.KSlice
import KE.KTurnsGround
import PySem.Challenge.RW_st0003_01
open PySem PySem.W PyProof.Rows
set_option Elab.async false
set_option maxRecDepth 100000
set_option maxHeartbeats 8000000
namespace Mine
open_top hd for PySem.Challenge.rw_st0003_01
end Mine

section
open PySem PySem.W PyProof.Rows PySem.Calls
set_option Elab.async false
set_option maxRecDepth 100000
set_option maxHeartbeats 8000000
namespace Mine

/-- ready to call a def of the text's, at heap h -/
structure Cx (w : World) (mean : ExcName → Option Value) (mg mb : Str → Option Value) (n : Nat) (A : Around) (h : Heap) : Prop where
  ex : ∃ (env : Env) (outer : List Env) (A₀ : Around) (base h₀ : Heap) (L : Addr) (m : Str → Option Value),
    Below A₀ base outer h₀ ∧ Fr h₀ L h m ∧ Frag.In (hd.heap_39 w.params) h₀ ∧ Top hd.view_39 (looseW hd.view_39 []) mean mg mb h₀ ∧
    A.frames = some (env :: outer) ∧ env.frame = some L ∧ env.scope.kind = .function
  hh : A.handled = none
  hd : A.depth ≤ 900 - 10 * n
  hu : A.units ≤ 5000 - 200 * n

theorem Cx.keeps {w : World} {mean : ExcName → Option Value} {mg mb : Str → Option Value} {n : Nat} {A : Around} {h h' : Heap}
    (C : Cx w mean mg mb n A h) (k : h.StaysIn h') : Cx w mean mg mb n A h' := by
  obtain ⟨env, outer, A₀, base, h₀, L, m, B, F, r⟩ := C.ex
  exact ⟨⟨env, outer, A₀, base, h₀, L, m, B, ⟨F.ns.keeps k, fun b o e => k b o (F.keep b o e), F.above⟩, r⟩, C.hh, C.hd, C.hu⟩

theorem Cx.less {w : World} {mean : ExcName → Option Value} {mg mb : Str → Option Value} {n k : Nat} {A : Around} {h : Heap}
    (C : Cx w mean mg mb n A h) (e : k ≤ n) : Cx w mean mg mb k A h :=
  ⟨C.ex, C.hh, by have := C.hd; omega, by have := C.hu; omega⟩

theorem wpAny_raise {α : Type} {M : Model} {hnd : Option Value} {dp dp' un un' : Nat} {fr : Option (List Env)} {gd : Option (List Code)} {t : Sem α} {Q : α → Shared → Prop} {E : Value → Shared → Prop} {s : Shared}
    (hd : dp ≤ dp') (hu : un ≤ un') (h : wpAny M { handled := hnd, depth := dp', frames := fr, guards := gd, units := un' } t Q E s) :
    wpAny M { handled := hnd, depth := dp, frames := fr, guards := gd, units := un } t Q E s := fun Γ p hΓ =>
  h Γ p ⟨hΓ.1, Nat.le_trans hΓ.2.1 hd, hΓ.2.2.1, hΓ.2.2.2.1, Nat.le_trans hΓ.2.2.2.2 hu⟩

/-- a body's end -/
def BEnd (g : Heap) (Q : Value → Shared → Prop) (fl : Flow) (s' : Shared) : Prop :=
  (∃ L' m', Fr g L' s'.heap m') ∧ Q (match fl with | .ret v => v | _ => .none) s'

section
variable {w : World} {mean : ExcName → Option Value} {mg mb : Str → Option Value} {n : Nat} {A : Around} {s : Shared} {Q E : Value → Shared → Prop}
    {name qual : Str} {params : Arguments} {body : List Stmt} {scope : Scope} {dV kV doc pm cdv ct oc : Value} {an od : Option Addr} {osl : Array (Option Value)} {f : Addr}
    {pos : List Value} {binds : List (Str × Value)}
theorem enterP 
    (C : Cx w mean mg mb (n + 1) A s.heap)
    (ho : List.lookup f (hd.heap_39 w.params) = some ⟨oc, od, .func (fnOf name qual params body scope dV kV doc pm an cdv ct), osl⟩)
    (hcd : codeIn (hd.heap_39 w.params) cdv qual = true)
    (hbind : BindsTo s (fnOf name qual params body scope dV kV doc pm an cdv ct) ⟨pos, []⟩ binds)
    (hloc : ∀ y ∈ binds, scope.names.lookup y.1 = some .local)
    (h : ∀ (gd : Option (List Code)) (env : Env) (outer : List Env) (base g : Heap) (L' : Addr) (h₁ : Heap),
      Fr g L' h₁ (fun y => binds.reverse.lookup y) → News g L' h₁ [] →
      Below { handled := none, depth := 900 - 10 * (n + 1), frames := some (env :: outer), guards := gd, units := 5000 - 200 * (n + 1) } base (env :: outer) g →
      Frag.In (hd.heap_39 w.params) g → Top hd.view_39 (looseW hd.view_39 []) mean mg mb g → s.heap.StaysIn g →
      wpAny (model PySem.Challenge.rw_st0003_01.row.prog w) (Around.deeper { handled := none, depth := 900 - 10 * (n + 1), frames := some (env :: outer), guards := gd, units := 5000 - 200 * (n + 1) } (envOf qual scope L' f cdv)) (execs body (envOf qual scope L' f cdv))
        (BEnd g Q) (fun _ _ => False)
        { s with heap := h₁, toks := s.toks + binds.length })
    (hco : scope.isCoroutine = false := by rfl) (hgen : scope.isGenerator = false := by rfl) (hk : scope.kind = .function := by rfl)
    (hcell : ∀ x ∈ scope.names, x.2 ≠ .cell := by decide) :
    wpAny (model PySem.Challenge.rw_st0003_01.row.prog w) A (call (.ref f) pos) Q E s := by
  obtain ⟨⟨env, outer, A₀, base, h₀, L, m, B, F, X, T, hA, hf, hke⟩, hh, hd', hu⟩ := C
  obtain ⟨hnd, dp, fr, gd, un⟩ := A
  dsimp only at hh hA hd' hu
  subst hh hA
  refine wpAny_raise hd' hu (wpAny_call ?_)
  refine code_defG B F X News.nil T rfl hf hke ho hcd (by show 900 - 10 * (n + 1) < recursionLimit; exact Nat.lt_of_le_of_lt (Nat.sub_le _ _) (by decide)) hbind hloc ?_ hco hgen hk hcell
  intro g L' h₁ FG F' N' B' X' T' GS
  refine wpAny_mono (h gd env outer base g L' h₁ F' N' ⟨rfl, B'.stays, B'.frames⟩ X' T' (fun b o e => GS b o e (by intro q; cases q))) ?_ ?_
  · rintro fl s' ⟨⟨L'', m'', F''⟩, q⟩
    exact leaveK_ F'' News.nil (fun _ _ => q)
  · intro e s' q; exact q.elim

/-- a def with cells -/
theorem enterC
    (C : Cx w mean mg mb (n + 1) A s.heap)
    (ho : List.lookup f (hd.heap_39 w.params) = some ⟨oc, od, .func (fnOf name qual params body scope dV kV doc pm an cdv ct), osl⟩)
    (hcd : codeIn (hd.heap_39 w.params) cdv qual = true)
    (hbind : BindsTo s (fnOf name qual params body scope dV kV doc pm an cdv ct) ⟨pos, []⟩ binds)
    (hkind : (binds.all fun y => scope.names.lookup y.1 == some .local || scope.names.lookup y.1 == some .cell) = true)
    (hnd : ((cellsFrom 0 scope.names []).map (·.1)).Nodup)
    (h : ∀ (gd : Option (List Code)) (env : Env) (outer : List Env) (base g : Heap) (L' : Addr) (h₁ : Heap) (tk : Nat) (cells : List (Addr × Obj)),
      Fr g L' h₁ (bindL (envOfC qual scope L' f cdv).kindOf binds fun _ => none) → News g L' h₁ cells →
      CellsAre (bindC (envOfC qual scope L' f cdv).kindOf binds fun _ => none) (cellsFrom (L' + 1) scope.names []) cells →
      Below { handled := none, depth := 900 - 10 * (n + 1), frames := some (env :: outer), guards := gd, units := 5000 - 200 * (n + 1) } base (env :: outer) g →
      Frag.In (hd.heap_39 w.params) g → Top hd.view_39 (looseW hd.view_39 []) mean mg mb g → s.heap.StaysIn g →
      wpAny (model PySem.Challenge.rw_st0003_01.row.prog w) (Around.deeper { handled := none, depth := 900 - 10 * (n + 1), frames := some (env :: outer), guards := gd, units := 5000 - 200 * (n + 1) } (envOfC qual scope L' f cdv)) (execs body (envOfC qual scope L' f cdv))
        (BEnd g Q) (fun _ _ => False)
        { s with heap := h₁, toks := tk })
    (hco : scope.isCoroutine = false := by rfl) (hgen : scope.isGenerator = false := by rfl) (hk : scope.kind = .function := by rfl) :
    wpAny (model PySem.Challenge.rw_st0003_01.row.prog w) A (call (.ref f) pos) Q E s := by
  obtain ⟨⟨env, outer, A₀, base, h₀, L, m, B, F, X, T, hA, hf, hke⟩, hh, hd', hu⟩ := C
  obtain ⟨hnd', dp, fr, gd, un⟩ := A
  dsimp only at hh hA hd' hu
  subst hh hA
  refine wpAny_raise hd' hu (wpAny_call ?_)
  obtain ⟨FG, BG, st, lv⟩ := groundX (A := { handled := none, depth := 900 - 10 * (n + 1), frames := some (env :: outer), guards := gd, units := 5000 - 200 * (n + 1) })
    (R := fun r s' => match r with | .ok (.ret v) => Q v s' | .ok _ => False | .error e => E e s') B F (News.nil (L := L)) rfl hf hke
  refine codeAny_call_function (by show 900 - 10 * (n + 1) < recursionLimit; exact Nat.lt_of_le_of_lt (Nat.sub_le _ _) (by decide)) ((X.keeps F.keep) _ _ ho) rfl hco hgen rfl (codeRec_of (X.keeps F.keep) hcd) (hbind _ _ _ _ ?_)
  refine wpAny_newFunctionEnv_cells hk (kindsX hkind _) fun env' he s' x => ?_
  subst he
  refine ⟨(T.nolimit.keeps F.keep).keeps x.toInCall.keep, codeAny_func ?_⟩
  obtain ⟨h₁, tk, rfl, _⟩ := x.done
  have hk₁ := x.toInCall.keep
  obtain ⟨cells, NC, Y⟩ := Cl.news (h₀ := s.heap) (Nat.le_refl _) fun n c hm => ⟨x.cell n c (lookup_of_mem_nodup (cellsFrom_names scope.names 0 (s.heap.objs.size + 1) [] [] rfl ▸ hnd) hm), x.above n c hm⟩
  have hG : s.heap.StaysIn (hideAll s.heap (List.map (·.1) ([] : List (Addr × Obj)))) := fun b o e => hideAll_get _ e (by intro q; cases q)
  refine wpAny_mono (h gd env outer base _ s.heap.objs.size h₁ tk cells ⟨x.toInCall.ns, fun b o e => hk₁ b o (of_hideAll _ e), Nat.le_of_eq (hideAll_size _ _)⟩ (fun p hp => ?_) Y ⟨rfl, BG.stays, BG.frames⟩ (X.keeps st) (T.keeps st) hG) ?_ ?_
  · refine ⟨(NC p hp).1, (NC p hp).2.1, ?_⟩
    cases q : (hideAll s.heap (List.map (·.1) ([] : List (Addr × Obj)))).get? p.1 with
    | none => rfl
    | some o => have := of_hideAll _ q; rw [(NC p hp).2.2] at this; cases this
  · rintro fl s' ⟨⟨L'', m'', F''⟩, q⟩
    exact lv _ _ (leaveK_ F'' News.nil (fun _ _ => q))
  · intro e s' q; exact q.elim
end
end Mine
end

section
open PySem PySem.W PyProof.Rows PySem.Calls
set_option Elab.async false
set_option maxRecDepth 100000
set_option maxHeartbeats 8000000
namespace Mine
section
variable {g : Heap} {Q : Value → Shared → Prop} {s : Shared} {L' : Addr} {h' : Heap} {tk' : Nat} {m' : Str → Option Value} {t : Tok}
theorem end_int {x y : Int} (hret : ∀ (t : Tok) (h' : Heap) (tk' : Nat), s.heap.StaysIn h' → Q (.int x t) { s with heap := h', toks := tk' }) (hG : s.heap.StaysIn g) (F : Fr g L' h' m') (e : y = x) :
    BEnd g Q (.ret (.int y t)) { s with heap := h', toks := tk' } := by
  subst e
  exact ⟨⟨L', m', F⟩, hret t h' tk' fun b o q => F.keep b o (hG b o q)⟩
theorem end_str {x y : Str} (hret : ∀ (t : Tok) (h' : Heap) (tk' : Nat), s.heap.StaysIn h' → Q (.str x t) { s with heap := h', toks := tk' }) (hG : s.heap.StaysIn g) (F : Fr g L' h' m') (e : y = x) :
    BEnd g Q (.ret (.str y t)) { s with heap := h', toks := tk' } := by
  subst e
  exact ⟨⟨L', m', F⟩, hret t h' tk' fun b o q => F.keep b o (hG b o q)⟩
theorem end_bool {x y : Bool} (hret : ∀ (h' : Heap) (tk' : Nat), s.heap.StaysIn h' → Q (.bool x) { s with heap := h', toks := tk' }) (hG : s.heap.StaysIn g) (F : Fr g L' h' m') (e : y = x) :
    BEnd g Q (.ret (.bool y)) { s with heap := h', toks := tk' } := by
  subst e
  exact ⟨⟨L', m', F⟩, hret h' tk' fun b o q => F.keep b o (hG b o q)⟩
/-- a made object comes back -/
theorem end_ref {P : Heap → Addr → Prop} {a : Addr} (hret : ∀ (a : Addr) (h' : Heap) (tk' : Nat), s.heap.StaysIn h' → s.heap.get? a = none → P h' a → Q (.ref a) { s with heap := h', toks := tk' })
    (hG : s.heap.StaysIn g) (F : Fr g L' h' m') (hn : g.get? a = none) (hp : P h' a) :
    BEnd g Q (.ret (.ref a)) { s with heap := h', toks := tk' } := by
  refine ⟨⟨L', m', F⟩, hret a h' tk' (fun b o q => F.keep b o (hG b o q)) ?_ hp⟩
  cases q : s.heap.get? a with
  | none => rfl
  | some o => rw [hG a o q] at hn; cases hn
/-- a made list of ints comes back -/
theorem end_ints {P : List Int → Prop} {a : Addr} {vs : List Value} {ks : List Int} {n : Nat} {news : List (Addr × Obj)}
    (hret : ∀ (a : Addr) (h' : Heap) (tk' : Nat) (vs : List Value) (ks : List Int) (n : Nat), s.heap.StaysIn h' → s.heap.get? a = none → h'.get? a = some (PySem.W.listOf vs.toArray n) → IntsAre vs ks → P ks → Q (.ref a) { s with heap := h', toks := tk' })
    (hG : s.heap.StaysIn g) (F : Fr g L' h' m') (N : News g L' h' news) (hm : (a, PySem.W.listOf vs.toArray n) ∈ news) (hi : IntsAre vs ks) (hp : P ks) :
    BEnd g Q (.ret (.ref a)) { s with heap := h', toks := tk' } := by
  refine ⟨⟨L', m', F⟩, hret a h' tk' vs ks n (fun b o q => F.keep b o (hG b o q)) ?_ (N _ hm).1 hi hp⟩
  cases q : s.heap.get? a with
  | none => rfl
  | some o => have := (N _ hm).2.2; rw [hG a o q] at this; cases this
end
section
theorem fr_stays {g h h' : Heap} {L : Addr} {m : Str → Option Value} (F : Fr g L h m) (k : h.StaysIn h') : Fr g L h' m :=
  ⟨F.ns.keeps k, fun b o e => k b o (F.keep b o e), F.above⟩
theorem news_stays {g h h' : Heap} {L : Addr} {news : List (Addr × Obj)} (N : News g L h news) (k : h.StaysIn h') : News g L h' news :=
  fun p hp => ⟨k _ _ (N p hp).1, (N p hp).2⟩
theorem cx_of {w : World} {mean : ExcName → Option Value} {mg mb : Str → Option Value} {n : Nat} {A A₀ : Around} {env : Env} {outer : List Env} {base h₀ h : Heap} {L : Addr} {m : Str → Option Value}
    (B : Below A₀ base outer h₀) (F : Fr h₀ L h m) (X : Frag.In (hd.heap_39 w.params) h₀) (T : Top hd.view_39 (looseW hd.view_39 []) mean mg mb h₀)
    (hA : A.frames = some (env :: outer)) (hf : env.frame = some L) (hk : env.scope.kind = .function) (hh : A.handled = none) (hd : A.depth ≤ 900 - 10 * n) (hu : A.units ≤ 5000 - 200 * n) :
    Cx w mean mg mb n A h := ⟨⟨env, outer, A₀, base, h₀, L, m, B, F, X, T, hA, hf, hk⟩, hh, hd, hu⟩
end
end Mine
end

section
open PySem PySem.W PyProof.Rows PySem.Calls
set_option Elab.async false
set_option maxRecDepth 100000
set_option maxHeartbeats 8000000
set_option pp.proofs false
namespace Mine
theorem fill1 (w : World) : (hd.heap_39 w.params = hd.heap_39 w.params) ∧ (PySem.Challenge.rw_st0003_01 = PySem.Challenge.rw_st0003_01) := by k_fill; exact ⟨rfl, rfl⟩
local macro_rules | `(tactic| walk_at "my enter") => `(tactic| k_dflt (refine' enterP (by assumption) ?k6 ?k7 ?k9 ?kB ?_ ?c2 ?c3 ?c4 ?c5; (case k6 => k_is); (case k7 => k_is); (case k9 => exact BindsTo.of_eq rfl); (case c5 => decide); (case kB => exact locs rfl); (case c2 => exact rfl); (case c3 => exact rfl); (case c4 => exact rfl); intro gd env outer base g' L' h' F' N' B' X' T' hG'; (try dsimp only); (try k_fold)))
local macro_rules | `(tactic| walk_at "my enterC") => `(tactic| k_dflt (refine' enterC (by assumption) ?k6 ?k7 ?k9 ?kB ?kD ?_ ?c2 ?c3 ?c4; (case k6 => k_is); (case k7 => k_is); (case k9 => exact BindsTo.of_eq rfl); (case kB => exact rfl); (case kD => decide +kernel); (case c2 => exact rfl); (case c3 => exact rfl); (case c4 => exact rfl); intro gd env outer base g' L' h' tk' cells' F' N' Y' B' X' T' hG'; k_cells Y'; (try simp only [List.cons_append, List.nil_append] at N'); (try dsimp only); (try k_fold)))
local macro_rules | `(tactic| walk_at "my steps") => `(tactic| repeat' (first | (k_unfold; (try dsimp only)) | (dsimp only; k_unfold; (try dsimp only)) | walk1 | (dsimp only; walk1) | (leave1; walk_say "STEP leave1"; try dsimp only) | fail "no step"))
local macro_rules | `(tactic| walk_at "InvEndN") => `(tactic| k_dflt kst_close)

def isSingle (x : Int) : Bool := if x = 0 then false else (Builtin.bitAnd x (x - 1) == 0)
def highBit (x : Int) : Int := (Builtin.Int.intBits x : Int) - 1
def cmpS (a b : Str) : Int := b2i (decide (b.cps.toList < a.cps.toList)) - b2i (decide (a.cps.toList < b.cps.toList))
def worthS (a : Str) : Int := (signs a).foldl (fun T c => 2 * T + Txt.find (Str.ofString "01") c) 0

section
variable {w : World} {mean : ExcName → Option Value} {mg mb : Str → Option Value} {A : Around} {s : Shared} {Q E : Value → Shared → Prop}
theorem c_single (x : Int) (t : Tok) (C : Cx w mean mg mb 1 A s.heap)
    (hret : ∀ h' tk', s.heap.StaysIn h' → Q (.bool (isSingle x)) { s with heap := h', toks := tk' }) :
    wpAny (model PySem.Challenge.rw_st0003_01.row.prog w) A (call (.ref 21) [.int x t]) Q E s := by
  w_top off
  walk_at "my enter"
  rename Heap.StaysIn _ _ => hG
  walk_at "my steps"
  all_goals (try dsimp only)
  · refine end_bool hret hG (by k_asm) ?_
    simp only [isSingle]; simp_all
  · refine end_bool hret hG (by k_asm) ?_
    simp only [isSingle]; simp_all
theorem c_high (x : Int) (t : Tok) (C : Cx w mean mg mb 1 A s.heap)
    (hret : ∀ t h' tk', s.heap.StaysIn h' → Q (.int (highBit x) t) { s with heap := h', toks := tk' }) :
    wpAny (model PySem.Challenge.rw_st0003_01.row.prog w) A (call (.ref 28) [.int x t]) Q E s := by
  w_top off
  walk_at "my enter"
  rename Heap.StaysIn _ _ => hG
  walk_at "my steps"
  all_goals (try dsimp only)
  exact end_int hret hG (by k_asm) rfl
theorem c_strcoll (a b : Str) (t u : Tok) (C : Cx w mean mg mb 1 A s.heap)
    (hret : ∀ t h' tk', s.heap.StaysIn h' → Q (.int (cmpS a b) t) { s with heap := h', toks := tk' }) :
    wpAny (model PySem.Challenge.rw_st0003_01.row.prog w) A (call (.ref 35) [.str a t, .str b u]) Q E s := by
  w_top off
  walk_at "my enter"
  rename Heap.StaysIn _ _ => hG
  walk_at "my steps"
  all_goals (try dsimp only)
  exact end_int hret hG (by k_asm) rfl
theorem find_zero_or_one (n : Nat) (h : n = 48 ∨ n = 49) : Txt.find (Str.ofString "01") ⟨#[n]⟩ = (n : Int) - 48 := by
  rcases h with rfl | rfl <;> decide +kernel
theorem c_worth (a : Str) (t : Tok) (C : Cx w mean mg mb 1 A s.heap) (ha : ∀ c ∈ a.cps.toList, c = 48 ∨ c = 49)
    (hret : ∀ t h' tk', s.heap.StaysIn h' → Q (.int (worthS a) t) { s with heap := h', toks := tk' }) :
    wpAny (model PySem.Challenge.rw_st0003_01.row.prog w) A (call (.ref 73) [.str a t]) Q E s := by
  w_top off
  walk_at "my enter"
  rename Heap.StaysIn _ _ => hG
  walk_at "my steps"
  all_goals (try dsimp only)
  · exfalso
    rename (_ ∈ signs a) => hm
    rename (Txt.find _ _ = -1) => hf
    obtain ⟨n, hn, rfl⟩ := List.mem_map.mp hm
    rw [find_zero_or_one n (ha n hn)] at hf
    rcases ha n hn with rfl | rfl <;> omega
  · exact end_int hret hG (by k_asm) rfl
end
end Mine
end

section
open PySem PySem.W PyProof.Rows PySem.Calls
set_option Elab.async false
set_option maxRecDepth 100000
set_option maxHeartbeats 600000
set_option pp.proofs false
namespace Mine
theorem fill2 (w : World) : (hd.heap_39 w.params = hd.heap_39 w.params) ∧ (PySem.Challenge.rw_st0003_01 = PySem.Challenge.rw_st0003_01) := by k_fill; exact ⟨rfl, rfl⟩
local macro_rules | `(tactic| walk_at "my pad") => `(tactic| skip)
local macro_rules | `(tactic| walk_at "my enter") => `(tactic| k_dflt (refine' enterP (by assumption) ?k6 ?k7 ?k9 ?kB ?_ ?c2 ?c3 ?c4 ?c5; (case k6 => k_is); (case k7 => k_is); (case k9 => exact BindsTo.of_eq rfl); (case c5 => decide); (case kB => exact locs rfl); (case c2 => exact rfl); (case c3 => exact rfl); (case c4 => exact rfl); intro gd env outer base g' L' h' F' N' B' X' T' hG'; (try dsimp only); (try k_fold)))
local macro_rules | `(tactic| walk_at "my enterC") => `(tactic| k_dflt (refine' enterC (by assumption) ?k6 ?k7 ?k9 ?kB ?kD ?_ ?c2 ?c3 ?c4; (case k6 => k_is); (case k7 => k_is); (case k9 => exact BindsTo.of_eq rfl); (case kB => exact rfl); (case kD => decide +kernel); (case c2 => exact rfl); (case c3 => exact rfl); (case c4 => exact rfl); intro gd env outer base g' L' h' tk' cells' F' N' Y' B' X' T' hG'; k_cells Y'; (try simp only [List.cons_append, List.nil_append] at N'); (try dsimp only); (try k_fold)))
local macro_rules | `(tactic| walk_at "my steps") => `(tactic| repeat' (first | (k_unfold; (try dsimp only)) | (dsimp only; k_unfold; (try dsimp only)) | walk1 | (dsimp only; walk1) | (leave1; walk_say "STEP leave1"; try dsimp only) | fail "no step"))
local macro_rules | `(tactic| walk_at "InvEndN") => `(tactic| k_dflt kst_close)

def dedupStep (ks : List Int) (x : Int) : List Int := if ks = [] ∨ ks.getD (-1 + (ks.length : Int)).toNat 0 ≠ x then ks ++ [x] else ks
def KeysOf (ns ks : List Int) : Prop := ∃ m : List Int, m.Perm ns ∧ m.Pairwise (· ≤ ·) ∧ ks = m.foldl dedupStep []
theorem pos_of_decNe {l : List Int} (h : decide (l = []) = false) : 0 < l.length := by
  cases l with
  | nil => simp at h
  | cons => simp
theorem neg_one_ok {l : List Int} (h : decide (l = []) = false) : -(l.length : Int) ≤ -1 := by have := pos_of_decNe h; omega
theorem dedup_new {pre ks : List Int} {n : Int} (h : ks = pre.foldl dedupStep []) (h2 : ks.length ≤ pre.length) (hn : ks = [] ∨ ks.getD (-1 + (ks.length : Int)).toNat 0 ≠ n) :
    ks ++ [n] = (pre ++ [n]).foldl dedupStep [] ∧ (ks ++ [n]).length ≤ (pre ++ [n]).length := by
  rw [List.foldl_append, ← h]
  refine ⟨by simp only [List.foldl_cons, List.foldl_nil, dedupStep]; rw [if_pos hn], ?_⟩
  simp only [List.length_append, List.length_singleton]; omega
theorem dedup_old {pre ks : List Int} {n : Int} (h : ks = pre.foldl dedupStep []) (h2 : ks.length ≤ pre.length) (h0 : decide (ks = []) = false) (hn : ks.getD (-1 + (ks.length : Int)).toNat 0 = n) :
    ks = (pre ++ [n]).foldl dedupStep [] ∧ ks.length ≤ (pre ++ [n]).length := by
  rw [List.foldl_append, ← h]
  refine ⟨by simp only [List.foldl_cons, List.foldl_nil, dedupStep]; rw [if_neg (fun q => q.elim (fun q => of_decide_eq_false h0 q) (fun q => q hn))], ?_⟩
  simp only [List.length_append, List.length_singleton]; omega

section
variable {w : World} {mean : ExcName → Option Value} {mg mb : Str → Option Value} {A : Around} {s : Shared} {Q E : Value → Shared → Prop}
theorem c_keys 
    (l : Addr) (vs : List Value) (ns : List Int) (C : Cx w mean mg mb 1 A s.heap) (hl : s.heap.IsList l vs.toArray) (hi : IntsAre vs ns) (hlen : ns.length ≤ 8)
    (hret : ∀ (a : Addr) (h' : Heap) (tk' : Nat) (vs : List Value) (ks : List Int) (n : Nat), s.heap.StaysIn h' → s.heap.get? a = none → h'.get? a = some (PySem.W.listOf vs.toArray n) → IntsAre vs ks → KeysOf ns ks → Q (.ref a) { s with heap := h', toks := tk' }) :
    wpAny (model PySem.Challenge.rw_st0003_01.row.prog w) A (call (.ref 49) [.ref l]) Q E s := by
  k_with_none
  k_with "pyIter ref" => k_state (fun pre keys => keys = pre.foldl dedupStep [] ∧ keys.length ≤ pre.length) "keys"
  k_with "subscriptTail Name UnaryOp ref int" => ((with_reducible rename (decide (_ = []) = false) => hne); (with_unfolding_all refine' item_list_ints_neg ?k1 ?k2 ?k3 ?k4 ?k5 ?_); (case k1 => is_list); (case k2 => l_ints); (case k3 => decide); (case k4 => exact neg_one_ok hne); (case k5 => decide); intro _; (try dsimp only))
  k_with "state" => first | exact ⟨rfl, Nat.le_refl _⟩ | exact dedup_new (by assumption) (by assumption) (.inl (of_decide_eq_true (by assumption))) | exact dedup_new (by assumption) (by assumption) (.inr (by assumption)) | exact dedup_old (by assumption) (by assumption) (by assumption) (by assumption)
  w_top off
  walk_at "my enter"
  rename Heap.StaysIn _ _ => hG
  have hl' := stays_list hG hl
  walk_at "my steps"
  all_goals (try dsimp only)
  rename IntsAre _ _ => hI
  rename (_ = List.foldl dedupStep [] _) => hE
  exact end_ints hret hG (by k_asm) (by k_asm) (List.Mem.tail _ (List.Mem.head _)) hI ⟨_, by assumption, by assumption, hE⟩
end
end Mine
end

section
open PySem PySem.W PyProof.Rows PySem.Calls
set_option Elab.async false
set_option maxRecDepth 100000
set_option maxHeartbeats 8000000
set_option pp.proofs false
namespace Mine
theorem fill3 (w : World) : (hd.heap_39 w.params = hd.heap_39 w.params) ∧ (PySem.Challenge.rw_st0003_01 = PySem.Challenge.rw_st0003_01) := by k_fill; exact ⟨rfl, rfl⟩
local macro_rules | `(tactic| walk_at "my enter") => `(tactic| k_dflt (refine' enterP (by assumption) ?k6 ?k7 ?k9 ?kB ?_ ?c2 ?c3 ?c4 ?c5; (case k6 => k_is); (case k7 => k_is); (case k9 => exact BindsTo.of_eq rfl); (case c5 => decide); (case kB => exact locs rfl); (case c2 => exact rfl); (case c3 => exact rfl); (case c4 => exact rfl); intro gd env outer base g' L' h' F' N' B' X' T' hG'; (try dsimp only); (try k_fold)))
local macro_rules | `(tactic| walk_at "my enterC") => `(tactic| k_dflt (refine' enterC (by assumption) ?k6 ?k7 ?k9 ?kB ?kD ?_ ?c2 ?c3 ?c4; (case k6 => k_is); (case k7 => k_is); (case k9 => exact BindsTo.of_eq rfl); (case kB => exact rfl); (case kD => decide +kernel); (case c2 => exact rfl); (case c3 => exact rfl); (case c4 => exact rfl); intro gd env outer base g' L' h' tk' cells' F' N' Y' B' X' T' hG'; k_cells Y'; (try simp only [List.cons_append, List.nil_append] at N'); (try dsimp only); (try k_fold)))
local macro_rules | `(tactic| walk_at "my steps") => `(tactic| repeat' (first | (k_unfold; (try dsimp only)) | (dsimp only; k_unfold; (try dsimp only)) | walk1 | (dsimp only; walk1) | (leave1; walk_say "STEP leave1"; try dsimp only) | fail "no step"))
local macro_rules | `(tactic| walk_at "InvEndN") => `(tactic| k_dflt kst_close)
local macro_rules | `(tactic| walk_at "my cx") => `(tactic| k_dflt (refine' cx_of ?B ?F ?X ?T rfl rfl rfl rfl ?d ?u; (case F => k_asm); (case B => k_asm); (case X => k_asm); (case T => k_asm); (case d => exact Nat.le_of_ble_eq_true rfl); (case u => exact Nat.le_of_ble_eq_true rfl)))
local macro_rules | `(tactic| walk_at "my back") => `(tactic| k_dflt (intro t9 h9 tk9 hS9; (have F9 := fr_stays (by k_asm) hS9); (have N9 := news_stays (by k_asm) hS9); clear hS9; (try k_sweep); (try dsimp only); (try k_fold)))
local macro_rules | `(tactic| walk_at "binaryOp Mult int int") => `(tactic| k_dflt (refine mul_int ?_ (by assumption)))
local macro_rules | `(tactic| walk_at "call ref") => `(tactic| k_dflt (refine' c_high _ _ ?C ?_; (case C => walk_at "my cx"); walk_at "my back"))
local macro_rules | `(tactic| walk_at "call ref") => `(tactic| k_dflt (refine' c_single _ _ ?C ?_; (case C => walk_at "my cx"); intro h9 tk9 hS9; (have F9 := fr_stays (by k_asm) hS9); (have N9 := news_stays (by k_asm) hS9); clear hS9; (try k_sweep); (try dsimp only); (try k_fold)))
theorem cond_t {b : Bool} {x y : Int} (h : b = true) : x = cond b x y := by rw [h]; rfl
theorem cond_f {b : Bool} {x y : Int} (h : b = false) : y = cond b x y := by rw [h]; rfl
def stayF (a b c x : Int) : Int := Builtin.bitAnd (a - x * b) (b * 2 ^ (c - 1).toNat)
def lessRaw (a b c d x : Int) : Int := d - 1 - (highBit (stayF a b c x) - c + 1).fdiv c
def lessF (a b c d x : Int) : Int := cond (isSingle (stayF a b c x) != (lessRaw a b c d x == d - 1)) (-1) (lessRaw a b c d x)
section
variable {w : World} {mean : ExcName → Option Value} {mg mb : Str → Option Value} {A : Around} {s : Shared} {Q E : Value → Shared → Prop}
theorem c_less 
    (l : Addr) (a b c d x : Int) (ta tb tc td t : Tok) (C : Cx w mean mg mb 2 A s.heap) (hl : IsTup s.heap l #[.int a ta, .int b tb, .int c tc, .int d td]) (hc0 : 0 < c) (hc1 : c ≤ 20) (hm1 : IntMulOk x b) (hm2 : IntMulOk b (2 ^ (c - 1).toNat))
    (hret : ∀ t h' tk', s.heap.StaysIn h' → Q (.int (lessF a b c d x) t) { s with heap := h', toks := tk' }) :
    wpAny (model PySem.Challenge.rw_st0003_01.row.prog w) A (call (.ref 87) [.ref l, .int x t]) Q E s := by
  k_with_none
  w_top off
  walk_at "my enter"
  rename Heap.StaysIn _ _ => hG
  have hl' := stays_tup hG hl
  walk_at "my steps"
  all_goals (try dsimp only)
  · exact end_int hret hG (by k_asm) (by simp only [lessF, lessRaw, stayF]; exact cond_t (by assumption))
  · exact end_int hret hG (by k_asm) (by simp only [lessF, lessRaw, stayF]; exact cond_f (by assumption))
end
end Mine
end

section
open PySem PySem.W PyProof.Rows PySem.Calls
set_option Elab.async false
set_option maxRecDepth 100000
set_option maxHeartbeats 8000000
set_option pp.proofs false
namespace Mine
theorem fill4 (w : World) : (hd.heap_39 w.params = hd.heap_39 w.params) ∧ (PySem.Challenge.rw_st0003_01 = PySem.Challenge.rw_st0003_01) := by k_fill; exact ⟨rfl, rfl⟩
local macro_rules | `(tactic| walk_at "my pad") => `(tactic| skip)
local macro_rules | `(tactic| walk_at "my pad") => `(tactic| skip)
local macro_rules | `(tactic| walk_at "my pad") => `(tactic| skip)
local macro_rules | `(tactic| walk_at "my enter") => `(tactic| k_dflt (refine' enterP (by assumption) ?k6 ?k7 ?k9 ?kB ?_ ?c2 ?c3 ?c4 ?c5; (case k6 => k_is); (case k7 => k_is); (case k9 => exact BindsTo.of_eq rfl); (case c5 => decide); (case kB => exact locs rfl); (case c2 => exact rfl); (case c3 => exact rfl); (case c4 => exact rfl); intro gd env outer base g' L' h' F' N' B' X' T' hG'; (try dsimp only); (try k_fold)))
local macro_rules | `(tactic| walk_at "my enterC") => `(tactic| k_dflt (refine' enterC (by assumption) ?k6 ?k7 ?k9 ?kB ?kD ?_ ?c2 ?c3 ?c4; (case k6 => k_is); (case k7 => k_is); (case k9 => exact BindsTo.of_eq rfl); (case kB => exact rfl); (case kD => decide +kernel); (case c2 => exact rfl); (case c3 => exact rfl); (case c4 => exact rfl); intro gd env outer base g' L' h' tk' cells' F' N' Y' B' X' T' hG'; k_cells Y'; (try simp only [List.cons_append, List.nil_append] at N'); (try dsimp only); (try k_fold)))
local macro_rules | `(tactic| walk_at "my steps") => `(tactic| repeat' (first | (k_unfold; (try dsimp only)) | (dsimp only; k_unfold; (try dsimp only)) | walk1 | (dsimp only; walk1) | (leave1; walk_say "STEP leave1"; try dsimp only) | fail "no step"))
local macro_rules | `(tactic| walk_at "InvEndN") => `(tactic| k_dflt kst_close)
local macro_rules | `(tactic| walk_at "my cx") => `(tactic| k_dflt (refine' cx_of ?B ?F ?X ?T rfl rfl rfl rfl ?d ?u; (case F => k_asm); (case B => k_asm); (case X => k_asm); (case T => k_asm); (case d => exact Nat.le_of_ble_eq_true rfl); (case u => exact Nat.le_of_ble_eq_true rfl)))
local macro_rules | `(tactic| walk_at "my back") => `(tactic| k_dflt (intro t9 h9 tk9 hS9; (have F9 := fr_stays (by k_asm) hS9); (have N9 := news_stays (by k_asm) hS9); clear hS9; (try k_sweep); (try dsimp only); (try k_fold)))
local macro_rules | `(tactic| walk_at "call builtin:sorted") => `(tactic| k_dflt (refine' kso_sorted ?k1 ?k2 ?k3 ?k4 ?k5 ?_; (case k1 => k_asm); (case k2 => k_asm); (case k3 => exact News.isList (by k_asm) (List.Mem.head _)); (case k4 => assumption); (case k5 => (simp only [List.length_map, rangeKs_length]; omega)); intro D' v' n' c' h' F' N' l1 i' e' p' o' b'; (try k_lt l1); (try k_sweep)))
def sizeStep (st : List Int × Int) (place : Int) : List Int × Int := if st.2 < place then (st.1 ++ [place - st.2], place) else st
def placesOf (ns : List Int) : List Int := (rangeKs 0 ((ns.length : Int) - 1 - 0).toNat).map fun k' => (Builtin.Int.intBits (Builtin.bitXor (ns.getD k'.toNat 0) (ns.getD (k' + 1).toNat 0)) : Int) - 1
def SizesOf (ns sz : List Int) : Prop := ∃ m : List Int, m.Perm (placesOf ns) ∧ m.Pairwise (· ≤ ·) ∧ sz = (m.foldl sizeStep ([], -1)).1
theorem size_yes {pre sz : List Int} {last n : Int} (h : (sz, last) = pre.foldl sizeStep ([], -1)) (h2 : sz.length ≤ pre.length) (a : last < n) :
    (sz ++ [n - last], n) = (pre ++ [n]).foldl sizeStep ([], -1) ∧ (sz ++ [n - last]).length ≤ (pre ++ [n]).length := by
  rw [List.foldl_append, ← h]
  refine ⟨by simp only [List.foldl_cons, List.foldl_nil, sizeStep]; rw [if_pos a], ?_⟩
  simp only [List.length_append, List.length_singleton]; omega
theorem size_no {pre sz : List Int} {last n : Int} (h : (sz, last) = pre.foldl sizeStep ([], -1)) (h2 : sz.length ≤ pre.length) (a : ¬ last < n) :
    (sz, last) = (pre ++ [n]).foldl sizeStep ([], -1) ∧ sz.length ≤ (pre ++ [n]).length := by
  rw [List.foldl_append, ← h]
  refine ⟨by simp only [List.foldl_cons, List.foldl_nil, sizeStep]; rw [if_neg a], ?_⟩
  simp only [List.length_append, List.length_singleton]; omega
section
variable {w : World} {mean : ExcName → Option Value} {mg mb : Str → Option Value} {A : Around} {s : Shared} {Q E : Value → Shared → Prop}
theorem c_sizes 
    (l : Addr) (vs : List Value) (ns : List Int) (C : Cx w mean mg mb 2 A s.heap) (hl : s.heap.IsList l vs.toArray) (hi : IntsAre vs ns) (hlen : ns.length ≤ 60) (h3 : 1 ≤ ns.length)
    (hret : ∀ (a : Addr) (h' : Heap) (tk' : Nat) (vs : List Value) (ks : List Int) (n : Nat), s.heap.StaysIn h' → s.heap.get? a = none → h'.get? a = some (PySem.W.listOf vs.toArray n) → IntsAre vs ks → SizesOf ns ks → Q (.ref a) { s with heap := h', toks := tk' }) :
    wpAny (model PySem.Challenge.rw_st0003_01.row.prog w) A (call (.ref 54) [.ref l]) Q E s := by
  k_with_none
  k_with "pyIter ref" => k_state (fun pre last sizes => (sizes, last) = pre.foldl sizeStep ([], -1) ∧ sizes.length ≤ pre.length) "last" "sizes"
  k_with "state" => first | exact ⟨rfl, Nat.le_refl _⟩ | exact size_yes (by assumption) (by assumption) (by assumption) | exact size_no (by assumption) (by assumption) (by assumption) | exact size_no (by assumption) (by assumption) (by omega)
  w_top off
  walk_at "my enterC"
  rename Heap.StaysIn _ _ => hG
  have hl' := stays_list hG hl
  walk_at "my steps"
  all_goals (try dsimp only)
  rename IntsAre _ _ => hI
  rename (_ = List.foldl sizeStep _ _) => hE
  exact end_ints hret hG (by k_asm) (by k_asm) (List.Mem.tail _ (List.Mem.tail _ (List.Mem.head _))) hI ⟨_, by assumption, by assumption, congrArg Prod.fst hE⟩
end
end Mine
end

section
open PySem PySem.W PyProof.Rows PySem.Calls
set_option Elab.async false
set_option maxRecDepth 100000
set_option maxHeartbeats 8000000
set_option pp.proofs false
namespace Mine
theorem fill5 (w : World) : (hd.heap_39 w.params = hd.heap_39 w.params) ∧ (PySem.Challenge.rw_st0003_01 = PySem.Challenge.rw_st0003_01) := by k_fill; exact ⟨rfl, rfl⟩
local macro_rules | `(tactic| walk_at "my pad") => `(tactic| skip)
local macro_rules | `(tactic| walk_at "my pad") => `(tactic| skip)
local macro_rules | `(tactic| walk_at "my pad") => `(tactic| skip)
local macro_rules | `(tactic| walk_at "my enter") => `(tactic| k_dflt (refine' enterP (by assumption) ?k6 ?k7 ?k9 ?kB ?_ ?c2 ?c3 ?c4 ?c5; (case k6 => k_is); (case k7 => k_is); (case k9 => exact BindsTo.of_eq rfl); (case c5 => decide); (case kB => exact locs rfl); (case c2 => exact rfl); (case c3 => exact rfl); (case c4 => exact rfl); intro gd env outer base g' L' h' F' N' B' X' T' hG'; (try dsimp only); (try k_fold)))
local macro_rules | `(tactic| walk_at "my enterC") => `(tactic| k_dflt (refine' enterC (by assumption) ?k6 ?k7 ?k9 ?kB ?kD ?_ ?c2 ?c3 ?c4; (case k6 => k_is); (case k7 => k_is); (case k9 => exact BindsTo.of_eq rfl); (case kB => exact rfl); (case kD => decide +kernel); (case c2 => exact rfl); (case c3 => exact rfl); (case c4 => exact rfl); intro gd env outer base g' L' h' tk' cells' F' N' Y' B' X' T' hG'; k_cells Y'; (try simp only [List.cons_append, List.nil_append] at N'); (try dsimp only); (try k_fold)))
local macro_rules | `(tactic| walk_at "my steps") => `(tactic| repeat' (first | (k_unfold; (try dsimp only)) | (dsimp only; k_unfold; (try dsimp only)) | walk1 | (dsimp only; walk1) | (leave1; walk_say "STEP leave1"; try dsimp only) | fail "no step"))
local macro_rules | `(tactic| walk_at "InvEndN") => `(tactic| k_dflt kst_close)
local macro_rules | `(tactic| walk_at "my cx") => `(tactic| k_dflt (refine' cx_of ?B ?F ?X ?T rfl rfl rfl rfl ?d ?u; (case F => k_asm); (case B => k_asm); (case X => k_asm); (case T => k_asm); (case d => exact Nat.le_of_ble_eq_true rfl); (case u => exact Nat.le_of_ble_eq_true rfl)))
local macro_rules | `(tactic| walk_at "my back") => `(tactic| k_dflt (intro t9 h9 tk9 hS9; (have F9 := fr_stays (by k_asm) hS9); (have N9 := news_stays (by k_asm) hS9); clear hS9; (try k_sweep); (try dsimp only); (try k_fold)))
local macro_rules | `(tactic| walk_at "CompSrc") => `(tactic| k_dflt ((refine LCg.CompSrc.range (by rfl) (by k_asm) (by k_asm) (by assumption) (by decide) (by first | exact rangeSize_nat _ _ | rfl) (by exact Nat.le_of_ble_eq_true rfl) ?_; intro g'; (refine' kct_range _ (fun k' t' I' oI' C' oC' D' m' ys' h' tk' E' hlo' hhi' hC' hx' F' N' off' ne' => ?_) ?_); (all_goals (try (simp only [LCg.Off3, and_true] at off'))); (all_goals (try ((show KPfMark → _); intro hMark'))); kcf_last)))
local macro_rules | `(tactic| walk_at "subscriptTail") => `(tactic| k_extra "my sub")
def bitS (x k : Int) : Str := Txt.item (Str.ofString "01") ((x.fdiv (2 ^ (11 - k).toNat)).fmod 2)
def left12 (x : Int) : Str := Txt.join (Str.ofString "") (List.map (fun k => if (bitS x k).length = 1 then bitS x k else Str.empty) (rangeKs 0 ((12 : Int) - 0).toNat))
/-- the loop of the groups -/
def excGo : List Int → Str → Str → Str
  | [], e, _ => e
  | n :: r, e, l => if (l.length : Int) < n then e else excGo r (Txt.item l (-n) ++ e) (Txt.slice l none (some (-n)))
theorem exc_stop {ns pre post : List Int} {n : Int} {e l e0 l0 : Str} (h : ∀ post, excGo (pre ++ post) e0 l0 = excGo post e l) (hE : ns = pre ++ n :: post) (a : (l.length : Int) < n) : e = excGo ns e0 l0 := by
  rw [hE, h, excGo, if_pos a]
theorem exc_done {ns : List Int} {e l e0 l0 : Str} (h : ∀ post, excGo (ns ++ post) e0 l0 = excGo post e l) : e = excGo ns e0 l0 := by
  have := h []
  rw [List.append_nil] at this
  rw [this, excGo]
theorem exc_step {pre : List Int} {n : Int} {e l e0 l0 : Str} (h : ∀ post, excGo (pre ++ post) e0 l0 = excGo post e l) (h2 : e.length ≤ pre.length) (h3 : l.length ≤ 12) (a : ¬ (l.length : Int) < n) :
    (∀ post, excGo (pre ++ [n] ++ post) e0 l0 = excGo post (Txt.item l (-n) ++ e) (Txt.slice l none (some (-n)))) ∧ (Txt.item l (-n) ++ e).length ≤ (pre ++ [n]).length ∧ (Txt.slice l none (some (-n))).length ≤ 12 := by
  refine ⟨fun post => ?_, ?_, Nat.le_trans (PyProof.Txt.length_slice_le l _ _) h3⟩
  · rw [List.append_assoc, h]
    simp only [List.cons_append, List.nil_append, excGo]
    rw [if_neg a]
  · rw [Str.length_append, List.length_append, List.length_singleton]
    have : (Txt.item l (-n)).length = 1 := rfl
    omega
theorem exc_start {l : Str} (h : l.length = (rangeKs 0 ((12 : Int) - 0).toNat).length) : l.length ≤ 12 := by rw [h, rangeKs_length]; decide
section
variable {w : World} {mean : ExcName → Option Value} {mg mb : Str → Option Value} {A : Around} {s : Shared} {Q E : Value → Shared → Prop}
theorem c_excerpt 
    (l : Addr) (vs : List Value) (ns : List Int) (x : Int) (t : Tok) (C : Cx w mean mg mb 2 A s.heap) (hl : s.heap.IsList l vs.toArray) (hi : IntsAre vs ns) (hlen : ns.length ≤ 12) (hpos : ∀ n ∈ ns, 0 < n)
    (hret : ∀ t h' tk', s.heap.StaysIn h' → Q (.str (excGo ns (Str.ofString "") (left12 x)) t) { s with heap := h', toks := tk' }) :
    wpAny (model PySem.Challenge.rw_st0003_01.row.prog w) A (call (.ref 66) [.int x t, .ref l]) Q E s := by
  k_with_none
  k_with "pyIter ref" => k_state (fun pre excerpt left => (∀ post, excGo (pre ++ post) (Str.ofString "") (left12 x) = excGo post excerpt left) ∧ excerpt.length ≤ pre.length ∧ left.length ≤ 12) "excerpt" "left"
  k_with "state" => first | exact exc_step (by assumption) (by assumption) (by assumption) (by assumption) | exact ⟨fun _ => rfl, Nat.le_of_ble_eq_true rfl, exc_start (by assumption)⟩
  k_with "my sub" => ((with_reducible show wpAny _ _ (subscriptTail _ _ (Value.str _ _) (Value.int _ _)) _ _ _); (with_reducible rename (_ ∈ ns) => hm'); (have hk0 := hpos _ hm'); refine KXi.item rfl ?a ?b ?c ?_; (case a => omega); (case b => omega); (case c => omega); intro _)
  k_with "my sub" => ((with_reducible show wpAny _ _ (subscriptTail _ (Expr.Slice none (some _) none _) (Value.str _ _) (Value.ref _)) _ _ _); (with_reducible rename Fr _ _ _ _ => F'); (with_reducible rename News _ _ _ _ => N'); (refine slice_strN_ns (hsz := ?hsz) (s := ⟨_, _, _, _, _⟩) F' N' ?_); (case hsz => (rw [sizeLine_eq]; omega)); intro _ _ _ _ _)
  w_top off
  walk_at "my enterC"
  rename Heap.StaysIn _ _ => hG
  have hl' := stays_list hG hl
  walk_at "my steps"
  all_goals (try dsimp only)
  · exact end_str hret hG (by k_asm) (exc_stop (by assumption) (by assumption) (by assumption))
  · exact end_str hret hG (by k_asm) (exc_done (by assumption))
end
end Mine
end

section
open PySem PySem.W PyProof.Rows PySem.Calls
set_option Elab.async false
set_option maxRecDepth 100000
set_option maxHeartbeats 8000000
namespace Mine
section
variable {prog : Program} {w : World} {A : Around} {E : Value → Shared → Prop} {s : Shared} {env : Env} {h₀ : Heap} {x : Str} {body : List Stmt} {Q : Flow → Shared → Prop}
/-- a loop over a list of texts that stood before -/
theorem iter_strsN {l : Addr} {vs : List Value} {xs : List Str} {m₀ : Str → Option Value} {news : List (Addr × Obj)} (J : Nat → (Str → Option Value) → List (Addr × Obj) → Prop)
    (hh : A.handled = none) (hl : h₀.IsList l vs.toArray) (hi : StrsAre vs xs) (F : Fr h₀ env.locals s.heap m₀) (N : News h₀ env.locals s.heap news) (hj : J 0 m₀ news)
    (turn : ∀ i n t m₁ news₁ h tk own, xs[i]? = some n → news₁.map (·.1) = news.map (·.1) → OwnOff own (news.map (·.1)) → J i m₁ news₁ → Fr h₀ env.locals h (fun y => if y = x then some (.str n t) else m₁ y) → News h₀ env.locals h (news₁ ++ own) →
      wpAny (model prog w) A (execs body env) (InvPostN h₀ env.locals (J (i + 1)) own (news.map (·.1)) { s with heap := h, toks := tk } Q) E { s with heap := h, toks := tk })
    (done : ∀ m₁ news₁ h tk, J xs.length m₁ news₁ → Fr h₀ env.locals h m₁ → News h₀ env.locals h news₁ → Q .next { s with heap := h, toks := tk }) :
    wpAny (model prog w) A (pyIter (.ref l)) (fun it s₂ => LoopAtV prog w A h₀ env x body Q E it s₂) E s := by
  have hls : s.heap.IsList l vs.toArray := hl.at fun o e => F.keep l o e
  obtain ⟨ol, hol, _⟩ := id hl
  have hlt : l < h₀.objs.size := Heap.lt_size hol
  have hne : l ≠ s.heap.objs.size := Nat.ne_of_lt (Nat.lt_trans (Nat.lt_of_lt_of_le hlt F.above) F.ns.lt)
  refine wpAny_pyIter_list hls ?_
  have W := Walks.list (prog := prog) (w := w) hh s.heap.objs.size l hne vs.toArray
  have hlen : vs.toArray.size = xs.length := by simp [hi.len_eq]
  rw [hlen] at W
  let J' : Nat → (Str → Option Value) → List (Addr × Obj) → Prop := fun i m₁ news₁ => news₁.map (·.1) = news.map (·.1) ∧ J i m₁ news₁
  refine ⟨_, _, _, xs.length, _, _, m₀, news, J', rfl, W, ?_, ?_, ?_, ⟨⟨_, Heap.get?_push_size _ rfl, rfl, rfl⟩, hls.at fun o e => Heap.get?_push_of_some _ e⟩, F.push _, (fun p hp => ⟨Heap.get?_push_of_some _ (N p hp).1, (N p hp).2⟩), ⟨rfl, hj⟩, ?_, ?_⟩
  · intro hm
    rcases List.mem_cons.mp hm with e | hm
    · exact absurd F.ns.lt (e ▸ Nat.lt_irrefl _)
    · exact absurd (Nat.lt_of_lt_of_le hlt F.above) ((List.mem_singleton.mp hm) ▸ Nat.lt_irrefl _)
  · intro b hb
    rw [List.mem_singleton.mp hb]
    exact next_is_new F
  · intro p hp hI
    exact absurd (Heap.lt_size (N p hp).1) ((List.mem_singleton.mp hI) ▸ Nat.lt_irrefl _)
  · rintro i v m₁ news₁ s₁ own ⟨hh', tk', rfl⟩ hin hP ⟨hadr, hJ⟩ hoff hown _ _ _ F₁ N₁
    have hsep : OwnOff own (news.map (·.1)) := by
      intro p hp b hb e
      obtain ⟨q, hq, rfl⟩ := List.mem_map.mp hb
      rcases List.mem_cons.mp (hown p hp) with h1 | h1
      · exact absurd (Heap.lt_size (N q hq).1) (by rw [← e, h1]; exact Nat.lt_irrefl _)
      · have h2 := List.mem_singleton.mp h1
        have h3 := (N q hq).2.2
        rw [← e, h2, hol] at h3
        cases h3
    have hlt' : i < xs.length := hin
    obtain ⟨t, hx⟩ := hi.at (j := i) (y := xs[i]) (by simp [hlt'])
    have hv : v = .str xs[i] t := by
      have hP' : vs[i]? = some v := by simpa using hP
      rw [hx] at hP'; exact (Option.some.inj hP').symm
    subst hv
    have N₂ : News h₀ env.locals hh' (news₁ ++ own) := fun p hp => N₁ p ((List.mem_append.mp hp).elim (fun h => List.mem_append.mpr (.inr h)) fun h => List.mem_append.mpr (.inl h))
    refine wpAny_mono (turn i xs[i] t m₁ news₁ hh' tk' own (by simp [hlt']) hadr hsep hJ F₁ N₂) (fun f s₂ p => ?_) fun _ _ e => e
    have fin : InvEndN h₀ env.locals (J (i + 1)) own (news.map (·.1)) { s with heap := hh', toks := tk' } s₂ → LoopStepU h₀ env.locals [s.heap.objs.size] own (J' (i + 1)) { s with heap := hh', toks := tk' } .next s₂ := by
      rintro ⟨h', tk, m', news', nx, e, F', N', hn, ho, ha, hm⟩
      refine ⟨rfl, h', tk, m', nx, e, F', fun p hp => N' p ((List.mem_append.mp hp).elim (ho p) (hn p)), fun p hp hq => ?_, ha, hm⟩
      have h1 : p.1 ∈ nx.map (·.1) := List.mem_map.mpr ⟨p, hp, rfl⟩
      rw [ha, ← hadr] at h1
      obtain ⟨q, hq1, hq2⟩ := List.mem_map.mp h1
      exact hoff q hq1 (by rw [hq2]; exact hq)
    cases f with
    | ret v => exact .ret p
    | brk => exact .brk p
    | next => exact .next (fin p)
    | cont => exact .cont (fin p)
  · rintro h' tk m' news' F' N' _ ⟨_, hJ⟩
    exact done m' news' h' tk hJ F' N'

/-- the same, its word over the items' numbers -/
theorem kst_strs {σ : Type} (f : Str → Int) {l : Addr} {vs : List Value} {xs : List Str} {m₀ : Str → Option Value} (Led : σ → List (Addr × Obj)) (ps : σ → List (Str × Value)) (Facts : σ → Prop) (stored : List Str) (P : List Int → σ → Prop) (c₀ : σ)
    (hh : A.handled = none) (hl : h₀.IsList l vs.toArray) (hi : StrsAre vs xs) (F : Fr h₀ env.locals s.heap m₀) (N : News h₀ env.locals s.heap (Led c₀)) (hf : Facts c₀) (hk : ∀ p ∈ ps c₀, m₀ p.1 = some p.2) (hp : P [] c₀)
    (turn : ∀ (c : σ) pre post n t (u : Str → Option Value) h tk own, xs.map f = pre ++ f n :: post → n ∈ xs → pre.length < xs.length → OwnOff own ((Led c₀).map (·.1)) → Facts c → P pre c →
      Fr h₀ env.locals h (fun y => if y = x then some (.str n t) else kstB (fun z => if stored.contains z then u z else m₀ z) (ps c) y) → News h₀ env.locals h (Led c ++ own) →
      wpAny (model prog w) A (execs body env) (InvPostN h₀ env.locals (KstS Led ps Facts x stored m₀ P (pre ++ [f n])) own ((Led c₀).map (·.1)) { s with heap := h, toks := tk } Q) E { s with heap := h, toks := tk })
    (done : ∀ (c : σ) (u : Str → Option Value) h tk, Facts c → P (xs.map f) c → Fr h₀ env.locals h (fun y => if y = x then u y else kstB (fun z => if stored.contains z then u z else m₀ z) (ps c) y) → News h₀ env.locals h (Led c) → Q .next { s with heap := h, toks := tk }) :
    wpAny (model prog w) A (pyIter (.ref l)) (fun it s₂ => LoopAtV prog w A h₀ env x body Q E it s₂) E s := by
  refine iter_strsN (fun i m nx => KstS Led ps Facts x stored m₀ P ((xs.map f).take i) m nx) hh hl hi F N ⟨c₀, rfl, hf, hk, fun _ _ _ _ => rfl, by simpa using hp⟩ ?_ ?_
  · rintro i n t m₁ nx h tk own hn _ hoff ⟨c, rfl, hf', h1, h2, hp'⟩ F₁ N₁
    have hn' : (xs.map f)[i]? = some (f n) := by rw [List.getElem?_map, hn]; rfl
    have hs : (xs.map f).take (i + 1) = (xs.map f).take i ++ [f n] := by simp only [List.take_add_one, hn', Option.toList_some]
    have e : xs.map f = (xs.map f).take i ++ f n :: (xs.map f).drop (i + 1) := by
      have ht := List.take_append_drop (i + 1) (xs.map f)
      rw [hs, List.append_assoc] at ht
      exact ht.symm
    rw [hs]
    exact turn c _ _ n t m₁ h tk own e (List.mem_of_getElem? hn) (by have := congrArg List.length e; simp only [List.length_map, List.length_append, List.length_cons] at this; omega) hoff hf' hp' (kst_fr h1 h2 F₁) N₁
  · rintro m₁ nx h tk ⟨c, rfl, hf', h1, h2, hp'⟩ F₁ N₁
    rw [← List.length_map (f := f) (as := xs), List.take_length] at hp'
    exact done c m₁ h tk hf' hp' (kst_frOut h1 h2 F₁) N₁
end
end Mine
end

section
open PySem PySem.W PyProof.Rows PySem.Calls
namespace Mine
def bookStep (wd : Int) (st : Int × Int) (k : Int) : Int × Int := (st.1 * 2 ^ wd.toNat + 2 ^ (wd - 1).toNat + k, st.2 * 2 ^ wd.toNat + 1)
theorem two_pow_le {a b : Nat} (h : a ≤ b) : (2 : Int) ^ a ≤ 2 ^ b := by
  have := Nat.pow_le_pow_right (n := 2) (by decide) h
  exact_mod_cast this
theorem two_pow_pos (a : Nat) : (0 : Int) < 2 ^ a := by
  have := Nat.pow_pos (n := a) (show 0 < 2 by decide)
  exact_mod_cast this
theorem bits_le_of {a : Int} {n : Nat} (h0 : 0 ≤ a) (h1 : a < 2 ^ n) : Builtin.Int.intBits a ≤ n := by
  unfold Builtin.Int.intBits
  by_cases h : a = 0
  · subst h; exact Nat.zero_le _
  · have e : (a == 0) = false := by simpa using h
    rw [e]
    simp only [Bool.false_eq_true, if_false]
    have h2 : a.natAbs < 2 ^ n := by
      have : (a.natAbs : Int) < ((2 ^ n : Nat) : Int) := by
        rw [Int.natAbs_of_nonneg h0]; exact_mod_cast h1
      exact_mod_cast this
    have h3 : a.natAbs ≠ 0 := by omega
    exact Nat.succ_le_of_lt ((Nat.log2_lt h3).mpr h2)
theorem mul_ok_pow {a wd : Int} {n : Nat} (h0 : 0 ≤ a) (h1 : a < 2 ^ (20 * n)) (hn : n < 8) (hW : wd ≤ 13) : PySem.IntMulOk a (2 ^ wd.toNat) := by
  refine PySem.IntMulOk.of_bits (Nat.le_trans (bits_le_of h0 h1) ?_) (Nat.le_trans (bits_le_of (n := 14) (Int.le_of_lt (two_pow_pos _)) ?_) (by decide))
  · have : 20 * n ≤ 160 := by omega
    exact Nat.le_trans this (by decide)
  · exact Int.lt_of_le_of_lt (two_pow_le (b := 13) (by omega)) (by decide)
theorem worth_go (l : List Nat) (h : ∀ c ∈ l, c = 48 ∨ c = 49) : ∀ T : Int, 0 ≤ T →
    T * 2 ^ l.length ≤ (l.map fun n => (⟨#[n]⟩ : Str)).foldl (fun T c => 2 * T + Txt.find (Str.ofString "01") c) T ∧
    (l.map fun n => (⟨#[n]⟩ : Str)).foldl (fun T c => 2 * T + Txt.find (Str.ofString "01") c) T < (T + 1) * 2 ^ l.length := by
  induction l with
  | nil => intro T _; simp only [List.map_nil, List.foldl_nil, List.length_nil, Int.pow_zero]; omega
  | cons c r ih =>
    intro T hT
    have hd : Txt.find (Str.ofString "01") ⟨#[c]⟩ = 0 ∨ Txt.find (Str.ofString "01") ⟨#[c]⟩ = 1 := by
      rw [find_zero_or_one c (h c (.head _))]
      rcases h c (.head _) with rfl | rfl <;> simp
    simp only [List.map_cons, List.foldl_cons, List.length_cons]
    generalize Txt.find (Str.ofString "01") ⟨#[c]⟩ = d at hd
    have := ih (fun x hx => h x (.tail _ hx)) (2 * T + d) (by omega)
    have e : (2 : Int) ^ (r.length + 1) = 2 * 2 ^ r.length := by rw [Int.pow_succ, Int.mul_comm]
    rw [e]
    have hX := two_pow_pos r.length
    generalize (2 : Int) ^ r.length = X at *
    have e1 : T * (2 * X) = 2 * (T * X) := by rw [Int.mul_left_comm]
    have e2 : (T + 1) * (2 * X) = 2 * (T * X) + 2 * X := by rw [Int.add_mul, e1, Int.one_mul]
    have e3 : (2 * T + d) * X = 2 * (T * X) + d * X := by rw [Int.add_mul, Int.mul_assoc]
    have e4 : (2 * T + d + 1) * X = 2 * (T * X) + d * X + X := by rw [Int.add_mul, e3, Int.one_mul]
    rw [e3, e4] at this
    rw [e1, e2]
    have e5 : d * X = 0 ∨ d * X = X := by
      rcases hd with rfl | rfl
      · exact .inl (Int.zero_mul _)
      · exact .inr (Int.one_mul _)
    generalize d * X = D at *
    generalize T * X = Z at *
    omega
theorem worth_bound {a : Str} (h01 : ∀ c ∈ a.cps.toList, c = 48 ∨ c = 49) (h12 : a.length ≤ 12) : 0 ≤ worthS a ∧ worthS a < 2 ^ 12 := by
  have h := worth_go a.cps.toList h01 0 (Int.le_refl _)
  rw [Int.zero_mul, Int.zero_add, Int.one_mul] at h
  refine ⟨h.1, Int.lt_of_lt_of_le h.2 (two_pow_le ?_)⟩
  simpa [Str.length] using h12
theorem book_step {pre : List Int} {p o wd k : Int} (h : (p, o) = pre.foldl (bookStep wd) (0, 0)) (hp0 : 0 ≤ p) (hp1 : p < 2 ^ (20 * pre.length)) (ho0 : 0 ≤ o) (ho1 : o < 2 ^ (20 * pre.length))
    (hk : 0 ≤ k ∧ k < 2 ^ 12) (hw0 : 1 ≤ wd) (hw : wd ≤ 13) :
    (p * 2 ^ wd.toNat + 2 ^ (wd - 1).toNat + k, o * 2 ^ wd.toNat + 1) = (pre ++ [k]).foldl (bookStep wd) (0, 0) ∧ 0 ≤ p * 2 ^ wd.toNat + 2 ^ (wd - 1).toNat + k ∧ p * 2 ^ wd.toNat + 2 ^ (wd - 1).toNat + k < 2 ^ (20 * (pre ++ [k]).length) ∧ 0 ≤ o * 2 ^ wd.toNat + 1 ∧ o * 2 ^ wd.toNat + 1 < 2 ^ (20 * (pre ++ [k]).length) := by
  refine ⟨by rw [List.foldl_append, ← h]; rfl, ?_⟩
  have e : (2 : Int) ^ (20 * (pre ++ [k]).length) = 2 ^ (20 * pre.length) * 1048576 := by
    rw [List.length_append, List.length_singleton, Nat.mul_add, Int.pow_add]; rfl
  rw [e]
  have a1 := two_pow_pos wd.toNat
  have a2 := two_pow_pos (wd - 1).toNat
  have a3 : (2 : Int) ^ wd.toNat ≤ 2 ^ 13 := two_pow_le (by omega)
  have a4 : (2 : Int) ^ (wd - 1).toNat ≤ 2 ^ 12 := two_pow_le (by omega)
  have a5 := two_pow_pos (20 * pre.length)
  have a6 : p * 2 ^ wd.toNat ≤ 2 ^ (20 * pre.length) * 2 ^ 13 := Int.mul_le_mul (Int.le_of_lt hp1) a3 (Int.le_of_lt a1) (Int.le_of_lt a5)
  have a7 : o * 2 ^ wd.toNat ≤ 2 ^ (20 * pre.length) * 2 ^ 13 := Int.mul_le_mul (Int.le_of_lt ho1) a3 (Int.le_of_lt a1) (Int.le_of_lt a5)
  have a8 : 0 ≤ p * 2 ^ wd.toNat := Int.mul_nonneg hp0 (Int.le_of_lt a1)
  have a9 : 0 ≤ o * 2 ^ wd.toNat := Int.mul_nonneg ho0 (Int.le_of_lt a1)
  obtain ⟨k1, k2⟩ := hk
  generalize p * 2 ^ wd.toNat = P at *
  generalize o * 2 ^ wd.toNat = O at *
  generalize (2 : Int) ^ (wd - 1).toNat = Y at *
  generalize (2 : Int) ^ (20 * pre.length) = X at *
  omega
end Mine
end

section
open PySem PySem.W PyProof.Rows PySem.Calls
set_option Elab.async false
set_option maxRecDepth 100000
set_option maxHeartbeats 8000000
set_option pp.proofs false
namespace Mine
theorem fill6 (w : World) : (hd.heap_39 w.params = hd.heap_39 w.params) ∧ (PySem.Challenge.rw_st0003_01 = PySem.Challenge.rw_st0003_01) := by k_fill; exact ⟨rfl, rfl⟩
local macro_rules | `(tactic| walk_at "my pad") => `(tactic| skip)
local macro_rules | `(tactic| walk_at "my enter") => `(tactic| k_dflt (refine' enterP (by assumption) ?k6 ?k7 ?k9 ?kB ?_ ?c2 ?c3 ?c4 ?c5; (case k6 => k_is); (case k7 => k_is); (case k9 => exact BindsTo.of_eq rfl); (case c5 => decide); (case kB => exact locs rfl); (case c2 => exact rfl); (case c3 => exact rfl); (case c4 => exact rfl); intro gd env outer base g' L' h' F' N' B' X' T' hG'; (try dsimp only); (try k_fold)))
local macro_rules | `(tactic| walk_at "my enterC") => `(tactic| k_dflt (refine' enterC (by assumption) ?k6 ?k7 ?k9 ?kB ?kD ?_ ?c2 ?c3 ?c4; (case k6 => k_is); (case k7 => k_is); (case k9 => exact BindsTo.of_eq rfl); (case kB => exact rfl); (case kD => decide +kernel); (case c2 => exact rfl); (case c3 => exact rfl); (case c4 => exact rfl); intro gd env outer base g' L' h' tk' cells' F' N' Y' B' X' T' hG'; k_cells Y'; (try simp only [List.cons_append, List.nil_append] at N'); (try dsimp only); (try k_fold)))
local macro_rules | `(tactic| walk_at "my steps") => `(tactic| repeat' (first | (k_unfold; (try dsimp only)) | (dsimp only; k_unfold; (try dsimp only)) | walk1 | (dsimp only; walk1) | (leave1; walk_say "STEP leave1"; try dsimp only) | fail "no step"))
local macro_rules | `(tactic| walk_at "InvEndN") => `(tactic| k_dflt kst_close)
local macro_rules | `(tactic| walk_at "my cx") => `(tactic| k_dflt (refine' cx_of ?B ?F ?X ?T rfl rfl rfl rfl ?d ?u; (case F => k_asm); (case B => k_asm); (case X => k_asm); (case T => k_asm); (case d => exact Nat.le_of_ble_eq_true rfl); (case u => exact Nat.le_of_ble_eq_true rfl)))
local macro_rules | `(tactic| walk_at "my back") => `(tactic| k_dflt (intro t9 h9 tk9 hS9; (have F9 := fr_stays (by k_asm) hS9); (have N9 := news_stays (by k_asm) hS9); clear hS9; (try k_sweep); (try dsimp only); (try k_fold)))
local macro_rules | `(tactic| walk_at "call builtin:len") => `(tactic| k_extra "my len")
local macro_rules | `(tactic| walk_at "call ref") => `(tactic| k_extra "my call")
local macro_rules | `(tactic| walk_at "binaryOp Mult int int") => `(tactic| k_extra "my mult")
local macro_rules | `(tactic| walk_at "pyIter ref") => `(tactic| k_extra "my loop")
local macro_rules | `(tactic| walk_at "exec For Name Name cons nil") => `(tactic| k_dflt ((rename Fr _ _ _ _ => lF'); (with_unfolding_all refine' For_invVF lF' ?k1 ?k2 ?_; (case k1 => exact rfl); (case k2 => exact rfl))))
section
variable {w : World} {mean : ExcName → Option Value} {mg mb : Str → Option Value} {A : Around} {s : Shared} {Q E : Value → Shared → Prop}
theorem end_book {g : Heap} {L' : Addr} {h' : Heap} {tk' : Nat} {m' : Str → Option Value} {news : List (Addr × Obj)} {a : Addr} {p o wd n : Int} {t1 t2 t3 t4 : Tok} {ks : List Int} {k : Nat}
    (hret : ∀ (a : Addr) (h' : Heap) (tk' : Nat) (t1 t2 t3 t4 : Tok) (k : Nat), s.heap.StaysIn h' → s.heap.get? a = none →
      h'.get? a = some { cls := .type "tuple", data := .seq #[.int (ks.foldl (bookStep wd) (0, 0)).1 t1, .int (ks.foldl (bookStep wd) (0, 0)).2 t2, .int wd t3, .int n t4] k } → Q (.ref a) { s with heap := h', toks := tk' })
    (hG : s.heap.StaysIn g) (F : Fr g L' h' m') (N : News g L' h' news) (hE : (p, o) = ks.foldl (bookStep wd) (0, 0))
    (hm : (a, ({ cls := .type "tuple", data := .seq #[.int p t1, .int o t2, .int wd t3, .int n t4] k } : Obj)) ∈ news) :
    BEnd g Q (.ret (.ref a)) { s with heap := h', toks := tk' } := by
  refine ⟨⟨L', m', F⟩, hret a h' tk' t1 t2 t3 t4 k (fun b o q => F.keep b o (hG b o q)) ?_ ?_⟩
  · cases q : s.heap.get? a with
    | none => rfl
    | some o => have := (N _ hm).2.2; rw [hG a o q] at this; cases this
  · rw [← hE]; exact (N _ hm).1
theorem c_book 
    (l : Addr) (vs : List Value) (xs : List Str) (C : Cx w mean mg mb 2 A s.heap) (hl : s.heap.IsList l vs.toArray) (hi : StrsAre vs xs) (hlen : xs.length ≤ 8) (h3 : 1 ≤ xs.length)
    (h12 : ∀ x ∈ xs, x.length ≤ 12) (h01 : ∀ x ∈ xs, ∀ c ∈ x.cps.toList, c = 48 ∨ c = 49)
    (hret : ∀ (a : Addr) (h' : Heap) (tk' : Nat) (t1 t2 t3 t4 : Tok) (k : Nat), s.heap.StaysIn h' → s.heap.get? a = none →
      h'.get? a = some { cls := .type "tuple", data := .seq #[.int ((xs.map worthS).foldl (bookStep ((xs.getD (Int.toNat 0) Str.empty).length + 1)) (0, 0)).1 t1, .int ((xs.map worthS).foldl (bookStep ((xs.getD (Int.toNat 0) Str.empty).length + 1)) (0, 0)).2 t2, .int ((xs.getD (Int.toNat 0) Str.empty).length + 1) t3, .int xs.length t4] k } → Q (.ref a) { s with heap := h', toks := tk' }) :
    wpAny (model PySem.Challenge.rw_st0003_01.row.prog w) A (call (.ref 80) [.ref l]) Q E s := by
  have hz : (xs.getD (Int.toNat 0) Str.empty).length ≤ 12 := by
    cases xs with
    | nil => simp at h3
    | cons x r => exact h12 x (.head _)
  k_with_none
  k_with "my len" => k_dflt ((with_reducible show wpAny _ _ (call _ [Value.str _ _]) _ _ _); refine PyProof.Rows.len_str ?_ ?_; (focus omega))
  k_with "my call" => k_dflt (refine' c_worth _ _ ?C (h01 _ (by assumption)) ?_; (case C => walk_at "my cx"); walk_at "my back")
  k_with "my mult" => k_dflt (refine mul_int ?_ (mul_ok_pow (by assumption) (by assumption) (by omega) (by omega)))
  k_with "my loop" =>
   k_dflt ((rename Fr _ _ _ _ => lF'); (rename News _ _ _ _ => lN'); (refine' kst_strs (σ := Int × Tok × Int × Tok) worthS (fun _ => []) (fun c => [(Str.ofString "packed", .int c.1 c.2.1), (Str.ofString "ones", .int c.2.2.1 c.2.2.2)]) (fun _ => True) [] (fun pre c => (c.1, c.2.2.1) = pre.foldl (bookStep ((xs.getD (Int.toNat 0) Str.empty).length + 1)) (0, 0) ∧ 0 ≤ c.1 ∧ c.1 < 2 ^ (20 * pre.length) ∧ 0 ≤ c.2.2.1 ∧ c.2.2.1 < 2 ^ (20 * pre.length)) ⟨0, _, 0, _⟩ rfl ?hl ?hi lF' lN' trivial ?hk ?hp ?turn ?done); (case hl => assumption); (case hi => assumption); (case hk => kst_all); (case hp => exact ⟨rfl, Int.le_refl _, (by show (0 : Int) < 2 ^ (20 * 0); decide), Int.le_refl _, (by show (0 : Int) < 2 ^ (20 * 0); decide)⟩); (case' turn => (intro c pre post n t u h tk own hE hm hpl hoff hf hP F N; obtain ⟨p, tp, o, to⟩ := c; obtain ⟨hP1, hP2, hP3, hP4, hP5⟩ := hP; (dsimp only at hP1 hP2 hP3 hP4 hP5); (try dsimp only [kstB] at F); (try simp only [List.nil_append, List.cons_append] at N); (have hMk := kstMark))); (case' done => (intro c u h tk hf hP F N; obtain ⟨p, tp, o, to⟩ := c; obtain ⟨hP1, hP2, hP3, hP4, hP5⟩ := hP; (dsimp only at hP1 hP2 hP3 hP4 hP5); (try dsimp only [kstB] at F); (try simp only [List.nil_append, List.cons_append] at N))); (try clear lF'); (try clear lN'); (all_goals (try dsimp only)); (all_goals (try k_fold)))
  k_with "state" => exact book_step hP1 hP2 hP3 hP4 hP5 (worth_bound (h01 _ hm) (h12 _ hm)) (by omega) (by omega)
  w_top off
  walk_at "my enter"
  rename Heap.StaysIn _ _ => hG
  have hl' := stays_list hG hl
  walk_at "my steps"
  all_goals (try dsimp only)
  exact end_book hret hG (by k_asm) (by k_asm) (by assumption) (List.Mem.head _)
end
end Mine
end

section
open PySem PySem.W PyProof.Rows PySem.Calls
set_option Elab.async false
set_option maxRecDepth 100000
set_option maxHeartbeats 2000000
namespace Mine
section
variable {M : Model} {A : Around} {R : GenEnd} {Y : Protocol} {n : Nat} {s₀ : Shared} {c : Code} {fs : List Frame} {s : Shared} {env : Env}
  {K : Flow → Sem Fin} {H : Value → Sem Fin} {gd : Bool → Bool} {lv : List Value → List Value}

/-- what a loop's end does in the frame that started it -/
def ownK (env : Env) (K : Flow → Sem Fin) (H : Value → Sem Fin) (gd : Bool → Bool) (lv : List Value → List Value) : Result → Sem Fin := fun r =>
  ((match r with | .ok f => (.pure f : Sem Flow) | .error e => .raise e).onRaise fun (x : Value) => do
        if (← field x 1) == Value.none then unsupported "frame.own-activation:exception-without-traceback"
        setFlight x env.frame).wrap K H gd lv
theorem ownK_ok (f : Flow) : ownK env K H gd lv (.ok f) = K f := rfl

theorem seg_ForN {target iter : Expr} {body orelse : List Stmt} {pos : Pos}
    (h : wpAny M (A.over c fs) (eval iter env) (fun xv s₁ => wpAny M (A.over c fs) (pyIter xv) (fun it s₂ => ∀ p, Seg M A R Y n s₀ (.forLoop target it body orelse env) (M.den (.forLoop target it body orelse env))
      (.ret (ownK env K H gd lv) none (gd false) (lv []) c p [] :: fs) s₂) (fun _ _ => False) s₁) (fun _ _ => False) s)
    (hs : ∀ x, foldedSetIterable iter env x = pure x) :
    Seg M A R Y n s₀ c ((exec (.For target iter body orelse pos) env).wrap K H gd lv) fs s := by
  rw [exec_For]
  refine seg_bind_wrap (wpAny_standAt ?_)
  refine seg_bind_wrap (wpAny_mono h (fun xv s₁ h₁ => ?_) fun _ _ e => e.elim)
  refine seg_bind_wrap (wpAny_of_eq (hs xv) ?_)
  refine seg_bind_wrap (wpAny_standAt ?_)
  refine seg_bind_wrap (wpAny_holding (wpAny_mono h₁ (fun it s₂ h₂ => ?_) fun _ _ e => e.elim))
  exact seg_call h₂

theorem seg_IfN {test : Expr} {body orelse : List Stmt} {pos : Pos}
    (h : wpAny M (A.over c fs) (isTrue test env (eval test env)) (fun b s' => Seg M A R Y n s₀ c ((if b = true then execs body env else execs orelse env).wrap K H gd lv) fs s') (fun _ _ => False) s) :
    Seg M A R Y n s₀ c ((exec (.If test body orelse pos) env).wrap K H gd lv) fs s := by
  rw [exec_If]
  refine seg_bind_wrap (wpAny_standAt ?_)
  refine seg_bind_wrap (wpAny_mono h (fun b s₁ h₁ => h₁) fun _ _ e => e.elim)

theorem seg_execN {st : Stmt} {K' : Flow → Sem Fin}
    (h : wpAny M (A.over c fs) (exec st env) (fun f s' => Seg M A R Y n s₀ c (K' f) fs s') (fun _ _ => False) s) :
    Seg M A R Y n s₀ c ((exec st env).wrap K' H gd lv) fs s :=
  seg_wrap (wpAny_mono h (fun _ _ x => x) fun _ _ e => e.elim)
theorem seg_WhileN {test : Expr} {body orelse : List Stmt} {pos : Pos}
    (h : ∀ p, Seg M A R Y n s₀ (.whileLoop test body orelse env) (M.den (.whileLoop test body orelse env))
      (.ret (ownK env K H gd lv) none (gd false) (lv []) c p [] :: fs) s) :
    Seg M A R Y n s₀ c ((exec (.While test body orelse pos) env).wrap K H gd lv) fs s :=
  seg_at (seg_call h)
end

section
variable {prog : Program} {w : World} {A : Around} {R : GenEnd} {Y : Protocol} {n : Nat} {s₀ : Shared} {fs : List Frame} {s : Shared} {env : Env}
/-- what a loop's turn does with an exception -/
def notedH (env : Env) : Value → Sem Fin := fun e => (do noteFrame e env; theTreesLotGoes e : Sem Unit).wrap (fun _ => .raise e) .raise id id

theorem seg_forLoopN {target : Expr} {it : Value} {body : List Stmt}
    (h : wpAny (model prog w) (A.over (.forLoop target it body [] env) fs) (pyNext it) (fun r s' => match r with
        | none => Seg (model prog w) A R Y n s₀ (.forLoop target it body [] env) (.pure (.again (.block [] env))) fs s'
        | some v => wpAny (model prog w) (A.over (.forLoop target it body [] env) fs) (letOwnedTupleGo target it v) (fun _ s₁ =>
            wpAny (model prog w) (A.over (.forLoop target it body [] env) fs) (assign target env v) (fun _ s₂ =>
              Seg (model prog w) A R Y n s₀ (.forLoop target it body [] env) ((execs body env).wrap (fun f => match f with
                | .next | .cont => .pure (.again (.forLoop target it body [] env))
                | .brk => .pure (.done .next)
                | .ret v => .pure (.done (.ret v))) (notedH env) id id) fs s₂) (fun _ _ => False) s₁) (fun _ _ => False) s') (fun _ _ => False) s) :
    Seg (model prog w) A R Y n s₀ (.forLoop target it body [] env) ((model prog w).den (.forLoop target it body [] env)) fs s := by
  show Seg _ A R Y n s₀ _ ((forTurn target it body [] env).onRaise (fun x => do noteFrame x env; theTreesLotGoes x)) fs s
  unfold forTurn
  rw [Sem.onRaise_eq_wrap]
  refine seg_bind_wrap (wpAny_standAt ?_)
  refine seg_bind_wrap (wpAny_onRaise (wpAny_mono h (fun r s' h₁ => ?_) fun _ _ e => e.elim))
  cases r with
  | none => exact h₁
  | some v =>
    refine seg_bind_wrap (wpAny_mono h₁ (fun _ s₁ h₂ => ?_) fun _ _ e => e.elim)
    refine seg_bind_wrap (wpAny_mono h₂ (fun _ s₂ h₃ => ?_) fun _ _ e => e.elim)
    rw [Sem.bind_eq_wrap', Sem.wrap_wrap]
    rw [Sem.wrap_congr (execs body env) _ _ (K' := fun f => match f with
            | .next | .cont => .pure (.again (.forLoop target it body [] env))
            | .brk => .pure (.done .next)
            | .ret v => .pure (.done (.ret v))) (H' := notedH env)
        (fun f => by cases f <;> rfl)
        (fun e => by first | exact Sem.bind_eq_wrap _ _ | (show (do noteFrame e env; theTreesLotGoes e : Sem Unit).bind (fun _ => .raise e) = _; rw [Sem.bind_eq_wrap]; rfl))]
    exact h₃

theorem seg_block_nil (hk : Seg (model prog w) A R Y n s₀ (.block [] env) (.pure (.done .next)) fs s) {c : Code} :
    Seg (model prog w) A R Y n s₀ c (.pure (.again (.block [] env))) fs s := seg_again rfl hk
end
end Mine
end

section
open PySem PySem.W PyProof.Rows PySem.Calls
set_option Elab.async false
set_option maxRecDepth 100000
set_option maxHeartbeats 2000000
namespace Mine
section
variable {prog : Program} {w : World} {A : Around} {E : Value → Shared → Prop} {s : Shared}
theorem pyNext_genQ {a : Addr} {g n : Nat} {gs : GenState} {P : Nat → Shared → Shared → Prop} {Y : Protocol} {Q : Option Value → Shared → Prop} (hh : A.handled = none)
    (hl : s.heap.NoLimit) (hroom : A.depth < recursionLimit)
    (hg : s.heap.IsGen a g) (hgs : s.gens[g]? = some gs)
    (hgo : gs.Goes (model prog w) A.in1 (fun n s₀ r s₁ => r = .ok (.ret .none) ∧ P n s₀ s₁) Y n (.send .none) (s.setGen g .running))
    (hY : ∀ v s₁ gs', gs'.bare = true → Y (n - 1) (s.setGen g .running) v s₁ (fun r' s'' => match n with
        | 0 => False
        | m + 1 => gs'.Goes (model prog w) A.in1 (fun n s₀ r s₁ => r = .ok (.ret .none) ∧ P n s₀ s₁) Y m r' s'') → Q (some v) (s₁.setGen g gs'))
    (hP : ∀ s₁, P n (s.setGen g .running) s₁ → ∀ h', (∀ b o, s₁.heap.get? b = some o → h'.get? b = some o) → Q none { s₁.setGen g .finished with heap := h' }) :
    wpAny (model prog w) A (pyNext (.ref a)) Q E s := by
  unfold pyNext
  refine wpAny_bind (wpAny_attempt (wpAny_callSpecial?_slot (name := Str.ofString "__next__") hg.typeIs slot_gen_next
    (wpAny_call_entry slot_gen_next hg.typeIs entry_gen_next ?_ (args_gen_next _))))
  show wpAny _ A.in1 (Builtin.Generator.genWake (.ref a) (.send .none)) _ _ s
  unfold Builtin.Generator.genWake
  refine wpAny_bind (wpAny_holding (wpAny_genNumber hg (wpAny_bind (wpAny_genState hgs ?_))))
  cases gs with
  | running => exact hgo.elim
  | finished => exact hgo.elim
  | _ =>
    refine wpAny_bind (wpAny_roomToWake hl hroom ?_)
    show wpAny _ A.in1 (.resume g (.send .none) [] _) _ _ s
    refine wpAny_resumeQ hgs hgo (fun x s₁ hx => ?_) (fun v s₁ gs' hb hv => ?_)
    · obtain ⟨rfl, hp⟩ := hx
      show wpAny _ A.in1 (newExc (.type "StopIteration") [] >>= _) _ _ _
      refine wpAny_bind ?_
      simp only [newExc, newTuple]
      refine wpAny_bind (wpAny_newObj_type ?_ (by size_fits))
      refine wpAny_bind (m := firstArgMember _ _) (wpAny_of_eq (a := Value.none) (by first | rfl | (simp only [firstArgMember]; rfl)) ?_)
      refine wpAny_newObj_type ?_ (by size_fits)
      simp only [raiseNew]
      refine wpAny_bind (wpAny_bind (wpAny_handled ?_))
      first | rw [show A.in1.handled = none from hh] | rw [hh]
      refine wpAny_throw ?_
      refine wpAny_bind (wpAny_isInstance (T := "StopIteration") (b := true) ⟨_, Heap.get?_push_size _ rfl, rfl⟩ isSubtype_stop ?_)
      exact wpAny_pure (hP s₁ hp _ fun b o hb => Heap.get?_push_of_some _ (Heap.get?_push_of_some _ hb))
    · exact wpAny_pure ⟨v, rfl, wpAny_pure (hY v s₁ gs' hb hv)⟩
end

/-- what the generator still yields: at most n values, from the rest of the row, with the last interval -/
def fut : List Int → Option Int → Nat → List Int
  | _, _, 0 => []
  | [], _, _ => []
  | r :: rs, last, n + 1 => if r = 127 then [] else if r = 0 then (match last with | some v => List.replicate (n + 1) v | none => []) else r :: fut rs (some r) n
theorem fut_zero (row : List Int) (last : Option Int) : fut row last 0 = [] := by cases row <;> rfl

theorem fut_cons (r : Int) (rs : List Int) (last : Option Int) (n : Nat) : fut (r :: rs) last (n + 1) = if r = 127 then [] else if r = 0 then (match last with | some v => List.replicate (n + 1) v | none => []) else r :: fut rs (some r) n := by
  rw [fut.eq_def]
/-- the generator's names -/
def gm (l : Addr) (iv : Option Value) (lv : Value) : Str → Option Value := fun y =>
  if y = Str.ofString "interval" then iv else if y = Str.ofString "last_interval" then some lv else if y = Str.ofString "grouping" then some (.ref l) else none

/-- a run of the generator's -/
def GStep (N₁ : Nat) (C : Addr) (s₀ s : Shared) : Prop :=
  ∃ h' tk, s = { s₀ with heap := h', toks := tk } ∧ ∀ b o, b < N₁ → b ≠ C → s₀.heap.get? b = some o → h'.get? b = some o
theorem GStep.refl (N₁ : Nat) (C : Addr) (s : Shared) : GStep N₁ C s s := ⟨s.heap, s.toks, rfl, fun _ _ _ _ e => e⟩
theorem GStep.step {N₁ : Nat} {C : Addr} {s₀ s : Shared} (x : GStep N₁ C s₀ s) {h' : Heap} {tk : Nat} (hk : ∀ b o, b < N₁ → b ≠ C → s.heap.get? b = some o → h'.get? b = some o) :
    GStep N₁ C s₀ { s with heap := h', toks := tk } := by
  obtain ⟨h₁, tk₁, rfl, hk₁⟩ := x
  exact ⟨h', tk, rfl, fun b o hb hC e => hk b o hb hC (hk₁ b o hb hC e)⟩
def GBack (L D : Addr) (s s'' : Shared) : Prop := ∀ b o, b ≠ L → b ≠ D → s.heap.get? b = some o → s''.heap.get? b = some o
def gProto (vals : List Int) (N₁ : Nat) (C L D : Addr) : Protocol := fun m s₀ v s kap =>
  (∃ t, v = .int (vals.getD (11 - m) 0) t) ∧ 11 - m < vals.length ∧ GStep N₁ C s₀ s ∧ (0 < m → ∀ s'', GBack L D s s'' → kap (.send .none) s'')
def gEnd (vals : List Int) (N₁ : Nat) (C : Addr) : Nat → Shared → Shared → Prop := fun n s₀ s => vals.length ≤ 12 - n ∧ GStep N₁ C s₀ s
abbrev gR (vals : List Int) (N₁ : Nat) (C : Addr) : GenEnd := fun n s₀ r s => r = .ok (.ret .none) ∧ gEnd vals N₁ C n s₀ s

theorem drop_head {vals : List Int} {k : Nat} {v : Int} {r : List Int} (h : vals.drop k = v :: r) : vals.getD k 0 = v ∧ k < vals.length ∧ vals.drop (k + 1) = r := by
  have hk : k < vals.length := by
    apply Nat.lt_of_not_le
    intro hc
    rw [List.drop_eq_nil_of_le hc] at h
    cases h
  rw [List.drop_eq_getElem_cons hk] at h
  refine ⟨?_, hk, (List.cons.inj h).2⟩
  rw [List.getD_eq_getElem?_getD, List.getElem?_eq_getElem hk, (List.cons.inj h).1]; rfl

section
variable {prog : Program} {w : World} {A : Around} {vals : List Int} {N₁ : Nat} {C L D l I : Addr} {g : Heap} {env : Env}

structure GParts (prog : Program) (w : World) (g : Heap) (C l : Addr) (env : Env) (st1 : Stmt) (test2 : Expr) (st3 : Stmt) (tt e1 e2 : Expr) (st4 : Stmt) : Prop where
  s1 : ∀ (A : Around) (s : Shared) (r : Int) (t : Tok) (lv : Value), Fr g C s.heap (gm l (some (.int r t)) lv) →
    wpAny (model prog w) A (exec st1 env) (fun f s' => f = (if r = 127 then Flow.ret .none else .next) ∧ ∃ tk, s' = { s with toks := tk }) (fun _ _ => False) s
  t2 : ∀ (A : Around) (s : Shared) (r : Int) (t : Tok) (lv : Value), Fr g C s.heap (gm l (some (.int r t)) lv) →
    wpAny (model prog w) A (isTrue test2 env (eval test2 env)) (fun b s' => b = decide (r = 0) ∧ ∃ tk, s' = { s with toks := tk }) (fun _ _ => False) s
  s3 : ∀ (A : Around) (s : Shared) (r v : Int) (t u : Tok), Fr g C s.heap (gm l (some (.int r t)) (.int v u)) →
    wpAny (model prog w) A (exec st3 env) (fun f s' => f = .next ∧ ∃ tk, s' = { s with toks := tk }) (fun _ _ => False) s
  tt : ∀ (A : Around) (s : Shared), wpAny (model prog w) A (isTrue tt env (eval tt env)) (fun b s' => b = true ∧ ∃ tk, s' = { s with toks := tk }) (fun _ _ => False) s
  e1 : ∀ (A : Around) (s : Shared) (r v : Int) (t u : Tok), Fr g C s.heap (gm l (some (.int r t)) (.int v u)) →
    wpAny (model prog w) A (eval e1 env) (fun x s' => x = .int v u ∧ ∃ tk, s' = { s with toks := tk }) (fun _ _ => False) s
  e2 : ∀ (A : Around) (s : Shared) (r : Int) (t : Tok) (lv : Value), Fr g C s.heap (gm l (some (.int r t)) lv) →
    wpAny (model prog w) A (eval e2 env) (fun x s' => x = .int r t ∧ ∃ tk, s' = { s with toks := tk }) (fun _ _ => False) s
  s4 : ∀ (A : Around) (s : Shared) (r : Int) (t : Tok) (lv : Value), Fr g C s.heap (gm l (some (.int r t)) lv) →
    wpAny (model prog w) A (exec st4 env) (fun f s' => f = .next ∧ ∃ h' tk, s' = { s with heap := h', toks := tk } ∧ Heap.SameBut C s.heap h' ∧ Fr g C h' (gm l (some (.int r t)) (.int r t))) (fun _ _ => False) s

variable {st1 : Stmt} {test2 : Expr} {st3 : Stmt} {tt e1 e2 : Expr} {st4 : Stmt}

/-- the endless loop -/
theorem gen_while (P : GParts prog w g C l env st1 test2 st3 tt e1 e2 st4) (hco : env.scope.isCoroutine = false) (hint : interactive env = false) (hCL : C ≠ L) (hCD : C ≠ D) (hgL : g.get? L = none) (hgD : g.get? D = none) {yp pp : Pos} {r v : Int} {t u : Tok} :
    ∀ (n : Nat) (fs : List Frame) (s₀ s : Shared), 1 ≤ n → n ≤ 12 → splitAtGen fs = none → fs.any Frame.guarded = false → Fr g C s.heap (gm l (some (.int r t)) (.int v u)) → GStep N₁ C s₀ s → vals.drop (12 - n) = List.replicate n v →
      Seg (model prog w) A (gR vals N₁ C) (gProto vals N₁ C L D) n s₀ (.whileLoop tt [.Expr (.Yield (some e1) yp) pp] [] env) ((model prog w).den (.whileLoop tt [.Expr (.Yield (some e1) yp) pp] [] env)) fs s := by
  intro n
  induction n with
  | zero => intro fs s₀ s h; omega
  | succ n ih =>
    intro fs s₀ s _ hn12 hfs hgu F hS hv
    refine seg_whileLoop (wpAny_mono (P.tt _ s) (fun b s' hb => ?_) fun _ _ e => e.elim)
    obtain ⟨rfl, tk, rfl⟩ := hb
    rw [if_pos rfl]
    refine seg_execs_cons ?_
    refine seg_Expr_Yield hfs rfl hgu (wpAny_mono (P.e1 _ { s with toks := tk } r v t u F) (fun x s' hx => ?_) fun _ _ e => e.elim) hco hint
    obtain ⟨rfl, tk', rfl⟩ := hx
    intro kap hk
    obtain ⟨v1, v2, v3⟩ := drop_head (by rw [hv]; rfl : vals.drop (12 - (n + 1)) = v :: List.replicate n v)
    have e11 : 11 - n = 12 - (n + 1) := by omega
    refine ⟨⟨u, by rw [e11, v1]⟩, by rw [e11]; exact v2, (hS.step (tk := tk) fun _ _ _ _ e => e).step (tk := tk') fun _ _ _ _ e => e, fun hpos s'' back => hk .none s'' ?_⟩
    refine seg_execs_nil (env := env) ?_
    refine seg_again rfl (ih fs s'' s'' hpos (by omega) hfs hgu ?_ (GStep.refl _ _ _) ?_)
    · obtain ⟨oL, a1, a2, hL, a3⟩ := F.ns
      exact ⟨⟨oL, a1, a2, back _ _ hCL hCD hL, a3⟩, fun b o e => back b o (fun q => by rw [q, hgL] at e; cases e) (fun q => by rw [q, hgD] at e; cases e) (F.keep b o e), F.above⟩
    · have : 12 - n = 12 - (n + 1) + 1 := by omega
      rw [this, v3]

/-- the row's loop -/
theorem gen_for (P : GParts prog w g C l env st1 test2 st3 tt e1 e2 st4) (hco : env.scope.isCoroutine = false) (hint : interactive env = false) (hA : A.handled = none) (hloc : env.locals = C) (hkf : env.scope.kind = .function) (hxk : env.kindOf (Str.ofString "interval") = some .local)
    (hCL : C ≠ L) (hCD : C ≠ D) (hIL : I ≠ L) (hID : I ≠ D) (hIC : I ≠ C) (hlI : l ≠ I) (hN : N₁ ≤ I) (hgL : g.get? L = none) (hgD : g.get? D = none) (hgI : g.get? I = none) (hgC : g.get? C = none)
    {vs : List Value} {row : List Int} (hl : g.IsList l vs.toArray) (hi : IntsAre vs row)
    {px p1 yp pp yp2 pp2 pw : Pos} {kk : Result → Sem Fin} {cF : Code} {pF : Pos}
    (hK1 : ∀ (n : Nat) (s₀ s : Shared), gEnd vals N₁ C n s₀ s → Seg (model prog w) A (gR vals N₁ C) (gProto vals N₁ C L D) n s₀ cF (kk (.ok .next)) [] s)
    (hK2 : ∀ (n : Nat) (s₀ s : Shared), gEnd vals N₁ C n s₀ s → Seg (model prog w) A (gR vals N₁ C) (gProto vals N₁ C L D) n s₀ cF (kk (.ok (.ret .none))) [] s) :
    ∀ (k i : Nat) (n : Nat) (s₀ s : Shared) (iv : Option Value) (last : Option Int) (lv : Value), row.length - i = k → i ≤ row.length → 1 ≤ n → n ≤ 12 →
      (match last with | some v => ∃ u, lv = .int v u | none => lv = .none) → (last = none → ∀ x, row[i]? = some x → x ≠ 0) →
      Fr g C s.heap (gm l iv lv) → s.heap.IsListIter I l i → GStep N₁ C s₀ s → vals.drop (12 - n) = fut (row.drop i) last n →
      Seg (model prog w) A (gR vals N₁ C) (gProto vals N₁ C L D) n s₀ (.forLoop (.Name (Str.ofString "interval") px) (.ref I) [st1, .If test2 [st3, .While tt [.Expr (.Yield (some e1) yp) pp] [] pw] [] p1, .Expr (.Yield (some e2) yp2) pp2, st4] [] env)
        ((model prog w).den (.forLoop (.Name (Str.ofString "interval") px) (.ref I) [st1, .If test2 [st3, .While tt [.Expr (.Yield (some e1) yp) pp] [] pw] [] p1, .Expr (.Yield (some e2) yp2) pp2, st4] [] env))
        [.ret kk none false [] cF pF []] s := by
  intro k
  induction k with
  | zero =>
    intro i n s₀ s iv last lv hk hi' hn1 hn12 hlast hne F hit hS hv
    have hin : i = row.length := by omega
    subst hin
    refine seg_forLoopN ?_
    have hls : s.heap.IsList l vs.toArray := hl.at fun o e => F.keep l o e
    refine (Walks.list (prog := prog) (w := w) (by show (marksOver [Frame.ret kk none false [] cF pF []] (A.handled, A.handled)).1 = none; rw [hA]; rfl) I l hlI vs.toArray).done s _ _ ⟨by simpa [hi.length] using hit, hls⟩ ?_
    intro h' tk hk'
    refine seg_block_nil (seg_leaf (.ok .next) (hK1 _ _ _ ⟨?_, hS.step fun b o hb hC e => hk' b o (fun q => ?_) e⟩))
    · rw [List.drop_length] at hv
      have hv' : vals.drop (12 - n) = [] := by rw [hv]; cases n <;> rfl
      have := congrArg List.length hv'
      simp only [List.length_drop, List.length_nil] at this
      omega
    · have := List.mem_singleton.mp q; exact absurd hb (by rw [this]; exact Nat.not_lt.mpr hN)
  | succ k ih =>
    intro i n s₀ s iv last lv hk hi' hn1 hn12 hlast hne F hit hS hv
    have hlt : i < row.length := by omega
    obtain ⟨n, rfl⟩ : ∃ m, n = m + 1 := ⟨n - 1, by omega⟩
    refine seg_forLoopN ?_
    have hls : s.heap.IsList l vs.toArray := hl.at fun o e => F.keep l o e
    have hsz : vs.toArray.size = row.length := by simp [hi.length]
    refine (Walks.list (prog := prog) (w := w) (by show (marksOver [Frame.ret kk none false [] cF pF []] (A.handled, A.handled)).1 = none; rw [hA]; rfl) I l hlI vs.toArray).item i s _ _ (by rw [hsz]; exact hlt) ⟨hit, hls⟩ ?_
    intro v h₁ tk₁ hP hst hk₁
    obtain ⟨t, hx⟩ := hi.get i row[i] (by simp [hlt])
    have hv' : v = .int row[i] t := by
      have hP' : vs[i]? = some v := by simpa using hP
      rw [hx] at hP'; exact (Option.some.inj hP').symm
    subst hv'
    have hdrop : row.drop i = row[i] :: row.drop (i + 1) := List.drop_eq_getElem_cons hlt
    rw [hdrop] at hv
    have hne' : last = none → row[i] ≠ 0 := fun e => hne e row[i] (by simp [hlt])
    generalize hr : row[i] = r at *
    have hCI : ∀ b, b < N₁ → b ∉ [I] := fun b hb q => absurd hb (by rw [List.mem_singleton.mp q]; exact Nat.not_lt.mpr hN)
    have hn₁ : h₁.Ns env.locals (gm l iv lv) := by
      rw [hloc]
      obtain ⟨oL, a1, a2, hL, a3⟩ := F.ns
      exact ⟨oL, a1, a2, hk₁ _ _ (fun q => hIC (List.mem_singleton.mp q).symm) hL, a3⟩
    refine wpAny_of_eq (rfl : letOwnedTupleGo (.Name (Str.ofString "interval") px) (.ref I) (.int r t) = pure ()) ?_
    refine wpAny_assign_Name (wpAny_storeName_local hxk hn₁ (fun h₂ hn₂ hs₂ => ?_) (by rw [hkf]; rfl))
    have em : (fun y => if y = Str.ofString "interval" then some (Value.int r t) else gm l iv lv y) = gm l (some (.int r t)) lv := by
      funext y
      unfold gm
      by_cases h1 : y = Str.ofString "interval"
      · rw [if_pos h1, if_pos h1]
      · rw [if_neg h1, if_neg h1, if_neg h1]
    rw [em, hloc] at hn₂
    rw [hloc] at hs₂
    have keep₂ : ∀ b o, b ≠ C → b ≠ I → s.heap.get? b = some o → h₂.get? b = some o := fun b o hC hI e => hs₂.extBut b o hC (hk₁ b o (fun q => hI (List.mem_singleton.mp q)) e)
    have F₂ : Fr g C h₂ (gm l (some (.int r t)) lv) := ⟨hn₂, fun b o e => keep₂ b o (fun q => by rw [q, hgC] at e; cases e) (fun q => by rw [q, hgI] at e; cases e) (F.keep b o e), F.above⟩
    have hit₂ : h₂.IsListIter I l (i + 1) := hst.1.at fun o e => hs₂.extBut I o hIC e
    have hS₂ : ∀ tk, GStep N₁ C s₀ { s with heap := h₂, toks := tk } := fun tk => hS.step fun b o hb hC e => keep₂ b o hC (fun q => absurd hb (by rw [q]; exact Nat.not_lt.mpr hN)) e
    refine seg_execs_cons (seg_execN (wpAny_mono (P.s1 _ _ r t lv F₂) (fun f s' hf => ?_) fun _ _ e => e))
    obtain ⟨rfl, tk, rfl⟩ := hf
    by_cases h127 : r = 127
    · rw [if_pos h127]
      refine seg_leaf (.ok (.ret .none)) (hK2 _ _ _ ⟨?_, hS₂ tk⟩)
      have : vals.drop (12 - (n + 1)) = [] := by rw [hv, fut_cons, if_pos h127]
      have := congrArg List.length this
      simp only [List.length_drop, List.length_nil] at this
      omega
    · rw [if_neg h127]
      rw [fut_cons, if_neg h127] at hv
      refine seg_execs_cons (seg_IfN (wpAny_mono (P.t2 _ _ r t lv F₂) (fun b s' hb => ?_) fun _ _ e => e))
      obtain ⟨rfl, tk', rfl⟩ := hb
      by_cases h0 : r = 0
      · rw [decide_eq_true h0, if_pos rfl]
        cases last with
        | none => exact absurd h0 (hne' rfl)
        | some v =>
          obtain ⟨u, rfl⟩ := hlast
          rw [if_pos h0] at hv
          refine seg_execs_cons (seg_execN (wpAny_mono (P.s3 _ _ r v t u F₂) (fun f s' hf => ?_) fun _ _ e => e))
          obtain ⟨rfl, tk'', rfl⟩ := hf
          refine seg_execs_cons (seg_WhileN fun p => ?_)
          exact gen_while P hco hint hCL hCD hgL hgD (n + 1) _ _ _ hn1 hn12 rfl rfl F₂ (hS₂ tk'') hv
      · rw [decide_eq_false h0, if_neg Bool.false_ne_true]
        rw [if_neg h0] at hv
        refine seg_execs_nil (env := env) ?_
        refine seg_execs_cons ?_
        refine seg_Expr_Yield rfl rfl rfl (wpAny_mono (P.e2 _ _ r t lv F₂) (fun x s' hx => ?_) fun _ _ e => e.elim) hco hint
        obtain ⟨rfl, tk'', rfl⟩ := hx
        intro kap hk
        obtain ⟨v1, v2, v3⟩ := drop_head hv
        have e11 : 11 - n = 12 - (n + 1) := by omega
        refine ⟨⟨t, by rw [e11, v1]⟩, by rw [e11]; exact v2, hS₂ tk'', fun hpos s'' back => hk .none s'' ?_⟩
        have F₃ : Fr g C s''.heap (gm l (some (.int r t)) lv) := by
          obtain ⟨oL, a1, a2, hL, a3⟩ := F₂.ns
          exact ⟨⟨oL, a1, a2, back _ _ hCL hCD hL, a3⟩, fun b o e => back b o (fun q => by rw [q, hgL] at e; cases e) (fun q => by rw [q, hgD] at e; cases e) (F₂.keep b o e), F₂.above⟩
        refine seg_execs_cons (seg_execN (wpAny_mono (P.s4 _ s'' r t lv F₃) (fun f s' hf => ?_) fun _ _ e => e))
        obtain ⟨rfl, h₄, tk₄, rfl, hs₄, F₄⟩ := hf
        refine seg_execs_nil (env := env) ?_
        refine seg_again rfl (ih (i + 1) n s'' _ (some (.int r t)) (some r) (.int r t) (by omega) (by omega) hpos (by omega) ⟨t, rfl⟩ (fun e => by cases e) F₄ ?_ ?_ ?_)
        · exact (hit₂.at fun o e => back I o hIL hID e).at fun o e => hs₄.extBut I o hIC e
        · exact (GStep.refl _ _ s'').step fun b o hb hC e => hs₄.extBut b o hC e
        · have : 12 - n = 12 - (n + 1) + 1 := by omega
          rw [this, v3]
end
end Mine
end

section
open PySem PySem.W PyProof.Rows PySem.Calls
set_option Elab.async false
set_option maxRecDepth 100000
set_option maxHeartbeats 2000000
namespace Mine
theorem fut_length (row : List Int) : ∀ (last : Option Int) (n : Nat), (fut row last n).length ≤ n := by
  induction row with
  | nil => intro last n; cases n <;> simp [fut]
  | cons r rs ih =>
    intro last n
    cases n with
    | zero => rw [fut_zero]; exact Nat.le_refl _
    | succ n =>
      rw [fut_cons]
      split
      · exact Nat.zero_le _
      · split
        · cases last with
          | none => exact Nat.zero_le _
          | some v => rw [List.length_replicate]; exact Nat.le_refl _
        · rw [List.length_cons]; exact Nat.succ_le_succ (ih _ _)

section
variable {prog : Program} {w : World} {A : Around} {N₁ : Nat} {C L D l : Addr} {g : Heap} {env : Env} {st1 : Stmt} {test2 : Expr} {st3 : Stmt} {tt e1 e2 : Expr} {st4 stA : Stmt} {iter : Expr}

theorem gen_start (P : GParts prog w g C l env st1 test2 st3 tt e1 e2 st4) (hco : env.scope.isCoroutine = false) (hint : interactive env = false) (hA : A.handled = none) (hloc : env.locals = C) (hkf : env.scope.kind = .function) (hxk : env.kindOf (Str.ofString "interval") = some .local)
    (hCL : C ≠ L) (hCD : C ≠ D) (hLN : L < N₁) (hDN : D < N₁) (hCN : C < N₁) (hgL : g.get? L = none) (hgD : g.get? D = none) (hgC : g.get? C = none)
    {vs : List Value} {row : List Int} (hl : g.IsList l vs.toArray) (hi : IntsAre vs row) (hne : ∀ x, row[0]? = some x → x ≠ 0)
    (sA : ∀ (A : Around) (s : Shared), Fr g C s.heap (fun y => ([(Str.ofString "grouping", Value.ref l)] : List (Str × Value)).reverse.lookup y) →
      wpAny (model prog w) A (exec stA env) (fun f s' => f = .next ∧ ∃ h' tk, s' = { s with heap := h', toks := tk } ∧ Heap.SameBut C s.heap h' ∧ Fr g C h' (gm l none .none)) (fun _ _ => False) s)
    (eI : ∀ (A : Around) (s : Shared), Fr g C s.heap (gm l none .none) → wpAny (model prog w) A (eval iter env) (fun x s' => x = .ref l ∧ ∃ tk, s' = { s with toks := tk }) (fun _ _ => False) s)
    (hs : ∀ x, foldedSetIterable iter env x = pure x) {px p1 yp pp yp2 pp2 pw pf : Pos} {s : Shared}
    (F : Fr g C s.heap (fun y => ([(Str.ofString "grouping", Value.ref l)] : List (Str × Value)).reverse.lookup y)) (hN : N₁ ≤ s.heap.objs.size) :
    Seg (model prog w) A (gR (fut row none 12) N₁ C) (gProto (fut row none 12) N₁ C L D) 12 s
      (.func [stA, .For (.Name (Str.ofString "interval") px) iter [st1, .If test2 [st3, .While tt [.Expr (.Yield (some e1) yp) pp] [] pw] [] p1, .Expr (.Yield (some e2) yp2) pp2, st4] [] pf] env)
      ((model prog w).den (.func [stA, .For (.Name (Str.ofString "interval") px) iter [st1, .If test2 [st3, .While tt [.Expr (.Yield (some e1) yp) pp] [] pw] [] p1, .Expr (.Yield (some e2) yp2) pp2, st4] [] pf] env)) [] s := by
  refine seg_func (seg_execs_cons (seg_execN (wpAny_mono (sA _ s F) (fun f s' hf => ?_) fun _ _ e => e)))
  obtain ⟨rfl, h₁, tk₁, rfl, hs₁, F₁⟩ := hf
  refine seg_execs_cons (seg_ForN (wpAny_mono (eI _ { s with heap := h₁, toks := tk₁ } F₁) (fun x s' hx => ?_) fun _ _ e => e) hs)
  obtain ⟨rfl, tk₂, rfl⟩ := hx
  have hsz : h₁.objs.size = s.heap.objs.size := hs₁.1
  refine wpAny_pyIter_list (hl.at fun o e => F₁.keep l o e) ?_
  intro p
  have hI : N₁ ≤ h₁.objs.size := by rw [hsz]; exact hN
  have hgI : g.get? h₁.objs.size = none := by
    cases q : g.get? h₁.objs.size with
    | none => rfl
    | some o => exact absurd (Heap.lt_size (F₁.keep _ _ q)) (Nat.lt_irrefl _)
  obtain ⟨ol, hol, _⟩ := id hl
  refine gen_for (I := h₁.objs.size) P hco hint hA hloc hkf hxk hCL hCD (Nat.ne_of_gt (Nat.lt_of_lt_of_le hLN hI)) (Nat.ne_of_gt (Nat.lt_of_lt_of_le hDN hI)) (Nat.ne_of_gt (Nat.lt_of_lt_of_le hCN hI))
    (Nat.ne_of_lt (Heap.lt_size (F₁.keep _ _ hol))) hI hgL hgD hgI hgC hl hi ?_ ?_ row.length 0 12 s _ none none .none rfl (Nat.zero_le _) (by decide) (Nat.le_refl _) rfl (fun _ => hne) (F₁.push _)
    ⟨_, Heap.get?_push_size _ rfl, rfl, rfl⟩ ?_ rfl
  · intro n s₀ s' he
    exact seg_end (.ok (.ret .none)) ⟨rfl, he⟩
  · intro n s₀ s' he
    exact seg_end (.ok (.ret .none)) ⟨rfl, he⟩
  · exact (GStep.refl _ _ s).step fun b o hb hC e => Heap.get?_push_of_some _ (hs₁.extBut b o hC e)
end

section
variable {w : World} {mean : ExcName → Option Value} {mg mb : Str → Option Value} {n : Nat} {A : Around} {s : Shared} {Q E : Value → Shared → Prop} {g : Heap} {L : Addr} {m : Str → Option Value}
    {name qual : Str} {params : Arguments} {body : List Stmt} {scope : Scope} {dV kV doc pm cdv ct oc : Value} {an od : Option Addr} {osl : Array (Option Value)} {f : Addr}
    {pos : List Value} {binds : List (Str × Value)}
/-- a generator function called -/
theorem callGen (F : Fr g L s.heap m) (X : Frag.In (hd.heap_39 w.params) g) (T : Top hd.view_39 (looseW hd.view_39 []) mean mg mb g) (hroom : A.depth < recursionLimit)
    (ho : List.lookup f (hd.heap_39 w.params) = some ⟨oc, od, .func (fnOf name qual params body scope dV kV doc pm an cdv ct), osl⟩)
    (hcd : codeIn (hd.heap_39 w.params) cdv qual = true)
    (hbind : BindsTo s (fnOf name qual params body scope dV kV doc pm an cdv ct) ⟨pos, []⟩ binds)
    (hloc : ∀ y ∈ binds, scope.names.lookup y.1 = some .local)
    (h : ∀ (h₁ : Heap) (tk : Nat) (nm qn : Value), h₁.Ns s.heap.objs.size (fun y => binds.reverse.lookup y) → (∀ b o, s.heap.get? b = some o → h₁.get? b = some o) → h₁.objs.size = s.heap.objs.size + 1 →
      Q (.ref h₁.objs.size) { s with gens := s.gens.push (.fresh (.func body (envOf qual scope s.heap.objs.size f cdv))), toks := tk, heap := h₁.push { cls := .type "generator", data := .fields #[.int s.gens.size 0, nm, qn] } })
    (hco : scope.isCoroutine = false) (hgen : scope.isGenerator = true) (hk : scope.kind = .function)
    (hcell : ∀ x ∈ scope.names, x.2 ≠ .cell) :
    wpAny (model PySem.Challenge.rw_st0003_01.row.prog w) A (call (.ref f) pos) Q E s := by
  refine wpAny_call ?_
  refine codeAny_call_generator (fd := fnOf name qual params body scope dV kV doc pm an cdv ct) hroom ((X.keeps F.keep) _ _ ho) rfl hco hgen rfl (codeRec_of (X.keeps F.keep) hcd) (hbind _ _ _ _ ?_)
  refine wpAny_newFunctionEnv hcell hloc (fun h₁ hns hsb => ?_) hk
  have keep : ∀ b o, s.heap.get? b = some o → h₁.get? b = some o := fun b o e => hsb.extBut b o (Nat.ne_of_lt (Heap.lt_size e)) (Heap.get?_push_of_some _ e)
  refine ⟨(T.nolimit.keeps F.keep).keeps keep, ?_⟩
  exact h h₁ _ _ _ hns keep (by rw [hsb.1, Heap.size_push])
end
end Mine
end

section
open PySem PySem.W PyProof.Rows PySem.Calls
set_option Elab.async false
set_option maxRecDepth 100000
set_option maxHeartbeats 2000000
namespace Mine
/-- all that stands beside -/
def ownAll (g : Heap) (L D : Addr) (h : Heap) : List (Addr × Obj) :=
  (List.range h.objs.size).filterMap fun b => if b = L ∨ b = D ∨ (g.get? b).isSome = true then none else (h.get? b).map fun o => (b, o)
theorem ownAll_mem {g h : Heap} {L D b : Addr} {o : Obj} : (b, o) ∈ ownAll g L D h ↔ b ≠ L ∧ b ≠ D ∧ g.get? b = none ∧ h.get? b = some o := by
  unfold ownAll
  rw [List.mem_filterMap]
  constructor
  · rintro ⟨b', _, e⟩
    split at e
    · cases e
    · rename_i hn
      obtain ⟨o', ho, e'⟩ := Option.map_eq_some_iff.mp e
      cases e'
      refine ⟨fun q => hn (.inl q), fun q => hn (.inr (.inl q)), ?_, ho⟩
      cases q : g.get? b with
      | none => rfl
      | some x => exact absurd (.inr (.inr (by rw [q]; rfl))) hn
  · rintro ⟨h1, h2, h3, h4⟩
    refine ⟨b, List.mem_range.mpr (Heap.lt_size h4), ?_⟩
    rw [if_neg, h4]
    · rfl
    · rintro (q | q | q)
      · exact h1 q
      · exact h2 q
      · rw [h3] at q; cases q

/-- the names of _law_told -/
def tmap (D l : Addr) (sz : Option Value) : Str → Option Value := fun y =>
  if y = Str.ofString "size" then sz else if y = Str.ofString "told" then some (.ref D) else if y = Str.ofString "row" then some (.ref l) else none
def Bare (G : Array GenState) : Prop := ∀ x ∈ G, x.bare = true
theorem Bare.set {G : Array GenState} {i : Nat} {x : GenState} (h : Bare G) (hx : x.bare = true) : Bare (G.setIfInBounds i x) := by
  intro y hy
  rcases Array.mem_or_eq_of_mem_setIfInBounds hy with q | q
  · exact h y q
  · rw [q]; exact hx
theorem Bare.push {G : Array GenState} {x : GenState} (h : Bare G) (hx : x.bare = true) : Bare (G.push x) := by
  intro y hy
  rcases Array.mem_push.mp hy with q | q
  · exact h y q
  · rw [q]; exact hx

section
variable {prog : Program} {w : World} {A : Around} {s : Shared} {g : Heap} {L D C l a : Addr} {gi N₁ : Nat} {env : Env} {vals : List Int} {bodyT : List Stmt} {px : Pos} {R : Result → Shared → Prop}

def TS (prog : Program) (w : World) (A : Around) (s : Shared) (g : Heap) (L D C l a : Addr) (gi N₁ : Nat) (vals : List Int) (i : Nat) (s' : Shared) : Prop :=
  ∃ h tk G ws c sz gs, s' = { s with heap := h, gens := G, toks := tk } ∧ Fr g L h (tmap D l sz) ∧ News g L h [(D, PySem.W.listOf ws.toArray c)] ∧ IntsAre ws (vals.take i) ∧ i ≤ vals.length ∧ i < 12 ∧
    h.IsGen a gi ∧ Bare G ∧ G[gi]? = some gs ∧ gs.bare = true ∧ ∀ s'' : Shared, GBack L D s' s'' → gs.Goes (model prog w) A.in1 (gR vals N₁ C) (gProto vals N₁ C L D) (12 - i) (.send .none) s''

theorem told_loop (hh : A.handled = none) (hroom : A.depth < recursionLimit) (hlim : g.NoLimit) (hxk : env.kindOf (Str.ofString "size") = some .local) (hloc : env.locals = L) (hkf : env.scope.kind = .function)
    (hCL : C ≠ L) (hCD : C ≠ D) (hDL : D ≠ L) (haC : a ≠ C) (haL : a ≠ L) (haD : a ≠ D) (hLN : L < N₁) (hDN : D < N₁) (haN : a < N₁) (hgN : ∀ b o, g.get? b = some o → b < N₁) (hgL : g.get? L = none) (hgD : g.get? D = none) (hga : g.get? a = none) (hgC : g.get? C = none)
    (hvl : vals.length ≤ 12)
    (HB : ∀ (s' : Shared) (ws : List Value) (c : Nat) (ks : List Int) (v : Int) (t : Tok) (own : List (Addr × Obj)), Fr g L s'.heap (tmap D l (some (.int v t))) → News g L s'.heap ((D, PySem.W.listOf ws.toArray c) :: own) → OwnOff own [D] → IntsAre ws ks → ks.length < 12 →
      wpAny (model prog w) A (execs bodyT env) (fun f s'' => f = (if ks.length + 1 = 12 then Flow.brk else .next) ∧ ∃ h' tk c', s'' = { s' with heap := h', toks := tk } ∧ Fr g L h' (tmap D l (some (.int v t))) ∧ News g L h' ((D, PySem.W.listOf (ws ++ [Value.int v t]).toArray c') :: own)) (fun _ _ => False) s')
    (hfin : ∀ h tk G ws c sz, Fr g L h (tmap D l sz) → News g L h [(D, PySem.W.listOf ws.toArray c)] → IntsAre ws vals → Bare G → R (.ok .next) { s with heap := h, gens := G, toks := tk })
    (h0 : TS prog w A s g L D C l a gi N₁ vals 0 s) :
    codeAny (model prog w) A (.forLoop (.Name (Str.ofString "size") px) (.ref a) bodyT [] env) R s := by
  refine codeAny_forLoop_any (fun k s' => ∃ i, k = 13 - i ∧ TS prog w A s g L D C l a gi N₁ vals i s') ?_ 13 ⟨0, rfl, h0⟩
  rintro k s' ⟨i, hk, h, tk, G, ws, c, sz, gs, rfl, F, N, hI, hi, hi12, hG, hB, hgs, hbs, hready⟩
  have hnD := N _ (List.Mem.head _)
  refine pyNext_genQ (n := 12 - i) hh (hlim.keeps F.keep) hroom hG hgs (hready _ fun b o _ _ e => e) ?_ ?_
  · rintro v s₁ gs' hb' ⟨⟨t, rfl⟩, hlt, ⟨h₁, tk₁, rfl, hk₁⟩, hcont⟩
    have e1 : 11 - (12 - i - 1) = i := by omega
    rw [e1] at hlt ⊢
    refine wpAny_of_eq (rfl : letOwnedTupleGo (.Name (Str.ofString "size") px) (.ref a) _ = pure ()) ?_
    have F₁ : Fr g L h₁ (tmap D l sz) := by
      obtain ⟨oL, a1, a2, hL, a3⟩ := F.ns
      exact ⟨⟨oL, a1, a2, hk₁ _ _ hLN hCL.symm hL, a3⟩, fun b o e => hk₁ b o (hgN b o e) (fun q => by rw [q, hgC] at e; cases e) (F.keep b o e), F.above⟩
    refine wpAny_assign_Name (wpAny_storeName_local hxk (by rw [hloc]; exact F₁.ns) (fun h₂ hn₂ hs₂ => ?_) (by rw [hkf]; rfl))
    rw [hloc] at hn₂ hs₂
    have em : (fun y => if y = Str.ofString "size" then some (Value.int (vals.getD i 0) t) else tmap D l sz y) = tmap D l (some (.int (vals.getD i 0) t)) := by
      funext y
      unfold tmap
      by_cases h1 : y = Str.ofString "size"
      · rw [if_pos h1, if_pos h1]
      · rw [if_neg h1, if_neg h1, if_neg h1]
    rw [em] at hn₂
    have F₂ : Fr g L h₂ (tmap D l (some (.int (vals.getD i 0) t))) := F₁.set hn₂ hs₂
    have N₂ : News g L h₂ ((D, PySem.W.listOf ws.toArray c) :: ownAll g L D h₂) := by
      intro p hp
      rcases List.mem_cons.mp hp with rfl | hp
      · exact ⟨(hs₂.2 D hDL).trans (hk₁ _ _ hDN hCD.symm hnD.1), hDL, hnD.2.2⟩
      · obtain ⟨q1, _, q3, q4⟩ := ownAll_mem.mp hp
        exact ⟨q4, q1, q3⟩
    have hlen : (vals.take i).length = i := by rw [List.length_take]; omega
    refine wpAny_mono (HB _ ws c (vals.take i) (vals.getD i 0) t (ownAll g L D h₂) F₂ N₂ (fun p hp b hb q => by rw [List.mem_singleton.mp hb] at q; exact (ownAll_mem.mp hp).2.1 q) hI (by rw [hlen]; exact hi12)) (fun f s₃ hf => ?_) fun _ _ e => e.elim
    obtain ⟨rfl, h₃, tk₃, c₃, rfl, F₃, N₃⟩ := hf
    have htk : vals.take (i + 1) = vals.take i ++ [vals.getD i 0] := by
      rw [List.take_add_one, List.getD_eq_getElem?_getD, List.getElem?_eq_getElem hlt]; rfl
    have hI₃ : IntsAre (ws ++ [Value.int (vals.getD i 0) t]) (vals.take (i + 1)) := by
      rw [htk]; exact hI.append (.cons _ _ .nil)
    have hN₃ : News g L h₃ [(D, PySem.W.listOf (ws ++ [Value.int (vals.getD i 0) t]).toArray c₃)] := fun p hp => N₃ p (by rw [List.mem_singleton.mp hp]; exact List.Mem.head _)
    have hBare : Bare ((G.setIfInBounds gi .running).setIfInBounds gi gs') := (hB.set rfl).set hb'
    rw [hlen]
    by_cases h12 : i + 1 = 12
    · rw [if_pos h12]
      have hall : vals.take (i + 1) = vals := List.take_of_length_le (by omega)
      rw [hall] at hI₃
      exact hfin h₃ tk₃ _ _ c₃ _ F₃ hN₃ hI₃ hBare
    · rw [if_neg h12]
      refine ⟨13 - (i + 1), by omega, i + 1, rfl, h₃, tk₃, _, _, c₃, _, gs', rfl, F₃, hN₃, hI₃, hlt, by omega, ?_, hBare, ?_, hb', ?_⟩
      · obtain ⟨oa, nm, qn, hoa, r⟩ := hG
        refine ⟨oa, nm, qn, (N₃ (a, oa) (List.Mem.tail _ (ownAll_mem.mpr ⟨haL, haD, hga, ?_⟩))).1, r⟩
        exact (hs₂.2 a haL).trans (hk₁ _ _ haN haC hoa)
      · have hsz : gi < G.size := (Array.getElem?_eq_some_iff.mp hgs).1
        show ((G.setIfInBounds gi GenState.running).setIfInBounds gi gs')[gi]? = some gs'
        rw [Array.getElem?_setIfInBounds_self_of_lt (by rw [Array.size_setIfInBounds]; exact hsz)]
      · intro s'' back
        obtain ⟨m, hm⟩ : ∃ m, 12 - i = m + 1 := ⟨11 - i, by omega⟩
        have hm2 : 12 - (i + 1) = m := by omega
        rw [hm] at hcont
        rw [hm2]
        refine hcont (by omega) s'' fun b o hbL hbD e => back b o hbL hbD ?_
        have e' : h₂.get? b = some o := (hs₂.2 b hbL).trans e
        cases q : g.get? b with
        | some o' =>
          have h4 := F₂.keep b o' q
          rw [e'] at h4
          cases h4
          exact F₃.keep b o q
        | none => exact (N₃ (b, o) (List.Mem.tail _ (ownAll_mem.mpr ⟨hbL, hbD, q, e'⟩))).1
  · rintro s₁ ⟨hle, h₁, tk₁, rfl, hk₁⟩ h' hk'
    have hiv : vals.length ≤ i := by omega
    have hall : vals.take i = vals := List.take_of_length_le hiv
    rw [hall] at hI
    refine wpAny_execs_nil ?_
    refine hfin h' tk₁ _ ws c sz ?_ ?_ hI ((hB.set rfl).set rfl)
    · obtain ⟨oL, a1, a2, hL, a3⟩ := F.ns
      exact ⟨⟨oL, a1, a2, hk' _ _ (hk₁ _ _ hLN hCL.symm hL), a3⟩, fun b o e => hk' b o (hk₁ b o (hgN b o e) (fun q => by rw [q, hgC] at e; cases e) (F.keep b o e)), F.above⟩
    · intro p hp
      rw [List.mem_singleton.mp hp]
      exact ⟨hk' _ _ (hk₁ _ _ hDN hCD.symm hnD.1), hDL, hnD.2.2⟩
end
end Mine
end

section
open PySem PySem.W PyProof.Rows PySem.Calls
set_option Elab.async false
set_option maxRecDepth 100000
set_option maxHeartbeats 2000000
namespace Mine
section
variable {w : World} {mean : ExcName → Option Value} {mg mb : Str → Option Value} {A : Around} {s : Shared} {E : Value → Shared → Prop} {g : Heap} {L D l : Addr}
    {name qual : Str} {params : Arguments} {scope : Scope} {dV kV doc pm cdv ct oc : Value} {an od : Option Addr} {osl : Array (Option Value)} {f : Addr}
    {env : Env} {bodyT : List Stmt} {px : Pos} {R : Result → Shared → Prop}
    {st1 : Stmt} {test2 : Expr} {st3 : Stmt} {tt e1 e2 : Expr} {st4 stA : Stmt} {iter : Expr} {px' p1 yp pp yp2 pp2 pw pf : Pos}

theorem told_from_call (F : Fr g L s.heap (tmap D l none)) (N : News g L s.heap [(D, PySem.W.listOf ([] : List Value).toArray 0)]) (X : Frag.In (hd.heap_39 w.params) g) (T : Top hd.view_39 (looseW hd.view_39 []) mean mg mb g)
    {vs : List Value} {row : List Int} (hl : g.IsList l vs.toArray) (hi : IntsAre vs row) (hne : ∀ x, row[0]? = some x → x ≠ 0) (hBs : Bare s.gens)
    (hh : A.handled = none) (hroom : A.depth < recursionLimit)
    (ho : List.lookup f (hd.heap_39 w.params) = some ⟨oc, od, .func (fnOf name qual params [stA, .For (.Name (Str.ofString "interval") px') iter [st1, .If test2 [st3, .While tt [.Expr (.Yield (some e1) yp) pp] [] pw] [] p1, .Expr (.Yield (some e2) yp2) pp2, st4] [] pf] scope dV kV doc pm an cdv ct), osl⟩)
    (hcd : codeIn (hd.heap_39 w.params) cdv qual = true)
    (hbind : BindsTo s (fnOf name qual params [stA, .For (.Name (Str.ofString "interval") px') iter [st1, .If test2 [st3, .While tt [.Expr (.Yield (some e1) yp) pp] [] pw] [] p1, .Expr (.Yield (some e2) yp2) pp2, st4] [] pf] scope dV kV doc pm an cdv ct) ⟨[.ref l], []⟩ [(Str.ofString "grouping", .ref l)])
    (hloc : ∀ y ∈ [(Str.ofString "grouping", Value.ref l)], scope.names.lookup y.1 = some .local) (hco : scope.isCoroutine = false) (hgen : scope.isGenerator = true) (hk : scope.kind = .function) (hcell : ∀ x ∈ scope.names, x.2 ≠ .cell)
    (hxk : ∀ C, (envOf qual scope C f cdv).kindOf (Str.ofString "interval") = some .local) (hint : ∀ C, interactive (envOf qual scope C f cdv) = false)
    (hxt : env.kindOf (Str.ofString "size") = some .local) (hlt : env.locals = L) (hkt : env.scope.kind = .function)
    (P : ∀ C, GParts PySem.Challenge.rw_st0003_01.row.prog w g C l (envOf qual scope C f cdv) st1 test2 st3 tt e1 e2 st4)
    (sA : ∀ (C : Addr) (A : Around) (s : Shared), Fr g C s.heap (fun y => ([(Str.ofString "grouping", Value.ref l)] : List (Str × Value)).reverse.lookup y) →
      wpAny (model PySem.Challenge.rw_st0003_01.row.prog w) A (exec stA (envOf qual scope C f cdv)) (fun f s' => f = .next ∧ ∃ h' tk, s' = { s with heap := h', toks := tk } ∧ Heap.SameBut C s.heap h' ∧ Fr g C h' (gm l none .none)) (fun _ _ => False) s)
    (eI : ∀ (C : Addr) (A : Around) (s : Shared), Fr g C s.heap (gm l none .none) → wpAny (model PySem.Challenge.rw_st0003_01.row.prog w) A (eval iter (envOf qual scope C f cdv)) (fun x s' => x = .ref l ∧ ∃ tk, s' = { s with toks := tk }) (fun _ _ => False) s)
    (hs : ∀ C x, foldedSetIterable iter (envOf qual scope C f cdv) x = pure x)
    (HB : ∀ (s' : Shared) (ws : List Value) (c : Nat) (ks : List Int) (v : Int) (t : Tok) (own : List (Addr × Obj)), Fr g L s'.heap (tmap D l (some (.int v t))) → News g L s'.heap ((D, PySem.W.listOf ws.toArray c) :: own) → OwnOff own [D] → IntsAre ws ks → ks.length < 12 →
      wpAny (model PySem.Challenge.rw_st0003_01.row.prog w) A (execs bodyT env) (fun f s'' => f = (if ks.length + 1 = 12 then Flow.brk else .next) ∧ ∃ h' tk c', s'' = { s' with heap := h', toks := tk } ∧ Fr g L h' (tmap D l (some (.int v t))) ∧ News g L h' ((D, PySem.W.listOf (ws ++ [Value.int v t]).toArray c') :: own)) (fun _ _ => False) s')
    (hfin : ∀ h tk G ws c sz, Fr g L h (tmap D l sz) → News g L h [(D, PySem.W.listOf ws.toArray c)] → IntsAre ws (fut row none 12) → Bare G → R (.ok .next) { s with heap := h, gens := G, toks := tk }) :
    wpAny (model PySem.Challenge.rw_st0003_01.row.prog w) A (call (.ref f) [.ref l])
      (fun x s₁ => wpAny (model PySem.Challenge.rw_st0003_01.row.prog w) A (pyIter x) (fun it s₂ => codeAny (model PySem.Challenge.rw_st0003_01.row.prog w) A (.forLoop (.Name (Str.ofString "size") px) it bodyT [] env) R s₂) E s₁) E s := by
  refine callGen F X T hroom ho hcd hbind hloc ?_ hco hgen hk hcell
  intro h₁ tk nm qn hns keep hsz
  have hG : (h₁.push { cls := .type "generator", data := .fields #[.int s.gens.size 0, nm, qn] }).IsGen h₁.objs.size s.gens.size := ⟨_, nm, qn, Heap.get?_push_size _ rfl, rfl, rfl, rfl⟩
  have keep₂ : ∀ b o, s.heap.get? b = some o → (h₁.push { cls := .type "generator", data := .fields #[.int s.gens.size 0, nm, qn] }).get? b = some o := fun b o e => Heap.get?_push_of_some _ (keep b o e)
  have F₂ : Fr g L (h₁.push { cls := .type "generator", data := .fields #[.int s.gens.size 0, nm, qn] }) (tmap D l none) := fr_stays F keep₂
  have N₂ : News g L (h₁.push { cls := .type "generator", data := .fields #[.int s.gens.size 0, nm, qn] }) [(D, PySem.W.listOf ([] : List Value).toArray 0)] := news_stays N keep₂
  have hnD := N _ (List.Mem.head _)
  have hgsz : ∀ b o, g.get? b = some o → b < s.heap.objs.size := fun b o e => Heap.lt_size (F.keep b o e)
  have hgnone : ∀ b, s.heap.objs.size ≤ b → g.get? b = none := fun b hb => by
    cases q : g.get? b with
    | none => rfl
    | some o => exact absurd (hgsz b o q) (Nat.not_lt.mpr hb)
  have hL : L < s.heap.objs.size := F.ns.lt
  have hD : D < s.heap.objs.size := Heap.lt_size hnD.1
  have hgL : g.get? L = none := by
    cases q : g.get? L with
    | none => rfl
    | some o => exact absurd (Heap.lt_size q) (Nat.not_lt.mpr F.above)
  have hvl := fut_length row none 12
  refine wpAny_pyIter_gen hG ?_
  refine told_loop (C := s.heap.objs.size) (l := l) (D := D) (gi := s.gens.size) (N₁ := h₁.objs.size + 1) (vals := fut row none 12) (g := g) (L := L) hh hroom T.nolimit hxt hlt hkt (Nat.ne_of_gt hL) (Nat.ne_of_gt hD) hnD.2.1 (by rw [hsz]; exact Nat.succ_ne_self _)
    (by rw [hsz]; exact Nat.ne_of_gt (Nat.lt_succ_of_lt hL)) (by rw [hsz]; exact Nat.ne_of_gt (Nat.lt_succ_of_lt hD)) (by rw [hsz]; exact Nat.lt_succ_of_lt (Nat.lt_succ_of_lt hL)) (by rw [hsz]; exact Nat.lt_succ_of_lt (Nat.lt_succ_of_lt hD)) (Nat.lt_succ_self _)
    (fun b o e => by rw [hsz]; exact Nat.lt_succ_of_lt (Nat.lt_succ_of_lt (hgsz b o e))) hgL hnD.2.2 (hgnone _ (by rw [hsz]; exact Nat.le_succ _)) (hgnone _ (Nat.le_refl _)) hvl HB hfin ?_
  refine ⟨_, _, _, [], 0, none, _, rfl, F₂, N₂, .nil, Nat.zero_le _, by decide, hG, hBs.push rfl, Array.getElem?_push_size .., rfl, fun s'' back => ⟨rfl, ?_⟩⟩
  have hb' : ∀ b o, b ≠ L → b ≠ D → h₁.get? b = some o → s''.heap.get? b = some o := fun b o h1 h2 e => back b o h1 h2 (Heap.get?_push_of_some _ e)
  have FC : Fr g s.heap.objs.size s''.heap (fun y => ([(Str.ofString "grouping", Value.ref l)] : List (Str × Value)).reverse.lookup y) := by
    obtain ⟨oC, a1, a2, hC, a3⟩ := hns
    refine ⟨⟨oC, a1, a2, hb' _ _ (Nat.ne_of_gt hL) (Nat.ne_of_gt hD) hC, a3⟩, fun b o e => hb' b o (fun q => by rw [q, hgL] at e; cases e) (fun q => by rw [q, hnD.2.2] at e; cases e) (keep b o (F.keep b o e)), Nat.le_trans F.above (Nat.le_of_lt hL)⟩
  refine gen_start (A := A.in1) (N₁ := h₁.objs.size + 1) (L := L) (D := D) (P s.heap.objs.size) hco (hint _) hh rfl hk (hxk _) (Nat.ne_of_gt hL) (Nat.ne_of_gt hD) (by rw [hsz]; exact Nat.lt_succ_of_lt (Nat.lt_succ_of_lt hL)) (by rw [hsz]; exact Nat.lt_succ_of_lt (Nat.lt_succ_of_lt hD))
    (by rw [hsz]; exact Nat.lt_succ_of_lt (Nat.lt_succ_self _)) hgL hnD.2.2 (hgnone _ (Nat.le_refl _)) hl hi hne (sA _) (eI _) (hs _) FC ?_
  obtain ⟨oa, _, _, hoa, _⟩ := hG
  exact Heap.lt_size (back _ _ (by rw [hsz]; exact Nat.ne_of_gt (Nat.lt_succ_of_lt hL)) (by rw [hsz]; exact Nat.ne_of_gt (Nat.lt_succ_of_lt hD)) hoa)
end
end Mine
end

section
open PySem PySem.W PyProof.Rows PySem.Calls
set_option Elab.async false
set_option maxRecDepth 100000
set_option maxHeartbeats 8000000
set_option pp.proofs false
namespace Mine
theorem fill7 (w : World) : (hd.heap_39 w.params = hd.heap_39 w.params) ∧ (PySem.Challenge.rw_st0003_01 = PySem.Challenge.rw_st0003_01) := by k_fill; exact ⟨rfl, rfl⟩
local macro_rules | `(tactic| walk_at "my pad") => `(tactic| skip)
local macro_rules | `(tactic| walk_at "my pad") => `(tactic| skip)
local macro_rules | `(tactic| walk_at "my pad") => `(tactic| skip)
local macro_rules | `(tactic| walk_at "my pad") => `(tactic| skip)
local macro_rules | `(tactic| walk_at "my pad") => `(tactic| skip)
local macro_rules | `(tactic| walk_at "my enter") => `(tactic| k_dflt (refine' enterP (by assumption) ?k6 ?k7 ?k9 ?kB ?_ ?c2 ?c3 ?c4 ?c5; (case k6 => k_is); (case k7 => k_is); (case k9 => exact BindsTo.of_eq rfl); (case c5 => decide); (case kB => exact locs rfl); (case c2 => exact rfl); (case c3 => exact rfl); (case c4 => exact rfl); intro gd env outer base g' L' h' F' N' B' X' T' hG'; (try dsimp only); (try k_fold)))
local macro_rules | `(tactic| walk_at "my enterC") => `(tactic| k_dflt (refine' enterC (by assumption) ?k6 ?k7 ?k9 ?kB ?kD ?_ ?c2 ?c3 ?c4; (case k6 => k_is); (case k7 => k_is); (case k9 => exact BindsTo.of_eq rfl); (case kB => exact rfl); (case kD => decide +kernel); (case c2 => exact rfl); (case c3 => exact rfl); (case c4 => exact rfl); intro gd env outer base g' L' h' tk' cells' F' N' Y' B' X' T' hG'; k_cells Y'; (try simp only [List.cons_append, List.nil_append] at N'); (try dsimp only); (try k_fold)))
local macro_rules | `(tactic| walk_at "my steps") => `(tactic| repeat' (first | (k_unfold; (try dsimp only)) | (dsimp only; k_unfold; (try dsimp only)) | walk1 | (dsimp only; walk1) | (leave1; walk_say "STEP leave1"; try dsimp only) | fail "no step"))
local macro_rules | `(tactic| walk_at "InvEndN") => `(tactic| k_dflt kst_close)
local macro_rules | `(tactic| walk_at "my cx") => `(tactic| k_dflt (refine' cx_of ?B ?F ?X ?T rfl rfl rfl rfl ?d ?u; (case F => k_asm); (case B => k_asm); (case X => k_asm); (case T => k_asm); (case d => exact Nat.le_of_ble_eq_true rfl); (case u => exact Nat.le_of_ble_eq_true rfl)))
local macro_rules | `(tactic| walk_at "my back") => `(tactic| k_dflt (intro t9 h9 tk9 hS9; (have F9 := fr_stays (by k_asm) hS9); (have N9 := news_stays (by k_asm) hS9); clear hS9; (try k_sweep); (try dsimp only); (try k_fold)))
local macro_rules | `(tactic| walk_at "exec For Name Call cons nil") => `(tactic| k_dflt (refine wpAny_For ?_ (by intro _; rfl)))
local macro_rules | `(tactic| walk_at "call ref") => `(tactic| k_extra "my call")
theorem tmap_of {D l : Addr} : (fun y => if y = Str.ofString "told" then some (Value.ref D) else List.lookup y ([(Str.ofString "row", Value.ref l)] : List (Str × Value)).reverse) = tmap D l none := by
  funext y
  unfold tmap
  by_cases h1 : y = Str.ofString "size"
  · subst h1; rfl
  · by_cases h2 : y = Str.ofString "told"
    · rw [if_neg h1, if_pos h2, if_pos h2]
    · rw [if_neg h1, if_neg h2, if_neg h2]
      by_cases h3 : y = Str.ofString "row"
      · subst h3; rfl
      · rw [if_neg h3]
        have h4 : (y == Str.ofString "row") = false := by simpa using h3
        simp only [List.reverse_cons, List.reverse_nil, List.nil_append, List.lookup, h4]
theorem assign_local {prog : Program} {w : World} {A : Around} {s : Shared} {g : Heap} {C : Addr} {m m' : Str → Option Value} {env : Env} {x : Str} {pos' pos : Pos} {value : Expr} {v₀ : Value}
    (F : Fr g C s.heap m) (hx : env.kindOf x = some .local) (hloc : env.locals = C) (hkf : env.scope.kind = .function)
    (hv : wpAny (model prog w) A (eval value env) (fun v s₁ => v = v₀ ∧ ∃ tk, s₁ = { s with toks := tk }) (fun _ _ => False) s) (hm : (fun y => if y = x then some v₀ else m y) = m')
    (hs : swapsWith value (some (.Name x pos')) pos.line env = pure false) :
    wpAny (model prog w) A (exec (.Assign [.Name x pos'] value pos) env) (fun f s' => f = .next ∧ ∃ h' tk, s' = { s with heap := h', toks := tk } ∧ Heap.SameBut C s.heap h' ∧ Fr g C h' m') (fun _ _ => False) s := by
  refine wpAny_Assign_Name (wpAny_mono hv (fun v s₁ h₁ => ?_) fun _ _ e => e) hs
  obtain ⟨rfl, tk, rfl⟩ := h₁
  refine wpAny_storeName_local hx (by rw [hloc]; exact F.ns) (fun h' hn hs' => ?_) (by rw [hkf]; rfl)
  rw [hloc] at hn hs'
  rw [hm] at hn
  exact ⟨rfl, h', _, rfl, hs', F.set hn hs'⟩
theorem gm_last {l : Addr} {iv : Option Value} {lv v : Value} : (fun y => if y = Str.ofString "last_interval" then some v else gm l iv lv y) = gm l iv v := by
  funext y
  unfold gm
  by_cases h1 : y = Str.ofString "last_interval"
  · subst h1
    rw [if_pos rfl, if_neg (by decide), if_pos rfl]
  · rw [if_neg h1, if_neg h1, if_neg h1]
theorem gm_start {l : Addr} : (fun y => if y = Str.ofString "last_interval" then some Value.none else ([(Str.ofString "grouping", Value.ref l)] : List (Str × Value)).reverse.lookup y) = gm l none .none := by
  funext y
  unfold gm
  by_cases h1 : y = Str.ofString "last_interval"
  · subst h1
    rw [if_pos rfl, if_neg (by decide), if_pos rfl]
  · rw [if_neg h1, if_neg h1]
    by_cases h2 : y = Str.ofString "interval"
    · subst h2; rfl
    · rw [if_neg h2]
      by_cases h3 : y = Str.ofString "grouping"
      · subst h3; rfl
      · rw [if_neg h3]
        have h4 : (y == Str.ofString "grouping") = false := by simpa using h3
        simp only [List.reverse_cons, List.reverse_nil, List.nil_append, List.lookup, h4]
/-- a made list of ints comes back, the generators turned -/
theorem end_told {g : Heap} {Q : Value → Shared → Prop} {s : Shared} {L' : Addr} {h' : Heap} {tk' : Nat} {m' : Str → Option Value} {G : Array GenState} {ks : List Int} {a : Addr} {vs : List Value} {n : Nat} {news : List (Addr × Obj)}
    (hret : ∀ (a : Addr) (h' : Heap) (tk' : Nat) (G : Array GenState) (vs : List Value) (n : Nat), s.heap.StaysIn h' → s.heap.get? a = none → h'.get? a = some (PySem.W.listOf vs.toArray n) → IntsAre vs ks → Bare G → Q (.ref a) { s with heap := h', gens := G, toks := tk' })
    (hG : s.heap.StaysIn g) (F : Fr g L' h' m') (N : News g L' h' news) (hm : (a, PySem.W.listOf vs.toArray n) ∈ news) (hi : IntsAre vs ks) (hB : Bare G) :
    BEnd g Q (.ret (.ref a)) { s with heap := h', gens := G, toks := tk' } := by
  refine ⟨⟨L', m', F⟩, hret a h' tk' G vs n (fun b o q => F.keep b o (hG b o q)) ?_ (N _ hm).1 hi hB⟩
  cases q : s.heap.get? a with
  | none => rfl
  | some o => have := (N _ hm).2.2; rw [hG a o q] at this; cases this
section
variable {w : World} {mean : ExcName → Option Value} {mg mb : Str → Option Value} {A : Around} {s : Shared} {Q E : Value → Shared → Prop}
theorem c_told (l : Addr) (vs : List Value) (row : List Int) (C : Cx w mean mg mb 3 A s.heap) (hl : s.heap.IsList l vs.toArray) (hi : IntsAre vs row) (hne : ∀ x, row[0]? = some x → x ≠ 0) (hBs : Bare s.gens)
    (hret : ∀ (a : Addr) (h' : Heap) (tk' : Nat) (G : Array GenState) (vs : List Value) (n : Nat), s.heap.StaysIn h' → s.heap.get? a = none → h'.get? a = some (PySem.W.listOf vs.toArray n) → IntsAre vs (fut row none 12) → Bare G → Q (.ref a) { s with heap := h', gens := G, toks := tk' }) :
    wpAny (model PySem.Challenge.rw_st0003_01.row.prog w) A (call (.ref 61) [.ref l]) Q E s := by
  k_with_none
  w_top off
  walk_at "my enter"
  rename Heap.StaysIn _ _ => hG
  have hl' := stays_list hG hl
  walk_at "my steps"
  all_goals (try dsimp only)
  rename Fr _ _ _ _ => F'
  rename News _ _ _ _ => N'
  rename Frag.In _ _ => X'
  rename Top _ _ _ _ _ _ => T'
  have F2 := tmap_of ▸ (show Fr _ _ _ (fun y => if y = Str.ofString "told" then some (Value.ref _) else List.lookup y ([(Str.ofString "row", Value.ref l)] : List (Str × Value)).reverse) from F')
  clear F'
  refine' told_from_call F2 N' X' T' hl' hi hne hBs rfl ?hroom ?ho ?hcd ?hbind ?hloc ?hco ?hgen ?hk ?hcell ?hxk ?hint ?hxt ?hlt ?hkt ?P ?sA ?eI ?hs ?HB ?hfin
  case ho => k_dflt k_is
  case hcd => k_dflt k_is
  case hroom => exact Nat.le_of_ble_eq_true rfl
  case hbind => exact BindsTo.of_eq rfl
  case hloc => exact locs rfl
  case hco => exact rfl
  case hgen => exact rfl
  case hk => exact rfl
  case hcell => decide
  case hxk => intro _; exact rfl
  case hint => intro _; exact rfl
  case hxt => exact rfl
  case hlt => exact rfl
  case hkt => exact rfl
  case hs => intro _ _; exact rfl
  case eI =>
    intro C A s F
    clear F2 N'
    walk_at "my steps"
  case sA =>
    intro C A s F
    clear F2 N'
    refine assign_local F rfl rfl rfl ?_ gm_start rfl
    walk_at "my steps"
  case P =>
    intro C
    clear F2 N'
    refine { s1 := ?_, t2 := ?_, s3 := ?_, tt := ?_, e1 := ?_, e2 := ?_, s4 := ?s4 }
    case s4 =>
      intro A s r t lv F
      refine assign_local F rfl rfl rfl ?_ gm_last rfl
      walk_at "my steps"
    all_goals (intros; (try dsimp only); (try k_fold))
    all_goals (walk_at "my steps")
    all_goals (first | (rw [if_pos (by assumption)]) | (rw [if_neg (by assumption)]))
  case HB =>
    intro s' ws c ks v t own F N O I hk
    clear F2 N'
    walk_at "my steps"
    all_goals (try dsimp only)
    all_goals (first | assumption | (rw [if_pos (by omega)]) | (rw [if_neg (by omega)]) | skip)
  case hfin =>
    intro h tk G ws c sz F N I hB
    clear F2 N'
    dsimp only
    walk_at "my steps"
    all_goals (try dsimp only)
    exact end_told hret hG F N (List.Mem.head _) I hB
end
end Mine
end

section
open PySem PySem.W PyProof.Rows PySem.Calls
namespace Mine
theorem and_nat {a b : Int} (ha : 0 ≤ a) (hb : 0 ≤ b) : Builtin.bitAnd a b = ((a.toNat &&& b.toNat : Nat) : Int) := by
  unfold Builtin.bitAnd
  rw [decide_eq_true ha, decide_eq_true hb]
theorem nat_xor_and : ∀ (n a b : Nat), a ≤ n → a + b = (a ^^^ b) + 2 * (a &&& b) := by
  intro n
  induction n with
  | zero =>
    intro a b h
    obtain rfl : a = 0 := by omega
    simp
  | succ n ih =>
    intro a b h
    by_cases ha : a = 0
    · subst ha; simp
    have h1 := ih (a / 2) (b / 2) (by omega)
    rw [← Nat.and_div_two, ← Nat.xor_div_two] at h1
    have h2 := @Nat.xor_mod_two_eq_one a b
    have h3 := @Nat.and_mod_two_eq_one a b
    by_cases e : a % 2 = 1 <;> by_cases e' : b % 2 = 1 <;> simp only [e, e', true_and, and_true, and_self, iff_true, iff_false, true_iff, false_iff, not_true, not_false_iff, and_false, false_and, iff_self] at h2 h3 <;> omega
theorem xor_nat {a b : Int} (ha : 0 ≤ a) (hb : 0 ≤ b) : Builtin.bitXor a b = ((a.toNat ^^^ b.toNat : Nat) : Int) := by
  rw [bitXor_and, and_nat ha hb]
  have h : a.toNat + b.toNat = (a.toNat ^^^ b.toNat) + 2 * (a.toNat &&& b.toNat) := nat_xor_and _ _ _ (Nat.le_refl _)
  omega
theorem xor_nonneg {a b : Int} (ha : 0 ≤ a) (hb : 0 ≤ b) : 0 ≤ Builtin.bitXor a b := by rw [xor_nat ha hb]; omega
theorem xor_lt {a b : Int} {n : Nat} (ha : 0 ≤ a) (hb : 0 ≤ b) (ha' : a < 2 ^ n) (hb' : b < 2 ^ n) : Builtin.bitXor a b < 2 ^ n := by
  rw [xor_nat ha hb]
  have h1 : a.toNat < 2 ^ n := by
    have : (a.toNat : Int) < ((2 ^ n : Nat) : Int) := by rw [Int.toNat_of_nonneg ha]; exact_mod_cast ha'
    exact_mod_cast this
  have h2 : b.toNat < 2 ^ n := by
    have : (b.toNat : Int) < ((2 ^ n : Nat) : Int) := by rw [Int.toNat_of_nonneg hb]; exact_mod_cast hb'
    exact_mod_cast this
  have := Nat.xor_lt_two_pow h1 h2
  exact_mod_cast this
theorem bits_half {a : Int} (h : 0 < a) : Builtin.Int.intBits (a.fdiv 2) + 1 = Builtin.Int.intBits a := by
  have h0 : a.fdiv 2 = a / 2 := Int.fdiv_eq_ediv_of_nonneg _ (by decide)
  apply Nat.le_antisymm
  · have h1 : 1 ≤ Builtin.Int.intBits a := by
      rcases Nat.eq_zero_or_pos (Builtin.Int.intBits a) with e | e
      · have := (intBits_le_iff (m := 0) (x := a)).mp (Nat.le_of_eq e)
        simp at this; omega
      · exact e
    have h2 : Builtin.Int.intBits (a.fdiv 2) ≤ Builtin.Int.intBits a - 1 := by
      refine intBits_le_iff.mpr ?_
      have h3 := (intBits_le_iff (x := a)).mp (Nat.le_refl _)
      have h4 : 2 ^ Builtin.Int.intBits a = 2 * 2 ^ (Builtin.Int.intBits a - 1) := by
        rw [← Nat.pow_succ']; congr 1; omega
      rw [h0]; omega
    omega
  · refine intBits_le_iff.mpr ?_
    have h3 := (intBits_le_iff (x := a.fdiv 2)).mp (Nat.le_refl _)
    rw [Nat.pow_succ]
    rw [h0] at h3 ⊢
    omega
theorem wh_start {x : Int} (h : 0 ≤ x) : 0 ≤ x ∧ (Builtin.Int.intBits x : Int) + -1 + 1 = (Builtin.Int.intBits x : Int) := ⟨h, by omega⟩
theorem wh_step {a h T : Int} (h1 : (Builtin.Int.intBits a : Int) + h + 1 = T) (hp : 0 < a) : 0 ≤ a.fdiv 2 ∧ (Builtin.Int.intBits (a.fdiv 2) : Int) + (h + 1) + 1 = T := by
  refine ⟨by rw [Int.fdiv_eq_ediv_of_nonneg _ (by decide)]; omega, ?_⟩
  have := bits_half hp
  omega
theorem wh_less {a : Int} (hp : 0 < a) : (a.fdiv 2).toNat < a.toNat := by rw [Int.fdiv_eq_ediv_of_nonneg _ (by decide)]; omega
theorem wh_end {a h x : Int} (h1 : (Builtin.Int.intBits a : Int) + h + 1 = (Builtin.Int.intBits x : Int)) (h2 : ¬ 0 < a) (h0 : 0 ≤ a) : h = highBit x := by
  obtain rfl : a = 0 := by omega
  have : Builtin.Int.intBits 0 = 0 := rfl
  unfold highBit
  omega
theorem mid_ok {a : Int} {n : Nat} (ha : 0 ≤ a) (ha' : a < 4096) (hn : n ≤ 12) : PySem.IntMulOk ((a.fdiv (2 ^ n)).fdiv 2 * 2 + 1) (2 ^ n) := by
  have hp := two_pow_pos n
  have h1 : 0 ≤ a.fdiv (2 ^ n) ∧ a.fdiv (2 ^ n) ≤ a := by
    rw [Int.fdiv_eq_ediv_of_nonneg _ (Int.le_of_lt hp)]
    exact ⟨Int.ediv_nonneg ha (Int.le_of_lt hp), Int.ediv_le_self _ ha⟩
  generalize a.fdiv (2 ^ n) = b at *
  rw [Int.fdiv_eq_ediv_of_nonneg _ (show (0 : Int) ≤ 2 by decide)]
  refine PySem.IntMulOk.of_bits (Nat.le_trans (bits_le_of (n := 14) (by omega) (by omega)) (by decide)) (Nat.le_trans (bits_le_of (n := 13) (Int.le_of_lt hp) ?_) (by decide))
  exact Int.lt_of_le_of_lt (two_pow_le hn) (by decide)
end Mine
end

section
open PySem PySem.W PyProof.Rows PySem.Calls
set_option Elab.async false
set_option maxRecDepth 100000
set_option maxHeartbeats 2000000
namespace Mine
section
variable {prog : Program} {w : World} {A : Around} {s : Shared} {E : Value → Shared → Prop}
theorem lt_tup {a b : Addr} {x y x' y' : Int} {t u t' u' : Tok} {Q : Value → Shared → Prop} (hu : A.units < cLine)
    (ha : IsTup s.heap a #[.int x t, .int y u]) (hb : IsTup s.heap b #[.int x' t', .int y' u']) (hne : x ≠ x') (h : Q (.bool (decide (x < x'))) s) :
    wpAny (model prog w) A (richCompare .Lt (.ref a) (.ref b)) Q E s := by
  obtain ⟨oa, hoa, hca, na, hda⟩ := ha
  obtain ⟨ob, hob, hcb, nb, hdb⟩ := hb
  have Ta : s.TypeIs (.ref a) "tuple" := ⟨oa, hoa, hca⟩
  have Tb : s.TypeIs (.ref b) "tuple" := ⟨ob, hob, hcb⟩
  refine wpAny_richCompare_same_room (op := .Lt) Ta Tb F.slot_tuple_lt (wpAny_call_entry F.slot_tuple_lt Ta F.entry_tuple_lt ?_ (F.args_tuple_lt_2 _ _)) hu
  show wpAny _ _ (isInstance (.ref b) (.type "tuple") >>= _) _ _ s
  refine wpAny_bind (wpAny_isInstance Tb isSubtype_tuple_tuple ?_)
  simp only [Bool.not_true, Bool.false_eq_true, if_false]
  refine wpAny_bind (wpAny_tupleItemsOf hoa hda ?_)
  refine wpAny_bind (wpAny_tupleItemsOf hob hdb ?_)
  refine wpAny_bind ?_
  simp only [List.zip_cons_cons, List.zip_nil_right, List.forIn_cons, List.forIn_nil]
  refine wpAny_bind (wpAny_bind (wpAny_eqBool_int ?_))
  have e : (x == x') = false := by simpa using hne
  rw [e]
  simp only [Bool.not_false, if_true]
  refine wpAny_bind (wpAny_rule (wpAny_bind ?_))
  exact richCompare_gives (op := .Lt) (typeIs_int s _ t) (typeIs_int s _ t') F.slot_int_lt F.entry_int_lt (F.args_int_lt_2 _ _) (gives_int_lt _ _ t t') (fun x => nomatch x) (wpAny_pure (wpAny_pure (wpAny_pure ⟨_, rfl, (fun e => nomatch e), h⟩)))
end
/-- the tuples of a list, at a heap -/
def TupsOf (h : Heap) (as : List Addr) (ps : List (Int × Int)) : Prop := ∀ (i : Nat) (a : Addr), as[i]? = some a → ∃ p t u, ps[i]? = some p ∧ IsTup h a #[.int p.1 t, .int p.2 u]
theorem TupsOf.keeps {h h' : Heap} {as : List Addr} {ps : List (Int × Int)} (T : TupsOf h as ps) (k : ∀ a ∈ as, ∀ o, h.get? a = some o → h'.get? a = some o) : TupsOf h' as ps := by
  intro i a e
  obtain ⟨p, t, u, hp, o, ho, r⟩ := T i a e
  exact ⟨p, t, u, hp, o, k a (List.mem_of_getElem? e) o ho, r⟩
section
variable {prog : Program} {w : World} {A : Around} {s : Shared} {E : Value → Shared → Prop} {R : Result → Shared → Prop} {I l S : Addr} {as : List Addr} {ps : List (Int × Int)}
def btP (ps : List (Int × Int)) (i j : Nat) : Bool := decide ((ps.getD i (0, 0)).1 < (ps.getD j (0, 0)).1)
def StP (I l : Addr) (as : List Addr) (ps : List (Int × Int)) (i : Nat) (h : Heap) : Prop := h.IsListIter I l i ∧ h.IsList l (as.map Value.ref).toArray ∧ TupsOf h as ps
def AtP (as : List Addr) (i : Nat) (v : Value) : Prop := ∃ a, as[i]? = some a ∧ v = .ref a
theorem getD_some {ps : List (Int × Int)} {i : Nat} {p : Int × Int} (h : ps[i]? = some p) : ps.getD i (0, 0) = p := by rw [List.getD_eq_getElem?_getD, h]; rfl
theorem cmp_tups {i j k : Nat} {vi vj : Value} {Q : Value → Shared → Prop} (hu : A.units < cLine) (hnd : (ps.map (·.1)).Nodup) (hij : i ≠ j) (st : StP I l as ps k s.heap) (hi : AtP as i vi) (hj : AtP as j vj)
    (h : Q (.bool (btP ps i j)) s) : wpAny (model prog w) A (richCompare .Lt vi vj) Q E s := by
  obtain ⟨a, ha, rfl⟩ := hi
  obtain ⟨b, hb, rfl⟩ := hj
  obtain ⟨p, t, u, hp, Ta⟩ := st.2.2 i a ha
  obtain ⟨q, t', u', hq, Tb⟩ := st.2.2 j b hb
  refine lt_tup hu Ta Tb (fun e => hij ?_) ?_
  · have h1 : (ps.map (·.1))[i]? = some p.1 := by rw [List.getElem?_map, hp]; rfl
    have h2 : (ps.map (·.1))[j]? = some p.1 := by rw [List.getElem?_map, hq]; exact congrArg some e.symm
    obtain ⟨hi', _⟩ := List.getElem?_eq_some_iff.mp h1
    exact (List.getElem?_inj hi' hnd).mp (h1.trans h2.symm)
  · have e : btP ps i j = decide (p.1 < q.1) := by unfold btP; rw [getD_some hp, getD_some hq]
    rw [← e]; exact h
theorem item_tups (hh : A.handled = none) (hlI : l ≠ I) (hI : ∀ a ∈ as, a ≠ I) {i : Nat} {Q : Option Value → Shared → Prop} (hi : i < as.length) (st : StP I l as ps i s.heap)
    (h : ∀ v h' tk, AtP as i v → StP I l as ps (i + 1) h' → (∀ b o, b ≠ I → s.heap.get? b = some o → h'.get? b = some o) → Q (some v) { s with heap := h', toks := tk }) : wpAny (model prog w) A (pyNext (.ref I)) Q E s := by
  refine (Walks.list (A := A) hh I l hlI (as.map Value.ref).toArray).item i s Q E (by simpa using hi) ⟨st.1, st.2.1⟩ fun v h' tk hv st' k => ?_
  have k' : ∀ b o, b ≠ I → s.heap.get? b = some o → h'.get? b = some o := fun b o hb e => k b o (by simpa using hb) e
  refine h v h' tk ?_ ⟨st'.1, st'.2, st.2.2.keeps fun a ha o e => k' a o (hI a ha) e⟩ k'
  simp only [List.getElem?_toArray, List.getElem?_map, Option.map_eq_some_iff] at hv
  obtain ⟨a, ha, rfl⟩ := hv
  exact ⟨a, ha, rfl⟩
theorem done_tups (hh : A.handled = none) (hlI : l ≠ I) {Q : Option Value → Shared → Prop} (st : StP I l as ps as.length s.heap)
    (h : ∀ h' tk, (∀ b o, b ≠ I → s.heap.get? b = some o → h'.get? b = some o) → Q none { s with heap := h', toks := tk }) : wpAny (model prog w) A (pyNext (.ref I)) Q E s := by
  have hs : (as.map Value.ref).toArray.size = as.length := by simp
  exact (Walks.list (A := A) hh I l hlI (as.map Value.ref).toArray).done s Q E ⟨by rw [hs]; exact st.1, st.2.1⟩ fun h' tk k => h h' tk fun b o hb e => k b o (by simpa using hb) e
theorem argBest_le (bt : Nat → Nat → Bool) : ∀ k, argBest bt k ≤ k
  | 0 => Nat.le_refl _
  | k + 1 => by
    have := argBest_le bt k
    unfold argBest
    split <;> omega
theorem min_tups_loop (hh : A.handled = none) (hu : A.units + 64 < cLine) (hlI : l ≠ I) (hI : ∀ a ∈ as, a ≠ I) (hlS : l ≠ S) (hIS : I ≠ S) (hS : ∀ a ∈ as, a ≠ S) (hnd : (ps.map (·.1)).Nodup) :
    ∀ (k j : Nat) (s : Shared) (vb : Value) (c : Nat), as.length - (j + 1) = k → j + 1 ≤ as.length → StP I l as ps (j + 1) s.heap → AtP as (argBest (btP ps) j) vb →
    s.heap.get? S = some { cls := .type "list", dict := none, data := .seq #[vb, vb] c, slots := #[] } →
    (∀ v h' tk, AtP as (argBest (btP ps) (as.length - 1)) v → (∀ b o, b ≠ I → b ≠ S → s.heap.get? b = some o → h'.get? b = some o) → R (.ok (.ret v)) { s with heap := h', toks := tk }) →
    codeAny (model prog w) A (.builtin "min.loop" ⟨[.ref I, .none, .ref S], []⟩) R s := by
  have hname : (toString "min" ++ toString ".loop" : String) = "min.loop" := by decide
  have hh1 : A.in1.handled = none := hh
  have hu1 : A.in1.units < cLine := by
    have : A.in1.units ≤ A.units + 64 := by first | exact Nat.le_add_right _ _ | exact Nat.add_le_add_left (by decide) _
    omega
  intro k
  induction k with
  | zero =>
    intro j s vb c hk hj st hb hSg hR
    have hin : j + 1 = as.length := by omega
    refine codeAny_builtin F.entry_min_loop ?_
    rw [Around.under_plainId F.plain_min_loop _]
    show wpAny _ A.in1 (seqItems? (.ref S) >>= _) _ _ s
    refine wpAny_bind (wpAny_seqItems hSg rfl ?_)
    show wpAny _ A.in1 (tryCatch (pyNext (.ref I)) _ >>= _) _ _ s
    refine wpAny_bind (wpAny_tryCatch (done_tups hh1 hlI (hin ▸ st) fun h' tk hk' => ?_))
    have hS' := hk' S _ hIS.symm hSg
    show wpAny _ A.in1 (updateSeq S (fun _ => #[]) >>= _) _ _ _
    refine wpAny_bind ?_
    refine wpAny_updateSeq hS' rfl (wpAny_bind (wpAny_letGo (wpAny_pure ?_)))
    exact hR vb _ tk (by rw [← hin]; exact hb) fun b o hbI hbS e => (Heap.get?_update_other _ _ (Ne.symm hbS)).trans (hk' b o hbI e)
  | succ k ih =>
    intro j s vb c hk hj st hb hSg hR
    have hlt : j + 1 < as.length := by omega
    refine codeAny_builtin F.entry_min_loop ?_
    rw [Around.under_plainId F.plain_min_loop _]
    show wpAny _ A.in1 (seqItems? (.ref S) >>= _) _ _ s
    refine wpAny_bind (wpAny_seqItems hSg rfl ?_)
    show wpAny _ A.in1 (tryCatch (pyNext (.ref I)) _ >>= _) _ _ s
    refine wpAny_bind (wpAny_tryCatch (item_tups hh1 hlI hI hlt st fun v h' tk hP st' hk' => ?_))
    have hS' := hk' S _ hIS.symm hSg
    show wpAny _ A.in1 (tryCatch (holding [v, v] (richCompare .Lt v vb >>= _)) _ >>= _) _ _ _
    have hle := argBest_le (btP ps) j
    refine wpAny_bind (wpAny_tryCatch (wpAny_holding (wpAny_bind (cmp_tups hu1 hnd (i := j + 1) (j := argBest (btP ps) j) (by omega) st' hP hb ?_))))
    refine wpAny_bind (wpAny_holding (wpAny_truthy_bool ?_))
    refine wpAny_bind (wpAny_letGo (wpAny_pure ?_))
    cases hc : btP ps (j + 1) (argBest (btP ps) j) with
    | true =>
      simp only [if_true]
      refine wpAny_bind ?_
      refine wpAny_updateSeq hS' rfl (wpAny_bind (wpAny_letGo ?_))
      rw [hname]
      refine wpAny_pure ⟨plainId_quiet F.plain_min_loop _, ih (j + 1) _ v _ (by omega) hlt ⟨?_, ?_, st'.2.2.keeps fun a ha o e => ?_⟩ (by simp only [argBest, hc, if_true]; exact hP) (Heap.get?_update_self _ hS' rfl) fun v' h'' tk'' hP' hk'' => ?_⟩
      · exact st'.1.at fun o e => (Heap.get?_update_other _ _ (Ne.symm hIS)).trans e
      · exact st'.2.1.at fun o e => (Heap.get?_update_other _ _ (Ne.symm hlS)).trans e
      · exact (Heap.get?_update_other _ _ (Ne.symm (hS a ha))).trans e
      · exact hR v' h'' tk'' hP' fun b o hbI hbS e => hk'' b o hbI hbS ((Heap.get?_update_other _ _ (Ne.symm hbS)).trans (hk' b o hbI e))
    | false =>
      simp only [Bool.false_eq_true, if_false]
      refine wpAny_bind (wpAny_letGo ?_)
      rw [hname]
      refine wpAny_pure ⟨plainId_quiet F.plain_min_loop _, ih (j + 1) _ vb c (by omega) hlt st' (by simp only [argBest, hc, Bool.false_eq_true, if_false]; exact hb) hS' fun v' h'' tk'' hP' hk'' => ?_⟩
      exact hR v' h'' tk'' hP' fun b o hbI hbS e => hk'' b o hbI hbS (hk' b o hbI e)

theorem min_tups {l : Addr} {Q : Value → Shared → Prop} (hh : A.handled = none) (hu : A.units + 200 < cLine) (hl : s.heap.IsList l (as.map Value.ref).toArray) (hT : TupsOf s.heap as ps) (hlen : as.length = ps.length) (hne : 0 < as.length) (hnd : (ps.map (·.1)).Nodup)
    (h : ∀ (i : Nat) a x y h' tk, s.heap.StaysIn h' → as[i]? = some a → ps[i]? = some (x, y) → (∀ p ∈ ps, x ≤ p.1) → Q (.ref a) { s with heap := h', toks := tk }) :
    wpAny (model prog w) A (call (.builtin "min") [.ref l]) Q E s := by
  have hname : (toString "min" ++ toString ".loop" : String) = "min.loop" := by decide
  have hh1 : A.in1.handled = none := hh
  refine call_function_tree F.kind_min F.plain_min F.entry_min (F.args_min1 _) ?_
  show wpAny _ A.in1 (Builtin.Builtins.bindParams "min" ["key", "default"] 0 ⟨[], []⟩ >>= _) _ _ s
  refine wpAny_bind (wpAny_of_eq (show Builtin.Builtins.bindParams "min" ["key", "default"] 0 ⟨[], []⟩ = pure [none, none] from rfl) ?_)
  refine wpAny_bind (wpAny_pure ?_)
  have hlt : l < s.heap.objs.size := by obtain ⟨_, e, _⟩ := hl; exact Heap.lt_size e
  have hast : ∀ a ∈ as, a < s.heap.objs.size := fun a ha => by
    obtain ⟨i, hi, rfl⟩ := List.mem_iff_getElem.mp ha
    obtain ⟨_, _, _, _, o, ho, _⟩ := hT i _ (List.getElem?_eq_getElem hi)
    exact Heap.lt_size ho
  refine wpAny_bind (wpAny_pyIter_list hl ?_)
  refine wpAny_bind (wpAny_newObj_type ?_)
  rw [hname]
  refine wpAny_pure ⟨plainId_quiet F.plain_min_loop _, ?_⟩
  have up : ∀ b o, s.heap.get? b = some o → ((s.heap.push { cls := .type "list_iterator", data := .fields #[.ref l, .int 0 0] }).push { cls := .type "list", dict := none, data := .seq #[] }).get? b = some o := fun b o e => Heap.get?_push_of_some _ (Heap.get?_push_of_some _ e)
  have hIn : (s.heap.push { cls := .type "list_iterator", data := .fields #[.ref l, .int 0 0] }).objs.size = s.heap.objs.size + 1 := Heap.size_push _ _
  generalize hH : s.heap.push { cls := .type "list_iterator", data := .fields #[.ref l, .int 0 0] } = H at *
  have st0 : StP s.heap.objs.size l as ps 0 (H.push { cls := .type "list", dict := none, data := .seq #[] }) := by
    refine ⟨⟨_, Heap.get?_push_of_some _ (hH ▸ Heap.get?_push_size _ rfl), rfl, rfl⟩, hl.at fun o e => up _ o e, hT.keeps fun a ha o e => up a o e⟩
  have hlI : l ≠ s.heap.objs.size := Nat.ne_of_lt hlt
  have hlS : l ≠ H.objs.size := by rw [hIn]; exact Nat.ne_of_lt (Nat.lt_succ_of_lt hlt)
  have hIS : s.heap.objs.size ≠ H.objs.size := by rw [hIn]; exact Nat.ne_of_lt (Nat.lt_succ_self _)
  have hI : ∀ a ∈ as, a ≠ s.heap.objs.size := fun a ha => Nat.ne_of_lt (hast a ha)
  have hS : ∀ a ∈ as, a ≠ H.objs.size := fun a ha => by rw [hIn]; exact Nat.ne_of_lt (Nat.lt_succ_of_lt (hast a ha))
  have hSg : (H.push { cls := .type "list", dict := none, data := .seq #[] }).get? H.objs.size = some { cls := .type "list", dict := none, data := .seq #[] } := Heap.get?_push_size _ rfl
  generalize hH2 : H.push { cls := .type "list", dict := none, data := .seq #[] } = H2 at *
  refine codeAny_builtin F.entry_min_loop ?_
  rw [Around.under_plainId F.plain_min_loop _]
  show wpAny _ A.in1 (seqItems? (.ref H.objs.size) >>= _) _ _ _
  refine wpAny_bind (wpAny_seqItems hSg rfl ?_)
  show wpAny _ A.in1 (tryCatch (pyNext (.ref s.heap.objs.size)) _ >>= _) _ _ _
  refine wpAny_bind (wpAny_tryCatch (item_tups hh1 hlI hI hne st0 fun v h' tk hP st' hk' => ?_))
  have hS' := hk' _ _ hIS.symm hSg
  show wpAny _ A.in1 (updateSeq H.objs.size (fun _ => #[v, v]) >>= _) _ _ _
  refine wpAny_bind ?_
  refine wpAny_updateSeq hS' rfl ?_
  rw [hname]
  refine wpAny_pure ⟨plainId_quiet F.plain_min_loop _, min_tups_loop (as := as) (ps := ps) hh (by omega) hlI hI hlS hIS hS hnd _ 0 _ v _ rfl hne ⟨?_, ?_, st'.2.2.keeps fun a ha o e => ?_⟩ hP (Heap.get?_update_self _ hS' rfl) fun v' h'' tk'' hP' hk'' => ?_⟩
  · exact st'.1.at fun o e => (Heap.get?_update_other _ _ (Ne.symm hIS)).trans e
  · exact st'.2.1.at fun o e => (Heap.get?_update_other _ _ (Ne.symm hlS)).trans e
  · exact (Heap.get?_update_other _ _ (Ne.symm (hS a ha))).trans e
  · obtain ⟨a, ha, rfl⟩ := hP'
    have keep : s.heap.StaysIn h'' := fun b o e => by
      have hb := Heap.lt_size e
      have b1 : b ≠ s.heap.objs.size := Nat.ne_of_lt hb
      have b2 : b ≠ H.objs.size := by rw [hIn]; exact Nat.ne_of_lt (Nat.lt_succ_of_lt hb)
      exact hk'' b o b1 b2 ((Heap.get?_update_other _ _ (Ne.symm b2)).trans (hk' b o b1 (up b o e)))
    obtain ⟨p, t, u, hp, Ta⟩ := hT _ a ha
    refine h _ a p.1 p.2 h'' tk'' keep ha hp fun q hq => ?_
    obtain ⟨j, hj, rfl⟩ := List.mem_iff_getElem.mp hq
    have := (argBest_lt (fun i => (ps.getD i (0, 0)).1) (as.length - 1)).2 j (by omega)
    have e1 : ps.getD j (0, 0) = ps[j] := getD_some (List.getElem?_eq_getElem hj)
    have e2 := getD_some hp
    unfold btP at e2
    rw [e1, e2] at this
    exact this
end
end Mine
end

section
open PySem PySem.W PyProof.Rows PySem.Calls
set_option Elab.async false
set_option maxRecDepth 100000
set_option maxHeartbeats 2000000
namespace Mine
/-- an element of a comprehension over a list of texts: a text -/
def TxEl (news : List (Addr × Obj)) (r : Str) (y : Value) (news' : List (Addr × Obj)) : Prop := news' = news ∧ ∃ t : Tok, y = .str r t
theorem tx_el {news news' : List (Addr × Obj)} {r r' : Str} {y : Value} {t : Tok} (e : r = r') (hn : news' = news) (hy : y = .str r' t) : TxEl news r y news' := by subst e; exact ⟨hn, t, hy⟩
theorem strs_snoc {y : Str} {t : Tok} {vs : List Value} {ys : List Str} (h : StrsAre vs ys) : StrsAre (vs ++ [.str y t]) (ys ++ [y]) := StrsAre.append' h (.cons y t .nil)
section
variable {prog : Program} {w : World} {A : Around} {h₀ : Heap} {L : Addr} {m : Str → Option Value} {env : Env} {elt : Expr} {x : Str} {scope : Scope} {cl : List (Str × Addr)} {s : Shared} {S : List (Addr × Obj) → Prop} {P : Nat → Value → Prop} {Fin : List Value → List (Addr × Obj) → Prop} {news : List (Addr × Obj)}
/-- a comprehension of texts over items that are known -/
theorem tx_rest {α : Type} {n : Nat} {ks : List α} (val : α → Tok → Value) (g : α → Str) (hks : ks.length = n) (hP : ∀ i v, i < n → P i v → ∃ k t, ks[i]? = some k ∧ v = val k t)
    (turn : ∀ k t I oI C oC D m₂ ys h tk (E' : Value → Shared → Prop), k ∈ ks → LCg.NsObj oC m₂ → m₂ x = some (val k t) → Fr h₀ L h m → News h₀ L h ((I, oI) :: (C, oC) :: (D, LCg.lst ys) :: news) → LCg.Off3 I C D news → ((@Ne Nat I C) ∧ (@Ne Nat I D) ∧ (@Ne Nat C D)) →
      wpAny (model prog w) A (eval elt (compEnvC scope cl C env)) (LCg.CompEnd h₀ L m { s with heap := h, toks := tk } I oI C oC D (LCg.lst ys) S (fun y news' => TxEl news (g k) y news')) E' { s with heap := h, toks := tk })
    (fin : ∀ ys, StrsAre ys (ks.map g) → Fin ys news) : LCg.CompRest prog w A h₀ L m env elt x scope cl s S P Fin n 0 [] news := by
  have key : ∀ (j i : Nat) (ys : List Value), i + j = n → StrsAre ys ((ks.take i).map g) → LCg.CompRest prog w A h₀ L m env elt x scope cl s S P Fin j i ys news := by
    intro j
    induction j with
    | zero =>
      intro i ys hi hy
      have e : i = ks.length := by omega
      subst e
      rw [List.take_length] at hy
      exact LCg.CompRest.zero (fin ys hy)
    | succ j ih =>
      intro i ys hi hy
      refine LCg.CompRest.succ ?_
      intro v I oI C oC D m₂ h tk E' hv hC hx F N off ne
      obtain ⟨k, t, hk, hv'⟩ := hP i v (by omega) hv
      rw [hv'] at hx
      refine wpAny_mono (turn k t I oI C oC D m₂ ys h tk E' (List.mem_of_getElem? hk) hC hx F N off ne) (fun y s₂ hq => ?_) fun _ _ e => e
      obtain ⟨h', tk', nw, e, F', N', off', hS, hn, t', hy'⟩ := hq
      rw [hn] at N' off' hS
      refine ⟨h', tk', news, e, F', N', off', hS, ?_⟩
      rw [hy']
      refine ih (i + 1) _ (by omega) ?_
      rw [List.take_add_one, hk]
      simpa using strs_snoc hy
  exact key n 0 [] (by omega) (by simp only [List.take_zero, List.map_nil]; exact .nil)
theorem tx_strs {vs : List Value} {xs : List Str} (g : Str → Str) (hi : StrsAre vs xs)
    (turn : ∀ k t I oI C oC D m₂ ys h tk (E' : Value → Shared → Prop), k ∈ xs → LCg.NsObj oC m₂ → m₂ x = some (.str k t) → Fr h₀ L h m → News h₀ L h ((I, oI) :: (C, oC) :: (D, LCg.lst ys) :: news) → LCg.Off3 I C D news → ((@Ne Nat I C) ∧ (@Ne Nat I D) ∧ (@Ne Nat C D)) →
      wpAny (model prog w) A (eval elt (compEnvC scope cl C env)) (LCg.CompEnd h₀ L m { s with heap := h, toks := tk } I oI C oC D (LCg.lst ys) S (fun y news' => TxEl news (g k) y news')) E' { s with heap := h, toks := tk })
    (fin : ∀ ys, StrsAre ys (xs.map g) → Fin ys news) : LCg.CompRest prog w A h₀ L m env elt x scope cl s S (fun i v => vs.toArray[i]? = some v) Fin vs.toArray.size 0 [] news :=
  tx_rest .str g (by rw [List.size_toArray]; exact hi.len_eq.symm) (fun i v _ hv => by
    obtain ⟨k, t, e, hk⟩ := StrsAre.item hi i v (by simpa using hv)
    exact ⟨k, t, hk, e⟩) turn fin
theorem tx_ints {vs : List Value} {ns : List Int} (g : Int → Str) (hi : IntsAre vs ns)
    (turn : ∀ k t I oI C oC D m₂ ys h tk (E' : Value → Shared → Prop), k ∈ ns → LCg.NsObj oC m₂ → m₂ x = some (.int k t) → Fr h₀ L h m → News h₀ L h ((I, oI) :: (C, oC) :: (D, LCg.lst ys) :: news) → LCg.Off3 I C D news → ((@Ne Nat I C) ∧ (@Ne Nat I D) ∧ (@Ne Nat C D)) →
      wpAny (model prog w) A (eval elt (compEnvC scope cl C env)) (LCg.CompEnd h₀ L m { s with heap := h, toks := tk } I oI C oC D (LCg.lst ys) S (fun y news' => TxEl news (g k) y news')) E' { s with heap := h, toks := tk })
    (fin : ∀ ys, StrsAre ys (ns.map g) → Fin ys news) : LCg.CompRest prog w A h₀ L m env elt x scope cl s S (fun i v => vs.toArray[i]? = some v) Fin vs.toArray.size 0 [] news :=
  tx_rest .int g (by rw [List.size_toArray]; exact hi.length.symm) (fun i v _ hv => by
    obtain ⟨k, t, e, hk⟩ := IntsAre.at hi i v (by simpa using hv)
    exact ⟨k, t, hk, e⟩) turn fin
/-- a comprehension of pairs over a list of ints: an element is a tuple made in its turn -/
def PrEl (news tups : List (Addr × Obj)) (r : Int × Int) (y : Value) (news' : List (Addr × Obj)) : Prop := ∃ (a : Addr) (n : Nat) (t u : Tok), y = .ref a ∧ news' = news ++ ((a, ({ cls := .type "tuple", data := .seq #[.int r.1 t, .int r.2 u] n } : Obj)) :: tups)
theorem pr_el {news tups news' : List (Addr × Obj)} {r : Int × Int} {x z : Int} {y : Value} {a : Addr} {n : Nat} {t u : Tok} (e : r = (x, z)) (hy : y = .ref a) (hn : news' = news ++ ((a, ({ cls := .type "tuple", data := .seq #[.int x t, .int z u] n } : Obj)) :: tups)) : PrEl news tups r y news' := by
  subst e; exact ⟨a, n, t, u, hy, hn⟩
def PrAll (tups : List (Addr × Obj)) (as : List Addr) (ps : List (Int × Int)) : Prop := as.length = ps.length ∧ ∀ (i : Nat) (a : Addr), as[i]? = some a → ∃ (p : Int × Int) (n : Nat) (t u : Tok), ps[i]? = some p ∧ (a, ({ cls := .type "tuple", data := .seq #[.int p.1 t, .int p.2 u] n } : Obj)) ∈ tups
theorem PrAll.nil : PrAll [] [] [] := ⟨rfl, fun i a e => by simp at e⟩
theorem PrAll.snoc {as : List Addr} {ps : List (Int × Int)} {tups : List (Addr × Obj)} (h : PrAll tups as ps) {a : Addr} {p : Int × Int} {n : Nat} {t u : Tok} :
    PrAll ((a, ({ cls := .type "tuple", data := .seq #[.int p.1 t, .int p.2 u] n } : Obj)) :: tups) (as ++ [a]) (ps ++ [p]) := by
  obtain ⟨h2, h3⟩ := h
  refine ⟨by simp [h2], fun i b hb => ?_⟩
  rcases Nat.lt_or_ge i as.length with hi | hi
  · rw [List.getElem?_append_left hi] at hb
    obtain ⟨q, n', t', u', hq, hm⟩ := h3 i b hb
    exact ⟨q, n', t', u', by rw [List.getElem?_append_left (h2 ▸ hi)]; exact hq, .tail _ hm⟩
  · rw [List.getElem?_append_right hi] at hb
    have hi0 : i - as.length = 0 := by
      rcases Nat.eq_zero_or_pos (i - as.length) with e | e
      · exact e
      · rw [List.getElem?_eq_none (by simp; omega)] at hb; cases hb
    rw [hi0] at hb
    simp only [List.getElem?_cons_zero, Option.some.injEq] at hb
    subst hb
    exact ⟨p, n, t, u, by rw [List.getElem?_append_right (h2 ▸ hi), ← h2, hi0]; rfl, .head _⟩
theorem PrAll.tups {as : List Addr} {ps : List (Int × Int)} {tups : List (Addr × Obj)} (h : PrAll tups as ps) {h₀ hp : Heap} {L : Addr} {news : List (Addr × Obj)} (N : News h₀ L hp news) (sub : ∀ p ∈ tups, p ∈ news) : TupsOf hp as ps := by
  intro i a e
  obtain ⟨p, n, t, u, hp', hm⟩ := h.2 i a e
  exact ⟨p, t, u, hp', _, (N _ (sub _ hm)).1, rfl, n, rfl⟩
theorem min_pr {E : Value → Shared → Prop} {l : Addr} {tups all keep : List (Addr × Obj)} {as : List Addr} {ps : List (Int × Int)} {Q : Value → Shared → Prop} (hh : A.handled = none) (hu : A.units + 200 < cLine) (F : Fr h₀ L s.heap m) (N : News h₀ L s.heap all) (hl : s.heap.IsList l (as.map Value.ref).toArray) (hP : PrAll tups as ps)
    (sub : ∀ p ∈ tups, p ∈ all) (sub2 : ∀ p ∈ keep, p ∈ all) (hne : 0 < ps.length) (hnd : (ps.map (·.1)).Nodup)
    (h : ∀ a x y t u n h' tk, Fr h₀ L h' m → News h₀ L h' ((a, ({ cls := .type "tuple", data := .seq #[.int x t, .int y u] n } : Obj)) :: keep) → (x, y) ∈ ps → (∀ p ∈ ps, x ≤ p.1) → Q (.ref a) { s with heap := h', toks := tk }) :
    wpAny (model prog w) A (call (.builtin "min") [.ref l]) Q E s := by
  refine min_tups hh hu hl (hP.tups N sub) hP.1 (hP.1 ▸ hne) hnd fun i a x y h' tk keep' hi hp hle => ?_
  obtain ⟨p, n, t, u, hp', hm⟩ := hP.2 i a hi
  obtain rfl : p = (x, y) := Option.some.inj (hp'.symm.trans hp)
  refine h a x y t u n h' tk (F.keeps keep') (fun q hq => ?_) (List.mem_of_getElem? hp) hle
  have hq' : q ∈ all := by
    rcases List.mem_cons.mp hq with rfl | hq
    · exact sub _ hm
    · exact sub2 q hq
  exact ⟨keep' _ _ (N q hq').1, (N q hq').2⟩
theorem min_xor (k j : Nat) {E : Value → Shared → Prop} {l : Addr} {tups all : List (Addr × Obj)} {as : List Addr} {ks : List Int} {q : Int} {Q : Value → Shared → Prop} (hh : A.handled = none) (hu : A.units + 200 < cLine) (F : Fr h₀ L s.heap m) (N : News h₀ L s.heap all) (hl : s.heap.IsList l (as.map Value.ref).toArray) (hP : PrAll tups as (ks.map fun k => (Builtin.bitXor q k, k)))
    (sub : ∀ p ∈ tups, p ∈ all) (hne : 0 < ks.length) (hnd : ((ks.map fun k => (Builtin.bitXor q k, k)).map (·.1)).Nodup)
    (h : ∀ a y t u n h' tk, Fr h₀ L h' m → News h₀ L h' ((a, ({ cls := .type "tuple", data := .seq #[.int (Builtin.bitXor q y) t, .int y u] n } : Obj)) :: List.take j (List.drop k all)) → y ∈ ks → (∀ k ∈ ks, Builtin.bitXor q y ≤ Builtin.bitXor q k) → Q (.ref a) { s with heap := h', toks := tk }) :
    wpAny (model prog w) A (call (.builtin "min") [.ref l]) Q E s := by
  refine min_pr (keep := List.take j (List.drop k all)) hh hu F N hl hP sub (fun p hp => List.mem_of_mem_drop (List.mem_of_mem_take hp)) (by rw [List.length_map]; exact hne) hnd fun a x y t u n h' tk F' N' hm hle => ?_
  obtain ⟨z, hz, e⟩ := List.mem_map.mp hm
  have e1 : Builtin.bitXor q z = x := congrArg Prod.fst e
  have e2 : z = y := congrArg Prod.snd e
  rw [e2] at e1 hz
  rw [← e1] at N' hle
  exact h a y t u n h' tk F' N' hz fun k' hk' => hle (Builtin.bitXor q k', k') (List.mem_map.mpr ⟨k', hk', rfl⟩)
theorem pr_ints {vs : List Value} {ns : List Int} (g : Int → Int × Int) (hi : IntsAre vs ns)
    (turn : ∀ k t I oI C oC D m₂ ys h tk (tups : List (Addr × Obj)) (E' : Value → Shared → Prop), k ∈ ns → LCg.NsObj oC m₂ → m₂ x = some (.int k t) → Fr h₀ L h m → News h₀ L h ((I, oI) :: (C, oC) :: (D, LCg.lst ys) :: (news ++ tups)) → LCg.Off3 I C D (news ++ tups) → ((@Ne Nat I C) ∧ (@Ne Nat I D) ∧ (@Ne Nat C D)) → S (news ++ tups) →
      wpAny (model prog w) A (eval elt (compEnvC scope cl C env)) (LCg.CompEnd h₀ L m { s with heap := h, toks := tk } I oI C oC D (LCg.lst ys) S (fun y news' => PrEl news tups (g k) y news')) E' { s with heap := h, toks := tk })
    (hS : S news) (fin : ∀ as tups, PrAll tups as (ns.map g) → Fin (as.map Value.ref) (news ++ tups)) : LCg.CompRest prog w A h₀ L m env elt x scope cl s S (fun i v => vs.toArray[i]? = some v) Fin vs.toArray.size 0 [] news := by
  have hks : ns.length = vs.toArray.size := by rw [List.size_toArray]; exact hi.length.symm
  generalize hvn : vs.toArray.size = n at hks
  have key : ∀ (j i : Nat) (as : List Addr) (tups : List (Addr × Obj)), i + j = n → S (news ++ tups) → PrAll tups as ((ns.take i).map g) → LCg.CompRest prog w A h₀ L m env elt x scope cl s S (fun i v => vs.toArray[i]? = some v) Fin j i (as.map Value.ref) (news ++ tups) := by
    intro j
    induction j with
    | zero =>
      intro i as tups hi' hS' hy
      have e : i = ns.length := by omega
      subst e
      rw [List.take_length] at hy
      exact LCg.CompRest.zero (fin as tups hy)
    | succ j ih =>
      intro i as tups hi' hS' hy
      refine LCg.CompRest.succ ?_
      intro v I oI C oC D m₂ h tk E' hv hC hx F N off ne
      obtain ⟨k, t, hv', hk⟩ := IntsAre.at hi i v (by simpa using hv)
      rw [hv'] at hx
      refine wpAny_mono (turn k t I oI C oC D m₂ _ h tk tups E' (List.mem_of_getElem? hk) hC hx F N off ne hS') (fun y s₂ hq => ?_) fun _ _ e => e
      obtain ⟨h', tk', nw, e, F', N', off', hS', a, n', t', u', hy', hn⟩ := hq
      refine ⟨h', tk', nw, e, F', N', off', hS', ?_⟩
      rw [hy', hn]
      have := ih (i + 1) (as ++ [a]) _ (by omega) (hn ▸ hS') (by
        have h3 := hy.snoc (a := a) (p := g k) (n := n') (t := t') (u := u')
        rw [List.take_add_one, hk]
        simpa using h3)
      simpa using this
  have := key n 0 [] [] (by omega) (by rw [List.append_nil]; exact hS) (by simp only [List.take_zero, List.map_nil]; exact .nil)
  rw [List.append_nil] at this
  exact this
end
end Mine
end

section
open PySem PySem.W PyProof.Rows PySem.Calls PyProof.V PySem.Spec PySem.SeqAt
set_option Elab.async false
set_option maxRecDepth 100000
set_option maxHeartbeats 2000000
namespace Mine
section
variable {prog : Program} {w : World} {A : Around} {E : Value → Shared → Prop} {s : Shared} {h₀ : Heap} {L a b l : Addr} {m : Str → Option Value} {news : List (Addr × Obj)} {vs ws : List Value} {xs ys : List Str} {ns ms : List Int} {x : Int} {u : Tok} {Q : Value → Shared → Prop}
theorem strs_rep (hi : StrsAre vs xs) : ∀ n : Nat, StrsAre (List.replicate n vs).flatten (List.replicate n xs).flatten
  | 0 => .nil
  | n + 1 => by
    simp only [List.replicate_succ, List.flatten_cons]
    exact StrsAre.append' hi (strs_rep hi n)
theorem ints_rep (hi : IntsAre vs ns) : ∀ n : Nat, IntsAre (List.replicate n vs).flatten (List.replicate n ns).flatten
  | 0 => .nil
  | n + 1 => by
    simp only [List.replicate_succ, List.flatten_cons]
    exact IntsAre.append hi (ints_rep hi n)
theorem mul_strs (F : Fr h₀ L s.heap m) (N : News h₀ L s.heap news) (hl : s.heap.IsList l vs.toArray) (hi : StrsAre vs xs) (hlo : 0 ≤ x) (hhi : x ≤ 16) (hsz : xs.length ≤ 16)
    (h : ∀ D us h', Fr h₀ L h' m → News h₀ L h' ((D, listOf (List.toArray us) 0) :: news) → (∀ p ∈ news, p.1 < D) → StrsAre us (List.replicate x.toNat xs).flatten → Q (.ref D) { s with heap := h' }) : wpAny (model prog w) A (binaryOp .Mult (.ref l) (.int x u)) Q E s := by
  refine KMa.mul F N hl (by omega) (by omega) ?_ rfl fun D h' F' N' l1 => h D _ h' F' N' l1 (strs_rep hi _)
  rw [hi.len_eq]
  exact Nat.le_trans (Nat.mul_le_mul hsz (show x.toNat ≤ 16 by omega)) (by decide)
theorem mul_ints (F : Fr h₀ L s.heap m) (N : News h₀ L s.heap news) (hl : s.heap.IsList l vs.toArray) (hi : IntsAre vs ns) (hlo : 0 ≤ x) (hhi : x ≤ 16) (hsz : ns.length ≤ 16)
    (h : ∀ D us h', Fr h₀ L h' m → News h₀ L h' ((D, listOf (List.toArray us) 0) :: news) → (∀ p ∈ news, p.1 < D) → IntsAre us (List.replicate x.toNat ns).flatten → Q (.ref D) { s with heap := h' }) : wpAny (model prog w) A (binaryOp .Mult (.ref l) (.int x u)) Q E s := by
  refine KMa.mul F N hl (by omega) (by omega) ?_ rfl fun D h' F' N' l1 => h D _ h' F' N' l1 (ints_rep hi _)
  rw [hi.length]
  exact Nat.le_trans (Nat.mul_le_mul hsz (show x.toNat ≤ 16 by omega)) (by decide)
theorem add_strs (F : Fr h₀ L s.heap m) (N : News h₀ L s.heap news) (ha : s.heap.IsList a vs.toArray) (hb : s.heap.IsList b ws.toArray) (hi : StrsAre vs xs) (hj : StrsAre ws ys) (hz : xs.length + ys.length ≤ 1000)
    (h : ∀ D us h', Fr h₀ L h' m → News h₀ L h' ((D, listOf (List.toArray us) 0) :: news) → (∀ p ∈ news, p.1 < D) → StrsAre us (xs ++ ys) → Q (.ref D) { s with heap := h' }) : wpAny (model prog w) A (binaryOp .Add (.ref a) (.ref b)) Q E s := by
  refine add_lists F N ha hb (fun h' F' N' => h _ _ h' F' N' (fun p hp => Heap.lt_size (N p hp).1) (StrsAre.append' hi hj)) ?_
  rw [hi.len_eq, hj.len_eq, sizeLine_eq]; omega
theorem reads_of_strs {h : Heap} (hl : h.IsList a vs.toArray) (hi : StrsAre vs xs) : Reads h (.ref a) (.list (xs.map PyData.str)) [a] := by
  obtain ⟨o, ho, hc, n, hd⟩ := hl
  exact Reads.list ho hc hd (by simpa using StrsAre.reads h hi)
theorem canLayAll0_strs : ∀ ns : List Str, (∀ n ∈ ns, PyData.strOk n = true) → PyData.canLayAll0 (ns.map PyData.str) = true
  | [], _ => by simp [PyData.canLayAll0]
  | n :: r, h => by simp [PyData.canLayAll0, PyData.canLay0, canLayAll0_strs r (fun n hn => h n (.tail _ hn)), h n (.head _)]
theorem depthAll_strs : ∀ ns : List Str, PyData.depthAll (ns.map PyData.str) ≤ 1
  | [] => by simp [PyData.depthAll]
  | n :: r => by
    have := depthAll_strs r
    simp only [List.map_cons, PyData.depthAll, PyData.depth]
    omega
theorem shaped_strs (ns : List Str) (h : ∀ n ∈ ns, PyData.strOk n = true) : shaped (.list (ns.map PyData.str)) = true := by
  have h1 := depthAll_strs ns
  have h2 : PyData.depth (.list (ns.map PyData.str)) ≤ 64 := by simp only [PyData.depth]; omega
  show (PyData.canLay0 (.list (ns.map PyData.str)) && decide (PyData.depth (.list (ns.map PyData.str)) ≤ 64)) = true
  rw [Bool.and_eq_true]
  exact ⟨by simp only [PyData.canLay0]; exact canLayAll0_strs ns h, decide_eq_true h2⟩
theorem noMix_strs : ∀ ns ms : List Str, noMixAll (ns.map PyData.str) (ms.map PyData.str) = true
  | [], [] => by simp [noMixAll]
  | [], _ :: _ => by simp [noMixAll]
  | _ :: _, [] => by simp [noMixAll]
  | _ :: r, _ :: q => by simp [noMixAll, noMix, noMix_strs r q]
theorem same_strs : ∀ ns ms : List Str, PySem.Spec.sameAll (ns.map PyData.str) (ms.map PyData.str) = decide (ns = ms)
  | [], [] => by simp [PySem.Spec.sameAll]
  | [], _ :: _ => by simp [PySem.Spec.sameAll]
  | _ :: _, [] => by simp [PySem.Spec.sameAll]
  | n :: r, k :: q => by
    simp only [List.map_cons, PySem.Spec.sameAll, PySem.Spec.same, same_strs r q]
    by_cases h : n = k <;> simp [h]
theorem ne_strs (hl : s.heap.IsList a vs.toArray) (hi : StrsAre vs xs) (hl' : s.heap.IsList b ws.toArray) (hi' : StrsAre ws ys) (o1 : ∀ n ∈ xs, PyData.strOk n = true) (o2 : ∀ n ∈ ys, PyData.strOk n = true) (hu : A.units + 64 < cLine)
    (h : Q (.bool (!decide (xs = ys))) s) : wpAny (model prog w) A (compareOp .NotEq (.ref a) (.ref b)) Q E s :=
  ne_dataH_same (reads_of_strs hl hi) (reads_of_strs hl' hi') (shaped_strs xs o1) (shaped_strs ys o2) hu (by simp only [noMix]; exact noMix_strs xs ys) (by simp only [PySem.Spec.same]; rw [same_strs]; exact h)
theorem ne_strs_same (hl : s.heap.IsList a vs.toArray) (hi : StrsAre vs xs) (hl' : s.heap.IsList b ws.toArray) (hi' : StrsAre ws ys) (e : xs = ys) (o2 : ∀ n ∈ ys, PyData.strOk n = true) (hu : A.units + 64 < cLine)
    (h : Q (.bool false) s) : wpAny (model prog w) A (compareOp .NotEq (.ref a) (.ref b)) Q E s := by
  refine ne_strs hl hi hl' hi' (by rw [e]; exact o2) o2 hu ?_
  rw [decide_eq_true e]; exact h
def ansS (x : Int) : Str := toString x
end
end Mine
end

section
open PySem PySem.W PyProof.Rows PySem.Calls
set_option Elab.async false
set_option maxRecDepth 100000
set_option maxHeartbeats 8000000
set_option pp.proofs false
namespace Mine
theorem cmpS_cases (a b : Str) : cmpS a b = -1 ∨ cmpS a b = 0 ∨ cmpS a b = 1 := by
  unfold cmpS
  by_cases h1 : b.cps.toList < a.cps.toList <;> by_cases h2 : a.cps.toList < b.cps.toList <;> simp [h1, h2, b2i]
theorem cmpS_fit (a b : Str) : (if cmpS a b < 0 then 0 - cmpS a b else cmpS a b) < 2 := by
  rcases cmpS_cases a b with h | h | h <;> rw [h] <;> decide
theorem str_int {prog : Program} {w : World} {A : Around} {s : Shared} {E : Value → Shared → Prop} {a b : Str} {t : Tok} {Q : Value → Shared → Prop} (k : Q (.str (ansS (cmpS a b)) s.toks) { s with toks := s.toks + 1 }) : wpAny (model prog w) A (call (.type "str") [.int (cmpS a b) t]) Q E s :=
  str_of_int_fit (cmpS_fit a b) (by decide) fun _ => k
theorem len_rep {α : Type} (n : Nat) (x : α) : (List.replicate n [x]).flatten.length = n := by
  induction n with
  | zero => rfl
  | succ n ih => simp only [List.replicate_succ, List.flatten_cons, List.length_append, List.length_singleton, ih]; omega
theorem room_a {α : Type} {x y : α} {a b : Int} {n : Nat} (h1 : 0 ≤ a) (h2 : a ≤ b) (h3 : b ≤ n) (h4 : n ≤ 8) : (List.replicate a.toNat [x]).flatten.length + (List.replicate (b - a).toNat [y]).flatten.length ≤ 1000 := by simp only [len_rep]; omega
theorem room_b {α : Type} {x y z : α} {a b : Int} {n : Nat} (h1 : 0 ≤ a) (h2 : a ≤ b) (h3 : b ≤ n) (h4 : n ≤ 8) : ((List.replicate a.toNat [x]).flatten ++ (List.replicate (b - a).toNat [y]).flatten).length + (List.replicate (n - b).toNat [z]).flatten.length ≤ 1000 := by simp only [len_rep, List.length_append]; omega
theorem mem_rep {α : Type} {n : Nat} {x y : α} (h : y ∈ (List.replicate n [x]).flatten) : y = x := by
  obtain ⟨l, hl, hy⟩ := List.mem_flatten.mp h
  have := List.eq_of_mem_replicate hl
  subst this
  simpa using hy
theorem ok_three {a b c : Nat} : ∀ y ∈ (List.replicate a [Str.ofString "-1"]).flatten ++ (List.replicate b [Str.ofString "0"]).flatten ++ (List.replicate c [Str.ofString "1"]).flatten, PyData.strOk y = true := by
  intro y hy
  rcases List.mem_append.mp hy with hy | hy
  · rcases List.mem_append.mp hy with hy | hy
    · rw [mem_rep hy]; decide +kernel
    · rw [mem_rep hy]; decide +kernel
  · rw [mem_rep hy]; decide +kernel
theorem nodup_on {α β : Type} {f : α → β} {l : List α} (h : ∀ x ∈ l, ∀ y ∈ l, f x = f y → x = y) (hn : l.Nodup) : (l.map f).Nodup := by
  induction l with
  | nil => simp
  | cons a r ih =>
    obtain ⟨h1, h2⟩ := List.nodup_cons.mp hn
    rw [List.map_cons, List.nodup_cons]
    refine ⟨fun hm => ?_, ih (fun x hx y hy => h x (.tail _ hx) y (.tail _ hy)) h2⟩
    obtain ⟨y, hy, e⟩ := List.mem_map.mp hm
    exact h1 (h y (.tail _ hy) a (.head _) e ▸ hy)
theorem lead_ne {a b : List Str} {Q : Value → Shared → Prop} {s : Shared} (e : a = b) (h : Q (.bool false) s) : Q (.bool (!decide (a = b))) s := by rw [decide_eq_true e]; exact h
theorem off_ins {I C D T : Addr} {o : Obj} {tups : List (Addr × Obj)} : ∀ {news : List (Addr × Obj)}, LCg.Off3 I C D (news ++ tups) → I < T → C < T → D < T → LCg.Off3 I C D (news ++ (T, o) :: tups)
  | [], h, a, b, c => ⟨⟨Nat.ne_of_gt a, Nat.ne_of_gt b, Nat.ne_of_gt c⟩, h⟩
  | _ :: _, h, a, b, c => ⟨h.1, off_ins h.2 a b c⟩
theorem pr_end {h₀ h' : Heap} {L T I C D ax : Addr} {m : Str → Option Value} {s₁ : Shared} {oI oC oD : Obj} {its : Array Value} {news tups : List (Addr × Obj)} {x z : Int} {t u : Tok} {n tk : Nat}
    (F : Fr h₀ L h' m) (N : News h₀ L h' ((T, ({ cls := .type "tuple", data := .seq #[.int x t, .int z u] n } : Obj)) :: (I, oI) :: (C, oC) :: (D, oD) :: (news ++ tups))) (off : LCg.Off3 I C D (news ++ tups)) (l1 : I < T) (l2 : C < T) (l3 : D < T) (hl : h₀.IsList ax its) :
    LCg.CompEnd h₀ L m s₁ I oI C oC D oD (LCg.SrcAt h₀ ax its) (fun y news' => PrEl news tups (x, z) y news') (.ref T) { s₁ with heap := h', toks := tk } :=
  LCg.CompEnd.intro F N _ (fun p hp => by
    simp only [List.mem_cons, List.mem_append] at hp ⊢
    rcases hp with h | h | h | h | h | h <;> simp [h]) (off_ins off l1 l2 l3) (.inl hl) ⟨T, n, t, u, rfl, rfl⟩
theorem lead_bool {b c : Bool} {Q : Value → Shared → Prop} {s : Shared} (e : b = c) (h : Q (.bool c) s) : Q (.bool b) s := by rw [e]; exact h
theorem fill9 (w : World) : (hd.heap_39 w.params = hd.heap_39 w.params) ∧ (PySem.Challenge.rw_st0003_01 = PySem.Challenge.rw_st0003_01) := by k_fill; exact ⟨rfl, rfl⟩
local macro_rules | `(tactic| walk_at "my enter") => `(tactic| k_dflt (refine' enterP (by assumption) ?k6 ?k7 ?k9 ?kB ?_ ?c2 ?c3 ?c4 ?c5; (case k6 => k_is); (case k7 => k_is); (case k9 => exact BindsTo.of_eq rfl); (case c5 => decide); (case kB => exact locs rfl); (case c2 => exact rfl); (case c3 => exact rfl); (case c4 => exact rfl); intro gd env outer base g' L' h' F' N' B' X' T' hG'; (try dsimp only); (try k_fold)))
local macro_rules | `(tactic| walk_at "my enterC") => `(tactic| k_dflt (refine' enterC (by assumption) ?k6 ?k7 ?k9 ?kB ?kD ?_ ?c2 ?c3 ?c4; (case k6 => k_is); (case k7 => k_is); (case k9 => exact BindsTo.of_eq rfl); (case kB => exact rfl); (case kD => decide +kernel); (case c2 => exact rfl); (case c3 => exact rfl); (case c4 => exact rfl); intro gd env outer base g' L' h' tk' cells' F' N' Y' B' X' T' hG'; k_cells Y'; (try simp only [List.cons_append, List.nil_append] at N'); (try dsimp only); (try k_fold)))
local macro_rules | `(tactic| walk_at "my steps") => `(tactic| repeat' (first | (k_unfold; (try dsimp only)) | (dsimp only; k_unfold; (try dsimp only)) | walk1 | (dsimp only; walk1) | (leave1; walk_say "STEP leave1"; try dsimp only) | fail "no step"))
local macro_rules | `(tactic| walk_at "InvEndN") => `(tactic| k_dflt kst_close)
local macro_rules | `(tactic| walk_at "my cx") => `(tactic| k_dflt (refine' cx_of ?B ?F ?X ?T rfl rfl rfl rfl ?d ?u; (case F => k_asm); (case B => k_asm); (case X => k_asm); (case T => k_asm); (case d => exact Nat.le_of_ble_eq_true rfl); (case u => exact Nat.le_of_ble_eq_true rfl)))
local macro_rules | `(tactic| walk_at "my back") => `(tactic| k_dflt (intro t9 h9 tk9 hS9; (have F9 := fr_stays (by k_asm) hS9); (have N9 := news_stays (by k_asm) hS9); clear hS9; (try k_sweep); (try dsimp only); (try k_fold)))

local macro_rules | `(tactic| walk_at "call ref") => `(tactic| k_extra "my call")
local macro_rules | `(tactic| walk_at "CompSrc") => `(tactic| k_extra "my comp")
local macro_rules | `(tactic| walk_at "call type:str") => `(tactic| k_dflt (refine str_int ?_))
local macro_rules | `(tactic| walk_at "TxEl") => `(tactic| k_dflt (exact tx_el rfl rfl rfl))
local macro_rules | `(tactic| walk_at "PrEl") => `(tactic| k_dflt (exact pr_el rfl rfl rfl))
local macro_rules | `(tactic| walk_at "binaryOp Mult ref int") => `(tactic| k_dflt (refine' mul_strs ?F ?N ?l ?i ?lo ?hi ?z ?_; (case F => k_asm); (case N => k_asm); (case l => is_list); (case i => exact .cons _ _ .nil); (case lo => omega); (case hi => omega); (case z => decide); intro D' us' h' F' N' l1 hI'; (try k_lt l1); (try k_sweep)))
local macro_rules | `(tactic| walk_at "binaryOp Add ref ref") => `(tactic| k_dflt (refine' add_strs ?F ?N ?a ?b ?i ?j ?z ?_; (case F => k_asm); (case N => k_asm); (case a => is_list); (case b => is_list); (case i => assumption); (case j => assumption); (case z => first | exact room_a (by assumption) (by assumption) (by assumption) (by assumption) | exact room_b (by assumption) (by assumption) (by assumption) (by assumption)); intro D' us' h' F' N' l1 hI'; (try k_lt l1); (try k_sweep)))
local macro_rules | `(tactic| walk_at "CompEnd") => `(tactic| k_extra "my end")
local macro_rules | `(tactic| walk_at "binaryOp Mult int int") => `(tactic| k_extra "my mult")
local macro_rules | `(tactic| walk_at "binaryOp Pow int int") => `(tactic| k_extra "my pow")
local macro_rules | `(tactic| walk_at "compareOp NotEq ref ref") => `(tactic| k_extra "my ne")
local macro_rules | `(tactic| walk_at "call builtin:min") => `(tactic| k_extra "my min")
def cutK (ks : List Int) (u : Int) : List Int := List.take (min (u + 1).toNat ks.length - (if u - 1 > 0 then u - 1 else 0).toNat) (List.drop (if u - 1 > 0 then u - 1 else 0).toNat ks)
def midOf (asked : Int) (n : Nat) : Int := ((asked.fdiv (2 ^ n)).fdiv 2 * 2 + 1) * 2 ^ n
structure FoundOk (asked : Int) (ks : List Int) (ns : List Int) (less : Int → Int) (near res : Int) : Prop where
  m : ∀ M, M ∈ (cutK ks (less (worthS (excGo ns (Str.ofString "") (left12 asked)) + 1))).map (fun k => highBit (Builtin.bitXor asked k)) → (∀ a, a ∈ (cutK ks (less (worthS (excGo ns (Str.ofString "") (left12 asked)) + 1))).map (fun k => highBit (Builtin.bitXor asked k)) → M ≤ a) → M = highBit (Builtin.bitXor asked near)
  z : highBit (Builtin.bitXor asked near) < 0 → less (worthS (excGo ns (Str.ofString "") (left12 asked))) = res
  g : ¬ highBit (Builtin.bitXor asked near) < 0 → isSingle (Builtin.bitAnd asked (2 ^ (highBit (Builtin.bitXor asked near)).toNat)) = decide (near < asked)
  t : ¬ highBit (Builtin.bitXor asked near) < 0 → isSingle (Builtin.bitAnd asked (2 ^ (highBit (Builtin.bitXor asked near)).toNat)) = true → less (worthS (excGo ns (Str.ofString "") (left12 (midOf asked (highBit (Builtin.bitXor asked near)).toNat - 1))) + 1) = res
  f : ¬ highBit (Builtin.bitXor asked near) < 0 → isSingle (Builtin.bitAnd asked (2 ^ (highBit (Builtin.bitXor asked near)).toNat)) = false → less (worthS (excGo ns (Str.ofString "") (left12 (midOf asked (highBit (Builtin.bitXor asked near)).toNat)))) = res
section
variable {w : World} {mean : ExcName → Option Value} {mg mb : Str → Option Value} {A : Around} {s : Shared} {Q E : Value → Shared → Prop}
theorem c_found
    (lk le lt lb : Addr) (asked : Int) (ta t1 t2 t3 t4 : Tok) (vks ves vts : List Value) (ks ns : List Int) (xs : List Str) (p o : Int) (wd : Nat) (C : Cx w mean mg mb 3 A s.heap)
    (hlk : s.heap.IsList lk vks.toArray) (hik : IntsAre vks ks) (hle : s.heap.IsList le ves.toArray) (hie : StrsAre ves xs) (hlt : s.heap.IsList lt vts.toArray) (hit : IntsAre vts ns)
    (hlb : IsTup s.heap lb #[.int p t1, .int o t2, .int (wd + 1) t3, .int ks.length t4])
    (hk3 : 3 ≤ ks.length) (hk8 : ks.length ≤ 8) (hkr : ∀ k ∈ ks, 0 ≤ k ∧ k < 4096) (hxl : xs.length = ks.length) (hnl : ns.length ≤ 12) (hnp : ∀ n ∈ ns, 0 < n) (hask : 0 ≤ asked ∧ asked < 4096)
    (hwd : 1 ≤ wd ∧ wd ≤ 12) (he01 : ∀ x, ∀ c ∈ (excGo ns (Str.ofString "") (left12 x)).cps.toList, c = 48 ∨ c = 49)
    (hw : ∀ x, 0 ≤ worthS (excGo ns (Str.ofString "") (left12 x)) ∧ worthS (excGo ns (Str.ofString "") (left12 x)) < 2 ^ wd) (hM1 : ∀ x, 0 ≤ x → x ≤ 2 ^ wd → PySem.IntMulOk x o) (hM2 : PySem.IntMulOk o (2 ^ ((wd : Int) + 1 - 1).toNat))
    (hl1 : 0 ≤ lessF p o (wd + 1) ks.length (worthS (excGo ns (Str.ofString "") (left12 asked))))
    (hl2 : lessF p o (wd + 1) ks.length (worthS (excGo ns (Str.ofString "") (left12 asked))) ≤ lessF p o (wd + 1) ks.length (worthS (excGo ns (Str.ofString "") (left12 asked)) + 1))
    (hl3 : lessF p o (wd + 1) ks.length (worthS (excGo ns (Str.ofString "") (left12 asked)) + 1) ≤ ks.length)
    (hans : xs.map (fun k => ansS (cmpS k (excGo ns (Str.ofString "") (left12 asked)))) = (List.replicate (lessF p o (wd + 1) ks.length (worthS (excGo ns (Str.ofString "") (left12 asked)))).toNat [Str.ofString "-1"]).flatten ++ (List.replicate (lessF p o (wd + 1) ks.length (worthS (excGo ns (Str.ofString "") (left12 asked)) + 1) - lessF p o (wd + 1) ks.length (worthS (excGo ns (Str.ofString "") (left12 asked)))).toNat [Str.ofString "0"]).flatten ++ (List.replicate ((ks.length : Int) - lessF p o (wd + 1) ks.length (worthS (excGo ns (Str.ofString "") (left12 asked)) + 1)).toNat [Str.ofString "1"]).flatten)
    (hnd : ks.Nodup) (hxor : ∀ k ∈ ks, ∀ k' ∈ ks, Builtin.bitXor asked k = Builtin.bitXor asked k' → k = k')
    (res : Int) (hok : ∀ near ∈ ks, (∀ k ∈ ks, Builtin.bitXor asked near ≤ Builtin.bitXor asked k) → FoundOk asked ks ns (lessF p o (wd + 1) ks.length) near res)
    (hret : ∀ t h' tk', s.heap.StaysIn h' → Q (.int res t) { s with heap := h', toks := tk' }) :
    wpAny (model PySem.Challenge.rw_st0003_01.row.prog w) A (call (.ref 92) [.int asked ta, .ref lk, .ref le, .ref lt, .ref lb]) Q E s := by
  have hndp : ((ks.map fun k => (Builtin.bitXor asked k, k)).map (·.1)).Nodup := by
    rw [List.map_map]
    exact nodup_on hxor hnd
  have hx0 : ∀ k ∈ ks, 0 ≤ Builtin.bitXor asked k := fun k hk => xor_nonneg hask.1 (hkr k hk).1
  have hx12 : ∀ k ∈ ks, Builtin.Int.intBits (Builtin.bitXor asked k) ≤ 12 := fun k hk => bits_le_of (hx0 k hk) (xor_lt hask.1 (hkr k hk).1 hask.2 (hkr k hk).2)
  k_with_none
  k_with "my call" => k_dflt (refine' c_excerpt lt vts ns _ _ ?C (Fr.lst (by k_asm) (by k_asm)) hit hnl hnp ?_; (case C => walk_at "my cx"); walk_at "my back")
  k_with "my call" => k_dflt (refine' c_worth _ _ ?C (he01 _) ?_; (case C => walk_at "my cx"); walk_at "my back")
  k_with "my call" => k_dflt (refine' c_less lb p o _ _ _ _ _ _ _ _ ?C ?tu ?o1 ?o2 ?hM1 ?hM2 ?_; (case C => walk_at "my cx"); (case tu => ((rename Fr _ _ _ _ => F'); (refine IsTup.keeps ?_ F'.keep); exact hlb')); (case o1 => omega); (case o2 => omega); (case hM1 => first | exact hM1 _ (hw _).1 (Int.le_of_lt (hw _).2) | exact hM1 _ (Int.le_add_one (hw _).1) (hw _).2); (case hM2 => exact hM2); walk_at "my back")
  k_with "my call" => k_dflt (refine' c_strcoll _ _ _ _ ?C ?_; (case C => walk_at "my cx"); walk_at "my back")
  k_with "my call" => k_dflt (refine' c_high _ _ ?C ?_; (case C => walk_at "my cx"); walk_at "my back")
  k_with "my call" => k_dflt (refine' c_single _ _ ?C ?_; (case C => walk_at "my cx"); intro h9 tk9 hS9; (have F9 := fr_stays (by k_asm) hS9); (have N9 := news_stays (by k_asm) hS9); clear hS9; (try k_sweep); (try dsimp only); (try k_fold))
  k_with "my comp" => k_dflt (refine LCg.CompSrc.base (by rfl) (by k_asm) (by k_asm) hle' (by rw [List.size_toArray, StrsAre.len_eq hie, sizeLine_eq]; omega) ?_; intro g'; (refine' tx_strs (fun k => ansS (cmpS k (excGo ns (Str.ofString "") (left12 asked)))) hie (fun k' t' I' oI' C' oC' D' m' ys' h' tk' E' hk' hC' hx' F' N' off' ne' => ?_) (fun ys' hI' => ?_)); (all_goals (try (simp only [LCg.Off3, and_true] at off'))); (all_goals (try k_fold)))
  k_with "my comp" => k_dflt (refine LCg.CompSrc.base (by rfl) (by k_asm) (by k_asm) hlk' (by rw [List.size_toArray, IntsAre.length hik, sizeLine_eq]; omega) ?_; intro g'; (refine' pr_ints (fun k => (Builtin.bitXor asked k, k)) hik (fun k' t' I' oI' C' oC' D' m' ys' h' tk' tups' E' hk' hC' hx' F' N' off' ne' hS8 => ?_) ?hS (fun as' tups' hI' => ?_)); (all_goals (try (have offR := off'))); (case hS => first | lcg_src | assumption); (all_goals (try (simp only [List.cons_append, List.nil_append, LCg.Off3, and_true] at off'))); (all_goals (try (simp only [List.cons_append, List.nil_append] at N'))); (all_goals (try k_fold)))
  k_with "my end" => k_dflt ((with_reducible show LCg.CompEnd _ _ _ _ _ _ _ _ _ _ _ (fun _ _ => PrEl _ _ _ _ _) _ _); (with_reducible rename (LT.lt _ _ ∧ LT.lt _ _ ∧ LT.lt _ _ ∧ _) => l9); (refine' pr_end ?ff ?nn offR ?l1 ?l2 ?l3 hlk'); (case l1 => exact l9.1); (case l2 => exact l9.2.1); (case l3 => exact l9.2.2.1); (case ff => k_asm); (case nn => k_asm))
  k_with "my min" => k_dflt ((with_reducible rename PrAll _ _ _ => hP9); (refine' min_xor 10 2 rfl ?u ?F ?N ?l hP9 ?sub ?ne hndp ?_); (case u => exact Nat.le_of_ble_eq_true rfl); (case F => k_asm); (case N => k_asm); (case l => is_list); (case sub => (intro p hp; kcf_m)); (case ne => omega); intro a9 y9 t9 u9 n9 h9 tk9 F9 N9 hm9 hle9; (simp only [List.drop_succ_cons, List.take_succ_cons, List.drop_zero, List.take_zero] at N9); clear hP9; (try k_sweep); (try dsimp only); (try k_fold))
  k_with "my pow" => k_dflt ((try (obtain rfl := wh_end (by assumption) (by assumption) (by assumption))); (have hb9 := hx12 _ hm9); (have hb8 : highBit (Builtin.bitXor asked y9) ≤ 11 := by (unfold highBit; omega)); (refine pow_int_small ?n0 ?n1 (by decide) ?_); (case n0 => omega); (case n1 => omega); (have hp9 : (0 : Int) < 2 ^ (highBit (Builtin.bitXor asked y9)).toNat := two_pow_pos _); (have hq9 : (2 : Int) ^ (highBit (Builtin.bitXor asked y9)).toNat ≠ 0 := (Int.ne_of_gt hp9)))
  k_with "my mult" => k_dflt (refine mul_int ?_ (mid_ok hask.1 hask.2 (by omega)))
  k_with "exec While Compare cons nil" => k_while (fun script apart high => 0 ≤ apart ∧ (Builtin.Int.intBits apart : Int) + high + 1 = (Builtin.Int.intBits (Builtin.bitXor asked y9) : Int)) (fun script apart high => apart.toNat) "apart" "high"
  k_with "state" => first | exact wh_start (hx0 _ hm9) | exact wh_step (by assumption) (by assumption)
  k_with "measure" => exact wh_less (by assumption)
  k_with "my ne" => k_dflt (refine' ne_strs_same ?a ?i ?b ?j hans ok_three ?u ?_; (case a => is_list); (case i => assumption); (case b => is_list); (case j => assumption); (case u => exact Nat.le_of_ble_eq_true rfl); k_whole)
  w_top off
  walk_at "my enterC"
  rename Heap.StaysIn _ _ => hG
  have hlk' := stays_list hG hlk
  have hle' := stays_list hG hle
  have hlt' := stays_list hG hlt
  have hlb' := stays_tup hG hlb
  walk_at "my steps"
  all_goals (try dsimp only)
  all_goals (have ok9 := hok _ hm9 hle9)
  · exfalso
    rename (_ ≠ _) => n9
    exact n9 ((ok9.m _ (by assumption) (by assumption)).trans (wh_end (by assumption) (by assumption) (by assumption)).symm)
  · obtain rfl := wh_end (by assumption) (by assumption) (by assumption)
    exact end_int hret hG (by k_asm) (ok9.z (by assumption))
  · exfalso
    rename (bne _ _ = true) => n9
    rw [ok9.g (by assumption)] at n9
    simp at n9
  · exact end_int hret hG (by k_asm) (ok9.t (by assumption) (by assumption))
  · exact end_int hret hG (by k_asm) (ok9.f (by assumption) (by assumption))
end
end Mine
end

section
open PySem PySem.W PyProof.Rows PySem.Calls
namespace Mine
/-- the sketch: the figures of x at the places P, the first place the lowest -/
def skP : List Nat → Nat → Nat
  | [], _ => 0
  | p :: r, x => x / 2 ^ p % 2 + 2 * skP r x
theorem div_up {x y a b : Nat} (h : x / 2 ^ a = y / 2 ^ a) (hab : a ≤ b) : x / 2 ^ b = y / 2 ^ b := by
  obtain ⟨d, rfl⟩ : ∃ d, b = a + d := ⟨b - a, by omega⟩
  rw [Nat.pow_add, ← Nat.div_div_eq_div_mul, ← Nat.div_div_eq_div_mul, h]
theorem div_half (x c : Nat) : x / 2 ^ (c + 1) = x / 2 ^ c / 2 := by
  rw [Nat.pow_succ, ← Nat.div_div_eq_div_mul]
theorem sk_same {x y b : Nat} (h : x / 2 ^ b = y / 2 ^ b) : ∀ P : List Nat, (∀ p ∈ P, b ≤ p) → skP P x = skP P y
  | [], _ => rfl
  | p :: r, hP => by
    rw [skP, skP, sk_same h r fun q hq => hP q (.tail _ hq), div_up h (hP p (.head _))]
theorem sk_lt_of {x y c : Nat} (h1 : x / 2 ^ (c + 1) = y / 2 ^ (c + 1)) (h2 : x / 2 ^ c < y / 2 ^ c) : ∀ P : List Nat, P.Pairwise (· < ·) → c ∈ P → skP P x < skP P y
  | [], _, h => by cases h
  | p :: r, hP, hc => by
    obtain ⟨hp, hr⟩ := List.pairwise_cons.mp hP
    simp only [skP]
    rcases List.mem_cons.mp hc with rfl | hc
    · have := sk_same h1 r fun q hq => hp q hq
      rw [this]
      rw [div_half, div_half] at h1
      omega
    · have := sk_lt_of h1 h2 r hr hc
      omega
theorem sk_le_of {x y : Nat} : ∀ P : List Nat, (∀ p ∈ P, x / 2 ^ p % 2 ≤ y / 2 ^ p % 2) → skP P x ≤ skP P y
  | [], _ => Nat.le_refl _
  | p :: r, hP => by
    have := sk_le_of r fun q hq => hP q (.tail _ hq)
    have := hP p (.head _)
    simp only [skP]; omega
theorem sk_bound (x : Nat) : ∀ P : List Nat, skP P x < 2 ^ P.length
  | [] => by simp [skP]
  | p :: r => by
    have := sk_bound x r
    rw [List.length_cons, Nat.pow_succ, skP]; omega
/-- all ones below b -/
theorem ones_bit {y b p : Nat} (h : (y + 1) % 2 ^ b = 0) (hp : p < b) : y / 2 ^ p % 2 = 1 := by
  obtain ⟨d, rfl⟩ : ∃ d, b = p + (d + 1) := ⟨b - p - 1, by omega⟩
  obtain ⟨k, hk⟩ := Nat.dvd_of_mod_eq_zero h
  rw [Nat.pow_add, Nat.pow_succ] at hk
  have hpos : 0 < 2 ^ p := Nat.pow_pos (by decide)
  have e : y = 2 ^ p * (2 * (2 ^ d * k)) - 1 := by
    have : 2 ^ p * (2 ^ d * 2) * k = 2 ^ p * (2 * (2 ^ d * k)) := by
      rw [Nat.mul_assoc, Nat.mul_comm (2 ^ d) 2, Nat.mul_assoc]
    omega
  have hm : 0 < 2 ^ d * k := by
    rcases Nat.eq_zero_or_pos (2 ^ d * k) with h0 | h0
    · rw [Nat.mul_assoc, Nat.mul_assoc, Nat.mul_comm 2 k, ← Nat.mul_assoc (2 ^ d) k 2, h0] at hk; omega
    · exact h0
  generalize 2 ^ d * k = m at *
  have e2 : y = 2 ^ p * (2 * m - 1) + (2 ^ p - 1) := by
    rw [e, Nat.mul_sub]
    have : 2 ^ p * 1 ≤ 2 ^ p * (2 * m) := Nat.mul_le_mul_left _ (by omega)
    omega
  rw [e2, Nat.mul_add_div hpos, Nat.div_eq_of_lt (show 2 ^ p - 1 < 2 ^ p by omega)]
  omega
theorem zero_bit {y b p : Nat} (h : y % 2 ^ b = 0) (hp : p < b) : y / 2 ^ p % 2 = 0 := by
  obtain ⟨d, rfl⟩ : ∃ d, b = p + (d + 1) := ⟨b - p - 1, by omega⟩
  obtain ⟨k, rfl⟩ := Nat.dvd_of_mod_eq_zero h
  have hpos : 0 < 2 ^ p := Nat.pow_pos (by decide)
  rw [Nat.pow_add, Nat.mul_assoc, Nat.mul_div_cancel_left _ hpos, Nat.pow_succ, Nat.mul_comm (2 ^ d) 2, Nat.mul_assoc]
  omega
theorem sk_le_ones {P : List Nat} {x y b : Nat} (h : x / 2 ^ b = y / 2 ^ b) (h1 : (y + 1) % 2 ^ b = 0) : skP P x ≤ skP P y :=
  sk_le_of P fun p _ => by
    rcases Nat.lt_or_ge p b with hp | hp
    · rw [ones_bit h1 hp]; omega
    · rw [div_up h hp]; exact Nat.le_refl _
theorem sk_le_zeros {P : List Nat} {x y b : Nat} (h : x / 2 ^ b = y / 2 ^ b) (h1 : x % 2 ^ b = 0) : skP P x ≤ skP P y :=
  sk_le_of P fun p _ => by
    rcases Nat.lt_or_ge p b with hp | hp
    · rw [zero_bit h1 hp]; omega
    · rw [div_up h hp]; exact Nat.le_refl _
/-- two numbers part at a place of P -/
def Br (P : List Nat) (x y : Nat) : Prop := ∃ c ∈ P, x / 2 ^ (c + 1) = y / 2 ^ (c + 1) ∧ x / 2 ^ c < y / 2 ^ c
theorem div_lt_up {x y a b : Nat} (h : x / 2 ^ b < y / 2 ^ b) (hab : a ≤ b) : x / 2 ^ a < y / 2 ^ a := by
  rcases Nat.lt_or_ge (x / 2 ^ a) (y / 2 ^ a) with h1 | h1
  · exact h1
  · obtain ⟨d, rfl⟩ : ∃ d, b = a + d := ⟨b - a, by omega⟩
    rw [Nat.pow_add, ← Nat.div_div_eq_div_mul, ← Nat.div_div_eq_div_mul] at h
    have := Nat.div_le_div_right (c := 2 ^ d) h1
    omega
theorem Br.trans {P : List Nat} {x y z : Nat} (h : Br P x y) (h' : Br P y z) : Br P x z := by
  obtain ⟨c, hc, e, l⟩ := h
  obtain ⟨c', hc', e', l'⟩ := h'
  rcases Nat.lt_trichotomy c c' with q | q | q
  · refine ⟨c', hc', (div_up e (by omega)).trans e', ?_⟩
    rw [div_up e (show c + 1 ≤ c' by omega)]; exact l'
  · subst q
    rw [div_half, div_half] at e e'
    omega
  · refine ⟨c, hc, e.trans (div_up e' (by omega)), ?_⟩
    rw [← div_up e' (show c' + 1 ≤ c by omega)]; exact l
theorem Br.lt {P : List Nat} {x y : Nat} (h : Br P x y) : x < y := by
  obtain ⟨c, _, _, l⟩ := h
  have := div_lt_up l (Nat.zero_le c)
  simpa using this
theorem Br.sk {P : List Nat} {x y : Nat} (hP : P.Pairwise (· < ·)) (h : Br P x y) : skP P x < skP P y := by
  obtain ⟨c, hc, e, l⟩ := h
  exact sk_lt_of e l P hP hc
theorem br_chain {P : List Nat} : ∀ {l : List Nat}, (∀ i, i + 1 < l.length → Br P (l.getD i 0) (l.getD (i + 1) 0)) → l.Pairwise (Br P)
  | [], _ => .nil
  | [a], _ => List.pairwise_singleton _ _
  | a :: b :: r, h => by
    have ih : (b :: r).Pairwise (Br P) := br_chain fun i hi => by
      have := h (i + 1) (by simp only [List.length_cons] at hi ⊢; omega)
      simpa using this
    refine List.pairwise_cons.mpr ⟨fun x hx => ?_, ih⟩
    have h0 : Br P a b := by
      have := h 0 (by simp only [List.length_cons]; omega)
      simpa using this
    rcases List.mem_cons.mp hx with rfl | hx
    · exact h0
    · exact h0.trans ((List.pairwise_cons.mp ih).1 x hx)
/-- a key and a number that goes with another key above B -/
theorem part_key {P : List Nat} {ks : List Nat} {near k y B : Nat} (hP : P.Pairwise (· < ·)) (hks : ks.Pairwise (Br P)) (hn : near ∈ ks) (hk : k ∈ ks) (hy : y / 2 ^ B = near / 2 ^ B) :
    (k / 2 ^ B < near / 2 ^ B → skP P k < skP P y) ∧ (near / 2 ^ B < k / 2 ^ B → skP P y < skP P k) := by
  have tri : k = near ∨ Br P k near ∨ Br P near k := by
    obtain ⟨i, hi, rfl⟩ := List.mem_iff_getElem.mp hn
    obtain ⟨j, hj, rfl⟩ := List.mem_iff_getElem.mp hk
    rcases Nat.lt_trichotomy j i with q | q | q
    · exact .inr (.inl (List.pairwise_iff_getElem.mp hks j i hj hi q))
    · subst q; exact .inl rfl
    · exact .inr (.inr (List.pairwise_iff_getElem.mp hks i j hi hj q))
  rcases tri with rfl | h | h
  · exact ⟨fun q => by omega, fun q => by omega⟩
  · refine ⟨fun q => ?_, fun q => ?_⟩
    · obtain ⟨c, hc, e, l⟩ := h
      have hcB : B ≤ c := by
        rcases Nat.lt_or_ge c B with w | w
        · have := div_up e (show c + 1 ≤ B by omega); omega
        · exact w
      exact sk_lt_of (e.trans (div_up hy (by omega)).symm) (by rw [div_up hy hcB]; exact l) P hP hc
    · have := Nat.div_le_div_right (c := 2 ^ B) (Nat.le_of_lt h.lt); omega
  · refine ⟨fun q => ?_, fun q => ?_⟩
    · have := Nat.div_le_div_right (c := 2 ^ B) (Nat.le_of_lt h.lt); omega
    · obtain ⟨c, hc, e, l⟩ := h
      have hcB : B ≤ c := by
        rcases Nat.lt_or_ge c B with w | w
        · have := div_up e (show c + 1 ≤ B by omega); omega
        · exact w
      exact sk_lt_of ((div_up hy (by omega)).trans e) (by rw [div_up hy hcB]; exact l) P hP hc
theorem lt_of_div {x y n : Nat} (h : x / n < y / n) : x < y := by
  rcases Nat.lt_or_ge x y with q | q
  · exact q
  · have := Nat.div_le_div_right (c := n) q; omega
/-- the number with a 0 at the place and 1s behind -/
theorem fw_ones {P : List Nat} {ks : List Nat} {near q y b : Nat} (hP : P.Pairwise (· < ·)) (hks : ks.Pairwise (Br P)) (hn : near ∈ ks) (hB : near / 2 ^ (b + 1) = q / 2 ^ (b + 1)) (hb : near / 2 ^ b < q / 2 ^ b)
    (hmin : ∀ k ∈ ks, k / 2 ^ b ≠ q / 2 ^ b) (hy : y / 2 ^ b = near / 2 ^ b) (hy1 : (y + 1) % 2 ^ b = 0) : ∀ k ∈ ks, (skP P k < skP P y + 1 ↔ k < q) := by
  intro k hk
  have hyB : y / 2 ^ (b + 1) = near / 2 ^ (b + 1) := div_up hy (Nat.le_succ b)
  have hp := part_key hP hks hn hk hyB
  rcases Nat.lt_trichotomy (k / 2 ^ (b + 1)) (near / 2 ^ (b + 1)) with w | w | w
  · have h1 := hp.1 w
    have h2 : k < q := lt_of_div (n := 2 ^ (b + 1)) (by omega)
    exact ⟨fun _ => h2, fun _ => by omega⟩
  · have hm := hmin k hk
    have e : k / 2 ^ b = y / 2 ^ b := by
      rw [div_half, div_half] at w hB; omega
    have h1 := sk_le_ones (P := P) e hy1
    have h2 : k < q := lt_of_div (n := 2 ^ b) (by omega)
    exact ⟨fun _ => h2, fun _ => by omega⟩
  · have h1 := hp.2 w
    have h2 : q < k := lt_of_div (n := 2 ^ (b + 1)) (by omega)
    exact ⟨fun _ => by omega, fun _ => by omega⟩
theorem fw_zeros {P : List Nat} {ks : List Nat} {near q y b : Nat} (hP : P.Pairwise (· < ·)) (hks : ks.Pairwise (Br P)) (hn : near ∈ ks) (hB : near / 2 ^ (b + 1) = q / 2 ^ (b + 1)) (hb : q / 2 ^ b < near / 2 ^ b)
    (hmin : ∀ k ∈ ks, k / 2 ^ b ≠ q / 2 ^ b) (hy : y / 2 ^ b = near / 2 ^ b) (hy1 : y % 2 ^ b = 0) : ∀ k ∈ ks, (skP P k < skP P y ↔ k < q) := by
  intro k hk
  have hyB : y / 2 ^ (b + 1) = near / 2 ^ (b + 1) := div_up hy (Nat.le_succ b)
  have hp := part_key hP hks hn hk hyB
  rcases Nat.lt_trichotomy (k / 2 ^ (b + 1)) (near / 2 ^ (b + 1)) with w | w | w
  · have h1 := hp.1 w
    have h2 : k < q := lt_of_div (n := 2 ^ (b + 1)) (by omega)
    exact ⟨fun _ => h2, fun _ => by omega⟩
  · have hm := hmin k hk
    have e : y / 2 ^ b = k / 2 ^ b := by
      rw [div_half, div_half] at w hB; omega
    have h1 := sk_le_zeros (P := P) e hy1
    have h2 : q < k := lt_of_div (n := 2 ^ b) (by omega)
    exact ⟨fun _ => by omega, fun _ => by omega⟩
  · have h1 := hp.2 w
    have h2 : q < k := lt_of_div (n := 2 ^ (b + 1)) (by omega)
    exact ⟨fun _ => by omega, fun _ => by omega⟩
/-- one of the two neighbours has as much in common with q as any -/
theorem fw_near {P : List Nat} {ks : List Nat} {near q B U : Nat} (hP : P.Pairwise (· < ·)) (hks : ks.Pairwise (Br P)) (hn : near ∈ ks) (hB : near / 2 ^ B = q / 2 ^ B)
    (hUl : U ≤ ks.length) (hU : ∀ i (h : i < ks.length), (skP P ks[i] ≤ skP P q ↔ i < U)) : ∃ i, ∃ h : i < ks.length, (i = U ∨ i + 1 = U) ∧ ks[i] / 2 ^ B = q / 2 ^ B := by
  obtain ⟨i, hi, rfl⟩ := List.mem_iff_getElem.mp hn
  have mono : ∀ i j (hi : i < ks.length) (hj : j < ks.length), i ≤ j → ks[i] ≤ ks[j] := fun i j hi hj h => by
    rcases Nat.eq_or_lt_of_le h with rfl | h
    · exact Nat.le_refl _
    · exact Nat.le_of_lt (List.pairwise_iff_getElem.mp hks i j hi hj h).lt
  by_cases hiU : i < U
  · have hj : U - 1 < ks.length := by omega
    refine ⟨U - 1, hj, .inr (by omega), ?_⟩
    have h1 := (hU (U - 1) hj).mpr (by omega)
    have h2 := Nat.div_le_div_right (c := 2 ^ B) (mono i (U - 1) hi hj (by omega))
    have h3 := (part_key hP hks (List.getElem_mem hi) (List.getElem_mem hj) hB.symm).2
    omega
  · have hUl : U < ks.length := by omega
    refine ⟨U, hUl, .inl rfl, ?_⟩
    have h1 := (not_congr (hU U hUl)).mpr (by omega)
    have h2 := Nat.div_le_div_right (c := 2 ^ B) (mono U i hUl hi (by omega))
    have h3 := (part_key hP hks (List.getElem_mem hi) (List.getElem_mem hUl) hB.symm).1
    omega
end Mine
end

section
open PySem PySem.W PyProof.Rows PySem.Calls
namespace Mine
theorem and_fields {a b c d W : Nat} (hb : b < 2 ^ W) (hd : d < 2 ^ W) : (a * 2 ^ W + b) &&& (c * 2 ^ W + d) = (a &&& c) * 2 ^ W + (b &&& d) := by
  apply Nat.eq_of_testBit_eq
  intro j
  have hbd : b &&& d < 2 ^ W := Nat.lt_of_le_of_lt Nat.and_le_left hb
  rw [Nat.testBit_and, Nat.mul_comm a, Nat.mul_comm c, Nat.mul_comm (a &&& c), Nat.testBit_two_pow_mul_add _ hb, Nat.testBit_two_pow_mul_add _ hd, Nat.testBit_two_pow_mul_add _ hbd]
  by_cases h : j < W
  · simp only [h, if_true, Nat.testBit_and]
  · simp only [h, if_false, Nat.testBit_and]
theorem and_top {b n : Nat} (hb : b < 2 ^ (n + 1)) : b &&& 2 ^ n = if 2 ^ n ≤ b then 2 ^ n else 0 := by
  have hp : 0 < 2 ^ n := Nat.pow_pos (by decide)
  rw [Nat.pow_succ] at hb
  apply Nat.eq_of_testBit_eq
  intro j
  rw [Nat.testBit_and, Nat.testBit_two_pow]
  by_cases hj : n = j
  · subst hj
    rw [decide_eq_true rfl, Bool.and_true]
    by_cases h : 2 ^ n ≤ b
    · have : b / 2 ^ n = 1 := by
        apply Nat.div_eq_of_lt_le <;> omega
      rw [if_pos h, Nat.testBit_two_pow_self, Nat.testBit_eq_decide_div_mod_eq, this]; rfl
    · rw [if_neg h, Nat.testBit_eq_decide_div_mod_eq, Nat.div_eq_of_lt (by omega)]; simp
  · rw [decide_eq_false hj, Bool.and_false]
    by_cases h : 2 ^ n ≤ b
    · rw [if_pos h, Nat.testBit_two_pow, decide_eq_false hj]
    · rw [if_neg h, Nat.zero_testBit]
/-- n ones at the field tops -/
def topsN (wd : Nat) : Nat → Nat
  | 0 => 0
  | n + 1 => topsN wd n * 2 ^ (wd + 1) + 2 ^ wd
theorem tops_lt (wd : Nat) : ∀ n, topsN wd n < 2 ^ ((wd + 1) * n)
  | 0 => by simp [topsN]
  | n + 1 => by
    have ih := tops_lt wd n
    rw [topsN, Nat.mul_succ, Nat.pow_add 2 ((wd + 1) * n) (wd + 1)]
    have h1 : 2 ^ wd < 2 ^ (wd + 1) := Nat.pow_lt_pow_right (by decide) (Nat.lt_succ_self _)
    have h2 : (topsN wd n + 1) * 2 ^ (wd + 1) ≤ 2 ^ ((wd + 1) * n) * 2 ^ (wd + 1) := Nat.mul_le_mul_right _ ih
    rw [Nat.add_mul, Nat.one_mul] at h2
    exact Nat.lt_of_lt_of_le (Nat.add_lt_add_left h1 _) h2
theorem tops_ge (wd : Nat) : ∀ n, 2 ^ ((wd + 1) * n + wd) ≤ topsN wd (n + 1)
  | 0 => by simp [topsN]
  | n + 1 => by
    have ih := tops_ge wd n
    rw [topsN]
    have h2 : 2 ^ ((wd + 1) * n + wd) * 2 ^ (wd + 1) ≤ topsN wd (n + 1) * 2 ^ (wd + 1) := Nat.mul_le_mul_right _ ih
    have e : (wd + 1) * (n + 1) + wd = ((wd + 1) * n + wd) + (wd + 1) := by rw [Nat.mul_succ]; omega
    rw [e, Nat.pow_add]
    exact Nat.le_trans h2 (Nat.le_add_right _ _)
theorem tops_bits (wd n : Nat) : Builtin.Int.intBits (topsN wd n : Int) = (wd + 1) * n := by
  apply Nat.le_antisymm
  · rw [intBits_le_iff]; simpa using tops_lt wd n
  · cases n with
    | zero => simp
    | succ n =>
      rcases Nat.lt_or_ge (Builtin.Int.intBits (topsN wd (n + 1) : Int)) ((wd + 1) * (n + 1)) with h | h
      · have h1 := intBits_le_iff.mp (show Builtin.Int.intBits (topsN wd (n + 1) : Int) ≤ (wd + 1) * n + wd by rw [Nat.mul_succ] at h; omega)
        have := tops_ge wd n
        simp at h1; omega
      · exact h
theorem tops_single (wd n : Nat) : isSingle (topsN wd n : Int) = (n == 1) := by
  cases n with
  | zero => simp [isSingle, topsN]
  | succ n =>
    have hp : 0 < 2 ^ wd := Nat.pow_pos (by decide)
    have hge : 0 < topsN wd (n + 1) := by rw [topsN]; omega
    unfold isSingle
    rw [if_neg (by omega)]
    have e1 : ((topsN wd (n + 1) : Int) - 1) = ((topsN wd (n + 1) - 1 : Nat) : Int) := by omega
    rw [e1, and_nat (Int.natCast_nonneg _) (Int.natCast_nonneg _), Int.toNat_natCast, Int.toNat_natCast]
    have h1 : 2 ^ wd < 2 ^ (wd + 1) := Nat.pow_lt_pow_right (by decide) (Nat.lt_succ_self _)
    have e2 : topsN wd (n + 1) - 1 = topsN wd n * 2 ^ (wd + 1) + (2 ^ wd - 1) := by rw [topsN]; omega
    have e3 : topsN wd (n + 1) &&& (topsN wd (n + 1) - 1) = topsN wd n * 2 ^ (wd + 1) := by
      rw [e2, topsN, and_fields h1 (by omega), Nat.and_self, Nat.and_two_pow_sub_one_eq_mod, Nat.mod_self]; rfl
    rw [e3]
    cases n with
    | zero => simp [topsN]
    | succ n =>
      have h2 : 0 < topsN wd (n + 1) * 2 ^ (wd + 1) := Nat.mul_pos (by rw [topsN]; omega) (Nat.pow_pos (by decide))
      generalize topsN wd (n + 1) * 2 ^ (wd + 1) = Z at *
      have h3 : ((Z : Int) == 0) = false := by rw [beq_eq_false_iff_ne]; omega
      rw [h3]
      simp
/-- the fields of the book, less x -/
theorem book_fields {wd : Nat} {x : Int} (hx : 0 ≤ x) (hx1 : x ≤ 2 ^ wd) : ∀ (S : List Int) (P O V T : Nat) , (∀ s ∈ S, 0 ≤ s ∧ s < 2 ^ wd) → (P : Int) - x * O = V → V &&& (O * 2 ^ wd) = T →
    ∃ P' O' V' : Nat, S.foldl (bookStep ((wd : Int) + 1)) ((P : Int), (O : Int)) = ((P' : Int), (O' : Int)) ∧ (P' : Int) - x * O' = V' ∧ V' &&& (O' * 2 ^ wd) = S.foldl (fun v s => v * 2 ^ (wd + 1) + if x ≤ s then 2 ^ wd else 0) T
  | [], P, O, V, T, _, h1, h2 => ⟨P, O, V, rfl, h1, h2⟩
  | s :: r, P, O, V, T, hS, h1, h2 => by
    obtain ⟨hs0, hs1⟩ := hS s (.head _)
    obtain ⟨s, rfl⟩ := Int.eq_ofNat_of_zero_le hs0
    obtain ⟨x, rfl⟩ := Int.eq_ofNat_of_zero_le hx
    have c1 : ((2 : Int) ^ wd) = ((2 ^ wd : Nat) : Int) := by simp
    have c2 : ((2 : Int) ^ (wd + 1)) = ((2 ^ (wd + 1) : Nat) : Int) := by simp
    have hs1' : s < 2 ^ wd := by rw [c1] at hs1; omega
    have hx1' : x ≤ 2 ^ wd := by rw [c1] at hx1; omega
    have e1 : ((wd : Int) + 1).toNat = wd + 1 := by omega
    have e2 : ((wd : Int) + 1 - 1).toNat = wd := by omega
    have hpw : 2 ^ (wd + 1) = 2 ^ wd * 2 := Nat.pow_succ ..
    have key : 2 ^ wd + s - x < 2 ^ (wd + 1) := by omega
    have key2 : 2 ^ wd < 2 ^ (wd + 1) := by
      have : 0 < 2 ^ wd := Nat.pow_pos (by decide)
      omega
    have := book_fields hx hx1 r (P * 2 ^ (wd + 1) + 2 ^ wd + s) (O * 2 ^ (wd + 1) + 1) (V * 2 ^ (wd + 1) + (2 ^ wd + s - x)) (T * 2 ^ (wd + 1) + if (x : Int) ≤ (s : Int) then 2 ^ wd else 0) (fun y hy => hS y (.tail _ hy)) ?_ ?_
    · obtain ⟨P', O', V', q1, q2, q3⟩ := this
      refine ⟨P', O', V', ?_, q2, ?_⟩
      · rw [List.foldl_cons, ← q1]
        simp only [bookStep, e1, e2]
        congr 1
      · rw [List.foldl_cons]; exact q3
    · have e3 : ((2 ^ wd + s - x : Nat) : Int) = ((2 ^ wd : Nat) : Int) + s - x := by omega
      rw [Int.natCast_add (V * 2 ^ (wd + 1)), e3, Int.natCast_add, Int.natCast_add, Int.natCast_add, Int.natCast_mul, Int.natCast_mul, Int.natCast_mul, ← h1]
      generalize ((2 ^ (wd + 1) : Nat) : Int) = Z
      generalize ((2 ^ wd : Nat) : Int) = Y
      have : (x : Int) * ((O : Int) * Z + (1 : Nat)) = (x : Int) * (O : Int) * Z + x := by rw [Int.mul_add, Int.mul_assoc]; simp
      rw [this, Int.sub_mul]
      omega
    · have e4 : (O * 2 ^ (wd + 1) + 1) * 2 ^ wd = (O * 2 ^ wd) * 2 ^ (wd + 1) + 2 ^ wd := by
        rw [Nat.add_mul, Nat.mul_right_comm, Nat.one_mul]
      rw [e4, and_fields key key2, h2, and_top key]
      congr 1
      by_cases h : x ≤ s
      · rw [if_pos (by omega), if_pos (by omega)]
      · rw [if_neg (by omega), if_neg (by omega)]
theorem fold_low {wd : Nat} {x : Int} : ∀ a : List Int, (∀ s ∈ a, s < x) → a.foldl (fun v s => v * 2 ^ (wd + 1) + if x ≤ s then 2 ^ wd else 0) 0 = 0
  | [], _ => rfl
  | s :: r, h => by
    rw [List.foldl_cons, if_neg (by have := h s (.head _); omega), Nat.zero_mul]
    exact fold_low r fun y hy => h y (.tail _ hy)
theorem fold_high {wd : Nat} {x : Int} : ∀ (b : List Int) (n : Nat), (∀ s ∈ b, x ≤ s) → b.foldl (fun v s => v * 2 ^ (wd + 1) + if x ≤ s then 2 ^ wd else 0) (topsN wd n) = topsN wd (n + b.length)
  | [], _, _ => rfl
  | s :: r, n, h => by
    rw [List.foldl_cons, if_pos (h s (.head _))]
    have := fold_high (wd := wd) r (n + 1) fun y hy => h y (.tail _ hy)
    rw [topsN] at this
    rw [this, List.length_cons]
    congr 1
    omega
/-- what the book tells -/
theorem less_count {wd : Nat} {x : Int} (hx : 0 ≤ x) (hx1 : x ≤ 2 ^ wd) {a b : List Int} (hS : ∀ s ∈ a ++ b, 0 ≤ s ∧ s < 2 ^ wd) (ha : ∀ s ∈ a, s < x) (hb : ∀ s ∈ b, x ≤ s) :
    lessF ((a ++ b).foldl (bookStep ((wd : Int) + 1)) (0, 0)).1 ((a ++ b).foldl (bookStep ((wd : Int) + 1)) (0, 0)).2 ((wd : Int) + 1) ((a ++ b).length : Nat) x = a.length := by
  obtain ⟨P, O, V, q1, q2, q3⟩ := book_fields hx hx1 (a ++ b) 0 0 0 0 hS (by simp) (by simp)
  have q1' : (a ++ b).foldl (bookStep ((wd : Int) + 1)) (0, 0) = ((P : Int), (O : Int)) := q1
  rw [q1']
  have e2 : ((wd : Int) + 1 - 1).toNat = wd := by omega
  have hst : stayF (P : Int) (O : Int) ((wd : Int) + 1) x = (topsN wd b.length : Nat) := by
    unfold stayF
    rw [q2, e2]
    have c1 : (O : Int) * (2 : Int) ^ wd = ((O * 2 ^ wd : Nat) : Int) := by simp
    rw [c1, and_nat (Int.natCast_nonneg _) (Int.natCast_nonneg _), Int.toNat_natCast, Int.toNat_natCast, q3, List.foldl_append, fold_low a ha]
    have := fold_high (wd := wd) b 0 hb
    rw [topsN] at this
    rw [this, Nat.zero_add]
  have hraw : lessRaw (P : Int) (O : Int) ((wd : Int) + 1) ((a ++ b).length : Nat) x = a.length := by
    unfold lessRaw highBit
    rw [hst, tops_bits]
    have e3 : (((wd + 1) * b.length : Nat) : Int) - 1 - ((wd : Int) + 1) + 1 = ((wd : Int) + 1) * ((b.length : Int) - 1) := by
      rw [Int.natCast_mul, Int.natCast_add, Int.mul_sub]; simp; omega
    rw [e3, Int.mul_fdiv_cancel_left _ (by omega), List.length_append]
    omega
  unfold lessF
  rw [hraw, hst, tops_single]
  have e4 : ((b.length == 1) != ((a.length : Int) == ((a ++ b).length : Nat) - 1)) = false := by
    rw [List.length_append]
    by_cases h : b.length = 1
    · have : ((a.length : Int) == (((a.length + b.length : Nat) : Int) - 1)) = true := by rw [beq_iff_eq]; omega
      rw [this, beq_iff_eq.mpr h]; rfl
    · have : ((a.length : Int) == (((a.length + b.length : Nat) : Int) - 1)) = false := by rw [beq_eq_false_iff_ne]; omega
      rw [this, beq_eq_false_iff_ne.mpr h]; rfl
  rw [e4]; rfl
end Mine
end

section
open PySem PySem.W PyProof.Rows PySem.Calls
set_option maxRecDepth 100000
namespace Mine
def charsN (x m : Nat) : List Nat := (List.range m).map fun i => 48 + x / 2 ^ (11 - i) % 2
theorem bitS_eq {x : Nat} {k : Nat} (hk : k ≤ 11) : bitS (x : Int) (k : Int) = ⟨#[48 + x / 2 ^ (11 - k) % 2]⟩ := by
  unfold bitS
  have e1 : (11 - (k : Int)).toNat = 11 - k := by omega
  have hp : (0 : Int) < 2 ^ (11 - k) := two_pow_pos _
  have e2 : (((x : Int).fdiv (2 ^ (11 - k))).fmod 2) = ((x / 2 ^ (11 - k) % 2 : Nat) : Int) := by
    rw [Int.fdiv_eq_ediv_of_nonneg _ (Int.le_of_lt hp), Int.fmod_eq_emod_of_nonneg _ (by decide)]
    have c1 : ((2 : Int) ^ (11 - k)) = ((2 ^ (11 - k) : Nat) : Int) := by simp
    rw [c1]
    omega
  rw [e1, e2]
  have hb : x / 2 ^ (11 - k) % 2 = 0 ∨ x / 2 ^ (11 - k) % 2 = 1 := by omega
  rcases hb with h | h <;> rw [h] <;> rfl
theorem left12_cps (x : Nat) : (left12 (x : Int)).cps.toList = charsN x 12 := by
  have e : List.map (fun k => if (bitS (x : Int) k).length = 1 then bitS (x : Int) k else Str.empty) (rangeKs 0 ((12 : Int) - 0).toNat) = (List.range 12).map fun i => (⟨#[48 + x / 2 ^ (11 - i) % 2]⟩ : Str) := by
    show List.map _ ((List.range 12).map fun (i : Nat) => (0 : Int) + (i : Int)) = _
    rw [List.map_map]
    apply List.map_congr_left
    intro i hi
    have hi' : i ≤ 11 := by have := List.mem_range.mp hi; omega
    show (if (bitS (x : Int) (0 + (i : Int))).length = 1 then bitS (x : Int) (0 + (i : Int)) else Str.empty) = _
    rw [Int.zero_add, bitS_eq hi']
    rfl
  unfold left12
  rw [e]
  rfl
/-- the places of the groups -/
def plc : List Int → Nat → List Nat
  | [], _ => []
  | n :: r, m => if (m : Int) < n then [] else (11 - (m - n.toNat)) :: plc r (m - n.toNat)
theorem take_chars {x m k : Nat} (h : k ≤ m) : (charsN x m).take k = charsN x k := by
  unfold charsN
  rw [← List.map_take, List.take_range, Nat.min_eq_left h]
theorem item_eq {l : Str} {x m : Nat} {n : Int} (hl : l.cps.toList = charsN x m) (hm : m ≤ 12) (h0 : 0 < n) (h1 : n ≤ m) : Txt.item l (-n) = ⟨#[48 + x / 2 ^ (11 - (m - n.toNat)) % 2]⟩ := by
  have hlen : l.length = m := by
    show l.cps.size = m
    rw [← Array.length_toList, hl]; simp [charsN]
  have hs : seqIndex? (-n) m = some (m - n.toNat) := by
    unfold seqIndex?
    have : (-n < 0) := by omega
    simp only [this, if_true]
    rw [if_pos (by simp; omega)]
    congr 1
    omega
  unfold Txt.item Txt.charAt
  rw [hlen, hs]
  show (⟨#[(l.cps[m - n.toNat]?).getD 0]⟩ : Str) = _
  have : l.cps[m - n.toNat]? = some (48 + x / 2 ^ (11 - (m - n.toNat)) % 2) := by
    rw [← Array.getElem?_toList, hl]
    unfold charsN
    rw [List.getElem?_map, List.getElem?_range (by omega)]
    rfl
  rw [this]; rfl
theorem slice_idx {m : Nat} {n : Int} (h0 : 0 < n) (h1 : n ≤ m) : Builtin.Str.strSliceIndices none (some (-n)) 1 m = List.range (m - n.toNat) := by
  unfold Builtin.Str.strSliceIndices sliceRange
  have e : (-n < 0) := by omega
  simp only [show (1 : Int) > 0 by decide, if_true, e]
  have e2 : max 0 (min (-n + (m : Int)) m) = ((m - n.toNat : Nat) : Int) := by omega
  rw [e2]
  by_cases h : (0 : Int) < ((m - n.toNat : Nat) : Int)
  · rw [if_pos h]
    have e3 : ((((m - n.toNat : Nat) : Int) - 0 + 1 - 1) / 1).toNat = m - n.toNat := by omega
    rw [e3]
    conv => rhs; rw [← List.map_id (List.range (m - n.toNat))]
    apply List.map_congr_left
    intro i _
    show ((0 : Int) + 1 * (i : Int)).toNat = i
    omega
  · rw [if_neg h]
    have e3 : m - n.toNat = 0 := by omega
    rw [e3]; rfl
theorem filter_take (c : List Nat) : ∀ k, k ≤ c.length → (List.range k).filterMap (c.toArray[·]?) = c.take k := by
  intro k
  induction k with
  | zero => intro _; simp
  | succ k ih =>
    intro h
    rw [List.range_succ, List.filterMap_append, ih (by omega), List.take_add_one]
    congr 1
    simp only [List.filterMap_cons, List.filterMap_nil, List.getElem?_toArray]
    rw [List.getElem?_eq_getElem (by omega)]; rfl
theorem slice_eq {l : Str} {x m : Nat} {n : Int} (hl : l.cps.toList = charsN x m) (h0 : 0 < n) (h1 : n ≤ m) : (Txt.slice l none (some (-n))).cps.toList = charsN x (m - n.toNat) := by
  have hlen : l.length = m := by
    show l.cps.size = m
    rw [← Array.length_toList, hl]; simp [charsN]
  unfold Txt.slice
  rw [hlen, slice_idx h0 h1, if_neg (by simp; omega)]
  show ((List.range (m - n.toNat)).filterMap (l.cps[·]?)).toArray.toList = _
  have e : l.cps = (charsN x m).toArray := by rw [← hl]
  rw [e, List.toList_toArray, filter_take _ _ (by simp [charsN]), take_chars (by omega)]
theorem exc_cps (x : Nat) : ∀ (ns : List Int) (m : Nat) (l e : Str), (∀ n ∈ ns, 0 < n) → m ≤ 12 → l.cps.toList = charsN x m →
    (excGo ns e l).cps.toList = ((plc ns m).reverse.map fun p => 48 + x / 2 ^ p % 2) ++ e.cps.toList
  | [], m, l, e, _, _, _ => by simp [excGo, plc]
  | n :: r, m, l, e, hn, hm, hl => by
    have hlen : l.length = m := by
      show l.cps.size = m
      rw [← Array.length_toList, hl]; simp [charsN]
    have h0 := hn n (.head _)
    rw [excGo, plc, hlen]
    by_cases h : (m : Int) < n
    · rw [if_pos h, if_pos h]; simp
    · rw [if_neg h, if_neg h, exc_cps x r (m - n.toNat) _ _ (fun k hk => hn k (.tail _ hk)) (by omega) (slice_eq hl h0 (by omega)), item_eq hl hm h0 (by omega)]
      show _ ++ (#[48 + x / 2 ^ (11 - (m - n.toNat)) % 2] ++ e.cps).toList = _
      simp
/-- an excerpt's figures -/
theorem exc_fig {x : Nat} {tl : List Int} (hn : ∀ n ∈ tl, 0 < n) : (excGo tl (Str.ofString "") (left12 (x : Int))).cps.toList = (plc tl 12).reverse.map fun p => 48 + x / 2 ^ p % 2 := by
  rw [exc_cps x tl 12 _ _ hn (Nat.le_refl _) (left12_cps x)]
  show _ ++ [] = _
  rw [List.append_nil]
theorem worth_of_fig {a : Str} {x : Nat} {P : List Nat} (h : a.cps.toList = P.reverse.map fun p => 48 + x / 2 ^ p % 2) : worthS a = (skP P x : Int) := by
  unfold worthS signs
  rw [h, List.map_map, List.foldl_map, List.foldl_reverse]
  clear h
  induction P with
  | nil => rfl
  | cons p r ih =>
    rw [List.foldr_cons, ih, skP]
    show 2 * ((skP r x : Nat) : Int) + Txt.find (Str.ofString "01") ⟨#[48 + x / 2 ^ p % 2]⟩ = _
    rw [find_zero_or_one _ (by omega)]
    omega
theorem plc_bound : ∀ (ns : List Int) (m : Nat), m ≤ 12 → (∀ n ∈ ns, 0 < n) → ∀ p ∈ plc ns m, 12 - m ≤ p ∧ p ≤ 11
  | [], _, _, _, _, h => by cases h
  | n :: r, m, hm, hn, p, h => by
    have h0 := hn n (.head _)
    rw [plc] at h
    by_cases hc : (m : Int) < n
    · rw [if_pos hc] at h; cases h
    · rw [if_neg hc] at h
      rcases List.mem_cons.mp h with rfl | h
      · omega
      · have := plc_bound r (m - n.toNat) (by omega) (fun k hk => hn k (.tail _ hk)) p h
        omega
theorem plc_sorted : ∀ (ns : List Int) (m : Nat), m ≤ 12 → (∀ n ∈ ns, 0 < n) → (plc ns m).Pairwise (· < ·)
  | [], _, _, _ => .nil
  | n :: r, m, hm, hn => by
    have h0 := hn n (.head _)
    rw [plc]
    by_cases hc : (m : Int) < n
    · rw [if_pos hc]; exact .nil
    · rw [if_neg hc]
      refine List.pairwise_cons.mpr ⟨fun p hp => ?_, plc_sorted r _ (by omega) fun k hk => hn k (.tail _ hk)⟩
      have := plc_bound r (m - n.toNat) (by omega) (fun k hk => hn k (.tail _ hk)) p hp
      omega
theorem plc_has : ∀ (a b : List Int) (m : Nat), m ≤ 12 → (∀ n ∈ a ++ b, 0 < n) → a ≠ [] → a.sum ≤ m → 12 - m + a.sum.toNat - 1 ∈ plc (a ++ b) m
  | [], _, _, _, _, h, _ => absurd rfl h
  | n :: r, b, m, hm, hn, _, hs => by
    have h0 := hn n (.head _)
    have hr : 0 ≤ r.sum := by
      have : ∀ l : List Int, (∀ k ∈ l, 0 < k) → 0 ≤ l.sum := by
        intro l
        induction l with
        | nil => intro _; simp
        | cons q l ih => intro h; have := ih fun k hk => h k (.tail _ hk); have := h q (.head _); simp; omega
      exact this r fun k hk => hn k (.tail _ (List.mem_append_left _ hk))
    rw [List.sum_cons] at hs ⊢
    rw [List.cons_append, plc, if_neg (by omega)]
    by_cases hc : r = []
    · subst hc
      have e : 12 - m + (n + ([] : List Int).sum).toNat - 1 = 11 - (m - n.toNat) := by simp; omega
      rw [e]; exact .head _
    · refine .tail _ ?_
      have := plc_has r b (m - n.toNat) (by omega) (fun k hk => hn k (.tail _ hk)) hc (by omega)
      have e : 12 - m + (n + r.sum).toNat - 1 = 12 - (m - n.toNat) + r.sum.toNat - 1 := by omega
      rw [e]; exact this
end Mine
end

section
open PySem PySem.W PyProof.Rows PySem.Calls
set_option maxRecDepth 100000
namespace Mine
theorem dedup_inv : ∀ (m acc : List Int), acc.Pairwise (· < ·) → m.Pairwise (· ≤ ·) → (∀ a ∈ acc, ∀ x ∈ m, a ≤ x) →
    (m.foldl dedupStep acc).Pairwise (· < ·) ∧ (∀ y, y ∈ m.foldl dedupStep acc ↔ y ∈ acc ∨ y ∈ m) ∧ (m.foldl dedupStep acc).length ≤ acc.length + m.length
  | [], acc, h, _, _ => ⟨h, by simp, by simp⟩
  | x :: r, acc, h, hm, ha => by
    obtain ⟨hx, hr⟩ := List.pairwise_cons.mp hm
    rw [List.foldl_cons]
    have step : (dedupStep acc x).Pairwise (· < ·) ∧ (∀ y, y ∈ dedupStep acc x ↔ y ∈ acc ∨ y = x) ∧ (dedupStep acc x).length ≤ acc.length + 1 := by
      unfold dedupStep
      by_cases h0 : acc = []
      · subst h0; simp
      · obtain ⟨b, z, rfl⟩ : ∃ b z, acc = b ++ [z] := ⟨acc.dropLast, acc.getLast h0, (List.dropLast_concat_getLast h0).symm⟩
        have hz : (b ++ [z]).getD (-1 + ((b ++ [z]).length : Int)).toNat 0 = z := by
          have : (-1 + ((b ++ [z]).length : Int)).toNat = b.length := by simp; omega
          rw [this, List.getD_eq_getElem?_getD]; simp
        rw [hz]
        have hzx := ha z (by simp) x (.head _)
        by_cases h1 : z = x
        · rw [if_neg (by simp [h1])]
          refine ⟨h, fun y => ?_, by omega⟩
          constructor
          · exact fun q => .inl q
          · rintro (q | rfl)
            · exact q
            · rw [← h1]; simp
        · rw [if_pos (.inr h1)]
          refine ⟨?_, by simp [or_assoc], by simp⟩
          refine List.pairwise_append.mpr ⟨h, List.pairwise_singleton _ _, fun a haa y hy => ?_⟩
          rw [List.mem_singleton.mp hy]
          have hz2 : a ≤ z := by
            rcases List.mem_append.mp haa with q | q
            · exact Int.le_of_lt ((List.pairwise_append.mp h).2.2 a q z (by simp))
            · rw [List.mem_singleton.mp q]; exact Int.le_refl _
          omega
    obtain ⟨s1, s2, s3⟩ := step
    have ih := dedup_inv r (dedupStep acc x) s1 hr (fun a haa y hy => by
      rcases (s2 a).mp haa with q | rfl
      · exact ha a q y (.tail _ hy)
      · exact hx y hy)
    refine ⟨ih.1, fun y => ?_, ?_⟩
    · rw [ih.2.1, s2, List.mem_cons, or_assoc]
    · have := ih.2.2
      rw [List.length_cons]; omega
theorem keysOf_inv {ns ks : List Int} (h : KeysOf ns ks) : ks.Pairwise (· < ·) ∧ (∀ y, y ∈ ks ↔ y ∈ ns) ∧ ks.length ≤ ns.length := by
  obtain ⟨m, hp, hs, rfl⟩ := h
  have := dedup_inv m [] .nil hs (by simp)
  refine ⟨this.1, fun y => by rw [this.2.1]; simp [hp.mem_iff], ?_⟩
  have h2 := this.2.2
  rw [hp.length_eq] at h2
  simpa using h2
theorem keys_facts {script ks : List Int} (h : KeysOf ([1360, 1374, 1397] ++ (List.take 5 script).map fun a => Builtin.bitXor 1365 (a.fmod (2 ^ (5 + script.sum.fmod 8).toNat))) ks) :
    3 ≤ ks.length ∧ ks.length ≤ 8 ∧ (∀ k ∈ ks, 0 ≤ k ∧ k < 4096) ∧ ks.Pairwise (· < ·) := by
  have h0 : 0 ≤ script.sum.fmod 8 := Int.fmod_nonneg_of_pos _ (by decide)
  have h1 : script.sum.fmod 8 < 8 := Int.fmod_lt_of_pos _ (by decide)
  obtain ⟨a, b, c⟩ := keysOf_inv h
  refine ⟨?_, ?_, fun k hk => ?_, a⟩
  · have m1 := (b 1360).mpr (by simp)
    have m2 := (b 1374).mpr (by simp)
    have m3 := (b 1397).mpr (by simp)
    match ks, m1, m2, m3 with
    | [], m1, _, _ => cases m1
    | [x], m1, m2, _ => simp at m1 m2; omega
    | [x, y], m1, m2, m3 => simp at m1 m2 m3; omega
    | x :: y :: z :: r, _, _, _ => simp
  · refine Nat.le_trans c ?_
    simp only [List.length_append, List.length_map, List.length_take, List.length_cons, List.length_nil]; omega
  · rcases List.mem_append.mp ((b k).mp hk) with q | q
    · simp at q; omega
    · obtain ⟨x, _, rfl⟩ := List.mem_map.mp q
      have hp := two_pow_pos (5 + script.sum.fmod 8).toNat
      have g0 : 0 ≤ x.fmod (2 ^ (5 + script.sum.fmod 8).toNat) := Int.fmod_nonneg_of_pos _ hp
      have g1 : x.fmod (2 ^ (5 + script.sum.fmod 8).toNat) < 2 ^ 12 := Int.lt_of_lt_of_le (Int.fmod_lt_of_pos _ hp) (two_pow_le (by omega))
      exact ⟨xor_nonneg (by decide) g0, xor_lt (n := 12) (by decide) g0 (by decide) g1⟩
def Pfx (sz : List Int) (x : Int) : Prop := ∃ a b, sz = a ++ b ∧ a ≠ [] ∧ a.sum = x + 1
theorem Pfx.app {sz : List Int} {x : Int} (h : Pfx sz x) (e : List Int) : Pfx (sz ++ e) x := by
  obtain ⟨a, b, rfl, h1, h2⟩ := h
  exact ⟨a, b ++ e, by rw [List.append_assoc], h1, h2⟩
theorem size_inv : ∀ (m sz : List Int) (last : Int), m.Pairwise (· ≤ ·) → (∀ x ∈ m, last ≤ x ∧ 0 ≤ x ∧ x ≤ 11) → (∀ s ∈ sz, 0 < s) → sz.sum = last + 1 → last ≤ 11 → (last = -1 ∨ Pfx sz last) →
    (∀ s ∈ (m.foldl sizeStep (sz, last)).1, 0 < s) ∧ (m.foldl sizeStep (sz, last)).1.sum ≤ 12 ∧ (∃ e, (m.foldl sizeStep (sz, last)).1 = sz ++ e) ∧ ∀ x ∈ m, Pfx (m.foldl sizeStep (sz, last)).1 x
  | [], sz, last, _, _, h1, h2, h3, _ => ⟨h1, by simp; omega, ⟨[], by simp⟩, by simp⟩
  | x :: r, sz, last, hm, hr, h1, h2, h3, h4 => by
    obtain ⟨hx, hr'⟩ := List.pairwise_cons.mp hm
    have hxx := hr x (.head _)
    rw [List.foldl_cons]
    by_cases h : last < x
    · have e : sizeStep (sz, last) x = (sz ++ [x - last], x) := by unfold sizeStep; rw [if_pos h]
      rw [e]
      have hsum : (sz ++ [x - last]).sum = x + 1 := by rw [List.sum_append]; simp; omega
      have hpx : Pfx (sz ++ [x - last]) x := ⟨sz ++ [x - last], [], by simp, by simp, hsum⟩
      have ih := size_inv r (sz ++ [x - last]) x hr' (fun y hy => ⟨hx y hy, (hr y (.tail _ hy)).2⟩) (fun s hs => by
        rcases List.mem_append.mp hs with q | q
        · exact h1 s q
        · rw [List.mem_singleton.mp q]; omega) hsum hxx.2.2 (.inr hpx)
      obtain ⟨i1, i2, ⟨e', he'⟩, i4⟩ := ih
      refine ⟨i1, i2, ⟨[x - last] ++ e', by rw [he', List.append_assoc]⟩, fun y hy => ?_⟩
      rcases List.mem_cons.mp hy with rfl | hy
      · rw [he']; exact hpx.app _
      · exact i4 y hy
    · have e : sizeStep (sz, last) x = (sz, last) := by unfold sizeStep; rw [if_neg h]
      rw [e]
      have ih := size_inv r sz last hr' (fun y hy => hr y (.tail _ hy)) h1 h2 h3 h4
      obtain ⟨i1, i2, ⟨e', he'⟩, i4⟩ := ih
      refine ⟨i1, i2, ⟨e', he'⟩, fun y hy => ?_⟩
      rcases List.mem_cons.mp hy with rfl | hy
      · have : last = y := by omega
        subst this
        rcases h4 with q | q
        · omega
        · rw [he']; exact q.app _
      · exact i4 y hy
theorem sum_ge_len : ∀ l : List Int, (∀ s ∈ l, 0 < s) → (l.length : Int) ≤ l.sum
  | [], _ => by simp
  | x :: r, h => by
    have := sum_ge_len r fun s hs => h s (.tail _ hs)
    have := h x (.head _)
    rw [List.sum_cons, List.length_cons]; omega
theorem mem_le_sum : ∀ l : List Int, (∀ s ∈ l, 0 < s) → ∀ s ∈ l, s ≤ l.sum
  | x :: r, h, s, hs => by
    have h1 := sum_ge_len r fun s hs => h s (.tail _ hs)
    have h2 := h x (.head _)
    rw [List.sum_cons]
    rcases List.mem_cons.mp hs with rfl | hs
    · omega
    · have := mem_le_sum r (fun s hs => h s (.tail _ hs)) s hs; omega
theorem bits_iff {x y m : Nat} : Builtin.Int.intBits (Builtin.bitXor (x : Int) (y : Int)) ≤ m ↔ x / 2 ^ m = y / 2 ^ m := by
  rw [xor_nat (Int.natCast_nonneg _) (Int.natCast_nonneg _), intBits_le_iff, Int.toNat_natCast, Int.toNat_natCast, Int.natAbs_natCast]
  have hp : 0 < 2 ^ m := Nat.pow_pos (by decide)
  have h1 : (x ^^^ y) < 2 ^ m ↔ (x ^^^ y) / 2 ^ m = 0 := by
    rw [Nat.div_eq_zero_iff_lt hp]
  rw [h1, Nat.xor_div_two_pow]
  constructor
  · intro h
    have h2 : x / 2 ^ m ^^^ y / 2 ^ m ^^^ y / 2 ^ m = 0 ^^^ y / 2 ^ m := by rw [h]
    rwa [Nat.xor_assoc, Nat.xor_self, Nat.xor_zero, Nat.zero_xor] at h2
  · intro h; rw [h, Nat.xor_self]
theorem br_of_bits {P : List Nat} {x y c : Nat} (hxy : x < y) (hc : Builtin.Int.intBits (Builtin.bitXor (x : Int) (y : Int)) = c + 1) (hm : c ∈ P) : Br P x y := by
  refine ⟨c, hm, bits_iff.mp (Nat.le_of_eq hc), ?_⟩
  have h1 : ¬ x / 2 ^ c = y / 2 ^ c := fun h => by have := bits_iff.mpr h; omega
  have h2 := Nat.div_le_div_right (c := 2 ^ c) (Nat.le_of_lt hxy)
  omega
theorem mem_places {ks : List Int} {x : Int} (h : x ∈ placesOf ks) : ∃ i : Nat, i + 1 < ks.length ∧ x = (Builtin.Int.intBits (Builtin.bitXor (ks.getD i 0) (ks.getD (i + 1) 0)) : Int) - 1 := by
  unfold placesOf at h
  obtain ⟨k, hk, rfl⟩ := List.mem_map.mp h
  have hr := mem_rangeKs hk
  refine ⟨k.toNat, by omega, ?_⟩
  have : (k + 1).toNat = k.toNat + 1 := by omega
  rw [this]
theorem places_mem {ks : List Int} {i : Nat} (h : i + 1 < ks.length) : (Builtin.Int.intBits (Builtin.bitXor (ks.getD i 0) (ks.getD (i + 1) 0)) : Int) - 1 ∈ placesOf ks := by
  unfold placesOf
  refine List.mem_map.mpr ⟨(i : Int), ?_, ?_⟩
  · unfold rangeKs
    exact List.mem_map.mpr ⟨i, List.mem_range.mpr (by omega), by simp⟩
  · have : ((i : Int) + 1).toNat = i + 1 := by omega
    simp only [this, Int.toNat_natCast]
theorem at_getD {ks : List Int} {i : Nat} (h : i < ks.length) : ks.getD i 0 = ks[i] := by
  rw [List.getD_eq_getElem?_getD, List.getElem?_eq_getElem h]; rfl
theorem key_xor {ks : List Int} (hks : ks.Pairwise (· < ·)) (hkr : ∀ k ∈ ks, 0 ≤ k ∧ k < 4096) {i : Nat} (h : i + 1 < ks.length) :
    ∃ x y : Nat, ks.getD i 0 = (x : Int) ∧ ks.getD (i + 1) 0 = (y : Int) ∧ x < y ∧ y < 4096 ∧ 1 ≤ Builtin.Int.intBits (Builtin.bitXor (x : Int) (y : Int)) ∧ Builtin.Int.intBits (Builtin.bitXor (x : Int) (y : Int)) ≤ 12 := by
  have h1 := hkr _ (List.getElem_mem (show i < ks.length by omega))
  have h2 := hkr _ (List.getElem_mem h)
  have h3 := List.pairwise_iff_getElem.mp hks i (i + 1) (by omega) h (Nat.lt_succ_self i)
  rw [at_getD (show i < ks.length by omega), at_getD h]
  obtain ⟨x, hx⟩ := Int.eq_ofNat_of_zero_le h1.1
  obtain ⟨y, hy⟩ := Int.eq_ofNat_of_zero_le h2.1
  rw [hx, hy] at h3 ⊢
  rw [hy] at h2
  rw [hx] at h1
  refine ⟨x, y, rfl, rfl, by omega, by omega, ?_, ?_⟩
  · rcases Nat.eq_zero_or_pos (Builtin.Int.intBits (Builtin.bitXor (x : Int) (y : Int))) with q | q
    · have := bits_iff.mp (Nat.le_of_eq q); simp at this; omega
    · exact q
  · refine bits_iff.mpr ?_
    rw [Nat.div_eq_of_lt (by omega), Nat.div_eq_of_lt (by omega)]
theorem sizes_inv {ks ss : List Int} (h : SizesOf ks ss) (hks : ks.Pairwise (· < ·)) (hkr : ∀ k ∈ ks, 0 ≤ k ∧ k < 4096) :
    (∀ s ∈ ss, 0 < s) ∧ ss.sum ≤ 12 ∧ ∀ x ∈ placesOf ks, 0 ≤ x ∧ x ≤ 11 ∧ Pfx ss x := by
  obtain ⟨m, hp, hs, rfl⟩ := h
  have hb : ∀ x ∈ placesOf ks, 0 ≤ x ∧ x ≤ 11 := fun x hx => by
    obtain ⟨i, hi, rfl⟩ := mem_places hx
    obtain ⟨a, b, ea, eb, _, _, h1, h2⟩ := key_xor hks hkr hi
    rw [ea, eb]; omega
  have sv := size_inv m [] (-1) hs (fun x hx => by have := hb x (hp.mem_iff.mp hx); omega) (by simp) (by simp) (by decide) (.inl rfl)
  refine ⟨sv.1, sv.2.1, fun x hx => ⟨(hb x hx).1, (hb x hx).2, sv.2.2.2 x (hp.mem_iff.mpr hx)⟩⟩
theorem sizes_facts {ks ss : List Int} (h : SizesOf ks ss) (hks : ks.Pairwise (· < ·)) (hkr : ∀ k ∈ ks, 0 ≤ k ∧ k < 4096) (hk3 : 3 ≤ ks.length) :
    ss ≠ [] ∧ (∀ s ∈ ss, 0 < s ∧ s ≤ 12) ∧ ss.length ≤ 12 := by
  obtain ⟨a, b, c⟩ := sizes_inv h hks hkr
  refine ⟨?_, fun s hs => ⟨a s hs, Int.le_trans (mem_le_sum ss a s hs) b⟩, ?_⟩
  · obtain ⟨_, _, u, v, e, hu, _⟩ := c _ (places_mem (i := 0) (by omega))
    intro q
    rw [q] at e
    exact hu (List.append_eq_nil_iff.mp e.symm).1
  · have := sum_ge_len ss a; omega
/-- the keys part at places of the excerpts -/
theorem keys_br {ks ss tl : List Int} (h : SizesOf ks ss) (hks : ks.Pairwise (· < ·)) (hkr : ∀ k ∈ ks, 0 ≤ k ∧ k < 4096) (ht : ∃ e, tl = ss ++ e) (hpos : ∀ n ∈ tl, 0 < n) :
    (ks.map Int.toNat).Pairwise (Br (plc tl 12)) := by
  obtain ⟨_, _, c⟩ := sizes_inv h hks hkr
  obtain ⟨e, rfl⟩ := ht
  refine br_chain fun i hi => ?_
  rw [List.length_map] at hi
  obtain ⟨x, y, ex, ey, hxy, _, h1, h2⟩ := key_xor hks hkr hi
  have q := c _ (places_mem hi)
  rw [ex, ey] at q
  obtain ⟨q0, q1, a, b, ess, ha, hs⟩ := q
  have g1 : (ks.map Int.toNat).getD i 0 = x := by
    rw [List.getD_eq_getElem?_getD, List.getElem?_map, List.getElem?_eq_getElem (by omega)]
    have := at_getD (ks := ks) (i := i) (by omega)
    show (ks[i]).toNat = x
    rw [← this, ex]; simp
  have g2 : (ks.map Int.toNat).getD (i + 1) 0 = y := by
    rw [List.getD_eq_getElem?_getD, List.getElem?_map, List.getElem?_eq_getElem hi]
    have := at_getD (ks := ks) (i := i + 1) hi
    show (ks[i + 1]).toNat = y
    rw [← this, ey]; simp
  rw [g1, g2]
  refine br_of_bits (c := Builtin.Int.intBits (Builtin.bitXor (x : Int) (y : Int)) - 1) hxy (by omega) ?_
  have := plc_has a (b ++ e) 12 (Nat.le_refl _) (fun n hn => hpos n (by rw [ess, List.append_assoc]; exact hn)) ha (by omega)
  rw [ess, List.append_assoc]
  have e2 : 12 - 12 + a.sum.toNat - 1 = Builtin.Int.intBits (Builtin.bitXor (x : Int) (y : Int)) - 1 := by omega
  rw [e2] at this
  exact this
end Mine
end

section
open PySem PySem.W PyProof.Rows PySem.Calls
set_option maxRecDepth 100000
namespace Mine
theorem bit_mod (x : Int) (j : Nat) (hj : j ≤ 11) : x / 2 ^ j % 2 = x % 4096 / 2 ^ j % 2 := by
  have hp := two_pow_pos j
  have e : (2 : Int) ^ j * (2 * 2 ^ (11 - j)) = 4096 := by
    have h1 : (2 : Int) * 2 ^ (11 - j) = 2 ^ (11 - j + 1) := by rw [Int.pow_succ, Int.mul_comm]
    rw [h1, ← Int.pow_add, show j + (11 - j + 1) = 12 by omega]; rfl
  have h2 : x = x % 4096 + 2 ^ j * (2 * (2 ^ (11 - j) * (x / 4096))) := by
    have h := Int.emod_add_mul_ediv x 4096
    rw [← Int.mul_assoc 2, ← Int.mul_assoc (2 ^ j), e]
    exact h.symm
  have h3 : x / 2 ^ j = x % 4096 / 2 ^ j + 2 * (2 ^ (11 - j) * (x / 4096)) := by
    conv => lhs; rw [h2]
    exact Int.add_mul_ediv_left _ _ (Int.ne_of_gt hp)
  rw [h3]
  generalize x % 4096 / 2 ^ j = u
  generalize 2 ^ (11 - j) * (x / 4096) = v
  omega
theorem left12_mod (x : Int) : left12 x = left12 (((x.fmod 4096).toNat : Nat) : Int) := by
  have key : ∀ k ∈ rangeKs 0 ((12 : Int) - 0).toNat, bitS x k = bitS (((x.fmod 4096).toNat : Nat) : Int) k := by
    intro k hk
    have hr := mem_rangeKs hk
    have e : ((x.fdiv (2 ^ (11 - k).toNat)).fmod 2) = (((((x.fmod 4096).toNat : Nat) : Int).fdiv (2 ^ (11 - k).toNat)).fmod 2) := by
      have hm : (((x.fmod 4096).toNat : Nat) : Int) = x % 4096 := by
        rw [Int.fmod_eq_emod_of_nonneg _ (by decide)]
        have := Int.emod_nonneg x (show (4096 : Int) ≠ 0 by decide)
        omega
      rw [hm]
      have hp := two_pow_pos (11 - k).toNat
      rw [Int.fdiv_eq_ediv_of_nonneg _ (Int.le_of_lt hp), Int.fdiv_eq_ediv_of_nonneg _ (Int.le_of_lt hp), Int.fmod_eq_emod_of_nonneg _ (by decide), Int.fmod_eq_emod_of_nonneg _ (by decide)]
      exact bit_mod x _ (by omega)
    unfold bitS
    rw [e]
  unfold left12
  congr 1
  exact List.map_congr_left fun k hk => by rw [key k hk]
section
variable {tl : List Int}
def nat12 (x : Int) : Nat := (x.fmod 4096).toNat
theorem nat12_of {x : Int} (h0 : 0 ≤ x) (h1 : x < 4096) : nat12 x = x.toNat := by
  unfold nat12
  rw [Int.fmod_eq_emod_of_nonneg _ (by decide), Int.emod_eq_of_lt h0 h1]
theorem ex_fig (hn : ∀ n ∈ tl, 0 < n) (x : Int) : (excGo tl (Str.ofString "") (left12 x)).cps.toList = (plc tl 12).reverse.map fun p => 48 + nat12 x / 2 ^ p % 2 := by
  rw [left12_mod x]; exact exc_fig hn
theorem ex_len (hn : ∀ n ∈ tl, 0 < n) (x : Int) : (excGo tl (Str.ofString "") (left12 x)).length = (plc tl 12).length := by
  show (excGo tl (Str.ofString "") (left12 x)).cps.size = _
  rw [← Array.length_toList, ex_fig hn]; simp
theorem ex_01' (hn : ∀ n ∈ tl, 0 < n) (x : Int) : ∀ c ∈ (excGo tl (Str.ofString "") (left12 x)).cps.toList, c = 48 ∨ c = 49 := by
  rw [ex_fig hn]
  intro c hc
  obtain ⟨p, _, rfl⟩ := List.mem_map.mp hc
  omega
theorem ex_worth (hn : ∀ n ∈ tl, 0 < n) (x : Int) : worthS (excGo tl (Str.ofString "") (left12 x)) = (skP (plc tl 12) (nat12 x) : Int) := worth_of_fig (ex_fig hn x)
theorem plc_len : ∀ (ns : List Int) (m : Nat), (plc ns m).length ≤ ns.length
  | [], _ => by simp [plc]
  | n :: r, m => by
    rw [plc]
    split
    · simp
    · have := plc_len r (m - n.toNat); simp; omega
end
theorem split_by {f : Int → Int} (v : Int) : ∀ ks : List Int, (ks.map f).Pairwise (· < ·) → ∃ a b, ks = a ++ b ∧ (∀ k ∈ a, f k < v) ∧ ∀ k ∈ b, v ≤ f k
  | [], _ => ⟨[], [], rfl, by simp, by simp⟩
  | k :: r, h => by
    rw [List.map_cons, List.pairwise_cons] at h
    obtain ⟨a, b, rfl, ha, hb⟩ := split_by v r h.2
    by_cases hk : f k < v
    · exact ⟨k :: a, b, rfl, fun x hx => by rcases List.mem_cons.mp hx with rfl | hx; exact hk; exact ha x hx, hb⟩
    · refine ⟨[], k :: (a ++ b), rfl, by simp, fun x hx => ?_⟩
      rcases List.mem_cons.mp hx with rfl | hx
      · omega
      · have := h.1 (f x) (List.mem_map_of_mem hx); omega
theorem split_count {f : Int → Int} {v : Int} {a b : List Int} (ha : ∀ k ∈ a, f k < v) (hb : ∀ k ∈ b, v ≤ f k) : ((a ++ b).filter fun k => decide (f k < v)).length = a.length := by
  rw [List.filter_append, List.filter_eq_self.mpr (fun k hk => by simpa using ha k hk), List.filter_eq_nil_iff.mpr (fun k hk => by have := hb k hk; simp; omega), List.append_nil]
theorem val_go : ∀ (u : List Nat) (T : Int), (u.map fun n => (⟨#[n]⟩ : Str)).foldl (fun T c => 2 * T + Txt.find (Str.ofString "01") c) T = T * 2 ^ u.length + (u.map fun n => (⟨#[n]⟩ : Str)).foldl (fun T c => 2 * T + Txt.find (Str.ofString "01") c) 0
  | [], T => by simp
  | c :: r, T => by
    simp only [List.map_cons, List.foldl_cons]
    rw [val_go r (2 * T + _), val_go r (2 * 0 + _), List.length_cons, Int.pow_succ]
    generalize Txt.find (Str.ofString "01") ⟨#[c]⟩ = d
    generalize (2 : Int) ^ r.length = Z
    have e1 : (2 * T + d) * Z = T * (Z * 2) + d * Z := by rw [Int.add_mul, Int.mul_comm 2 T, Int.mul_assoc, Int.mul_comm 2 Z]
    rw [e1]; simp; omega
theorem lex_val : ∀ (u v : List Nat), u.length = v.length → (∀ c ∈ u, c = 48 ∨ c = 49) → (∀ c ∈ v, c = 48 ∨ c = 49) →
    (u < v ↔ (u.map fun n => (⟨#[n]⟩ : Str)).foldl (fun T c => 2 * T + Txt.find (Str.ofString "01") c) 0 < (v.map fun n => (⟨#[n]⟩ : Str)).foldl (fun T c => 2 * T + Txt.find (Str.ofString "01") c) 0)
  | [], [], _, _, _ => by simp
  | [], _ :: _, h, _, _ => by simp at h
  | _ :: _, [], h, _, _ => by simp at h
  | a :: r, b :: q, h, hu, hv => by
    have hl : r.length = q.length := by simpa using h
    have ih := lex_val r q hl (fun c hc => hu c (.tail _ hc)) (fun c hc => hv c (.tail _ hc))
    have b1 := worth_go r (fun c hc => hu c (.tail _ hc)) 0 (Int.le_refl _)
    have b2 := worth_go q (fun c hc => hv c (.tail _ hc)) 0 (Int.le_refl _)
    simp only [List.map_cons, List.foldl_cons]
    rw [val_go r (2 * 0 + _), val_go q (2 * 0 + _), find_zero_or_one a (hu a (.head _)), find_zero_or_one b (hv b (.head _)), List.cons_lt_cons_iff, ih]
    rw [hl] at b1 ⊢
    have hp := two_pow_pos q.length
    generalize (r.map fun n => (⟨#[n]⟩ : Str)).foldl (fun T c => 2 * T + Txt.find (Str.ofString "01") c) 0 = R at *
    generalize (q.map fun n => (⟨#[n]⟩ : Str)).foldl (fun T c => 2 * T + Txt.find (Str.ofString "01") c) 0 = S at *
    generalize (2 : Int) ^ q.length = Z at *
    rcases hu a (.head _) with rfl | rfl <;> rcases hv b (.head _) with rfl | rfl <;> simp at b1 b2 ⊢ <;> omega
theorem cmp_val {a b : Str} (hl : a.length = b.length) (ha : ∀ c ∈ a.cps.toList, c = 48 ∨ c = 49) (hb : ∀ c ∈ b.cps.toList, c = 48 ∨ c = 49) :
    cmpS a b = if worthS a < worthS b then -1 else if worthS b < worthS a then 1 else 0 := by
  have hl' : a.cps.toList.length = b.cps.toList.length := by simpa [Str.length] using hl
  have h1 := lex_val _ _ hl' ha hb
  have h2 := lex_val _ _ hl'.symm hb ha
  unfold cmpS
  have e1 : decide (a.cps.toList < b.cps.toList) = decide (worthS a < worthS b) := decide_eq_decide.mpr h1
  have e2 : decide (b.cps.toList < a.cps.toList) = decide (worthS b < worthS a) := decide_eq_decide.mpr h2
  rw [e1, e2]
  by_cases q1 : worthS a < worthS b
  · rw [if_pos q1, decide_eq_true q1, decide_eq_false (by omega)]; rfl
  · rw [if_neg q1, decide_eq_false q1]
    by_cases q2 : worthS b < worthS a
    · rw [if_pos q2, decide_eq_true q2]; rfl
    · rw [if_neg q2, decide_eq_false q2]; rfl
theorem flat_repS {α : Type} (x : α) : ∀ n, (List.replicate n [x]).flatten = List.replicate n x
  | 0 => rfl
  | n + 1 => by rw [List.replicate_succ, List.flatten_cons, flat_repS x n]; rfl
theorem map_const {α β : Type} {f : α → β} {y : β} : ∀ l : List α, (∀ x ∈ l, f x = y) → l.map f = List.replicate l.length y
  | [], _ => rfl
  | x :: r, h => by rw [List.map_cons, h x (.head _), map_const r fun z hz => h z (.tail _ hz), List.length_cons, List.replicate_succ]
theorem and_bit (x n : Nat) : x &&& 2 ^ n = x / 2 ^ n % 2 * 2 ^ n := by
  have hp : 0 < 2 ^ (n + 1) := Nat.pow_pos (by decide)
  have e := and_fields (a := x / 2 ^ (n + 1)) (b := x % 2 ^ (n + 1)) (c := 0) (d := 2 ^ n) (W := n + 1) (Nat.mod_lt _ hp) (Nat.pow_lt_pow_right (by decide) (Nat.lt_succ_self _))
  rw [Nat.zero_mul, Nat.zero_add, Nat.and_zero, Nat.zero_mul, Nat.zero_add, and_top (Nat.mod_lt _ hp), Nat.div_add_mod'] at e
  rw [e]
  have e2 : x % 2 ^ (n + 1) = 2 ^ n * (x / 2 ^ n % 2) + x % 2 ^ n := by rw [Nat.pow_succ, Nat.mod_mul]; omega
  have hq : 0 < 2 ^ n := Nat.pow_pos (by decide)
  have hm := Nat.mod_lt x hq
  have hb : x / 2 ^ n % 2 = 0 ∨ x / 2 ^ n % 2 = 1 := by omega
  rcases hb with h | h
  · rw [h] at e2 ⊢; rw [if_neg (by omega)]; simp
  · rw [h] at e2 ⊢; rw [if_pos (by omega)]; simp
theorem single_bit {q b : Nat} : isSingle (Builtin.bitAnd (q : Int) (2 ^ b)) = decide (q / 2 ^ b % 2 = 1) := by
  have c1 : ((2 : Int) ^ b) = ((2 ^ b : Nat) : Int) := by simp
  rw [c1, and_nat (Int.natCast_nonneg _) (Int.natCast_nonneg _), Int.toNat_natCast, Int.toNat_natCast, and_bit]
  have hb : q / 2 ^ b % 2 = 0 ∨ q / 2 ^ b % 2 = 1 := by omega
  rcases hb with h | h
  · rw [h]; simp [isSingle]
  · rw [h, Nat.one_mul]
    have := tops_single b 1
    simp only [topsN, Nat.zero_mul, Nat.zero_add] at this
    rw [this]; rfl
end Mine
end

section
open PySem PySem.W PyProof.Rows PySem.Calls
set_option maxRecDepth 100000
set_option maxHeartbeats 4000000
namespace Mine
/-- a made object that a call of ours gives back joins the ledger -/
theorem ret_news {h₀ h h' : Heap} {L a : Addr} {o : Obj} {m : Str → Option Value} {news : List (Addr × Obj)} (F : Fr h₀ L h m) (N : News h₀ L h news) (k : h.StaysIn h') (hn : h.get? a = none) (hg : h'.get? a = some o) :
    News h₀ L h' ((a, o) :: news) ∧ GnNe a news := by
  refine ⟨fun p hp => ?_, gnNe_of fun p hp e => ?_⟩
  · rcases List.mem_cons.mp hp with rfl | hp
    · refine ⟨hg, fun e => ?_, ?_⟩
      · obtain ⟨oL, _, _, hL, _⟩ := F.ns
        dsimp only at e
        rw [e, hL] at hn
        cases hn
      · cases q : h₀.get? a with
        | none => rfl
        | some o' => have := F.keep _ _ q; rw [hn] at this; cases this
    · exact ⟨k _ _ (N p hp).1, (N p hp).2⟩
  · have := (N p hp).1
    rw [e, hn] at this
    cases this
theorem ret_newsD (k : Nat) {h₀ h h' : Heap} {L a : Addr} {o : Obj} {m : Str → Option Value} {news : List (Addr × Obj)} (F : Fr h₀ L h m) (N : News h₀ L h news) (hk : h.StaysIn h') (hn : h.get? a = none) (hg : h'.get? a = some o) :
    News h₀ L h' ((a, o) :: List.drop k news) ∧ GnNe a (List.drop k news) :=
  ret_news F (fun p hp => N p (List.mem_of_mem_drop hp)) hk hn hg
theorem news_drop (k : Nat) {h₀ h : Heap} {L : Addr} {news : List (Addr × Obj)} (N : News h₀ L h news) : News h₀ L h (List.drop k news) := fun p hp => N p (List.mem_of_mem_drop hp)
theorem fut_app (rest : List Int) : ∀ (ss : List Int) (last : Option Int) (n : Nat), (∀ s ∈ ss, 0 < s ∧ s ≤ 12) → ss.length ≤ n → fut (ss ++ rest) last n = ss ++ fut rest (ss.getLast? <|> last) (n - ss.length)
  | [], last, n, _, _ => by simp
  | r :: rs, last, 0, _, h => by simp at h
  | r :: rs, last, n + 1, hp, h => by
    have hr := hp r (.head _)
    have ih := fut_app rest rs (some r) n (fun s hs => hp s (.tail _ hs)) (by simpa using h)
    rw [List.cons_append, fut_cons, if_neg (by omega), if_neg (by omega), ih, List.getLast?_cons]
    simp only [List.cons_append, List.length_cons, Nat.add_sub_add_right]
    cases rs.getLast? <;> rfl
theorem fut_nil (last : Option Int) (n : Nat) : fut [] last n = [] := by cases n <;> rfl
theorem fut_stop {ss : List Int} (hp : ∀ s ∈ ss, 0 < s ∧ s ≤ 12) (hl : ss.length ≤ 12) : fut (ss ++ [127, 3]) none 12 = ss := by
  rw [fut_app _ ss none 12 hp hl]
  cases 12 - ss.length with
  | zero => rw [fut_zero, List.append_nil]
  | succ n => rw [fut_cons, if_pos rfl, List.append_nil]
theorem fut_end {ss : List Int} (hp : ∀ s ∈ ss, 0 < s ∧ s ≤ 12) (hl : ss.length ≤ 12) : fut (ss ++ []) none 12 = ss := by
  rw [fut_app _ ss none 12 hp hl, fut_nil, List.append_nil]
theorem fut_again {ss : List Int} (h0 : ss ≠ []) (hp : ∀ s ∈ ss, 0 < s ∧ s ≤ 12) (hl : ss.length ≤ 12) : fut (ss ++ [0, 5]) none 12 = ss ++ List.replicate (12 - ss.length) (ss.getLast h0) := by
  rw [fut_app _ ss none 12 hp hl, List.getLast?_eq_some_getLast h0]
  cases 12 - ss.length with
  | zero => rw [fut_zero]; rfl
  | succ n => rw [fut_cons, if_neg (by decide), if_pos rfl]; rfl
/-- what the generator tells -/
def ToldOf (ss tl : List Int) : Prop := ∃ ext, tl = ss ++ ext ∧ (∀ e ∈ tl, 0 < e) ∧ tl.length ≤ 12
theorem told_again {ss : List Int} (h0 : ss ≠ []) (hp : ∀ s ∈ ss, 0 < s ∧ s ≤ 12) (hl : ss.length ≤ 12) : ToldOf ss (fut (ss ++ [0, 5]) none 12) := by
  rw [fut_again h0 hp hl]
  refine ⟨_, rfl, fun e he => ?_, ?_⟩
  · rcases List.mem_append.mp he with h | h
    · exact (hp e h).1
    · rw [List.eq_of_mem_replicate h]; exact (hp _ (List.getLast_mem h0)).1
  · rw [List.length_append, List.length_replicate]; omega
theorem told_end {ss : List Int} (_h0 : ss ≠ []) (hp : ∀ s ∈ ss, 0 < s ∧ s ≤ 12) (hl : ss.length ≤ 12) : ToldOf ss (fut (ss ++ []) none 12) := by
  rw [fut_end hp hl]
  exact ⟨[], (List.append_nil _).symm, fun e he => (hp e he).1, hl⟩
theorem told_stop {ss : List Int} (_h0 : ss ≠ []) (hp : ∀ s ∈ ss, 0 < s ∧ s ≤ 12) (hl : ss.length ≤ 12) : ToldOf ss (fut (ss ++ [127, 3]) none 12) := by
  rw [fut_stop hp hl]
  exact ⟨[], (List.append_nil _).symm, fun e he => (hp e he).1, hl⟩
theorem first_ne {ss r : List Int} (h0 : ss ≠ []) (hp : ∀ s ∈ ss, 0 < s ∧ s ≤ 12) : ∀ x, (ss ++ r)[0]? = some x → x ≠ 0 := by
  intro x hx
  cases ss with
  | nil => exact absurd rfl h0
  | cons a q =>
    simp at hx
    subst hx
    have := hp a (.head _)
    omega
theorem flat_rep {α : Type} (x : α) : ∀ n, (List.replicate n [x]).flatten = List.replicate n x
  | 0 => rfl
  | n + 1 => by rw [List.replicate_succ, List.flatten_cons, flat_rep x n]; rfl
theorem drop_last {ss : List Int} (h0 : ss ≠ []) : List.drop (ss.length - 1) ss = [ss.getLast h0] := by
  have h := List.dropLast_concat_getLast h0
  have h1 : ss.length - 1 = ss.dropLast.length := by rw [List.length_dropLast]
  rw [h1]
  conv => lhs; rw [← h]
  rw [List.drop_left' (by simp)]
theorem due_again {ss : List Int} (h0 : ss ≠ []) (hp : ∀ s ∈ ss, 0 < s ∧ s ≤ 12) (hl : ss.length ≤ 12) :
    fut (ss ++ [0, 5]) none 12 = List.take 12 (ss ++ (List.replicate (12 : Int).toNat (List.drop (ss.length - 1) ss)).flatten) := by
  rw [fut_again h0 hp hl, drop_last h0, flat_rep, List.take_append, List.take_of_length_le hl, List.take_replicate]
  congr 2
  show _ = min _ 12
  omega
theorem due_room {ss : List Int} (h0 : ss ≠ []) (hl : ss.length ≤ 12) : ss.length + (List.replicate (12 : Int).toNat (List.drop (ss.length - 1) ss)).flatten.length ≤ sizeLine := by
  rw [drop_last h0, flat_rep, List.length_replicate, sizeLine_eq]
  show _ + 12 ≤ _
  omega
section
variable {w : World} {mean : ExcName → Option Value} {mg mb : Str → Option Value} {A : Around} {s : Shared} {Q E : Value → Shared → Prop}
theorem c_told2 (l : Addr) (vs : List Value) (row ss : List Int) (C : Cx w mean mg mb 3 A s.heap) (hl : s.heap.IsList l vs.toArray) (hi : IntsAre vs row) (hne : ∀ x, row[0]? = some x → x ≠ 0) (hBs : Bare s.gens) (hT : ToldOf ss (fut row none 12))
    (hret : ∀ (a : Addr) (h' : Heap) (tk' : Nat) (G : Array GenState) (vs : List Value) (n : Nat) (tl : List Int), tl = fut row none 12 → ToldOf ss tl → s.heap.StaysIn h' → s.heap.get? a = none → h'.get? a = some (PySem.W.listOf vs.toArray n) → IntsAre vs tl → Bare G → Q (.ref a) { s with heap := h', gens := G, toks := tk' }) :
    wpAny (model PySem.Challenge.rw_st0003_01.row.prog w) A (call (.ref 61) [.ref l]) Q E s :=
  c_told l vs row C hl hi hne hBs fun a h' tk' G vs n => hret a h' tk' G vs n _ rfl hT
theorem ne_ints_same {prog : Program} {a b : Addr} {vs us : List Value} {ns ms : List Int} (hl : s.heap.IsList a vs.toArray) (hi : IntsAre vs ns) (hl' : s.heap.IsList b us.toArray) (hi' : IntsAre us ms) (e : ns = ms) (hu : A.units + 64 < cLine)
    (h : Q (.bool false) s) : wpAny (model prog w) A (compareOp .NotEq (.ref a) (.ref b)) Q E s := by
  refine ne_intsK hl hi hl' hi' hu ?_
  rw [decide_eq_true e]; exact h
end
theorem told_len {ss tl : List Int} (h : ToldOf ss tl) : tl.length ≤ 12 := let ⟨_, _, _, h⟩ := h; h
theorem told_pos {ss tl : List Int} (h : ToldOf ss tl) : ∀ n ∈ tl, 0 < n := let ⟨_, _, h, _⟩ := h; h
theorem due_size {ss : List Int} (h0 : ss ≠ []) (hl : ss.length ≤ 12) : (ss ++ (List.replicate (12 : Int).toNat (List.drop (ss.length - 1) ss)).flatten).length ≤ sizeLine := by
  rw [List.length_append]; exact due_room h0 hl
theorem tx_end {h₀ h' : Heap} {L I C D ax : Addr} {m : Str → Option Value} {s₁ : Shared} {oI oC oD : Obj} {its : Array Value} {news : List (Addr × Obj)} {r : Str} {t : Tok} {n tk : Nat}
    (F : Fr h₀ L h' m) (N : News h₀ L h' ((I, oI) :: (C, oC) :: (D, oD) :: news)) (off : LCg.Off3 I C D news) (hm : (ax, ({ cls := .type "list", data := .seq its n } : Obj)) ∈ news) :
    LCg.CompEnd h₀ L m s₁ I oI C oC D oD (LCg.SrcAt h₀ ax its) (fun y news' => TxEl news r y news') (.str r t) { s₁ with heap := h', toks := tk } :=
  LCg.CompEnd.intro F N _ (fun _ hp => hp) off (.inr ⟨_, hm, rfl, _, rfl⟩) ⟨rfl, t, rfl⟩
theorem ex_len12 {ks ss tl : List Int} (hT : ToldOf ss tl) : ∀ x ∈ ks.map (fun k => excGo tl (Str.ofString "") (left12 k)), x.length ≤ 12 := by
  intro x hx
  obtain ⟨k, _, rfl⟩ := List.mem_map.mp hx
  rw [ex_len (told_pos hT)]
  exact Nat.le_trans (plc_len tl 12) (told_len hT)
theorem ex_01 {ks ss tl : List Int} (hT : ToldOf ss tl) : ∀ x ∈ ks.map (fun k => excGo tl (Str.ofString "") (left12 k)), ∀ c ∈ x.cps.toList, c = 48 ∨ c = 49 := by
  intro x hx
  obtain ⟨k, _, rfl⟩ := List.mem_map.mp hx
  exact ex_01' (told_pos hT) k
theorem idx_hi {k : Int} {n : Nat} (h : k < 0 + ((((n : Int) - 0).toNat : Nat) : Int)) : k < (n : Int) := by omega
theorem idx_fit {k : Int} {n : Nat} (h : k < 0 + ((((n : Int) - 0).toNat : Nat) : Int)) (hn : n ≤ 8) : k < 2 ^ 63 := by omega
theorem room_a2 {ks : List Int} {g : Int → Int} (h : ks.length ≤ 8) : ks.length + ((rangeKs 0 ((ks.length : Int) - 0).toNat).map g).length ≤ sizeLine := by
  rw [List.length_map, rangeKs_length, sizeLine_eq]; omega
theorem room_b2 {ks script : List Int} {g f : Int → Int} {n d : Nat} (h : ks.length ≤ 8) (h2 : script.length ≤ 63) : (ks ++ (rangeKs 0 ((ks.length : Int) - 0).toNat).map g).length + ((List.take n (List.drop d script)).map f).length ≤ sizeLine := by
  rw [List.length_append, List.length_map, rangeKs_length, List.length_map, List.length_take, List.length_drop, sizeLine_eq]; omega
theorem kcf_tend {h₀ h' : Heap} {L I C D : Addr} {m : Str → Option Value} {s₁ : Shared} {oI oC oD : Obj} {news : List (Addr × Obj)} {S : List (Addr × Obj) → Prop} {r r' : Int} {t : Tok} {tk : Nat}
    (F : Fr h₀ L h' m) (N : News h₀ L h' ((I, oI) :: (C, oC) :: (D, oD) :: news)) (off : LCg.Off3 I C D news) (hS : S news) (e : r = r') :
    LCg.CompEnd h₀ L m s₁ I oI C oC D oD S (fun y news' => KCfEl news r y news') (.int r' t) { s₁ with heap := h', toks := tk } := by
  subst e
  exact LCg.CompEnd.intro F N _ (fun _ hp => hp) off hS ⟨rfl, t, rfl⟩
theorem news_hd (k : Nat) {h₀ h : Heap} {L : Addr} {p : Addr × Obj} {news : List (Addr × Obj)} (N : News h₀ L h (p :: news)) : News h₀ L h (p :: List.drop k news) := fun q hq => by
  rcases List.mem_cons.mp hq with rfl | hq
  · exact N _ (.head _)
  · exact N _ (.tail _ (List.mem_of_mem_drop hq))
/-- a list or a tuple is no cell -/
theorem ne_kind {h₀ h : Heap} {L a c : Addr} {oa oc : Obj} {v : Option Value} {x : Array Value} {n : Nat} {news : List (Addr × Obj)} (N : News h₀ L h news) (m2 : (c, oc) ∈ news) (d : oc.data = .cell v) (m1 : (a, oa) ∈ news) (e : oa.data = .seq x n) : @Ne Nat a c := by
  intro q
  have h1 := (N _ m1).1
  have h2 := (N _ m2).1
  have q' : a = c := q
  dsimp only at h1 h2
  rw [q', h2] at h1
  rw [← Option.some.inj h1, d] at e
  cases e
theorem rng_small {n : Nat} (h : n ≤ 8) : Builtin.Range.small 0 (n : Int) 1 = true := small_one (by decide) (by decide) (by omega) (by omega)
theorem rng_size {n : Nat} (h : n ≤ 8) : ((n : Int) - 0).toNat ≤ sizeLine := by rw [sizeLine_eq]; omega
theorem kci_tend1 {h₀ h' : Heap} {L I C D : Addr} {m : Str → Option Value} {s₁ : Shared} {oI oC oD : Obj} {news : List (Addr × Obj)} {S : List (Addr × Obj) → Prop} {l r : List Int} {a : Int} {t : Tok} {tk : Nat}
    (F : Fr h₀ L h' m) (N : News h₀ L h' ((I, oI) :: (C, oC) :: (D, oD) :: news)) (off : LCg.Off3 I C D news) (hS : S news) (e : r = l ++ [a]) :
    LCg.CompEnd h₀ L m s₁ I oI C oC D oD S (fun y news' => KCiEl news l r y news') (.int a t) { s₁ with heap := h', toks := tk } :=
  LCg.CompEnd.intro F N _ (fun _ hp => hp) off hS ⟨rfl, a, t, rfl, e⟩
theorem kci_tend2 {h₀ h' : Heap} {L I C D : Addr} {m : Str → Option Value} {s₁ : Shared} {oI oC oD : Obj} {news : List (Addr × Obj)} {S : List (Addr × Obj) → Prop} {l r : List Int} {v : Value} {tk : Nat}
    (F : Fr h₀ L h' m) (N : News h₀ L h' ((I, oI) :: (C, oC) :: (D, oD) :: news)) (off : LCg.Off3 I C D news) (hS : S news) (e : r = l) :
    LCg.CompEnd h₀ L m s₁ I oI C oC D oD S (fun _ news' => KCiNo news l r news') v { s₁ with heap := h', toks := tk } :=
  LCg.CompEnd.intro F N _ (fun _ hp => hp) off hS ⟨rfl, e⟩
theorem grows_if {q : Int} : KPfGrows (fun l k => if k < q then l ++ [k] else l) := fun l k => by
  show (if k < q then l ++ [k] else l).length ≤ l.length + 1
  split
  · simp
  · omega
theorem fold_filter (q : Int) (ks : List Int) : ∀ acc : List Int, ks.foldl (fun l k => if k < q then l ++ [k] else l) acc = acc ++ ks.filter fun k => decide (k < q) := by
  induction ks with
  | nil => intro acc; simp
  | cons k r ih =>
    intro acc
    rw [List.foldl_cons, ih, List.filter_cons]
    by_cases h : k < q
    · simp [h]
    · simp [h]
section
variable {prog : Program} {w : World} {A : Around} {E : Value → Shared → Prop} {s : Shared} {Q : Value → Shared → Prop}
theorem len_fil {l : Addr} {vs : List Value} {ks : List Int} {q : Int} (hl : s.heap.IsList l vs.toArray) (hi : IntsAre vs (ks.foldl (fun l k => if k < q then l ++ [k] else l) [])) (hn : ks.length ≤ 8)
    (h : ∀ t tk, Q (.int ((ks.filter fun k => decide (k < q)).length : Nat) t) { s with toks := tk }) : wpAny (model prog w) A (call (.builtin "len") [.ref l]) Q E s := by
  have e : vs.toArray.size = (ks.filter fun k => decide (k < q)).length := by
    rw [List.size_toArray, hi.length, fold_filter, List.nil_append]
  have hle := List.length_filter_le (fun k => decide (k < q)) ks
  refine len_list hl (by rw [e]; omega) ?_
  rw [e]
  exact h _ _
end
end Mine
end

section
open PySem PySem.W PyProof.Rows PySem.Calls
set_option maxRecDepth 100000
set_option maxHeartbeats 4000000
namespace Mine
theorem book_small (wd : Nat) (hw : wd ≤ 12) : ∀ (S pre : List Int) (p o : Int), (p, o) = pre.foldl (bookStep ((wd : Int) + 1)) (0, 0) → 0 ≤ p → p < 2 ^ (20 * pre.length) → 0 ≤ o → o < 2 ^ (20 * pre.length) → (∀ s ∈ S, 0 ≤ s ∧ s < 2 ^ 12) →
    0 ≤ (S.foldl (bookStep ((wd : Int) + 1)) (p, o)).2 ∧ (S.foldl (bookStep ((wd : Int) + 1)) (p, o)).2 < 2 ^ (20 * (pre ++ S).length)
  | [], pre, p, o, _, _, _, h1, h2, _ => by simpa using ⟨h1, h2⟩
  | s :: r, pre, p, o, h, a1, a2, a3, a4, hS => by
    have := book_step (wd := (wd : Int) + 1) h a1 a2 a3 a4 (hS s (.head _)) (by omega) (by omega)
    obtain ⟨b0, b1, b2, b3, b4⟩ := this
    have ih := book_small wd hw r (pre ++ [s]) _ _ b0 b1 b2 b3 b4 fun y hy => hS y (.tail _ hy)
    rw [List.append_assoc] at ih
    exact ih
section
variable {ks ss tl : List Int}
theorem ks_nat (hkr : ∀ k ∈ ks, 0 ≤ k ∧ k < 4096) {k : Int} (hk : k ∈ ks) : nat12 k = k.toNat := nat12_of (hkr k hk).1 (hkr k hk).2
theorem f_sorted (hks : ks.Pairwise (· < ·)) (hkr : ∀ k ∈ ks, 0 ≤ k ∧ k < 4096) (hS : SizesOf ks ss) (hT : ToldOf ss tl) :
    (ks.map fun k => worthS (excGo tl (Str.ofString "") (left12 k))).Pairwise (· < ·) := by
  obtain ⟨e, he, hpos, _⟩ := hT
  have hb := keys_br hS hks hkr ⟨e, he⟩ hpos
  rw [List.pairwise_map] at hb ⊢
  refine hb.imp_of_mem fun {a b} ha hb' h => ?_
  rw [ex_worth hpos, ex_worth hpos, ks_nat hkr ha, ks_nat hkr hb']
  exact_mod_cast h.sk (plc_sorted tl 12 (Nat.le_refl _) hpos)
/-- how many keys' excerpts are worth less -/
def cntL (ks tl : List Int) (v : Int) : Int := ((ks.filter fun k => decide (worthS (excGo tl (Str.ofString "") (left12 k)) < v)).length : Nat)
theorem pl_pos (hks : ks.Pairwise (· < ·)) (hkr : ∀ k ∈ ks, 0 ≤ k ∧ k < 4096) (hk3 : 3 ≤ ks.length) (hS : SizesOf ks ss) (hT : ToldOf ss tl) : 1 ≤ (plc tl 12).length ∧ (plc tl 12).length ≤ 12 := by
  obtain ⟨e, he, hpos, hl⟩ := hT
  refine ⟨?_, Nat.le_trans (plc_len tl 12) hl⟩
  have hb := keys_br hS hks hkr ⟨e, he⟩ hpos
  have hi := List.pairwise_iff_getElem.mp hb 0 1 (by simp; omega) (by simp; omega) (by decide)
  obtain ⟨c, hc, _⟩ := hi
  cases hq : plc tl 12 with
  | nil => rw [hq] at hc; cases hc
  | cons => simp
theorem less_cnt (hks : ks.Pairwise (· < ·)) (hkr : ∀ k ∈ ks, 0 ≤ k ∧ k < 4096) (hS : SizesOf ks ss) (hT : ToldOf ss tl) {v : Int} (h0 : 0 ≤ v) (h1 : v ≤ 2 ^ (plc tl 12).length) :
    lessF (((ks.map fun k => excGo tl (Str.ofString "") (left12 k)).map worthS).foldl (bookStep (((plc tl 12).length : Int) + 1)) (0, 0)).1 (((ks.map fun k => excGo tl (Str.ofString "") (left12 k)).map worthS).foldl (bookStep (((plc tl 12).length : Int) + 1)) (0, 0)).2 (((plc tl 12).length : Int) + 1) ks.length v = cntL ks tl v := by
  have hpos := told_pos hT
  obtain ⟨a, b, e, ha, hb⟩ := split_by (f := fun k => worthS (excGo tl (Str.ofString "") (left12 k))) v ks (f_sorted hks hkr hS hT)
  have em : ((ks.map fun k => excGo tl (Str.ofString "") (left12 k)).map worthS) = (a.map fun k => worthS (excGo tl (Str.ofString "") (left12 k))) ++ (b.map fun k => worthS (excGo tl (Str.ofString "") (left12 k))) := by
    rw [List.map_map, e, List.map_append]; rfl
  have hlen : ((ks.length : Nat) : Int) = (((a.map fun k => worthS (excGo tl (Str.ofString "") (left12 k))) ++ (b.map fun k => worthS (excGo tl (Str.ofString "") (left12 k)))).length : Nat) := by
    rw [e]; simp
  rw [em, hlen]
  have := less_count (wd := (plc tl 12).length) h0 h1 (a := a.map fun k => worthS (excGo tl (Str.ofString "") (left12 k))) (b := b.map fun k => worthS (excGo tl (Str.ofString "") (left12 k))) ?_ ?_ ?_
  · rw [this, List.length_map]
    unfold cntL
    rw [e, split_count (f := fun k => worthS (excGo tl (Str.ofString "") (left12 k))) ha hb]
  · intro s hs
    rw [← List.map_append] at hs
    obtain ⟨k, _, rfl⟩ := List.mem_map.mp hs
    rw [ex_worth hpos]
    have := sk_bound (nat12 k) (plc tl 12)
    exact ⟨Int.natCast_nonneg _, by exact_mod_cast this⟩
  · intro s hs
    obtain ⟨k, hk, rfl⟩ := List.mem_map.mp hs
    exact ha k hk
  · intro s hs
    obtain ⟨k, hk, rfl⟩ := List.mem_map.mp hs
    exact hb k hk
theorem worth_rng (hT : ToldOf ss tl) (x : Int) : 0 ≤ worthS (excGo tl (Str.ofString "") (left12 x)) ∧ worthS (excGo tl (Str.ofString "") (left12 x)) < 2 ^ (plc tl 12).length := by
  rw [ex_worth (told_pos hT)]
  have := sk_bound (nat12 x) (plc tl 12)
  exact ⟨Int.natCast_nonneg _, by exact_mod_cast this⟩
theorem ans_all (hks : ks.Pairwise (· < ·)) (hkr : ∀ k ∈ ks, 0 ≤ k ∧ k < 4096) (hS : SizesOf ks ss) (hT : ToldOf ss tl) (q : Int) :
    (ks.map fun k => excGo tl (Str.ofString "") (left12 k)).map (fun k => ansS (cmpS k (excGo tl (Str.ofString "") (left12 q)))) =
      (List.replicate (cntL ks tl (worthS (excGo tl (Str.ofString "") (left12 q)))).toNat [Str.ofString "-1"]).flatten ++ (List.replicate (cntL ks tl (worthS (excGo tl (Str.ofString "") (left12 q)) + 1) - cntL ks tl (worthS (excGo tl (Str.ofString "") (left12 q)))).toNat [Str.ofString "0"]).flatten ++ (List.replicate ((ks.length : Int) - cntL ks tl (worthS (excGo tl (Str.ofString "") (left12 q)) + 1)).toNat [Str.ofString "1"]).flatten := by
  have hpos := told_pos hT
  have hsort := f_sorted hks hkr hS hT
  have cmp : ∀ k, cmpS (excGo tl (Str.ofString "") (left12 k)) (excGo tl (Str.ofString "") (left12 q)) = if worthS (excGo tl (Str.ofString "") (left12 k)) < worthS (excGo tl (Str.ofString "") (left12 q)) then -1 else if worthS (excGo tl (Str.ofString "") (left12 q)) < worthS (excGo tl (Str.ofString "") (left12 k)) then 1 else 0 :=
    fun k => cmp_val (by rw [ex_len hpos, ex_len hpos]) (ex_01' hpos k) (ex_01' hpos q)
  rw [List.map_map]
  simp only [flat_repS]
  generalize hv : worthS (excGo tl (Str.ofString "") (left12 q)) = v at *
  obtain ⟨ab, c, e1, h1, h2⟩ := split_by (f := fun k => worthS (excGo tl (Str.ofString "") (left12 k))) (v + 1) ks hsort
  have hsab : (ab.map fun k => worthS (excGo tl (Str.ofString "") (left12 k))).Pairwise (· < ·) := by
    rw [e1, List.map_append] at hsort
    exact (List.pairwise_append.mp hsort).1
  obtain ⟨a, b, e2, h3, h4⟩ := split_by (f := fun k => worthS (excGo tl (Str.ofString "") (left12 k))) v ab hsab
  have c1 : cntL ks tl (v + 1) = ab.length := by
    unfold cntL
    rw [e1, split_count (f := fun k => worthS (excGo tl (Str.ofString "") (left12 k))) h1 h2]
  have c2 : cntL ks tl v = a.length := by
    unfold cntL
    rw [e1, e2, List.append_assoc]
    rw [split_count (f := fun k => worthS (excGo tl (Str.ofString "") (left12 k))) h3 (fun k hk => by
      rcases List.mem_append.mp hk with hk | hk
      · exact h4 k hk
      · have := h2 k hk; omega)]
  rw [c1, c2]
  have hlen : ks.length = a.length + b.length + c.length := by rw [e1, e2]; simp; omega
  have hab : ab.length = a.length + b.length := by rw [e2]; simp
  have n1 : ((a.length : Nat) : Int).toNat = a.length := by omega
  have n2 : (((ab.length : Nat) : Int) - ((a.length : Nat) : Int)).toNat = b.length := by omega
  have n3 : (((ks.length : Nat) : Int) - ((ab.length : Nat) : Int)).toNat = c.length := by omega
  rw [n1, n2, n3, e1, e2, List.map_append, List.map_append]
  congr 1
  · congr 1
    · refine map_const a fun k hk => ?_
      have := h3 k hk
      dsimp only [Function.comp_apply] at this ⊢
      rw [cmp, if_pos this]; rfl
    · refine map_const b fun k hk => ?_
      have g1 := h4 k hk
      have g2 := h1 k (by rw [e2]; exact List.mem_append_right _ hk)
      dsimp only [Function.comp_apply] at g1 g2 ⊢
      rw [cmp, if_neg (by omega), if_neg (by omega)]; rfl
  · refine map_const c fun k hk => ?_
    have := h2 k hk
    dsimp only [Function.comp_apply] at this ⊢
    rw [cmp, if_neg (by omega), if_pos (by omega)]; rfl
end
end Mine
end

section
open PySem PySem.W PyProof.Rows PySem.Calls
set_option maxRecDepth 100000
set_option maxHeartbeats 4000000
namespace Mine
theorem bits_mono {a b : Int} (h0 : 0 ≤ a) (h : a ≤ b) : Builtin.Int.intBits a ≤ Builtin.Int.intBits b := by
  rw [intBits_le_iff]
  have := (intBits_le_iff (x := b)).mp (Nat.le_refl _)
  omega
theorem xor_inj {a b c : Int} (ha : 0 ≤ a) (hb : 0 ≤ b) (hc : 0 ≤ c) (h : Builtin.bitXor a b = Builtin.bitXor a c) : b = c := by
  rw [xor_nat ha hb, xor_nat ha hc] at h
  have h1 : a.toNat ^^^ b.toNat = a.toNat ^^^ c.toNat := by exact_mod_cast h
  have h2 : a.toNat ^^^ (a.toNat ^^^ b.toNat) = a.toNat ^^^ (a.toNat ^^^ c.toNat) := by rw [h1]
  rw [← Nat.xor_assoc, ← Nat.xor_assoc, Nat.xor_self, Nat.zero_xor, Nat.zero_xor] at h2
  omega
section
variable {ks ss tl : List Int}
theorem cnt_eq (hT : ToldOf ss tl) (hkr : ∀ k ∈ ks, 0 ≤ k ∧ k < 4096) {q : Nat} {v : Int} (h : ∀ k ∈ ks.map Int.toNat, ((skP (plc tl 12) k : Nat) : Int) < v ↔ k < q) : cntL ks tl v = ((ks.filter fun k => decide (k < (q : Int))).length : Nat) := by
  unfold cntL
  congr 2
  refine List.filter_congr fun k hk => ?_
  rw [ex_worth (told_pos hT), ks_nat hkr hk]
  have h1 := h k.toNat (List.mem_map_of_mem hk)
  have h2 := hkr k hk
  rw [decide_eq_decide, h1]
  omega
theorem mid_nat {q b : Nat} : midOf (q : Int) b = (((q / 2 ^ (b + 1) * 2 + 1) * 2 ^ b : Nat) : Int) := by
  unfold midOf
  have hp := two_pow_pos b
  rw [Int.fdiv_eq_ediv_of_nonneg _ (Int.le_of_lt hp), Int.fdiv_eq_ediv_of_nonneg _ (by decide)]
  have c1 : ((2 : Int) ^ b) = ((2 ^ b : Nat) : Int) := by simp
  rw [c1, div_half]
  have : ((q : Int) / ((2 ^ b : Nat) : Int)) = ((q / 2 ^ b : Nat) : Int) := by simp
  rw [this]
  generalize q / 2 ^ b = z
  generalize 2 ^ b = w
  have e : ((z : Int) / 2 * 2 + 1) = ((z / 2 * 2 + 1 : Nat) : Int) := by omega
  rw [e, ← Int.natCast_mul]
theorem found_ok (hks : ks.Pairwise (· < ·)) (hkr : ∀ k ∈ ks, 0 ≤ k ∧ k < 4096) (hS : SizesOf ks ss) (hT : ToldOf ss tl) {asked : Int} (hask : 0 ≤ asked ∧ asked < 4096) {less : Int → Int}
    (hless : ∀ v, 0 ≤ v → v ≤ 2 ^ (plc tl 12).length → less v = cntL ks tl v) {near : Int} (hn : near ∈ ks) (hmin : ∀ k ∈ ks, Builtin.bitXor asked near ≤ Builtin.bitXor asked k) :
    FoundOk asked ks tl less near ((ks.filter fun k => decide (k < asked)).length : Nat) := by
  have hpos := told_pos hT
  obtain ⟨e, he, _, _⟩ := id hT
  have hbr := keys_br hS hks hkr ⟨e, he⟩ hpos
  have hP := plc_sorted tl 12 (Nat.le_refl _) hpos
  have hlow : ∀ x, 0 ≤ worthS (excGo tl (Str.ofString "") (left12 x)) ∧ worthS (excGo tl (Str.ofString "") (left12 x)) < 2 ^ (plc tl 12).length := worth_rng hT
  have l0 : ∀ x, less (worthS (excGo tl (Str.ofString "") (left12 x))) = cntL ks tl (worthS (excGo tl (Str.ofString "") (left12 x))) := fun x => hless _ (hlow x).1 (Int.le_of_lt (hlow x).2)
  have l1 : ∀ x, less (worthS (excGo tl (Str.ofString "") (left12 x)) + 1) = cntL ks tl (worthS (excGo tl (Str.ofString "") (left12 x)) + 1) := fun x => hless _ (by have := (hlow x).1; omega) (by have := (hlow x).2; omega)
  obtain ⟨q, rfl⟩ := Int.eq_ofNat_of_zero_le hask.1
  obtain ⟨n, hnn⟩ := Int.eq_ofNat_of_zero_le (hkr near hn).1
  subst hnn
  have hq : q < 4096 := by omega
  have hnk : n ∈ ks.map Int.toNat := List.mem_map.mpr ⟨_, hn, by simp⟩
  have hn12 : n < 4096 := by have := (hkr _ hn).2; omega
  generalize hB : Builtin.Int.intBits (Builtin.bitXor (q : Int) (n : Int)) = B
  have hBle : n / 2 ^ B = q / 2 ^ B := (bits_iff.mp (Nat.le_of_eq hB)).symm
  have hminB : ∀ k ∈ ks, B ≤ Builtin.Int.intBits (Builtin.bitXor (q : Int) k) := fun k hk => by
    rw [← hB]; exact bits_mono (xor_nonneg (Int.natCast_nonneg _) (Int.natCast_nonneg _)) (hmin k hk)
  have hhb : highBit (Builtin.bitXor (q : Int) (n : Int)) = (B : Int) - 1 := by unfold highBit; rw [hB]
  have nq : nat12 (q : Int) = q := by rw [nat12_of (by omega) (by omega)]; simp
  refine { m := ?_, z := ?_, g := ?_, t := ?_, f := ?_ }
  · intro M hM hle
    rw [l1, ex_worth hpos, nq] at hM hle
    rw [hhb]
    -- the split at the sketch
    have hsort := f_sorted hks hkr hS hT
    obtain ⟨a, b, e1, h1, h2⟩ := split_by (f := fun k => worthS (excGo tl (Str.ofString "") (left12 k))) ((skP (plc tl 12) q : Nat) + 1 : Int) ks hsort
    have hU : cntL ks tl ((skP (plc tl 12) q : Nat) + 1 : Int) = a.length := by
      unfold cntL
      rw [e1, split_count (f := fun k => worthS (excGo tl (Str.ofString "") (left12 k))) h1 h2]
    rw [hU] at hM hle
    have hlen : ks.length = a.length + b.length := by rw [e1]; simp
    obtain ⟨i, hi, hiU, hib⟩ := fw_near (U := a.length) hP hbr hnk hBle (by simp; omega) (fun i hi => by
      have hi' : i < ks.length := by simpa using hi
      have hval : worthS (excGo tl (Str.ofString "") (left12 ks[i])) = (skP (plc tl 12) (ks.map Int.toNat)[i] : Nat) := by
        rw [ex_worth hpos, ks_nat hkr (List.getElem_mem hi')]; simp
      by_cases hia : i < a.length
      · have : ks[i] ∈ a := by
          have : ks[i] = a[i] := by simp only [e1]; rw [List.getElem_append_left hia]
          rw [this]; exact List.getElem_mem hia
        have := h1 _ this
        rw [hval] at this
        exact ⟨fun _ => hia, fun _ => by omega⟩
      · have : ks[i] ∈ b := by
          have : ks[i] = b[i - a.length]'(by omega) := by simp only [e1]; rw [List.getElem_append_right (by omega)]
          rw [this]; exact List.getElem_mem _
        have := h2 _ this
        rw [hval] at this
        exact ⟨fun _ => by omega, fun _ => by omega⟩)
    have hi' : i < ks.length := by simpa using hi
    have hgi : ∃ x : Nat, ks[i] = (x : Int) ∧ (ks.map Int.toNat)[i] = x := by
      obtain ⟨x, hx⟩ := Int.eq_ofNat_of_zero_le (hkr _ (List.getElem_mem hi')).1
      exact ⟨x, hx, by rw [List.getElem_map, hx]; simp⟩
    obtain ⟨x, hx1, hx2⟩ := hgi
    rw [hx2] at hib
    have hmemc : ks[i] ∈ cutK ks (a.length : Int) := by
      unfold cutK
      have e3 : (if (a.length : Int) - 1 > 0 then (a.length : Int) - 1 else 0).toNat = a.length - 1 := by split <;> omega
      rw [e3]
      have hlt : i - (a.length - 1) < (List.take (min ((a.length : Int) + 1).toNat ks.length - (a.length - 1)) (List.drop (a.length - 1) ks)).length := by
        rw [List.length_take, List.length_drop]; omega
      have : (List.take (min ((a.length : Int) + 1).toNat ks.length - (a.length - 1)) (List.drop (a.length - 1) ks))[i - (a.length - 1)] = ks[i] := by
        rw [List.getElem_take, List.getElem_drop]
        congr 1; omega
      rw [← this]; exact List.getElem_mem hlt
    have hle2 := hle _ (List.mem_map_of_mem hmemc)
    have hbi : Builtin.Int.intBits (Builtin.bitXor (q : Int) ks[i]) ≤ B := by rw [hx1]; exact bits_iff.mpr hib.symm
    obtain ⟨k, hk, hkM⟩ := List.mem_map.mp hM
    have hkk : k ∈ ks := by
      unfold cutK at hk
      exact List.mem_of_mem_drop (List.mem_of_mem_take hk)
    have := hminB k hkk
    unfold highBit at hle2 hkM
    omega
  · intro hz
    rw [hhb] at hz
    have hB0 : B = 0 := by omega
    rw [hB0] at hBle
    have hnq : n = q := by simpa using hBle
    subst hnq
    rw [l0, ex_worth hpos, nq]
    refine cnt_eq hT hkr fun k hk => ?_
    have tri : k = n ∨ Br (plc tl 12) k n ∨ Br (plc tl 12) n k := by
      obtain ⟨i, hi, rfl⟩ := List.mem_iff_getElem.mp hnk
      obtain ⟨j, hj, rfl⟩ := List.mem_iff_getElem.mp hk
      rcases Nat.lt_trichotomy j i with w | w | w
      · exact .inr (.inl (List.pairwise_iff_getElem.mp hbr j i hj hi w))
      · subst w; exact .inl rfl
      · exact .inr (.inr (List.pairwise_iff_getElem.mp hbr i j hi hj w))
    rcases tri with rfl | h | h
    · simp
    · have h3 := h.lt; have h4 := h.sk hP
      exact ⟨fun _ => h3, fun _ => by exact_mod_cast h4⟩
    · have h3 := h.lt; have h4 := h.sk hP
      exact ⟨fun w => by have : skP (plc tl 12) k < skP (plc tl 12) n := by exact_mod_cast w
                         omega, fun w => by omega⟩
  all_goals
    intro hz
    rw [hhb] at hz ⊢
    obtain ⟨b, rfl⟩ : ∃ b, B = b + 1 := ⟨B - 1, by omega⟩
    have eb : (((b + 1 : Nat) : Int) - 1).toNat = b := by omega
    rw [eb, single_bit]
    have hne : n / 2 ^ b ≠ q / 2 ^ b := fun h => by
      have := bits_iff.mpr h.symm; omega
    have hh := hBle
    rw [div_half, div_half] at hh
    have hminb : ∀ k ∈ ks.map Int.toNat, k / 2 ^ b ≠ q / 2 ^ b := fun k hk h => by
      obtain ⟨k', hk', rfl⟩ := List.mem_map.mp hk
      have h2 := hkr k' hk'
      have h3 := bits_iff.mpr h.symm
      have h4 := hminB k' hk'
      have h5 : ((k'.toNat : Nat) : Int) = k' := by omega
      rw [h5] at h3
      omega
  · rw [decide_eq_decide]
    constructor
    · intro h
      have : n / 2 ^ b < q / 2 ^ b := by omega
      have := lt_of_div this
      omega
    · intro h
      have h1 : n < q := by omega
      have := Nat.div_le_div_right (c := 2 ^ b) (Nat.le_of_lt h1)
      omega
  · intro hbit
    have hbit := of_decide_eq_true hbit
    have hlt : n / 2 ^ b < q / 2 ^ b := by omega
    have hp : 0 < 2 ^ b := Nat.pow_pos (by decide)
    generalize hy : (q / 2 ^ (b + 1) * 2 + 1) * 2 ^ b - 1 = y
    have hy1 : y + 1 = (q / 2 ^ (b + 1) * 2 + 1) * 2 ^ b := by
      have : 1 ≤ (q / 2 ^ (b + 1) * 2 + 1) * 2 ^ b := Nat.mul_pos (by omega) hp
      omega
    have hyq : y < q := by
      have h1 : q / 2 ^ b = q / 2 ^ (b + 1) * 2 + 1 := by rw [div_half]; omega
      have h2 := Nat.div_mul_le_self q (2 ^ b)
      rw [h1, ← hy1] at h2
      omega
    have hmid : midOf (q : Int) b - 1 = (y : Int) := by rw [mid_nat, ← hy1]; omega
    rw [hmid, l1, ex_worth hpos, nat12_of (by omega) (by omega), Int.toNat_natCast]
    have hyd : y / 2 ^ b = n / 2 ^ b := by
      have h1 : n / 2 ^ b = q / 2 ^ (b + 1) * 2 := by rw [div_half]; omega
      rw [h1]
      apply Nat.div_eq_of_lt_le
      · rw [Nat.add_mul] at hy1; omega
      · show y < (q / 2 ^ (b + 1) * 2 + 1) * 2 ^ b
        omega
    have fw := fw_ones hP hbr hnk hBle hlt hminb hyd (by rw [hy1]; exact Nat.mul_mod_left _ _)
    refine cnt_eq hT hkr fun k hk => ?_
    rw [← fw k hk]
    omega
  · intro hbit
    have hbit := of_decide_eq_false hbit
    have hlt : q / 2 ^ b < n / 2 ^ b := by omega
    have hp : 0 < 2 ^ b := Nat.pow_pos (by decide)
    generalize hy : (q / 2 ^ (b + 1) * 2 + 1) * 2 ^ b = y
    have h1 : n / 2 ^ b = q / 2 ^ (b + 1) * 2 + 1 := by rw [div_half]; omega
    have hyn : y ≤ n := by
      have h2 := Nat.div_mul_le_self n (2 ^ b)
      rw [h1, hy] at h2
      exact h2
    have hmid : midOf (q : Int) b = (y : Int) := by rw [mid_nat, hy]
    rw [hmid, l0, ex_worth hpos, nat12_of (by omega) (by omega), Int.toNat_natCast]
    have hyd : y / 2 ^ b = n / 2 ^ b := by
      rw [h1, ← hy, Nat.mul_div_cancel _ hp]
    have fw := fw_zeros hP hbr hnk hBle hlt hminb hyd (by rw [← hy]; exact Nat.mul_mod_left _ _)
    refine cnt_eq hT hkr fun k hk => ?_
    rw [← fw k hk]
    omega
end
end Mine
end

section
open PySem PySem.W PyProof.Rows PySem.Calls
set_option maxRecDepth 100000
namespace Mine
/-- the law's own end -/
def LawEnd (s₁ : Shared) (f : Flow) (s' : Shared) : Prop := f = .ret (.bool true) ∧ ∃ h tk Gs m', s' = { s₁ with heap := h, gens := Gs, toks := tk } ∧ Fr s₁.heap s₁.heap.objs.size h m' ∧ ∀ x ∈ Gs, x.bare = true
theorem law_end {s₁ : Shared} {h : Heap} {tk : Nat} {Gs : Array GenState} {m : Str → Option Value} (F : Fr s₁.heap s₁.heap.objs.size h m) (B : ∀ x ∈ Gs, x.bare = true) : LawEnd s₁ (.ret (.bool true)) { s₁ with heap := h, gens := Gs, toks := tk } :=
  ⟨rfl, h, tk, Gs, m, rfl, F, B⟩
/-- a turn's end: the cell of the target alone is another -/
def TurnEnd (h₀ : Heap) (L : Addr) (m₀ : Str → Option Value) (I : Addr) (oI : Obj) (Led : Obj → List (Addr × Obj)) (s₁ : Shared) (f : Flow) (s' : Shared) : Prop :=
  f = .next ∧ ∃ h' tk o', s' = { s₁ with heap := h', toks := tk } ∧ Fr h₀ L h' m₀ ∧ News h₀ L h' ((I, oI) :: Led o') ∧ ∃ v, o'.data = .cell v
section
variable {prog : Program} {w : World} {A : Around} {E : Value → Shared → Prop} {s : Shared} {h₀ : Heap} {env : Env} {target : PySem.Expr} {body : List Stmt} {Q : Flow → Shared → Prop}
theorem turns_cell {l : Addr} {n : Nat} {vs : List Value} {ns : List Int} {m₀ : Str → Option Value} {lo o₀ : Obj} (Led : Obj → List (Addr × Obj))
    (hh : A.handled = none) (F : Fr h₀ env.locals s.heap m₀) (N : News h₀ env.locals s.heap (Led o₀)) (hlm : ∀ o, (l, lo) ∈ Led o) (hc : lo.cls = .type "list") (hd : lo.data = .seq vs.toArray n) (hi : IntsAre vs ns) (hd₀ : ∃ v, o₀.data = .cell v)
    (haddr : ∀ o, (Led o).map (·.1) = (Led o₀).map (·.1))
    (turn : ∀ k t I oI oA v h tk, k ∈ ns → oA.data = .cell v → Fr h₀ env.locals h m₀ → News h₀ env.locals h ((I, oI) :: Led oA) → (∀ p ∈ Led o₀, p.1 < I) →
      wpAny (model prog w) A (assign target env (.int k t)) (fun _ s₃ => wpAny (model prog w) A (execs body env) (TurnEnd h₀ env.locals m₀ I oI Led { s with heap := h, toks := tk }) E s₃) E { s with heap := h, toks := tk })
    (done : ∀ o h tk, Fr h₀ env.locals h m₀ → News h₀ env.locals h (Led o) → Q .next { s with heap := h, toks := tk }) :
    wpAny (model prog w) A (pyIter (.ref l)) (fun it s₂ => TurnsAt prog w A h₀ env target body Q E it s₂) E s := by
  have hg : s.heap.get? l = some lo := (N _ (hlm o₀)).1
  have hl : s.heap.IsList l vs.toArray := ⟨lo, hg, hc, n, hd⟩
  have hlt : l < s.heap.objs.size := Heap.lt_size hg
  have hne : l ≠ s.heap.objs.size := Nat.ne_of_lt hlt
  have hlow : ∀ o, ∀ p ∈ Led o, p.1 < s.heap.objs.size := fun o p hp => by
    have : p.1 ∈ (Led o₀).map (·.1) := by rw [← haddr o]; exact List.mem_map_of_mem hp
    obtain ⟨q, hq, e⟩ := List.mem_map.mp this
    rw [← e]
    exact Heap.lt_size (N q hq).1
  have hnew : h₀.get? s.heap.objs.size = none := by
    cases q : h₀.get? s.heap.objs.size with
    | none => rfl
    | some o => exact absurd (Heap.lt_size (F.keep _ _ q)) (Nat.lt_irrefl _)
  have hLI : env.locals < s.heap.objs.size := F.ns.lt
  refine wpAny_pyIter_list hl ?_
  refine ⟨s.heap.objs.size, [s.heap.objs.size, l], [s.heap.objs.size], vs.toArray.size, _, _, _, m₀, Led o₀, fun _ m news => m = m₀ ∧ ∃ o, news = Led o ∧ ∃ v, o.data = .cell v, rfl,
    KTurns.ofWalks (Walks.list hh s.heap.objs.size l hne vs.toArray) (fun i v s Q E st q => letGo_listiter st.1 q), ?_, ?_, ?_, ?_, F.push _, ?_, ⟨rfl, o₀, rfl, hd₀⟩, ?_, ?_⟩
  · intro hI
    rcases List.mem_cons.mp hI with e | hI
    · exact absurd hLI (e ▸ Nat.lt_irrefl _)
    · exact (N _ (hlm o₀)).2.1 (List.mem_singleton.mp hI).symm
  · intro b hb
    rw [List.mem_singleton.mp hb]; exact hnew
  · intro p hp hI
    exact absurd (hlow o₀ p hp) ((List.mem_singleton.mp hI) ▸ Nat.lt_irrefl _)
  · exact ⟨⟨_, Heap.get?_push_size _ rfl, rfl, rfl⟩, hl.at fun o e => Heap.get?_push_of_some _ e⟩
  · exact fun p hp => ⟨Heap.get?_push_of_some _ (N p hp).1, (N p hp).2⟩
  · rintro i v m₁ news₁ h₁ tk₁ own hin hP ⟨rfl, oA, rfl, vA, hvA⟩ hnw hown1 hown2 hown3 st F₁ N₁
    obtain ⟨k, t, rfl, hk⟩ := IntsAre.at hi i v (by simpa using hP)
    obtain ⟨oI, hoI, hoI2⟩ := st.1
    have NI : News h₀ env.locals h₁ ((s.heap.objs.size, oI) :: Led oA) := fun p hp => by
      rcases List.mem_cons.mp hp with rfl | hp
      · exact ⟨hoI, Nat.ne_of_gt hLI, hnew⟩
      · exact N₁ p (List.mem_append_right _ hp)
    refine wpAny_mono (turn k t _ oI oA vA h₁ tk₁ (List.mem_of_getElem? hk) hvA F₁ NI (hlow o₀)) (fun _ s₃ h₃ => wpAny_mono h₃ (fun f s₄ h₄ => ?_) fun _ _ e => e) fun _ _ e => e
    obtain ⟨rfl, h', tk', o', rfl, F', N', v', hv'⟩ := h₄
    refine ⟨rfl, h', tk', m₁, Led o', rfl, F', fun p hp => ?_, fun p hp hI => ?_, rfl, o', rfl, v', hv'⟩
    · rcases List.mem_append.mp hp with hp | hp
      · have hp1 := hown1 p hp
        have hp2 := hown2 p hp
        rcases List.mem_cons.mp hp1 with e | hp1
        · rw [e, hoI] at hp2
          have e2 : p = (s.heap.objs.size, oI) := Prod.ext e (Option.some.inj hp2).symm
          rw [e2]; exact N' _ (.head _)
        · have e := List.mem_singleton.mp hp1
          have hl1 := (NI _ (.tail _ (hlm oA))).1
          rw [e, hl1] at hp2
          have e2 : p = (l, lo) := Prod.ext e (Option.some.inj hp2).symm
          rw [e2]; exact N' _ (.tail _ (hlm o'))
      · exact N' _ (.tail _ hp)
    · exact absurd (hlow o' p hp) ((List.mem_singleton.mp hI) ▸ Nat.lt_irrefl _)
  · rintro h' tk m' news' F' N' _ ⟨rfl, o, rfl, _⟩
    exact done o h' tk F' N'
theorem turns_led {l a1 a2 a3 a4 a5 cA c1 c2 c3 c4 : Addr} {lo o1 o2 o3 o4 o5 o₀ p1 p2 p3 p4 : Obj} {n : Nat} {vs : List Value} {ns : List Int} {m₀ : Str → Option Value} {v₀ : Option Value}
    (hh : A.handled = none) (F : Fr h₀ env.locals s.heap m₀) (N : News h₀ env.locals s.heap [(l, lo), (a1, o1), (a2, o2), (a3, o3), (a4, o4), (a5, o5), (cA, o₀), (c1, p1), (c2, p2), (c3, p3), (c4, p4)]) (hc : lo.cls = .type "list") (hd : lo.data = .seq vs.toArray n) (hi : IntsAre vs ns) (hd₀ : o₀.data = .cell v₀)
    (turn : ∀ k t I oI oA v h tk, k ∈ ns → oA.data = .cell v → Fr h₀ env.locals h m₀ → News h₀ env.locals h [(I, oI), (l, lo), (a1, o1), (a2, o2), (a3, o3), (a4, o4), (a5, o5), (cA, oA), (c1, p1), (c2, p2), (c3, p3), (c4, p4)] → @LT.lt Nat _ cA I →
      wpAny (model prog w) A (assign target env (.int k t)) (fun _ s₃ => wpAny (model prog w) A (execs body env) (TurnEnd h₀ env.locals m₀ I oI (fun o => [(l, lo), (a1, o1), (a2, o2), (a3, o3), (a4, o4), (a5, o5), (cA, o), (c1, p1), (c2, p2), (c3, p3), (c4, p4)]) { s with heap := h, toks := tk }) E s₃) E { s with heap := h, toks := tk })
    (done : ∀ o h tk, Fr h₀ env.locals h m₀ → News h₀ env.locals h [(l, lo), (a1, o1), (a2, o2), (a3, o3), (a4, o4), (a5, o5), (cA, o), (c1, p1), (c2, p2), (c3, p3), (c4, p4)] → Q .next { s with heap := h, toks := tk }) :
    wpAny (model prog w) A (pyIter (.ref l)) (fun it s₂ => TurnsAt prog w A h₀ env target body Q E it s₂) E s :=
  turns_cell (fun o => [(l, lo), (a1, o1), (a2, o2), (a3, o3), (a4, o4), (a5, o5), (cA, o), (c1, p1), (c2, p2), (c3, p3), (c4, p4)]) hh F N (fun _ => .head _) hc hd hi ⟨v₀, hd₀⟩ (fun _ => rfl)
    (fun k t I oI oA v h tk hk hv F' N' hI => turn k t I oI oA v h tk hk hv F' N' (hI (cA, o₀) (by simp))) done
theorem turn_end {h₀ h' : Heap} {L I l a1 a2 a3 a4 a5 cA c1 c2 c3 c4 : Addr} {oI lo o1 o2 o3 o4 o5 o' p1 p2 p3 p4 : Obj} {m₀ : Str → Option Value} {v : Option Value} {s₁ : Shared} {tk : Nat} {all : List (Addr × Obj)}
    (F : Fr h₀ L h' m₀) (N : News h₀ L h' all) (sub : ∀ p ∈ [(I, oI), (l, lo), (a1, o1), (a2, o2), (a3, o3), (a4, o4), (a5, o5), (cA, o'), (c1, p1), (c2, p2), (c3, p3), (c4, p4)], p ∈ all) (hd : o'.data = .cell v) :
    TurnEnd h₀ L m₀ I oI (fun o => [(l, lo), (a1, o1), (a2, o2), (a3, o3), (a4, o4), (a5, o5), (cA, o), (c1, p1), (c2, p2), (c3, p3), (c4, p4)]) s₁ .next { s₁ with heap := h', toks := tk } :=
  ⟨rfl, h', tk, o', rfl, F, fun p hp => N p (sub p hp), v, hd⟩
end
end Mine
end

section
open PySem PySem.W PyProof.Rows PySem.Calls
set_option maxRecDepth 100000
namespace Mine
section
variable {w : World} {mean : ExcName → Option Value} {mg mb : Str → Option Value} {A : Around} {s : Shared} {Q E : Value → Shared → Prop}
theorem c_found2
    (lk le lt lb : Addr) (asked : Int) (ta t1 t2 t3 t4 : Tok) (vks ves vts : List Value) (ks ss tl : List Int) (C : Cx w mean mg mb 3 A s.heap)
    (hlk : s.heap.IsList lk vks.toArray) (hik : IntsAre vks ks) (hle : s.heap.IsList le ves.toArray) (hie : StrsAre ves (ks.map fun k => excGo tl (Str.ofString "") (left12 k))) (hlt : s.heap.IsList lt vts.toArray) (hit : IntsAre vts tl)
    (hlb : IsTup s.heap lb #[.int (((ks.map fun k => excGo tl (Str.ofString "") (left12 k)).map worthS).foldl (bookStep (((ks.map fun k => excGo tl (Str.ofString "") (left12 k)).getD (Int.toNat 0) Str.empty).length + 1)) (0, 0)).1 t1, .int (((ks.map fun k => excGo tl (Str.ofString "") (left12 k)).map worthS).foldl (bookStep (((ks.map fun k => excGo tl (Str.ofString "") (left12 k)).getD (Int.toNat 0) Str.empty).length + 1)) (0, 0)).2 t2, .int (((ks.map fun k => excGo tl (Str.ofString "") (left12 k)).getD (Int.toNat 0) Str.empty).length + 1) t3, .int ks.length t4])
    (hk3 : 3 ≤ ks.length) (hk8 : ks.length ≤ 8) (hkr : ∀ k ∈ ks, 0 ≤ k ∧ k < 4096) (hks : ks.Pairwise (· < ·)) (hSizes : SizesOf ks ss) (hTold : ToldOf ss tl) (hask : 0 ≤ asked ∧ asked < 4096)
    (hret : ∀ t h' tk', s.heap.StaysIn h' → Q (.int ((ks.filter fun k => decide (k < asked)).length : Nat) t) { s with heap := h', toks := tk' }) :
    wpAny (model PySem.Challenge.rw_st0003_01.row.prog w) A (call (.ref 92) [.int asked ta, .ref lk, .ref le, .ref lt, .ref lb]) Q E s := by
  have hpos := told_pos hTold
  obtain ⟨hp1, hp12⟩ := pl_pos hks hkr hk3 hSizes hTold
  have hwd : ((ks.map fun k => excGo tl (Str.ofString "") (left12 k)).getD (Int.toNat 0) Str.empty).length = (plc tl 12).length := by
    cases hq : ks with
    | nil => rw [hq] at hk3; simp at hk3
    | cons k r => show (excGo tl (Str.ofString "") (left12 k)).length = _; exact ex_len hpos k
  rw [hwd] at hlb
  have hless := fun (v : Int) (h0 : 0 ≤ v) (h1 : v ≤ 2 ^ (plc tl 12).length) => less_cnt hks hkr hSizes hTold h0 h1
  have hsm := book_small (plc tl 12).length hp12 ((ks.map fun k => excGo tl (Str.ofString "") (left12 k)).map worthS) [] 0 0 rfl (by decide) (by decide) (by decide) (by decide) (fun s hs => by
    obtain ⟨y, hy, rfl⟩ := List.mem_map.mp hs
    obtain ⟨k, _, rfl⟩ := List.mem_map.mp hy
    have := worth_rng hTold k
    exact ⟨this.1, Int.lt_of_lt_of_le this.2 (two_pow_le hp12)⟩)
  have hw := worth_rng hTold
  have hbits : Builtin.Int.intBits (((ks.map fun k => excGo tl (Str.ofString "") (left12 k)).map worthS).foldl (bookStep (((plc tl 12).length : Int) + 1)) (0, 0)).2 ≤ 160 := by
    refine bits_le_of hsm.1 (Int.lt_of_lt_of_le hsm.2 (two_pow_le ?_))
    simp only [List.nil_append, List.length_map]; omega
  refine c_found lk le lt lb asked ta t1 t2 t3 t4 vks ves vts ks tl (ks.map fun k => excGo tl (Str.ofString "") (left12 k)) _ _ (plc tl 12).length C hlk hik hle hie hlt hit hlb hk3 hk8 hkr (List.length_map ..) (told_len hTold) hpos hask ⟨hp1, hp12⟩ (fun x => ex_01' hpos x) hw ?_ ?_ ?_ ?_ ?_ ?_ (hks.imp fun h => Int.ne_of_lt h) (fun k hk k' hk' h => xor_inj hask.1 (hkr k hk).1 (hkr k' hk').1 h) _ (fun near hn hmin => found_ok hks hkr hSizes hTold hask hless hn hmin) hret
  · intro x h0 h1
    exact PySem.IntMulOk.of_bits (Nat.le_trans (bits_le_of (n := 13) h0 (Int.lt_of_le_of_lt h1 (Int.lt_of_le_of_lt (two_pow_le hp12) (by decide)))) (by decide)) (Nat.le_trans hbits (by decide))
  · refine PySem.IntMulOk.of_bits (Nat.le_trans hbits (by decide)) (Nat.le_trans (bits_le_of (n := 14) (Int.le_of_lt (two_pow_pos _)) (Int.lt_of_le_of_lt (two_pow_le (b := 13) (by omega)) (by decide))) (by decide))
  · rw [hless _ (hw asked).1 (Int.le_of_lt (hw asked).2)]; exact Int.natCast_nonneg _
  · rw [hless _ (hw asked).1 (Int.le_of_lt (hw asked).2), hless _ (by have := (hw asked).1; omega) (by have := (hw asked).2; omega)]
    unfold cntL
    have : ((ks.filter fun k => decide (worthS (excGo tl (Str.ofString "") (left12 k)) < worthS (excGo tl (Str.ofString "") (left12 asked)))).length) ≤ ((ks.filter fun k => decide (worthS (excGo tl (Str.ofString "") (left12 k)) < worthS (excGo tl (Str.ofString "") (left12 asked)) + 1)).length) := by
      rw [← List.countP_eq_length_filter, ← List.countP_eq_length_filter]
      refine List.countP_mono_left fun k _ h => ?_
      have := of_decide_eq_true h
      exact decide_eq_true (by omega)
    omega
  · rw [hless _ (by have := (hw asked).1; omega) (by have := (hw asked).2; omega)]
    unfold cntL
    have := List.length_filter_le (fun k => decide (worthS (excGo tl (Str.ofString "") (left12 k)) < worthS (excGo tl (Str.ofString "") (left12 asked)) + 1)) ks
    omega
  · rw [hless _ (hw asked).1 (Int.le_of_lt (hw asked).2), hless _ (by have := (hw asked).1; omega) (by have := (hw asked).2; omega)]
    exact ans_all hks hkr hSizes hTold asked
end
theorem asked_range {ks k : List Int} {y x : Int} (hkr : ∀ k ∈ ks, 0 ≤ k ∧ k < 4096)
    (h : x ∈ ks ++ (rangeKs 0 ((ks.length : Int) - 0).toNat).map (fun i => Builtin.bitXor (ks.getD i.toNat 0) ((y.fmod 4096).fdiv (2 ^ i.toNat))) ++ k.map (fun a => a.fmod 4096)) : 0 ≤ x ∧ x < 4096 := by
  have fm : ∀ z : Int, 0 ≤ z.fmod 4096 ∧ z.fmod 4096 < 4096 := fun z => ⟨Int.fmod_nonneg_of_pos z (by decide), Int.fmod_lt_of_pos z (by decide)⟩
  rcases List.mem_append.mp h with h | h
  · rcases List.mem_append.mp h with h | h
    · exact hkr x h
    · obtain ⟨i, hi, rfl⟩ := List.mem_map.mp h
      have hir := mem_rangeKs hi
      have hlt : i.toNat < ks.length := by omega
      have hk : 0 ≤ ks.getD i.toNat 0 ∧ ks.getD i.toNat 0 < 4096 := by
        rw [List.getD_eq_getElem?_getD, List.getElem?_eq_getElem hlt, Option.getD_some]
        exact hkr _ (List.getElem_mem hlt)
      have h2 : 0 ≤ (y.fmod 4096).fdiv (2 ^ i.toNat) ∧ (y.fmod 4096).fdiv (2 ^ i.toNat) < 4096 := by
        have hp := two_pow_pos i.toNat
        rw [Int.fdiv_eq_ediv_of_nonneg _ (Int.le_of_lt hp)]
        exact ⟨Int.ediv_nonneg (fm y).1 (Int.le_of_lt hp), Int.lt_of_le_of_lt (Int.ediv_le_self _ (fm y).1) (fm y).2⟩
      exact ⟨xor_nonneg hk.1 h2.1, xor_lt (n := 12) hk.1 h2.1 hk.2 h2.2⟩
  · obtain ⟨z, _, rfl⟩ := List.mem_map.mp h
    exact fm z
end Mine
end

section
open PySem PySem.W PyProof.Rows PySem.Calls
set_option Elab.async false
set_option maxRecDepth 100000
set_option maxHeartbeats 8000000
set_option pp.proofs false
namespace Mine
local macro_rules | `(tactic| walk_at "my enter") => `(tactic| k_dflt (refine' enterP (by assumption) ?k6 ?k7 ?k9 ?kB ?_ ?c2 ?c3 ?c4 ?c5; (case k6 => k_is); (case k7 => k_is); (case k9 => exact BindsTo.of_eq rfl); (case c5 => decide); (case kB => exact locs rfl); (case c2 => exact rfl); (case c3 => exact rfl); (case c4 => exact rfl); intro gd env outer base g' L' h' F' N' B' X' T' hG'; (try dsimp only); (try k_fold)))
local macro_rules | `(tactic| walk_at "my enterC") => `(tactic| k_dflt (refine' enterC (by assumption) ?k6 ?k7 ?k9 ?kB ?kD ?_ ?c2 ?c3 ?c4; (case k6 => k_is); (case k7 => k_is); (case k9 => exact BindsTo.of_eq rfl); (case kB => exact rfl); (case kD => decide +kernel); (case c2 => exact rfl); (case c3 => exact rfl); (case c4 => exact rfl); intro gd env outer base g' L' h' tk' cells' F' N' Y' B' X' T' hG'; k_cells Y'; (try simp only [List.cons_append, List.nil_append] at N'); (try dsimp only); (try k_fold)))
local macro_rules | `(tactic| walk_at "my steps") => `(tactic| repeat' (first | (k_unfold; (try dsimp only)) | (dsimp only; k_unfold; (try dsimp only)) | walk1 | (dsimp only; walk1) | (leave1; walk_say "STEP leave1"; try dsimp only) | fail "no step"))
local macro_rules | `(tactic| walk_at "InvEndN") => `(tactic| k_dflt kst_close)
local macro_rules | `(tactic| walk_at "my cx") => `(tactic| k_dflt (refine' cx_of ?B ?F ?X ?T rfl rfl rfl rfl ?d ?u; (case F => k_asm); (case B => k_asm); (case X => k_asm); (case T => k_asm); (case d => exact Nat.le_of_ble_eq_true rfl); (case u => exact Nat.le_of_ble_eq_true rfl)))
local macro_rules | `(tactic| walk_at "my back") => `(tactic| k_dflt (intro t9 h9 tk9 hS9; (have F9 := fr_stays (by k_asm) hS9); (have N9 := news_stays (by k_asm) hS9); clear hS9; (try k_sweep); (try dsimp only); (try k_fold)))


local macro_rules | `(tactic| walk_at "call ref") => `(tactic| k_extra "my call")
local macro_rules | `(tactic| walk_at "binaryOp Mult ref int") => `(tactic| k_extra "my mult")
local macro_rules | `(tactic| walk_at "compareOp NotEq ref ref") => `(tactic| k_extra "my ne")
local macro_rules | `(tactic| walk_at "eval ListComp") => `(tactic| k_extra "my lc")
local macro_rules | `(tactic| walk_at "exec Assign") => `(tactic| k_extra "my assign")
local macro_rules | `(tactic| walk_at "exec For") => `(tactic| k_extra "my for")
local macro_rules | `(tactic| k_ne) => `(tactic| (refine neN ?_; (try dsimp only); first | with_reducible assumption | exact ne_kind (by k_asm) (by k_mem) (by assumption) (by k_mem) rfl | omega))
local macro_rules | `(tactic| walk_at "CompEnd") => `(tactic| k_extra "my end")
local macro_rules | `(tactic| walk_at "subscriptTail Name Name ref int") => `(tactic| k_extra "my sub")
local macro_rules | `(tactic| walk_at "subscriptTail") => `(tactic| k_extra "my sub")
local macro_rules | `(tactic| walk_at "pyIter ref") => `(tactic| k_extra "my iter")
local macro_rules | `(tactic| walk_at "CompSrcT") => `(tactic| k_extra "my compT")
local macro_rules | `(tactic| walk_at "call builtin:len") => `(tactic| k_extra "my len")
local macro_rules | `(tactic| walk_at "CompSrc") => `(tactic| k_extra "my comp")
local macro_rules | `(tactic| walk_at "binaryOp Add ref ref") => `(tactic| k_extra "my add")

theorem law_holds : PySem.Challenge.rw_st0003_01.Holds := by
  refine Mine.hd ?_
  k_fill
  intro w s₀ s₁ mg mb G Y fa o pm cd doc dV kV ho hd hcd hD hmg hg args vals as hpre hlay hrd hwl hlo
  have KX := kIn_of Y
  k_with_none
  lge_behind G ho hd hcd hD hmg hpre hlay hrd hwl hlo cd
  all_goals (with_reducible rename LGe.Mark => lgeM)
  all_goals (clear lgeM)
  all_goals (try k_fold)
  rename (¬ _ < ((List.length _ : Nat) : Int)) => hlen
  refine wpAny_mono (Q := LawEnd s₁) (E := fun _ _ => False) ?w ?q (fun _ _ h => h.elim)
  case q =>
    rintro fl s' ⟨rfl, h, tk, Gs, m', rfl, F', hB⟩
    wrow_closeG
  have hBs : Bare s₁.gens := by rw [hg]; intro x hx; simp at hx
  have hBel : Below callerA s₁.heap [] s₁.heap := below_caller _
  expose_names
  clear X V GL B TE TW M B0 hcd hs hlay0 hr hl2 ra w1 r0 hr_1 hD G Y ho hg K0 hL hcond'
  rename List Int => script
  rename Heap.IsList _ _ _ => hsc
  rename IntsAre _ _ => hisc
  have hlen' : script.length ≤ 63 := by omega
  k_with_none
  k_with "my call" => k_dflt (refine' c_keys _ _ _ ?qC1 ?ql1 ?qi1 ?qz1 ?_; (case qC1 => walk_at "my cx"); (case ql1 => kmk_list); (case qi1 => k_asm); (case qz1 => (simp only [List.length_append, List.length_map, List.length_take, List.length_cons, List.length_nil]; omega)); (intro aK hK tkK vks ks nK hS9 hn9 hg9 hik hKeys); (have F9 := fr_stays (by k_asm) hS9); (have N9 := ret_newsD 4 (by k_asm) (by k_asm) hS9 hn9 hg9); (obtain ⟨N9, g9⟩ := N9); clear g9; (simp only [List.drop_succ_cons, List.drop_zero] at N9); (try ((with_reducible rename (@Ne Nat _ _ ∧ _) => o9); clear o9)); clear hS9; (have kf := keys_facts hKeys); (obtain ⟨hk3, hk8, hkr, hks⟩ := kf); (try k_sweep); (try dsimp only); (try k_fold))
  k_with "my call" => k_dflt (refine' c_sizes _ _ _ ?qC2 ?ql2 ?qi2 ?qz2 ?qz12 ?_; (case qC2 => walk_at "my cx"); (case ql2 => kmk_list); (case qi2 => k_asm); (case qz2 => omega); (case qz12 => omega); (intro aS hS tkS vss ss nS hS9 hn9 hg9 hiss hSizes); (have F9 := fr_stays (by k_asm) hS9); (have N9 := ret_newsD 0 (by k_asm) (by k_asm) hS9 hn9 hg9); (obtain ⟨N9, g9⟩ := N9); clear g9; (simp only [List.drop_succ_cons, List.drop_zero] at N9); (try ((with_reducible rename (@Ne Nat _ _ ∧ _) => o9); clear o9)); clear hS9; (have sf := sizes_facts hSizes hks hkr hk3); (obtain ⟨hs0, hsp, hsl⟩ := sf); (try k_sweep); (try dsimp only); (try k_fold))
  k_with "my call" => k_dflt (refine' c_told2 _ _ _ _ ?qC3 ?ql3 ?qi3 ?qn3 ?qb3 ?qT3 ?_; (case qC3 => walk_at "my cx"); (case ql3 => kmk_list); (case qi3 => k_asm); (case qn3 => exact first_ne hs0 hsp); (case qb3 => k_asm); (case qT3 => first | exact told_again hs0 hsp hsl | exact told_end hs0 hsp hsl | exact told_stop hs0 hsp hsl); (intro aT hT tkT GT vts nT tl htl hTold hS9 hn9 hg9 hit hB9); (have F9 := fr_stays (by k_asm) hS9); (have N9 := ret_newsD 5 (by k_asm) (by k_asm) hS9 hn9 hg9); (obtain ⟨N9, g9⟩ := N9); clear g9; (simp only [List.drop_succ_cons, List.drop_zero] at N9); (try ((with_reducible rename (@Ne Nat _ _ ∧ _) => o9); clear o9)); clear hS9; (try k_sweep); (try dsimp only); (try k_fold))
  k_with "my mult" => k_dflt (refine' mul_ints ?qF4 ?qN4 ?ql4 ?qi4 ?qlo4 ?qhi4 ?qz4 ?_; (case qF4 => k_asm); (case qN4 => k_asm); (case ql4 => kmk_list); (case qi4 => k_asm); (case qlo4 => decide); (case qhi4 => decide); (case qz4 => (rw [drop_last hs0]; exact Nat.le_of_ble_eq_true rfl)); intro D' us' h' F' N' l1 hI'; (try k_lt l1); (try k_sweep))
  k_with "my add" => k_dflt (refine' kmk_add_ints ?qF5 ?qN5 ?qa5 ?qb5 ?qi5 ?qj5 ?_ ?qz5; (case qF5 => k_asm); (case qN5 => k_asm); (case qa5 => kmk_list); (case qb5 => kmk_list); (case qi5 => k_asm); (case qj5 => k_asm); (case qz5 => first | exact due_room hs0 hsl | exact room_a2 hk8 | exact room_b2 hk8 hlen'); intro D' ws' h' F' N' l1 hI'; (try k_lt l1); (try k_sweep))
  k_with "my ne" => k_dflt (refine' ne_ints_same ?qa6 ?qi6 ?qb6 ?qj6 ?qe6 ?qu6 ?_; (case qa6 => kmk_list); (case qi6 => k_asm); (case qb6 => kmk_list); (case qj6 => k_asm); (case qe6 => exact htl.trans (due_again hs0 hsp hsl)); (case qu6 => exact Nat.le_of_ble_eq_true rfl); k_whole; (with_reducible rename News _ _ _ _ => N8); (replace N8 := news_drop 4 N8); (simp only [List.drop_succ_cons, List.drop_zero] at N8))
  k_with "my ne" => k_dflt (refine' ne_ints_same ?qa6 ?qi6 ?qb6 ?qj6 ?qe6 ?qu6 ?_; (case qa6 => kmk_list); (case qi6 => k_asm); (case qb6 => kmk_list); (case qj6 => k_asm); (case qe6 => first | exact htl.trans (fut_end hsp hsl) | exact htl.trans (fut_stop hsp hsl)); (case qu6 => exact Nat.le_of_ble_eq_true rfl); k_whole)
  k_with "my mult" => k_dflt (exfalso; omega)
  k_with "my ne" => k_dflt (exfalso; omega)
  k_with "my call" => k_dflt (refine' c_excerpt _ _ _ _ _ ?qC7 ?ql7 ?qi7 ?qn7 ?qp7 ?_; (case qC7 => walk_at "my cx"); (case ql7 => kmk_list); (case qi7 => exact hit); (case qn7 => exact told_len hTold); (case qp7 => exact told_pos hTold); walk_at "my back")
  k_with "my sub" => k_dflt ((with_reducible show wpAny _ _ (subscriptTail (PySem.Expr.BinOp _ _ _ _) (PySem.Expr.Slice none (some _) none _) (Value.ref _) (Value.ref _)) _ _ _); (refine kba_turn (value' := PySem.Expr.Name (Str.ofString "due") ⟨0, 0, 0, 0⟩) (fun _ => rfl) ?_); (refine' kmk_slice_ints ?qF8 ?qN8 ?ql8 ?qp8 ?qq8 ?qi8 ?qm8 ?qc8 ?_ ?qs8 ?qt8 ?qz8; (case qF8 => k_asm); (case qN8 => k_asm); (case ql8 => kmk_list); (case qp8 => kmk_part); (case qq8 => kmk_part); (case qi8 => k_asm); (case qm8 => exact kmk_upto (by k_asm) (by decide)); (case qc8 => exact List.length_take ..); (case qs8 => with_unfolding_all rfl); (case qt8 => kmk_pure); (case qz8 => exact kmk_sz (by k_asm) (due_size hs0 hsl))); intro D' ws' h' F' N' l1 hI' hC' hL'; (try simp only [Int.reduceNeg, Int.neg_neg, Int.reduceToNat] at hI' hC' hL'); (try k_lt l1); (try k_sweep))
  k_with "my comp" => k_dflt (refine LCg.CompSrc.ledger (by rfl) (by k_asm) (by k_asm) (by k_mem) (by rw [List.size_toArray, IntsAre.length hik, sizeLine_eq]; omega) ?_; intro g'; (refine' tx_ints (fun k => excGo tl (Str.ofString "") (left12 k)) hik (fun k' t' I' oI' C' oC' D' m' ys' h' tk' E' hk' hC' hx' F' N' off' ne' => ?_) (fun vxs hixs => ?_)); (all_goals (try (have offR := off'))); (all_goals (try (simp only [LCg.Off3, and_true] at off'))); (all_goals (try k_fold)))
  k_with "my end" => k_dflt ((with_reducible show LCg.CompEnd _ _ _ _ _ _ _ _ _ _ _ (fun _ _ => TxEl _ _ _ _) _ _); exact tx_end (by k_asm) (by k_asm) offR (by k_mem))
  k_with "my call" => k_dflt (refine' c_book _ _ _ ?qC9 ?ql9 ?qi9 ?qn9 ?qp9 ?qx9 ?qy9 ?_; (case qC9 => walk_at "my cx"); (case ql9 => kmk_list); (case qi9 => exact hixs); (case qn9 => (rw [List.length_map]; omega)); (case qp9 => (rw [List.length_map]; omega)); (case qx9 => exact ex_len12 hTold); (case qy9 => exact ex_01 hTold); (intro aB hB tkB b1 b2 b3 b4 nB hS9 hn9 hg9); (simp only [List.length_map] at hg9); (have F9 := fr_stays (by k_asm) hS9); (have N9 := ret_newsD 0 (by k_asm) (by k_asm) hS9 hn9 hg9); (obtain ⟨N9, g9⟩ := N9); clear g9; (simp only [List.drop_succ_cons, List.drop_zero] at N9); (try ((with_reducible rename (@Ne Nat _ _ ∧ _) => o9); clear o9)); clear hS9; (try k_sweep); (try dsimp only); (try k_fold))
  k_with "my sub" => k_dflt ((with_reducible show wpAny _ _ (subscriptTail (PySem.Expr.Name _ _) (PySem.Expr.Name _ _) (Value.ref _) (Value.int _ _)) _ _ _); (rename (_ < 0 + ((Int.toNat _ : Nat) : Int)) => hhi9); (with_unfolding_all refine' item_list_ints ?qa10 hik ?qc10 (idx_hi hhi9) (idx_fit hhi9 hk8) ?_); (case qa10 => kmk_list); (case qc10 => assumption); intro _; (try dsimp only))
  k_with "my for" => k_dflt (refine For_turns (by k_asm) ?_)
  k_with "my add" => k_dflt (gn_on; (try ((with_reducible rename (@Ne Nat _ _ ∧ _) => o9); clear o9)))
  k_with "my comp" => k_dflt ((try ((with_reducible rename (@Ne Nat _ _ ∧ _) => o9); clear o9)); (refine LCg.CompSrc.range (by rfl) (by k_asm) (by k_asm) (by k_asm) (rng_small hk8) (rangeSize_nat _ _) (rng_size hk8) ?_); intro g'; (refine' kcf_range (fun i => Builtin.bitXor (ks.getD i.toNat 0) (((script.sum.fdiv 3 + 210).fmod 4096).fdiv (2 ^ i.toNat))) (fun k' t' I' oI' C' oC' D' m' ys' h' tk' E' hlo' hhi' hC' hx' F' N' off' ne' hMark' => ?_) (fun vus hius => ?_)); (all_goals (try (have offR := off'))); (all_goals (try clear off')); (all_goals (try k_fold)))
  k_with "my end" => k_dflt ((with_reducible show LCg.CompEnd _ _ _ _ _ _ _ _ _ _ _ (fun _ _ => KCfEl _ _ _ _) _ _); exact kcf_tend (by k_asm) (by k_asm) offR (by first | exact trivial | lcg_src) rfl)
  k_with "my iter" => k_dflt ((with_reducible rename (IntsAre _ (_ ++ _ ++ _)) => hil); (with_reducible rename News _ _ _ _ => N8); (have N9 := news_hd 4 N8); (simp only [List.drop_succ_cons, List.drop_zero] at N9); (refine' turns_led (by rfl) (by k_asm) N9 rfl rfl hil (by assumption) ?_ ?_); (focus ((intro k9 t9 I9 oI9 oA9 v9 h9 tk9 hk9 hv9 F9 N7 hI9); (have hask := asked_range hkr hk9); clear N8; clear N9)); (all_goals (try dsimp only)); (all_goals (try k_fold)))
  k_with "my call" => k_dflt (refine' c_found2 _ _ _ _ _ _ _ _ _ _ _ _ _ ks ss tl ?qC11 ?qk11 hik ?qe11 hixs ?qt11 hit ?qb11 hk3 hk8 hkr hks hSizes hTold hask ?_; (case qC11 => walk_at "my cx"); (case qk11 => kmk_list); (case qe11 => kmk_list); (case qt11 => kmk_list); (case qb11 => exact News.isTup (by k_asm) (by k_mem)); walk_at "my back")
  k_with "my lc" => k_dflt ((with_reducible show wpAny _ _ (eval (PySem.Expr.ListComp _ [⟨_, _, [_], _⟩] _ _) _) _ _ _); refine LCt.ListComp_T (F₀ := by k_asm) (by with_unfolding_all rfl) (by decide) (by rfl) (by decide) (by rfl) ?_)
  k_with "my compT" => k_dflt (refine LCt.CompSrcT.ledger (by rfl) (by k_asm) (by k_asm) (by k_mem) (by rw [List.size_toArray, IntsAre.length hik, sizeLine_eq]; omega) ?_; intro g'; (refine' kci_list (fun l k => if k < k9 then l ++ [k] else l) hik (fun k' t' I' oI' C' oC' D' m' ys' l' h' tk' E' hk' hI' hC' hx' F' N' off' ne' hMark' => ?_) (fun vfs hivf hlvf => ?_) grows_if); (all_goals (try (have offR := off'))); (all_goals (try clear off')); (all_goals (try k_fold)))
  k_with "my end" => k_dflt ((with_reducible show LCg.CompEnd _ _ _ _ _ _ _ _ _ _ _ (fun _ _ => KCiEl _ _ _ _ _) _ _); exact kci_tend1 (by k_asm) (by k_asm) offR (by lcg_src) (by first | exact if_pos (by assumption) | exact if_pos (by omega)))
  k_with "my end" => k_dflt ((with_reducible show LCg.CompEnd _ _ _ _ _ _ _ _ _ _ _ (fun _ _ => KCiNo _ _ _ _) _ _); exact kci_tend2 (by k_asm) (by k_asm) offR (by lcg_src) (by first | exact if_neg (by assumption) | exact if_neg (by omega)))
  k_with "my len" => k_dflt (refine len_fil ?ql12 hivf hk8 ?_; (case ql12 => kmk_list); intro t9 tk9; (try dsimp only); (try k_fold))
  walk_at "my steps"
  all_goals (try k_data)
  all_goals (try (with_reducible exact default))
  all_goals (first | exact law_end (by k_asm) (by k_asm) | exact turn_end (by k_asm) (by k_asm) (fun _ hp => List.Mem.tail _ hp) (by assumption) | ((with_reducible rename (@Ne Int _ _) => nn); exact (nn rfl).elim))

end Mine
end

open PySem PySem.W PyProof.Rows
set_option maxRecDepth 100000 in
theorem PySem.Challenge.cw_st0003_01_holds : PySem.Challenge.rw_st0003_01.Holds := by
  exact Mine.law_holds
