import PyProof.Rows.All
import Wide.All
import OpenK.AllK
import Wide.FinOn
import PySem.Challenge.RW_pg0221_01
open PySem PySem.W PyProof.Rows PySem.Spec PySem.Calls
set_option Elab.async false
set_option maxRecDepth 100000
set_option maxHeartbeats 8000000
namespace Mine
def vw : Program := { Challenge.pw_pg0221_01 with main := { Challenge.pw_pg0221_01.main with body := match Challenge.pw_pg0221_01.main.body with
  | [b0, _, b2, b3, b4, b5, _, b7, b8, b9, b10, b11, b12, _, b14, b15, b16, b17, b18, b19, b20] => [b0, b2, b3, b4, b5, b7, b8, b9, b10, b11, b12, b14, b15, b16, b17, b18, b19, b20]
  | _ => [] } }
abbrev lvs : List (Str × WData) := [(Str.ofString "ONE_THIRD", .float 4599676419421066581), (Str.ofString "ONE_SIXTH", .float 4595172819793696085), (Str.ofString "TWO_THIRD", .float 4604180019048437077)]
abbrev los : List Str := [Str.ofString "_Accumulator", Str.ofString "ONE_THIRD", Str.ofString "ONE_SIXTH", Str.ofString "TWO_THIRD"]
local macro_rules | `(tactic| o_head ($f:ident $k:term $a:term $e:term)) => `(tactic| (
  refine holds_open (q := vw) (loose := los) (Xt := fun s => xlAt vw lvs s && recOk (RowW.records (OpenRow.toRowW (OpenLaw.row Challenge.rw_pg0221_01))) s) (XP := XL vw lvs) (Yf := Hook.obs (kmHook $k $a $e [140, 147])) (Ya := Hook.val (kmHook $k $a $e [140, 147])) (YP := Hook.says (kmHook $k $a $e [140, 147])) (N := 2960) ?hl (Hook.of (kmHook $k $a $e [140, 147])) (Hook.keeps (kmHook $k $a $e [140, 147])) (fun s e => xl_of s (Bool.and_eq_true_iff.mp e).1) XL.keeps (by rfl) (by rfl) (by rfl) (fun s e => recFacts_of (Bool.and_eq_true_iff.mp e).2) (by rfl) (by first | assumption | decide +kernel) (by decide +kernel) ⟨rfl, rfl, rfl, rfl, rfl, by decide +kernel⟩ ?hw ?hc
  case hl => (intro w; unfold openEnds fencedOpening topFrom; (try rw [Fast.te14082659384304107361, Fast.te10274390034422433532, Fast.te14364793385576792824, Fast.te14289696077712309145, Fast.te1435165496053646825, Fast.te4187177175401517315]); kernel_rfl)))
theorem said : OpenLaw.wellSaid Challenge.rw_pg0221_01 = true := by
  try rw [Fast.te9446332074065402090]
  kernel_rfl
local macro_rules | `(tactic| o_law) => `(tactic| refine holds_law Mine.said fun _ => ?_)
open_top hd for PySem.Challenge.rw_pg0221_01
end Mine

-- Base
namespace Mine
open PySem PySem.W PyProof.Rows PySem.Spec PySem.Calls
set_option maxRecDepth 100000
set_option maxHeartbeats 8000000
noncomputable section

/-- the program, as the row has it -/
noncomputable abbrev PP : Program := RowW.prog (OpenRow.toRowW (OpenLaw.row Challenge.rw_pg0221_01))
/-- the loose names of the view -/
noncomputable abbrev LS : List Str := looseW Mine.vw [Str.ofString "_Accumulator", Str.ofString "ONE_THIRD", Str.ofString "ONE_SIXTH", Str.ofString "TWO_THIRD"]
/-- surroundings of a call that is at most n frames and n units deep -/
@[reducible] def AD (n : Nat) : Around := { handled := none, depth := n, frames := none, guards := none, units := n }

theorem wpAny_AD {α : Type} {M : Model} {A : Around} {t : Sem α} {Q : α → Shared → Prop} {E : Value → Shared → Prop} {s : Shared} (n : Nat) (hh : A.handled = none) (hd : A.depth ≤ n) (hu : A.units ≤ n)
    (h : wpAny M (AD n) t Q E s) : wpAny M A t Q E s := fun Γ p hΓ =>
  h Γ p ⟨hΓ.1.trans hh, Nat.le_trans hΓ.2.1 hd, (fun _ e => (nomatch e)), (fun _ e => (nomatch e)), Nat.le_trans hΓ.2.2.2.2 hu⟩

def Grows (h h' : Heap) : Prop := ∀ b o, h.get? b = some o → h'.get? b = some o
theorem Grows.refl (h : Heap) : Grows h h := fun _ _ e => e
theorem Grows.trans {h h' h'' : Heap} (a : Grows h h') (b : Grows h' h'') : Grows h h'' := fun x o e => b x o (a x o e)

/-- a call of a def without cells: g is what stands, news what is known beside it -/
theorem enterP {w : World} {A : Around} {s : Shared} {Q E : Value → Shared → Prop} {g : Heap} {K : Frag} {news : List (Addr × Obj)}
    {name qual : Str} {params : Arguments} {body : List Stmt} {scope : Scope} {cl : List (Str × Addr)} {dV kV doc pm cdv ct oc : Value} {an od : Option Addr} {osl : Array (Option Value)} {f : Addr} {vs : List Value} {binds : List (Str × Value)}
    (X : K.In g) (hlim : g.NoLimit) (hg : Grows g s.heap) (hgs : g.objs.size ≤ s.heap.objs.size) (M : ∀ p ∈ news, s.heap.get? p.1 = some p.2 ∧ g.get? p.1 = none)
    (hroom : A.depth < recursionLimit)
    (ho : K.lookup f = some ⟨oc, od, .func (fnX name qual params body scope cl dV kV doc pm an cdv ct), osl⟩) (hcd : codeIn K cdv qual = true)
    (hbind : BindsTo s (fnX name qual params body scope cl dV kV doc pm an cdv ct) ⟨vs, []⟩ binds) (hloc : ∀ y ∈ binds, scope.names.lookup y.1 = some .local)
    (h : ∀ h₁, Fr g s.heap.objs.size h₁ (fun y => binds.reverse.lookup y) → News g s.heap.objs.size h₁ news →
      wpAny (model PP w) (A.deeper (envX qual scope s.heap.objs.size f cdv cl)) (execs body (envX qual scope s.heap.objs.size f cdv cl))
        (fun fl s' => Q (match fl with | .ret v => v | _ => .none) s') (fun _ _ => False) { s with heap := h₁, toks := s.toks + binds.length })
    (hco : scope.isCoroutine = false) (hgen : scope.isGenerator = false) (hk : scope.kind = .function) (hcell : ∀ x ∈ scope.names, x.2 ≠ .cell) :
    wpAny (model PP w) A (call (.ref f) vs) Q E s := by
  refine wpAny_call ?_
  refine codeAny_call_def (fd := fnX name qual params body scope cl dV kV doc pm an cdv ct) (body := body) (binds := binds) hroom (hg _ _ (X _ _ ho)) rfl (hlim.keeps hg) (codeRec_of (X.keeps hg) hcd) rfl hbind hcell hloc (fun h₁ hns hk₁ => ?_) hco hgen hk
  exact wpAny_mono (h h₁ ⟨hns, fun b o e => hk₁ b o (hg b o e), hgs⟩ (fun p hp => ⟨hk₁ _ _ (M p hp).1, Nat.ne_of_lt (Heap.lt_size (M p hp).1), (M p hp).2⟩)) (fun _ _ x => x) fun _ _ x => x.elim

/-- the same for a def with cells -/
theorem enterC {w : World} {A : Around} {s : Shared} {Q E : Value → Shared → Prop} {g : Heap} {K : Frag} {news : List (Addr × Obj)}
    {name qual : Str} {params : Arguments} {body : List Stmt} {scope : Scope} {dV kV doc pm cdv ct oc : Value} {an od : Option Addr} {osl : Array (Option Value)} {f : Addr} {vs : List Value} {binds : List (Str × Value)}
    (X : K.In g) (hlim : g.NoLimit) (hg : Grows g s.heap) (hgs : g.objs.size ≤ s.heap.objs.size) (M : ∀ p ∈ news, s.heap.get? p.1 = some p.2 ∧ g.get? p.1 = none)
    (hroom : A.depth < recursionLimit)
    (ho : K.lookup f = some ⟨oc, od, .func (fnX name qual params body scope [] dV kV doc pm an cdv ct), osl⟩) (hcd : codeIn K cdv qual = true)
    (hbind : BindsTo s (fnX name qual params body scope [] dV kV doc pm an cdv ct) ⟨vs, []⟩ binds)
    (hkind : (binds.all fun y => scope.names.lookup y.1 == some .local || scope.names.lookup y.1 == some .cell) = true)
    (hnd : ((cellsFrom 0 scope.names []).map (·.1)).Nodup)
    (h : ∀ h₁ tk cells, Fr g s.heap.objs.size h₁ (bindL (envOfC qual scope s.heap.objs.size f cdv).kindOf binds fun _ => none) → News g s.heap.objs.size h₁ (cells ++ news) →
      CellsAre (bindC (envOfC qual scope s.heap.objs.size f cdv).kindOf binds fun _ => none) (cellsFrom (s.heap.objs.size + 1) scope.names []) cells → (∀ p ∈ news, p.1 < s.heap.objs.size) →
      wpAny (model PP w) (A.deeper (envOfC qual scope s.heap.objs.size f cdv)) (execs body (envOfC qual scope s.heap.objs.size f cdv))
        (fun fl s' => Q (match fl with | .ret v => v | _ => .none) s') (fun _ _ => False) { s with heap := h₁, toks := tk })
    (hco : scope.isCoroutine = false) (hgen : scope.isGenerator = false) (hk : scope.kind = .function) :
    wpAny (model PP w) A (call (.ref f) vs) Q E s := by
  refine wpAny_call ?_
  refine codeAny_call_function hroom (hg _ _ (X _ _ ho)) rfl hco hgen rfl (codeRec_of (X.keeps hg) hcd) (hbind _ _ _ _ ?_)
  refine wpAny_newFunctionEnv_cells hk (kindsX hkind _) fun env' he s' x => ?_
  subst he
  refine ⟨(hlim.keeps hg).keeps x.toInCall.keep, codeAny_func ?_⟩
  obtain ⟨h₁, tk, rfl, _⟩ := x.done
  have hk₁ := x.toInCall.keep
  obtain ⟨cells, NC, Y⟩ := Cl.news (h₀ := s.heap) (Nat.le_refl _) fun n c hm => ⟨x.cell n c (lookup_of_mem_nodup (cellsFrom_names scope.names 0 (s.heap.objs.size + 1) [] [] rfl ▸ hnd) hm), x.above n c hm⟩
  refine wpAny_mono (h h₁ tk cells ⟨x.toInCall.ns, fun b o e => hk₁ b o (hg b o e), hgs⟩ (fun p hp => ?_) Y (fun p hp => Heap.lt_size (M p hp).1)) (fun _ _ x => x) fun _ _ x => x.elim
  rcases List.mem_append.mp hp with hp | hp
  · refine ⟨(NC p hp).1, (NC p hp).2.1, ?_⟩
    cases q : g.get? p.1 with
    | none => rfl
    | some o => have := hg _ _ q; rw [(NC p hp).2.2] at this; cases this
  · exact ⟨hk₁ _ _ (M p hp).1, Nat.ne_of_lt (Heap.lt_size (M p hp).1), (M p hp).2⟩

end
end Mine

-- W1
namespace Mine
open PySem PySem.W PyProof.Rows PySem.Spec PySem.Calls
set_option maxRecDepth 100000
set_option maxHeartbeats 8000000
set_option pp.deepTerms false
set_option pp.deepTerms.threshold 8
set_option pp.fieldNotation false
noncomputable section
theorem fill : (fun (_ : OpenLaw) (_ : Params → Frag) => True) Challenge.rw_pg0221_01 Mine.hd.heap_1 := by k_fill; trivial

local macro_rules | `(tactic| walk_at "m_enter") => `(tactic| (refine' enterP ?X ?lim ?g ?gs ?M ?room ?ho ?hcd ?bind ?loc ?_ ?c1 ?c2 ?c3 ?c4; (case X => k_asm); (case lim => exact TopRead.nolimit (by k_asm)); (case g => exact Grows.refl _); (case gs => exact Nat.le_refl _); (case M => exact List.forall_mem_nil _); (case room => decide); (case ho => k_is); (case hcd => k_is); (case bind => exact BindsTo.of_eq rfl); (case loc => exact locs rfl); (case c1 => exact rfl); (case c2 => exact rfl); (case c3 => exact rfl); (case c4 => decide); k_whole; intro h' F' N'; (try dsimp only); (try k_fold)))

def fSixth : UInt64 := 4595172819793696085
def fHalf : UInt64 := 4602678819172646912
def fTwoThird : UInt64 := 4604180019048437077
def fThird : UInt64 := 4599676419421066581
def fOne : UInt64 := 4607182418800017408
def fTwo : UInt64 := 4611686018427387904
def fSix : UInt64 := 4618441417868443648
def ltF (x y : UInt64) : Bool := Float64.cmp x y == some .lt
def vF (m1 m2 hue : UInt64) : UInt64 :=
  if ltF (Float64.divmod hue fOne).2 fSixth = true then Float64.add m1 (Float64.mul (Float64.mul (Float64.sub m2 m1) (Float64.divmod hue fOne).2) fSix)
  else if ltF (Float64.divmod hue fOne).2 fHalf = true then m2
  else if ltF (Float64.divmod hue fOne).2 fTwoThird = true then Float64.add m1 (Float64.mul (Float64.mul (Float64.sub m2 m1) (Float64.sub fTwoThird (Float64.divmod hue fOne).2)) fSix)
  else m1


theorem absurd_bool {b : Bool} (h : b = true) (h' : b = false) : False := by rw [h] at h'; cases h'
theorem endF {Q : Value → Shared → Prop} {R r : UInt64} {t : Tok} {h' : Heap} {tk' : Nat} {s : Shared} (hret : ∀ (t : Tok) (h' : Heap) (tk' : Nat), Grows s.heap h' → Q (.float R t) { s with heap := h', toks := tk' })
  (hg : Grows s.heap h') (e : R = r) : Q (.float r t) { s with heap := h', toks := tk' } := e ▸ hret t h' tk' hg

theorem v_spec {w : World} {mg mb : Str → Option Value} {s : Shared} {Q E : Value → Shared → Prop} (x y z : UInt64) (t1 t2 t3 : Tok)
  (X : (Mine.hd.heap_1 w.params).In s.heap) (T : TopRead Mine.vw LS mg mb s.heap)
  (hret : ∀ (t : Tok) (h' : Heap) (tk' : Nat), Grows s.heap h' → Q (.float (vF x y z) t) { s with heap := h', toks := tk' }) :
  wpAny (model PP w) (AD 900) (call (.ref 196) [.float x t1, .float y t2, .float z t3]) Q E s := by
  have hfill := fill
  k_dflt walk_at "m_enter"
  k_steps
  all_goals (
    refine endF hret (Fr.keep (by assumption)) ?_
    unfold vF ltF fOne fSixth fHalf fTwoThird fSix
    (repeat' split) <;> first | rfl | (exfalso; first | contradiction | exact absurd_bool (by assumption) (by assumption)))

local macro_rules | `(tactic| walk_at "m_after") => `(tactic| (intro t' h' tk' kk; (with_reducible rename Fr _ _ _ _ => F0); (with_reducible rename News _ _ _ _ => N0); (have F' := Fr.keeps F0 kk); (have N' := News.grown N0 kk); clear F0 N0; (try dsimp only); (try k_fold)))
local macro_rules | `(tactic| walk_at "call ref") => `(tactic| ((with_reducible show wpAny _ _ (call (Value.ref 196) _) _ _ _); refine wpAny_AD 900 rfl (Nat.le_of_ble_eq_true rfl) (Nat.le_of_ble_eq_true rfl) ?_; (refine' v_spec _ _ _ _ _ _ ?X ?T ?_; (case X => k_in); (case T => exact TopRead.keeps (by k_asm) (Fr.keep (by k_asm))); walk_at "m_after")))


def hls2 (l s : UInt64) : UInt64 := if (Float64.cmp l fHalf == some .lt || Float64.cmp l fHalf == some .eq) = true then Float64.mul l (Float64.add fOne s) else Float64.sub (Float64.add l s) (Float64.mul l s)
def hls1 (l s : UInt64) : UInt64 := Float64.sub (Float64.mul fTwo l) (hls2 l s)
/-- the three parts of a colour -/
def hlsF (h l s : UInt64) : UInt64 × UInt64 × UInt64 :=
  if (Float64.cmp s 0 == some .eq) = true then (l, l, l)
  else (vF (hls1 l s) (hls2 l s) (Float64.add h fThird), vF (hls1 l s) (hls2 l s) h, vF (hls1 l s) (hls2 l s) (Float64.sub h fThird))
/-- a tuple of three floats -/
def tup3 (a b c : UInt64) (ta tb tc : Tok) : Obj := { cls := .type "tuple", data := .seq #[.float a ta, .float b tb, .float c tc] }

theorem endT3 {Q : Value → Shared → Prop} {R : UInt64 × UInt64 × UInt64} {a b c : UInt64} {ta tb tc : Tok} {D : Addr} {h' : Heap} {tk' : Nat} {s : Shared}
  (hret : ∀ (D : Addr) (ta tb tc : Tok) (h' : Heap) (tk' : Nat), Grows s.heap h' → h'.get? D = some (tup3 R.1 R.2.1 R.2.2 ta tb tc) → Q (.ref D) { s with heap := h', toks := tk' })
  (hg : Grows s.heap h') (hD : h'.get? D = some (tup3 a b c ta tb tc)) (e : R = (a, b, c)) : Q (.ref D) { s with heap := h', toks := tk' } := by
  subst e
  exact hret D ta tb tc h' tk' hg hD

theorem hls_spec {w : World} {mg mb : Str → Option Value} {s : Shared} {Q E : Value → Shared → Prop} (x y z : UInt64) (t1 t2 t3 : Tok)
  (X : (Mine.hd.heap_1 w.params).In s.heap) (T : TopRead Mine.vw LS mg mb s.heap)
  (hret : ∀ (D : Addr) (ta tb tc : Tok) (h' : Heap) (tk' : Nat), Grows s.heap h' → h'.get? D = some (tup3 (hlsF x y z).1 (hlsF x y z).2.1 (hlsF x y z).2.2 ta tb tc) → Q (.ref D) { s with heap := h', toks := tk' }) :
  wpAny (model PP w) (AD 800) (call (.ref 189) [.float x t1, .float y t2, .float z t3]) Q E s := by
  have hfill := fill
  k_dflt walk_at "m_enter"
  k_steps
  all_goals (
    (try dsimp only); (try k_unfold); (try dsimp only)
    refine endT3 hret (Fr.keep (by assumption)) (News.get (by assumption) (.head _)) ?_
    unfold hlsF hls1 hls2 fHalf fOne fTwo fThird
    (repeat' split) <;> first | rfl | (exfalso; first | contradiction | exact absurd_bool (by assumption) (by assumption)))
end
end Mine

-- W2
namespace Mine
open PySem PySem.W PyProof.Rows PySem.Spec PySem.Calls
set_option maxRecDepth 100000
set_option maxHeartbeats 8000000
set_option pp.deepTerms false
set_option pp.deepTerms.threshold 8
set_option pp.fieldNotation false
noncomputable section
local macro_rules | `(tactic| walk_at "m_enter") => `(tactic| (refine' enterP ?X ?lim ?g ?gs ?M ?room ?ho ?hcd ?bind ?loc ?_ ?c1 ?c2 ?c3 ?c4; (case X => k_asm); (case lim => exact TopRead.nolimit (by k_asm)); (case g => exact Grows.refl _); (case gs => exact Nat.le_refl _); (case M => exact List.forall_mem_nil _); (case room => decide); (case ho => k_is); (case hcd => k_is); (case bind => exact BindsTo.of_eq rfl); (case loc => exact locs rfl); (case c1 => exact rfl); (case c2 => exact rfl); (case c3 => exact rfl); (case c4 => decide); k_whole; intro h' F' N'; (try dsimp only); (try k_fold)))
local macro_rules | `(tactic| walk_at "m_after") => `(tactic| (intro t' h' tk' kk; (with_reducible rename Fr _ _ _ _ => F0); (with_reducible rename News _ _ _ _ => N0); (have F' := Fr.keeps F0 kk); (have N' := News.grown N0 kk); clear F0 N0; (try dsimp only); (try k_fold)))
local macro_rules | `(tactic| walk_at "m_afterT") => `(tactic| (intro D' ta' tb' tc' h' tk' kk hD; (with_reducible rename Fr _ _ _ _ => F0); (with_reducible rename News _ _ _ _ => N0); (have F' := Fr.keeps F0 kk); (have N' := News.grown N0 kk); clear F0 N0; (try dsimp only); (try k_fold)))
local macro_rules | `(tactic| walk_at "call ref") => `(tactic| ((with_reducible show wpAny _ _ (call (Value.ref 189) _) _ _ _); refine wpAny_AD 800 rfl (Nat.le_of_ble_eq_true rfl) (Nat.le_of_ble_eq_true rfl) ?_; (refine' hls_spec _ _ _ _ _ _ ?X ?T ?_; (case X => k_in); (case T => exact TopRead.keeps (by k_asm) (Fr.keep (by k_asm))); walk_at "m_afterT")))


theorem over_le {n : Int} (h : n.natAbs ≤ 1000000) : ¬ Flt.Over n := fun ho => by
  have h1 : (1000000 : Nat) < 2 ^ 1024 - 2 ^ 970 := by decide +kernel
  exact absurd (Nat.le_trans ho h) (Nat.not_le.mpr h1)
theorem fmod_small (k : Int) {m : Int} (h0 : 0 < m) (h1 : m ≤ 100) : (Int.fmod k m + 1).natAbs ≤ 1000000 := by
  have h2 := Int.fmod_nonneg_of_pos k h0
  have h3 := Int.fmod_lt_of_pos k h0
  omega
def f48 : UInt64 := 4631952216750555136
def f16 : UInt64 := 4625196817309499392
def f4 : UInt64 := 4616189618054758400
/-- the law's colour -/
def colF (p k : Int) : UInt64 × UInt64 × UInt64 :=
  hlsF (Float64.div (Float64.ofInt p) f48) (Float64.div (Float64.ofInt (Int.fmod k 15 + 1)) f16) (Float64.div (Float64.ofInt (Int.fmod (Int.fdiv k 15) 4 + 1)) f4)

theorem col_spec {w : World} {mg mb : Str → Option Value} {s : Shared} {Q E : Value → Shared → Prop} (p k : Int) (t1 t2 : Tok) (hp0 : 0 ≤ p) (hp : p < 48)
  (X : (Mine.hd.heap_1 w.params).In s.heap) (T : TopRead Mine.vw LS mg mb s.heap)
  (hret : ∀ (D : Addr) (ta tb tc : Tok) (h' : Heap) (tk' : Nat), Grows s.heap h' → h'.get? D = some (tup3 (colF p k).1 (colF p k).2.1 (colF p k).2.2 ta tb tc) → Q (.ref D) { s with heap := h', toks := tk' }) :
  wpAny (model PP w) (AD 700) (call (.ref 210) [.int p t1, .int k t2]) Q E s := by
  k_dflt walk_at "m_enter"
  k_steps
  all_goals first
    | (exfalso; (rename Flt.Over _ => ho); exact over_le (fmod_small _ (by decide) (by decide)) ho)
    | ((try dsimp only); (try k_unfold); (try dsimp only)
       exact endT3 hret (Fr.keep (by assumption)) (by assumption) rfl)

section
variable {prog : Program} {w : World} {A : Around} {E : Value → Shared → Prop} {s : Shared}
def fl3 (a b c : UInt64) : Nat → UInt64
  | 0 => a | 1 => b | _ => c
theorem fl3_at {a b c : UInt64} {t u x : Tok} {i : Nat} {v : Value} (h : (#[Value.float a t, .float b u, .float c x] : Array Value)[i]? = some v) : ∃ y, v = .float (fl3 a b c i) y := by
  match i, h with
  | 0, h => exact ⟨t, (Option.some.inj h).symm⟩
  | 1, h => exact ⟨u, (Option.some.inj h).symm⟩
  | 2, h => exact ⟨x, (Option.some.inj h).symm⟩
  | i + 3, h => simp at h
def maxF (a b c : UInt64) : UInt64 := if (Float64.cmp b a == some .gt) = true then (if (Float64.cmp c b == some .gt) = true then c else b) else if (Float64.cmp c a == some .gt) = true then c else a
def minF (a b c : UInt64) : UInt64 := if (Float64.cmp b a == some .lt) = true then (if (Float64.cmp c b == some .lt) = true then c else b) else if (Float64.cmp c a == some .lt) = true then c else a
theorem best3 (a b c : UInt64) (o : Ordering) : fl3 a b c (argBest (fun i j => Float64.cmp (fl3 a b c i) (fl3 a b c j) == some o) 2) =
    if (Float64.cmp b a == some o) = true then (if (Float64.cmp c b == some o) = true then c else b) else if (Float64.cmp c a == some o) = true then c else a := by
  cases h1 : (Float64.cmp b a == some o) with
  | true => cases h2 : (Float64.cmp c b == some o) <;> simp [argBest, fl3, h1, h2]
  | false => cases h2 : (Float64.cmp c a == some o) <;> simp [argBest, fl3, h1, h2]
theorem max3F {a b c : UInt64} {t u x : Tok} {Q : Value → Shared → Prop} (hh : A.handled = none)
    (h : ∀ h' tk y, Grows s.heap h' → Q (.float (maxF a b c) y) { s with heap := h', toks := tk }) :
    wpAny (model prog w) A (call (.builtin "max") [.float a t, .float b u, .float c x]) Q E s := by
  have hT : (s.heap.push { cls := .type "tuple", data := .seq #[.float a t, .float b u, .float c x] }).IsTuple s.heap.objs.size #[.float a t, .float b u, .float c x] := ⟨_, Heap.get?_push_size _ rfl, rfl, 0, rfl⟩
  have hsz : (s.heap.push { cls := .type "tuple", data := .seq #[.float a t, .float b u, .float c x] }).objs.size = s.heap.objs.size + 1 := Heap.size_push ..
  refine call_max_three (wpAny_pyIter_tuple hT ?_)
  refine ⟨_, [_, s.heap.objs.size], [_], _, _, _, (fun i j => Float64.cmp (fl3 a b c i) (fl3 a b c j) == some .gt), rfl, Walks.tuple (A := A.in1) hh _ s.heap.objs.size (by rw [hsz]; exact Nat.ne_of_lt (Nat.lt_succ_self _)) _,
    ⟨⟨_, Heap.get?_push_size _ rfl, rfl, rfl⟩, hT.push _⟩, fun d hd => ?_, (Nat.succ_pos 2), (fun i j vi vj s' Q' E' hi hj hQ => ?_), fun v h' tk hP hk => ?_⟩
  · show d < ((s.heap.push _).push _).objs.size
    rw [Heap.size_push, hsz]
    rcases List.mem_cons.mp hd with rfl | hd
    · rw [hsz]; exact Nat.lt_succ_self _
    · rw [List.mem_singleton.mp hd]; exact Nat.lt_succ_of_lt (Nat.lt_succ_self _)
  · obtain ⟨y, rfl⟩ := fl3_at hi
    obtain ⟨z, rfl⟩ := fl3_at hj
    exact AutoFloatOps.gt_0 hQ
  · obtain ⟨y, rfl⟩ := fl3_at hP
    have e := best3 a b c .gt
    rw [show (#[Value.float a t, .float b u, .float c x] : Array Value).size - 1 = 2 from rfl, e]
    refine h h' tk y fun d o e => hk d o (fun hm => ?_) (Heap.get?_push_of_some _ (Heap.get?_push_of_some _ e))
    have h1 := Heap.lt_size e
    rw [List.mem_singleton.mp hm, hsz] at h1
    exact Nat.lt_irrefl _ (Nat.lt_of_succ_lt h1)
theorem min3F {a b c : UInt64} {t u x : Tok} {Q : Value → Shared → Prop} (hh : A.handled = none)
    (h : ∀ h' tk y, Grows s.heap h' → Q (.float (minF a b c) y) { s with heap := h', toks := tk }) :
    wpAny (model prog w) A (call (.builtin "min") [.float a t, .float b u, .float c x]) Q E s := by
  have hT : (s.heap.push { cls := .type "tuple", data := .seq #[.float a t, .float b u, .float c x] }).IsTuple s.heap.objs.size #[.float a t, .float b u, .float c x] := ⟨_, Heap.get?_push_size _ rfl, rfl, 0, rfl⟩
  have hsz : (s.heap.push { cls := .type "tuple", data := .seq #[.float a t, .float b u, .float c x] }).objs.size = s.heap.objs.size + 1 := Heap.size_push ..
  refine call_min_three (wpAny_pyIter_tuple hT ?_)
  refine ⟨_, [_, s.heap.objs.size], [_], _, _, _, (fun i j => Float64.cmp (fl3 a b c i) (fl3 a b c j) == some .lt), rfl, Walks.tuple (A := A.in1) hh _ s.heap.objs.size (by rw [hsz]; exact Nat.ne_of_lt (Nat.lt_succ_self _)) _,
    ⟨⟨_, Heap.get?_push_size _ rfl, rfl, rfl⟩, hT.push _⟩, fun d hd => ?_, (Nat.succ_pos 2), (fun i j vi vj s' Q' E' hi hj hQ => ?_), fun v h' tk hP hk => ?_⟩
  · show d < ((s.heap.push _).push _).objs.size
    rw [Heap.size_push, hsz]
    rcases List.mem_cons.mp hd with rfl | hd
    · rw [hsz]; exact Nat.lt_succ_self _
    · rw [List.mem_singleton.mp hd]; exact Nat.lt_succ_of_lt (Nat.lt_succ_self _)
  · obtain ⟨y, rfl⟩ := fl3_at hi
    obtain ⟨z, rfl⟩ := fl3_at hj
    exact AutoFloatOps.lt_0 hQ
  · obtain ⟨y, rfl⟩ := fl3_at hP
    have e := best3 a b c .lt
    rw [show (#[Value.float a t, .float b u, .float c x] : Array Value).size - 1 = 2 from rfl, e]
    refine h h' tk y fun d o e => hk d o (fun hm => ?_) (Heap.get?_push_of_some _ (Heap.get?_push_of_some _ e))
    have h1 := Heap.lt_size e
    rw [List.mem_singleton.mp hm, hsz] at h1
    exact Nat.lt_irrefl _ (Nat.lt_of_succ_lt h1)
end
local macro_rules | `(tactic| walk_at "m_after0") => `(tactic| (intro h' tk' t' kk; (with_reducible rename Fr _ _ _ _ => F0); (with_reducible rename News _ _ _ _ => N0); (have F' := Fr.keeps F0 kk); (have N' := News.grown N0 kk); clear F0 N0; (try dsimp only); (try k_fold)))
local macro_rules | `(tactic| walk_at "call builtin:max") => `(tactic| (refine max3F rfl ?_; walk_at "m_after0"))
local macro_rules | `(tactic| walk_at "call builtin:min") => `(tactic| (refine min3F rfl ?_; walk_at "m_after0"))


def fFour : UInt64 := 4616189618054758400
def rngF (r g b : UInt64) : UInt64 := Float64.sub (maxF r g b) (minF r g b)
def partF (r g b x : UInt64) : UInt64 := Float64.div (Float64.sub (maxF r g b) x) (rngF r g b)
def hueF (r g b : UInt64) : UInt64 :=
  (Float64.divmod (Float64.div (if (Float64.cmp r (maxF r g b) == some .eq) = true then Float64.sub (partF r g b b) (partF r g b g)
    else if (Float64.cmp g (maxF r g b) == some .eq) = true then Float64.sub (Float64.add fTwo (partF r g b r)) (partF r g b b)
    else Float64.sub (Float64.add fFour (partF r g b g)) (partF r g b r)) fSix) fOne).2
def hsvF (r g b : UInt64) : UInt64 × UInt64 × UInt64 :=
  if (Float64.cmp (minF r g b) (maxF r g b) == some .eq) = true then (0, 0, maxF r g b)
  else (hueF r g b, Float64.div (rngF r g b) (maxF r g b), maxF r g b)

theorem hsv_spec {w : World} {mg mb : Str → Option Value} {s : Shared} {Q E : Value → Shared → Prop} (x y z : UInt64) (t1 t2 t3 : Tok)
  (X : (Mine.hd.heap_1 w.params).In s.heap) (T : TopRead Mine.vw LS mg mb s.heap)
  (h1 : Float64.isZero (maxF x y z) = false) (h2 : Float64.isZero (rngF x y z) = false)
  (hret : ∀ (D : Addr) (ta tb tc : Tok) (h' : Heap) (tk' : Nat), Grows s.heap h' → h'.get? D = some (tup3 (hsvF x y z).1 (hsvF x y z).2.1 (hsvF x y z).2.2 ta tb tc) → Q (.ref D) { s with heap := h', toks := tk' }) :
  wpAny (model PP w) (AD 800) (call (.ref 203) [.float x t1, .float y t2, .float z t3]) Q E s := by
  unfold rngF at h2
  k_dflt walk_at "m_enter"
  k_steps
  all_goals first
    | (exact absurd_bool (by assumption) h1)
    | (exact absurd_bool (by assumption) h2)
    | ((try dsimp only); (try k_unfold); (try dsimp only)
       refine endT3 hret (Fr.keep (by assumption)) (News.get (by assumption) (.head _)) ?_
       unfold hsvF hueF partF rngF fFour fTwo fSix fOne
       (repeat' split) <;> first | rfl | (exfalso; first | contradiction | exact absurd_bool (by assumption) (by assumption)))

theorem tup3_at {h₀ h : Heap} {L : Addr} {m : Str → Option Value} {D : Addr} {a b c : UInt64} {ta tb tc : Tok} (F : Fr h₀ L h m) (hD : h₀.get? D = some (tup3 a b c ta tb tc)) :
    IsTup h D [.float a ta, .float b tb, .float c tc].toArray := ⟨_, F.keep _ _ hD, rfl, 0, rfl⟩
theorem tup3_here {h : Heap} {D : Addr} {a b c : UInt64} {ta tb tc : Tok} (hD : h.get? D = some (tup3 a b c ta tb tc)) :
    IsTup h D [.float a ta, .float b tb, .float c tc].toArray := ⟨_, hD, rfl, 0, rfl⟩
local macro_rules | `(tactic| walk_at "subscriptTail") => `(tactic| ((with_reducible show wpAny _ _ (subscriptTail _ _ (Value.ref _) (Value.int _ _)) _ _ _); (refine' item_tupleT ?t ?a ?b ?c ?d ?_; (case t => first | exact tup3_at (by assumption) (by assumption) | exact tup3_here (by assumption)); (case a => decide); (case b => decide); (case c => rfl); (case d => rfl); k_whole)))
local macro_rules | `(tactic| walk_at "call ref") => `(tactic| ((with_reducible show wpAny _ _ (call (Value.ref 203) _) _ _ _); refine wpAny_AD 800 rfl (Nat.le_of_ble_eq_true rfl) (Nat.le_of_ble_eq_true rfl) ?_; (refine' hsv_spec _ _ _ _ _ _ ?X ?T ?h1 ?h2 ?_; (case X => k_in); (case T => exact TopRead.keeps (by k_asm) (Fr.keep (by k_asm))); (case h1 => assumption); (case h2 => assumption); walk_at "m_afterT")))
local macro_rules | `(tactic| walk_at "call type:int") => `(tactic| ((with_reducible show wpAny _ _ (call _ [Value.float _ _]) _ _ _); refine call_int_float3 rfl (fun hb => ?_) (fun hb => ?_) (fun hb => ?_)))


def placeF (a b c : UInt64) : UInt64 := Float64.add (Float64.mul (hsvF a b c).1 f48) fHalf
/-- the place that is told of a colour -/
def placeI (a b c : UInt64) : Int := Flt.toInt Float64.truncOf (placeF a b c)
theorem endI {Q : Value → Shared → Prop} {R r : Int} {t : Tok} {h' : Heap} {tk' : Nat} {s : Shared} (hret : ∀ (t : Tok) (h' : Heap) (tk' : Nat), Grows s.heap h' → Q (.int R t) { s with heap := h', toks := tk' })
  (hg : Grows s.heap h') (e : R = r) : Q (.int r t) { s with heap := h', toks := tk' } := e ▸ hret t h' tk' hg
theorem fin_nan {x : UInt64} (h : Float64.isFinite x = true) (h' : Float64.isNaN x = true) : False := by
  rcases Flt.three x with ⟨hd, c⟩ | ⟨_, hd, c⟩ | ⟨sg, m, e, hd, c⟩
  · unfold Float64.isFinite at h; rw [hd] at h; cases h
  · unfold Float64.isFinite at h; rw [hd] at h; cases h
  · unfold Float64.isNaN at h'; rw [hd] at h'; cases h'
theorem fin_inf {x : UInt64} (h : Float64.isFinite x = true) (h' : Float64.isInf x = true) : False := by
  rcases Flt.three x with ⟨hd, c⟩ | ⟨_, hd, c⟩ | ⟨sg, m, e, hd, c⟩
  · unfold Float64.isFinite at h; rw [hd] at h; cases h
  · unfold Float64.isFinite at h; rw [hd] at h; cases h
  · unfold Float64.isInf at h'; rw [hd] at h'; cases h'

theorem place_spec {w : World} {mg mb : Str → Option Value} {s : Shared} {Q E : Value → Shared → Prop} (D : Addr) (a b c : UInt64) (ta tb tc : Tok)
  (X : (Mine.hd.heap_1 w.params).In s.heap) (T : TopRead Mine.vw LS mg mb s.heap) (hD : s.heap.get? D = some (tup3 a b c ta tb tc))
  (h1 : Float64.isZero (maxF a b c) = false) (h2 : Float64.isZero (rngF a b c) = false) (h3 : Float64.isFinite (placeF a b c) = true)
  (hret : ∀ (t : Tok) (h' : Heap) (tk' : Nat), Grows s.heap h' → Q (.int (placeI a b c) t) { s with heap := h', toks := tk' }) :
  wpAny (model PP w) (AD 700) (call (.ref 217) [.ref D]) Q E s := by
  unfold placeF f48 fHalf at h3
  k_dflt walk_at "m_enter"
  k_steps
  all_goals first
    | exact fin_nan h3 (by assumption)
    | exact fin_inf h3 (by assumption)
    | exact endI hret (Fr.keep (by assumption)) rfl
end
end Mine

-- Comp
namespace Mine
open PySem PySem.W PyProof.Rows PySem.Spec PySem.Calls
set_option maxRecDepth 100000
set_option maxHeartbeats 8000000
noncomputable section

/-- a place where the walk is to stop -/
def Stop (P : Prop) : Prop := P
theorem Stop.intro {P : Prop} (h : P) : Stop P := h

/-- an item of a list and the new object made of it -/
def Made (G : Value → Obj → Prop) (h : Heap) (v y : Value) : Prop := ∃ a o, y = .ref a ∧ h.get? a = some o ∧ G v o
theorem paired_mono {α β : Type} {F F' : α → β → Prop} (k : ∀ a b, F a b → F' a b) : ∀ {l : List α} {r : List β}, Paired F l r → Paired F' l r
  | _, _, .nil => .nil
  | _, _, .cons x t => .cons (k _ _ x) (paired_mono k t)

section
variable {prog : Program} {w : World} {A : Around} {E : Value → Shared → Prop} {env : Env}

/-- the loop of a comprehension over a list whose elements are new objects -/
theorem compLoopO {R : Result → Shared → Prop} {s : Shared} {elt iter : Expr} {x : Str} {px : Pos} {scope : Scope} {pos : Pos} {I ax D : Addr} {cenv : Env} {items : Array Value} {m : Str → Option Value} (G : Value → Obj → Prop)
    (hh : A.handled = none) (hx : cenv.kindOf x = some .local) (hp : (cenv.scope.kind == .class || (cenv.scope.kind == .module && cenv.locals != cenv.globals)) = false)
    (hDI : D ≠ I) (hDC : D ≠ cenv.locals) (hIC : I ≠ cenv.locals) (haI : ax ≠ I) (haC : ax ≠ cenv.locals) (haD : ax ≠ D)
    (hit : s.heap.IsListIter I ax 0) (hl : s.heap.IsList ax items) (hacc : s.heap.PlainList D #[]) (hn : s.heap.Ns cenv.locals m)
    (helt : ∀ v s₂ m₂ E', v ∈ items → s₂.heap.Ns cenv.locals m₂ → m₂ x = some v → (∀ b o, b ≠ cenv.locals → b ≠ I → b ≠ D → s.heap.get? b = some o → s₂.heap.get? b = some o) →
      wpAny (model prog w) A (eval elt cenv) (fun y s₃ => (∃ a o, y = .ref a ∧ s₂.heap.get? a = none ∧ s₃.heap.get? a = some o ∧ G v o) ∧ Keeps s₂ s₃) E' s₂)
    (hR : ∀ h' tk m' ys, h'.Ns cenv.locals m' → h'.PlainList D ys → Paired (Made G h') items.toList ys.toList →
      (∀ v ∈ ys.toList, ∀ a, v = .ref a → a ≠ cenv.locals ∧ s.heap.get? a = none) →
      (∀ b o, b ≠ cenv.locals → b ≠ I → b ≠ D → s.heap.get? b = some o → h'.get? b = some o) → R (.ok .next) { s with heap := h', toks := tk })
    (hsz : items.size ≤ sizeLine) :
    codeAny (model prog w) A (.compLoop (.ListComp elt [⟨.Name x px, iter, [], 0⟩] scope pos) 0 (.ref I) (.ref D) cenv) R s := by
  let Off : Value → Value → Prop := fun _ y => ∀ a, y = .ref a → a ≠ cenv.locals ∧ a ≠ I ∧ a ≠ D ∧ s.heap.get? a = none
  refine codeAny_compLoop_tests
    (fun k s' => ∃ h' tk m' ys i, s' = { s with heap := h', toks := tk } ∧ h'.IsListIter I ax i ∧ h'.IsList ax items ∧ h'.PlainList D ys ∧ h'.Ns cenv.locals m' ∧
      Paired (fun v y => Made G h' v y ∧ Off v y) (items.toList.take i) ys.toList ∧ i ≤ items.size ∧ k = items.size + 1 - i ∧
      ∀ b o, b ≠ cenv.locals → b ≠ I → b ≠ D → s.heap.get? b = some o → h'.get? b = some o) ?_ (items.size + 1)
    ⟨s.heap, s.toks, m, #[], 0, rfl, hit, hl, hacc, hn, by simpa using Paired.nil, Nat.zero_le _, rfl, fun _ _ _ _ _ e => e⟩
  rintro k s' ⟨H, tk, m', ys, i, rfl, hit', hl', hacc', hn', hF, hi, rfl, hk⟩
  have step : ∀ {h₂ h₃ : Heap}, (∀ b o, b ≠ cenv.locals → b ≠ I → b ≠ D → h₂.get? b = some o → h₃.get? b = some o) → ∀ {l : List Value} {r : List Value}, Paired (fun v y => Made G h₂ v y ∧ Off v y) l r → Paired (fun v y => Made G h₃ v y ∧ Off v y) l r :=
    fun k => paired_mono fun v y ⟨⟨a, o, e, ha, hg⟩, off⟩ => ⟨⟨a, o, e, k a o (off a e).1 (off a e).2.1 (off a e).2.2.1 ha, hg⟩, off⟩
  cases hv : items[i]? with
  | none =>
    have hsz' : items.toList.length ≤ i := by simpa using hv
    refine wpAny_pyNext_list_end hh hit' hl' hv fun h₁ he₁ => ?_
    have F1 := step (fun b o _ hbI _ e => he₁ b o hbI e) hF
    rw [List.take_of_length_le hsz'] at F1
    refine hR h₁ tk m' ys (hn'.extBut he₁ (Ne.symm hIC)) (hacc'.extBut he₁ hDI) (paired_mono (fun _ _ q => q.1) F1) (fun v hv' a e => ?_) fun b o hbC hbI hbD e => he₁ b o hbI (hk b o hbC hbI hbD e)
    have : ∀ {l r : List Value}, Paired (fun v y => Made G h₁ v y ∧ Off v y) l r → ∀ v ∈ r, ∀ a, v = .ref a → a ≠ cenv.locals ∧ s.heap.get? a = none := by
      intro l r p
      induction p with
      | nil => intro v hv; cases hv
      | cons q _ ih =>
        intro v hv a e
        rcases List.mem_cons.mp hv with rfl | hv
        · exact ⟨(q.2 a e).1, (q.2 a e).2.2.2⟩
        · exact ih v hv a e
    exact this F1 v hv' a e
  | some v =>
    have hlt : i < items.size := (Array.getElem?_eq_some_iff.mp hv).1
    have hmem : v ∈ items := Array.mem_of_getElem? hv
    have hvl : items.toList[i]? = some v := by simpa using hv
    refine wpAny_pyNext_list_item hit' hl' hv fun h₁ hit₁ hs₁ => ?_
    refine wpAny_assign_Name (wpAny_storeName_local hx (hn'.sameBut hs₁ (Ne.symm hIC)) (fun h₂ hn₂ hs₂ => ?_) hp)
    refine wpAny_tests_nil ?_
    simp only [if_true]
    have up₂ : ∀ b o, b ≠ cenv.locals → b ≠ I → H.get? b = some o → h₂.get? b = some o := fun b o hbC hbI e => hs₂.extBut b o hbC (hs₁.extBut b o hbI e)
    refine wpAny_mono (helt v _ _ _ hmem hn₂ (by simp) fun b o hbC hbI hbD e => up₂ b o hbC hbI (hk b o hbC hbI hbD e)) (fun y s₄ h₄ => ?_) fun _ _ e => e
    obtain ⟨⟨a, oa, rfl, hfr, hat, hg⟩, h₄, tk₄, rfl, hk₄⟩ := h₄
    have hfr : h₂.get? a = none := hfr
    have hit₂ : h₂.IsListIter I ax (i + 1) := hit₁.extBut hs₂.extBut hIC
    have hacc₂ : h₂.PlainList D ys := hacc'.at fun o e => up₂ D o hDC hDI e
    have aC : a ≠ cenv.locals := fun e => by obtain ⟨o, _, _, ho, _⟩ := hn₂; rw [← e, hfr] at ho; cases ho
    have aI : a ≠ I := fun e => by obtain ⟨o, ho, _⟩ := hit₂; rw [← e, hfr] at ho; cases ho
    have aD : a ≠ D := fun e => by obtain ⟨n, ho⟩ := hacc₂; rw [← e, hfr] at ho; cases ho
    have aN : s.heap.get? a = none := by
      cases e : s.heap.get? a with
      | none => rfl
      | some o => rw [up₂ a o aC aI (hk a o aC aI aD e)] at hfr; cases hfr
    have hys : ys.size ≤ sizeLine := by
      have e1 := hF.length
      have e3 : (items.toList.take i).length ≤ items.size := by rw [List.length_take]; simp; omega
      have e4 : ys.toList.length = ys.size := by simp
      omega
    refine wpAny_list_append_plain (hsz := hys) (hacc₂.at fun o e => hk₄ _ o e) fun h₅ hl₅ hs₅ => ?_
    have up₅ : ∀ b o, b ≠ cenv.locals → b ≠ I → b ≠ D → H.get? b = some o → h₅.get? b = some o := fun b o hbC hbI hbD e => hs₅.extBut b o hbD (hk₄ b o (up₂ b o hbC hbI e))
    refine ⟨items.size + 1 - (i + 1), by omega, h₅, tk₄, _, ys.push (.ref a), i + 1, rfl, (hit₂.at fun o e => hk₄ _ o e).extBut hs₅.extBut (Ne.symm hDI), (hl'.at fun o e => up₅ ax o haC haI haD e), hl₅,
      (hn₂.keeps hk₄).sameBut hs₅ (Ne.symm hDC), ?_, hlt, rfl, fun b o hbC hbI hbD e => up₅ b o hbC hbI hbD (hk b o hbC hbI hbD e)⟩
    have e2 : items.toList.take (i + 1) = items.toList.take i ++ [v] := by rw [List.take_add_one, hvl]; rfl
    rw [e2]
    simpa using Paired.snoc (step up₅ hF) ⟨⟨a, oa, rfl, hs₅.extBut a oa aD hat, hg⟩, fun b e => by cases e; exact ⟨aC, aI, aD, aN⟩⟩

/-- a name bound to a comprehension over a list whose elements are new objects -/
theorem Assign_compO {s : Shared} {elt iter : Expr} {x y : Str} {px py : Pos} {scope : Scope} {pos spos : Pos} {Q : Flow → Shared → Prop} (G : Value → Obj → Prop)
    (hsw : swapsWith (.ListComp elt [⟨.Name x px, iter, [], 0⟩] scope pos) (some (.Name y py)) spos.line env = pure true)
    (hh : A.handled = none) (hfree : ∀ z ∈ scope.names, z.2 ≠ .free) (hcell : ∀ z ∈ scope.names, z.2 ≠ .cell) (hkind : scope.kind = .function)
    (hnames : ∀ z ∈ scope.names, z.2 = .local → scope.names.lookup z.1 = some .local) (hx : scope.names.lookup x = some .local)
    (hy : env.kindOf y = some .local) (hp : (env.scope.kind == .class || (env.scope.kind == .module && env.locals != env.globals)) = false)
    (h : wpAny (model prog w) A (eval iter env) (fun xv s₁ => Stop (∃ ax items m, xv = .ref ax ∧ s₁.heap.IsList ax items ∧ items.size ≤ sizeLine ∧ s₁.heap.Ns env.locals m ∧
      (∀ C v s₂ m₂ E', v ∈ items → s₂.heap.Ns C m₂ → m₂ x = some v → Grows s₁.heap s₂.heap →
        wpAny (model prog w) A (eval elt (compEnv scope C env)) (fun y s₃ => Stop ((∃ a o, y = .ref a ∧ s₂.heap.get? a = none ∧ s₃.heap.get? a = some o ∧ G v o) ∧ Keeps s₂ s₃)) E' s₂) ∧
      (∀ D h' tk ys, s₁.heap.get? D = none → h'.PlainList D ys → Paired (Made G h') items.toList ys.toList → h'.Ns env.locals (fun z => if z = y then some (.ref D) else m z) →
        (∀ b o, b ≠ env.locals → s₁.heap.get? b = some o → h'.get? b = some o) → Q .next { s₁ with heap := h', toks := tk }))) E s)
    (hs : ∀ x, foldedSetIterable iter env x = pure x := by intro _; rfl) :
    wpAny (model prog w) A (exec (.Assign [.Name y py] (.ListComp elt [⟨.Name x px, iter, [], 0⟩] scope pos) spos) env) Q E s := by
  rw [exec_Assign_Name_used _ _ _ _ hsw]
  refine wpAny_bind (wpAny_standAt (wpAny_bind ?_))
  show wpAny _ A (do let _ ← comprehension (.ListComp elt [⟨.Name x px, iter, [], 0⟩] scope pos) scope env _ (newList []) false (eval iter env) (some (assign (.Name y py) env))) _ _ s
  refine wpAny_bind (wpAny_mono (wpAny_comprehension_use (Q := fun _ s' => Q .next s') rfl hs hfree hkind hnames (wpAny_mono h (fun xv s₁ h₁ => ?_) fun _ _ e => e))
    (fun _ s' hq => wpAny_pure (wpAny_pure hq)) fun _ _ e => e)
  obtain ⟨ax, items, m, rfl, hl, hsz, hn, helt, hQ⟩ := h₁
  refine wpAny_pyIter_list hl (wpAny_newObj_type (hd := by size_fits) (wpAny_newFunctionEnv hcell (by intro y hy; simp at hy) (fun h₁ hns₁ hsb₁ => ?_) hkind))
  dsimp only at hns₁ hsb₁ ⊢
  obtain ⟨ol, hol, hol'⟩ := id hl
  have hax : ax < s₁.heap.objs.size := Heap.lt_size hol
  generalize hH1 : s₁.heap.push { cls := .type "list_iterator", data := .fields #[.ref ax, .int 0 0] } = H1 at hns₁ hsb₁ ⊢
  have hD : H1.objs.size = s₁.heap.objs.size + 1 := by rw [← hH1, Heap.size_push]
  generalize hH2 : H1.push { cls := .type "list", dict := none, data := .seq ([] : List Value).toArray } = H2 at hns₁ hsb₁ ⊢
  have hC : H2.objs.size = s₁.heap.objs.size + 2 := by rw [← hH2, Heap.size_push, hD]
  have below : ∀ b, b < s₁.heap.objs.size → b ≠ H2.objs.size ∧ b ≠ s₁.heap.objs.size ∧ b ≠ H1.objs.size := fun b hb => ⟨by omega, by omega, by omega⟩
  have old : ∀ b o, s₁.heap.get? b = some o → h₁.get? b = some o := fun b o e =>
    hsb₁.extBut b o (below b (Heap.lt_size e)).1 (Heap.get?_push_of_some _ (hH2 ▸ Heap.get?_push_of_some _ (hH1 ▸ Heap.get?_push_of_some _ e)))
  have hit : h₁.IsListIter s₁.heap.objs.size ax 0 :=
    ⟨_, hsb₁.extBut _ _ (neN (a := s₁.heap.objs.size) (b := H2.objs.size) (by omega)) (Heap.get?_push_of_some _ (hH2 ▸ Heap.get?_push_of_some _ (hH1 ▸ Heap.get?_push_size _ rfl))), rfl, rfl⟩
  have hacc : h₁.PlainList H1.objs.size #[] := ⟨_, hsb₁.extBut _ _ (neN (a := H1.objs.size) (b := H2.objs.size) (by omega)) (Heap.get?_push_of_some _ (hH2 ▸ Heap.get?_push_size _ rfl))⟩
  have hl₁ : h₁.IsList ax items := ⟨ol, old _ _ hol, hol'⟩
  have fresh : ∀ a, s₁.heap.objs.size ≤ a → s₁.heap.get? a = none := fun a ha => by
    cases e : s₁.heap.get? a with
    | none => rfl
    | some o' => exact absurd (Heap.lt_size e) (Nat.not_lt.mpr ha)
  obtain ⟨oL, _, _, hoL, _⟩ := id hn
  have hLlt := ltN (Heap.lt_size hoL)
  have loop : ∀ s₂ : Shared, s₂ = { s₁ with heap := h₁, toks := s₁.toks + ([] : List (Str × Value)).length } →
      codeAny (model prog w) A (.compLoop (.ListComp elt [⟨.Name x px, iter, [], 0⟩] scope pos) 0 (.ref s₁.heap.objs.size) (.ref H1.objs.size) (compEnv scope H2.objs.size env))
        (fun r s' => match r with
          | .ok _ => wpAny (model prog w) A (assign (.Name y py) env (.ref H1.objs.size)) (fun _ s'' => ∃ m, s''.heap.Ns H2.objs.size m ∧ ∀ h', Heap.SameBut H2.objs.size s''.heap h' → Q .next { s'' with heap := h' }) E s'
          | .error x => ∃ m, s'.heap.Ns H2.objs.size m ∧ ∀ h', Heap.SameBut H2.objs.size s'.heap h' → wpAny (model prog w) A (passOn "comprehension.variables-let-go" x (compEnv scope H2.objs.size env) : Sem Value) (fun _ s' => Q .next s') E { s' with heap := h' }) s₂ := by
    rintro s₂ rfl
    refine compLoopO (hsz := hsz) (cenv := compEnv scope H2.objs.size env) G hh hx (by simp [compEnv, hkind]) (neN (a := H1.objs.size) (b := s₁.heap.objs.size) (by omega)) (neN (a := H1.objs.size) (b := H2.objs.size) (by omega)) (neN (a := s₁.heap.objs.size) (b := H2.objs.size) (by omega)) (below ax hax).2.1 (below ax hax).1 (below ax hax).2.2 hit hl₁ hacc hns₁
      (fun v s₂ m₂ E' hv hn' hm hk => helt _ v s₂ m₂ E' hv hn' hm fun b o e => hk b o (below b (Heap.lt_size e)).1 (below b (Heap.lt_size e)).2.1 (below b (Heap.lt_size e)).2.2 (old b o e)) fun h' tk m' ys hnC hlD hF hoff hk => ?_
    have kp : ∀ b o, s₁.heap.get? b = some o → h'.get? b = some o := fun b o e => hk b o (below b (Heap.lt_size e)).1 (below b (Heap.lt_size e)).2.1 (below b (Heap.lt_size e)).2.2 (old b o e)
    refine wpAny_assign_Name (wpAny_storeName_local hy (hn.keeps kp) (fun h₂ hn₂ hs₂ => ?_) hp)
    refine ⟨m', hnC.sameBut hs₂ (neN (a := H2.objs.size) (b := env.locals) (by omega)), fun h₃ hs₃ => ?_⟩
    have C3 : ∀ b o, b ≠ env.locals → b ≠ H2.objs.size → h'.get? b = some o → h₃.get? b = some o := fun b o h1 h2 e => hs₃.extBut b o h2 (hs₂.extBut b o h1 e)
    refine hQ H1.objs.size h₃ _ ys (fresh _ (by omega)) (hlD.at fun o e => C3 H1.objs.size o (neN (b := env.locals) (by omega)) (neN (by omega)) e) ?_ (hn₂.sameBut hs₃ (neN (a := env.locals) (b := H2.objs.size) (by omega))) fun b o hbL e => C3 b o hbL (below b (Heap.lt_size e)).1 (kp b o e)
    -- the new objects stand at addresses that are neither the frame's nor the block's
    have : ∀ {l r : List Value}, Paired (Made G h') l r → (∀ v ∈ r, ∀ a, v = .ref a → a ≠ (compEnv scope H2.objs.size env).locals ∧ h₁.get? a = none) → Paired (Made G h₃) l r := by
      intro l r p
      induction p with
      | nil => intro _; exact .nil
      | cons q _ ih =>
        intro off
        refine .cons ?_ (ih fun v hv => off v (List.mem_cons_of_mem _ hv))
        obtain ⟨a, o, rfl, ha, hg⟩ := q
        have a1 : a ≠ H2.objs.size := (off _ (.head _) a rfl).1
        have a2 : a ≠ env.locals := fun e => by
          have z := (off _ (.head _) a rfl).2
          rw [e, old _ _ hoL] at z; cases z
        exact ⟨a, o, rfl, C3 a o a2 a1 ha, hg⟩
    exact this hF hoff
  exact codeAny_compStart_list (loop _ rfl) (wpAny_pyIter_listiter hit (loop _ rfl))

/-- what an iterator over a value yields: n items, the i-th of them P i -/
def IterOf (prog : Program) (w : World) (A : Around) (xv : Value) (n : Nat) (P : Nat → Value → Prop) (s₁ : Shared) : Prop :=
  ∀ (Q : Value → Shared → Prop) (E : Value → Shared → Prop), (∀ I fp wr St h₂, Walks prog w A I fp wr n P St → St 0 h₂ → (∀ b ∈ fp, b < h₂.objs.size) → Grows s₁.heap h₂ → (∀ b ∈ wr, s₁.heap.get? b = none) →
    Q (.ref I) { s₁ with heap := h₂ }) → wpAny (model prog w) A (pyIter xv) Q E s₁

theorem get_size_none (h : Heap) : h.get? h.objs.size = none := by
  cases e : h.get? h.objs.size with
  | none => rfl
  | some o => exact absurd (Heap.lt_size e) (Nat.lt_irrefl _)
theorem iter_list {s₁ : Shared} {l : Addr} {items : Array Value} (hh : A.handled = none) (hl : s₁.heap.IsList l items) : IterOf prog w A (.ref l) items.size (fun i v => items[i]? = some v) s₁ := by
  intro Q E hQ
  obtain ⟨ol, hol, _⟩ := id hl
  have hlt := Heap.lt_size hol
  refine wpAny_pyIter_list hl (hQ _ [s₁.heap.objs.size, l] [s₁.heap.objs.size] _ _ (Walks.list hh s₁.heap.objs.size l (Nat.ne_of_lt hlt) items) ⟨⟨_, Heap.get?_push_size _ rfl, rfl, rfl⟩, hl.push _⟩ ?_ (fun _ _ e => Heap.get?_push_of_some _ e) ?_)
  · intro b hb
    rw [Heap.size_push]
    rcases List.mem_cons.mp hb with rfl | hb
    · exact Nat.lt_succ_self _
    · rw [List.mem_singleton.mp hb]; exact Nat.lt_succ_of_lt hlt
  · intro b hb
    rw [List.mem_singleton.mp hb]; exact get_size_none _
theorem iter_tuple {s₁ : Shared} {l : Addr} {items : Array Value} (hh : A.handled = none) (hl : s₁.heap.IsTuple l items) : IterOf prog w A (.ref l) items.size (fun i v => items[i]? = some v) s₁ := by
  intro Q E hQ
  obtain ⟨ol, hol, _⟩ := id hl
  have hlt := Heap.lt_size hol
  refine wpAny_pyIter_tuple hl (hQ _ [s₁.heap.objs.size, l] [s₁.heap.objs.size] _ _ (Walks.tuple hh s₁.heap.objs.size l (Nat.ne_of_lt hlt) items) ⟨⟨_, Heap.get?_push_size _ rfl, rfl, rfl⟩, hl.push _⟩ ?_ (fun _ _ e => Heap.get?_push_of_some _ e) ?_)
  · intro b hb
    rw [Heap.size_push]
    rcases List.mem_cons.mp hb with rfl | hb
    · exact Nat.lt_succ_self _
    · rw [List.mem_singleton.mp hb]; exact Nat.lt_succ_of_lt hlt
  · intro b hb
    rw [List.mem_singleton.mp hb]; exact get_size_none _
theorem iter_range {s₁ : Shared} {r : Addr} {a b c : Int} {t u v : Tok} {n : Nat} (hh : A.handled = none) (hr : IsRange s₁.heap r a b c t u v) (hsmall : Builtin.Range.small a b c = true) (hn : Builtin.Range.rangeSize a b c = (n : Int)) :
    IterOf prog w A (.ref r) n (fun i y => ∃ t, y = .int (a + i * c) t) s₁ := by
  intro Q E hQ
  have W := Walks.range (prog := prog) (w := w) hh s₁.heap.objs.size a c n
  refine wpAny_pyIter_range hr hsmall (hQ _ [s₁.heap.objs.size] [s₁.heap.objs.size] _ _ W ?_ ?_ (fun _ _ e => Heap.get?_push_of_some _ e) ?_)
  · have := Heap.get?_push_size s₁.heap (o := { cls := .type "range_iterator", data := .fields #[rawInt a, rawInt (Builtin.Range.rangeSize a b c), rawInt c] }) rfl
    rw [hn] at this ⊢
    unfold IsRangeIter
    simpa using this
  · intro b hb
    rw [Heap.size_push]
    rw [List.mem_singleton.mp hb]; exact Nat.lt_succ_self _
  · intro b hb
    rw [List.mem_singleton.mp hb]; exact get_size_none _

theorem filter_tt {α : Type} (l : List α) : l.filter (fun _ => true) = l := by simp
theorem paired_at {F : Value → Value → Prop} : ∀ {l r : List Value}, Paired F l r → ∀ (j : Nat) (y : Value), r[j]? = some y → ∃ v, l[j]? = some v ∧ F v y
  | _, _, .nil, j, y, e => by simp at e
  | _, _, .cons h _, 0, y, e => by simp at e; subst e; exact ⟨_, rfl, h⟩
  | _, _, .cons _ t, j + 1, y, e => by
    obtain ⟨v, h1, h2⟩ := paired_at t j y (by simpa using e)
    exact ⟨v, by simpa using h1, h2⟩

theorem compV {s : Shared} {elt iter : Expr} {x : Str} {px : Pos} {scope : Scope} {cl : List (Str × Addr)} {pos : Pos} {Q : Value → Shared → Prop} (F : Value → Value → Prop)
    (hclos : closureFor scope env = pure cl) (hcell : ∀ y ∈ scope.names, y.2 ≠ .cell) (hkind : scope.kind = .function)
    (hnames : ∀ y ∈ scope.names, y.2 = .local → scope.names.lookup y.1 = some .local) (hx : scope.names.lookup x = some .local)
    (h : wpAny (model prog w) A (eval iter env) (fun xv s₁ => Stop (∃ n P, n ≤ sizeLine ∧ IterOf prog w A xv n P s₁ ∧
      (∀ C i v s₂ m₂ E', P i v → s₂.heap.Ns C m₂ → m₂ x = some v → Grows s₁.heap s₂.heap → wpAny (model prog w) A (eval elt (compEnvC scope cl C env)) (fun y s₃ => Stop (F v y ∧ Keeps s₂ s₃)) E' s₂) ∧
      (∀ D h' tk ys, s₁.heap.get? D = none → h'.PlainList D ys → ys.size = n → (∀ j y, ys[j]? = some y → ∃ v, P j v ∧ F v y) → Grows s₁.heap h' → Q (.ref D) { s₁ with heap := h', toks := tk }))) E s)
    (hs : ∀ x, foldedSetIterable iter env x = pure x := by intro _; rfl) :
    wpAny (model prog w) A (eval (.ListComp elt [⟨.Name x px, iter, [], 0⟩] scope pos) env) Q E s := by
  refine wpAny_ListComp_free (fun _ => true) F hclos hcell hkind hnames hx (wpAny_mono h (fun xv s₁ h₁ => ?_) fun _ _ e => e) hs
  obtain ⟨n, P, hsz, hit, helt, hQ⟩ := h₁
  refine hit _ _ fun I fp wr St h₂ W hst hfp hg hwr => ⟨I, fp, wr, n, P, St, rfl, W, hsz, hst, hfp, ⟨?_, ?_⟩, ?_⟩
  · intro C i v s₃ m₃ E' _ _ _ _ _ _
    exact wpAny_pure ⟨rfl, _, _, rfl, fun _ _ e => e⟩
  · intro C i v s₃ m₃ E' _ hv _ hn hm hk _
    exact helt C i v s₃ m₃ E' hv hn hm fun b o e => hk b o (fun hb => by rw [hwr b hb] at e; cases e) (hg b o e)
  · intro D h' tk ys vs hD _ hpl hlen hP hF hk
    rw [filter_tt] at hF
    refine hQ D h' tk ys (by cases e : s₁.heap.get? D with | none => rfl | some o => rw [hg _ _ e] at hD; cases hD) hpl ?_ ?_ fun b o e => hk b o (fun hb => by rw [hwr b hb] at e; cases e) (hg b o e)
    · rw [← hlen, hF.length, Array.length_toList]
    · intro j y e
      obtain ⟨v, h1, h2⟩ := paired_at hF j y (by simpa using e)
      exact ⟨v, hP j v h1, h2⟩

theorem Assign_compV {s : Shared} {elt iter : Expr} {x y : Str} {px py : Pos} {scope : Scope} {cl : List (Str × Addr)} {pos spos : Pos} {Q : Flow → Shared → Prop} (F : Value → Value → Prop)
    (hsw : swapsWith (.ListComp elt [⟨.Name x px, iter, [], 0⟩] scope pos) (some (.Name y py)) spos.line env = pure true)
    (hclos : closureFor scope env = pure cl) (hcell : ∀ z ∈ scope.names, z.2 ≠ .cell) (hkind : scope.kind = .function)
    (hnames : ∀ z ∈ scope.names, z.2 = .local → scope.names.lookup z.1 = some .local) (hx : scope.names.lookup x = some .local)
    (hy : env.kindOf y = some .local) (hp : (env.scope.kind == .class || (env.scope.kind == .module && env.locals != env.globals)) = false)
    (h : wpAny (model prog w) A (eval iter env) (fun xv s₁ => Stop (∃ n P m, n ≤ sizeLine ∧ IterOf prog w A xv n P s₁ ∧ s₁.heap.Ns env.locals m ∧
      (∀ C i v s₂ m₂ E', P i v → s₂.heap.Ns C m₂ → m₂ x = some v → Grows s₁.heap s₂.heap → wpAny (model prog w) A (eval elt (compEnvC scope cl C env)) (fun y s₃ => Stop (F v y ∧ Keeps s₂ s₃)) E' s₂) ∧
      (∀ D h' tk ys, s₁.heap.get? D = none → h'.PlainList D ys → ys.size = n → (∀ j y, ys[j]? = some y → ∃ v, P j v ∧ F v y) → h'.Ns env.locals (fun z => if z = y then some (.ref D) else m z) →
        (∀ b o, b ≠ env.locals → s₁.heap.get? b = some o → h'.get? b = some o) → Q .next { s₁ with heap := h', toks := tk }))) E s)
    (hs : ∀ x, foldedSetIterable iter env x = pure x := by intro _; rfl) :
    wpAny (model prog w) A (exec (.Assign [.Name y py] (.ListComp elt [⟨.Name x px, iter, [], 0⟩] scope pos) spos) env) Q E s := by
  refine wpAny_Assign_ListComp_free (fun _ => true) F hsw hclos hcell hkind hnames hx hy hp (wpAny_mono h (fun xv s₁ h₁ => ?_) fun _ _ e => e) hs
  obtain ⟨n, P, m, hsz, hit, hn, helt, hQ⟩ := h₁
  refine hit _ _ fun I fp wr St h₂ W hst hfp hg hwr => ⟨I, fp, wr, n, P, St, m, rfl, W, hsz, hst, hfp, ?_, hn.keeps hg, ⟨?_, ?_⟩, ?_⟩
  · intro hb
    obtain ⟨o, _, _, ho, _⟩ := hn
    rw [hwr _ hb] at ho; cases ho
  · intro C i v s₃ m₃ E' _ _ _ _ _ _
    exact wpAny_pure ⟨rfl, _, _, rfl, fun _ _ e => e⟩
  · intro C i v s₃ m₃ E' _ hv _ hn hm hk _
    exact helt C i v s₃ m₃ E' hv hn hm fun b o e => hk b o (fun hb => by rw [hwr b hb] at e; cases e) (hg b o e)
  · intro D h' tk ys vs hD _ hpl hlen hP hF hn' hk
    rw [filter_tt] at hF
    refine hQ D h' tk ys (by cases e : s₁.heap.get? D with | none => rfl | some o => rw [hg _ _ e] at hD; cases hD) hpl ?_ ?_ hn' fun b o hb e => hk b o hb (fun hb => by rw [hwr b hb] at e; cases e) (hg b o e)
    · rw [← hlen, hF.length, Array.length_toList]
    · intro j y e
      obtain ⟨v, h1, h2⟩ := paired_at hF j y (by simpa using e)
      exact ⟨v, hP j v h1, h2⟩
end
end
end Mine

-- W3
namespace Mine
open PySem PySem.W PyProof.Rows PySem.Spec PySem.Calls
set_option maxRecDepth 100000
set_option maxHeartbeats 8000000
set_option pp.deepTerms false
set_option pp.deepTerms.threshold 8
set_option pp.fieldNotation false
noncomputable section
local macro_rules | `(tactic| walk_at "m_enter") => `(tactic| (refine' enterP ?X ?lim ?g ?gs ?M ?room ?ho ?hcd ?bind ?loc ?_ ?c1 ?c2 ?c3 ?c4; (case X => k_asm); (case lim => exact TopRead.nolimit (by k_asm)); (case g => exact Grows.refl _); (case gs => exact Nat.le_refl _); (case M => exact List.forall_mem_nil _); (case room => decide); (case ho => k_is); (case hcd => k_is); (case bind => exact BindsTo.of_eq rfl); (case loc => exact locs rfl); (case c1 => exact rfl); (case c2 => exact rfl); (case c3 => exact rfl); (case c4 => decide); k_whole; intro h' F' N'; (try dsimp only); (try k_fold)))

/-! names within a comprehension's block -/
section
variable {M : Model} {A : Around} {E : Value → Shared → Prop} {s : Shared} {env : Env} {x : Str} {pos : Pos} {v : Value} {Q : Value → Shared → Prop} {m mg mb : Str → Option Value} {C : Addr} {K : Frag} {p : Program} {loose : List Str}
theorem nm_L (hk : env.scope.kind = .function) (hl : env.kindOf x = some .local) (hC : env.locals = C) (hn : s.heap.Ns C m) (hv : m x = some v) (h : Q v s) (hd : (x == ("__debug__" : Str)) = false := by decide) :
    wpAny M A (eval (.Name x pos) env) Q E s := wpAny_Name (wpAny_loadName_local hk hl (hC ▸ hn) hv h) hd
theorem nm_G (hk : env.scope.kind = .function) (hx : env.kindOf x = some .globalImplicit) (hg : env.globals = mainGlobals) (X : K.In s.heap) (T : TopRead p loose mg mb s.heap) (e : nsIn K mainGlobals x = some (some v)) (h : Q v s)
    (hd : (x == ("__debug__" : Str)) = false := by decide) : wpAny M A (eval (.Name x pos) env) Q E s :=
  Name_function_global hk hx (loadGlobal_global (env := env) (by rw [hg]; exact T.g) (mg_of X T.g e) h) hd
theorem nm_B (hk : env.scope.kind = .function) (hx : env.kindOf x = some .globalImplicit) (hg : env.globals = mainGlobals) (hb : env.builtins = builtinsNs) (X : K.In s.heap) (T : TopRead p loose mg mb s.heap) (e : nsIn K mainGlobals x = some none) (hv : bootBuiltins x = some v)
    (hn : x ≠ "__name__") (h : Q v s) (hd : (x == ("__debug__" : Str)) = false := by decide) : wpAny M A (eval (.Name x pos) env) Q E s :=
  Name_function_global hk hx (loadGlobal_builtin (env := env) (by rw [hg]; exact T.g) (mg_none_of X T.g e) (by rw [hb]; exact T.b) ((T.builtins x hn).trans hv) h) hd
end
local macro_rules | `(tactic| walk_at "eval Name") => `(tactic| first
  | (refine' nm_L rfl rfl rfl ?hn ?hv ?_; (case hn => assumption); (case hv => assumption); k_whole)
  | (k_inBlock; refine' nm_G rfl rfl rfl ?X ?T ?e ?_; (case X => assumption); (case T => assumption); (case e => k_is); k_whole)
  | (k_inBlock; refine' nm_B rfl rfl rfl rfl ?X ?T ?e ?v ?n ?_; (case X => assumption); (case T => assumption); (case e => k_is); (case v => boot_fast); (case n => decide); k_whole))
local macro_rules | `(tactic| walk_at "call type:int") => `(tactic| ((with_reducible show wpAny _ _ (call _ [Value.float _ _]) _ _ _); refine call_int_float3 rfl (fun hb => ?_) (fun hb => ?_) (fun hb => ?_)))

/-- the int of a colour's part, by 512 -/
def f512 : UInt64 := 4647714815446351872
def ptF (b : UInt64) : UInt64 := Float64.add (Float64.mul b f512) fHalf
def ptI (b : UInt64) : Int := Flt.toInt Float64.truncOf (ptF b)
def IsPart (v y : Value) : Prop := ∃ b t u, v = .float b t ∧ y = .int (ptI b) u
local macro_rules | `(tactic| walk_at "eval ListComp") => `(tactic| ((with_reducible show wpAny _ _ (eval (Expr.ListComp _ [⟨Expr.Name (Str.ofString "part") _, _, _, _⟩] _ _) _) _ _ _); refine' compV IsPart ?c1 ?c2 ?c3 ?c4 ?c5 ?_ ?c6; (case c1 => exact rfl); (case c2 => decide); (case c3 => exact rfl); (case c4 => decide); (case c5 => exact rfl); (case c6 => intro _; exact rfl); k_whole))


theorem three_at {P : Value → Prop} {a b c : Value} (ha : P a) (hb : P b) (hc : P c) {i : Nat} {v : Value} (h : (#[a, b, c] : Array Value)[i]? = some v) : P v := by
  match i, h with
  | 0, h => exact Option.some.inj h ▸ ha
  | 1, h => exact Option.some.inj h ▸ hb
  | 2, h => exact Option.some.inj h ▸ hc
  | i + 3, h => simp at h


/-- a tuple of two ints -/
def tup2 (a b : Int) (ta tb : Tok) : Obj := { cls := .type "tuple", data := .seq #[.int a ta, .int b tb] }
theorem isPart_three {a b c : UInt64} {ta tb tc : Tok} {ys : Array Value} (hlen : ys.size = 3)
    (hF : ∀ (j : Nat) (y : Value), ys[j]? = some y → ∃ v, (#[Value.float a ta, .float b tb, .float c tc] : Array Value)[j]? = some v ∧ IsPart v y) :
    ∃ u1 u2 u3, ys = #[.int (ptI a) u1, .int (ptI b) u2, .int (ptI c) u3] := by
  obtain ⟨l⟩ := ys
  match l, hlen with
  | [y1, y2, y3], _ =>
    obtain ⟨v1, e1, x1, t1, u1, r1, q1⟩ := hF 0 y1 rfl
    obtain ⟨v2, e2, x2, t2, u2, r2, q2⟩ := hF 1 y2 rfl
    obtain ⟨v3, e3, x3, t3, u3, r3, q3⟩ := hF 2 y3 rfl
    have e1 := Option.some.inj e1
    have e2 := Option.some.inj e2
    have e3 := Option.some.inj e3
    rw [r1] at e1; rw [r2] at e2; rw [r3] at e3
    have f1 : a = x1 := (Value.float.inj e1).1
    have f2 : b = x2 := (Value.float.inj e2).1
    have f3 : c = x3 := (Value.float.inj e3).1
    exact ⟨u1, u2, u3, by rw [q1, q2, q3, ← f1, ← f2, ← f3]⟩
theorem news_new {h₀ h h' : Heap} {L D : Addr} {m : Str → Option Value} {news : List (Addr × Obj)} {ys : Array Value} (F : Fr h₀ L h m) (N : News h₀ L h news) (hD : h.get? D = none) (hg : Grows h h') (hp : h'.PlainList D ys) :
    ∃ n, News h₀ L h' ((D, { cls := .type "list", data := .seq ys n }) :: news) := by
  obtain ⟨n, hn⟩ := hp
  refine ⟨n, fun p hp => ?_⟩
  rcases List.mem_cons.mp hp with rfl | hp
  · refine ⟨hn, fun e => ?_, ?_⟩
    · have e : D = L := e
      obtain ⟨o, _, _, ho, _⟩ := F.ns
      rw [← e, hD] at ho; cases ho
    · cases q : h₀.get? D with
      | none => rfl
      | some o => rw [F.keep _ _ q] at hD; cases hD
  · exact ⟨hg _ _ (N p hp).1, (N p hp).2⟩

theorem point_spec {w : World} {mg mb : Str → Option Value} {s : Shared} {Q E : Value → Shared → Prop} (D : Addr) (a b c : UInt64) (ta tb tc : Tok)
  (X : (Mine.hd.heap_1 w.params).In s.heap) (T : TopRead Mine.vw LS mg mb s.heap) (hD : s.heap.get? D = some (tup3 a b c ta tb tc)) 
  (h1 : Float64.isFinite (ptF a) = true) (h2 : Float64.isFinite (ptF b) = true) (h3 : Float64.isFinite (ptF c) = true)
  (hret : ∀ (D' : Addr) (t1 t2 : Tok) (h' : Heap) (tk' : Nat), Grows s.heap h' → s.heap.get? D' = none → h'.get? D' = some (tup2 (ptI a - ptI c) (ptI b - ptI c) t1 t2) → Q (.ref D') { s with heap := h', toks := tk' }) :
  wpAny (model PP w) (AD 700) (call (.ref 222) [.ref D]) Q E s := by
  k_dflt walk_at "m_enter"
  walk1
  walk1
  walk1
  k_dflt walk_at "eval ListComp"
  k_steps
  (with_reducible rename Fr _ _ _ _ => F)
  (with_reducible rename News _ _ _ _ => N)
  refine Stop.intro ⟨_, _, ?_, iter_tuple rfl (l := D) (items := #[.float a ta, .float b tb, .float c tc]) ⟨_, F.keep _ _ hD, rfl, 0, rfl⟩, ?_, ?_⟩
  · exact Nat.le_of_ble_eq_true rfl
  · intro C i v s₂ m₂ E' hv hn hm hg
    have X2 : (Mine.hd.heap_1 w.params).In s₂.heap := (X.keeps F.keep).keeps hg
    have T2 : TopRead Mine.vw LS mg mb s₂.heap := (T.keeps F.keep).keeps hg
    obtain ⟨x, t, rfl, hfx⟩ : ∃ x t, v = Value.float x t ∧ Float64.isFinite (ptF x) = true :=
      three_at (P := fun v => ∃ x t, v = Value.float x t ∧ Float64.isFinite (ptF x) = true) ⟨_, _, rfl, h1⟩ ⟨_, _, rfl, h2⟩ ⟨_, _, rfl, h3⟩ hv
    unfold ptF f512 fHalf at hfx
    clear hg F hv
    k_steps
    all_goals first
      | exact (fin_nan hfx (by assumption)).elim
      | exact (fin_inf hfx (by assumption)).elim
      | exact Stop.intro ⟨⟨_, _, _, rfl, rfl⟩, _, _, rfl, fun _ _ e => e⟩
  · intro D' h' tk' ys hD' hpl hlen hF hg
    obtain ⟨u1, u2, u3, rfl⟩ := isPart_three hlen hF
    obtain ⟨n, N'⟩ := news_new F N hD' hg hpl
    have F' := F.keeps hg
    clear hF hlen hpl hD' hg F N h1 h2 h3
    dsimp only at N' F' ⊢
    k_steps
    (try dsimp only); (try k_unfold); (try dsimp only)
    exact hret _ _ _ _ _ (Fr.keep (by assumption)) (News.fresh (by assumption) (.head _)) (News.get (by assumption) (.head _))
end
end Mine

-- MinMax
namespace Mine
open PySem PySem.W PyProof.Rows PySem.Spec PySem.Calls
set_option maxRecDepth 100000
set_option maxHeartbeats 8000000
noncomputable section
theorem best_min (val : Nat → Int) : ∀ k, argBest (fun i j => decide (val i < val j)) k ≤ k ∧ ∀ i ≤ k, val (argBest (fun i j => decide (val i < val j)) k) ≤ val i
  | 0 => ⟨Nat.le_refl _, fun i hi => by rw [Nat.le_zero.mp hi]; exact Int.le_refl _⟩
  | k + 1 => by
    obtain ⟨h1, h2⟩ := best_min val k
    simp only [argBest, decide_eq_true_eq]
    by_cases c : val (k + 1) < val (argBest (fun i j => decide (val i < val j)) k)
    · rw [if_pos c]
      refine ⟨Nat.le_refl _, fun i hi => ?_⟩
      rcases Nat.lt_or_ge i (k + 1) with q | q
      · exact Int.le_trans (Int.le_of_lt c) (h2 i (Nat.le_of_lt_succ q))
      · rw [Nat.le_antisymm hi q]; exact Int.le_refl _
    · rw [if_neg c]
      refine ⟨Nat.le_succ_of_le h1, fun i hi => ?_⟩
      rcases Nat.lt_or_ge i (k + 1) with q | q
      · exact h2 i (Nat.le_of_lt_succ q)
      · rw [Nat.le_antisymm hi q]; exact Int.not_lt.mp c
theorem best_max (val : Nat → Int) : ∀ k, argBest (fun i j => decide (val i > val j)) k ≤ k ∧ ∀ i ≤ k, val i ≤ val (argBest (fun i j => decide (val i > val j)) k)
  | 0 => ⟨Nat.le_refl _, fun i hi => by rw [Nat.le_zero.mp hi]; exact Int.le_refl _⟩
  | k + 1 => by
    obtain ⟨h1, h2⟩ := best_max val k
    simp only [argBest, decide_eq_true_eq]
    by_cases c : val (k + 1) > val (argBest (fun i j => decide (val i > val j)) k)
    · rw [if_pos c]
      refine ⟨Nat.le_refl _, fun i hi => ?_⟩
      rcases Nat.lt_or_ge i (k + 1) with q | q
      · exact Int.le_trans (h2 i (Nat.le_of_lt_succ q)) (Int.le_of_lt c)
      · rw [Nat.le_antisymm hi q]; exact Int.le_refl _
    · rw [if_neg c]
      refine ⟨Nat.le_succ_of_le h1, fun i hi => ?_⟩
      rcases Nat.lt_or_ge i (k + 1) with q | q
      · exact h2 i (Nat.le_of_lt_succ q)
      · rw [Nat.le_antisymm hi q]; exact Int.not_lt.mp c

section
variable {prog : Program} {w : World} {A : Around} {E : Value → Shared → Prop} {s : Shared}
theorem min_ints {D : Addr} {ys : Array Value} {Q : Value → Shared → Prop} (val : Nat → Int) (hh : A.handled = none) (hl : s.heap.IsList D ys) (hne : 0 < ys.size)
    (hv : ∀ (i : Nat) (y : Value), ys[i]? = some y → ∃ t, y = .int (val i) t)
    (h : ∀ h' tk r t, Grows s.heap h' → (∀ i, i < ys.size → r ≤ val i) → (∃ i, i < ys.size ∧ r = val i) → Q (.int r t) { s with heap := h', toks := tk }) :
    wpAny (model prog w) A (call (.builtin "min") [.ref D]) Q E s := by
  refine call_min_walk ?_
  refine iter_list (A := A.in1) hh hl _ _ fun I fp wr St h₂ W hst hfp hg hwr => ?_
  refine ⟨I, fp, wr, ys.size, _, St, _, rfl, W, hst, hfp, hne, CmpOf.ints_lt val hv, fun v h' tk hP hk => ?_⟩
  obtain ⟨t, rfl⟩ := hv _ _ hP
  obtain ⟨b1, b2⟩ := best_min val (ys.size - 1)
  exact h h' tk _ t (fun b o e => hk b o (fun hb => by rw [hwr b hb] at e; cases e) (hg b o e)) (fun i hi => b2 i (by omega)) ⟨_, by omega, rfl⟩
theorem max_ints {D : Addr} {ys : Array Value} {Q : Value → Shared → Prop} (val : Nat → Int) (hh : A.handled = none) (hl : s.heap.IsList D ys) (hne : 0 < ys.size)
    (hv : ∀ (i : Nat) (y : Value), ys[i]? = some y → ∃ t, y = .int (val i) t)
    (h : ∀ h' tk r t, Grows s.heap h' → (∀ i, i < ys.size → val i ≤ r) → (∃ i, i < ys.size ∧ r = val i) → Q (.int r t) { s with heap := h', toks := tk }) :
    wpAny (model prog w) A (call (.builtin "max") [.ref D]) Q E s := by
  refine call_max_walk ?_
  refine iter_list (A := A.in1) hh hl _ _ fun I fp wr St h₂ W hst hfp hg hwr => ?_
  refine ⟨I, fp, wr, ys.size, _, St, _, rfl, W, hst, hfp, hne, CmpOf.ints_gt val hv, fun v h' tk hP hk => ?_⟩
  obtain ⟨t, rfl⟩ := hv _ _ hP
  obtain ⟨b1, b2⟩ := best_max val (ys.size - 1)
  exact h h' tk _ t (fun b o e => hk b o (fun hb => by rw [hwr b hb] at e; cases e) (hg b o e)) (fun i hi => b2 i (by omega)) ⟨_, by omega, rfl⟩
end
end
end Mine

-- W4
namespace Mine
open PySem PySem.W PyProof.Rows PySem.Spec PySem.Calls
set_option maxRecDepth 100000
set_option maxHeartbeats 8000000
set_option pp.deepTerms false
set_option pp.deepTerms.threshold 8
set_option pp.fieldNotation false
noncomputable section
local macro_rules | `(tactic| walk_at "m_enterC") => `(tactic| (refine' enterC ?X ?lim ?g ?gs ?M ?room ?ho ?hcd ?bind ?kind ?nd ?_ ?c1 ?c2 ?c3; (case X => k_asm); (case lim => exact TopRead.nolimit (by k_asm)); (case g => exact Grows.refl _); (case gs => exact Nat.le_refl _); (case M => exact List.forall_mem_nil _); (case room => decide); (case ho => k_is); (case hcd => k_is); (case bind => exact BindsTo.of_eq rfl); (case kind => exact rfl); (case nd => decide); (case c1 => exact rfl); (case c2 => exact rfl); (case c3 => exact rfl); k_whole; intro h' tk' cells' F' N' Y' l1; (try dsimp only); (try dsimp only at F' N'); (k_cells Y'); (try simp only [List.append_nil, List.cons_append, List.nil_append] at N'); (try k_fold)))

/-- a list of points: its tuples stand at as -/
structure PtsAt (h : Heap) (l : Addr) (as : List Addr) (pts : List (Int × Int)) : Prop where
  list : h.IsList l (as.map Value.ref).toArray
  len : as.length = pts.length
  tup : ∀ (i : Nat) (a : Addr) (p : Int × Int), as[i]? = some a → pts[i]? = some p → ∃ ta tb, h.get? a = some (tup2 p.1 p.2 ta tb)

def cross (p q : Int × Int) : Int := p.1 * q.2 - p.2 * q.1


theorem isList_keep {h₀ h : Heap} {L l : Addr} {m : Str → Option Value} {items : Array Value} (F : Fr h₀ L h m) (hl : h₀.IsList l items) : h.IsList l items := hl.at fun o e => F.keep _ o e


/-- the point of a tuple on the heap -/
def ptOf (h : Heap) (a : Addr) : Int × Int := match h.get? a with
  | some ⟨_, _, .seq xs _, _⟩ => (match xs.toList with | [.int x _, .int y _] => (x, y) | _ => (0, 0))
  | _ => (0, 0)
theorem ptOf_tup {h : Heap} {a : Addr} {x y : Int} {t u : Tok} (e : h.get? a = some (tup2 x y t u)) : ptOf h a = (x, y) := by
  unfold ptOf; rw [e]; rfl
/-- the cross product of q with the tuple of v -/
def IsCross (h : Heap) (q : Int × Int) (v y : Value) : Prop := ∃ a t, v = .ref a ∧ y = .int (cross q (ptOf h a)) t
theorem tup2_here {h : Heap} {D : Addr} {a b : Int} {ta tb : Tok} (hD : h.get? D = some (tup2 a b ta tb)) :
    IsTup h D [.int a ta, .int b tb].toArray := ⟨_, hD, rfl, 0, rfl⟩
theorem nm_C {M : Model} {A : Around} {E : Value → Shared → Prop} {s : Shared} {env : Env} {x : Str} {pos : Pos} {v : Value} {Q : Value → Shared → Prop} {c : Addr} {o : Obj}
    (hk : env.scope.kind = .function) (hl : env.kindOf x = some .cell) (hc : env.cells.lookup x = some c) (ho : s.heap.get? c = some o) (hd : o.data = .cell (some v)) (h : Q v s)
    (hb : (x == ("__debug__" : Str)) = false := by decide) : wpAny M A (eval (.Name x pos) env) Q E s := wpAny_Name (wpAny_loadName_cell hk hl hc ⟨o, ho, hd⟩ h) hb
local macro_rules | `(tactic| walk_at "eval Name") => `(tactic| (k_inBlock; k_dflt (first
  | (refine' nm_L rfl rfl rfl ?hn ?hv ?_; (case hn => assumption); (case hv => assumption); k_whole)
  | (refine' nm_C rfl rfl rfl ?ho ?hd ?_; (case ho => assumption); (case hd => assumption); k_whole)
  | (refine' nm_G rfl rfl rfl ?X ?T ?e ?_; (case X => assumption); (case T => assumption); (case e => k_is); k_whole)
  | (refine' nm_B rfl rfl rfl rfl ?X ?T ?e ?v ?n ?_; (case X => assumption); (case T => assumption); (case e => k_is); (case v => boot_fast); (case n => decide); k_whole))))
local macro_rules | `(tactic| walk_at "subscriptTail") => `(tactic| ((with_reducible show wpAny _ _ (subscriptTail _ _ (Value.ref _) (Value.int _ _)) _ _ _); k_dflt (refine' item_tupleT ?t ?a ?b ?c ?d ?_; (case t => exact tup2_here (by assumption)); (case a => decide); (case b => decide); (case c => rfl); (case d => rfl); k_whole)))
theorem pick_to (l : List Value) (k : Nat) : slicePick l.toArray none (some (k : Int)) none = (l.take k).toArray := by
  have e : sliceBounds none (some (k : Int)) none l.toArray.size = (((0 : Nat) : Int), ((min k l.toArray.size : Nat) : Int), 1) := by
    simp only [sliceBounds, Option.getD_none, show (1 : Int) > 0 by decide, if_true, if_neg (show ¬ ((k : Int) < 0) by omega)]
    congr 1
    congr 1
    omega
  rw [kmk_pick_nat _ e]
  show ((l.drop 0).take (min k l.toArray.size - 0)).toArray = _
  rw [List.drop_zero, Nat.sub_zero, List.size_toArray, kmk_take_min]
theorem pick_from (l : List Value) (k : Nat) : slicePick l.toArray (some (k : Int)) none none = (l.drop k).toArray := by
  have e : sliceBounds (some (k : Int)) none none l.toArray.size = (((min k l.toArray.size : Nat) : Int), ((l.toArray.size : Nat) : Int), 1) := by
    simp only [sliceBounds, Option.getD_none, show (1 : Int) > 0 by decide, if_true, if_neg (show ¬ ((k : Int) < 0) by omega)]
    congr 1
    omega
  rw [kmk_pick_nat _ e]
  show ((l.drop (min k l.toArray.size)).take (l.toArray.size - min k l.toArray.size)).toArray = _
  rw [List.size_toArray, kmk_drop_min, List.take_of_length_le (by rw [List.length_drop]; omega)]



theorem pts_mem {h : Heap} {P : Addr} {as : List Addr} {pts : List (Int × Int)} (hP : PtsAt h P as pts) {a : Addr} (ha : a ∈ as) : ∃ p ∈ pts, ∃ t u, h.get? a = some (tup2 p.1 p.2 t u) := by
  obtain ⟨i, hi, rfl⟩ := List.getElem_of_mem ha
  have hi' : i < pts.length := hP.len ▸ hi
  obtain ⟨t, u, e⟩ := hP.tup i as[i] pts[i] (List.getElem?_eq_getElem hi) (List.getElem?_eq_getElem hi')
  exact ⟨pts[i], List.getElem_mem hi', t, u, e⟩
theorem pts_at {h : Heap} {P : Addr} {as : List Addr} {pts : List (Int × Int)} (hP : PtsAt h P as pts) {i : Nat} (hi : i < as.length) (hi' : i < pts.length) : ptOf h as[i] = pts[i] := by
  obtain ⟨t, u, e⟩ := hP.tup i as[i] pts[i] (List.getElem?_eq_getElem hi) (List.getElem?_eq_getElem hi')
  rw [ptOf_tup e]
/-- r is the least of the cross products of the k-th point with the others -/
def Least (pts : List (Int × Int)) (k : Nat) (r : Int) : Prop :=
  (∀ j p q, j ≠ k → pts[k]? = some q → pts[j]? = some p → r ≤ cross q p) ∧ ∃ j p q, j ≠ k ∧ pts[k]? = some q ∧ pts[j]? = some p ∧ r = cross q p

theorem others_at {α : Type} (l : List α) (k j : Nat) (hj : j ≠ k) (hjl : j < l.length) : ∃ i, i < (l.take k ++ l.drop (k + 1)).length ∧ (l.take k ++ l.drop (k + 1))[i]? = l[j]? := by
  rcases Nat.lt_or_gt_of_ne hj with h | h
  · refine ⟨j, by simp; omega, ?_⟩
    rw [List.getElem?_append_left (by simp; omega), List.getElem?_take_of_lt h]
  · refine ⟨j - 1, by simp; omega, ?_⟩
    rw [List.getElem?_append_right (by simp; omega), List.getElem?_drop]
    congr 1
    simp; omega
theorem others_of {α : Type} (l : List α) (k i : Nat) (v : α) (hk : k < l.length) (h : (l.take k ++ l.drop (k + 1))[i]? = some v) : ∃ j, j ≠ k ∧ l[j]? = some v := by
  rcases Nat.lt_or_ge i k with q | q
  · rw [List.getElem?_append_left (by simp; omega), List.getElem?_take_of_lt q] at h
    exact ⟨i, by omega, h⟩
  · rw [List.getElem?_append_right (by simp; omega), List.getElem?_drop] at h
    refine ⟨_, ?_, h⟩
    simp; omega

theorem least_spec {w : World} {mg mb : Str → Option Value} {s : Shared} {Q E : Value → Shared → Prop} (P : Addr) (as : List Addr) (pts : List (Int × Int)) (k : Nat) (t : Tok)
  (X : (Mine.hd.heap_1 w.params).In s.heap) (T : TopRead Mine.vw LS mg mb s.heap) (hP : PtsAt s.heap P as pts) (hk : k < pts.length) (hn : pts.length ≤ 100) (hn2 : 2 ≤ pts.length)
  (hb : ∀ p ∈ pts, (-1000 ≤ p.1 ∧ p.1 ≤ 1000) ∧ -1000 ≤ p.2 ∧ p.2 ≤ 1000)
  (hret : ∀ (r : Int) (t : Tok) (h' : Heap) (tk' : Nat), Grows s.heap h' → Least pts k r → Q (.int r t) { s with heap := h', toks := tk' }) :
  wpAny (model PP w) (AD 700) (call (.ref 227) [.ref P, .int (k : Int) t]) Q E s := by
  have hl := hP.list
  have hka : k < as.length := hP.len ▸ hk
  obtain ⟨o1, o2, ho⟩ := hP.tup k as[k] pts[k] (List.getElem?_eq_getElem hka) (List.getElem?_eq_getElem hk)
  have hsz : (as.map Value.ref).toArray.size ≤ sizeLine := by
    have : (as.map Value.ref).toArray.size = pts.length := by simp [hP.len]
    rw [this, sizeLine_eq]; omega
  k_dflt walk_at "m_enterC"
  k_steps
  refine item_listL (isList_keep (by assumption) hl) (by omega) (by omega) (x := .ref as[k]) (by simp [hka]) ?_
  iterate 7 walk1
  k_dflt (refine' compV (IsCross s.heap pts[k]) ?c1 ?c2 ?c3 ?c4 ?c5 ?_ ?c6; (case c1 => with_unfolding_all rfl); (case c2 => decide); (case c3 => exact rfl); (case c4 => decide); (case c5 => exact rfl); (case c6 => intro _; exact rfl))
  k_steps
  (with_reducible rename Fr _ _ _ _ => F)
  (with_reducible rename News _ _ _ _ => N)
  (with_reducible rename Obj.data _ = _ => hd)
  rw [pick_to, show ((k : Int) + 1) = ((k + 1 : Nat) : Int) from rfl, pick_from] at N
  have hlen := hP.len
  refine add_arrays F N ⟨_, N.get (.tail _ (.head _)), rfl, _, rfl⟩ ⟨_, N.get (.head _), rfl, _, rfl⟩ (fun h' F' N' => ?_) ?_
  · refine Stop.intro ⟨_, _, ?_, iter_list rfl ⟨_, N'.get (.head _), rfl, _, rfl⟩, ?_, ?_⟩
    · rw [sizeLine_eq]; simp; omega
    · intro C i v s₂ m₂ E' hv hn hm hg
      have X2 : (Mine.hd.heap_1 w.params).In s₂.heap := (X.keeps F'.keep).keeps hg
      have T2 : TopRead Mine.vw LS mg mb s₂.heap := (T.keeps F'.keep).keeps hg
      have hc := hg _ _ (N'.get (.tail _ (.tail _ (.tail _ (.head _)))))
      have hone := hg _ _ (F'.keep _ _ ho)
      have hv' : v ∈ as.map Value.ref := by
        have := List.mem_of_getElem? (by simpa using hv : ((as.map Value.ref).take k ++ (as.map Value.ref).drop (k + 1))[i]? = some v)
        rcases List.mem_append.mp this with q | q
        · exact List.mem_of_mem_take q
        · exact List.mem_of_mem_drop q
      obtain ⟨a, ha, rfl⟩ := List.mem_map.mp hv'
      obtain ⟨p, hp, u1, u2, he⟩ := pts_mem hP ha
      have htwo := hg _ _ (F'.keep _ _ he)
      obtain ⟨⟨b1, b2⟩, b3, b4⟩ := hb _ hp
      obtain ⟨⟨b5, b6⟩, b7, b8⟩ := hb _ (List.getElem_mem hk)
      have hfin : cross pts[k] (ptOf s.heap a) = pts[k].1 * p.2 - pts[k].2 * p.1 := by rw [ptOf_tup he]; rfl
      clear hg F F' N N' hv hv'
      generalize pts[k].1 = x1 at *
      generalize pts[k].2 = x2 at *
      generalize p.1 = y1 at *
      generalize p.2 = y2 at *
      k_steps
      exact Stop.intro ⟨⟨a, _, rfl, by rw [hfin]⟩, _, _, rfl, fun _ _ e => e⟩
    · intro D h' tk ys hD hpl hsize hF hg
      have F2 := F'.keeps hg
      have N2 := N'.grown hg
      have hitems : ∀ (i : Nat) (y : Value), ys[i]? = some y → ∃ j, j ≠ k ∧ ∃ a, as[j]? = some a ∧ ∃ t, y = .int (cross pts[k] (ptOf s.heap a)) t := by
        intro i y e
        obtain ⟨v, hv, a, t, rfl, rfl⟩ := hF i y e
        obtain ⟨j, hj, e2⟩ := others_of (as.map Value.ref) k i (.ref a) (by simpa using hka) (by simpa using hv)
        rw [List.getElem?_map] at e2
        obtain ⟨a', h1, h2⟩ := Option.map_eq_some_iff.mp e2
        cases h2
        exact ⟨j, hj, _, h1, t, rfl⟩
      have hcov : ∀ j, j ≠ k → ∀ (h : j < pts.length), ∃ i, i < ys.size ∧ ∃ t, ys[i]? = some (.int (cross pts[k] pts[j]) t) := by
        intro j hj h
        have hja : j < as.length := by omega
        obtain ⟨i, hi, e⟩ := others_at (as.map Value.ref) k j hj (by simpa using hja)
        have hi' : i < ys.size := by rw [hsize]; simpa using hi
        obtain ⟨v, hv, a, t, rfl, e3⟩ := hF i ys[i] (Array.getElem?_eq_getElem hi')
        have e4 : (as.map Value.ref)[j]? = some (.ref a) := by rw [← e]; simpa using hv
        rw [List.getElem?_map, List.getElem?_eq_getElem hja] at e4
        cases e4
        rw [pts_at hP hja h] at e3
        exact ⟨i, hi', t, by rw [Array.getElem?_eq_getElem hi', e3]⟩
      clear F F' N N' hg hF
      dsimp only at F2 N2 ⊢
      walk1
      refine min_ints (fun i => match ys[i]? with | some (.int x _) => x | _ => 0) rfl hpl.isList ?_ ?_ ?_
      · obtain ⟨i, hi, _⟩ := hcov (if k = 0 then 1 else 0) (by split <;> omega) (by split <;> omega)
        omega
      · intro i y e
        obtain ⟨j, _, a, _, t, rfl⟩ := hitems i y e
        exact ⟨t, by rw [e]⟩
      · intro h3 tk3 r t3 hg3 hle hex
        refine hret r t3 h3 tk3 (Grows.trans F2.keep hg3) ⟨?_, ?_⟩
        · intro j p q hj hq hp
          obtain ⟨hj', rfl⟩ := List.getElem?_eq_some_iff.mp hp
          rw [List.getElem?_eq_getElem hk] at hq
          cases hq
          obtain ⟨i, hi, t, e⟩ := hcov j hj hj'
          have := hle i hi
          rw [e] at this
          exact this
        · obtain ⟨i, hi, e⟩ := hex
          obtain ⟨j, hj, a, ha, t, e2⟩ := hitems i ys[i] (Array.getElem?_eq_getElem hi)
          rw [Array.getElem?_eq_getElem hi, e2] at e
          obtain ⟨hja, rfl⟩ := List.getElem?_eq_some_iff.mp ha
          have hj' : j < pts.length := by omega
          refine ⟨j, pts[j], pts[k], hj, List.getElem?_eq_getElem hk, List.getElem?_eq_getElem hj', ?_⟩
          rw [e, pts_at hP hja hj']
  · rw [sizeLine_eq]; simp; omega
end
end Mine

-- W5
namespace Mine
open PySem PySem.W PyProof.Rows PySem.Spec PySem.Calls
set_option maxRecDepth 100000
set_option maxHeartbeats 8000000
set_option pp.deepTerms false
set_option pp.deepTerms.threshold 8
set_option pp.fieldNotation false
noncomputable section
local macro_rules | `(tactic| walk_at "m_enterC") => `(tactic| (refine' enterC ?X ?lim ?g ?gs ?M ?room ?ho ?hcd ?bind ?kind ?nd ?_ ?c1 ?c2 ?c3; (case X => k_asm); (case lim => exact TopRead.nolimit (by k_asm)); (case g => exact Grows.refl _); (case gs => exact Nat.le_refl _); (case M => exact List.forall_mem_nil _); (case room => decide); (case ho => k_is); (case hcd => k_is); (case bind => exact BindsTo.of_eq rfl); (case kind => exact rfl); (case nd => decide); (case c1 => exact rfl); (case c2 => exact rfl); (case c3 => exact rfl); k_whole; intro h' tk' cells' F' N' Y' l1; (try dsimp only); (try dsimp only at F' N'); (k_cells Y'); (try simp only [List.append_nil, List.cons_append, List.nil_append] at N'); (try k_fold)))
local macro_rules | `(tactic| walk_at "eval Name") => `(tactic| (k_inBlock; k_dflt (first
  | (refine' nm_L rfl rfl rfl ?hn ?hv ?_; (case hn => assumption); (case hv => assumption); k_whole)
  | (refine' nm_C rfl rfl rfl ?ho ?hd ?_; (case ho => assumption); (case hd => assumption); k_whole)
  | (refine' nm_G rfl rfl rfl ?X ?T ?e ?_; (case X => assumption); (case T => assumption); (case e => k_is); k_whole)
  | (refine' nm_B rfl rfl rfl rfl ?X ?T ?e ?v ?n ?_; (case X => assumption); (case T => assumption); (case e => k_is); (case v => boot_fast); (case n => decide); k_whole))))

theorem IterOf.lt {prog : Program} {w : World} {A : Around} {xv : Value} {n : Nat} {P : Nat → Value → Prop} {s₁ : Shared} (H : IterOf prog w A xv n P s₁) : IterOf prog w A xv n (fun i v => P i v ∧ i < n) s₁ :=
  fun Q E hQ => H Q E fun I fp wr St h₂ W => hQ I fp wr St h₂ { W with item := fun i s Q E hi st hq => W.item i s Q E hi st fun v h' tk hp => hq v h' tk ⟨hp, hi⟩ }
theorem PtsAt.keeps {h h' : Heap} {l : Addr} {as : List Addr} {pts : List (Int × Int)} (H : PtsAt h l as pts) (g : Grows h h') : PtsAt h' l as pts :=
  ⟨H.list.at fun o e => g _ o e, H.len, fun i a p h1 h2 => let ⟨t, u, e⟩ := H.tup i a p h1 h2; ⟨t, u, g _ _ e⟩⟩
def Kept (pts : List (Int × Int)) (c : Int) : Prop := ∃ k q, pts[k]? = some q ∧ ∀ (j : Nat) (p : Int × Int), j ≠ k → pts[j]? = some p → c ≤ cross q p
def IsLeast (pts : List (Int × Int)) (v y : Value) : Prop := ∃ (k : Nat) (r : Int) (t u : Tok), v = .int k t ∧ y = .int r u ∧ k < pts.length ∧ Least pts k r

theorem kept_spec {w : World} {mg mb : Str → Option Value} {s : Shared} {Q E : Value → Shared → Prop} (P : Addr) (as : List Addr) (pts : List (Int × Int)) (e : Int) (t : Tok)
  (X : (Mine.hd.heap_1 w.params).In s.heap) (T : TopRead Mine.vw LS mg mb s.heap) (hP : PtsAt s.heap P as pts) (hn0 : pts.length ≤ 100) (hn2 : 2 ≤ pts.length)
  (hb : ∀ p ∈ pts, (-1000 ≤ p.1 ∧ p.1 ≤ 1000) ∧ -1000 ≤ p.2 ∧ p.2 ≤ 1000)
  (hret : ∀ (b : Bool) (h' : Heap) (tk' : Nat), Grows s.heap h' → (b = true ↔ Kept pts (24 - e)) → Q (.bool b) { s with heap := h', toks := tk' }) :
  wpAny (model PP w) (AD 600) (call (.ref 232) [.ref P, .int e t]) Q E s := by
  have hl := hP.list
  have hlen := hP.len
  have hsz : (as.map Value.ref).toArray.size ≤ sizeLine := by
    have : (as.map Value.ref).toArray.size = pts.length := by simp [hP.len]
    rw [this, sizeLine_eq]; omega
  k_dflt walk_at "m_enterC"
  iterate 7 walk1
  k_dflt (refine' compV (IsLeast pts) ?c1 ?c2 ?c3 ?c4 ?c5 ?_ ?c6; (case c1 => with_unfolding_all rfl); (case c2 => decide); (case c3 => exact rfl); (case c4 => decide); (case c5 => exact rfl); (case c6 => intro _; exact rfl))
  k_steps
  (with_reducible rename Fr _ _ _ _ => F)
  (with_reducible rename News _ _ _ _ => N)
  refine len_list (isList_keep F hl) (by rw [sizeLine_eq] at hsz; omega) ?_
  rw [show (as.map Value.ref).toArray.size = pts.length by simp [hlen]]
  k_steps

  (with_reducible rename Fr _ _ _ _ => F)
  (with_reducible rename News _ _ _ _ => N)
  (with_reducible rename IsRange _ _ _ _ _ _ _ _ => hR)
  (with_reducible rename Obj.data _ = _ => hd)
  refine Stop.intro ⟨pts.length, fun i v => (∃ t, v = .int (0 + (i : Int) * 1) t) ∧ i < pts.length, ?_, IterOf.lt (iter_range rfl hR (n := pts.length) ?_ ?_), ?_, ?_⟩
  · rw [sizeLine_eq]; omega
  · exact small_one (by omega) (by omega) (by omega) (by omega)
  · rw [rangeSize_one, if_pos (by omega)]; omega
  · intro C i v s₂ m₂ E' ⟨hv, hlt⟩ hn hm hg
    obtain ⟨t, rfl⟩ := hv
    rw [show (0 + (i : Int) * 1) = (i : Int) by omega] at hm ⊢
    have X2 : (Mine.hd.heap_1 w.params).In s₂.heap := (X.keeps F.keep).keeps hg
    have T2 : TopRead Mine.vw LS mg mb s₂.heap := (T.keeps F.keep).keeps hg
    have hc := hg _ _ (N.get (.head _))
    have hP2 : PtsAt s₂.heap P as pts := (hP.keeps F.keep).keeps hg
    clear hg F N
    k_steps
    refine wpAny_AD 700 rfl (Nat.le_of_ble_eq_true rfl) (Nat.le_of_ble_eq_true rfl) ?_
    refine least_spec P as pts i _ X2 T2 hP2 hlt hn0 hn2 hb fun r u h' tk' hg2 hL => ?_
    k_steps
    exact Stop.intro ⟨⟨i, r, _, _, rfl, rfl, hlt, hL⟩, _, _, rfl, hg2⟩
  · intro D h' tk ys hD hpl hsize hF hg
    have F2 := F.keeps hg
    have N2 := N.grown hg
    have hpts : ∀ (j : Nat) (y : Value), ys[j]? = some y → ∃ r t, y = .int r t ∧ Least pts j r := by
      intro j y e
      obtain ⟨v, ⟨⟨t1, e1⟩, hlt⟩, k, r, t, u, e2, rfl, hk, hL⟩ := hF j y e
      rw [e1] at e2
      obtain rfl : j = k := by
        have := Value.int.inj e2
        omega
      exact ⟨r, u, rfl, hL⟩
    clear F N hg
    dsimp only at F2 N2 ⊢
    walk1
    refine max_ints (fun i => match ys[i]? with | some (.int x _) => x | _ => 0) rfl hpl.isList ?_ ?_ ?_
    · omega
    · intro i y e
      obtain ⟨r, t, rfl, _⟩ := hpts i y e
      exact ⟨t, by rw [e]⟩
    · intro h3 tk3 r t3 hg3 hle hex
      have F3 := F2.keeps hg3
      have N3 := N2.grown hg3
      have hK : 24 - e ≤ r ↔ Kept pts (24 - e) := by
        constructor
        · intro hr
          obtain ⟨i, hi, rfl⟩ := hex
          obtain ⟨r', t, e1, hL⟩ := hpts i ys[i] (Array.getElem?_eq_getElem hi)
          rw [Array.getElem?_eq_getElem hi, e1] at hr
          have hi' : i < pts.length := by omega
          exact ⟨i, pts[i], List.getElem?_eq_getElem hi', fun j p hj hp => Int.le_trans hr (hL.1 j p _ hj (List.getElem?_eq_getElem hi') hp)⟩
        · rintro ⟨k, q, hq, hall⟩
          obtain ⟨hk, rfl⟩ := List.getElem?_eq_some_iff.mp hq
          have hk' : k < ys.size := by omega
          obtain ⟨r', t, e1, hL⟩ := hpts k ys[k] (Array.getElem?_eq_getElem hk')
          have := hle k hk'
          rw [Array.getElem?_eq_getElem hk', e1] at this
          obtain ⟨j, p, q, hj, h1, h2, rfl⟩ := hL.2
          rw [h1] at hq
          cases hq
          exact Int.le_trans (hall j p hj h2) this
      clear F2 N2 hg3 hle hex hpts
      k_steps
      (try dsimp only)
      exact hret _ _ _ (Fr.keep (by assumption)) (decide_eq_true_iff.trans hK)
end
end Mine

-- W6
namespace Mine
open PySem PySem.W PyProof.Rows PySem.Spec PySem.Calls
set_option maxRecDepth 100000
set_option maxHeartbeats 8000000
set_option pp.deepTerms false
set_option pp.deepTerms.threshold 8
set_option pp.fieldNotation false
noncomputable section
local macro_rules | `(tactic| walk_at "m_enter") => `(tactic| (refine' enterP ?X ?lim ?g ?gs ?M ?room ?ho ?hcd ?bind ?loc ?_ ?c1 ?c2 ?c3 ?c4; (case X => k_asm); (case lim => exact TopRead.nolimit (by k_asm)); (case g => exact Grows.refl _); (case gs => exact Nat.le_refl _); (case M => exact List.forall_mem_nil _); (case room => decide); (case ho => k_is); (case hcd => k_is); (case bind => exact BindsTo.of_eq rfl); (case loc => exact locs rfl); (case c1 => exact rfl); (case c2 => exact rfl); (case c3 => exact rfl); (case c4 => decide); k_whole; intro h' F' N'; (try dsimp only); (try k_fold)))


section
variable {prog : Program} {w : World} {A : Around} {E : Value → Shared → Prop} {s : Shared} {env : Env} {h₀ : Heap} {x : Str} {body : List Stmt} {Q : Flow → Shared → Prop}
/-- a loop over range(a, ...): the turns are counted -/
theorem iter_rangeN {r : Addr} {a₀ b₀ : Int} {t₀ u₀ v₀ : Tok} {n : Nat} {m₀ : Str → Option Value} {news : List (Addr × Obj)} (J : Nat → (Str → Option Value) → List (Addr × Obj) → Prop)
    (hh : A.handled = none) (hr : IsRange s.heap r a₀ b₀ 1 t₀ u₀ v₀) (hsmall : Builtin.Range.small a₀ b₀ 1 = true) (hn : Builtin.Range.rangeSize a₀ b₀ 1 = (n : Int)) (F : Fr h₀ env.locals s.heap m₀) (N : News h₀ env.locals s.heap news) (hJ : J 0 m₀ news)
    (turn : ∀ (i : Nat) t m₁ nx h tk own, i < n → OwnOff own (news.map (·.1)) → J i m₁ nx → Fr h₀ env.locals h (fun y => if y = x then some (.int (a₀ + (i : Int)) t) else m₁ y) → News h₀ env.locals h (nx ++ own) →
      wpAny (model prog w) A (execs body env) (InvPostN h₀ env.locals (J (i + 1)) own (news.map (·.1)) { s with heap := h, toks := tk } Q) E { s with heap := h, toks := tk })
    (done : ∀ m₁ nx h tk, J n m₁ nx → Fr h₀ env.locals h m₁ → News h₀ env.locals h nx → Q .next { s with heap := h, toks := tk }) :
    wpAny (model prog w) A (pyIter (.ref r)) (fun it s₂ => LoopAtV prog w A h₀ env x body Q E it s₂) E s := by
  refine wpAny_pyIter_range hr hsmall ?_
  have W : Walks prog w A s.heap.objs.size [s.heap.objs.size] [s.heap.objs.size] n (fun i v => i < n ∧ ∃ t, v = .int (a₀ + i * 1) t)
      (fun i h => IsRangeIter h s.heap.objs.size (a₀ + (i : Nat) * 1) ((n : Int) - (i : Nat)) 1) := (Walks.range hh _ a₀ 1 n).bound
  refine loop_invN J W ?_ ?_ ?_ ?_ (by show IsRangeIter _ _ _ _ _; rw [hn]; simpa using Heap.get?_push_size _ rfl) (F.push _) (fun p hp => ⟨Heap.get?_push_of_some _ (N p hp).1, (N p hp).2⟩) hJ ?_ done
  · intro hm
    exact absurd F.ns.lt ((List.mem_singleton.mp hm) ▸ Nat.lt_irrefl _)
  · intro b hb
    rw [List.mem_singleton.mp hb]
    exact next_is_new F
  · intro p hp hI
    exact absurd (Heap.lt_size (N p hp).1) ((List.mem_singleton.mp hI) ▸ Nat.lt_irrefl _)
  · intro p hp hI
    exact absurd (Heap.lt_size (N p hp).1) ((List.mem_singleton.mp hI) ▸ Nat.lt_irrefl _)
  · rintro i v m₁ nx h tk own hi ⟨_, t, rfl⟩ _ ho hj F' N'
    rw [show a₀ + (i : Int) * 1 = a₀ + (i : Int) by omega] at F'
    exact turn i t m₁ nx h tk own hi ho hj F' N'
end

def slice {α : Type} (l : List α) (a b : Nat) : List α := (l.drop a).take (b - a)
open Classical in
noncomputable def stepR (pts : List (Int × Int)) (ws : List Str) (e : Int) (st : Nat × List Str) (spot : Nat) : Nat × List Str :=
  if Kept (slice pts st.1 (spot + 1)) (24 - e) then st else (spot - 1, st.2 ++ [Txt.join (Str.ofString "") (slice ws st.1 (spot - 1))])
noncomputable def rowsTo (pts : List (Int × Int)) (ws : List Str) (e : Int) (i : Nat) : Nat × List Str := (List.range i).foldl (fun st i => stepR pts ws e st (i + 2)) (0, [])
theorem rowsTo_succ (pts : List (Int × Int)) (ws : List Str) (e : Int) (i : Nat) : rowsTo pts ws e (i + 1) = stepR pts ws e (rowsTo pts ws e i) (i + 2) := by
  unfold rowsTo
  rw [List.range_succ, List.foldl_append]; rfl
theorem rowsTo_le (pts : List (Int × Int)) (ws : List Str) (e : Int) : ∀ i, (rowsTo pts ws e i).1 ≤ i
  | 0 => Nat.le_refl _
  | i + 1 => by
    rw [rowsTo_succ]
    unfold stepR
    split
    · exact Nat.le_succ_of_le (rowsTo_le pts ws e i)
    · exact Nat.le_refl _
theorem rowsTo_len (pts : List (Int × Int)) (ws : List Str) (e : Int) : ∀ i, (rowsTo pts ws e i).2.length ≤ i
  | 0 => Nat.le_refl _
  | i + 1 => by
    rw [rowsTo_succ]
    unfold stepR
    have := rowsTo_len pts ws e i
    split
    · exact Nat.le_succ_of_le this
    · simp; exact this
noncomputable def rowsF (pts : List (Int × Int)) (ws : List Str) (e : Int) : List Str :=
  (rowsTo pts ws e (pts.length - 2)).2 ++ [Txt.join (Str.ofString "") (ws.drop (rowsTo pts ws e (pts.length - 2)).1)]

theorem pick_mid (l : List Value) (a b : Nat) : slicePick l.toArray (some (a : Int)) (some (b : Int)) none = (slice l a b).toArray := by
  have e : sliceBounds (some (a : Int)) (some (b : Int)) none l.toArray.size = (((min a l.toArray.size : Nat) : Int), ((min b l.toArray.size : Nat) : Int), 1) := by
    simp only [sliceBounds, Option.getD_none, show (1 : Int) > 0 by decide, if_true, if_neg (show ¬ ((a : Int) < 0) by omega), if_neg (show ¬ ((b : Int) < 0) by omega)]
    congr 1
    · omega
    · congr 1
      omega
  rw [kmk_pick_nat _ e, List.size_toArray]
  unfold slice
  rw [kmk_drop_min]
  congr 1
  apply List.ext_getElem?
  intro i
  simp only [List.getElem?_take, List.getElem?_drop]
  split <;> split <;> first | rfl | (rw [List.getElem?_eq_none (by omega)]) | (rw [eq_comm, List.getElem?_eq_none (by omega)])

theorem PtsAt.slice {h : Heap} {P : Addr} {as : List Addr} {pts : List (Int × Int)} (H : PtsAt h P as pts) {D : Addr} {a b : Nat} (hD : h.IsList D (Mine.slice (as.map Value.ref) a b).toArray) : PtsAt h D (Mine.slice as a b) (Mine.slice pts a b) := by
  refine ⟨?_, ?_, ?_⟩
  · have : (Mine.slice as a b).map Value.ref = Mine.slice (as.map Value.ref) a b := by simp [Mine.slice]
    rw [this]; exact hD
  · simp [Mine.slice, H.len]
  · intro i x p h1 h2
    simp only [Mine.slice, List.getElem?_take, List.getElem?_drop] at h1 h2
    split at h1
    · rename_i q
      rw [if_pos q] at h2
      exact H.tup _ _ _ h1 h2
    · cases h1


def RowsJ (pts : List (Int × Int)) (ws : List Str) (e : Int) (x y : Str) (m₀ : Str → Option Value) (q : Addr × Obj) (l : Addr) (i : Nat) (m : Str → Option Value) (nx : List (Addr × Obj)) : Prop :=
  ∃ rv nn, nx = [q, (l, W.listOf rv nn)] ∧ StrsAre rv.toList (rowsTo pts ws e i).2 ∧ (∃ t, m y = some (.int ((rowsTo pts ws e i).1 : Nat) t)) ∧ ∀ z, z ≠ x → z ≠ y → m z = m₀ z
theorem rows_loop {prog : Program} {w : World} {A : Around} {E : Value → Shared → Prop} {s : Shared} {env : Env} {h₀ : Heap} {x : Str} {body : List Stmt} {Q : Flow → Shared → Prop}
    (pts : List (Int × Int)) (ws : List Str) (e : Int) (y : Str) {r : Addr} {t₀ u₀ v₀ : Tok} {m₀ : Str → Option Value} {q : Addr × Obj} {l : Addr} {tb : Tok}
    (hr : IsRange s.heap r 2 (pts.length : Int) 1 t₀ u₀ v₀) (F : Fr h₀ env.locals s.heap m₀) (N : News h₀ env.locals s.heap [q, (l, W.listOf #[] 0)]) (hy : m₀ y = some (.int 0 tb)) (hh : A.handled = none) (h3 : 3 ≤ pts.length) (h4 : pts.length ≤ 100)
    (turn : ∀ (i : Nat) t tb h tk own rv nn, i + 2 < pts.length → OwnOff own [q.1, l] → StrsAre rv.toList (rowsTo pts ws e i).2 → Fr h₀ env.locals h (fun z => if z = x then some (.int (2 + (i : Int)) t) else if z = y then some (.int ((rowsTo pts ws e i).1 : Nat) tb) else m₀ z) → News h₀ env.locals h (q :: (l, W.listOf rv nn) :: own) →
      wpAny (model prog w) A (execs body env) (InvPostN h₀ env.locals (RowsJ pts ws e x y m₀ q l (i + 1)) own [q.1, l] { s with heap := h, toks := tk } Q) E { s with heap := h, toks := tk })
    (done : ∀ (u : Str → Option Value) tb h tk rv nn, StrsAre rv.toList (rowsTo pts ws e (pts.length - 2)).2 → Fr h₀ env.locals h (fun z => if z = x then u z else if z = y then some (.int ((rowsTo pts ws e (pts.length - 2)).1 : Nat) tb) else m₀ z) → News h₀ env.locals h [q, (l, W.listOf rv nn)] → Q .next { s with heap := h, toks := tk }) :
    wpAny (model prog w) A (pyIter (.ref r)) (fun it s₂ => LoopAtV prog w A h₀ env x body Q E it s₂) E s := by
  refine iter_rangeN (n := pts.length - 2) (RowsJ pts ws e x y m₀ q l) hh hr (small_one (by omega) (by omega) (by omega) (by omega)) (by rw [rangeSize_one, if_pos (by omega)]; omega) F N ⟨_, _, rfl, .nil, ⟨tb, hy⟩, fun _ _ _ => rfl⟩ ?_ ?_
  · rintro i t m₁ nx h tk own hi ho ⟨rv, nn, rfl, hrv, ⟨tb', hb⟩, hm⟩ F' N'
    rw [map_one hb hm] at F'
    exact turn i t tb' h tk own rv nn (by omega) ho hrv F' N'
  · rintro m₁ nx h tk ⟨rv, nn, rfl, hrv, ⟨tb', hb⟩, hm⟩ F' N'
    refine done m₁ tb' h tk rv nn hrv ?_ N'
    rw [done_one hb hm]
    exact F'

theorem strs_slice {vs : List Value} {ys : List Str} (h : StrsAre vs ys) (a b : Nat) : StrsAre (Mine.slice vs a b) (Mine.slice ys a b) := (h.drop' a).take' (b - a)
theorem strs_snoc {vs : List Value} {ys : List Str} (h : StrsAre vs ys) (y : Str) (t : Tok) : StrsAre (vs ++ [.str y t]) (ys ++ [y]) := h.append' (.cons y t .nil)
theorem sum_le_of {ys : List Str} (h : ∀ x ∈ ys, x.length ≤ 100) : (ys.map (·.length)).sum + ys.length ≤ 101 * ys.length := by
  induction ys with
  | nil => simp
  | cons a r ih =>
    have := ih fun x hx => h x (.tail _ hx)
    have := h a (.head _)
    simp only [List.map_cons, List.sum_cons, List.length_cons]
    omega
theorem slice_mem {α : Type} {l : List α} {a b : Nat} {x : α} (h : x ∈ slice l a b) : x ∈ l := List.mem_of_mem_drop (List.mem_of_mem_take h)
theorem slice_len {α : Type} (l : List α) (a b : Nat) : (slice l a b).length = min (b - a) (l.length - a) := by simp [slice]
theorem News.tail {h₀ h : Heap} {L : Addr} {p : Addr × Obj} {news : List (Addr × Obj)} (N : News h₀ L h (p :: news)) : News h₀ L h news := fun q hq => N q (.tail _ hq)
theorem rows_spec {w : World} {mg mb : Str → Option Value} {s : Shared} {Q E : Value → Shared → Prop} (Wd P : Addr) (wv : List Value) (ws : List Str) (as : List Addr) (pts : List (Int × Int)) (e : Int) (t : Tok)
  (X : (Mine.hd.heap_1 w.params).In s.heap) (T : TopRead Mine.vw LS mg mb s.heap) (hP : PtsAt s.heap P as pts) (hn0 : pts.length ≤ 100) (hn2 : 3 ≤ pts.length)
  (hb : ∀ p ∈ pts, (-1000 ≤ p.1 ∧ p.1 ≤ 1000) ∧ -1000 ≤ p.2 ∧ p.2 ≤ 1000)
  (hW : s.heap.IsList Wd wv.toArray) (hws : StrsAre wv ws) (hwl : ∀ x ∈ ws, x.length ≤ 100) (hwn : ws.length ≤ 100)
  (hret : ∀ (R : Addr) (rv : Array Value) (h' : Heap) (tk' : Nat), s.heap.get? R = none → Grows s.heap h' → h'.IsList R rv → StrsAre rv.toList (rowsF pts ws e) → Q (.ref R) { s with heap := h', toks := tk' }) :
  wpAny (model PP w) (AD 500) (call (.ref 239) [.ref Wd, .ref P, .int e t]) Q E s := by
  have hl := hP.list
  have hlen := hP.len
  have hsz : (as.map Value.ref).toArray.size ≤ sizeLine := by
    have : (as.map Value.ref).toArray.size = pts.length := by simp [hP.len]
    rw [this, sizeLine_eq]; omega
  k_dflt walk_at "m_enter"
  k_steps
  (with_reducible rename Fr _ _ _ _ => F)
  (with_reducible rename News _ _ _ _ => N)
  refine len_list (isList_keep F hl) (by rw [sizeLine_eq] at hsz; omega) ?_
  rw [show (as.map Value.ref).toArray.size = pts.length by simp [hlen]]
  iterate 2 walk1
  (with_reducible rename Fr _ _ _ _ => F)
  (with_reducible rename News _ _ _ _ => N)
  (with_reducible rename IsRange _ _ _ _ _ _ _ _ => hR)
  refine rows_loop pts ws e (Str.ofString "begun") hR F N rfl rfl hn2 hn0 ?_ ?_
  · clear F N hR
    intro i t1 tb h1 tk1 own rv nn hi ho hrv F N
    k_steps
    clear F N
    (with_reducible rename Fr _ _ _ _ => F)
    (with_reducible rename News _ _ _ _ => N)
    have hle := rowsTo_le pts ws e i
    rw [show (2 + (i : Int) + 1) = ((i + 3 : Nat) : Int) by omega, pick_mid] at N
    refine wpAny_AD 600 rfl (Nat.le_of_ble_eq_true rfl) (Nat.le_of_ble_eq_true rfl) ?_
    refine kept_spec _ (slice as (rowsTo pts ws e i).1 (i + 3)) (slice pts (rowsTo pts ws e i).1 (i + 3)) e t (X.keeps F.keep) (T.keeps F.keep) ((hP.keeps F.keep).slice ⟨_, N.get (.head _), rfl, _, rfl⟩) ?_ ?_ ?_ fun b h2 tk2 hg2 hK => ?_
    · rw [slice_len]; omega
    · rw [slice_len]; omega
    · exact fun p hp => hb p (slice_mem hp)
    have F2 := F.keeps hg2
    have N2 := News.tail (N.grown hg2)
    clear F N hg2
    have hs := rowsTo_succ pts ws e i
    unfold stepR at hs
    cases b with
    | true =>
      rw [if_pos (hK.mp rfl)] at hs
      k_steps
      (with_reducible rename Fr _ _ _ _ => F)
      (with_reducible rename News _ _ _ _ => N)
      refine InvEndN.intro F N (nx := [_, _]) ⟨rv, nn, rfl, by rw [hs]; exact hrv, ⟨tb, by rw [hs]; rfl⟩, fun z h1 h2 => (if_neg h1).trans (if_neg h2)⟩ rfl (fun p hp => ?_) fun p hp => .tail _ (.tail _ hp)
      rcases List.mem_cons.mp hp with rfl | hp
      · exact .head _
      · rw [List.mem_singleton.mp hp]; exact .tail _ (.head _)
    | false =>
      rw [if_neg (fun q => by have := hK.mpr q; cases this)] at hs
      k_steps
      (with_reducible rename Fr _ _ _ _ => F)
      (with_reducible rename News _ _ _ _ => N)
      rw [show (2 + (i : Int) - 1) = ((i + 1 : Nat) : Int) by omega, pick_mid] at N
      refine join_listW ⟨_, N.get (.head _), rfl, _, rfl⟩ (strs_slice hws _ _) (by decide) ?_ fun t2 tk2 => ?_
      · have := sum_le_of (ys := slice ws (rowsTo pts ws e i).1 (i + 1)) fun x hx => hwl x (slice_mem hx)
        have : (slice ws (rowsTo pts ws e i).1 (i + 1)).length ≤ ws.length := by rw [slice_len]; omega
        omega
      have hrn : rv.size ≤ sizeLine := by
        have h1 := hrv.length
        have h2 := rowsTo_len pts ws e i
        rw [Array.length_toList] at h1
        rw [sizeLine_eq]; omega
      have N3 := News.tail N
      clear N N2 F2
      have hsp : ((i : Int) + 2 - 1) = ((i + 1 : Nat) : Int) := by omega
      k_steps
      (with_reducible rename Fr _ _ _ _ => F)
      (with_reducible rename News _ _ _ _ => N)
      refine InvEndN.intro F N (nx := [_, (_, W.listOf (rv.push (.str (Txt.join (Str.ofString "") (slice ws (rowsTo pts ws e i).1 (i + 1))) t2)) (nn + 1))]) ⟨rv.push (.str (Txt.join (Str.ofString "") (slice ws (rowsTo pts ws e i).1 (i + 1))) t2), nn + 1, rfl, ?gA, ?gB, fun z h1 h2 => (if_neg h2).trans ((if_neg h1).trans (if_neg h2))⟩ rfl (fun p hp => ?gC) fun p hp => .tail _ (.tail _ hp)
      case gA =>
        rw [hs, Array.toList_push]
        exact strs_snoc hrv _ _
      case gB =>
        rw [hs]
        exact ⟨_, (if_pos rfl).trans (by rw [show (2 + (i : Int) - 1) = ((i + 2 - 1 : Nat) : Int) by omega])⟩
      case gC =>
        rcases List.mem_cons.mp hp with rfl | hp
        · exact .head _
        · rw [List.mem_singleton.mp hp]; exact .tail _ (.head _)
  · clear F N hR
    intro u tb h1 tk1 rv nn hrv F N
    k_steps
    clear F N
    (with_reducible rename Fr _ _ _ _ => F)
    (with_reducible rename News _ _ _ _ => N)
    have hle := rowsTo_le pts ws e (pts.length - 2)
    rw [pick_from] at N
    refine join_listW ⟨_, N.get (.head _), rfl, _, rfl⟩ (hws.drop' _) (by decide) ?_ fun t2 tk2 => ?_
    · have := sum_le_of (ys := ws.drop (rowsTo pts ws e (pts.length - 2)).1) fun x hx => hwl x (List.mem_of_mem_drop hx)
      have : (ws.drop (rowsTo pts ws e (pts.length - 2)).1).length ≤ ws.length := by simp
      omega
    k_steps
    (with_reducible rename Fr _ _ _ _ => F)
    (with_reducible rename News _ _ _ _ => N)
    refine add_arrays F N ⟨_, N.get (.tail _ (.tail _ (.tail _ (.head _)))), rfl, _, rfl⟩ ⟨_, N.get (.head _), rfl, _, rfl⟩ (fun h' F' N' => ?_) ?_
    · k_steps
      (try dsimp only)
      refine hret _ _ _ _ ?_ (Fr.keep (by assumption)) ⟨_, News.get N' (.head _), rfl, _, rfl⟩ ?_
      · exact (N' _ (.head _)).2.2
      · exact strs_snoc hrv _ _
    · have h1 := hrv.length
      have h2 := rowsTo_len pts ws e (pts.length - 2)
      rw [Array.length_toList] at h1
      rw [sizeLine_eq]; simp; omega
end
end Mine

-- AccL
namespace Mine
open PySem PySem.W PyProof.Rows PySem.Spec PySem.Calls
set_option maxRecDepth 100000
set_option maxHeartbeats 8000000
set_option pp.deepTerms false
set_option pp.deepTerms.threshold 8
set_option pp.fieldNotation false
noncomputable section
local macro_rules | `(tactic| walk_at "m_enter") => `(tactic| (refine' enterP ?X ?lim ?g ?gs ?M ?room ?ho ?hcd ?bind ?loc ?_ ?c1 ?c2 ?c3 ?c4; (case X => k_asm); (case lim => exact TopRead.nolimit (by k_asm)); (case g => exact Grows.refl _); (case gs => exact Nat.le_refl _); (case M => exact List.forall_mem_nil _); (case room => decide); (case ho => k_is); (case hcd => k_is); (case bind => exact BindsTo.of_eq rfl); (case loc => exact locs rfl); (case c1 => exact rfl); (case c2 => exact rfl); (case c3 => exact rfl); (case c4 => decide); k_whole; intro h' F' N'; (try dsimp only); (try k_fold)))
abbrev accObj (dx : Addr) (its : Array Value) (n : Nat) : Obj := { cls := .ref 178, dict := some dx, data := .seq its n }
section
variable {w : World} {A : Around} {E : Value → Shared → Prop} {s : Shared} {a dx : Addr} {its : Array Value} {n : Nat}
theorem acc_sub {M : Model} {h : Heap} (X : (Mine.hd.heap_1 w.params).In h) : Looks M h (isSubtype (.ref 178) (.type "list")) true := looks_subIn X (by k_is)
theorem acc_isi {M : Model} {h : Heap} (X : (Mine.hd.heap_1 w.params).In h) (ho : h.get? a = some (accObj dx its n)) : Looks M h (isInstance (.ref a) (.type "list")) true := ((Looks.ld ho).andThen .now).andThen (acc_sub X)
/-- a builtin of list called with an accumulator -/
theorem call_acc {id : String} {name : String} {b : Builtin} {rest : List Value} {Q : Value → Shared → Prop} (X : (Mine.hd.heap_1 w.params).In s.heap) (ho : s.heap.get? a = some (accObj dx its n))
    (hp : plainId id = true) (hb : entryFor table id = some b) (hk : builtinKind id = some .slot ∨ builtinKind id = some .method) (hs : splitId id = some ("list", name)) (ha : argsOk id ⟨.ref a :: rest, []⟩)
    (hc : wpAny (model PP w) A.in1 (b ⟨.ref a :: rest, []⟩) (fun fin s' => ∃ v, fin = .done (.ret v) ∧ Q v s') E s) :
    wpAny (model PP w) A (call (.builtin id) (.ref a :: rest)) Q E s := by
  refine wpAny_call (codeAny_call_builtin hp hb ?_)
  have hi := acc_isi (M := model PP w) X ho
  rcases hk with hk | hk
  all_goals
    simp only [checkBuiltinCall, hk, hs]
    refine wpAny_bind (hi.here ?_)
    simp only [Bool.not_true, Bool.false_eq_true, if_false]
    cases hsig : Manifest.signature? id with
    | none => exact wpAny_pure (wpAny_mono hc (fun fin s' h' => by obtain ⟨v, rfl, hv⟩ := h'; exact hv) fun _ _ h' => h')
    | some sig =>
      simp only [argsOk, hsig] at ha
      have h2 : Bind.checkArgs id sig ⟨.ref a :: rest, []⟩ = pure () := ha
      show wpAny _ _ (Bind.checkArgs id sig ⟨.ref a :: rest, []⟩) _ _ s
      rw [h2]; exact wpAny_pure (wpAny_mono hc (fun fin s' h' => by obtain ⟨v, rfl, hv⟩ := h'; exact hv) fun _ _ h' => h')
theorem mapSeq_acc (x : Value) : Obj.mapSeq (·.push x) (accObj dx its n) = accObj dx (its.push x) (n + 1) := by simp [Obj.mapSeq]
theorem acc_append {x : Value} {Q : Value → Shared → Prop} (X : (Mine.hd.heap_1 w.params).In s.heap) (ho : s.heap.get? a = some (accObj dx its n)) (hsz : its.size ≤ sizeLine)
    (h : ∀ h', Heap.SameBut a s.heap h' → h'.get? a = some (accObj dx (its.push x) (n + 1)) → Q .none { s with heap := h' }) :
    wpAny (model PP w) A (call (.builtin "list.append") [.ref a, x]) Q E s := by
  refine call_acc (name := "append") X ho slot_list_append.plain entry_list_append (.inr (by decide +kernel)) (by decide +kernel) (args_list_append _ _) ?_
  show wpAny _ _ (updateSeq a (·.push x) >>= fun _ => ret .none) _ _ s
  refine wpAny_bind ?_
  refine wpAny_updateSeq ho rfl (wpAny_pure ⟨.none, rfl, h _ (Heap.SameBut.update ..) ?_⟩) hsz
  rw [Heap.get?_update_self _ ho (by rw [mapSeq_acc]; rfl), mapSeq_acc]
theorem acc_len {Q : Value → Shared → Prop} (X : (Mine.hd.heap_1 w.params).In s.heap) (ho : s.heap.get? a = some (accObj dx its n)) (hsz : its.size ≤ 1000)
    (h : ∀ t tk, Q (.int its.size t) { s with toks := tk }) :
    wpAny (model PP w) A (call (.builtin "list.__len__") [.ref a]) Q E s := by
  refine call_acc (name := "__len__") (b := Builtin.«list.__len__») X ho (by decide +kernel) (entryFor_of_tree (by kernel_rfl)) (.inl (by decide +kernel)) (by decide +kernel) (by unfold argsOk; kernel_rfl) ?_
  unfold Builtin.«list.__len__»
  repeat lk
  exact ⟨_, rfl, h _ _⟩
theorem acc_pop {x : Value} {Q : Value → Shared → Prop} (X : (Mine.hd.heap_1 w.params).In s.heap) (ho : s.heap.get? a = some (accObj dx (its.push x) n)) (hsz : its.size ≤ 1000)
    (h : ∀ h', Heap.SameBut a s.heap h' → h'.get? a = some (accObj dx its (n + 1)) → Q x { s with heap := h' }) :
    wpAny (model PP w) A (call (.builtin "list.pop") [.ref a]) Q E s := by
  refine call_acc (name := "pop") X ho PySem.F.slot_list_pop.plain PySem.F.entry_list_pop (.inr (by decide +kernel)) (by decide +kernel) (PySem.F.args_list_pop_1 _) ?_
  unfold Builtin.«list.pop»
  repeat lk
  have e1 : (its.push x).isEmpty = false := by simp
  have e2 : seqIndex? (-1) (its.push x).size = some its.size := by
    rw [Array.size_push]
    unfold seqIndex?
    dsimp only
    rw [if_pos (show (-1 : Int) < 0 by decide), if_pos (by simp; omega)]
    congr 1
    omega
  have e3 : (its.push x)[its.size]? = some x := by simp
  rw [e1, if_neg (by decide), e2]
  simp only [Option.bind_some, e3, Option.map_some]
  refine wpAny_bind ?_
  show wpAny _ _ (updateSeq a _) _ _ _
  refine wpAny_updateSeq (f := fun x => x.eraseIdxIfInBounds its.size) ho rfl ?_ (by rw [Array.size_push, sizeLine_eq]; omega) (by simp [Array.eraseIdxIfInBounds, sizeLine_eq]; omega)
  refine wpAny_pure ⟨x, rfl, h _ (Heap.SameBut.update ..) ?_⟩
  rw [Heap.get?_update_self _ ho (by rfl)]
  have e4 : (its.push x).eraseIdxIfInBounds its.size = its := by
    have := kl_erase its.toList [] x
    rw [List.append_nil, Array.toArray_toList, Array.length_toList] at this
    rw [show its.push x = (its.toList ++ [x]).toArray from Array.toList_inj.mp (by rw [Array.toList_push])]
    exact this
  simp only [Obj.mapSeq, e4]
  rw [if_neg (by simp)]

theorem acc_typ {M : Model} {h : Heap} (ho : h.get? a = some (accObj dx its n)) : Looks M h (typeOf (.ref a)) (.ref 178) := (Looks.ld ho).andThen .now
theorem acc_getitem_b {k : Int} {t : Tok} {x : Value} {Q : Value → Shared → Prop} (X : (Mine.hd.heap_1 w.params).In s.heap) (ho : s.heap.get? a = some (accObj dx its n)) (hsz : its.size ≤ 1000) (h0 : 0 ≤ k) (hx : its[k.toNat]? = some x)
    (h : Q x s) : wpAny (model PP w) A (call (.builtin "list.__getitem__") [.ref a, .int k t]) Q E s := by
  refine call_acc (name := "__getitem__") X ho slot_list_getitem.plain (b := Builtin.«list.__getitem__») (entryFor_of_tree (by kernel_rfl)) (.inr (by decide +kernel)) (by decide +kernel) (by unfold argsOk; kernel_rfl) ?_
  unfold Builtin.«list.__getitem__»
  have hlt : k.toNat < its.size := (Array.getElem?_eq_some_iff.mp hx).1
  have q : Builtin.List.listFitsIndex k = true := by simp only [Builtin.List.listFitsIndex, Bool.and_eq_true, decide_eq_true_eq]; omega
  repeat lk
  rw [q]
  simp only [Bool.not_true, Bool.false_eq_true, if_false]
  obtain ⟨m, rfl⟩ := Int.eq_ofNat_of_zero_le h0
  refine wpAny_pure ?_
  dsimp only
  repeat (with_reducible refine wpAny_bind ?_)
  show wpAny _ _ (seqItemAt a m >>= _) _ _ _
  refine wpAny_bind (wpAny_seqItemAt ho rfl (wpAny_pure ?_))
  rw [show its[m]? = some x from hx]
  exact wpAny_pure ⟨_, rfl, h⟩
/-- an item of an accumulator -/
theorem acc_item {k : Int} {t : Tok} {x : Value} {Q : Value → Shared → Prop} (X : (Mine.hd.heap_1 w.params).In s.heap) (ho : s.heap.get? a = some (accObj dx its n)) (hsz : its.size ≤ 1000) (h0 : 0 ≤ k) (hx : its[k.toNat]? = some x)
    (h : Q x s) : wpAny (model PP w) A (getItem (.ref a) (.int k t)) Q E s := by
  unfold getItem sequenceKey callSpecial? specialOf
  have t0 := acc_typ (M := model PP w) ho
  have f0 : Looks (model PP w) s.heap (typeLookup (.ref 178) "__getitem__") (some (.builtin "list.__getitem__")) := looks_findIn X (by k_is)
  have f1 : Looks (model PP w) s.heap (seqItemTypes.anyM fun n => isSubtype (.ref 178) (.type n)) false := anyM_none X (by show noSeq _ _ = true; k_is)
  repeat (first | ((with_reducible show wpAny _ _ (call (Value.builtin _) _ _) _ _ _); refine acc_getitem_b X ho hsz h0 hx ?_) | lk)
  exact h

theorem acc_getslice_b {sl : Addr} {vl vu : Value} {lo hi : Option Int} {Q : Value → Shared → Prop} (X : (Mine.hd.heap_1 w.params).In s.heap) (ho : s.heap.get? a = some (accObj dx its n)) (hsz : its.size ≤ 1000)
    (hs : s.heap.IsSliceOf sl vl vu .none) (pl : PySem.IsPart vl lo) (pu : PySem.IsPart vu hi)
    (h : Q (.ref s.heap.objs.size) { s with heap := s.heap.push { cls := .type "list", data := .seq (slicePick its lo hi none) } }) : wpAny (model PP w) A (call (.builtin "list.__getitem__") [.ref a, .ref sl]) Q E s := by
  obtain ⟨os, hos, hcs, hds⟩ := id hs
  have hTs : s.TypeIs (.ref sl) "slice" := ⟨os, hos, hcs⟩
  refine call_acc (name := "__getitem__") X ho slot_list_getitem.plain (b := Builtin.«list.__getitem__») (entryFor_of_tree (by kernel_rfl)) (.inr (by decide +kernel)) (by decide +kernel) (by unfold argsOk; kernel_rfl) ?_
  unfold Builtin.«list.__getitem__»
  refine wpAny_bind ?_
  refine wpAny_pure ?_
  dsimp only
  refine wpAny_bind ?_
  unfold Builtin.List.listSubscript?
  refine wpAny_bind (wpAny_specialOf hTs slice_no_index ?_)
  simp only [Option.isNone_none, if_true]
  refine wpAny_pure ?_
  dsimp only
  refine wpAny_bind (wpAny_typeOf hTs ?_)
  rw [if_neg (by decide)]
  rw [listSliceParts_eq]
  refine wpAny_bind (wpAny_bind (wpAny_field hos hds (x := .none) rfl (wpAny_bind (wpAny_listPart .none ?_))))
  rw [if_neg (by exact Bool.false_ne_true)]
  dsimp only
  refine wpAny_bind (wpAny_field hos hds (x := vl) rfl (wpAny_bind (wpAny_listPart pl ?_)))
  refine wpAny_bind (wpAny_field hos hds (x := vu) rfl (wpAny_bind (wpAny_listPart pu (wpAny_pure ?_))))
  refine wpAny_bind (m := Builtin.List.listItems (.ref a)) ?_
  refine wpAny_listItems ho rfl ?_
  refine wpAny_bind (wpAny_of_eq (sliceIndices_raw lo hi none its.size (by simp)) ?_)
  refine wpAny_bind (wpAny_newObj_type (wpAny_pure ⟨_, rfl, h⟩) (Nat.le_trans (slicePick_size_le its lo hi none) (by rw [sizeLine_eq]; omega)))
theorem acc_slice {sl : Addr} {vl vu : Value} {lo hi : Option Int} {Q : Value → Shared → Prop} (X : (Mine.hd.heap_1 w.params).In s.heap) (ho : s.heap.get? a = some (accObj dx its n)) (hsz : its.size ≤ 1000)
    (hs : s.heap.IsSliceOf sl vl vu .none) (pl : PySem.IsPart vl lo) (pu : PySem.IsPart vu hi)
    (h : Q (.ref s.heap.objs.size) { s with heap := s.heap.push { cls := .type "list", data := .seq (slicePick its lo hi none) } }) : wpAny (model PP w) A (getItem (.ref a) (.ref sl)) Q E s := by
  unfold getItem sequenceKey callSpecial? specialOf
  have t0 := acc_typ (M := model PP w) ho
  have f0 : Looks (model PP w) s.heap (typeLookup (.ref 178) "__getitem__") (some (.builtin "list.__getitem__")) := looks_findIn X (by k_is)
  have f1 : Looks (model PP w) s.heap (seqItemTypes.anyM fun n => isSubtype (.ref 178) (.type n)) false := anyM_none X (by show noSeq _ _ = true; k_is)
  repeat (first | ((with_reducible show wpAny _ _ (call (Value.builtin _) _ _) _ _ _); refine acc_getslice_b X ho hsz hs pl pu ?_) | lk)
  exact h

theorem acc_setslice_b {sl v : Addr} {vl vu : Value} {lo hi : Option Int} {ys : Array Value} {st en : Nat} {Q : Value → Shared → Prop} (X : (Mine.hd.heap_1 w.params).In s.heap) (ho : s.heap.get? a = some (accObj dx its n)) (hsz : its.size ≤ 1000) (hsz2 : ys.size ≤ 1000)
    (hs : s.heap.IsSliceOf sl vl vu .none) (pl : PySem.IsPart vl lo) (pu : PySem.IsPart vu hi) (hv : s.heap.IsList v ys) (hb : sliceBounds lo hi none its.size = ((st : Int), (en : Int), 1))
    (h : ∀ h' n', Heap.SameBut a s.heap h' → h'.get? a = some (accObj dx (its.extract 0 st ++ ys ++ its.extract (max st en) its.size) n') → Q .none { s with heap := h' }) : wpAny (model PP w) A (call (.builtin "list.__setitem__") [.ref a, .ref sl, .ref v]) Q E s := by
  obtain ⟨os, hos, hcs, hds⟩ := id hs
  have hTs : s.TypeIs (.ref sl) "slice" := ⟨os, hos, hcs⟩
  refine call_acc (name := "__setitem__") X ho (by decide +kernel) (b := Builtin.«list.__setitem__») (entryFor_of_tree (by kernel_rfl)) (.inl (by decide +kernel)) (by decide +kernel) (by unfold argsOk; kernel_rfl) ?_
  unfold Builtin.«list.__setitem__»
  obtain ⟨ov, hov, hvc, nv, hvd⟩ := id hv
  have hTv : s.TypeIs (.ref v) "list" := ⟨ov, hov, hvc⟩
  refine wpAny_bind ?_
  refine wpAny_pure ?_
  dsimp only
  refine wpAny_bind ?_
  unfold Builtin.List.listSubscript?
  refine wpAny_bind (wpAny_specialOf hTs slice_no_index ?_)
  simp only [Option.isNone_none, if_true]
  refine wpAny_pure ?_
  dsimp only
  refine wpAny_bind (wpAny_typeOf hTs ?_)
  rw [if_neg (by decide)]
  rw [listSliceParts_eq]
  refine wpAny_bind (wpAny_bind (wpAny_field hos hds (x := .none) rfl (wpAny_bind (wpAny_listPart .none ?_))))
  rw [if_neg (by exact Bool.false_ne_true)]
  dsimp only
  refine wpAny_bind (wpAny_field hos hds (x := vl) rfl (wpAny_bind (wpAny_listPart pl ?_)))
  refine wpAny_bind (wpAny_field hos hds (x := vu) rfl (wpAny_bind (wpAny_listPart pu (wpAny_pure ?_))))
  dsimp only
  have hne : Builtin.List.listSameRef (.ref a) (.ref v) = false := by
    unfold Builtin.List.listSameRef
    refine beq_false_of_ne fun e => ?_
    rw [e, hov] at ho
    cases ho
    cases hvc
  rw [if_neg (by rw [hne]; decide)]
  refine wpAny_bind ?_
  unfold Builtin.List.listAllItems
  refine wpAny_bind (wpAny_typeOf hTv ?_)
  rw [if_pos (by decide)]
  refine wpAny_listItems hov hvd ?_
  refine wpAny_bind (wpAny_listItems ho rfl ?_)
  refine wpAny_bind (wpAny_of_eq (sliceIndices_raw lo hi none its.size (by simp)) ?_)
  rw [hb]
  dsimp only
  rw [if_pos (by decide)]
  refine wpAny_bind (wpAny_rule ?_)
  have hlong : Builtin.List.listTooLong (its.size + ys.size) = false := by
    unfold Builtin.List.listTooLong
    rw [sizeLine_eq]
    exact decide_eq_false (by omega)
  rw [if_neg (by rw [hlong]; decide)]
  have e4 : its.extract 0 (st : Int).toNat ++ ys ++ its.extract (max (st : Int) (en : Int)).toNat its.size = its.extract 0 st ++ ys ++ its.extract (max st en) its.size := by
    rw [show (max (st : Int) (en : Int)).toNat = max st en by omega]; rfl
  obtain ⟨n', hn'⟩ : ∃ n', (s.heap.update a (Obj.mapSeq fun xs => xs.extract 0 (st : Int).toNat ++ ys ++ xs.extract (max (st : Int) (en : Int)).toNat xs.size)).get? a = some (accObj dx (its.extract 0 st ++ ys ++ its.extract (max st en) its.size) n') := by
    rw [Heap.get?_update_self _ ho (by rfl)]
    simp only [Obj.mapSeq, e4]
    exact ⟨_, rfl⟩
  refine wpAny_bind ?_
  show wpAny _ _ (updateSeq a _) _ _ _
  refine wpAny_updateSeq (f := fun xs => xs.extract 0 (st : Int).toNat ++ ys ++ xs.extract (max (st : Int) (en : Int)).toNat xs.size) ho rfl ?_ (by rw [sizeLine_eq]; omega) (by simp [sizeLine_eq]; omega)
  refine wpAny_bind (wpAny_letGo ?_)
  exact wpAny_pure ⟨_, rfl, h _ n' (Heap.SameBut.update ..) hn'⟩
theorem acc_setslice {sl v : Addr} {vl vu : Value} {lo hi : Option Int} {ys : Array Value} {st en : Nat} {Q : Unit → Shared → Prop} (X : (Mine.hd.heap_1 w.params).In s.heap) (ho : s.heap.get? a = some (accObj dx its n)) (hsz : its.size ≤ 1000) (hsz2 : ys.size ≤ 1000)
    (hs : s.heap.IsSliceOf sl vl vu .none) (pl : PySem.IsPart vl lo) (pu : PySem.IsPart vu hi) (hv : s.heap.IsList v ys) (hb : sliceBounds lo hi none its.size = ((st : Int), (en : Int), 1))
    (h : ∀ h' n', Heap.SameBut a s.heap h' → h'.get? a = some (accObj dx (its.extract 0 st ++ ys ++ its.extract (max st en) its.size) n') → Q () { s with heap := h' }) : wpAny (model PP w) A (setItem (.ref a) (.ref sl) (.ref v)) Q E s := by
  unfold setItem sequenceKey callSpecial? specialOf
  have t0 := acc_typ (M := model PP w) ho
  have f0 : Looks (model PP w) s.heap (typeLookup (.ref 178) "__setitem__") (some (.builtin "list.__setitem__")) := looks_findIn X (by k_is)
  have f1 : Looks (model PP w) s.heap (seqItemTypes.anyM fun n => isSubtype (.ref 178) (.type n)) false := anyM_none X (by show noSeq _ _ = true; k_is)
  repeat (first | ((with_reducible show wpAny _ _ (call (Value.builtin _) _ _) _ _ _); refine acc_setslice_b X ho hsz hsz2 hs pl pu hv hb ?_) | lk)
  intro h' n' hs' hg'
  exact wpAny_pure (wpAny_pure (h h' n' hs' hg'))
end
end
end Mine

-- AccI
namespace Mine
open PySem PySem.W PyProof.Rows PySem.Spec PySem.Calls
set_option maxRecDepth 100000
set_option maxHeartbeats 8000000
set_option pp.deepTerms false
set_option pp.deepTerms.threshold 8
set_option pp.fieldNotation false
noncomputable section
local macro_rules | `(tactic| walk_at "m_enter") => `(tactic| (refine' enterP ?X ?lim ?g ?gs ?M ?room ?ho ?hcd ?bind ?loc ?_ ?c1 ?c2 ?c3 ?c4; (case X => k_asm); (case lim => exact TopRead.nolimit (by k_asm)); (case g => exact Grows.refl _); (case gs => exact Nat.le_refl _); (case M => exact List.forall_mem_nil _); (case room => decide); (case ho => k_is); (case hcd => k_is); (case bind => exact BindsTo.of_eq rfl); (case loc => exact locs rfl); (case c1 => exact rfl); (case c2 => exact rfl); (case c3 => exact rfl); (case c4 => decide); k_whole; intro h' F' N'; (try dsimp only); (try k_fold)))
/-- an object that holds items, whatever its class -/
def Holds (h : Heap) (a : Addr) (items : Array Value) : Prop := ∃ o n, h.get? a = some o ∧ o.data = .seq items n
theorem Holds.at {h h' : Heap} {a : Addr} {items : Array Value} (x : Holds h a items) (e : ∀ o, h.get? a = some o → h'.get? a = some o) : Holds h' a items := let ⟨o, n, g, r⟩ := x; ⟨o, n, e o g, r⟩
section
variable {prog : Program} {w : World} {A : Around} {E : Value → Shared → Prop} {s : Shared}
theorem next_item {it l : Addr} {i : Nat} {items} {x : Value} {Q : Option Value → Shared → Prop} (hit : s.heap.IsListIter it l i) (hl : Holds s.heap l items) (hx : items[i]? = some x)
    (hQ : ∀ h', h'.IsListIter it l (i + 1) → Heap.SameBut it s.heap h' → Q (some x) { s with heap := h' }) : wpAny (model prog w) A (pyNext (.ref it)) Q E s := by
  obtain ⟨o, ho, hc, hd⟩ := id hit
  obtain ⟨ol, nl, hol, hdl⟩ := hl
  unfold pyNext
  refine wpAny_bind (wpAny_attempt (wpAny_callSpecial?_slot (name := Str.ofString "__next__") hit.typeIs slot_listiter_next
    (wpAny_call_entry slot_listiter_next hit.typeIs entry_listiter_next ?_ (args_listiter_next _))))
  show wpAny _ _ (field (.ref it) 0 >>= _) _ _ s
  refine wpAny_bind (wpAny_field ho hd (x := .ref l) rfl ?_)
  show wpAny _ _ (if (Value.ref l == Value.none) = true then _ else _) _ _ s
  rw [if_neg (show ¬ ((Value.ref l == Value.none) = true) from Bool.false_ne_true)]
  show wpAny _ _ (field (.ref it) 1 >>= _) _ _ s
  refine wpAny_bind (wpAny_field ho hd (x := .int i 0) rfl ?_)
  show wpAny _ _ (seqItems? (.ref l) >>= _) _ _ s
  refine wpAny_bind (wpAny_seqItems hol hdl ?_)
  simp only [Int.toNat_natCast, hx]
  refine wpAny_bind (wpAny_setField ho hd (by simp) (wpAny_pure ⟨x, rfl, wpAny_pure (hQ _ ?_ (Heap.SameBut.update ..))⟩))
  exact ⟨_, Heap.get?_update_self _ ho (Obj.isFreed_of_fields (Obj.data_mapFields hd _)), (Obj.cls_mapFields ..).trans hc, by
    rw [Obj.data_mapFields hd]; simp [rawInt]⟩
theorem next_end {it l : Addr} {i : Nat} {items} {Q : Option Value → Shared → Prop} (hh : A.handled = none) (hit : s.heap.IsListIter it l i) (hl : Holds s.heap l items) (hx : items[i]? = none)
    (hQ : ∀ h', Heap.ExtBut it s.heap h' → Q none { s with heap := h' }) : wpAny (model prog w) A (pyNext (.ref it)) Q E s := by
  obtain ⟨o, ho, hc, hd⟩ := id hit
  obtain ⟨ol, nl, hol, hdl⟩ := hl
  unfold pyNext
  refine wpAny_bind (wpAny_attempt (wpAny_callSpecial?_slot (name := Str.ofString "__next__") hit.typeIs slot_listiter_next
    (wpAny_call_entry slot_listiter_next hit.typeIs entry_listiter_next ?_ (args_listiter_next _))))
  show wpAny _ _ (field (.ref it) 0 >>= _) _ _ s
  refine wpAny_bind (wpAny_field ho hd (x := .ref l) rfl ?_)
  show wpAny _ _ (if (Value.ref l == Value.none) = true then _ else _) _ _ s
  rw [if_neg (show ¬ ((Value.ref l == Value.none) = true) from Bool.false_ne_true)]
  show wpAny _ _ (field (.ref it) 1 >>= _) _ _ s
  refine wpAny_bind (wpAny_field ho hd (x := .int i 0) rfl ?_)
  show wpAny _ _ (seqItems? (.ref l) >>= _) _ _ s
  refine wpAny_bind (wpAny_seqItems hol hdl ?_)
  simp only [Int.toNat_natCast, hx]
  refine wpAny_bind (wpAny_rule (wpAny_bind (wpAny_setField ho hd (by simp) ?_)))
  show wpAny _ _ (newExc (.type "StopIteration") [] >>= _) _ _ _
  refine wpAny_bind ?_
  simp only [newExc, newTuple]
  refine wpAny_bind (wpAny_newObj_type ?_ (by size_fits))
  refine wpAny_bind (m := firstArgMember _ _) (wpAny_of_eq (a := Value.none) (by first | rfl | (simp only [firstArgMember]; rfl)) ?_)
  refine wpAny_newObj_type ?_ (by size_fits)
  simp only [raiseNew]
  refine wpAny_bind (wpAny_handled ?_)
  rw [show A.in1.handled = none from hh]
  refine wpAny_bind (wpAny_pure (wpAny_throw ?_))
  refine wpAny_bind (wpAny_isInstance (T := "StopIteration") (b := true) ⟨_, Heap.get?_push_size _ rfl, rfl⟩ isSubtype_stop ?_)
  exact wpAny_pure (hQ _ (((Heap.SameBut.update ..).extBut.push _).push _))
theorem walksTuples (hh : A.handled = none) (I ax : Addr) (hne : ax ≠ I) (items : Array Value) (Ts : Nat → Addr) (vals : Nat → Array Value)
    (hit : ∀ j, j < items.size → items[j]? = some (.ref (Ts j))) (hTI : ∀ j, j < items.size → Ts j ≠ I) :
    WalksU prog w A I (I :: ax :: (List.range items.size).map Ts) [I] items.size (fun j v => v = vals j)
      (fun j h => h.IsListIter I ax j ∧ Holds h ax items ∧ ∀ k, k < items.size → h.IsTuple (Ts k) (vals k))
      (fun j T h => (j < items.size ∧ T = Ts j) ∧ h.IsListIter I ax (j + 1) ∧ Holds h ax items ∧ ∀ k, k < items.size → h.IsTuple (Ts k) (vals k)) where
  sub := fun b hb => by simp at hb; simp [hb]
  frame := fun _ _ _ st hk => ⟨st.1.at fun o e => hk I (by simp) o e, st.2.1.at fun o e => hk ax (by simp) o e,
    fun k hk' => (st.2.2 k hk').at fun o e => hk (Ts k) (List.mem_cons_of_mem _ (List.mem_cons_of_mem _ (List.mem_map.mpr ⟨k, List.mem_range.mpr hk', rfl⟩))) o e⟩
  item := fun i s Q E hi st hQ => by
    refine next_item st.1 st.2.1 (x := .ref (Ts i)) (hit i hi) fun h' hit' hs' => ?_
    have tup : ∀ k, k < items.size → h'.IsTuple (Ts k) (vals k) := fun k hk' => (st.2.2 k hk').extBut hs'.extBut (hTI k hk')
    exact hQ (Ts i) (vals i) h' s.toks rfl (tup i hi) ⟨⟨hi, rfl⟩, hit', st.2.1.at fun o e => hs'.extBut _ o hne e, tup⟩ fun b o hb e => hs'.extBut b o (fun h => hb (by simp [h])) e
  go := fun _ _ _ _ _ s Q _ hm hQ => wpAny_letOwnedTupleGo_listiter hm.2.1 (hQ s.heap hm.2 fun _ _ _ e => e)
  apart := fun j T _ hm hmem => by
    rcases List.mem_cons.mp hmem with e | e
    · exact hTI j hm.1.1 (hm.1.2 ▸ e)
    · cases e
  done := fun s Q E st hQ => next_end hh st.1 st.2.1 (by simp) fun h' he' => hQ h' s.toks fun b o hb e => he' b o (fun h => hb (by simp [h])) e
  self := fun _ _ _ _ st hQ => wpAny_pyIter_listiter st.1 hQ
end
section
variable {w : World} {A : Around} {E : Value → Shared → Prop} {s : Shared} {a dx : Addr} {its : Array Value} {n : Nat}
theorem acc_iter_b {Q : Value → Shared → Prop} (X : (Mine.hd.heap_1 w.params).In s.heap) (ho : s.heap.get? a = some (accObj dx its n))
    (h : Q (.ref s.heap.objs.size) { s with heap := s.heap.push { cls := .type "list_iterator", data := .fields #[.ref a, .int 0 0] } }) : wpAny (model PP w) A (call (.builtin "list.__iter__") [.ref a]) Q E s := by
  refine call_acc (name := "__iter__") X ho slot_list_iter.plain entry_list_iter (.inl (by decide +kernel)) (by decide +kernel) (args_list_iter _) ?_
  show wpAny _ _ (do ret (← newFields "list_iterator" [.ref a, rawInt 0])) _ _ s
  exact wpAny_bind (wpAny_newObj_type (wpAny_pure ⟨_, rfl, h⟩))
theorem acc_iter {Q : Value → Shared → Prop} (X : (Mine.hd.heap_1 w.params).In s.heap) (ho : s.heap.get? a = some (accObj dx its n))
    (h : Q (.ref s.heap.objs.size) { s with heap := s.heap.push { cls := .type "list_iterator", data := .fields #[.ref a, .int 0 0] } }) : wpAny (model PP w) A (pyIter (.ref a)) Q E s := by
  have t0 := acc_typ (M := model PP w) ho
  have f0 : Looks (model PP w) s.heap (typeLookup (.ref 178) "__iter__") (some (.builtin "list.__iter__")) := looks_findIn X (by k_is)
  have fin : wpAny (model PP w) A (call (.builtin "list.__iter__") [.ref a]) (fun v s' => wpAny (model PP w) A (specialOf v "__next__" >>= fun x => match x with | none => (do rule "iter.non-iterator"; raiseError "TypeError" s!"iter() returned non-iterator of type '{← typeNameOf v}'") | some _ => pure v) Q E s') E s := by
    refine acc_iter_b X ho ?_
    exact wpAny_bind (wpAny_specialOf (T := "list_iterator") ⟨_, Heap.get?_push_size _ rfl, rfl⟩ slot_listiter_next.lookup (wpAny_pure h))
  unfold pyIter
  refine wpAny_bind ?_
  unfold specialOf
  refine wpAny_bind (t0.here (f0.here ?_))
  dsimp only
  refine wpAny_bind ?_
  simp only [callSpecialIfBoundUnlessNone?, bindSpecialIfBound?, specialOf]
  refine wpAny_holding (wpAny_bind (wpAny_bind (wpAny_bind (t0.here (f0.here ?_)))))
  simp only [slot_list_iter.bind]
  refine wpAny_bind (wpAny_askSetting (wpAny_ite ?_))
  split
  all_goals
    first
    | (refine wpAny_tryCatch (wpAny_bind (wpAny_pure (wpAny_pure ?_))); skip)
    | refine wpAny_bind (wpAny_pure (wpAny_pure ?_))
    dsimp only
    rw [if_neg (by exact Bool.false_ne_true)]
    refine wpAny_bind (wpAny_mono fin (fun v s' h' => wpAny_pure ?_) fun _ _ e => e)
    exact h'
end
end
end Mine

-- AccG
namespace Mine
open PySem PySem.W PyProof.Rows PySem.Spec PySem.Calls
set_option maxRecDepth 100000
set_option maxHeartbeats 8000000
set_option pp.deepTerms false
set_option pp.deepTerms.threshold 8
set_option pp.fieldNotation false
noncomputable section
local macro_rules | `(tactic| walk_at "m_enter") => `(tactic| (refine' enterP ?X ?lim ?g ?gs ?M ?room ?ho ?hcd ?bind ?loc ?_ ?c1 ?c2 ?c3 ?c4; (case X => k_asm); (case lim => exact TopRead.nolimit (by k_asm)); (case g => exact Grows.refl _); (case gs => exact Nat.le_refl _); (case M => exact List.forall_mem_nil _); (case room => decide); (case ho => k_is); (case hcd => k_is); (case bind => exact BindsTo.of_eq rfl); (case loc => exact locs rfl); (case c1 => exact rfl); (case c2 => exact rfl); (case c3 => exact rfl); (case c4 => decide); k_whole; intro h' F' N'; (try dsimp only); (try k_fold)))
/-- what stands beneath a call: g is kept -/
structure Base (w : World) (mg mb : Str → Option Value) (g h : Heap) : Prop where
  X : (Mine.hd.heap_1 w.params).In g
  T : TopRead Mine.vw LS mg mb g
  grows : Grows g h
  size : g.objs.size ≤ h.objs.size
  main : ∃ bm ob, mg "__builtins__" = some (.ref bm) ∧ bm ≠ builtinsNs ∧ g.get? bm = some ob ∧ ob.cls = .type "module" ∧ ob.dict = some builtinsNs ∧ ob.data = .plain
/-- the table of a code stands at P -/
def TabI (P : Addr) (h : Heap) : Prop := ∃ op ps, h.get? P = some op ∧ op = tabObj ps ∧ TriplesOk ps.toList
theorem TabI.at {P : Addr} {h h' : Heap} (x : TabI P h) (k : ∀ o, h.get? P = some o → h'.get? P = some o) : TabI P h' := let ⟨op, ps, a, r⟩ := x; ⟨op, ps, k _ a, r⟩
theorem genexprCodeT {M : Model} {A : Around} {E : Value → Shared → Prop} {s : Shared} {env : Env} {c P : Addr} {pos : Pos} {qualname : Str} {scope : Scope} {Q : Value → Shared → Prop} (hc : env.code = .ref c) (C : CodeHd s.heap c P) (TI : TabI P s.heap)
    (hQ : ∀ code h' tk, Heap.ExtBut P s.heap h' → TabI P h' → Q code { s with heap := h', toks := tk }) : wpAny M A (genexprCode env pos qualname scope) Q E s := by
  obtain ⟨op, ps, hP, rfl, ht⟩ := id TI
  cases hnf : codeAmong pos ps.toList with
  | some cv => exact wpAny_genexprCode_hit hc (C.code hP ht) hnf (hQ cv s.heap s.toks (Heap.ExtBut.refl _ _) TI)
  | none =>
    refine wpAny_genexprCodeX hc (C.code hP ht) (C.tab hP) hnf fun c' h' tk hx _ _ hcode _ htab _ => hQ _ h' tk hx ?_
    obtain ⟨o, vs, file, tf, flags, tg, inF, text, tt, op', e1, e3, f3, f4, f5, f6, f7, hP', hd', ht', f11⟩ := hcode
    have e := htab.2
    rw [hP'] at e
    rw [Option.some.inj e] at hP'
    exact ⟨_, _, hP', rfl, ht'⟩
theorem passing_all (n : Nat) : passing (fun _ => true) n 0 = List.range n := by unfold passing; simp

section
variable {w : World} {A : Around} {E : Value → Shared → Prop} {s : Shared}
theorem gen_pairs {mg mb : Str → Option Value} {g : Heap} {L a dx c P : Addr} {n : Nat} {m : Str → Option Value} {env : Env} {elt iter : Expr} {xa xb : Str} {pa pb pt : Pos} {kt : Nat} {scope : Scope} {pos : Pos} {Q : Value → Shared → Prop} {its : Array Value}
    (Ts : Nat → Addr) (vals : Nat → Array Value) (Fv : Nat → Value → Prop)
    (X : (Mine.hd.heap_1 w.params).In g) (T : TopRead Mine.vw LS mg mb g) (main : ∃ bm ob, mg "__builtins__" = some (.ref bm) ∧ bm ≠ builtinsNs ∧ g.get? bm = some ob ∧ ob.cls = .type "module" ∧ ob.dict = some builtinsNs ∧ ob.data = .plain)
    (F : Fr g L s.heap m) (TI : TabI P s.heap) (hgP : g.get? P = none) (C : CodeHd g c P) (hcode : env.code = .ref c) (hge : env.globals = mainGlobals) (G : AllBare s.gens)
    (hPL : P < L) (ho : s.heap.get? a = some (accObj dx its n)) (haL : a ≠ L) (haP : a ≠ P) (hit : ∀ j, j < its.size → its[j]? = some (.ref (Ts j))) (hT : ∀ j, j < its.size → s.heap.IsTuple (Ts j) (vals j)) (htP : ∀ j, j < its.size → Ts j ≠ P) (hv : ∀ j, j < its.size → ∃ va vb, vals j = #[va, vb])
    (hiter : ∀ Q' : Value → Shared → Prop, Q' (.ref a) s → wpAny (model PP w) A (eval iter env) Q' E s)
    (helt : ∀ (code : Value) (Cl : Addr) (A' : Around) E' (i : Nat) va vb (s₂ : Shared) m₂, A'.handled = none → i < its.size → vals i = #[va, vb] → s₂.heap.Ns Cl m₂ → m₂ xa = some va → m₂ xb = some vb → Grows g s₂.heap →
      wpAny (model PP w) A' (eval elt (genEnv scope [] Cl code builtinsNs env)) (fun y s₃ => Stop (Fv i y ∧ Keeps s₂ s₃)) E' s₂)
    (hQ : ∀ a' (s₅ : Shared), Fr g L s₅.heap m → TabI P s₅.heap → AllBare s₅.gens → s₅.os = s.os → s₅.drawn = s.drawn → (∀ b o, b ≠ P → s.heap.get? b = some o → s₅.heap.get? b = some o) → Gen PP w A L a' its.size Fv s₅ → Q (.ref a') s₅)
    (hh : A.handled = none) (hco : scope.isCoroutine = false) (hclos : closureFor scope env = pure []) (hcell : ∀ y ∈ scope.names, y.2 ≠ .cell) (h0 : scope.names.lookup (".0" : Str) = some NameKind.local)
    (hxa : scope.names.lookup xa = some .local) (hxb : scope.names.lookup xb = some .local) (hab : xa ≠ xb) (hkind : scope.kind = .function) (hroom : A.depth < recursionLimit)
    (hs : ∀ x, genFold iter env x = pure x) :
    wpAny (model PP w) A (eval (.GeneratorExp elt [⟨.Tuple [.Name xa pa, .Name xb pb] kt pt, iter, [], 0⟩] scope pos) env) Q E s := by
  refine wpAny_GeneratorExp_walksQT hh hco hclos hcell h0 hxa hxb hab hkind hroom (hiter _ (acc_iter (X.keeps F.keep) ho ?_)) hs
  let hp := s.heap.push { cls := .type "list_iterator", data := .fields #[.ref a, .int 0 0] }
  have kp : ∀ b o, s.heap.get? b = some o → hp.get? b = some o := fun b o e => Heap.get?_push_of_some _ e
  have TIp : TabI P hp := TI.at fun o e => kp _ _ e
  have hPlt : P < s.heap.objs.size := by obtain ⟨op, ps, e, _⟩ := TI; exact Heap.lt_size e
  have hLlt : L < s.heap.objs.size := F.ns.lt
  refine ⟨(T.nolimit.keeps F.keep).push _, ?_⟩
  refine genexprCodeT hcode (C.keeps fun b o e => kp _ _ (F.keep b o e)) TIp fun code h₃ tk₃ hx₃ hc₃ => ?_
  have k3 : ∀ b o, b ≠ P → s.heap.get? b = some o → h₃.get? b = some o := fun b o hb e => hx₃ b o hb (kp _ _ e)
  have gk3 : Grows g h₃ := fun b o e => k3 b o (fun q => by rw [q, hgP] at e; cases e) (F.keep b o e)
  obtain ⟨bm, ob, b1, b2, b3, b4, b5, b6⟩ := main
  rw [hge]
  refine wpAny_builtinsFor (T.g.keeps gk3) b1 b2 (gk3 _ _ b3) b4 b5 b6 ?_
  have hIt : h₃.get? s.heap.objs.size = some { cls := .type "list_iterator", data := .fields #[.ref a, .int 0 0] } := hx₃ _ _ (Nat.ne_of_gt hPlt) (Heap.get?_push_size _ rfl)
  have hIlt := Heap.lt_size hIt
  have hTlt : ∀ j, j < its.size → Ts j < s.heap.objs.size := fun j hj => by obtain ⟨_, e, _⟩ := hT j hj; exact Heap.lt_size e
  have halt := Heap.lt_size ho
  have hnI : ∀ b, g.get? b ≠ none → b ≠ s.heap.objs.size := fun b hb q => by
    cases e : g.get? b with
    | none => exact hb e
    | some o => exact Nat.lt_irrefl _ (q ▸ Heap.lt_size (F.keep _ _ e))
  refine ⟨s.heap.objs.size, s.heap.objs.size :: a :: (List.range its.size).map Ts, [s.heap.objs.size], its.size, _, _, _, fun _ => true, Fv, rfl,
    (fun A' hA => (walksTuples hA s.heap.objs.size a (Nat.ne_of_lt halt) its Ts vals hit fun j hj => Nat.ne_of_lt (hTlt j hj)).bound), ?_, ?_, ?_, T.nolimit.keeps gk3, ?_, ?_, ?_⟩
  · rintro i v ⟨hi, rfl⟩
    exact hv i hi
  · exact ⟨⟨_, hIt, rfl, rfl⟩, ⟨_, n, k3 _ _ haP ho, rfl⟩, fun k hk => (hT k hk).at fun o e => k3 _ _ (htP k hk) e⟩
  · intro b hb
    rcases List.mem_cons.mp hb with rfl | hb
    · exact hIlt
    rcases List.mem_cons.mp hb with rfl | hb
    · exact Heap.lt_size (k3 _ _ haP ho)
    · obtain ⟨j, hj, rfl⟩ := List.mem_map.mp hb
      obtain ⟨o, e, _⟩ := hT j (List.mem_range.mp hj)
      exact Heap.lt_size (k3 _ _ (htP j (List.mem_range.mp hj)) e)
  · intro hm
    obtain ⟨mc, hn, _⟩ := T.nolimit
    exact Nat.lt_irrefl _ (List.mem_singleton.mp hm ▸ (hn.keeps F.keep).lt)
  · intro href hhref
    have gr : ∀ (s₂ : Shared), (∀ b ∈ List.range h₃.objs.size, b ∉ [s.heap.objs.size] → ∀ o, href.get? b = some o → s₂.heap.get? b = some o) → Grows g s₂.heap := fun s₂ hk b o e =>
      hk b (List.mem_range.mpr (Heap.lt_size (gk3 _ _ e))) (fun hm => hnI b (by rw [e]; simp) (List.mem_singleton.mp hm)) o (hhref _ _ (gk3 _ _ e))
    refine ⟨fun A' E' i va vb s₂ m₂ hA hP hn hma hmb hk => ?_, fun A' E' i va vb s₂ m₂ hA hP _ hn hma hmb hk => ?_⟩
    · rw [List.forIn_nil]
      exact wpAny_pure ⟨rfl, _, _, rfl, fun _ _ e => e⟩
    · exact helt code h₃.objs.size A' E' i va vb s₂ m₂ hA hP.1 hP.2.symm hn hma hmb (gr s₂ hk)
  · intro a' h₅ tk gs hgb hag hsz₅ hk₅ W hat
    rw [passing_all, List.length_range] at W
    have W' : WalksS PP w A.in4 a' (a' :: h₃.objs.size :: List.range h₃.objs.size) (h₃.objs.size :: [s.heap.objs.size]) (GenOnlyQ s.gens.size) its.size Fv (GenAt PP w A.in4 a' s.gens.size h₃.objs.size (List.range h₃.objs.size) [s.heap.objs.size] (fun _ => true) its.size Fv) :=
      ⟨W.sub, W.grefl, W.gtrans, W.frame, fun i s' Q' E' hi st hq => W.item i s' Q' E' hi st fun v s'' hp => hq v s'' (by
        obtain ⟨k, hk, hF⟩ := hp
        rw [List.getElem?_range hi] at hk
        exact (Option.some.inj hk) ▸ hF), W.done, W.self⟩
    refine hQ a' _ ⟨(F.ns.at fun o e => k3 _ _ (Nat.ne_of_gt hPL) e).keeps hk₅, fun b o e => hk₅ _ _ (gk3 _ _ e), F.above⟩ (hc₃.at fun o e => hk₅ _ _ e) (G.push hgb) rfl rfl (fun b o hb e => hk₅ _ _ (k3 b o hb e)) ⟨_, _, _, _, W', hat, (fun i s' st => st.1.typeIs), List.mem_cons_self, ?_, ?_⟩
    · intro b hb
      show b < h₅.objs.size
      rw [hsz₅]
      rcases List.mem_cons.mp hb with rfl | hb
      · exact Nat.lt_succ_self _
      · rcases List.mem_cons.mp hb with rfl | hb
        · exact Nat.lt_succ_of_lt hag
        · exact Nat.lt_succ_of_lt (Nat.lt_trans (List.mem_range.mp hb) hag)
    · intro b hb
      rcases List.mem_cons.mp hb with rfl | hb
      · exact Nat.lt_trans hLlt hIlt
      · rw [List.mem_singleton.mp hb]; exact hLlt

theorem sum_at {prog : Program} {w : World} {A : Around} {E : Value → Shared → Prop} {s : Shared} {x : Value} {u : Tok} {Q : Value → Shared → Prop}
    (h : wpAny (model prog w) A.in1 (pyIter x) (fun it s₂ => ∃ I fp wr G n P St val, it = .ref I ∧ WalksS prog w A.in1 I fp wr G n P St ∧ St 0 s₂ ∧ (∀ b ∈ fp, b < s₂.heap.objs.size) ∧
      (∀ i v, P i v → ∃ t, v = .int (val i) t) ∧ (∀ j, j < n → InLong (val j) ∧ InLong (preSum val (j + 1))) ∧
      ∀ s' t', Moved wr G s₂ s' → Q (.int (preSum val n) t') s') E s) :
    wpAny (model prog w) A (call (.builtin "sum") [x, .int 0 u]) Q E s := by
  refine call_function_tree F.kind_sum F.plain_sum F.entry_sum (by unfold argsOk; kernel_rfl) ?_
  unfold Builtin.«sum»
  simp only [List.length_cons, List.length_nil]
  rw [if_neg (by decide)]
  refine wpAny_bind (wpAny_of_eq (show Builtin.Builtins.bindParams "sum" ["start"] 0 ⟨[.int 0 u], []⟩ = pure [some (.int 0 u)] from rfl) ?_)
  refine wpAny_bind (wpAny_mono h (fun it s₂ h₂ => ?_) fun _ _ e => e)
  obtain ⟨I, fp, wr, G, n, P, St, val, rfl, W, hst, hfp, hval, hfit, hQ⟩ := h₂
  dsimp only
  refine wpAny_bind ?_
  refine wpAny_rule ?_
  refine wpAny_bind (wpAny_mkInt ?_)
  refine wpAny_bind (wpAny_pure ?_)
  simp only [List.forIn_cons, List.forIn_nil]
  refine wpAny_bind (wpAny_bind (wpAny_bind (wpAny_isInstance (T := "int") (b := false) (typeIs_int _ _ _) PySem.sub_int_str ?_)))
  simp only [Bool.false_eq_true, if_false]
  refine wpAny_pure (wpAny_bind (wpAny_bind (wpAny_isInstance (T := "int") (b := false) (typeIs_int _ _ _) PySem.sub_int_bytes ?_)))
  simp only [Bool.false_eq_true, if_false]
  refine wpAny_pure (wpAny_bind (wpAny_bind (wpAny_isInstance (T := "int") (b := false) (typeIs_int _ _ _) PySem.sub_int_bytearray ?_)))
  simp only [Bool.false_eq_true, if_false]
  refine wpAny_pure (wpAny_pure ?_)
  refine wpAny_bind (wpAny_newObj_type ?_)
  have hSf : s₂.heap.objs.size ∉ fp := fun hm => Nat.lt_irrefl _ (hfp _ hm)
  refine wpAny_pure ⟨plainId_quiet F.plain_sum_loop _, codeAny_sum_loopS W val hval hfit s₂.heap.objs.size hSf n 0 _ s₂.toks 0 rfl (Nat.zero_le _)
    (W.frame 0 s₂ _ _ hst (by first | exact Nat.le_refl _ | exact Nat.le_succ _ | omega) fun b _ o e => Heap.get?_push_of_some _ e) (Heap.get?_push_size _ rfl) fun s' t' hm => ?_⟩
  exact hQ s' t' (hm.drop_new (by first | exact Nat.le_refl _ | exact Nat.le_succ _ | omega))
end
end
end Mine

-- AccM
namespace Mine
open PySem PySem.W PyProof.Rows PySem.Spec PySem.Calls
set_option maxRecDepth 100000
set_option maxHeartbeats 400000
set_option pp.deepTerms false
set_option pp.deepTerms.threshold 8
set_option pp.fieldNotation false
noncomputable section
local macro_rules | `(tactic| walk_at "m_enter") => `(tactic| (refine' enterP ?X ?lim ?g ?gs ?M ?room ?ho ?hcd ?bind ?loc ?_ ?c1 ?c2 ?c3 ?c4; (case X => k_asm); (case lim => exact TopRead.nolimit (by k_asm)); (case g => exact Grows.refl _); (case gs => exact Nat.le_refl _); (case M => exact List.forall_mem_nil _); (case room => decide); (case ho => k_is); (case hcd => k_is); (case bind => exact BindsTo.of_eq rfl); (case loc => exact locs rfl); (case c1 => exact rfl); (case c2 => exact rfl); (case c3 => exact rfl); (case c4 => decide); k_whole; intro h' F' N'; (try dsimp only); (try k_fold)))
def codeHdB (K : Frag) (c P : Addr) : Bool := match K.lookup c with
  | some ⟨.type t, _, .fields vs, _⟩ => t == "code" && vs[11]? == some (.ref P) && vs.getD 11 .none == .ref P && (match vs.getD 18 .none with | .str .. => true | _ => false) && (match vs.getD 7 .none with | .int .. => true | _ => false) &&
      (match vs.getD 9 .none with | .bool .. => true | _ => false) && (match vs.getD 10 .none with | .int .. => true | _ => false) && c != P
  | _ => false
theorem codeHd_of {K : Frag} {h : Heap} {c P : Addr} (X : K.In h) (e : codeHdB K c P = true) : CodeHd h c P := by
  unfold codeHdB at e
  split at e
  · rename_i t d vs sl ho
    simp only [Bool.and_eq_true, beq_iff_eq, bne_iff_ne] at e
    obtain ⟨⟨⟨⟨⟨⟨⟨rfl, e1⟩, e2⟩, e3⟩, e4⟩, e5⟩, e6⟩, e7⟩ := e
    split at e3
    · rename_i a1 b1 q1
      split at e4
      · rename_i a2 b2 q2
        split at e5
        · rename_i a3 q3
          split at e6
          · rename_i a4 b4 q4
            exact ⟨_, vs, _, _, _, _, _, _, _, X _ _ ho, rfl, rfl, e1, e2, q1, q2, q3, q4, e7⟩
          · cases e6
        · cases e5
      · cases e4
    · cases e3
  · cases e
theorem code144 {w : World} {h : Heap} (X : (Mine.hd.heap_1 w.params).In h) : CodeHd h 144 140 := codeHd_of X (by kernel_rfl)
theorem code151 {w : World} {h : Heap} (X : (Mine.hd.heap_1 w.params).In h) : CodeHd h 151 147 := codeHd_of X (by kernel_rfl)
local macro_rules | `(tactic| walk_at "m_enterG") => `(tactic| (refine' enterP ?X ?lim ?g ?gs ?M ?room ?ho ?hcd ?bind ?loc ?_ ?c1 ?c2 ?c3 ?c4; (case X => exact Base.X (by with_reducible assumption)); (case lim => exact TopRead.nolimit (Base.T (by with_reducible assumption))); (case g => exact Base.grows (by with_reducible assumption)); (case gs => exact Base.size (by with_reducible assumption)); (case M => with_reducible assumption); (case room => decide); (case ho => k_is); (case hcd => k_is); (case bind => exact BindsTo.of_eq rfl); (case loc => exact locs rfl); (case c1 => exact rfl); (case c2 => exact rfl); (case c3 => exact rfl); (case c4 => decide); k_whole; intro h' F' N'; (try dsimp only); (try k_fold)))
local macro_rules | `(tactic| walk_at "eval Name") => `(tactic| ((with_reducible show wpAny _ _ (eval _ (genEnv _ _ _ _ _ _)) _ _ _); k_dflt (first
  | (refine' nm_L rfl rfl rfl ?hn ?hv ?_; (case hn => (try dsimp only [genEnv]); with_reducible assumption); (case hv => with_reducible assumption); k_whole)
  | (refine' nm_G rfl rfl rfl ?X ?T ?e ?_; (case X => with_reducible assumption); (case T => with_reducible assumption); (case e => k_is); k_whole)
  | (refine' nm_B rfl rfl rfl rfl ?X ?T ?e ?v ?n ?_; (case X => with_reducible assumption); (case T => with_reducible assumption); (case e => k_is); (case v => boot_fast); (case n => decide); k_whole))))
abbrev accDict (w : World) (t u : Tok) (nd : Nat) : Obj := dictOf [⟨PyData.keyHash w.params (Str.ofString "_initial_size"), .str (Str.ofString "_initial_size") t, .int 0 u⟩] nd
/-- the tuples of an accumulator -/
structure Words (h : Heap) (ts : List Addr) (ws : List Str) : Prop where
  len : ts.length = ws.length
  tup : ∀ (i : Nat) (t : Addr) (x : Str), ts[i]? = some t → ws[i]? = some x → ∃ u v, h.get? t = some { cls := .type "tuple", data := .seq #[.str (Str.ofString "") u, .str x v] }
theorem Words.keeps {h h' : Heap} {ts : List Addr} {ws : List Str} (H : Words h ts ws) (k : Grows h h') : Words h' ts ws := ⟨H.len, fun i t x a b => let ⟨u, v, e⟩ := H.tup i t x a b; ⟨u, v, k _ _ e⟩⟩
def valsAt (h : Heap) (ts : List Addr) (j : Nat) : Array Value := match h.get? (ts.getD j 0) with
  | some ⟨_, _, .seq xs _, _⟩ => xs
  | _ => #[]
theorem Words.at {h : Heap} {ts : List Addr} {ws : List Str} (H : Words h ts ws) {j : Nat} (hj : j < ts.length) : ∃ u v, valsAt h ts j = #[.str (Str.ofString "") u, .str (ws.getD j (Str.ofString "")) v] ∧ h.IsTuple (ts.getD j 0) (valsAt h ts j) := by
  have hj' : j < ws.length := H.len ▸ hj
  obtain ⟨u, v, e⟩ := H.tup j ts[j] ws[j] (List.getElem?_eq_getElem hj) (List.getElem?_eq_getElem hj')
  have e1 : ts.getD j 0 = ts[j] := by simp [List.getD, hj]
  have e2 : ws.getD j (Str.ofString "") = ws[j] := by simp [List.getD, hj']
  refine ⟨u, v, ?_, ?_⟩
  · unfold valsAt; rw [e1, e, e2]
  · unfold valsAt; rw [e1, e]; exact ⟨_, e, rfl, 0, rfl⟩
theorem InstAt.acc {h : Heap} {a dx : Addr} {its : Array Value} {n : Nat} {od : Obj} (h1 : h.get? a = some (accObj dx its n)) (h2 : h.get? dx = some od) : InstAt h a (accObj dx its n) 178 (some od) := ⟨h1, rfl, rfl, h2⟩
local macro_rules | `(tactic| k_inst) => `(tactic| (refine' Mine.InstAt.acc ?h1 ?h2; (case h1 => exact Fr.keep (by with_reducible assumption) _ _ (by with_reducible assumption)); (case h2 => exact Fr.keep (by with_reducible assumption) _ _ (by with_reducible assumption))))
theorem entry_lga : entryFor table "list.__getattribute__" = some Builtin.«object.__getattribute__» :=
  entryFor_alias (by rw [fastTable_eq_tree]; kernel_rfl) (by decide +kernel) (by decide +kernel) (by rw [fastTable_eq_tree]; kernel_rfl : fastTable "object.__getattribute__" = _)
theorem acc_getattr {w : World} {A : Around} {E : Value → Shared → Prop} {s : Shared} {a dx : Addr} {its : Array Value} {n nd : Nat} {t u : Tok} {expr : Bool} {Q : Value → Shared → Prop} (X : (Mine.hd.heap_1 w.params).In s.heap)
    (h1 : s.heap.get? a = some (accObj dx its n)) (h2 : s.heap.get? dx = some (accDict w t u nd)) (h : Q (.int 0 u) { s with toks := s.toks + 1 }) : wpAny (model PP w) A (getAttr (.ref a) (Str.ofString "_initial_size") expr) Q E s := by
  have I := InstAt.acc h1 h2
  obtain ⟨hh, g, d, tt, os⟩ := s
  have L0 := I.type (M := model PP w)
  have L1 : Looks (model PP w) hh (typeLookup (.ref 178) "__getattribute__") (some (.builtin "list.__getattribute__")) := looks_findIn X (by k_is)
  have hf : findObj (Mine.hd.heap_1 w.params) 178 (some (accDict w t u nd)) (Str.ofString "_initial_size") = some (.value (.int 0 u)) := findObj_own (attr := none) (by k_is) (by k_is) rfl rfl
  have L2 := looks_find (M := model PP w) X I hf
  have L3 : Looks (model PP w) hh (typeLookup (.ref 178) "__getattr__") none := looks_findIn X (by k_is)
  have hb : bindSpecial (.builtin "list.__getattribute__") (.ref a) = pure (.builtin "list.__getattribute__", [.ref a]) :=
    (Slot.of (T := "list") (name := "__getattribute__") (owner := "list") (n := "__getattribute__") (by rw [typeLookup_type, builtinLookup_eq_fast]; kernel_rfl) (by decide +kernel) (by decide +kernel) (by decide +kernel) (.inl (by decide +kernel)) (by rw [isSubtype_type]; kernel_rfl)).bind _
  unfold getAttr getAttrBy
  refine wpAny_bind (wpAny_mkText (wpAny_holding (wpAny_bind (L0.at (wpAny_bind (L1.at ?_))))))
  dsimp only
  rw [if_neg (by decide)]
  unfold getAttrByItsOwn hookBefore callGetattribute boundAndCalled
  rw [if_pos (show onTheHeap (.ref 178) = true from rfl)]
  refine wpAny_bind (L3.at ?_)
  refine wpAny_bind (wpAny_attempt (wpAny_holding ?_))
  rw [if_neg (by cases expr <;> decide), hb]
  refine wpAny_bind (wpAny_pure ?_)
  refine call_acc (name := "__getattribute__") (b := Builtin.«object.__getattribute__») X h1 (by decide +kernel) entry_lga (.inl (by decide +kernel)) (by decide +kernel) (by unfold argsOk; kernel_rfl) ?_
  unfold Builtin.«object.__getattribute__»
  repeat lk
  exact ⟨_, rfl, wpAny_pure h⟩
theorem preSum_words (ws : List Str) : ∀ k, k ≤ ws.length → preSum (fun i => ((ws.getD i (Str.ofString "")).length : Int)) k = (((ws.take k).map (·.length)).sum : Nat)
  | 0, _ => rfl
  | k + 1, h => by
    have hk : k < ws.length := h
    rw [preSum, preSum_words ws k (Nat.le_of_lt hk), List.take_add_one, List.getElem?_eq_getElem hk, List.map_append, List.sum_append]
    simp only [List.getD, List.getElem?_eq_getElem hk, Option.getD_some, Option.toList_some, List.map_cons, List.map_nil, List.sum_cons, List.sum_nil, Nat.add_zero]
    rfl
theorem len_spec {w : World} {mg mb : Str → Option Value} {s : Shared} {Q E : Value → Shared → Prop} {g : Heap} (a dx : Addr) (ts : List Addr) (ws : List Str) (n nd : Nat) (t0 u0 : Tok) (op : Obj) (ps : Array Value)
  (B : Base w mg mb g s.heap) (H : Words g ts ws) (hA : g.get? a = some (accObj dx (ts.map Value.ref).toArray n)) (hD : g.get? dx = some (accDict w t0 u0 nd)) (M : ∀ p ∈ [((140 : Addr), op)], s.heap.get? p.1 = some p.2 ∧ g.get? p.1 = none) (hop : op = tabObj ps) (ht : TriplesOk ps.toList) (h140 : 140 < s.heap.objs.size)
  (G : AllBare s.gens) (hwn : ws.length ≤ 100) (hwl : ∀ x ∈ ws, x.length ≤ 100)
  (hret : ∀ t h' gs' tk', AllBare gs' → Grows g h' → TabI 140 h' → Q (.int ((ws.map (·.length)).sum : Nat) t) ⟨h', gs', s.drawn, tk', s.os⟩) :
  wpAny (model PP w) (AD 700) (call (.ref 145) [.ref a]) Q E s := by
  have X := B.X
  have T := B.T
  have g140 := (M _ (.head _)).2
  have haL : a ≠ s.heap.objs.size := Nat.ne_of_lt (Heap.lt_size (B.grows _ _ hA))
  have hsz : (ts.map Value.ref).toArray.size = ws.length := by simp [H.len]
  k_dflt walk_at "m_enterG"
  k_steps
  (with_reducible rename Fr _ _ _ _ => F)
  (with_reducible rename News _ _ _ _ => N)
  refine gen_pairs (fun j => ts.getD j 0) (valsAt g ts) (fun i y => ∃ t, y = .int ((ws.getD i (Str.ofString "")).length) t) X T B.main F ⟨op, ps, N.get (.head _), hop, ht⟩ g140 (code144 X) rfl rfl G h140 (F.keep _ _ hA) haL ?_ ?_ ?_ ?_ ?_ (fun Q' q => ?_) ?_ ?_ rfl rfl ?_ ?_ ?_ ?_ ?_ ?_ ?_ ?_ ?_
  · intro e; rw [e, g140] at hA; cases hA
  · intro j hj
    rw [List.size_toArray, List.length_map] at hj
    simp [List.getD, hj]
  · intro j hj
    rw [List.size_toArray, List.length_map] at hj
    obtain ⟨u, v, e, ht⟩ := H.at hj
    exact ht.at fun o e => F.keep _ _ e
  · intro j hj e
    rw [List.size_toArray, List.length_map] at hj
    obtain ⟨u, v, e2, o, ho, _⟩ := H.at hj
    rw [e, g140] at ho; cases ho
  · intro j hj
    rw [List.size_toArray, List.length_map] at hj
    obtain ⟨u, v, e2, _⟩ := H.at hj
    exact ⟨_, _, e2⟩
  · k_steps
    exact q
  · intro code Cl A' E' i va vb s₂ m₂ hA' hi hv hn hma hmb hg
    rw [List.size_toArray, List.length_map] at hi
    obtain ⟨u, v, e2, _⟩ := H.at hi
    rw [hv] at e2
    have X2 : (Mine.hd.heap_1 w.params).In s₂.heap := X.keeps hg
    have T2 : TopRead Mine.vw LS mg mb s₂.heap := T.keeps hg
    obtain ⟨rfl, rfl⟩ : va = .str (Str.ofString "") u ∧ vb = .str (ws.getD i (Str.ofString "")) v := by simpa using congrArg Array.toList e2
    have hlen : (ws.getD i (Str.ofString "")).length ≤ 100 := by
      have : i < ws.length := H.len ▸ hi
      simp only [List.getD, List.getElem?_eq_getElem this, Option.getD_some]
      exact hwl _ (List.getElem_mem this)
    clear hg hv F N
    k_steps
    refine Stop.intro ⟨⟨_, congrArg (fun z => Value.int z _) ?_⟩, _, _, rfl, fun _ _ e => e⟩
    show ((0 : Nat) : Int) + _ = _
    simp
  · intro a' s₅ F5 TI5 G5 os5 dr5 k5 X5
    obtain ⟨h5, gs5, d5, t5, o5⟩ := s₅
    dsimp only at F5 TI5 G5 os5 dr5 k5
    subst os5 dr5
    clear F N
    have N5 : News g s.heap.objs.size h5 [] := fun _ hp => nomatch hp
    k_steps
    refine acc_getattr (X.keeps F5.keep) (F5.keep _ _ hA) (F5.keep _ _ hD) ?_
    k_steps
    obtain ⟨fp, wr, gg, St, W0, hst, hty, hmem, hfp, hwr⟩ := X5
    have W := W0.in4_1
    have hst' := W.frame 0 _ h5 (t5 + 1) hst (Nat.le_succ _) fun _ _ _ e => e
    refine sum_at (W.self 0 _ _ _ hst' ⟨a', fp, wr, _, _, _, _, fun i => ((ws.getD i (Str.ofString "")).length : Int), rfl, W, hst', hfp, fun i v q => q, fun j hj => ?_, fun s' t' hm => ?_⟩)
    · rw [hsz] at hj
      have h1 := preSum_words ws (j + 1) (by omega)
      have h2 := sum_le_of (ys := ws.take (j + 1)) fun x hx => hwl x (List.mem_of_mem_take hx)
      have h3 : (ws.take (j + 1)).length ≤ ws.length := by rw [List.length_take]; omega
      rw [h1]
      dsimp only
      refine ⟨⟨by omega, ?_⟩, ⟨by omega, ?_⟩⟩
      · have : (ws.getD j (Str.ofString "")).length ≤ 100 := by
          simp only [List.getD, List.getElem?_eq_getElem hj, Option.getD_some]
          exact hwl _ (List.getElem_mem hj)
        have : (2 : Int) ^ 63 = 9223372036854775808 := by decide
        omega
      · have : (2 : Int) ^ 63 = 9223372036854775808 := by decide
        omega
    · obtain ⟨h6, g6, d6, t6, o6⟩ := s'
      have e1 := hm.drawn
      have e2 := hm.os
      dsimp only at e1 e2
      subst e1 e2
      rw [hsz, preSum_words ws ws.length (Nat.le_refl _), List.take_length]
      refine hret t' h6 g6 t6 (AllBare.movedS G5 hm) (fun b o e => ?_) (TI5.at fun o e => ?_)
      · refine hm.heap b o (fun hb => ?_) (F5.keep _ _ e)
        exact Nat.lt_irrefl _ (Nat.lt_trans (hwr b hb) (Nat.lt_of_lt_of_le (Heap.lt_size e) F5.above))
      · exact hm.heap 140 o (fun hb => Nat.lt_irrefl _ (Nat.lt_trans (hwr _ hb) h140)) e
  · with_unfolding_all rfl
  · decide
  · rfl
  · rfl
  · rfl
  · decide
  · rfl
  · show (701 : Nat) < recursionLimit; decide
  · intro _; rfl
end
end Mine

-- AccS
namespace Mine
open PySem PySem.W PyProof.Rows PySem.Spec PySem.Calls
set_option maxRecDepth 100000
set_option maxHeartbeats 400000
set_option pp.deepTerms false
set_option pp.deepTerms.threshold 8
set_option pp.fieldNotation false
noncomputable section
local macro_rules | `(tactic| walk_at "m_enterG") => `(tactic| (refine' enterP ?X ?lim ?g ?gs ?M ?room ?ho ?hcd ?bind ?loc ?_ ?c1 ?c2 ?c3 ?c4; (case X => exact Base.X (by with_reducible assumption)); (case lim => exact TopRead.nolimit (Base.T (by with_reducible assumption))); (case g => exact Base.grows (by with_reducible assumption)); (case gs => exact Base.size (by with_reducible assumption)); (case M => with_reducible assumption); (case room => decide); (case ho => k_is); (case hcd => k_is); (case bind => exact BindsTo.of_eq rfl); (case loc => exact locs rfl); (case c1 => exact rfl); (case c2 => exact rfl); (case c3 => exact rfl); (case c4 => decide); k_whole; intro h' F' N'; (try dsimp only); (try k_fold)))
local macro_rules | `(tactic| walk_at "eval Name") => `(tactic| ((with_reducible show wpAny _ _ (eval _ (genEnv _ _ _ _ _ _)) _ _ _); k_dflt (first
  | (refine' nm_L rfl rfl rfl ?hn ?hv ?_; (case hn => (try dsimp only [genEnv]); with_reducible assumption); (case hv => with_reducible assumption); k_whole)
  | (refine' nm_G rfl rfl rfl ?X ?T ?e ?_; (case X => with_reducible assumption); (case T => with_reducible assumption); (case e => k_is); k_whole)
  | (refine' nm_B rfl rfl rfl rfl ?X ?T ?e ?v ?n ?_; (case X => with_reducible assumption); (case T => with_reducible assumption); (case e => k_is); (case v => boot_fast); (case n => decide); k_whole))))
local macro_rules | `(tactic| k_inst) => `(tactic| (refine' Mine.InstAt.acc ?h1 ?h2; (case h1 => exact Fr.keep (by with_reducible assumption) _ _ (by with_reducible assumption)); (case h2 => exact Fr.keep (by with_reducible assumption) _ _ (by with_reducible assumption))))
theorem join_two (x : Str) : Txt.join (Str.ofString "") [Str.ofString "", x] = x := by
  rw [eq_of_beq (join_plain_closes (Str.ofString "") _)]
  show Str.ofString "" ++ Str.ofString "" ++ x = x
  obtain ⟨c⟩ := x
  show Str.mk _ = Str.mk _
  congr 1
  simp
  rfl
theorem joinOk_of {ws : List Str} (h : ∀ x ∈ ws, x.length ≤ 100) (hn : ws.length ≤ 100) : JoinOk (Str.ofString "") ws = true := by
  refine joinOk_of_weight (Nat.le_trans (sum_le_of h) ?_) (by decide)
  omega
/-- join of a generator, with all that is kept -/
theorem join_moved {prog : Program} {w : World} {A : Around} {E : Value → Shared → Prop} {s : Shared} {L a : Addr} {n : Nat} {Fv : Nat → Value → Prop} {Q : Value → Shared → Prop} {sep : Str} {t : Tok} (X : Gen prog w A L a n Fv s) (tx : Nat → Str) (htx : ∀ j v, Fv j v → ∃ u, v = .str (tx j) u)
    (hok : JoinOk sep ((List.range n).map tx) = true)
    (hQ : ∀ s' t' (wr : List Addr) g, (∀ b ∈ wr, L < b) → Moved wr (GenOnlyQ g) s s' → ∀ k, Q (.str (Txt.join sep ((List.range n).map tx)) t') { s' with toks := k })
    (hsz : n ≤ sizeLine) : wpAny (model prog w) A (call (.builtin "str.join") [.str sep t, .ref a]) Q E s := by
  obtain ⟨fp, wr, g, St, W, hst, hT, ha, hfp, hwr⟩ := X
  have W := W.in4_2
  refine SC.joinGen W hT hst hfp ha (fun j v hv => let ⟨u, e⟩ := htx j v hv; ⟨_, u, e⟩) (fun s' lt hm hacc => ?_) hsz
  have hl : lt.map (·.1) = (List.range n).map tx := by
    apply List.ext_getElem?
    intro j
    have hsz : lt.length = n := by simpa [strValues] using hacc.1
    by_cases hj : j < n
    · have hj' : j < lt.length := hsz ▸ hj
      obtain ⟨u, hv⟩ := htx j _ (hacc.2 j (.str lt[j].1 lt[j].2) (by simp [strValues, List.getElem?_eq_getElem hj']))
      injection hv with h1 _
      simp [List.getElem?_eq_getElem hj', hj, h1]
    · rw [List.getElem?_eq_none (by simpa [hsz] using Nat.le_of_not_lt hj), List.getElem?_eq_none (by simpa using Nat.le_of_not_lt hj)]
  rw [hl]
  exact ⟨hok, fun t' k => hQ s' t' wr g hwr hm k⟩
theorem str_spec {w : World} {mg mb : Str → Option Value} {s : Shared} {Q E : Value → Shared → Prop} {g : Heap} (a dx : Addr) (ts : List Addr) (ws : List Str) (n nd : Nat) (t0 u0 : Tok) (op : Obj) (ps : Array Value)
  (B : Base w mg mb g s.heap) (H : Words g ts ws) (hA : g.get? a = some (accObj dx (ts.map Value.ref).toArray n)) (hD : g.get? dx = some (accDict w t0 u0 nd)) (M : ∀ p ∈ [((147 : Addr), op)], s.heap.get? p.1 = some p.2 ∧ g.get? p.1 = none) (hop : op = tabObj ps) (ht : TriplesOk ps.toList) (h147 : 147 < s.heap.objs.size)
  (G : AllBare s.gens) (hwn : ws.length ≤ 100) (hwl : ∀ x ∈ ws, x.length ≤ 100)
  (hret : ∀ t h' gs' tk', AllBare gs' → Grows g h' → TabI 147 h' → Q (.str (Txt.join (Str.ofString "") ws) t) ⟨h', gs', s.drawn, tk', s.os⟩) :
  wpAny (model PP w) (AD 700) (call (.ref 152) [.ref a]) Q E s := by
  have X := B.X
  have T := B.T
  have g147 := (M _ (.head _)).2
  have haL : a ≠ s.heap.objs.size := Nat.ne_of_lt (Heap.lt_size (B.grows _ _ hA))
  have hsz : (ts.map Value.ref).toArray.size = ws.length := by simp [H.len]
  k_dflt walk_at "m_enterG"
  k_steps
  (with_reducible rename Fr _ _ _ _ => F)
  (with_reducible rename News _ _ _ _ => N)
  refine gen_pairs (fun j => ts.getD j 0) (valsAt g ts) (fun i y => ∃ t, y = .str (ws.getD i (Str.ofString "")) t) X T B.main F ⟨op, ps, N.get (.head _), hop, ht⟩ g147 (code151 X) rfl rfl G h147 (F.keep _ _ hA) haL ?_ ?_ ?_ ?_ ?_ (fun Q' q => ?_) ?_ ?_ rfl rfl ?_ ?_ ?_ ?_ ?_ ?_ ?_ ?_ ?_
  · intro e; rw [e, g147] at hA; cases hA
  · intro j hj
    rw [List.size_toArray, List.length_map] at hj
    simp [List.getD, hj]
  · intro j hj
    rw [List.size_toArray, List.length_map] at hj
    obtain ⟨u, v, e, ht⟩ := H.at hj
    exact ht.at fun o e => F.keep _ _ e
  · intro j hj e
    rw [List.size_toArray, List.length_map] at hj
    obtain ⟨u, v, e2, o, ho, _⟩ := H.at hj
    rw [e, g147] at ho; cases ho
  · intro j hj
    rw [List.size_toArray, List.length_map] at hj
    obtain ⟨u, v, e2, _⟩ := H.at hj
    exact ⟨_, _, e2⟩
  · k_steps
    exact q
  · intro code Cl A' E' i va vb s₂ m₂ hA' hi hv hn hma hmb hg
    rw [List.size_toArray, List.length_map] at hi
    obtain ⟨u, v, e2, _⟩ := H.at hi
    rw [hv] at e2
    have X2 : (Mine.hd.heap_1 w.params).In s₂.heap := X.keeps hg
    have T2 : TopRead Mine.vw LS mg mb s₂.heap := T.keeps hg
    obtain ⟨rfl, rfl⟩ : va = .str (Str.ofString "") u ∧ vb = .str (ws.getD i (Str.ofString "")) v := by simpa using congrArg Array.toList e2
    have hlen : (ws.getD i (Str.ofString "")).length ≤ 100 := by
      have : i < ws.length := H.len ▸ hi
      simp only [List.getD, List.getElem?_eq_getElem this, Option.getD_some]
      exact hwl _ (List.getElem_mem this)
    clear hg hv F N
    k_steps
    unfold newTuple
    refine wpAny_newObj_type ?_ (by size_fits)
    k_steps
    refine join_tupleW (ys := [Str.ofString "", ws.getD i (Str.ofString "")]) ⟨_, Heap.get?_push_size _ rfl, rfl, 0, rfl⟩ (.cons _ _ (.cons _ _ .nil)) (by decide) ?_ fun t' k' => ?_
    · simp only [List.map_cons, List.map_nil, List.sum_cons, List.sum_nil, List.length_cons, List.length_nil]
      have : (Str.ofString "").length = 0 := rfl
      omega
    refine Stop.intro ⟨⟨t', by rw [join_two]⟩, _, _, rfl, fun _ _ e => Heap.get?_push_of_some _ e⟩
  · intro a' s₅ F5 TI5 G5 os5 dr5 k5 X5
    obtain ⟨h5, gs5, d5, t5, o5⟩ := s₅
    dsimp only at F5 TI5 G5 os5 dr5 k5
    subst os5 dr5
    clear F N
    have N5 : News g s.heap.objs.size h5 [] := fun _ hp => nomatch hp
    k_steps
    have hws : (List.range (ts.map Value.ref).toArray.size).map (fun j => ws.getD j (Str.ofString "")) = ws := by
      rw [hsz]
      apply List.ext_getElem
      · simp
      · intro i h1 h2
        simp only [List.length_map, List.length_range] at h1
        simp [List.getD, h1]
    refine join_moved X5 (fun j => ws.getD j (Str.ofString "")) (fun j v q => q) (by rw [hws]; exact joinOk_of hwl hwn) (fun s' t' wr gg hwr hm k => ?_) (by rw [hsz, sizeLine_eq]; omega)
    obtain ⟨h6, g6, d6, t6, o6⟩ := s'
    have e1 := hm.drawn
    have e2 := hm.os
    dsimp only at e1 e2
    subst e1 e2
    rw [hws]
    refine hret t' h6 g6 k (AllBare.movedS G5 hm) (fun b o e => ?_) (TI5.at fun o e => ?_)
    · refine hm.heap b o (fun hb => ?_) (F5.keep _ _ e)
      exact Nat.lt_irrefl _ (Nat.lt_trans (hwr b hb) (Nat.lt_of_lt_of_le (Heap.lt_size e) F5.above))
    · exact hm.heap 147 o (fun hb => Nat.lt_irrefl _ (Nat.lt_trans (hwr _ hb) h147)) e
  · with_unfolding_all rfl
  · decide
  · rfl
  · rfl
  · rfl
  · decide
  · rfl
  · show (701 : Nat) < recursionLimit; decide
  · intro _; rfl
end
end Mine

-- AccU
namespace Mine
open PySem PySem.W PyProof.Rows PySem.Spec PySem.Calls
set_option maxRecDepth 100000
set_option maxHeartbeats 1000000
set_option pp.deepTerms false
set_option pp.deepTerms.threshold 8
set_option pp.fieldNotation false
noncomputable section
local macro_rules | `(tactic| walk_at "m_enterG") => `(tactic| (refine' enterP ?X ?lim ?g ?gs ?M ?room ?ho ?hcd ?bind ?loc ?_ ?c1 ?c2 ?c3 ?c4; (case X => exact Base.X (by with_reducible assumption)); (case lim => exact TopRead.nolimit (Base.T (by with_reducible assumption))); (case g => exact Base.grows (by with_reducible assumption)); (case gs => exact Base.size (by with_reducible assumption)); (case M => with_reducible assumption); (case room => decide); (case ho => k_is); (case hcd => k_is); (case bind => exact BindsTo.of_eq rfl); (case loc => exact locs rfl); (case c1 => exact rfl); (case c2 => exact rfl); (case c3 => exact rfl); (case c4 => decide); k_whole; intro h' F' N'; (try dsimp only); (try k_fold)))
local macro_rules | `(tactic| walk_at "eval Name") => `(tactic| ((with_reducible show wpAny _ _ (eval _ (genEnv _ _ _ _ _ _)) _ _ _); k_dflt (first
  | (refine' nm_L rfl rfl rfl ?hn ?hv ?_; (case hn => (try dsimp only [genEnv]); with_reducible assumption); (case hv => with_reducible assumption); k_whole)
  | (refine' nm_G rfl rfl rfl ?X ?T ?e ?_; (case X => with_reducible assumption); (case T => with_reducible assumption); (case e => k_is); k_whole)
  | (refine' nm_B rfl rfl rfl rfl ?X ?T ?e ?v ?n ?_; (case X => with_reducible assumption); (case T => with_reducible assumption); (case e => k_is); (case v => boot_fast); (case n => decide); k_whole))))
local macro_rules | `(tactic| k_inst) => `(tactic| (refine' Mine.InstAt.acc ?h1 ?h2; (case h1 => exact Fr.keep (by with_reducible assumption) _ _ (by with_reducible assumption)); (case h2 => exact Fr.keep (by with_reducible assumption) _ _ (by with_reducible assumption))))

theorem slot_mdget : Slot "method_descriptor" "__get__" "method_descriptor.__get__" := .of (owner := "method_descriptor") (n := "__get__") (by rw [typeLookup_type, builtinLookup_eq_fast]; kernel_rfl) (by decide +kernel) (by decide +kernel) (by decide +kernel) (.inl (by decide +kernel)) (by rw [isSubtype_type]; kernel_rfl)
theorem slot_wdget : Slot "wrapper_descriptor" "__get__" "wrapper_descriptor.__get__" := .of (owner := "wrapper_descriptor") (n := "__get__") (by rw [typeLookup_type, builtinLookup_eq_fast]; kernel_rfl) (by decide +kernel) (by decide +kernel) (by decide +kernel) (.inl (by decide +kernel)) (by rw [isSubtype_type]; kernel_rfl)
section
variable {w : World} {A : Around} {E : Value → Shared → Prop} {h : Heap} {g : Array GenState} {d : Drawn} {t : Nat} {os : OsState} {a dx so : Addr} {its : Array Value} {n : Nat}
theorem wget {id : String} {Q : Value → Shared → Prop} (X : (Mine.hd.heap_1 w.params).In h) (ho : h.get? a = some (accObj dx its n)) (hty : builtinType id = pure (.type "wrapper_descriptor")) (hid : id = "list.__len__" ∨ id = "list.__init__")
    (hq : Q (.ref h.objs.size) ⟨h.push { cls := .type "method-wrapper", data := .fields #[.builtin id, .ref a] }, g, d, t, os⟩) :
    wpAny (model PP w) A (call (.builtin "wrapper_descriptor.__get__") [.builtin id, .ref a, .ref 178]) Q E ⟨h, g, d, t, os⟩ := by
  refine wpAny_call_entry slot_wdget (T := "wrapper_descriptor") ?_ (entryFor_of_tree (b := Builtin.«wrapper_descriptor.__get__») (by kernel_rfl)) ?_ (by unfold argsOk; kernel_rfl)
  · exact hty
  have hi := acc_isi (M := model PP w) X ho
  unfold Builtin.«wrapper_descriptor.__get__»
  rcases hid with rfl | rfl
  all_goals
    repeat (first | ((with_reducible show wpAny _ _ (isInstance _ _) _ _ _); refine hi.at ?_) | lk)
    exact ⟨_, rfl, hq⟩

theorem mget {Q : Value → Shared → Prop} (X : (Mine.hd.heap_1 w.params).In h) (ho : h.get? a = some (accObj dx its n))
    (hq : Q (.ref h.objs.size) ⟨h.push { cls := .type "builtin_function_or_method", data := .fields #[.builtin "list.pop", .ref a] }, g, d, t, os⟩) :
    wpAny (model PP w) A (call (.builtin "method_descriptor.__get__") [.builtin "list.pop", .ref a, .ref 178]) Q E ⟨h, g, d, t, os⟩ := by
  refine wpAny_call_entry slot_mdget (T := "method_descriptor") ?_ (entryFor_of_tree (b := Builtin.«method_descriptor.__get__») (by kernel_rfl)) ?_ (by unfold argsOk; kernel_rfl)
  · show builtinType "list.pop" = _
    rw [builtinType_eq_fast]; kernel_rfl
  have hi := acc_isi (M := model PP w) X ho
  unfold Builtin.«method_descriptor.__get__»
  repeat (first | ((with_reducible show wpAny _ _ (isInstance _ _) _ _ _); refine hi.at ?_) | lk)
  exact ⟨_, rfl, hq⟩
theorem super_ga {id name gt : String} {l₀ l : List Value} {tk : Tok} {Q : PySem.Fin → Shared → Prop} {v : Value} {o' : Obj} (X : (Mine.hd.heap_1 w.params).In h) (ho : h.get? a = some (accObj dx its n))
    (hso : h.get? so = some (ks_superObj 178 a 178)) (hno : Looks (model PP w) h (opaqueClassAbove (.ref 178)) none)
    (hC : Looks (model PP w) h (mroOf (.ref 178)) l₀) (hl : (l₀.dropWhile (· != .ref 178)).drop 1 = l)
    (hf : alongIn (Mine.hd.heap_1 w.params) name l = some (some (.builtin id))) (hty : builtinType id = pure (.type gt)) (hget : typeLookup (.type gt) "__get__" = pure (some (.builtin (gt ++ ".__get__")))) (ha : a ≠ 178) (hn : (Str.ofString name == ("__class__" : Str)) = false)
    (hcall : ∀ A' (Q' : Value → Shared → Prop) E', Q' v ⟨h.push o', g, d, t, os⟩ → wpAny (model PP w) A' (call (.builtin (gt ++ ".__get__")) [.builtin id, .ref a, .ref 178]) Q' E' ⟨h, g, d, t, os⟩)
    (hq : Q (.done (.ret v)) ⟨h.push o', g, d, t, os⟩) :
    wpAny (model PP w) A (Builtin.«super.__getattribute__» ⟨[.ref so, .str (Str.ofString name) tk], []⟩) Q E ⟨h, g, d, t, os⟩ := by
  have hne : (Value.ref a == Value.ref 178) = false := by simp [ha]
  have hdt : (ks_superObj 178 a 178).data = .fields #[.ref 178, .ref a, .ref 178] := rfl
  have f0 : (#[.ref 178, .ref a, .ref 178] : Array Value)[0]? = some (.ref 178) := rfl
  have f1 : (#[.ref 178, .ref a, .ref 178] : Array Value)[1]? = some (.ref a) := rfl
  have f2 : (#[.ref 178, .ref a, .ref 178] : Array Value)[2]? = some (.ref 178) := rfl
  unfold Builtin.«super.__getattribute__»
  repeat (first
    | (with_reducible refine wpAny_field hso hdt f0 ?_) | (with_reducible refine wpAny_field hso hdt f1 ?_) | (with_reducible refine wpAny_field hso hdt f2 ?_)
    | (with_reducible refine ks_wpAny_notOpaque hno ?_)
    | (with_reducible refine Looks.at hC ?_; rw [hl])
    | (refine ks_forIn_along X (fun _ _ => rfl) rfl ?_ hf)
    | (with_reducible refine ⟨_, rfl, ?_⟩)
    | (simp only [hn, hne, Bool.or_false, Bool.false_eq_true, if_false])
    | (with_reducible refine hcall _ _ _ ?_)
    | wp_step
    | dsimp only)
  all_goals exact hq

theorem super_method {id name gt : String} {l₀ l : List Value} {pl : Sem Bool} {Q : Value × List Value → Shared → Prop} {v : Value} {o' : Obj} (X : (Mine.hd.heap_1 w.params).In h) (ho : h.get? a = some (accObj dx its n))
    (hso : h.get? so = some (ks_superObj 178 a 178)) (hno : Looks (model PP w) h (opaqueClassAbove (.ref 178)) none)
    (hC : Looks (model PP w) h (mroOf (.ref 178)) l₀) (hl : (l₀.dropWhile (· != .ref 178)).drop 1 = l)
    (hf : alongIn (Mine.hd.heap_1 w.params) name l = some (some (.builtin id))) (hty : builtinType id = pure (.type gt)) (hget : typeLookup (.type gt) "__get__" = pure (some (.builtin (gt ++ ".__get__")))) (ha : a ≠ 178) (hn : (Str.ofString name == ("__class__" : Str)) = false)
    (hcall : ∀ A' (Q' : Value → Shared → Prop) E', Q' v ⟨h.push o', g, d, t + 1, os⟩ → wpAny (model PP w) A' (call (.builtin (gt ++ ".__get__")) [.builtin id, .ref a, .ref 178]) Q' E' ⟨h, g, d, t + 1, os⟩) (hv : handedOut v = pure v)
    (hq : Q (v, []) ⟨h.push o', g, d, t + 1, os⟩) :
    wpAny (model PP w) A (getMethod (.ref so) (Str.ofString name) pl) Q E ⟨h, g, d, t, os⟩ := by
  have hlk := F.ks_slot_super_ga.lookup
  have hcan := F.ks_canon_super_ga
  have hT : ∀ t', (⟨h, g, d, t', os⟩ : Shared).TypeIs (.ref so) "super" := fun _ => ⟨_, hso, rfl⟩
  unfold getMethod
  refine wpAny_bind (wpAny_specialOf (hT _) hlk ?_)
  show wpAny _ _ (if (Manifest.canonical "super.__getattribute__" != "object.__getattribute__") = true then _ else _) _ _ _
  rw [if_pos hcan]
  unfold getAttr getAttrBy
  refine wpAny_bind (wpAny_bind (wpAny_mkText (wpAny_holding (wpAny_bind (wpAny_typeOf (hT _) (wpAny_bind (wpAny_of_eq hlk ?_)))))))
  show wpAny _ _ (getAttrByItsOwn (.ref so) (.str (Str.ofString name) t) (.type "super") (.builtin "super.__getattribute__") true false) _ _ _
  unfold getAttrByItsOwn hookBefore callGetattribute boundAndCalled
  refine wpAny_bind (wpAny_of_eq (show (if onTheHeap (.type "super") then typeLookup (.type "super") "__getattr__" else pure none) = pure none from rfl) ?_)
  refine wpAny_bind (wpAny_attempt (wpAny_holding ?_))
  show wpAny _ _ (bindSpecial (.builtin "super.__getattribute__") (.ref so) >>= _) _ _ _
  refine wpAny_bind (wpAny_of_eq (F.ks_slot_super_ga.bind _) ?_)
  refine wpAny_mono (Q := fun v' s' => v' = v ∧ s' = ⟨h.push o', g, d, t + 1, os⟩) (E := fun _ _ => False)
    (wpAny_call_entry F.ks_slot_super_ga (hT _) F.ks_entry_super_ga (super_ga X ho hso hno hC hl hf hty hget ha hn hcall ⟨_, rfl, rfl, rfl⟩) (F.ks_gaArgs_super _ _)) (fun v' s' hv' => ?_) fun _ _ z => z.elim
  obtain ⟨rfl, rfl⟩ := hv'
  dsimp only
  rw [hv]
  exact wpAny_pure (wpAny_pure hq)
/-- a bound builtin of list called -/
theorem call_bound {q : Addr} {id ct : String} {b : Builtin} {Q : Value → Shared → Prop} {ob : Obj} (X : (Mine.hd.heap_1 w.params).In h) (hq : h.get? q = some ob) (hc : ob.cls = .type ct) (hct : ct = "method-wrapper" ∨ ct = "builtin_function_or_method") (hd : ob.data = .fields #[.builtin id, .ref a]) (ho : h.get? a = some (accObj dx its n))
    (hcheck : ∀ A' (Q' : Unit → Shared → Prop) E', Q' () ⟨h, g, d, t, os⟩ → wpAny (model PP w) A' (checkBoundCall id ⟨[.ref a], []⟩) Q' E' ⟨h, g, d, t, os⟩) (hp : plainId id = true) (hb : entryFor table id = some b)
    (hcb : wpAny (model PP w) A.in1 (b ⟨[.ref a], []⟩) (fun fin s' => ∃ v, fin = .done (.ret v) ∧ Q v s') E ⟨h, g, d, t, os⟩) :
    wpAny (model PP w) A (call (.ref q) []) Q E ⟨h, g, d, t, os⟩ := by
  refine wpAny_call (codeAny_of_tree ?_)
  show wpAny _ _ (callAny (.ref q) ⟨[], []⟩) _ _ _
  unfold callAny
  refine wpAny_bind (wpAny_load hq ?_)
  rw [hd]
  dsimp only
  rw [hc]
  have fin : wpAny (model PP w) (A.under (.call (.ref q) ⟨[], []⟩)) (again (.builtin id ⟨[.ref a], []⟩)) (fun fin s' => match fin with
      | .done f => (match Except.ok f with | .ok (.ret v) => Q v s' | .ok _ => False | .error e => E e s')
      | .again c' => c'.quiet = true ∧ codeAny (model PP w) A c' (fun r s' => match r with | .ok (.ret v) => Q v s' | .ok _ => False | .error e => E e s') s') (fun e s' => E e s') ⟨h, g, d, t, os⟩ := by
    refine wpAny_pure ⟨plainId_quiet hp _, codeAny_builtin hb ?_⟩
    rw [Around.under_plainId hp]
    exact wpAny_mono hcb (fun fin s' z => by obtain ⟨v, rfl, hv⟩ := z; exact hv) fun _ _ z => z
  rcases hct with rfl | rfl
  all_goals
    rw [if_pos (by decide)]
    show wpAny _ _ (if (Value.type _ != Value.type "method") = true then _ else _) _ _ _
    rw [if_pos (by decide)]
    exact wpAny_bind (hcheck _ _ _ fin)
end
end
end Mine

-- AccP
namespace Mine
open PySem PySem.W PyProof.Rows PySem.Spec PySem.Calls
set_option maxRecDepth 100000
set_option maxHeartbeats 1000000
set_option pp.deepTerms false
set_option pp.deepTerms.threshold 8
set_option pp.fieldNotation false
noncomputable section
local macro_rules | `(tactic| walk_at "m_enterG") => `(tactic| (refine' enterP ?X ?lim ?g ?gs ?M ?room ?ho ?hcd ?bind ?loc ?_ ?c1 ?c2 ?c3 ?c4; (case X => exact Base.X (by with_reducible assumption)); (case lim => exact TopRead.nolimit (Base.T (by with_reducible assumption))); (case g => exact Base.grows (by with_reducible assumption)); (case gs => exact Base.size (by with_reducible assumption)); (case M => with_reducible assumption); (case room => decide); (case ho => k_is); (case hcd => k_is); (case bind => exact BindsTo.of_eq rfl); (case loc => exact locs rfl); (case c1 => exact rfl); (case c2 => exact rfl); (case c3 => exact rfl); (case c4 => decide); k_whole; intro h' F' N'; (try dsimp only); (try k_fold)))
local macro_rules | `(tactic| walk_at "eval Name") => `(tactic| ((with_reducible show wpAny _ _ (eval _ (genEnv _ _ _ _ _ _)) _ _ _); k_dflt (first
  | (refine' nm_L rfl rfl rfl ?hn ?hv ?_; (case hn => (try dsimp only [genEnv]); with_reducible assumption); (case hv => with_reducible assumption); k_whole)
  | (refine' nm_G rfl rfl rfl ?X ?T ?e ?_; (case X => with_reducible assumption); (case T => with_reducible assumption); (case e => k_is); k_whole)
  | (refine' nm_B rfl rfl rfl rfl ?X ?T ?e ?v ?n ?_; (case X => with_reducible assumption); (case T => with_reducible assumption); (case e => k_is); (case v => boot_fast); (case n => decide); k_whole))))
local macro_rules | `(tactic| k_inst) => `(tactic| (refine' Mine.InstAt.acc ?h1 ?h2; (case h1 => exact Fr.keep (by with_reducible assumption) _ _ (by with_reducible assumption)); (case h2 => exact Fr.keep (by with_reducible assumption) _ _ (by with_reducible assumption))))

theorem acc_method {w : World} {A : Around} {E : Value → Shared → Prop} {s : Shared} {a dx : Addr} {its : Array Value} {n nd : Nat} {t u : Tok} {name : Str} {pl : Sem Bool} {f tf : Value} {Q : Value × List Value → Shared → Prop} (X : (Mine.hd.heap_1 w.params).In s.heap)
    (h1 : s.heap.get? a = some (accObj dx its n)) (h2 : s.heap.get? dx = some (accDict w t u nd)) (hf : findIn (Mine.hd.heap_1 w.params) (.ref 178) name = some (some f)) (htf : Looks (model PP w) s.heap (typeOf f) tf)
    (hk : (tf != .type "function" && tf != .type "method_descriptor" && tf != .type "wrapper_descriptor") = false) (hn : lookIn name (accDict w t u nd) = some none)
    (h : Q (f, [.ref a]) s) : wpAny (model PP w) A (getMethod (.ref a) name pl) Q E s := by
  have I := InstAt.acc h1 h2
  have L0 := I.type (M := model PP w)
  have L1 : Looks (model PP w) s.heap (typeLookup (.ref 178) "__getattribute__") (some (.builtin "list.__getattribute__")) := looks_findIn X (by k_is)
  have L3 : Looks (model PP w) s.heap (typeLookup (.ref 178) "__getattr__") none := looks_findIn X (by k_is)
  have L4 : Looks (model PP w) s.heap (typeLookup (.ref 178) name) (some f) := looks_findIn X hf
  unfold getMethod specialOf
  refine wpAny_bind (wpAny_bind (L0.here (L1.here ?_)))
  dsimp only
  rw [if_neg (by decide +kernel)]
  refine wpAny_bind (wpAny_bind (L0.here (L3.here ?_)))
  rw [if_neg (by decide)]
  refine wpAny_bind (wpAny_bind (L0.here (L4.here ?_)))
  dsimp only
  refine wpAny_bind (htf.here ?_)
  rw [hk, if_neg (by decide)]
  refine wpAny_bind (wpAny_loadPart h1 ?_)
  dsimp only
  refine wpAny_bind ?_
  unfold nsGet
  refine wpAny_bind (wpAny_loadPart h2 ?_)
  rw [nsLook_of hn]
  refine wpAny_pure ?_
  rw [if_neg (by decide)]
  exact wpAny_bind (wpAny_rule (wpAny_pure h))
theorem push_spec {w : World} {mg mb : Str → Option Value} {s : Shared} {Q E : Value → Shared → Prop} {g : Heap} (a dx : Addr) (its : Array Value) (x : Str) (n nd : Nat) (t0 u0 t1 t2 : Tok)
  (B : Base w mg mb g s.heap) (M : ∀ p ∈ [(a, accObj dx its n)], s.heap.get? p.1 = some p.2 ∧ g.get? p.1 = none) (hD : g.get? dx = some (accDict w t0 u0 nd))
  (hsz : its.size ≤ 100)
  (hret : ∀ (T : Addr) (h' : Heap) (tk' : Nat) u v, Grows g h' → h'.get? a = some (accObj dx (its.push (.ref T)) (n + 1)) → h'.get? T = some { cls := .type "tuple", data := .seq #[.str (Str.ofString "") u, .str x v] } → g.get? T = none → a ≠ T → Q .none { s with heap := h', toks := tk' }) :
  wpAny (model PP w) (AD 700) (call (.ref 122) [.ref a, .str (Str.ofString "") t1, .str x t2]) Q E s := by
  have X := B.X
  have T := B.T
  k_dflt walk_at "m_enterG"
  k_steps
  (with_reducible rename Fr _ _ _ _ => F)
  (with_reducible rename News _ _ _ _ => N)
  refine acc_method (X.keeps F.keep) (N.get (.head _)) (F.keep _ _ hD) (f := .builtin "list.append") (tf := .type "method_descriptor") (by k_is) (Looks.of_pure (by kernel_rfl)) (by decide) rfl ?_
  k_steps
  (with_reducible rename Fr _ _ _ _ => F)
  (with_reducible rename News _ _ _ _ => N)
  have hTa := (N.get (.head _))
  have haT : s.heap.get? a = some (accObj dx its n) := (M _ (.head _)).1
  refine acc_append (X.keeps F.keep) (N.get (.tail _ (.head _))) (by rw [sizeLine_eq]; omega) fun h' hs ho' => ?_
  have hne : ∀ b o, g.get? b = some o → b ≠ a := fun b o e q => by rw [q, (M _ (.head _)).2] at e; cases e
  refine wpAny_execs_nil ?_
  (try dsimp only)
  refine hret _ h' _ _ _ (fun b o e => hs.extBut b o (hne b o e) (F.keep _ _ e)) ho' (hs.extBut _ _ ?_ hTa) (N _ (.head _)).2.2 ?_
  · rename_i l1
    exact Nat.ne_of_gt l1
  · rename_i l1
    exact Nat.ne_of_lt l1
end
end Mine

-- AccC
namespace Mine
open PySem PySem.W PyProof.Rows PySem.Spec PySem.Calls
set_option maxRecDepth 100000
set_option maxHeartbeats 1000000
set_option pp.deepTerms false
set_option pp.deepTerms.threshold 8
set_option pp.fieldNotation false
noncomputable section
local macro_rules | `(tactic| walk_at "m_enterG") => `(tactic| (refine' enterP ?X ?lim ?g ?gs ?M ?room ?ho ?hcd ?bind ?loc ?_ ?c1 ?c2 ?c3 ?c4; (case X => exact Base.X (by with_reducible assumption)); (case lim => exact TopRead.nolimit (Base.T (by with_reducible assumption))); (case g => exact Base.grows (by with_reducible assumption)); (case gs => exact Base.size (by with_reducible assumption)); (case M => with_reducible assumption); (case room => decide); (case ho => k_is); (case hcd => k_is); (case bind => exact BindsTo.of_eq rfl); (case loc => exact locs rfl); (case c1 => exact rfl); (case c2 => exact rfl); (case c3 => exact rfl); (case c4 => decide); k_whole; intro h' F' N'; (try dsimp only); (try k_fold)))
local macro_rules | `(tactic| walk_at "eval Name") => `(tactic| ((with_reducible show wpAny _ _ (eval _ (genEnv _ _ _ _ _ _)) _ _ _); k_dflt (first
  | (refine' nm_L rfl rfl rfl ?hn ?hv ?_; (case hn => (try dsimp only [genEnv]); with_reducible assumption); (case hv => with_reducible assumption); k_whole)
  | (refine' nm_G rfl rfl rfl ?X ?T ?e ?_; (case X => with_reducible assumption); (case T => with_reducible assumption); (case e => k_is); k_whole)
  | (refine' nm_B rfl rfl rfl rfl ?X ?T ?e ?v ?n ?_; (case X => with_reducible assumption); (case T => with_reducible assumption); (case e => k_is); (case v => boot_fast); (case n => decide); k_whole))))
local macro_rules | `(tactic| k_inst) => `(tactic| (refine' Mine.InstAt.acc ?h1 ?h2; (case h1 => exact Fr.keep (by with_reducible assumption) _ _ (by with_reducible assumption)); (case h2 => exact Fr.keep (by with_reducible assumption) _ _ (by with_reducible assumption))))


theorem super_node {w : World} {A : Around} {E : Value → Shared → Prop} {s : Shared} {mg mb : Str → Option Value} {h₀ : Heap} {L : Addr} {m : Str → Option Value} {news : List (Addr × Obj)} {a dx f cda : Addr} {its : Array Value} {n : Nat}
    {body : List Stmt} {q : Str} {scope : Scope} {p0 p1 : Pos} {attr : Str} {whole : Sem Value} {fd : FuncData} {ar : Arg} {vs : Array Value} {file : Str} {tf : Tok} {oc ccl cl : Value} {od cdd cld : Option Addr} {osl ccs csl : Array (Option Value)} {cdD : ClassData} {Q : Value → Shared → Prop}
    (F : Fr h₀ L s.heap m) (X₀ : (Mine.hd.heap_1 w.params).In h₀) (N : News h₀ L s.heap news) (T : TopRead Mine.vw LS mg mb h₀)
    (hf : (Mine.hd.heap_1 w.params).lookup f = some ⟨oc, od, .func fd, osl⟩) (hp : (fd.params.posonlyargs ++ fd.params.args).head? = some ar) (hv : m ar.arg = some (.ref a)) (ho : s.heap.get? a = some (accObj dx its n))
    (hcode : (Mine.hd.heap_1 w.params).lookup cda = some ⟨ccl, cdd, .fields vs, ccs⟩) (hvs : vs[2]? = some (.str file tf)) (hfile : ((PP.main.file : Str) == file) = true)
    (hcell : (Mine.hd.heap_1 w.params).lookup 102 = some ⟨cl, cld, .cell (some (.ref 178)), csl⟩) (hD : clsIn (Mine.hd.heap_1 w.params) 178 = some cdD) (hsub : mroIn (Mine.hd.heap_1 w.params) 178 (.ref 178) = some true) (hsuper : nsIn (Mine.hd.heap_1 w.params) mainGlobals "super" = some none)
    (hat : (attr == ("__class__" : Str)) = false) (hks : scope.names.lookup ("super" : Str) = some .globalImplicit) (hkc : scope.names.lookup ("__class__" : Str) = some .free) (hka : scope.names.lookup ar.arg = some .local) (hk : scope.kind = .function)
    (htop : (PP.main.scope.names.lookup ("super" : Str)).isSome = false) (hboot : bootBuiltins "super" = some (.type "super"))
    (h : ∀ so h', Fr h₀ L h' m → News h₀ L h' ((so, ks_superObj 178 a 178) :: news) → (∀ p ∈ news, p.1 < so) → Q (.ref so) { s with heap := h' }) :
    _root_.PySem.wpAt (model PP w) A (.func body (ksEnv q scope L f (.ref cda) 102)) (attributeBase (.Call (.Name "super" p0) [] [] p1) attr (ksEnv q scope L f (.ref cda) 102) whole) Q E s := by
  have X : (Mine.hd.heap_1 w.params).In s.heap := X₀.keeps F.keep
  obtain ⟨hh, g, d, t, os⟩ := s
  obtain ⟨oD, hD1, hD2⟩ : ∃ oD, hh.get? 178 = some oD ∧ oD.data = .cls cdD := by
    unfold clsIn at hD
    split at hD
    · rename_i c d cd' sl ho
      cases hD
      exact ⟨_, X _ _ ho, rfl⟩
    · cases hD
  refine ks_wpAt_super_base (env := ksEnv q scope L f (.ref cda) 102) hks hkc hat rfl (X _ _ hf) rfl hp rfl (X _ _ hcode) rfl hvs hfile htop ?_
  refine ks_loadName_global hk hks (loadGlobal_builtin (env := ksEnv q scope L f (.ref cda) 102) (T.g.keeps F.keep) (mg_none_of X₀ T.g hsuper) (T.b.keeps F.keep) ((T.builtins _ (by decide +kernel)).trans hboot) ⟨rfl, ?_⟩)
  refine wpAny_loadName_free hk hkc rfl ⟨_, X _ _ hcell, rfl⟩ ?_
  refine wpAny_loadName_local hk hka F.ns hv ?_
  refine ks_wpAny_isType_cls hD1 hD2 ⟨rfl, ?_⟩
  refine ks_wpAny_call_super hD1 hD2 ho rfl (fun c e => by cases e) (looks_mroIn X hsub) (fun h' e k => ?_)
  obtain ⟨F', N', l'⟩ := ks_newsPush (s := ⟨hh, g, d, t, os⟩) F N rfl e k
  exact h _ _ F' N' l'
/-- a call of a def that says super() -/
theorem enterS {w : World} {A : Around} {s : Shared} {Q E : Value → Shared → Prop} {g : Heap} {K : Frag} {news : List (Addr × Obj)} {cc : Addr}
    {name qual : Str} {params : Arguments} {body : List Stmt} {scope : Scope} {dV kV doc pm cdv ct oc : Value} {an od : Option Addr} {osl : Array (Option Value)} {f : Addr} {vs : List Value} {binds : List (Str × Value)}
    (X : K.In g) (hlim : g.NoLimit) (hg : Grows g s.heap) (hgs : g.objs.size ≤ s.heap.objs.size) (M : ∀ p ∈ news, s.heap.get? p.1 = some p.2 ∧ g.get? p.1 = none)
    (hroom : A.depth < recursionLimit)
    (ho : K.lookup f = some ⟨oc, od, .func (ksFn name qual params body scope dV kV doc pm an cdv ct cc), osl⟩) (hcd : codeIn K cdv qual = true)
    (hbind : BindsTo s (ksFn name qual params body scope dV kV doc pm an cdv ct cc) ⟨vs, []⟩ binds) (hloc : ∀ y ∈ binds, scope.names.lookup y.1 = some .local)
    (h : ∀ h₁, Fr g s.heap.objs.size h₁ (fun y => binds.reverse.lookup y) → News g s.heap.objs.size h₁ news →
      _root_.PySem.wpAt (model PP w) (A.deeper (ksEnv qual scope s.heap.objs.size f cdv cc)) (.func body (ksEnv qual scope s.heap.objs.size f cdv cc)) (execs body (ksEnv qual scope s.heap.objs.size f cdv cc))
        (fun fl s' => Q (match fl with | .ret v => v | _ => .none) s') (fun _ _ => False) { s with heap := h₁, toks := s.toks + binds.length })
    (hcell : ∀ x ∈ scope.names, x.2 ≠ .cell) (hco : scope.isCoroutine = false) (hgen : scope.isGenerator = false) (hk : scope.kind = .function) :
    wpAny (model PP w) A (call (.ref f) vs) Q E s := by
  refine wpAny_call ?_
  refine ks_codeAny_call_defAt (fd := ksFn name qual params body scope dV kV doc pm an cdv ct cc) (body := body) (binds := binds) hroom (hg _ _ (X _ _ ho)) rfl (hlim.keeps hg) (codeRec_of (X.keeps hg) hcd) rfl hbind hcell hloc (fun h₁ hns hk₁ => ?_) hco hgen hk
  exact ks_wpAt_mono (h h₁ ⟨hns, fun b o e => hk₁ b o (hg b o e), hgs⟩ (fun p hp => ⟨hk₁ _ _ (M p hp).1, Nat.ne_of_lt (Heap.lt_size (M p hp).1), (M p hp).2⟩)) (fun _ _ x => x) fun _ _ x => x.elim
end
end Mine

-- AccD
namespace Mine
open PySem PySem.W PyProof.Rows PySem.Spec PySem.Calls
set_option maxRecDepth 100000
set_option maxHeartbeats 1000000
set_option pp.deepTerms false
set_option pp.deepTerms.threshold 8
set_option pp.fieldNotation false
noncomputable section
local macro_rules | `(tactic| walk_at "m_enterG") => `(tactic| (refine' enterP ?X ?lim ?g ?gs ?M ?room ?ho ?hcd ?bind ?loc ?_ ?c1 ?c2 ?c3 ?c4; (case X => exact Base.X (by with_reducible assumption)); (case lim => exact TopRead.nolimit (Base.T (by with_reducible assumption))); (case g => exact Base.grows (by with_reducible assumption)); (case gs => exact Base.size (by with_reducible assumption)); (case M => with_reducible assumption); (case room => decide); (case ho => k_is); (case hcd => k_is); (case bind => exact BindsTo.of_eq rfl); (case loc => exact locs rfl); (case c1 => exact rfl); (case c2 => exact rfl); (case c3 => exact rfl); (case c4 => decide); k_whole; intro h' F' N'; (try dsimp only); (try k_fold)))
local macro_rules | `(tactic| walk_at "eval Name") => `(tactic| ((with_reducible show wpAny _ _ (eval _ (genEnv _ _ _ _ _ _)) _ _ _); k_dflt (first
  | (refine' nm_L rfl rfl rfl ?hn ?hv ?_; (case hn => (try dsimp only [genEnv]); with_reducible assumption); (case hv => with_reducible assumption); k_whole)
  | (refine' nm_G rfl rfl rfl ?X ?T ?e ?_; (case X => with_reducible assumption); (case T => with_reducible assumption); (case e => k_is); k_whole)
  | (refine' nm_B rfl rfl rfl rfl ?X ?T ?e ?v ?n ?_; (case X => with_reducible assumption); (case T => with_reducible assumption); (case e => k_is); (case v => boot_fast); (case n => decide); k_whole))))
local macro_rules | `(tactic| k_inst) => `(tactic| (refine' Mine.InstAt.acc ?h1 ?h2; (case h1 => exact Fr.keep (by with_reducible assumption) _ _ (by with_reducible assumption)); (case h2 => exact Fr.keep (by with_reducible assumption) _ _ (by with_reducible assumption))))



theorem super_len {w : World} {A : Around} {E : Value → Shared → Prop} {s : Shared} {a dx so : Addr} {its : Array Value} {n : Nat} {name id gt bt : String} {pl : Sem Bool} {Q : Value × List Value → Shared → Prop} (X : (Mine.hd.heap_1 w.params).In s.heap) (ho : s.heap.get? a = some (accObj dx its n)) (ha : a ≠ 178)
    (hso : s.heap.get? so = some (ks_superObj 178 a 178)) (hm : ks_superIn (Mine.hd.heap_1 w.params) 178 178 name = some (some (.builtin id)))
    (hk : (gt = "wrapper_descriptor" ∧ bt = "method-wrapper" ∧ (id = "list.__len__" ∨ id = "list.__init__") ∧ builtinType id = pure (.type "wrapper_descriptor")) ∨ (gt = "method_descriptor" ∧ bt = "builtin_function_or_method" ∧ id = "list.pop"))
    (hn : (Str.ofString name == ("__class__" : Str)) = false)
    (hq : Q (.ref s.heap.objs.size, []) { s with heap := s.heap.push { cls := .type bt, data := .fields #[.builtin id, .ref a] }, toks := s.toks + 1 }) :
    wpAny (model PP w) A (getMethod (.ref so) (Str.ofString name) pl) Q E s := by
  obtain ⟨h, g, d, t, os⟩ := s
  unfold ks_superIn at hm
  obtain ⟨cd, hc, hal⟩ := Option.bind_eq_some_iff.mp hm
  have hno : Looks (model PP w) h (opaqueClassAbove (.ref 178)) none := looks_opaque X (by k_is)
  have hC : Looks (model PP w) h (mroOf (.ref 178)) cd.mro := fun A Q E s k q => wpAny_bind ((looks_clsIn X hc) A _ E s k (wpAny_pure q))
  rcases hk with ⟨rfl, rfl, hid, hty⟩ | ⟨rfl, rfl, rfl⟩
  · exact super_method X ho hso hno hC rfl hal hty slot_wdget.lookup ha hn (fun A' Q' E' q' => wget X ho hty hid q') (by rfl) hq
  · exact super_method X ho hso hno hC rfl hal (by rw [builtinType_eq_fast]; kernel_rfl) slot_mdget.lookup ha hn (fun A' Q' E' q' => mget X ho q') (by rfl) hq
abbrev boundObj (ct id : String) (a : Addr) : Obj := { cls := .type ct, data := .fields #[.builtin id, .ref a] }
theorem callWith_bound {M : Model} {A : Around} {E : Value → Shared → Prop} {s : Shared} {q a : Addr} {ct id : String} {pos : Pos} {env : Env} {Q : Value → Shared → Prop} (hct : ct = "method-wrapper" ∨ ct = "builtin_function_or_method") (hq : s.heap.get? q = some (boundObj ct id a))
    (h : wpAny M A (call (.ref q) []) Q E s) : wpAny M A (callWith pos (.ref q) [] (backTo pos (starEach [] env)) []) Q E s := by
  refine callWith_of (P := fun h => h.get? q = some (boundObj ct id a)) rfl (fun h X => ⟨.machine, .inr (.inl rfl), ?_⟩) (evalArgs_nil3 ⟨hq, h⟩)
  rcases hct with rfl | rfl <;> exact (Looks.ld (part := none) X).andThen .now
theorem len_in {w : World} {A : Around} {E : Value → Shared → Prop} {s : Shared} {a dx : Addr} {its : Array Value} {n : Nat} {Q : Value → Shared → Prop} (ho : s.heap.get? a = some (accObj dx its n)) (hsz : its.size ≤ 1000)
    (h : ∀ t tk, Q (.int its.size t) { s with toks := tk }) : wpAny (model PP w) A (Builtin.«list.__len__» ⟨[.ref a], []⟩) (fun fin s' => ∃ v, fin = .done (.ret v) ∧ Q v s') E s := by
  unfold Builtin.«list.__len__»
  repeat lk
  exact ⟨_, rfl, h _ _⟩
theorem pop_in {w : World} {A : Around} {E : Value → Shared → Prop} {s : Shared} {a dx : Addr} {its : Array Value} {n : Nat} {x : Value} {Q : Value → Shared → Prop} (ho : s.heap.get? a = some (accObj dx (its.push x) n)) (hsz : its.size ≤ 1000)
    (h : ∀ h', Heap.SameBut a s.heap h' → h'.get? a = some (accObj dx its (n + 1)) → Q x { s with heap := h' }) :
    wpAny (model PP w) A (Builtin.«list.pop» ⟨[.ref a], []⟩) (fun fin s' => ∃ v, fin = .done (.ret v) ∧ Q v s') E s := by
  unfold Builtin.«list.pop»
  repeat lk
  have e1 : (its.push x).isEmpty = false := by simp
  have e2 : seqIndex? (-1) (its.push x).size = some its.size := by
    rw [Array.size_push]
    unfold seqIndex?
    dsimp only
    rw [if_pos (show (-1 : Int) < 0 by decide), if_pos (by simp; omega)]
    congr 1
    omega
  have e3 : (its.push x)[its.size]? = some x := by simp
  rw [e1, if_neg (by decide), e2]
  simp only [Option.bind_some, e3, Option.map_some]
  refine wpAny_bind ?_
  show wpAny _ _ (updateSeq a _) _ _ _
  refine wpAny_updateSeq (f := fun x => x.eraseIdxIfInBounds its.size) ho rfl ?_ (by rw [Array.size_push, sizeLine_eq]; omega) (by simp [Array.eraseIdxIfInBounds, sizeLine_eq]; omega)
  refine wpAny_pure ⟨x, rfl, h _ (Heap.SameBut.update ..) ?_⟩
  rw [Heap.get?_update_self _ ho (by rfl)]
  have e4 : (its.push x).eraseIdxIfInBounds its.size = its := by
    have := kl_erase its.toList [] x
    rw [List.append_nil, Array.toArray_toList, Array.length_toList] at this
    rw [show its.push x = (its.toList ++ [x]).toArray from Array.toList_inj.mp (by rw [Array.toList_push])]
    exact this
  simp only [Obj.mapSeq, e4]
  rw [if_neg (by simp)]
theorem check_slot' {w : World} {A : Around} {E : Value → Shared → Prop} {s : Shared} {a : Addr} {id : String} {Q : Unit → Shared → Prop} (hk : builtinKind id = some .slot) (ha : argsOk id ⟨[.ref a], []⟩) (h : Q () s) : wpAny (model PP w) A (checkBoundCall id ⟨[.ref a], []⟩) Q E s := by
  unfold checkBoundCall
  unfold argsOk at ha
  rw [hk]
  split
  · rename_i sig hs
    rw [hs] at ha
    dsimp only at ha ⊢
    rw [if_pos (by decide), ha]
    exact wpAny_pure h
  · exact wpAny_pure h
theorem check_len {w : World} {A : Around} {E : Value → Shared → Prop} {s : Shared} {a : Addr} {Q : Unit → Shared → Prop} (h : Q () s) : wpAny (model PP w) A (checkBoundCall "list.__len__" ⟨[.ref a], []⟩) Q E s :=
  check_slot' (by decide +kernel) (by unfold argsOk; kernel_rfl) h
theorem check_init {w : World} {A : Around} {E : Value → Shared → Prop} {s : Shared} {a : Addr} {Q : Unit → Shared → Prop} (h : Q () s) : wpAny (model PP w) A (checkBoundCall "list.__init__" ⟨[.ref a], []⟩) Q E s :=
  check_slot' (by decide +kernel) (by unfold argsOk; kernel_rfl) h
theorem check_pop {w : World} {A : Around} {E : Value → Shared → Prop} {s : Shared} {a dx : Addr} {its : Array Value} {n : Nat} {Q : Unit → Shared → Prop} (X : (Mine.hd.heap_1 w.params).In s.heap) (ho : s.heap.get? a = some (accObj dx its n)) (h : Q () s) : wpAny (model PP w) A (checkBoundCall "list.pop" ⟨[.ref a], []⟩) Q E s := by
  obtain ⟨cd, hc, hq⟩ : ∃ cd, clsIn (Mine.hd.heap_1 w.params) 178 = some cd ∧ cd.qualname = Str.ofString "_Accumulator" := by
    have : (clsIn (Mine.hd.heap_1 w.params) 178).map (·.qualname) = some (Str.ofString "_Accumulator") := by kernel_rfl
    exact Option.map_eq_some_iff.mp this
  have t0 := acc_typ (M := model PP w) ho
  have c0 : Looks (model PP w) s.heap (classData 178) cd := looks_clsIn X hc
  have i0 : Looks (model PP w) s.heap (isSubtype (.ref 178) (.type "module")) false := looks_subIn X (by k_is)
  have y0 : Looks (model PP w) s.heap (typeOf (.ref 178)) (.type "type") := looks_typeIn X (by k_is)
  obtain ⟨hh, g, d, t, os⟩ := s
  unfold checkBoundCall
  rw [show builtinKind "list.pop" = some .method by decide +kernel]
  cases hs : Manifest.signature? "list.pop" with
  | none => exact wpAny_pure h
  | some sig =>
    dsimp only
    rw [if_neg (by decide)]
    unfold isInstance
    refine wpAny_bind (wpAny_bind (t0.at (i0.at ?_)))
    rw [if_neg (by decide +kernel)]
    refine wpAny_bind ?_
    have hall : (Manifest.signature? "list.pop").all (fun sig => (pureOf (Bind.checkArgs "list.pop" { sig with full := s!"{(Str.ofString "_Accumulator").toString}.{Bind.lastOf "list.pop"}" } ⟨[.ref a], []⟩)).isSome) = true := by kernel_rfl
    rw [hs] at hall
    obtain ⟨u, hu⟩ := Option.isSome_iff_exists.mp (show (pureOf (Bind.checkArgs "list.pop" { sig with full := s!"{(Str.ofString "_Accumulator").toString}.{Bind.lastOf "list.pop"}" } ⟨[.ref a], []⟩)).isSome = true from hall)
    have hp := of_pureOf hu
    unfold isType
    refine wpAny_bind (wpAny_load ho ?_)
    refine wpAny_pure ?_
    dsimp only
    rw [if_neg Bool.false_ne_true]
    refine wpAny_bind (t0.at ?_)
    dsimp only
    refine wpAny_bind (c0.at (wpAny_bind (y0.at ?_)))
    rw [if_pos (by decide), hq, hp]
    exact wpAny_pure h
local macro_rules | `(tactic| walk_at "m_enterS") => `(tactic| (refine' enterS ?X ?lim ?g ?gs ?M ?room ?ho ?hcd ?bind ?loc ?_ ?c4 ?c1 ?c2 ?c3; (case X => exact Base.X (by with_reducible assumption)); (case lim => exact TopRead.nolimit (Base.T (by with_reducible assumption))); (case g => exact Base.grows (by with_reducible assumption)); (case gs => exact Base.size (by with_reducible assumption)); (case M => with_reducible assumption); (case room => decide); (case ho => k_is); (case hcd => k_is); (case bind => exact BindsTo.of_eq rfl); (case loc => exact locs rfl); (case c1 => exact rfl); (case c2 => exact rfl); (case c3 => exact rfl); (case c4 => decide); k_whole; intro h' F' N'; (try dsimp only); (try k_fold)))
theorem count_spec {w : World} {mg mb : Str → Option Value} {s : Shared} {Q E : Value → Shared → Prop} {g : Heap} (a dx : Addr) (its : Array Value) (n : Nat)
  (B : Base w mg mb g s.heap) (M : ∀ p ∈ ([] : List (Addr × Obj)), s.heap.get? p.1 = some p.2 ∧ g.get? p.1 = none) (hA : g.get? a = some (accObj dx its n)) (ha : a ≠ 178) (hsz : its.size ≤ 1000)
  (hret : ∀ t h' tk', Grows g h' → Q (.int its.size t) { s with heap := h', toks := tk' }) :
  wpAny (model PP w) (AD 700) (call (.ref 175) [.ref a]) Q E s := by
  have X := B.X
  have T := B.T
  k_dflt walk_at "m_enterS"
  iterate 3 walk1
  (with_reducible rename Fr _ _ _ _ => F)
  (with_reducible rename News _ _ _ _ => N)
  k_dflt (refine super_node F X N T (by k_is) (by rfl) (by rfl) (F.keep _ _ hA) (by k_is) (by rfl) (by first | rfl | decide +kernel) (by k_is) (by k_is) (by k_is) (by k_is) (by decide) (by rfl) (by rfl) (by rfl) (by rfl) (by decide +kernel) (by first | boot_by_name | rfl | kernel_rfl) ?_)
  intro so h' F' N' l1
  refine super_len (X.keeps F'.keep) (F'.keep _ _ hA) ha (N'.get (.head _)) (id := "list.__len__") (gt := "wrapper_descriptor") (bt := "method-wrapper") (by ks_is) (.inl ⟨rfl, rfl, .inl rfl, by rw [builtinType_eq_fast]; kernel_rfl⟩) (by decide) ?_
  dsimp only
  have kq : Grows h' (h'.push (boundObj "method-wrapper" "list.__len__" a)) := fun _ _ e => Heap.get?_push_of_some _ e
  refine callWith_bound (.inl rfl) (Heap.get?_push_size _ rfl) ?_
  refine call_bound ((X.keeps F'.keep).keeps kq) (Heap.get?_push_size _ rfl) rfl (.inl rfl) rfl (kq _ _ (F'.keep _ _ hA)) (fun A' Q' E' q => check_len q) (b := Builtin.«list.__len__») (by decide +kernel) (entryFor_of_tree (by kernel_rfl)) ?_
  refine len_in (kq _ _ (F'.keep _ _ hA)) hsz fun t tk => ?_
  exact hret t _ tk fun b o e => kq _ _ (F'.keep b o e)
end
end Mine

-- AccE
namespace Mine
open PySem PySem.W PyProof.Rows PySem.Spec PySem.Calls
set_option maxRecDepth 100000
set_option maxHeartbeats 1000000
set_option pp.deepTerms false
set_option pp.deepTerms.threshold 8
set_option pp.fieldNotation false
noncomputable section
local macro_rules | `(tactic| walk_at "m_enterG") => `(tactic| (refine' enterP ?X ?lim ?g ?gs ?M ?room ?ho ?hcd ?bind ?loc ?_ ?c1 ?c2 ?c3 ?c4; (case X => exact Base.X (by with_reducible assumption)); (case lim => exact TopRead.nolimit (Base.T (by with_reducible assumption))); (case g => exact Base.grows (by with_reducible assumption)); (case gs => exact Base.size (by with_reducible assumption)); (case M => with_reducible assumption); (case room => decide); (case ho => k_is); (case hcd => k_is); (case bind => exact BindsTo.of_eq rfl); (case loc => exact locs rfl); (case c1 => exact rfl); (case c2 => exact rfl); (case c3 => exact rfl); (case c4 => decide); k_whole; intro h' F' N'; (try dsimp only); (try k_fold)))
local macro_rules | `(tactic| walk_at "eval Name") => `(tactic| ((with_reducible show wpAny _ _ (eval _ (genEnv _ _ _ _ _ _)) _ _ _); k_dflt (first
  | (refine' nm_L rfl rfl rfl ?hn ?hv ?_; (case hn => (try dsimp only [genEnv]); with_reducible assumption); (case hv => with_reducible assumption); k_whole)
  | (refine' nm_G rfl rfl rfl ?X ?T ?e ?_; (case X => with_reducible assumption); (case T => with_reducible assumption); (case e => k_is); k_whole)
  | (refine' nm_B rfl rfl rfl rfl ?X ?T ?e ?v ?n ?_; (case X => with_reducible assumption); (case T => with_reducible assumption); (case e => k_is); (case v => boot_fast); (case n => decide); k_whole))))
local macro_rules | `(tactic| k_inst) => `(tactic| (refine' Mine.InstAt.acc ?h1 ?h2; (case h1 => exact Fr.keep (by with_reducible assumption) _ _ (by with_reducible assumption)); (case h2 => exact Fr.keep (by with_reducible assumption) _ _ (by with_reducible assumption))))



local macro_rules | `(tactic| walk_at "m_enterS") => `(tactic| (refine' enterS ?X ?lim ?g ?gs ?M ?room ?ho ?hcd ?bind ?loc ?_ ?c4 ?c1 ?c2 ?c3; (case X => exact Base.X (by with_reducible assumption)); (case lim => exact TopRead.nolimit (Base.T (by with_reducible assumption))); (case g => exact Base.grows (by with_reducible assumption)); (case gs => exact Base.size (by with_reducible assumption)); (case M => with_reducible assumption); (case room => decide); (case ho => k_is); (case hcd => k_is); (case bind => exact BindsTo.of_eq rfl); (case loc => exact locs rfl); (case c1 => exact rfl); (case c2 => exact rfl); (case c3 => exact rfl); (case c4 => decide); k_whole; intro h' F' N'; (try dsimp only); (try k_fold)))
theorem Base.up {w : World} {mg mb : Str → Option Value} {g h h' : Heap} (B : Base w mg mb g h) (k : Grows g h') : Base w mg mb h' h' := by
  obtain ⟨bm, ob, b1, b2, b3, b4⟩ := B.main
  exact ⟨B.X.keeps k, B.T.keeps k, Grows.refl _, Nat.le_refl _, bm, ob, b1, b2, k _ _ b3, b4⟩
theorem pop_spec {w : World} {mg mb : Str → Option Value} {s : Shared} {Q E : Value → Shared → Prop} {g : Heap} (a dx : Addr) (its : Array Value) (x : Value) (n nd : Nat) (t0 u0 : Tok)
  (B : Base w mg mb g s.heap) (M : ∀ p ∈ [(a, accObj dx (its.push x) n)], s.heap.get? p.1 = some p.2 ∧ g.get? p.1 = none) (hD : g.get? dx = some (accDict w t0 u0 nd)) (ha : a ≠ 178) (hsz : its.size ≤ 100)
  (hret : ∀ h' tk', Grows g h' → h'.get? a = some (accObj dx its (n + 1)) → Q x { s with heap := h', toks := tk' }) :
  wpAny (model PP w) (AD 600) (call (.ref 138) [.ref a]) Q E s := by
  have X := B.X
  have T := B.T
  k_dflt walk_at "m_enterS"
  k_steps
  (with_reducible rename Fr _ _ _ _ => F)
  (with_reducible rename News _ _ _ _ => N)
  refine acc_method (X.keeps F.keep) (N.get (.head _)) (F.keep _ _ hD) (f := .ref 175) (tf := .type "function") (by k_is) (looks_typeIn (X.keeps F.keep) (by k_is)) (by decide) rfl ?_
  walk1
  refine wpAny_AD 700 rfl (Nat.le_of_ble_eq_true rfl) (Nat.le_of_ble_eq_true rfl) ?_
  refine count_spec a dx (its.push x) n (B.up F.keep) (List.forall_mem_nil _) (N.get (.head _)) ha (by rw [Array.size_push]; omega) fun t h2 tk2 hg2 => ?_
  have F2 := F.keeps hg2
  have N2 := N.grown hg2
  clear F N
  iterate 4 walk1
  · rename_i hz
    exfalso
    simp at hz
    omega
  iterate 3 walk1
  refine ks_wpAt_execs_cons ?_
  refine ks_wpAt_Return_some ?_
  refine ks_wpAt_MethodCall ?_
  k_dflt (refine super_node F2 X N2 T (by k_is) (by rfl) (by rfl) (N2.get (.head _)) (by k_is) (by rfl) (by first | rfl | decide +kernel) (by k_is) (by k_is) (by k_is) (by k_is) (by decide) (by rfl) (by rfl) (by rfl) (by rfl) (by decide +kernel) (by first | boot_by_name | rfl | kernel_rfl) ?_)
  intro so h' F' N' l1
  have hA' : h'.get? a = some (accObj dx (its.push x) n) := N'.get (.tail _ (.head _))
  refine super_len (X.keeps F'.keep) hA' ha (N'.get (.head _)) (id := "list.pop") (gt := "method_descriptor") (bt := "builtin_function_or_method") (by ks_is) (.inr ⟨rfl, rfl, rfl⟩) (by decide) ?_
  dsimp only
  have kq : Grows h' (h'.push (boundObj "builtin_function_or_method" "list.pop" a)) := fun _ _ e => Heap.get?_push_of_some _ e
  refine callWith_bound (.inr rfl) (Heap.get?_push_size _ rfl) ?_
  refine call_bound ((X.keeps F'.keep).keeps kq) (Heap.get?_push_size _ rfl) rfl (.inr rfl) rfl (kq _ _ hA') (fun A' Q' E' q => check_pop ((X.keeps F'.keep).keeps kq) (kq _ _ hA') q) (b := Builtin.«list.pop») PySem.F.slot_list_pop.plain PySem.F.entry_list_pop ?_
  refine pop_in (kq _ _ hA') (by omega) fun h3 hs ho3 => ?_
  have hne : ∀ b o, g.get? b = some o → b ≠ a := fun b o e q => by rw [q, (M _ (.head _)).2] at e; cases e
  exact hret h3 _ (fun b o e => hs.extBut b o (hne b o e) (kq _ _ (F'.keep b o e))) ho3
end
end Mine

-- AccT
namespace Mine
open PySem PySem.W PyProof.Rows PySem.Spec PySem.Calls
set_option maxRecDepth 100000
set_option maxHeartbeats 1000000
set_option pp.deepTerms false
set_option pp.deepTerms.threshold 8
set_option pp.fieldNotation false
noncomputable section
local macro_rules | `(tactic| walk_at "m_enterG") => `(tactic| (refine' enterP ?X ?lim ?g ?gs ?M ?room ?ho ?hcd ?bind ?loc ?_ ?c1 ?c2 ?c3 ?c4; (case X => exact Base.X (by with_reducible assumption)); (case lim => exact TopRead.nolimit (Base.T (by with_reducible assumption))); (case g => exact Base.grows (by with_reducible assumption)); (case gs => exact Base.size (by with_reducible assumption)); (case M => with_reducible assumption); (case room => decide); (case ho => k_is); (case hcd => k_is); (case bind => first | exact BindsTo.of_eq rfl | exact binds_K (Frag.In.keeps (Base.X (by with_reducible assumption)) (Base.grows (by with_reducible assumption))) rfl (by k_is) rfl rfl rfl); (case loc => exact locs rfl); (case c1 => exact rfl); (case c2 => exact rfl); (case c3 => exact rfl); (case c4 => decide); k_whole; intro h' F' N'; (try dsimp only); (try k_fold)))
local macro_rules | `(tactic| walk_at "eval Name") => `(tactic| ((with_reducible show wpAny _ _ (eval _ (genEnv _ _ _ _ _ _)) _ _ _); k_dflt (first
  | (refine' nm_L rfl rfl rfl ?hn ?hv ?_; (case hn => (try dsimp only [genEnv]); with_reducible assumption); (case hv => with_reducible assumption); k_whole)
  | (refine' nm_G rfl rfl rfl ?X ?T ?e ?_; (case X => with_reducible assumption); (case T => with_reducible assumption); (case e => k_is); k_whole)
  | (refine' nm_B rfl rfl rfl rfl ?X ?T ?e ?v ?n ?_; (case X => with_reducible assumption); (case T => with_reducible assumption); (case e => k_is); (case v => boot_fast); (case n => decide); k_whole))))
local macro_rules | `(tactic| k_inst) => `(tactic| (refine' Mine.InstAt.acc ?h1 ?h2; (case h1 => exact News.get (by k_asm) (by k_mem)); (case h2 => exact News.get (by k_asm) (by k_mem))))



local macro_rules | `(tactic| walk_at "m_enterS") => `(tactic| (refine' enterS ?X ?lim ?g ?gs ?M ?room ?ho ?hcd ?bind ?loc ?_ ?c4 ?c1 ?c2 ?c3; (case X => exact Base.X (by with_reducible assumption)); (case lim => exact TopRead.nolimit (Base.T (by with_reducible assumption))); (case g => exact Base.grows (by with_reducible assumption)); (case gs => exact Base.size (by with_reducible assumption)); (case M => with_reducible assumption); (case room => decide); (case ho => k_is); (case hcd => k_is); (case bind => first | exact BindsTo.of_eq rfl | exact binds_K (Frag.In.keeps (Base.X (by with_reducible assumption)) (Base.grows (by with_reducible assumption))) rfl (by k_is) rfl rfl rfl); (case loc => exact locs rfl); (case c1 => exact rfl); (case c2 => exact rfl); (case c3 => exact rfl); (case c4 => decide); k_whole; intro h' F' N'; (try dsimp only); (try k_fold)))


section
variable {w : World} {A : Around} {E : Value → Shared → Prop} {s : Shared} {a dx L : Addr} {its : Array Value} {n : Nat} {h₀ : Heap} {m : Str → Option Value}
open Builtin Builtin.ObjectAttr Builtin.Getset_descriptor in
theorem acc_osa {R : Result → Shared → Prop} {name : Str} {tk : Tok} {v : Value} (X : (Mine.hd.heap_1 w.params).In s.heap) (ho : s.heap.get? a = some (accObj dx its n)) (hf : findIn (Mine.hd.heap_1 w.params) (.ref 178) name = some none)
    (h : ∀ b, wpAny (model PP w) A.in1 (storeInOwnDict (.ref a) (.ref 178) (.str name tk) name v b)
      (fun fin s' => match fin with | .done f => R (.ok f) s' | .again c' => c'.quiet = true ∧ codeAny (model PP w) A c' R s') (fun e s' => R (.error e) s') s) :
    codeAny (model PP w) A (.call (.builtin "object.__setattr__") ⟨[.ref a, .str name tk, v], []⟩) R s := by
  have SF := PySem.F.store_object
  obtain ⟨cd, hc, hmro⟩ : ∃ cd, clsIn (Mine.hd.heap_1 w.params) 178 = some cd ∧ cd.mro = [.ref 178, .type "list", .type "object"] := by
    have : (clsIn (Mine.hd.heap_1 w.params) 178).map (·.mro) = some [.ref 178, .type "list", .type "object"] := by kernel_rfl
    exact Option.map_eq_some_iff.mp this
  have t0 := acc_typ (M := model PP w) ho
  have sub : Looks (model PP w) s.heap (isInstance (.ref a) (.type "object")) true := t0.andThen (looks_mroIn X (by k_is))
  refine codeAny_call_builtin SF.slot.plain SF.entry (@check_slot (model PP w) _ _ s "object.__setattr__" "object" "__setattr__" (.ref a) [.str name tk, v] [] _ SF.kind SF.split sub (SF.args (.ref a) (.str name tk) v) ?_)
  have hm : Looks (model PP w) s.heap (mroOf (.ref 178)) cd.mro := (looks_clsIn X hc).andThen .now
  have L3 : Looks (model PP w) s.heap (storeTaker? none) none := .now
  have hr : refuseLoop (.ref a) "__setattr__" [.type "list", .type "object"] = pure () := by kernel_rfl
  rw [osa_eq, refuse_eq]
  refine wpAny_bind (wpAny_bind (t0.here (wpAny_bind (hm.here ?_))))
  rw [hmro, refuseLoop_ref, hr]
  refine wpAny_pure (wpAny_bind (t0.here (wpAny_bind ((looks_findIn X hf).here (wpAny_bind (L3.here ?_))))))
  exact h _
open Builtin Builtin.ObjectAttr Builtin.Getset_descriptor in
theorem acc_osa_dict {R : Result → Shared → Prop} {od od' : Obj} {name : Str} {tk : Tok} {v : Value} {pre post : List (Addr × Obj)} {es : List DictEntry} {nn : Nat} (F : Fr h₀ L s.heap m) (N : News h₀ L s.heap (pre ++ (dx, od) :: post)) (X : (Mine.hd.heap_1 w.params).In s.heap)
    (ho : s.heap.get? a = some (accObj dx its n)) (hf : findIn (Mine.hd.heap_1 w.params) (.ref 178) name = some none)
    (hl : (lookIn name od).isSome = true) (h1 : ∀ p ∈ pre, p.1 ≠ dx) (h2 : ∀ p ∈ post, p.1 ≠ dx)
    (e : Obj.putName name (PyData.keyHash w.params name) (.str name s.toks) v od = od') (e' : od'.data = .dict es.toArray nn) (hz : es.length ≤ 1000)
    (h : ∀ h', Fr h₀ L h' m → News h₀ L h' (pre ++ (dx, od') :: post) → R (.ok (.ret .none)) { s with heap := h', toks := s.toks + 1 }) :
    codeAny (model PP w) A (.call (.builtin "object.__setattr__") ⟨[.ref a, .str name tk, v], []⟩) R s := by
  refine acc_osa X ho hf fun b => ?_
  obtain ⟨cd, hc, hd'⟩ := any_some (show (clsIn (Mine.hd.heap_1 w.params) 178).any (·.hasDict) = true by kernel_rfl)
  obtain ⟨U1, U2⟩ := news_upd (f := Obj.putName name (PyData.keyHash w.params name) (.str name s.toks) v) F N h1 h2 e (by obtain ⟨_, _, dd, _⟩ := od'; cases e'; rfl)
  have D := (N (dx, od) (by simp)).1
  have D' := (U2 (dx, od') (by simp)).1
  refine wpAny_bind (wpAny_pure (wpAny_bind (wpAny_bind (wpAny_loadPart ho (wpAny_bind ((looks_clsIn X hc).here ?_))))))
  rw [hd']
  refine wpAny_pure (a := some dx) (wpAny_bind (wpAny_pure (wpAny_bind ?_)))
  unfold nsSet
  refine wpAny_bind (wpAny_bind (wpAny_askSetting (wpAny_pure (wpAny_bind (wpAny_mkText (wpAny_bind (wpAny_loadPart D ?_)))))))
  unfold lookIn at hl
  split at hl
  · rename_i es₀ n₀ q
    rw [q]
    dsimp only
    have c : (!es₀.any (·.key.isStr name) && es₀.any (·.refKey)) = false := by
      rw [← Array.any_toList, ← Array.any_toList]
      split at hl
      · rename_i en he
        rw [List.any_eq_true.mpr ⟨en, List.mem_of_find?_eq_some he, List.find?_some he⟩]; rfl
      · split at hl
        · cases hl
        · rename_i z; rw [Bool.not_eq_true] at z; rw [z, Bool.and_false]
    rw [aRefKeyMayBeTheName_at, c]
    refine wpAny_updatePart D ?_
    refine wpAny_bind (wpAny_lookBehind D' (by rw [e']; exact pastItsLine_dict (by rw [List.size_toArray, sizeLine_eq]; omega)) ?_)
    exact wpAny_pure (h _ U1 U2)
  · cases hl
theorem acc_setattr {es es' : List DictEntry} {nd nd' : Nat} {name : Str} {v : Value} {news news' : List (Addr × Obj)} {Q : Unit → Shared → Prop} (F : Fr h₀ L s.heap m) (X₀ : (Mine.hd.heap_1 w.params).In h₀) (N : News h₀ L s.heap news)
    (ho : s.heap.get? a = some (accObj dx its n)) (hdx : s.heap.get? dx = some (dictOf es nd)) (hf : findIn (Mine.hd.heap_1 w.params) (.ref 178) name = some none) (hl : (getL name es).isSome = true)
    (e : (putL name (PyData.keyHash w.params name) (.str name (s.toks + 1)) v es, putN name es nd) = (es', nd')) (U : Upd dx (dictOf es nd) (dictOf es' nd') news news') (hz : es'.length ≤ 1000)
    (h : ∀ h', Fr h₀ L h' m → News h₀ L h' news' → Q () { s with heap := h', toks := s.toks + 2 }) :
    wpAny (model PP w) A (setAttr (.ref a) name v) Q E s := by
  obtain ⟨pre, post, rfl, rfl, ha, hb⟩ := U.split
  obtain ⟨e1, e2⟩ := Prod.mk.inj e
  exact set_plain (X₀.keeps F.keep) (InstAt.acc ho hdx) (by k_is) (acc_osa_dict (s := { s with toks := s.toks + 1 }) F N (X₀.keeps F.keep) ho hf hl ha hb (by rw [putName_dict, e1, e2]) rfl hz fun h' F' N' => h h' F' N')
end
end
end Mine

-- AccF
namespace Mine
open PySem PySem.W PyProof.Rows PySem.Spec PySem.Calls
set_option maxRecDepth 100000
set_option maxHeartbeats 1000000
set_option pp.deepTerms false
set_option pp.deepTerms.threshold 8
set_option pp.fieldNotation false
noncomputable section
local macro_rules | `(tactic| walk_at "m_enterG") => `(tactic| (refine' enterP ?X ?lim ?g ?gs ?M ?room ?ho ?hcd ?bind ?loc ?_ ?c1 ?c2 ?c3 ?c4; (case X => exact Base.X (by with_reducible assumption)); (case lim => exact TopRead.nolimit (Base.T (by with_reducible assumption))); (case g => exact Base.grows (by with_reducible assumption)); (case gs => exact Base.size (by with_reducible assumption)); (case M => with_reducible assumption); (case room => decide); (case ho => k_is); (case hcd => k_is); (case bind => first | exact BindsTo.of_eq rfl | exact binds_K (Frag.In.keeps (Base.X (by with_reducible assumption)) (Base.grows (by with_reducible assumption))) rfl (by k_is) rfl rfl rfl); (case loc => exact locs rfl); (case c1 => exact rfl); (case c2 => exact rfl); (case c3 => exact rfl); (case c4 => decide); k_whole; intro h' F' N'; (try dsimp only); (try k_fold)))
local macro_rules | `(tactic| walk_at "eval Name") => `(tactic| ((with_reducible show wpAny _ _ (eval _ (genEnv _ _ _ _ _ _)) _ _ _); k_dflt (first
  | (refine' nm_L rfl rfl rfl ?hn ?hv ?_; (case hn => (try dsimp only [genEnv]); with_reducible assumption); (case hv => with_reducible assumption); k_whole)
  | (refine' nm_G rfl rfl rfl ?X ?T ?e ?_; (case X => with_reducible assumption); (case T => with_reducible assumption); (case e => k_is); k_whole)
  | (refine' nm_B rfl rfl rfl rfl ?X ?T ?e ?v ?n ?_; (case X => with_reducible assumption); (case T => with_reducible assumption); (case e => k_is); (case v => boot_fast); (case n => decide); k_whole))))
local macro_rules | `(tactic| k_inst) => `(tactic| (refine' Mine.InstAt.acc ?h1 ?h2; (case h1 => exact News.get (by k_asm) (by k_mem)); (case h2 => exact News.get (by k_asm) (by k_mem))))



local macro_rules | `(tactic| walk_at "m_enterS") => `(tactic| (refine' enterS ?X ?lim ?g ?gs ?M ?room ?ho ?hcd ?bind ?loc ?_ ?c4 ?c1 ?c2 ?c3; (case X => exact Base.X (by with_reducible assumption)); (case lim => exact TopRead.nolimit (Base.T (by with_reducible assumption))); (case g => exact Base.grows (by with_reducible assumption)); (case gs => exact Base.size (by with_reducible assumption)); (case M => with_reducible assumption); (case room => decide); (case ho => k_is); (case hcd => k_is); (case bind => first | exact BindsTo.of_eq rfl | exact binds_K (Frag.In.keeps (Base.X (by with_reducible assumption)) (Base.grows (by with_reducible assumption))) rfl (by k_is) rfl rfl rfl); (case loc => exact locs rfl); (case c1 => exact rfl); (case c2 => exact rfl); (case c3 => exact rfl); (case c4 => decide); k_whole; intro h' F' N'; (try dsimp only); (try k_fold)))

theorem reset_spec {w : World} {mg mb : Str → Option Value} {s : Shared} {Q E : Value → Shared → Prop} {g : Heap} (a dx v : Addr) (its ys : Array Value) (n nd : Nat) (t0 u0 : Tok)
  (B : Base w mg mb g s.heap) (M : ∀ p ∈ [(a, accObj dx its n), (dx, accDict w t0 u0 nd)], s.heap.get? p.1 = some p.2 ∧ g.get? p.1 = none) (hv : g.IsList v ys) (hsz : its.size ≤ 100) (hsz2 : ys.size ≤ 100)
  (hret : ∀ h' tk' n' u', Grows g h' → h'.get? a = some (accObj dx ys n') → h'.get? dx = some (accDict w t0 u' nd) → Q .none { s with heap := h', toks := tk' }) :
  wpAny (model PP w) (AD 700) (call (.ref 160) [.ref a, .ref v]) Q E s := by
  have X := B.X
  have T := B.T
  have had : a ≠ dx := by
    intro q
    have e1 := (M _ (.head _)).1
    have e2 := (M _ (.tail _ (.head _))).1
    dsimp only at e1 e2
    rw [q, e2] at e1
    cases e1
  k_dflt walk_at "m_enterG"
  k_steps
  (with_reducible rename Fr _ _ _ _ => F)
  (with_reducible rename News _ _ _ _ => N)
  rename Heap => h1
  have kp : ∀ (o : Obj) b o', h1.get? b = some o' → (h1.push o).get? b = some o' := fun o _ _ e => Heap.get?_push_of_some _ e
  have hb : sliceBounds none none none its.size = (((0 : Nat) : Int), (its.size : Int), 1) := rfl
  refine acc_setslice (st := 0) (en := its.size) ((X.keeps F.keep).keeps (kp _)) (kp _ _ _ (N.get (.head _))) (by omega) (by omega) (Heap.IsSliceOf.new ..) .none .none ((hv.at fun o e => F.keep _ _ e).push _) hb fun h2 n2 hs ho2 => ?_
  rw [show its.extract 0 0 ++ ys ++ its.extract (max 0 its.size) its.size = ys by simp] at ho2
  have F2 := (F.push _).change hs (N _ (.head _)).2.1 (N _ (.head _)).2.2
  have N1 : News g s.heap.objs.size (h1.push { cls := .type "slice", data := .fields #[.none, .none, .none] }) _ := fun p hp => ⟨kp _ _ _ (N p hp).1, (N p hp).2⟩
  have N2 := N1.setHead (by
    intro p hp q
    rw [List.mem_singleton.mp hp] at q
    exact had q.symm) hs ho2
  clear F N N1 hs kp hb
  dsimp only
  k_steps
  k_dflt (refine' acc_setattr (es' := [⟨PyData.keyHash w.params (Str.ofString "_initial_size"), .str (Str.ofString "_initial_size") t0, .int 0 _⟩]) (nd' := nd) F2 X N2 ho2 (N2.get (.tail _ (.head _))) ?gf ?gl ?ge (Upd.tail had (Upd.head (List.forall_mem_nil _))) ?gz (fun h3 F3 N3 => ?_))
  case gf => k_is
  case gl => k_get
  case ge => with_unfolding_all rfl
  case gz => exact Nat.le_of_ble_eq_true rfl
  refine wpAny_execs_nil ?_
  (try dsimp only)
  exact hret h3 _ _ _ (fun b o e => F3.keep b o e) (N3.get (.head _)) (N3.get (.tail _ (.head _)))
end
end Mine

-- AccH
namespace Mine
open PySem PySem.W PyProof.Rows PySem.Spec PySem.Calls
set_option maxRecDepth 100000
set_option maxHeartbeats 1000000
set_option pp.deepTerms false
set_option pp.deepTerms.threshold 8
set_option pp.fieldNotation false
noncomputable section
local macro_rules | `(tactic| walk_at "m_enterG") => `(tactic| (refine' enterP ?X ?lim ?g ?gs ?M ?room ?ho ?hcd ?bind ?loc ?_ ?c1 ?c2 ?c3 ?c4; (case X => exact Base.X (by with_reducible assumption)); (case lim => exact TopRead.nolimit (Base.T (by with_reducible assumption))); (case g => exact Base.grows (by with_reducible assumption)); (case gs => exact Base.size (by with_reducible assumption)); (case M => with_reducible assumption); (case room => decide); (case ho => k_is); (case hcd => k_is); (case bind => first | exact BindsTo.of_eq rfl | exact binds_K (Frag.In.keeps (Base.X (by with_reducible assumption)) (Base.grows (by with_reducible assumption))) rfl (by k_is) rfl rfl rfl); (case loc => exact locs rfl); (case c1 => exact rfl); (case c2 => exact rfl); (case c3 => exact rfl); (case c4 => decide); k_whole; intro h' F' N'; (try dsimp only); (try k_fold)))
local macro_rules | `(tactic| walk_at "eval Name") => `(tactic| ((with_reducible show wpAny _ _ (eval _ (genEnv _ _ _ _ _ _)) _ _ _); k_dflt (first
  | (refine' nm_L rfl rfl rfl ?hn ?hv ?_; (case hn => (try dsimp only [genEnv]); with_reducible assumption); (case hv => with_reducible assumption); k_whole)
  | (refine' nm_G rfl rfl rfl ?X ?T ?e ?_; (case X => with_reducible assumption); (case T => with_reducible assumption); (case e => k_is); k_whole)
  | (refine' nm_B rfl rfl rfl rfl ?X ?T ?e ?v ?n ?_; (case X => with_reducible assumption); (case T => with_reducible assumption); (case e => k_is); (case v => boot_fast); (case n => decide); k_whole))))
local macro_rules | `(tactic| k_inst) => `(tactic| (refine' Mine.InstAt.acc ?h1 ?h2; (case h1 => exact News.get (by k_asm) (by k_mem)); (case h2 => exact News.get (by k_asm) (by k_mem))))



local macro_rules | `(tactic| walk_at "m_enterS") => `(tactic| (refine' enterS ?X ?lim ?g ?gs ?M ?room ?ho ?hcd ?bind ?loc ?_ ?c4 ?c1 ?c2 ?c3; (case X => exact Base.X (by with_reducible assumption)); (case lim => exact TopRead.nolimit (Base.T (by with_reducible assumption))); (case g => exact Base.grows (by with_reducible assumption)); (case gs => exact Base.size (by with_reducible assumption)); (case M => with_reducible assumption); (case room => decide); (case ho => k_is); (case hcd => k_is); (case bind => first | exact BindsTo.of_eq rfl | exact binds_K (Frag.In.keeps (Base.X (by with_reducible assumption)) (Base.grows (by with_reducible assumption))) rfl (by k_is) rfl rfl rfl); (case loc => exact locs rfl); (case c1 => exact rfl); (case c2 => exact rfl); (case c3 => exact rfl); (case c4 => decide); k_whole; intro h' F' N'; (try dsimp only); (try k_fold)))

theorem acc_subscr {w : World} {A : Around} {E : Value → Shared → Prop} {s : Shared} {a dx : Addr} {its : Array Value} {n : Nat} {value slice : Expr} {i : Value} {ops : List Value} {Q : Value → Shared → Prop} (X : (Mine.hd.heap_1 w.params).In s.heap) (ho : s.heap.get? a = some (accObj dx its n))
    (hsl : subscripted slice false (.ref a) i = operate ops (getItem (.ref a) i)) (h : wpAny (model PP w) A (getItem (.ref a) i) Q E s) : wpAny (model PP w) A (subscriptTail value slice (.ref a) i) Q E s := by
  have t0 := acc_typ (M := model PP w) ho
  have f0 : Looks (model PP w) s.heap (typeLookup (.ref 178) "__getitem__") (some (.builtin "list.__getitem__")) := looks_findIn X (by k_is)
  unfold subscriptTail getitemInPython specialOf
  refine wpAny_bind (wpAny_bind (wpAny_bind (t0.here (f0.here ?_))))
  dsimp only
  refine wpAny_pure ?_
  rw [hsl]
  refine wpAny_bind (wpAny_operate' (wpAny_mono h (fun v s' z => ?_) fun _ _ z => z))
  exact wpAny_bind (wpAny_letTemporaryGo (wpAny_pure z))
theorem popfrom_spec {w : World} {mg mb : Str → Option Value} {s : Shared} {Q E : Value → Shared → Prop} {g : Heap} (a dx : Addr) (its : List Value) (i n nd : Nat) (t0 u0 t1 : Tok)
  (B : Base w mg mb g s.heap) (M : ∀ p ∈ [(a, accObj dx its.toArray n)], s.heap.get? p.1 = some p.2 ∧ g.get? p.1 = none) (hD : g.get? dx = some (accDict w t0 u0 nd)) (hsz : its.length ≤ 100) (hi : i ≤ its.length)
  (hret : ∀ q h' tk' n', Grows g h' → h'.get? a = some (accObj dx (its.take i).toArray n') → h'.get? q = some { cls := .type "list", data := .seq (its.drop i).toArray } → g.get? q = none → a ≠ q → Q (.ref q) { s with heap := h', toks := tk' }) :
  wpAny (model PP w) (AD 700) (call (.ref 130) [.ref a, .int (i : Int) t1]) Q E s := by
  have X := B.X
  have T := B.T
  k_dflt walk_at "m_enterG"
  k_steps
  (with_reducible rename Fr _ _ _ _ => F)
  (with_reducible rename News _ _ _ _ => N)
  rename Heap => h1
  have kp : ∀ (o : Obj) b o', h1.get? b = some o' → (h1.push o).get? b = some o' := fun o _ _ e => Heap.get?_push_of_some _ e
  have hsz' : its.toArray.size ≤ 1000 := by rw [List.size_toArray]; omega
  refine acc_subscr ((X.keeps F.keep).keeps (kp _)) (kp _ _ _ (N.get (.head _))) (by with_unfolding_all rfl) ?_
  refine acc_slice (lo := some (i : Int)) (hi := none) ((X.keeps F.keep).keeps (kp _)) (kp _ _ _ (N.get (.head _))) hsz' (Heap.IsSliceOf.new ..) (.int _ _) .none ?_
  have F1 := (F.push { cls := .type "slice", data := .fields #[.int (i : Int) t1, .none, .none] }).push { cls := .type "list", data := .seq (slicePick its.toArray (some (i : Int)) none none) }
  have N1 := News.push (F.push { cls := .type "slice", data := .fields #[.int (i : Int) t1, .none, .none] }) (N.grown fun _ _ e => Heap.get?_push_of_some _ e) { cls := .type "list", data := .seq (slicePick its.toArray (some (i : Int)) none none) }
  have hq : a < (h1.push { cls := .type "slice", data := .fields #[.int (i : Int) t1, .none, .none] }).objs.size := by
    rw [Heap.size_push]
    exact Nat.lt_succ_of_lt (Heap.lt_size (N.get (.head _)))
  have Fa := F1
  have Na := N1
  dsimp only at Fa Na ⊢
  rw [pick_from] at Fa Na ⊢
  clear F N F1 N1 kp
  generalize Heap.push (Heap.push h1 _) _ = h2 at *
  generalize (Heap.push h1 _).objs.size = q at *
  k_steps
  (with_reducible rename Fr _ _ _ _ => F)
  (with_reducible rename News _ _ _ _ => N)
  rename Heap => h3
  have kp : ∀ (o : Obj) b o', h3.get? b = some o' → (h3.push o).get? b = some o' := fun o _ _ e => Heap.get?_push_of_some _ e
  have hb : sliceBounds (some (i : Int)) none none its.toArray.size = (((i : Nat) : Int), ((its.length : Nat) : Int), 1) := by
    simp only [sliceBounds, Option.getD_none, show (1 : Int) > 0 by decide, if_true, if_neg (show ¬ ((i : Int) < 0) by omega), List.size_toArray]
    congr 1
    omega
  have hNa := N.get (.tail _ (.tail _ (.head _)))
  have hNl := N.get (.head _)
  refine acc_setslice (st := i) (en := its.length) (ys := #[]) ((X.keeps F.keep).keeps (kp _)) (kp _ _ _ hNa) hsz' (by simp) (Heap.IsSliceOf.new ..) (.int _ _) .none ⟨_, kp _ _ _ hNl, rfl, _, rfl⟩ hb fun h4 n4 hs ho4 => ?_
  have ei : its.toArray.extract 0 i ++ #[] ++ its.toArray.extract (max i its.length) its.toArray.size = (its.take i).toArray := by
    apply Array.toList_inj.mp
    simp [List.take_of_length_le, Nat.max_eq_right hi]
  rw [ei] at ho4
  with_reducible rename _ ∧ _ => l1
  have F4 := (F.push _).change hs (N _ (.tail _ (.tail _ (.head _)))).2.1 (N _ (.tail _ (.tail _ (.head _)))).2.2
  have N3 : News g s.heap.objs.size (h3.push { cls := .type "slice", data := .fields #[.int (i : Int) t1, .none, .none] }) _ := fun p hp => ⟨kp _ _ _ (N p hp).1, (N p hp).2⟩
  have N4 := news_set (pre := [_, _]) (post := []) N3 (List.forall_mem_cons.mpr ⟨Nat.ne_of_gt l1.2, List.forall_mem_cons.mpr ⟨Nat.ne_of_gt hq, List.forall_mem_nil _⟩⟩) (List.forall_mem_nil _) hs ho4
  clear F N N3 hs kp hb
  dsimp only [List.cons_append, List.nil_append] at N4
  k_steps
  (try dsimp only)
  exact hret q h4 _ _ (fun b o e => F4.keep b o e) (N4.get (.tail _ (.tail _ (.head _)))) (N4.get (.tail _ (.head _))) (N4 _ (.tail _ (.head _))).2.2 (Nat.ne_of_lt hq)
theorem reset0_spec {w : World} {mg mb : Str → Option Value} {s : Shared} {Q E : Value → Shared → Prop} {g : Heap} (a dx : Addr) (its : Array Value) (n nd : Nat) (t0 u0 : Tok)
  (B : Base w mg mb g s.heap) (M : ∀ p ∈ [(a, accObj dx its n), (dx, accDict w t0 u0 nd)], s.heap.get? p.1 = some p.2 ∧ g.get? p.1 = none) (hsz : its.size ≤ 100)
  (hret : ∀ h' tk' n' u', Grows g h' → h'.get? a = some (accObj dx #[] n') → h'.get? dx = some (accDict w t0 u' nd) → Q .none { s with heap := h', toks := tk' }) :
  wpAny (model PP w) (AD 700) (call (.ref 160) [.ref a]) Q E s := by
  have X := B.X
  have T := B.T
  have had : a ≠ dx := by
    intro q
    have e1 := (M _ (.head _)).1
    have e2 := (M _ (.tail _ (.head _))).1
    dsimp only at e1 e2
    rw [q, e2] at e1
    cases e1
  k_dflt walk_at "m_enterG"
  k_steps
  (with_reducible rename Fr _ _ _ _ => F)
  (with_reducible rename News _ _ _ _ => N)
  rename Heap => h1
  have kp : ∀ (o : Obj) b o', h1.get? b = some o' → (h1.push o).get? b = some o' := fun o _ _ e => Heap.get?_push_of_some _ e
  have hb : sliceBounds none none none its.size = (((0 : Nat) : Int), (its.size : Int), 1) := rfl
  have hNl := N.get (.head _)
  have hNa := N.get (.tail _ (.head _))
  with_reducible rename _ ∧ _ => l1
  refine acc_setslice (st := 0) (en := its.size) (ys := #[]) ((X.keeps F.keep).keeps (kp _)) (kp _ _ _ hNa) (by omega) (by simp) (Heap.IsSliceOf.new ..) .none .none ⟨_, kp _ _ _ hNl, rfl, _, rfl⟩ hb fun h2 n2 hs ho2 => ?_
  rw [show its.extract 0 0 ++ #[] ++ its.extract (max 0 its.size) its.size = #[] by simp] at ho2
  have F2 := (F.push _).change hs (N _ (.tail _ (.head _))).2.1 (N _ (.tail _ (.head _))).2.2
  have N1 : News g s.heap.objs.size (h1.push { cls := .type "slice", data := .fields #[.none, .none, .none] }) _ := fun p hp => ⟨kp _ _ _ (N p hp).1, (N p hp).2⟩
  have N2 := news_set (pre := [_]) (post := [_]) N1 (List.forall_mem_cons.mpr ⟨Nat.ne_of_gt l1.1, List.forall_mem_nil _⟩) (List.forall_mem_cons.mpr ⟨fun q => had q.symm, List.forall_mem_nil _⟩) hs ho2
  have hld := Nat.ne_of_gt l1.2
  clear F N N1 hs kp hb
  dsimp only [List.cons_append, List.nil_append] at N2
  dsimp only
  k_steps
  k_dflt (refine' acc_setattr (es' := [⟨PyData.keyHash w.params (Str.ofString "_initial_size"), .str (Str.ofString "_initial_size") t0, .int 0 _⟩]) (nd' := nd) F2 X N2 ho2 (N2.get (.tail _ (.tail _ (.head _)))) ?gf ?gl ?ge (Upd.tail hld (Upd.tail had (Upd.head (List.forall_mem_nil _)))) ?gz (fun h3 F3 N3 => ?_))
  case gf => k_is
  case gl => k_get
  case ge => with_unfolding_all rfl
  case gz => exact Nat.le_of_ble_eq_true rfl
  refine wpAny_execs_nil ?_
  (try dsimp only)
  exact hret h3 _ _ _ (fun b o e => F3.keep b o e) (N3.get (.tail _ (.head _))) (N3.get (.tail _ (.tail _ (.head _))))
end
end Mine

-- AccN
namespace Mine
open PySem PySem.W PyProof.Rows PySem.Spec PySem.Calls
set_option maxRecDepth 100000
set_option maxHeartbeats 1000000
set_option pp.deepTerms false
set_option pp.deepTerms.threshold 8
set_option pp.fieldNotation false
noncomputable section
local macro_rules | `(tactic| walk_at "m_enterG") => `(tactic| (refine' enterP ?X ?lim ?g ?gs ?M ?room ?ho ?hcd ?bind ?loc ?_ ?c1 ?c2 ?c3 ?c4; (case X => exact Base.X (by with_reducible assumption)); (case lim => exact TopRead.nolimit (Base.T (by with_reducible assumption))); (case g => exact Base.grows (by with_reducible assumption)); (case gs => exact Base.size (by with_reducible assumption)); (case M => with_reducible assumption); (case room => decide); (case ho => k_is); (case hcd => k_is); (case bind => first | exact BindsTo.of_eq rfl | exact binds_K (Frag.In.keeps (Base.X (by with_reducible assumption)) (Base.grows (by with_reducible assumption))) rfl (by k_is) rfl rfl rfl); (case loc => exact locs rfl); (case c1 => exact rfl); (case c2 => exact rfl); (case c3 => exact rfl); (case c4 => decide); k_whole; intro h' F' N'; (try dsimp only); (try k_fold)))
local macro_rules | `(tactic| walk_at "eval Name") => `(tactic| ((with_reducible show wpAny _ _ (eval _ (genEnv _ _ _ _ _ _)) _ _ _); k_dflt (first
  | (refine' nm_L rfl rfl rfl ?hn ?hv ?_; (case hn => (try dsimp only [genEnv]); with_reducible assumption); (case hv => with_reducible assumption); k_whole)
  | (refine' nm_G rfl rfl rfl ?X ?T ?e ?_; (case X => with_reducible assumption); (case T => with_reducible assumption); (case e => k_is); k_whole)
  | (refine' nm_B rfl rfl rfl rfl ?X ?T ?e ?v ?n ?_; (case X => with_reducible assumption); (case T => with_reducible assumption); (case e => k_is); (case v => boot_fast); (case n => decide); k_whole))))
local macro_rules | `(tactic| k_inst) => `(tactic| (refine' Mine.InstAt.acc ?h1 ?h2; (case h1 => exact News.get (by k_asm) (by k_mem)); (case h2 => exact News.get (by k_asm) (by k_mem))))



local macro_rules | `(tactic| walk_at "m_enterS") => `(tactic| (refine' enterS ?X ?lim ?g ?gs ?M ?room ?ho ?hcd ?bind ?loc ?_ ?c4 ?c1 ?c2 ?c3; (case X => exact Base.X (by with_reducible assumption)); (case lim => exact TopRead.nolimit (Base.T (by with_reducible assumption))); (case g => exact Base.grows (by with_reducible assumption)); (case gs => exact Base.size (by with_reducible assumption)); (case M => with_reducible assumption); (case room => decide); (case ho => k_is); (case hcd => k_is); (case bind => first | exact BindsTo.of_eq rfl | exact binds_K (Frag.In.keeps (Base.X (by with_reducible assumption)) (Base.grows (by with_reducible assumption))) rfl (by k_is) rfl rfl rfl); (case loc => exact locs rfl); (case c1 => exact rfl); (case c2 => exact rfl); (case c3 => exact rfl); (case c4 => decide); k_whole; intro h' F' N'; (try dsimp only); (try k_fold)))


section
variable {w : World} {A : Around} {E : Value → Shared → Prop} {h : Heap} {g : Array GenState} {d : Drawn} {t : Nat} {os : OsState} {R : Result → Shared → Prop}
structure AccMakes (w : World) (h : Heap) : Prop where
  obj : ∃ oc od cd sl, h.get? 178 = some ⟨oc, od, .cls cd, sl⟩ ∧ cd.abstract = false ∧ cd.hasDel = false ∧ cd.mro = [.ref 178, .type "list", .type "object"]
  made : Looks (model PP w) h (Bind.madeBy (.ref 178)) (some "list.__new__")
  base : Looks (model PP w) h (Bind.staticBase (.ref 178)) (.ref 178)
  self : Looks (model PP w) h (isSubtype (.ref 178) (.ref 178)) true
  top : Looks (model PP w) h (isSubtype (.ref 178) (.type "list")) true
  call : Looks (model PP w) h (specialOf (.ref 178) "__call__") (some (.builtin "type.__call__"))
  typ : Looks (model PP w) h (isInstance (.ref 178) (.type "type")) true
theorem acc_makes (X : (Mine.hd.heap_1 w.params).In h) : AccMakes w h := by
  have hk : (match (Mine.hd.heap_1 w.params).lookup 178 with | some ⟨_, _, .cls cd, sl⟩ => !cd.abstract && !cd.hasDel && cd.mro == [.ref 178, .type "list", .type "object"] && (sl.toList[4]?).join == some (.builtin "list.__new__") | _ => false) = true := by kernel_rfl
  split at hk
  · rename_i oc od cd sl ho
    simp only [Bool.and_eq_true, Bool.not_eq_true', beq_iff_eq] at hk
    obtain ⟨⟨⟨e1, e2⟩, e3⟩, e4⟩ := hk
    have hc : clsIn (Mine.hd.heap_1 w.params) 178 = some cd := by unfold clsIn; rw [ho]
    have hm : Looks (model PP w) h (mroOf (.ref 178)) cd.mro := (looks_clsIn X hc).andThen .now
    have made : Looks (model PP w) h (Bind.madeBy (.ref 178)) (some "list.__new__") := by
      intro A Q E s k q
      unfold Bind.madeBy
      refine wpAny_bind (hm A _ E s k ?_)
      rw [e3, List.forIn_cons]
      refine wpAny_bind (wpAny_bind (wpAny_bind (wpAny_bind (wpAny_loadPart (k _ _ (X _ _ ho)) (wpAny_pure ?_)))))
      dsimp only
      rw [← Array.getElem?_toList, e4]
      exact wpAny_pure (wpAny_pure (wpAny_pure q))
    refine ⟨⟨oc, od, cd, sl, X _ _ ho, e1, e2, e3⟩, made, ?_, looks_mroIn X (by k_is), looks_mroIn X (by k_is), looks_specialIn X (by k_is), looks_instIn X (by k_is)⟩
    intro A Q E s k q
    unfold Bind.staticBase
    refine wpAny_bind (hm A _ E s k ?_)
    rw [e3, List.forIn_cons]
    exact wpAny_bind (wpAny_bind (wpAny_bind (made A _ E s k (wpAny_pure (wpAny_pure (wpAny_pure q))))))
  · cases hk
theorem acc_new_code {u : Tok} (Y : AccMakes w h)
    (hq : R (.ok (.ret (.ref (h.objs.size + 1)))) ⟨(h.push emptyDict).push (accObj h.objs.size #[] 0), g, d, t, os⟩) :
    codeAny (model PP w) A (.call (.builtin "list.__new__") ⟨[.ref 178, .int 0 u], []⟩) R ⟨h, g, d, t, os⟩ := by
  obtain ⟨⟨oc, od, cd, sl, hC, e1, e2, e4⟩, made, base, self, top, call, typ⟩ := Y
  refine codeAny_of_tree ?_
  show wpAny _ A.in1 (do checkBuiltinCall "list.__new__" ⟨[.ref 178, .int 0 u], []⟩; again (.builtin "list.__new__" ⟨[.ref 178, .int 0 u], []⟩)) _ _ _
  refine wpAny_bind ?_
  have hck : Looks (model PP w) h (checkBuiltinCall "list.__new__" ⟨[.ref 178, .int 0 u], []⟩) () := by
    intro A Q E s k q
    obtain ⟨hh, gg, dd, tt, oo⟩ := s
    have made' := made.keeps k
    have base' := base.keeps k
    have top' := top.keeps k
    have hC' := k _ _ hC
    have hk : builtinKind "list.__new__" = some .builtinFn := by decide +kernel
    have hs : splitId "list.__new__" = some ("list", "__new__") := by decide +kernel
    have he : (("__new__" : String) == "__new__") = true := by decide
    simp only [checkBuiltinCall, hk, hs, he, if_true]
    repeat (first | simp only [Bool.not_true, Bool.false_eq_true, if_false, bne_self_eq_false] | lk)
    exact q
  refine hck.here ?_
  refine wpAny_pure ⟨plainId_quiet F.plain_list_new _, codeAny_builtin_stack F.entry_list_new rfl fun p st => ?_⟩
  rw [Around.under_plainId F.plain_list_new _]
  have hown := owner_list_new
  simp only [hown]
  repeat (first | simp only [Bool.not_true, Bool.false_eq_true, if_false] | lk)
  refine nd_load (Heap.get?_push_of_some _ (Heap.get?_push_of_some _ hC)) ?_
  repeat (first | simp only [e2, Bool.not_true, Bool.false_eq_true, if_false] | lk)
  rw [Heap.size_push]
  exact hq
theorem acc_make {u : Tok} {init : Value} (Y : AccMakes w h) (hi : Looks (model PP w) h (typeLookup (.ref 178) "__init__") (some init)) (hb : ∀ self, Looks (model PP w) h (bindSpecial init self) (init, [self]))
    (hq : codeAny (model PP w) (A.under (.builtin "type.__call__" ⟨[.ref 178, .int 0 u], []⟩)) (.call init ⟨[.ref (h.objs.size + 1), .int 0 u], []⟩) (InitBack (h.objs.size + 1) R) ⟨(h.push emptyDict).push (accObj h.objs.size #[] 0), g, d, t, os⟩) :
    codeAny (model PP w) A (.call (.ref 178) ⟨[.int 0 u], []⟩) R ⟨h, g, d, t, os⟩ := by
  have Y' := Y
  obtain ⟨⟨oc, od, cd, sl, hC, e1, e2, e4⟩, made, base, self, top, call, typ⟩ := Y
  refine codeAny_of_tree ?_
  show wpAny _ _ (callAny (.ref 178) _) _ _ _
  refine nd_load hC ?_
  show wpAny _ _ (callAny.viaDunder (.ref 178) _) _ _ _
  unfold callAny.viaDunder
  refine wpAny_bind (call.at ?_)
  dsimp only
  rw [tc_bind]
  refine wpAny_bind (wpAny_pure (wpAny_bind (wpAny_pure ?_)))
  refine wpAny_pure (a := PySem.Fin.again (.call (.builtin "type.__call__") ⟨[.ref 178, .int 0 u], []⟩)) (And.intro rfl ?_)
  refine codeAny_call_builtin_at (Code.quiet_builtin _ (by decide +kernel)) entry_typeCall (check_slot tc_kind tc_split typ (tc_args _ _ _) ?_)
  unfold Builtin.«type.__call__»
  have hm : Looks (model PP w) h (mroOf (.ref 178)) cd.mro := ((Looks.ld (part := none) hC).andThen .now).andThen .now
  have e5 : cd.mro.isEmpty = false := by rw [e4]; rfl
  repeat (first | simp only [e5, Bool.false_eq_true, if_false] | with_reducible refine wpAny_call ?_ | lk)
  refine acc_new_code Y' ?_
  have k : ∀ b o, h.get? b = some o → ((h.push emptyDict).push (accObj h.objs.size #[] 0)).get? b = some o := fun b o e => Heap.get?_push_of_some _ (Heap.get?_push_of_some _ e)
  have hx : ((h.push emptyDict).push (accObj h.objs.size #[] 0)).get? (h.objs.size + 1) = some (accObj h.objs.size #[] 0) := by heap_get
  have t1 : Looks (model PP w) ((h.push emptyDict).push (accObj h.objs.size #[] 0)) (typeOf (.ref (h.objs.size + 1))) (.ref 178) := (Looks.ld hx).andThen .now
  have s1 := self.keeps k
  have i1 := hi.keeps k
  have b1 := (hb (.ref (h.objs.size + 1))).keeps k
  dsimp only
  unfold isInstance callSpecial? specialOf
  repeat (first | with_reducible refine wpAny_call ?_ | lk)
  refine codeAny_mono hq fun r s' z => ?_
  rcases r with e | (v | _ | _ | _) <;> first | exact z | exact z.elim | skip
  obtain ⟨rfl, z⟩ := z
  exact wpAny_pure (wpAny_pure z)
end
end
end Mine

-- AccO
namespace Mine
open PySem PySem.W PyProof.Rows PySem.Spec PySem.Calls
set_option maxRecDepth 100000
set_option maxHeartbeats 1000000
set_option pp.deepTerms false
set_option pp.deepTerms.threshold 8
set_option pp.fieldNotation false
noncomputable section
local macro_rules | `(tactic| walk_at "m_enterG") => `(tactic| (refine' enterP ?X ?lim ?g ?gs ?M ?room ?ho ?hcd ?bind ?loc ?_ ?c1 ?c2 ?c3 ?c4; (case X => exact Base.X (by with_reducible assumption)); (case lim => exact TopRead.nolimit (Base.T (by with_reducible assumption))); (case g => exact Base.grows (by with_reducible assumption)); (case gs => exact Base.size (by with_reducible assumption)); (case M => with_reducible assumption); (case room => decide); (case ho => k_is); (case hcd => k_is); (case bind => first | exact BindsTo.of_eq rfl | exact binds_K (Frag.In.keeps (Base.X (by with_reducible assumption)) (Base.grows (by with_reducible assumption))) rfl (by k_is) rfl rfl rfl); (case loc => exact locs rfl); (case c1 => exact rfl); (case c2 => exact rfl); (case c3 => exact rfl); (case c4 => decide); k_whole; intro h' F' N'; (try dsimp only); (try k_fold)))
local macro_rules | `(tactic| walk_at "eval Name") => `(tactic| ((with_reducible show wpAny _ _ (eval _ (genEnv _ _ _ _ _ _)) _ _ _); k_dflt (first
  | (refine' nm_L rfl rfl rfl ?hn ?hv ?_; (case hn => (try dsimp only [genEnv]); with_reducible assumption); (case hv => with_reducible assumption); k_whole)
  | (refine' nm_G rfl rfl rfl ?X ?T ?e ?_; (case X => with_reducible assumption); (case T => with_reducible assumption); (case e => k_is); k_whole)
  | (refine' nm_B rfl rfl rfl rfl ?X ?T ?e ?v ?n ?_; (case X => with_reducible assumption); (case T => with_reducible assumption); (case e => k_is); (case v => boot_fast); (case n => decide); k_whole))))
local macro_rules | `(tactic| k_inst) => `(tactic| (refine' Mine.InstAt.acc ?h1 ?h2; (case h1 => exact News.get (by k_asm) (by k_mem)); (case h2 => exact News.get (by k_asm) (by k_mem))))



local macro_rules | `(tactic| walk_at "m_enterS") => `(tactic| (refine' enterS ?X ?lim ?g ?gs ?M ?room ?ho ?hcd ?bind ?loc ?_ ?c4 ?c1 ?c2 ?c3; (case X => exact Base.X (by with_reducible assumption)); (case lim => exact TopRead.nolimit (Base.T (by with_reducible assumption))); (case g => exact Base.grows (by with_reducible assumption)); (case gs => exact Base.size (by with_reducible assumption)); (case M => with_reducible assumption); (case room => decide); (case ho => k_is); (case hcd => k_is); (case bind => first | exact BindsTo.of_eq rfl | exact binds_K (Frag.In.keeps (Base.X (by with_reducible assumption)) (Base.grows (by with_reducible assumption))) rfl (by k_is) rfl rfl rfl); (case loc => exact locs rfl); (case c1 => exact rfl); (case c2 => exact rfl); (case c3 => exact rfl); (case c4 => decide); k_whole; intro h' F' N'; (try dsimp only); (try k_fold)))



/-- the same in the words of a code -/
theorem enterSC {w : World} {A : Around} {s : Shared} {R : Result → Shared → Prop} {g : Heap} {K : Frag} {news : List (Addr × Obj)} {cc : Addr}
    {name qual : Str} {params : Arguments} {body : List Stmt} {scope : Scope} {dV kV doc pm cdv ct oc : Value} {an od : Option Addr} {osl : Array (Option Value)} {f : Addr} {vs : List Value} {binds : List (Str × Value)}
    (X : K.In g) (hlim : g.NoLimit) (hg : Grows g s.heap) (hgs : g.objs.size ≤ s.heap.objs.size) (M : ∀ p ∈ news, s.heap.get? p.1 = some p.2 ∧ g.get? p.1 = none)
    (hroom : A.depth < recursionLimit)
    (ho : K.lookup f = some ⟨oc, od, .func (ksFn name qual params body scope dV kV doc pm an cdv ct cc), osl⟩) (hcd : codeIn K cdv qual = true)
    (hbind : BindsTo s (ksFn name qual params body scope dV kV doc pm an cdv ct cc) ⟨vs, []⟩ binds) (hloc : ∀ y ∈ binds, scope.names.lookup y.1 = some .local)
    (h : ∀ h₁, Fr g s.heap.objs.size h₁ (fun y => binds.reverse.lookup y) → News g s.heap.objs.size h₁ news →
      _root_.PySem.wpAt (model PP w) (A.deeper (ksEnv qual scope s.heap.objs.size f cdv cc)) (.func body (ksEnv qual scope s.heap.objs.size f cdv cc)) (execs body (ksEnv qual scope s.heap.objs.size f cdv cc))
        (fun fl s' => R (.ok (.ret (match fl with | .ret v => v | _ => .none))) s') (fun _ _ => False) { s with heap := h₁, toks := s.toks + binds.length })
    (hcell : ∀ x ∈ scope.names, x.2 ≠ .cell) (hco : scope.isCoroutine = false) (hgen : scope.isGenerator = false) (hk : scope.kind = .function) :
    codeAny (model PP w) A (.call (.ref f) ⟨vs, []⟩) R s := by
  refine ks_codeAny_call_defAt (fd := ksFn name qual params body scope dV kV doc pm an cdv ct cc) (body := body) (binds := binds) hroom (hg _ _ (X _ _ ho)) rfl (hlim.keeps hg) (codeRec_of (X.keeps hg) hcd) rfl hbind hcell hloc (fun h₁ hns hk₁ => ?_) hco hgen hk
  exact ks_wpAt_mono (h h₁ ⟨hns, fun b o e => hk₁ b o (hg b o e), hgs⟩ (fun p hp => ⟨hk₁ _ _ (M p hp).1, Nat.ne_of_lt (Heap.lt_size (M p hp).1), (M p hp).2⟩)) (fun _ _ x => x) fun _ _ x => x.elim
theorem init_in {w : World} {A : Around} {E : Value → Shared → Prop} {s : Shared} {a dx : Addr} {n : Nat} {Q : Value → Shared → Prop} (ho : s.heap.get? a = some (accObj dx #[] n))
    (h : ∀ h', Heap.SameBut a s.heap h' → h'.get? a = some (accObj dx #[] n) → Q .none { s with heap := h' }) :
    wpAny (model PP w) A (Builtin.«list.__init__» ⟨[.ref a], []⟩) (fun fin s' => ∃ v, fin = .done (.ret v) ∧ Q v s') E s := by
  unfold Builtin.«list.__init__»
  refine wpAny_bind (m := Builtin.List.listItems (.ref a)) (wpAny_listItems ho rfl ?_)
  refine wpAny_bind ?_
  show wpAny _ _ (updateSeq a _) _ _ _
  refine wpAny_updateSeq (f := fun _ => #[]) ho rfl ?_ (by simp) (by simp)
  refine wpAny_bind (wpAny_letGo ?_)
  refine wpAny_pure ⟨_, rfl, h _ (Heap.SameBut.update ..) ?_⟩
  rw [Heap.get?_update_self _ ho (by rfl)]
  simp [Obj.mapSeq]
local macro_rules | `(tactic| walk_at "m_enterSC") => `(tactic| (refine' enterSC ?X ?lim ?g ?gs ?M ?room ?ho ?hcd ?bind ?loc ?_ ?c4 ?c1 ?c2 ?c3; (case X => exact Base.X (by with_reducible assumption)); (case lim => exact TopRead.nolimit (Base.T (by with_reducible assumption))); (case g => exact Base.grows (by with_reducible assumption)); (case gs => exact Base.size (by with_reducible assumption)); (case M => with_reducible assumption); (case room => with_reducible assumption); (case ho => k_is); (case hcd => k_is); (case bind => first | exact BindsTo.of_eq rfl | exact binds_K (Frag.In.keeps (Base.X (by with_reducible assumption)) (Base.grows (by with_reducible assumption))) rfl (by k_is) rfl rfl rfl); (case loc => exact locs rfl); (case c1 => exact rfl); (case c2 => exact rfl); (case c3 => exact rfl); (case c4 => decide); k_whole; intro h' F' N'; (try dsimp only); (try k_fold)))
theorem init_spec {w : World} {A : Around} {mg mb : Str → Option Value} {s : Shared} {R : Result → Shared → Prop} {g : Heap} (a dx : Addr) (u : Tok)
  (B : Base w mg mb g s.heap) (M : ∀ p ∈ [(a, accObj dx #[] 0), (dx, emptyDict)], s.heap.get? p.1 = some p.2 ∧ g.get? p.1 = none) (had : a ≠ dx) (ha : a ≠ 178) (hroom : A.depth < recursionLimit)
  (hret : ∀ h' tk' t' nd, Grows g h' → h'.get? a = some (accObj dx #[] 0) → h'.get? dx = some (accDict w t' u nd) → R (.ok (.ret .none)) { s with heap := h', toks := tk' }) :
  codeAny (model PP w) A (.call (.ref 115) ⟨[.ref a, .int 0 u], []⟩) R s := by
  have X := B.X
  have T := B.T
  k_dflt walk_at "m_enterSC"
  refine ks_wpAt_execs_cons ?_
  refine wpAt_of_wpAny ?_
  k_steps
  (with_reducible rename Fr _ _ _ _ => F)
  (with_reducible rename News _ _ _ _ => N)
  refine acc_setattr (es := []) (nd := 0) (es' := [⟨PyData.keyHash w.params (Str.ofString "_initial_size"), .str (Str.ofString "_initial_size") _, .int 0 u⟩]) (nd' := 1) F X N (N.get (.head _)) (N.get (.tail _ (.head _))) (by k_is) rfl (by with_unfolding_all rfl) (Upd.tail had (Upd.head (List.forall_mem_nil _))) (Nat.le_of_ble_eq_true rfl) (fun h3 F3 N3 => ?_)
  dsimp only
  refine ks_wpAt_execs_cons ?_
  refine ks_wpAt_Expr_any ?_
  refine ks_wpAt_MethodCall ?_
  k_dflt (refine super_node F3 X N3 T (by k_is) (by rfl) (by rfl) (N3.get (.head _)) (by k_is) (by rfl) (by first | rfl | decide +kernel) (by k_is) (by k_is) (by k_is) (by k_is) (by decide) (by rfl) (by rfl) (by rfl) (by rfl) (by decide +kernel) (by first | boot_by_name | rfl | kernel_rfl) ?_)
  intro so h' F' N' l1
  have hA' : h'.get? a = some (accObj dx #[] 0) := N'.get (.tail _ (.head _))
  refine super_len (X.keeps F'.keep) hA' ha (N'.get (.head _)) (id := "list.__init__") (gt := "wrapper_descriptor") (bt := "method-wrapper") (by ks_is) (.inl ⟨rfl, rfl, .inr rfl, by rw [builtinType_eq_fast]; kernel_rfl⟩) (by decide) ?_
  dsimp only
  have kq : Grows h' (h'.push (boundObj "method-wrapper" "list.__init__" a)) := fun _ _ e => Heap.get?_push_of_some _ e
  refine callWith_bound (.inl rfl) (Heap.get?_push_size _ rfl) ?_
  refine call_bound ((X.keeps F'.keep).keeps kq) (Heap.get?_push_size _ rfl) rfl (.inl rfl) rfl (kq _ _ hA') (fun A' Q' E' q => check_init q) (b := Builtin.«list.__init__») (by decide +kernel) (entryFor_of_tree (by kernel_rfl)) ?_
  refine init_in (kq _ _ hA') fun h4 hs ho4 => ?_
  refine wpAt_of_wpAny (wpAny_execs_nil ?_)
  (try dsimp only)
  have hne : ∀ b o, g.get? b = some o → b ≠ a := fun b o e q => by rw [q, (M _ (.head _)).2] at e; cases e
  exact hret h4 _ _ _ (fun b o e => hs.extBut b o (hne b o e) (kq _ _ (F'.keep b o e))) ho4 (hs.extBut _ _ (Ne.symm had) (kq _ _ (N'.get (.tail _ (.tail _ (.head _))))))
end
end Mine

-- AccQ
namespace Mine
open PySem PySem.W PyProof.Rows PySem.Spec PySem.Calls
set_option maxRecDepth 100000
set_option maxHeartbeats 1000000
set_option pp.deepTerms false
set_option pp.deepTerms.threshold 8
set_option pp.fieldNotation false
noncomputable section
local macro_rules | `(tactic| walk_at "m_enterG") => `(tactic| (refine' enterP ?X ?lim ?g ?gs ?M ?room ?ho ?hcd ?bind ?loc ?_ ?c1 ?c2 ?c3 ?c4; (case X => exact Base.X (by with_reducible assumption)); (case lim => exact TopRead.nolimit (Base.T (by with_reducible assumption))); (case g => exact Base.grows (by with_reducible assumption)); (case gs => exact Base.size (by with_reducible assumption)); (case M => with_reducible assumption); (case room => decide); (case ho => k_is); (case hcd => k_is); (case bind => first | exact BindsTo.of_eq rfl | exact binds_K (Frag.In.keeps (Base.X (by with_reducible assumption)) (Base.grows (by with_reducible assumption))) rfl (by k_is) rfl rfl rfl); (case loc => exact locs rfl); (case c1 => exact rfl); (case c2 => exact rfl); (case c3 => exact rfl); (case c4 => decide); k_whole; intro h' F' N'; (try dsimp only); (try k_fold)))
local macro_rules | `(tactic| walk_at "eval Name") => `(tactic| ((with_reducible show wpAny _ _ (eval _ (genEnv _ _ _ _ _ _)) _ _ _); k_dflt (first
  | (refine' nm_L rfl rfl rfl ?hn ?hv ?_; (case hn => (try dsimp only [genEnv]); with_reducible assumption); (case hv => with_reducible assumption); k_whole)
  | (refine' nm_G rfl rfl rfl ?X ?T ?e ?_; (case X => with_reducible assumption); (case T => with_reducible assumption); (case e => k_is); k_whole)
  | (refine' nm_B rfl rfl rfl rfl ?X ?T ?e ?v ?n ?_; (case X => with_reducible assumption); (case T => with_reducible assumption); (case e => k_is); (case v => boot_fast); (case n => decide); k_whole))))
local macro_rules | `(tactic| k_inst) => `(tactic| (refine' Mine.InstAt.acc ?h1 ?h2; (case h1 => exact News.get (by k_asm) (by k_mem)); (case h2 => exact News.get (by k_asm) (by k_mem))))



local macro_rules | `(tactic| walk_at "m_enterS") => `(tactic| (refine' enterS ?X ?lim ?g ?gs ?M ?room ?ho ?hcd ?bind ?loc ?_ ?c4 ?c1 ?c2 ?c3; (case X => exact Base.X (by with_reducible assumption)); (case lim => exact TopRead.nolimit (Base.T (by with_reducible assumption))); (case g => exact Base.grows (by with_reducible assumption)); (case gs => exact Base.size (by with_reducible assumption)); (case M => with_reducible assumption); (case room => decide); (case ho => k_is); (case hcd => k_is); (case bind => first | exact BindsTo.of_eq rfl | exact binds_K (Frag.In.keeps (Base.X (by with_reducible assumption)) (Base.grows (by with_reducible assumption))) rfl (by k_is) rfl rfl rfl); (case loc => exact locs rfl); (case c1 => exact rfl); (case c2 => exact rfl); (case c3 => exact rfl); (case c4 => decide); k_whole; intro h' F' N'; (try dsimp only); (try k_fold)))




theorem accnew_spec {w : World} {mg mb : Str → Option Value} {s : Shared} {Q E : Value → Shared → Prop} {g : Heap} (u : Tok)
  (B : Base w mg mb g s.heap) (h178 : 178 < s.heap.objs.size)
  (hret : ∀ a dx h' tk' t' nd, Grows g h' → h'.get? a = some (accObj dx #[] 0) → h'.get? dx = some (accDict w t' u nd) → a ≠ dx → a ≠ 178 → s.heap.objs.size ≤ a → s.heap.objs.size ≤ dx → Q (.ref a) { s with heap := h', toks := tk' }) :
  wpAny (model PP w) (AD 700) (call (.ref 178) [.int 0 u]) Q E s := by
  have X := B.X
  have T := B.T
  refine wpAny_call ?_
  obtain ⟨hh, gg, dd, tt, oo⟩ := s
  have Xh := X.keeps B.grows
  refine acc_make (init := .ref 115) (acc_makes Xh) (looks_findIn Xh (by k_is)) (fun self => bind_fn Xh self (by k_is)) ?_
  have k : Grows hh ((hh.push emptyDict).push (accObj hh.objs.size #[] 0)) := fun b o e => Heap.get?_push_of_some _ (Heap.get?_push_of_some _ e)
  have hx : ((hh.push emptyDict).push (accObj hh.objs.size #[] 0)).get? (hh.objs.size + 1) = some (accObj hh.objs.size #[] 0) := by heap_get
  have hd : ((hh.push emptyDict).push (accObj hh.objs.size #[] 0)).get? hh.objs.size = some emptyDict := by heap_get
  have fresh : ∀ b, hh.objs.size ≤ b → g.get? b = none := fun b hb => Heap.get?_none_of_le (Nat.le_trans B.size hb)
  have B2 : Base w mg mb g ((hh.push emptyDict).push (accObj hh.objs.size #[] 0)) := ⟨B.X, B.T, fun b o e => k _ _ (B.grows _ _ e), by rw [Heap.size_push, Heap.size_push]; exact Nat.le_trans B.size (by dsimp only; omega), B.main⟩
  refine init_spec (s := ⟨(hh.push emptyDict).push (accObj hh.objs.size #[] 0), gg, dd, tt, oo⟩) (hh.objs.size + 1) hh.objs.size u B2 (List.forall_mem_cons.mpr ⟨⟨hx, fresh _ (Nat.le_succ _)⟩, List.forall_mem_cons.mpr ⟨⟨hd, fresh _ (Nat.le_refl _)⟩, List.forall_mem_nil _⟩⟩) (Nat.succ_ne_self _) ?_ ?_ fun h' tk' t' nd hg ha hdx => ?_
  · exact Nat.ne_of_gt (Nat.lt_succ_of_lt h178)
  · first | (show (700 : Nat) < recursionLimit; decide) | (show (701 : Nat) < recursionLimit; decide)
  · exact ⟨rfl, hret _ _ h' tk' t' nd hg ha hdx (Nat.succ_ne_self _) (Nat.ne_of_gt (Nat.lt_succ_of_lt h178)) (Nat.le_succ _) (Nat.le_refl _)⟩
end
end Mine

-- AccV
namespace Mine
open PySem PySem.W PyProof.Rows PySem.Spec PySem.Calls
set_option maxRecDepth 100000
set_option maxHeartbeats 1000000
set_option pp.deepTerms false
set_option pp.deepTerms.threshold 8
set_option pp.fieldNotation false
noncomputable section
local macro_rules | `(tactic| walk_at "m_enterG") => `(tactic| (refine' enterP ?X ?lim ?g ?gs ?M ?room ?ho ?hcd ?bind ?loc ?_ ?c1 ?c2 ?c3 ?c4; (case X => exact Base.X (by with_reducible assumption)); (case lim => exact TopRead.nolimit (Base.T (by with_reducible assumption))); (case g => exact Base.grows (by with_reducible assumption)); (case gs => exact Base.size (by with_reducible assumption)); (case M => with_reducible assumption); (case room => decide); (case ho => k_is); (case hcd => k_is); (case bind => first | exact BindsTo.of_eq rfl | exact binds_K (Frag.In.keeps (Base.X (by with_reducible assumption)) (Base.grows (by with_reducible assumption))) rfl (by k_is) rfl rfl rfl); (case loc => exact locs rfl); (case c1 => exact rfl); (case c2 => exact rfl); (case c3 => exact rfl); (case c4 => decide); k_whole; intro h' F' N'; (try dsimp only); (try k_fold)))
local macro_rules | `(tactic| walk_at "eval Name") => `(tactic| ((with_reducible show wpAny _ _ (eval _ (genEnv _ _ _ _ _ _)) _ _ _); k_dflt (first
  | (refine' nm_L rfl rfl rfl ?hn ?hv ?_; (case hn => (try dsimp only [genEnv]); with_reducible assumption); (case hv => with_reducible assumption); k_whole)
  | (refine' nm_G rfl rfl rfl ?X ?T ?e ?_; (case X => with_reducible assumption); (case T => with_reducible assumption); (case e => k_is); k_whole)
  | (refine' nm_B rfl rfl rfl rfl ?X ?T ?e ?v ?n ?_; (case X => with_reducible assumption); (case T => with_reducible assumption); (case e => k_is); (case v => boot_fast); (case n => decide); k_whole))))
local macro_rules | `(tactic| k_inst) => `(tactic| (refine' Mine.InstAt.acc ?h1 ?h2; (case h1 => exact Fr.keep (by with_reducible assumption) _ _ (by with_reducible assumption)); (case h2 => exact Fr.keep (by with_reducible assumption) _ _ (by with_reducible assumption))))



local macro_rules | `(tactic| walk_at "m_enterS") => `(tactic| (refine' enterS ?X ?lim ?g ?gs ?M ?room ?ho ?hcd ?bind ?loc ?_ ?c4 ?c1 ?c2 ?c3; (case X => exact Base.X (by with_reducible assumption)); (case lim => exact TopRead.nolimit (Base.T (by with_reducible assumption))); (case g => exact Base.grows (by with_reducible assumption)); (case gs => exact Base.size (by with_reducible assumption)); (case M => with_reducible assumption); (case room => decide); (case ho => k_is); (case hcd => k_is); (case bind => first | exact BindsTo.of_eq rfl | exact binds_K (Frag.In.keeps (Base.X (by with_reducible assumption)) (Base.grows (by with_reducible assumption))) rfl (by k_is) rfl rfl rfl); (case loc => exact locs rfl); (case c1 => exact rfl); (case c2 => exact rfl); (case c3 => exact rfl); (case c4 => decide); k_whole; intro h' F' N'; (try dsimp only); (try k_fold)))





theorem Base.hide {w : World} {mg mb : Str → Option Value} {g h : Heap} (B : Base w mg mb g h) (l : List Addr) (hl : ∀ b ∈ l, g.get? b = none) : Base w mg mb (hideAll h l) h := by
  have k : Grows g (hideAll h l) := fun b o e => hideAll_get _ (B.grows _ _ e) fun hm => by rw [hl b hm] at e; cases e
  obtain ⟨bm, ob, b1, b2, b3, b4⟩ := B.main
  exact ⟨B.X.keeps k, B.T.keeps k, fun b o e => of_hideAll _ e, Nat.le_of_eq (hideAll_size _ _), bm, ob, b1, b2, k _ _ b3, b4⟩
theorem grows_hide {g h : Heap} {L : Addr} {m : Str → Option Value} (F : Fr g L h m) (l : List Addr) (hl : ∀ b ∈ l, g.get? b = none) : Grows g (hideAll h l) :=
  fun b o e => hideAll_get _ (F.keep _ _ e) fun hm => by rw [hl b hm] at e; cases e
theorem fr_hid {g h h2 : Heap} {L : Addr} {m : Str → Option Value} (F : Fr g L h m) (l : List Addr) (hL : L ∉ l) (hl : ∀ b ∈ l, g.get? b = none) (k : Grows (hideAll h l) h2) : Fr g L h2 m :=
  ⟨F.ns.at fun o e => k _ _ (hideAll_get _ e hL), fun b o e => k _ _ (grows_hide F l hl b o e), F.above⟩
theorem Base.at {w : World} {mg mb : Str → Option Value} {g h h1 : Heap} {L : Addr} {m : Str → Option Value} (B : Base w mg mb g h) (F : Fr g L h1 m) : Base w mg mb g h1 := ⟨B.X, B.T, F.keep, Nat.le_trans F.above (Nat.le_of_lt F.ns.lt), B.main⟩
theorem acc_truthy {w : World} {A : Around} {E : Value → Shared → Prop} {s : Shared} {a dx : Addr} {its : Array Value} {n : Nat} {od : Obj} {Q : Bool → Shared → Prop} (X : (Mine.hd.heap_1 w.params).In s.heap) (h1 : s.heap.get? a = some (accObj dx its n)) (h2 : s.heap.get? dx = some od)
    (h : wpAny (model PP w) A.in1 (call (.ref 145) [.ref a]) (fun v s' => ∃ k u, v = .int k u ∧ 0 ≤ k ∧ k < 2 ^ 63 ∧ ∀ tk, Q (k != 0) { s' with toks := tk }) E s) : wpAny (model PP w) A (truthy (.ref a)) Q E s := by
  have I := InstAt.acc h1 h2
  have b0 : Looks (model PP w) s.heap (typeLookup (.ref 178) "__bool__") none := looks_findIn X (by k_is)
  have l0 : Looks (model PP w) s.heap (typeLookup (.ref 178) "__len__") (some (.ref 145)) := looks_findIn X (by k_is)
  unfold truthy
  refine wpAny_bind (m := callSpecial? (.ref a) (Str.ofString "__bool__")) (wpAny_bind (wpAny_bind (I.type.here (b0.here (wpAny_pure ?_)))))
  dsimp only
  refine wpAny_bind (wpAny_bind (I.type.here (l0.here ?_)))
  rw [if_neg (by simp)]
  refine wpAny_bind (wpAny_runValue (codeAny_builtin entry_len ?_))
  rw [Around.under_plainId plain_len]
  unfold Builtin.«len»
  refine wpAny_bind (wpAny_pure ?_)
  refine wpAny_bind (m := callSpecial? (.ref a) (Str.ofString "__len__")) (special_fn X I (f := 145) (by k_is) (by k_is) (wpAny_mono h (fun r s' hr => ?_) fun _ _ y => y))
  obtain ⟨k, u, rfl, h0, h1, hq⟩ := hr
  refine wpAny_bind (wpAny_holding (wpAny_pure ?_))
  refine wpAny_bind (wpAny_letGo ?_)
  show wpAny _ _ (if k < 0 then _ else _) _ _ _
  rw [if_neg (by omega)]
  show wpAny _ _ (if k ≥ 2 ^ 63 then _ else _) _ _ _
  rw [if_neg (by omega)]
  refine wpAny_bind (wpAny_mkInt (wpAny_pure ?_))
  exact wpAny_pure (hq _)
theorem onlyws_spec {w : World} {mg mb : Str → Option Value} {s : Shared} {Q E : Value → Shared → Prop} {g : Heap} (a dx : Addr) (ts : List Addr) (ws : List Str) (n nd : Nat) (t0 u0 : Tok) (op op2 : Obj) (ps ps2 : Array Value)
  (B : Base w mg mb g s.heap) (H : Words g ts ws) (hA : g.get? a = some (accObj dx (ts.map Value.ref).toArray n)) (hD : g.get? dx = some (accDict w t0 u0 nd)) (M : ∀ p ∈ [((140 : Addr), op), ((147 : Addr), op2)], s.heap.get? p.1 = some p.2 ∧ g.get? p.1 = none) (hop : op = tabObj ps) (ht : TriplesOk ps.toList) (hop2 : op2 = tabObj ps2) (ht2 : TriplesOk ps2.toList) (h147 : 147 < s.heap.objs.size)
  (G : AllBare s.gens) (hwn : ws.length ≤ 100) (hwl : ∀ x ∈ ws, x.length ≤ 100) (hpos : 0 < (ws.map (·.length)).sum)
  (hret : ∀ h' gs' tk', AllBare gs' → Grows g h' → TabI 140 h' → TabI 147 h' → Q (.bool (Txt.isspace (Txt.join (Str.ofString "") ws))) ⟨h', gs', s.drawn, tk', s.os⟩) :
  wpAny (model PP w) (AD 600) (call (.ref 167) [.ref a]) Q E s := by
  have X := B.X
  have T := B.T
  k_dflt walk_at "m_enterG"
  k_steps
  (with_reducible rename Fr _ _ _ _ => F)
  (with_reducible rename News _ _ _ _ => N)
  refine acc_getattr (X.keeps F.keep) (F.keep _ _ hA) (F.keep _ _ hD) ?_
  k_steps
  refine acc_truthy (X.keeps F.keep) (F.keep _ _ hA) (F.keep _ _ hD) ?_
  refine wpAny_AD 700 rfl (Nat.le_of_ble_eq_true rfl) (Nat.le_of_ble_eq_true rfl) ?_
  have hg140 := (M _ (.head _)).2
  have hg147 := (M _ (.tail _ (.head _))).2
  have h140 : (140 : Nat) < s.heap.objs.size := by omega
  have gl : ∀ b ∈ [(140 : Addr)], g.get? b = none := fun b hb => by rw [List.mem_singleton.mp hb]; exact hg140
  have kg := grows_hide F [140] gl
  have hlt := F.ns.lt
  refine len_spec a dx ts ws n nd t0 u0 op ps ((B.at F).hide [140] gl) (H.keeps kg) (kg _ _ hA) (kg _ _ hD) (List.forall_mem_cons.mpr ⟨⟨N.get (.head _), hideAll_none _ (.head _)⟩, List.forall_mem_nil _⟩) hop ht (Nat.lt_trans h140 hlt) G hwn hwl fun t h2 gs2 tk2 G2 k2 TI2 => ?_
  have hb := sum_le_of hwl
  refine ⟨_, t, rfl, by omega, by omega, fun tk3 => ?_⟩
  have F2 := fr_hid F [140] (fun q => Nat.ne_of_gt h140 (List.mem_singleton.mp q)) gl k2
  obtain ⟨op', ps', i1, i2, i3⟩ := TI2
  have N2 : News g s.heap.objs.size h2 [((147 : Addr), op2), ((140 : Addr), op')] := List.forall_mem_cons.mpr ⟨⟨k2 _ _ (hideAll_get _ (N.get (.tail _ (.head _))) (by show (147 : Nat) ∉ [140]; decide)), Nat.ne_of_lt h147, hg147⟩, List.forall_mem_cons.mpr ⟨⟨i1, Nat.ne_of_lt h140, hg140⟩, List.forall_mem_nil _⟩⟩
  have hnz : ((((ws.map (·.length)).sum : Nat) : Int) != 0) = true := by simp; omega
  rw [hnz]
  clear F N k2 kg
  dsimp only
  k_steps
  (with_reducible rename Fr _ _ _ _ => F)
  (with_reducible rename News _ _ _ _ => N)
  refine wpAny_AD 700 rfl (Nat.le_of_ble_eq_true rfl) (Nat.le_of_ble_eq_true rfl) ?_
  have gl2 : ∀ b ∈ [(147 : Addr)], g.get? b = none := fun b hb => by rw [List.mem_singleton.mp hb]; exact hg147
  have kg := grows_hide F [147] gl2
  have hlt2 := F.ns.lt
  refine str_spec a dx ts ws n nd t0 u0 op2 ps2 ((B.at F).hide [147] gl2) (H.keeps kg) (kg _ _ hA) (kg _ _ hD) (List.forall_mem_cons.mpr ⟨⟨N.get (.head _), hideAll_none _ (.head _)⟩, List.forall_mem_nil _⟩) hop2 ht2 (Nat.lt_trans h147 hlt2) G2 hwn hwl fun t2 h3 gs3 tk3 G3 k3 TI3 => ?_
  have F3 := fr_hid F [147] (fun q => Nat.ne_of_gt h147 (List.mem_singleton.mp q)) gl2 k3
  have TI2' : TabI 140 h3 := ⟨op', ps', k3 _ _ (hideAll_get _ (N.get (.tail _ (.head _))) (by show (140 : Nat) ∉ [147]; decide)), i2, i3⟩
  show StrBack _ _ _
  dsimp only [StrBack]
  clear F N k3 kg
  k_steps
  exact hret h3 gs3 tk3 G3 F3.keep TI2' TI3
end
end Mine

-- FmA
namespace Mine
open PySem PySem.W PyProof.Rows PySem.Spec PySem.Calls
set_option maxRecDepth 100000
set_option maxHeartbeats 1000000
set_option pp.deepTerms false
set_option pp.deepTerms.threshold 8
set_option pp.fieldNotation false
noncomputable section
local macro_rules | `(tactic| walk_at "m_enterG") => `(tactic| (refine' enterP ?X ?lim ?g ?gs ?M ?room ?ho ?hcd ?bind ?loc ?_ ?c1 ?c2 ?c3 ?c4; (case X => exact Base.X (by with_reducible assumption)); (case lim => exact TopRead.nolimit (Base.T (by with_reducible assumption))); (case g => exact Base.grows (by with_reducible assumption)); (case gs => exact Base.size (by with_reducible assumption)); (case M => with_reducible assumption); (case room => decide); (case ho => k_is); (case hcd => k_is); (case bind => first | exact BindsTo.of_eq rfl | exact binds_K (Frag.In.keeps (Base.X (by with_reducible assumption)) (Base.grows (by with_reducible assumption))) rfl (by k_is) rfl rfl rfl); (case loc => exact locs rfl); (case c1 => exact rfl); (case c2 => exact rfl); (case c3 => exact rfl); (case c4 => decide); k_whole; intro h' F' N'; (try dsimp only); (try k_fold)))
local macro_rules | `(tactic| walk_at "eval Name") => `(tactic| ((with_reducible show wpAny _ _ (eval _ (genEnv _ _ _ _ _ _)) _ _ _); k_dflt (first
  | (refine' nm_L rfl rfl rfl ?hn ?hv ?_; (case hn => (try dsimp only [genEnv]); with_reducible assumption); (case hv => with_reducible assumption); k_whole)
  | (refine' nm_G rfl rfl rfl ?X ?T ?e ?_; (case X => with_reducible assumption); (case T => with_reducible assumption); (case e => k_is); k_whole)
  | (refine' nm_B rfl rfl rfl rfl ?X ?T ?e ?v ?n ?_; (case X => with_reducible assumption); (case T => with_reducible assumption); (case e => k_is); (case v => boot_fast); (case n => decide); k_whole))))
abbrev fmtDict (w : World) (e : Int) (lr a : Addr) (k1 k2 k3 k4 k5 k6 v1 v2 v3 v4 : Tok) (nf : Nat) : Obj := dictOf [⟨PyData.keyHash w.params (Str.ofString "_maxlen"), .str (Str.ofString "_maxlen") k1, .int e v1⟩,
  ⟨PyData.keyHash w.params (Str.ofString "_continuation_ws"), .str (Str.ofString "_continuation_ws") k2, .str (Str.ofString "") v2⟩, ⟨PyData.keyHash w.params (Str.ofString "_continuation_ws_len"), .str (Str.ofString "_continuation_ws_len") k3, .int 0 v3⟩,
  ⟨PyData.keyHash w.params (Str.ofString "_splitchars"), .str (Str.ofString "_splitchars") k4, .str (Str.ofString ";") v4⟩, ⟨PyData.keyHash w.params (Str.ofString "_lines"), .str (Str.ofString "_lines") k5, .ref lr⟩,
  ⟨PyData.keyHash w.params (Str.ofString "_current_line"), .str (Str.ofString "_current_line") k6, .ref a⟩] nf
theorem InstAt.fmt {h : Heap} {fo fdx : Addr} {od : Obj} (h1 : h.get? fo = some (instObj 94 fdx)) (h2 : h.get? fdx = some od) : InstAt h fo (instObj 94 fdx) 94 (some od) := ⟨h1, rfl, rfl, h2⟩
local macro_rules | `(tactic| k_inst) => `(tactic| first
  | (refine' Mine.InstAt.fmt ?h1 ?h2; (case h1 => exact Fr.keep (by with_reducible assumption) _ _ (by with_reducible assumption)); (case h2 => exact Fr.keep (by with_reducible assumption) _ _ (by with_reducible assumption)))
  | (refine' Mine.InstAt.acc ?h1 ?h2; (case h1 => exact News.get (by k_asm) (by k_mem)); (case h2 => exact News.get (by k_asm) (by k_mem))))



local macro_rules | `(tactic| walk_at "m_enterS") => `(tactic| (refine' enterS ?X ?lim ?g ?gs ?M ?room ?ho ?hcd ?bind ?loc ?_ ?c4 ?c1 ?c2 ?c3; (case X => exact Base.X (by with_reducible assumption)); (case lim => exact TopRead.nolimit (Base.T (by with_reducible assumption))); (case g => exact Base.grows (by with_reducible assumption)); (case gs => exact Base.size (by with_reducible assumption)); (case M => with_reducible assumption); (case room => decide); (case ho => k_is); (case hcd => k_is); (case bind => first | exact BindsTo.of_eq rfl | exact binds_K (Frag.In.keeps (Base.X (by with_reducible assumption)) (Base.grows (by with_reducible assumption))) rfl (by k_is) rfl rfl rfl); (case loc => exact locs rfl); (case c1 => exact rfl); (case c2 => exact rfl); (case c3 => exact rfl); (case c4 => decide); k_whole; intro h' F' N'; (try dsimp only); (try k_fold)))






theorem news_hid {g h h2 : Heap} {L : Addr} {p : Addr × Obj} {news : List (Addr × Obj)} (N : News g L h news) (l : List Addr) (k : Grows (hideAll h l) h2) (hp : p ∈ news) (hl : p.1 ∉ l) : h2.get? p.1 = some p.2 ∧ p.1 ≠ L ∧ g.get? p.1 = none :=
  ⟨k _ _ (hideAll_get _ (N _ hp).1 hl), (N _ hp).2⟩
theorem Words.snoc {h h' : Heap} {ts : List Addr} {ws : List Str} (H : Words h ts ws) (k : Grows h h') {T : Addr} {x : Str} {u v : Tok} (hT : h'.get? T = some { cls := .type "tuple", data := .seq #[.str (Str.ofString "") u, .str x v] }) : Words h' (ts ++ [T]) (ws ++ [x]) := by
  refine ⟨by simp [H.len], fun i t y a b => ?_⟩
  rcases Nat.lt_or_ge i ts.length with q | q
  · rw [List.getElem?_append_left q] at a
    rw [List.getElem?_append_left (H.len ▸ q)] at b
    obtain ⟨u', v', e⟩ := H.tup i t y a b
    exact ⟨u', v', k _ _ e⟩
  · rw [List.getElem?_append_right q] at a
    rw [List.getElem?_append_right (H.len ▸ q), ← H.len] at b
    cases hi : i - ts.length with
    | zero => rw [hi] at a b; cases a; cases b; exact ⟨u, v, hT⟩
    | succ j => rw [hi] at a; cases a
/-- what a word does to the lines told and the words held -/
def chunkF (e : Int) (st : List Str × List Str) (x : Str) : List Str × List Str :=
  if e < (((st.2 ++ [x]).map (·.length)).sum : Nat) then (st.1 ++ [Txt.join (Str.ofString "") st.2], [x]) else (st.1, st.2 ++ [x])
end
end Mine

-- FmB
namespace Mine
open PySem PySem.W PyProof.Rows PySem.Spec PySem.Calls
set_option maxRecDepth 100000
set_option maxHeartbeats 1000000
set_option pp.deepTerms false
set_option pp.deepTerms.threshold 8
set_option pp.fieldNotation false
noncomputable section
section
variable {prog : Program} {w : World} {A : Around} {E : Value → Shared → Prop} {s : Shared} {env : Env} {h₀ : Heap}
/-- a loop that is left in its first turn -/
theorem forBreak {x : Str} {px pos : Pos} {iter : Expr} {body orelse : List Stmt} {Q : Flow → Shared → Prop}
    (h : wpAny (model prog w) A (eval iter env) (fun xv s₁ => Stop (∃ (n : Nat) (P : Nat → Value → Prop) (m : Str → Option Value) (news : List (Addr × Obj)), 0 < n ∧ IterOf prog w A xv n P s₁ ∧ Fr h₀ env.locals s₁.heap m ∧ News h₀ env.locals s₁.heap news ∧
      (∀ v h' tk, P 0 v → Fr h₀ env.locals h' (fun y => if y = x then some v else m y) → News h₀ env.locals h' news →
        wpAny (model prog w) A (execs body env) (fun f s' => match f with | .brk => Q .next s' | .ret v => Q (.ret v) s' | _ => False) E { s₁ with heap := h', toks := tk }))) E s)
    (hx : env.kindOf x = some .local) (hp : (env.scope.kind == .class || (env.scope.kind == .module && env.locals != env.globals)) = false)
    (hs : ∀ x, foldedSetIterable iter env x = pure x := by intro _; rfl)
    (hE : PassesOwn (model prog w) A env E := by passes_own) :
    wpAny (model prog w) A (exec (.For (.Name x px) iter body orelse pos) env) Q E s := by
  refine wpAny_For (wpAny_mono h (fun xv s₁ h₁ => ?_) fun _ _ e => e) hs
  obtain ⟨n, P, m, news, hn, hit, F, N, hbody⟩ := h₁
  refine hit _ _ fun I fp wr St h₂ W hst hfp hg hwr => ?_
  have hL : env.locals ∉ wr := fun hb => by
    obtain ⟨o, es, ep, ho, _⟩ := F.ns
    rw [hwr _ hb] at ho; cases ho
  have ho₀ : ∀ b o, h₀.get? b = some o → b ∉ wr := fun b o e hb => by
    have := F.keep _ _ e
    rw [hwr _ hb] at this; cases this
  refine codeAny_forLoop (fun k s' => s' = { s₁ with heap := h₂ }) ?_ 1 rfl
  rintro k s' rfl
  refine W.item 0 _ _ _ hn hst fun v h₃ tk hP hst₃ hk₃ => ?_
  have k3 : ∀ b o, b ∉ wr → s₁.heap.get? b = some o → h₃.get? b = some o := fun b o hb e => hk₃ b o hb (hg b o e)
  refine wpAny_assign_Name (wpAny_storeName_local hx (F.ns.at fun o e => k3 _ _ hL e) (fun h₄ hn₄ hs₄ => ?_) hp)
  refine wpAny_passesOwn hE (wpAny_mono (hbody v h₄ _ hP ⟨hn₄, fun b o e => ?_, F.above⟩ fun p hp => ⟨?_, (N p hp).2⟩) (fun f s' q => ?_) fun _ _ e => e)
  · exact hs₄.extBut b o (Nat.ne_of_lt (Nat.lt_of_lt_of_le (Heap.lt_size e) F.above)) (k3 b o (ho₀ b o e) (F.keep b o e))
  · exact hs₄.extBut _ _ (N p hp).2.1 (k3 _ _ (fun hb => by have := (N p hp).1; rw [hwr _ hb] at this; cases this) (N p hp).1)
  · cases f <;> first | exact q.elim | exact q
end
end
end Mine

-- FmC
namespace Mine
open PySem PySem.W PyProof.Rows PySem.Spec PySem.Calls
set_option maxRecDepth 100000
set_option maxHeartbeats 1000000
set_option pp.deepTerms false
set_option pp.deepTerms.threshold 8
set_option pp.fieldNotation false
noncomputable section
local macro_rules | `(tactic| walk_at "m_enterG") => `(tactic| (refine' enterP ?X ?lim ?g ?gs ?M ?room ?ho ?hcd ?bind ?loc ?_ ?c1 ?c2 ?c3 ?c4; (case X => exact Base.X (by with_reducible assumption)); (case lim => exact TopRead.nolimit (Base.T (by with_reducible assumption))); (case g => exact Base.grows (by with_reducible assumption)); (case gs => exact Base.size (by with_reducible assumption)); (case M => with_reducible assumption); (case room => decide); (case ho => k_is); (case hcd => k_is); (case bind => first | exact BindsTo.of_eq rfl | exact binds_K (Frag.In.keeps (Base.X (by with_reducible assumption)) (Base.grows (by with_reducible assumption))) rfl (by k_is) rfl rfl rfl); (case loc => exact locs rfl); (case c1 => exact rfl); (case c2 => exact rfl); (case c3 => exact rfl); (case c4 => decide); k_whole; intro h' F' N'; (try dsimp only); (try k_fold)))
local macro_rules | `(tactic| walk_at "eval Name") => `(tactic| ((with_reducible show wpAny _ _ (eval _ (genEnv _ _ _ _ _ _)) _ _ _); k_dflt (first
  | (refine' nm_L rfl rfl rfl ?hn ?hv ?_; (case hn => (try dsimp only [genEnv]); with_reducible assumption); (case hv => with_reducible assumption); k_whole)
  | (refine' nm_G rfl rfl rfl ?X ?T ?e ?_; (case X => with_reducible assumption); (case T => with_reducible assumption); (case e => k_is); k_whole)
  | (refine' nm_B rfl rfl rfl rfl ?X ?T ?e ?v ?n ?_; (case X => with_reducible assumption); (case T => with_reducible assumption); (case e => k_is); (case v => boot_fast); (case n => decide); k_whole))))
local macro_rules | `(tactic| k_inst) => `(tactic| first
  | (refine' Mine.InstAt.fmt ?h1 ?h2; (case h1 => exact Fr.keep (by with_reducible assumption) _ _ (by with_reducible assumption)); (case h2 => exact Fr.keep (by with_reducible assumption) _ _ (by with_reducible assumption)))
  | (refine' Mine.InstAt.acc ?h1 ?h2; (case h1 => exact News.get (by k_asm) (by k_mem)); (case h2 => exact News.get (by k_asm) (by k_mem))))



local macro_rules | `(tactic| walk_at "m_enterS") => `(tactic| (refine' enterS ?X ?lim ?g ?gs ?M ?room ?ho ?hcd ?bind ?loc ?_ ?c4 ?c1 ?c2 ?c3; (case X => exact Base.X (by with_reducible assumption)); (case lim => exact TopRead.nolimit (Base.T (by with_reducible assumption))); (case g => exact Base.grows (by with_reducible assumption)); (case gs => exact Base.size (by with_reducible assumption)); (case M => with_reducible assumption); (case room => decide); (case ho => k_is); (case hcd => k_is); (case bind => first | exact BindsTo.of_eq rfl | exact binds_K (Frag.In.keeps (Base.X (by with_reducible assumption)) (Base.grows (by with_reducible assumption))) rfl (by k_is) rfl rfl rfl); (case loc => exact locs rfl); (case c1 => exact rfl); (case c2 => exact rfl); (case c3 => exact rfl); (case c4 => decide); k_whole; intro h' F' N'; (try dsimp only); (try k_fold)))







theorem halt {P : Prop} (h : Stop P) : P := h
local macro_rules | `(tactic| walk_at "getMethod ref") => `(tactic| ((first | (with_reducible show wpAny _ _ (getMethod _ (Str.ofString "push") _) _ _ _) | (with_reducible show wpAny _ _ (getMethod _ (Str.ofString "pop") _) _ _ _) | (with_reducible show wpAny _ _ (getMethod _ (Str.ofString "part_count") _) _ _ _) | (with_reducible show wpAny _ _ (getMethod _ (Str.ofString "pop_from") _) _ _ _) | (with_reducible show wpAny _ _ (getMethod _ (Str.ofString "reset") _) _ _ _) | (with_reducible show wpAny _ _ (getMethod _ (Str.ofString "is_onlyws") _) _ _ _)); refine halt ?_))
local macro_rules | `(tactic| walk_at "call ref") => `(tactic| ((with_reducible show wpAny _ _ (call (Value.ref _) _) _ _ _); refine halt ?_))
local macro_rules | `(tactic| walk_at "call type:str") => `(tactic| ((with_reducible show wpAny _ _ (call _ [Value.ref _]) _ _ _); refine halt ?_))
local macro_rules | `(tactic| walk_at "subscriptTail") => `(tactic| ((with_reducible show wpAny _ _ (subscriptTail _ _ (Value.ref _) (Value.int _ _)) _ _ _); refine halt ?_))
theorem iter_str {prog : Program} {w : World} {A : Around} {s₁ : Shared} {x : Str} {t : Tok} (hh : A.handled = none) : IterOf prog w A (.str x t) x.cps.size (SignAt x) s₁ := by
  intro Q E hQ
  refine wpAny_pyIter_str fun o St W hst => hQ _ [s₁.heap.objs.size] [s₁.heap.objs.size] St _ (W A hh) hst ?_ (fun _ _ e => Heap.get?_push_of_some _ e) ?_
  · intro b hb
    rw [List.mem_singleton.mp hb, Heap.size_push]; exact Nat.lt_succ_self _
  · intro b hb
    rw [List.mem_singleton.mp hb]; exact get_size_none _
theorem small_down {k : Nat} (hk : k ≤ 1000) : Builtin.Range.small (k : Int) 0 (-1) = true := by
  have e1 : Builtin.Range.rangeSize (k : Int) 0 (-1) = k := by
    unfold Builtin.Range.rangeSize
    rw [if_neg (by decide), show (-(-1 : Int)) = 1 by decide, Int.ediv_one]
    split <;> omega
  unfold Builtin.Range.small
  rw [e1]
  simp only [Builtin.Range.rangeFitsLong, Bool.and_eq_true, Bool.or_eq_true, decide_eq_true_eq, beq_iff_eq, show ¬ ((-1 : Int) > 0) by decide, if_false]
  omega
theorem size_down {k : Nat} : Builtin.Range.rangeSize (k : Int) 0 (-1) = k := by
  unfold Builtin.Range.rangeSize
  rw [if_neg (by decide), show (-(-1 : Int)) = 1 by decide, Int.ediv_one]
  split <;> omega
def ChunkSt : Prop := ∀ {w : World} {mg mb : Str → Option Value} {s : Shared} {Q E : Value → Shared → Prop} {g : Heap} (fo fdx lr a dx : Addr) (e : Int) (k1 k2 k3 k4 k5 k6 v1 v2 v3 v4 : Tok) (nf : Nat) (ts : List Addr) (ws : List Str) (x : Str) (tx ty : Tok) (rv : Array Value) (lines : List Str) (n nd nn : Nat) (t0 u0 : Tok) (op op2 : Obj) (ps ps2 : Array Value)
  (B : Base w mg mb g s.heap) (H : Words g ts ws) (hF : g.get? fo = some (instObj 94 fdx)) (hFd : g.get? fdx = some (fmtDict w e lr a k1 k2 k3 k4 k5 k6 v1 v2 v3 v4 nf))
  (M : ∀ p ∈ [(a, accObj dx (ts.map Value.ref).toArray n), (dx, accDict w t0 u0 nd), (lr, W.listOf rv nn), ((140 : Addr), op), ((147 : Addr), op2)], s.heap.get? p.1 = some p.2 ∧ g.get? p.1 = none) (hop : op = tabObj ps) (ht : TriplesOk ps.toList) (hop2 : op2 = tabObj ps2) (ht2 : TriplesOk ps2.toList) (h178 : 178 < s.heap.objs.size) (ha : 178 < a) (hdl : a ≠ dx)
  (G : AllBare s.gens) (hwn : ws.length ≤ 20) (hwl : ∀ x ∈ ws, x.length ≤ 100) (hx : x.length ≤ 100) (hxe : (x.length : Int) ≤ e) (hsemi : ∀ y ∈ ws, 0 < y.length ∧ Txt.item y (-1) = Str.ofString ";") (hrv : StrsAre rv.toList lines) (hrn : rv.size ≤ 100)
  (hret : ∀ h' gs' tk' ts' n' u' rv' nn', AllBare gs' → Grows g h' → h'.get? a = some (accObj dx (ts'.map Value.ref).toArray n') → h'.get? dx = some (accDict w t0 u' nd) → h'.get? lr = some (W.listOf rv' nn') →
    StrsAre rv'.toList (chunkF e (lines, ws) x).1 → Words h' ts' (chunkF e (lines, ws) x).2 → TabI 140 h' → TabI 147 h' → Q .none ⟨h', gs', s.drawn, tk', s.os⟩),
  wpAny (model PP w) (AD 500) (call (.ref 91) [.ref fo, .str (Str.ofString "") tx, .str x ty]) Q E s
noncomputable def chunkA : (P : Prop) ×' (P → ChunkSt) := by
  refine' ⟨_, fun hP => _⟩
  rotate_left
  intro w mg mb s Q E g fo fdx lr a dx e k1 k2 k3 k4 k5 k6 v1 v2 v3 v4 nf ts ws x tx ty rv lines n nd nn t0 u0 op op2 ps ps2 B H hF hFd M hop ht hop2 ht2 h178 ha hdl G hwn hwl hx hxe hsemi hrv hrn hret
  have X := B.X
  have T := B.T
  k_dflt walk_at "m_enterG"
  have hal : a ≠ lr := by
    intro q
    have e1 := (M _ (.head _)).1
    have e2 := (M _ (.tail _ (.tail _ (.head _)))).1
    dsimp only at e1 e2
    rw [q, e2] at e1
    cases e1
  have hdlr : dx ≠ lr := by
    intro q
    have e1 := (M _ (.tail _ (.head _))).1
    have e2 := (M _ (.tail _ (.tail _ (.head _)))).1
    dsimp only at e1 e2
    rw [q, e2] at e1
    have h1 := congrArg Obj.cls (Option.some.inj e1)
    simp at h1
  have ga := (M _ (.head _)).2
  have gdx := (M _ (.tail _ (.head _))).2
  have glr := (M _ (.tail _ (.tail _ (.head _)))).2
  have g140 := (M _ (.tail _ (.tail _ (.tail _ (.head _))))).2
  have g147 := (M _ (.tail _ (.tail _ (.tail _ (.tail _ (.head _)))))).2
  dsimp only at ga gdx glr g140 g147
  have haL := Heap.lt_size (M _ (.head _)).1
  k_steps
  (with_reducible rename Fr _ _ _ _ => F)
  (with_reducible rename News _ _ _ _ => N)
  refine Stop.intro ?_
  refine acc_method (X.keeps F.keep) (N.get (.head _)) (N.get (.tail _ (.head _))) (f := .ref 122) (tf := .type "function") (by k_is) (looks_typeIn (X.keeps F.keep) (by k_is)) (by decide) rfl ?_
  k_steps
  refine Stop.intro ?_
  refine wpAny_AD 700 rfl (Nat.le_of_ble_eq_true rfl) (Nat.le_of_ble_eq_true rfl) ?_
  have gl : ∀ b ∈ [a], g.get? b = none := fun b hb => by rw [List.mem_singleton.mp hb]; exact ga
  refine push_spec a dx (ts.map Value.ref).toArray x n nd t0 u0 tx ty ((B.at F).hide [a] gl) (List.forall_mem_cons.mpr ⟨⟨N.get (.head _), hideAll_none _ (.head _)⟩, List.forall_mem_nil _⟩) (hideAll_get _ (N.get (.tail _ (.head _))) (fun q => hdl (List.mem_singleton.mp q).symm)) (by simp [H.len]; omega) fun Tn h2 tk2 tu tv k2 ho2 hT2 gT haT => ?_
  have F2 := fr_hid F [a] (fun q => Nat.ne_of_gt haL (List.mem_singleton.mp q)) gl k2
  have hTL : Tn ≠ s.heap.objs.size := by
    intro q
    obtain ⟨oL, es, ep, hL, _⟩ := F.ns
    have := hideAll_get [a] hL (fun q => Nat.ne_of_gt haL (List.mem_singleton.mp q))
    rw [q, this] at gT
    cases gT
  have gTg : g.get? Tn = none := by
    cases z : g.get? Tn with
    | none => rfl
    | some o => have := grows_hide F [a] gl _ _ z; rw [this] at gT; cases gT
  have nl : ∀ b : Addr, a ≠ b → b ∉ [a] := fun b hb q => hb (List.mem_singleton.mp q).symm
  have ea : ∀ b o, g.get? b = some o → a ≠ b := fun b o e q => by rw [← q, ga] at e; cases e
  have h140a : a ≠ 140 := Nat.ne_of_gt (Nat.lt_trans (by decide : (140 : Nat) < 178) ha)
  have h147a : a ≠ 147 := Nat.ne_of_gt (Nat.lt_trans (by decide : (147 : Nat) < 178) ha)
  have N2 : News g s.heap.objs.size h2 [(a, accObj dx ((ts ++ [Tn]).map Value.ref).toArray (n + 1)), (dx, accDict w t0 u0 nd), (lr, W.listOf rv nn), ((140 : Addr), op), ((147 : Addr), op2), (Tn, { cls := .type "tuple", data := .seq #[.str (Str.ofString "") tu, .str x tv] })] := by
    refine List.forall_mem_cons.mpr ⟨⟨by rw [ho2]; simp, Nat.ne_of_lt haL, ga⟩, List.forall_mem_cons.mpr ⟨news_hid N [a] k2 (.tail _ (.head _)) (nl _ hdl), List.forall_mem_cons.mpr ⟨news_hid N [a] k2 (.tail _ (.tail _ (.head _))) (nl _ hal), List.forall_mem_cons.mpr ⟨news_hid N [a] k2 (.tail _ (.tail _ (.tail _ (.head _)))) (nl _ h140a), List.forall_mem_cons.mpr ⟨news_hid N [a] k2 (.tail _ (.tail _ (.tail _ (.tail _ (.head _))))) (nl _ h147a), List.forall_mem_cons.mpr ⟨⟨hT2, hTL, gTg⟩, List.forall_mem_nil _⟩⟩⟩⟩⟩⟩
  clear F N k2
  k_steps
  have h140 : (140 : Nat) < s.heap.objs.size := Nat.lt_trans (by decide) h178
  have h147 : (147 : Nat) < s.heap.objs.size := Nat.lt_trans (by decide) h178
  have gl140 : ∀ b ∈ [(140 : Addr)], g.get? b = none := fun b hb => by rw [List.mem_singleton.mp hb]; exact g140
  have kg := grows_hide F2 [140] gl140
  have nl0 : ∀ b : Addr, b ≠ 140 → b ∉ [(140 : Addr)] := fun b hb q => hb (List.mem_singleton.mp q)
  have hxs : ∀ y ∈ ws ++ [x], y.length ≤ 100 := fun y hy => by
    rcases List.mem_append.mp hy with q | q
    · exact hwl y q
    · rw [List.mem_singleton.mp q]; exact hx
  have hdx140 : dx ≠ 140 := by
    intro q
    have e1 := (M _ (.tail _ (.head _))).1
    have e2 := (M _ (.tail _ (.tail _ (.tail _ (.head _))))).1
    dsimp only at e1 e2
    rw [q, e2] at e1
    rw [Option.some.inj e1] at hop
    cases hop
  have hT140 : Tn ≠ 140 := by
    intro q
    have e1 := N2.get (.tail _ (.tail _ (.tail _ (.tail _ (.tail _ (.head _))))))
    have e2 := N2.get (.tail _ (.tail _ (.tail _ (.head _))))
    rw [q, e2] at e1
    rw [Option.some.inj e1] at hop
    cases hop
  have H2 : Words (hideAll h2 [140]) (ts ++ [Tn]) (ws ++ [x]) := H.snoc kg (hideAll_get _ (N2.get (.tail _ (.tail _ (.tail _ (.tail _ (.tail _ (.head _))))))) (nl0 _ hT140))
  refine Stop.intro ?_
  refine wpAny_AD 700 rfl (Nat.le_of_ble_eq_true rfl) (Nat.le_of_ble_eq_true rfl) ?_
  refine len_spec a dx (ts ++ [Tn]) (ws ++ [x]) (n + 1) nd t0 u0 op ps ((B.at F2).hide [140] gl140) H2 (hideAll_get _ (N2.get (.head _)) (nl0 _ h140a)) (hideAll_get _ (N2.get (.tail _ (.head _))) (nl0 _ hdx140)) (List.forall_mem_cons.mpr ⟨⟨N2.get (.tail _ (.tail _ (.tail _ (.head _)))), hideAll_none _ (.head _)⟩, List.forall_mem_nil _⟩) hop ht (Nat.lt_trans h140 F2.ns.lt) G (by simp; omega) hxs fun t3 h3 gs3 tk3 G3 k3 TI3 => ?_
  obtain ⟨op3, ps3, j1, j2, j3⟩ := TI3
  have hlr140 : lr ≠ 140 := by
    intro q
    have e1 := N2.get (.tail _ (.tail _ (.head _)))
    have e2 := N2.get (.tail _ (.tail _ (.tail _ (.head _))))
    rw [q, e2] at e1
    rw [Option.some.inj e1] at hop
    cases hop
  have F3 := fr_hid F2 [140] (fun q => Nat.ne_of_gt h140 (List.mem_singleton.mp q)) gl140 k3
  have N3 : News g s.heap.objs.size h3 [(a, accObj dx ((ts ++ [Tn]).map Value.ref).toArray (n + 1)), (dx, accDict w t0 u0 nd), (lr, W.listOf rv nn), ((140 : Addr), op3), ((147 : Addr), op2), (Tn, { cls := .type "tuple", data := .seq #[.str (Str.ofString "") tu, .str x tv] })] := by
    refine List.forall_mem_cons.mpr ⟨news_hid N2 [140] k3 (.head _) (nl0 _ h140a), List.forall_mem_cons.mpr ⟨news_hid N2 [140] k3 (.tail _ (.head _)) (nl0 _ hdx140), List.forall_mem_cons.mpr ⟨news_hid N2 [140] k3 (.tail _ (.tail _ (.head _))) (nl0 _ hlr140), List.forall_mem_cons.mpr ⟨⟨j1, Nat.ne_of_lt h140, g140⟩, List.forall_mem_cons.mpr ⟨news_hid N2 [140] k3 (.tail _ (.tail _ (.tail _ (.tail _ (.head _))))) (nl0 _ (by show (147 : Nat) ≠ 140; decide)), List.forall_mem_cons.mpr ⟨news_hid N2 [140] k3 (.tail _ (.tail _ (.tail _ (.tail _ (.tail _ (.head _)))))) (nl0 _ hT140), List.forall_mem_nil _⟩⟩⟩⟩⟩⟩
  have hsum := sum_le_of hxs
  have hwn1 : (ws ++ [x]).length ≤ 21 := by simp; omega
  show (0 ≤ _ ∧ _) ∧ _
  refine ⟨⟨by omega, by omega⟩, ?_⟩
  clear F2 N2 k3 kg H2
  k_steps
  · clear M hop ht hT2 gT ho2 haL
    revert w mg mb s Q E g fo fdx lr a dx e k1 k2 k3 k4 k5 k6 v1 v2 v3 v4 nf ts ws x tx ty rv lines n nd nn t0 u0 op op2 ps ps2 Tn h2 tk2 tu tv t3 h3 gs3 tk3 op3 ps3
    repeat' (rename _ => zz; revert zz)
    exact id
  · rename ¬ _ => hlt
    have hch : chunkF e (lines, ws) x = (lines, ws ++ [x]) := if_neg hlt
    exact hret h3 gs3 _ (ts ++ [Tn]) _ _ _ _ G3 F3.keep (N3.get (.head _)) (N3.get (.tail _ (.head _))) (N3.get (.tail _ (.tail _ (.head _)))) (by rw [hch]; exact hrv)
      (by rw [hch]; exact H.snoc F3.keep (N3.get (.tail _ (.tail _ (.tail _ (.tail _ (.tail _ (.head _)))))))) ⟨_, _, N3.get (.tail _ (.tail _ (.tail _ (.head _)))), j2, j3⟩ ⟨_, _, N3.get (.tail _ (.tail _ (.tail _ (.tail _ (.head _))))), hop2, ht2⟩
end
end Mine

-- FmD
namespace Mine
open PySem PySem.W PyProof.Rows PySem.Spec PySem.Calls
set_option maxRecDepth 100000
set_option maxHeartbeats 1000000
set_option pp.deepTerms false
set_option pp.deepTerms.threshold 8
set_option pp.fieldNotation false
noncomputable section
local macro_rules | `(tactic| walk_at "m_enterG") => `(tactic| (refine' enterP ?X ?lim ?g ?gs ?M ?room ?ho ?hcd ?bind ?loc ?_ ?c1 ?c2 ?c3 ?c4; (case X => exact Base.X (by with_reducible assumption)); (case lim => exact TopRead.nolimit (Base.T (by with_reducible assumption))); (case g => exact Base.grows (by with_reducible assumption)); (case gs => exact Base.size (by with_reducible assumption)); (case M => with_reducible assumption); (case room => decide); (case ho => k_is); (case hcd => k_is); (case bind => first | exact BindsTo.of_eq rfl | exact binds_K (Frag.In.keeps (Base.X (by with_reducible assumption)) (Base.grows (by with_reducible assumption))) rfl (by k_is) rfl rfl rfl); (case loc => exact locs rfl); (case c1 => exact rfl); (case c2 => exact rfl); (case c3 => exact rfl); (case c4 => decide); k_whole; intro h' F' N'; (try dsimp only); (try k_fold)))
local macro_rules | `(tactic| walk_at "eval Name") => `(tactic| ((with_reducible show wpAny _ _ (eval _ (genEnv _ _ _ _ _ _)) _ _ _); k_dflt (first
  | (refine' nm_L rfl rfl rfl ?hn ?hv ?_; (case hn => (try dsimp only [genEnv]); with_reducible assumption); (case hv => with_reducible assumption); k_whole)
  | (refine' nm_G rfl rfl rfl ?X ?T ?e ?_; (case X => with_reducible assumption); (case T => with_reducible assumption); (case e => k_is); k_whole)
  | (refine' nm_B rfl rfl rfl rfl ?X ?T ?e ?v ?n ?_; (case X => with_reducible assumption); (case T => with_reducible assumption); (case e => k_is); (case v => boot_fast); (case n => decide); k_whole))))
local macro_rules | `(tactic| k_inst) => `(tactic| first
  | (refine' Mine.InstAt.fmt ?h1 ?h2; (case h1 => exact Fr.keep (by with_reducible assumption) _ _ (by with_reducible assumption)); (case h2 => exact Fr.keep (by with_reducible assumption) _ _ (by with_reducible assumption)))
  | (refine' Mine.InstAt.acc ?h1 ?h2; (case h1 => exact News.get (by k_asm) (by k_mem)); (case h2 => exact News.get (by k_asm) (by k_mem))))



local macro_rules | `(tactic| walk_at "m_enterS") => `(tactic| (refine' enterS ?X ?lim ?g ?gs ?M ?room ?ho ?hcd ?bind ?loc ?_ ?c4 ?c1 ?c2 ?c3; (case X => exact Base.X (by with_reducible assumption)); (case lim => exact TopRead.nolimit (Base.T (by with_reducible assumption))); (case g => exact Base.grows (by with_reducible assumption)); (case gs => exact Base.size (by with_reducible assumption)); (case M => with_reducible assumption); (case room => decide); (case ho => k_is); (case hcd => k_is); (case bind => first | exact BindsTo.of_eq rfl | exact binds_K (Frag.In.keeps (Base.X (by with_reducible assumption)) (Base.grows (by with_reducible assumption))) rfl (by k_is) rfl rfl rfl); (case loc => exact locs rfl); (case c1 => exact rfl); (case c2 => exact rfl); (case c3 => exact rfl); (case c4 => decide); k_whole; intro h' F' N'; (try dsimp only); (try k_fold)))







local macro_rules | `(tactic| walk_at "getMethod ref") => `(tactic| ((first | (with_reducible show wpAny _ _ (getMethod _ (Str.ofString "push") _) _ _ _) | (with_reducible show wpAny _ _ (getMethod _ (Str.ofString "pop") _) _ _ _) | (with_reducible show wpAny _ _ (getMethod _ (Str.ofString "part_count") _) _ _ _) | (with_reducible show wpAny _ _ (getMethod _ (Str.ofString "pop_from") _) _ _ _) | (with_reducible show wpAny _ _ (getMethod _ (Str.ofString "reset") _) _ _ _) | (with_reducible show wpAny _ _ (getMethod _ (Str.ofString "is_onlyws") _) _ _ _)); refine halt ?_))
local macro_rules | `(tactic| walk_at "call builtin:list.append") => `(tactic| (refine halt ?_))
local macro_rules | `(tactic| walk_at "call ref") => `(tactic| ((with_reducible show wpAny _ _ (call (Value.ref _) _) _ _ _); refine halt ?_))
local macro_rules | `(tactic| walk_at "subscriptTail") => `(tactic| ((with_reducible show wpAny _ _ (subscriptTail _ _ (Value.str _ _) (Value.int _ _)) _ _ _); refine halt ?_))
local macro_rules | `(tactic| walk_at "subscriptTail") => `(tactic| ((with_reducible show wpAny _ _ (subscriptTail _ _ (Value.ref _) (Value.int _ _)) _ _ _); refine halt ?_))
theorem fresh_hid {g h : Heap} {L q : Addr} {m : Str → Option Value} {l : List Addr} (F : Fr g L h m) (hq : (hideAll h l).get? q = none) (hL : L ∉ l) (gl : ∀ b ∈ l, g.get? b = none) : q ≠ L ∧ g.get? q = none := by
  constructor
  · rintro rfl
    obtain ⟨oL, es, ep, hL', _⟩ := F.ns
    rw [hideAll_get l hL' hL] at hq
    cases hq
  · cases z : g.get? q with
    | none => rfl
    | some o => have := grows_hide F l gl _ _ z; rw [this] at hq; cases hq
/-- an address that is new in a heap where b stands is another one -/
theorem ne_hid {h : Heap} {l : List Addr} {b q : Addr} {o : Obj} (hq : (hideAll h l).get? q = none) (hb : h.get? b = some o) (hbl : b ∉ l) : q ≠ b := by
  rintro rfl
  rw [hideAll_get l hb hbl] at hq
  cases hq
theorem over : chunkA.1 := by
  intro w
  unhygienic intros
  have hwpos : 0 < ws.length := by
    rcases Nat.eq_zero_or_pos ws.length with q | q
    · exfalso
      have q2 : ws = [] := List.eq_nil_of_length_eq_zero q
      (with_reducible rename _ < _ => hlt)
      rw [q2] at hlt
      simp at hlt
      omega
    · exact q
  refine forBreak (h₀ := g) ?_ rfl rfl
  k_steps
  refine Stop.intro ⟨1, _, _, _, Nat.one_pos, iter_str (x := Str.ofString ";") rfl, F3, N3, fun v h4 tk4 hP F4 N4 => ?_⟩
  obtain ⟨tc, rfl⟩ : ∃ tc, v = .str (Str.ofString ";") tc := by
    obtain ⟨c, u, hc, rfl⟩ := hP
    cases hc
    exact ⟨u, rfl⟩
  clear F3 N3
  refine wpAny_execs_cons ?_
  refine forBreak (h₀ := g) ?_ rfl rfl
  k_steps
  (with_reducible rename Fr _ _ _ _ => F)
  (with_reducible rename News _ _ _ _ => N)
  refine Stop.intro ?_
  refine acc_method (X.keeps F.keep) (N.get (.head _)) (N.get (.tail _ (.head _))) (f := .ref 175) (tf := .type "function") (by k_is) (looks_typeIn (X.keeps F.keep) (by k_is)) (by decide) rfl ?_
  walk1
  refine wpAny_AD 700 rfl (Nat.le_of_ble_eq_true rfl) (Nat.le_of_ble_eq_true rfl) ?_
  refine count_spec a dx ((ts ++ [Tn]).map Value.ref).toArray (n + 1) (B.up F.keep) (List.forall_mem_nil _) (N.get (.head _)) (Nat.ne_of_gt ha) (by simp [H.len]; omega) fun t5 h5 tk5 k5' => ?_
  have F5 := F.keeps k5'
  have N5 := N.grown k5'
  rw [show ((ts ++ [Tn]).map Value.ref).toArray.size = ws.length + 1 by simp [H.len]]
  clear F N k5'
  k_steps
  (with_reducible rename Fr _ _ _ _ => F6)
  (with_reducible rename News _ _ _ _ => N6)
  (with_reducible rename IsRange _ _ _ _ _ _ _ _ => hR)
  rw [show (((ws.length + 1 : Nat) : Int) - 1) = (ws.length : Int) by omega] at hR
  refine Stop.intro ⟨ws.length, _, _, _, hwpos, iter_range rfl hR (small_down (by omega)) size_down, F6, N6, fun v h7 tk7 hP F7 N7 => ?_⟩
  clear F6 N6 hR
  obtain ⟨tv7, rfl⟩ := hP
  rw [show ((ws.length : Int) + ((0 : Nat) : Int) * -1) = (ws.length : Int) by omega] at F7
  k_steps
  refine Stop.intro ?_
  have hXt : (ts ++ [Tn]).length = ws.length + 1 := by simp [H.len]
  obtain ⟨wl, hwl'⟩ : ∃ wl, ws.length = wl + 1 := ⟨ws.length - 1, by omega⟩
  have htl : wl < ts.length := by rw [H.len]; omega
  have hwl2 : wl < ws.length := by omega
  obtain ⟨ua, va, hTup⟩ := H.tup wl ts[wl] ws[wl] (List.getElem?_eq_getElem htl) (List.getElem?_eq_getElem hwl2)
  obtain ⟨hpos, hlast⟩ := hsemi ws[wl] (List.getElem_mem hwl2)
  have hlen7 := hwl ws[wl] (List.getElem_mem hwl2)
  refine acc_subscr (X.keeps F7.keep) (N7.get (.head _)) (by with_unfolding_all rfl) ?_
  refine acc_item (X.keeps F7.keep) (N7.get (.head _)) (by rw [List.size_toArray, List.length_map, hXt]; omega) (by omega) (x := .ref ts[wl]) (by
    have : ((ws.length : Int) - 1).toNat = wl := by omega
    rw [this, List.getElem?_toArray, List.map_append, List.getElem?_append_left (by rw [List.length_map]; exact htl), List.getElem?_map, List.getElem?_eq_getElem htl]
    rfl) ?_
  k_steps
  refine Stop.intro ?_
  refine item_tupleT (l := [.str (Str.ofString "") ua, .str ws[wl] va]) ⟨_, F7.keep _ _ hTup, rfl, 0, rfl⟩ (by decide) (by decide) rfl rfl ?_
  generalize ws[wl] = y at *
  k_steps
  refine Stop.intro ?_
  rename _ = true => htest
  clear htest hlast hlen7 hpos hTup
  (with_reducible rename Fr _ _ _ _ => F7)
  (with_reducible rename News _ _ _ _ => N7)
  refine acc_method (X.keeps F7.keep) (N7.get (.head _)) (N7.get (.tail _ (.head _))) (f := .ref 130) (tf := .type "function") (by k_is) (looks_typeIn (X.keeps F7.keep) (by k_is)) (by decide) rfl ?_
  k_steps
  refine Stop.intro ?_
  refine wpAny_AD 700 rfl (Nat.le_of_ble_eq_true rfl) (Nat.le_of_ble_eq_true rfl) ?_
  have haL : a ≠ s.heap.objs.size := (N7 _ (.head _)).2.1
  have hdL : dx ≠ s.heap.objs.size := (N7 _ (.tail _ (.head _))).2.1
  have aL : s.heap.objs.size ∉ [a] := fun q => haL (List.mem_singleton.mp q).symm
  refine popfrom_spec a dx ((ts ++ [Tn]).map Value.ref) ws.length (n + 1) nd t0 u0 _ ((B.at F7).hide [a] gl) (List.forall_mem_cons.mpr ⟨⟨N7.get (.head _), hideAll_none _ (.head _)⟩, List.forall_mem_nil _⟩) (hideAll_get _ (N7.get (.tail _ (.head _))) (nl _ hdl)) (by rw [List.length_map, hXt]; omega) (by rw [List.length_map, hXt]; omega) fun q h8 tk8 n8 k8 ho8 hq8 gq8 haq => ?_
  have F8 := fr_hid F7 [a] aL gl k8
  obtain ⟨hqL, hqg⟩ := fresh_hid F7 gq8 aL gl
  have hqdx : q ≠ dx := ne_hid gq8 (N7.get (.tail _ (.head _))) (nl _ hdl)
  have hqlr : q ≠ lr := ne_hid gq8 (N7.get (.tail _ (.tail _ (.head _)))) (nl _ hal)
  have hq140 : q ≠ 140 := ne_hid gq8 (N7.get (.tail _ (.tail _ (.tail _ (.head _))))) (nl _ h140a)
  have hq147 : q ≠ 147 := ne_hid gq8 (N7.get (.tail _ (.tail _ (.tail _ (.tail _ (.head _)))))) (nl _ h147a)
  have hqT : q ≠ Tn := ne_hid gq8 (N7.get (.tail _ (.tail _ (.tail _ (.tail _ (.tail _ (.head _))))))) (nl _ haT)
  have etk : ((ts ++ [Tn]).map Value.ref).take ws.length = ts.map Value.ref := by
    rw [List.map_append, List.take_append_of_le_length (by rw [List.length_map, H.len]; exact Nat.le_refl _), List.take_of_length_le (by rw [List.length_map, H.len]; exact Nat.le_refl _)]
  have edr : ((ts ++ [Tn]).map Value.ref).drop ws.length = [Value.ref Tn] := by
    rw [List.map_append, List.drop_append_of_le_length (by rw [List.length_map, H.len]; exact Nat.le_refl _), List.drop_of_length_le (by rw [List.length_map, H.len]; exact Nat.le_refl _)]
    rfl
  rw [etk] at ho8
  rw [edr] at hq8
  have N8 : News g s.heap.objs.size h8 [(a, accObj dx (ts.map Value.ref).toArray n8), (dx, accDict w_1 t0 u0 nd), (lr, W.listOf rv nn), ((140 : Addr), op3), ((147 : Addr), op2), (Tn, { cls := .type "tuple", data := .seq #[.str (Str.ofString "") tu, .str x tv] }), (q, { cls := .type "list", data := .seq [Value.ref Tn].toArray })] :=
    List.forall_mem_cons.mpr ⟨⟨ho8, haL, ga⟩, List.forall_mem_cons.mpr ⟨news_hid N7 [a] k8 (.tail _ (.head _)) (nl _ hdl), List.forall_mem_cons.mpr ⟨news_hid N7 [a] k8 (.tail _ (.tail _ (.head _))) (nl _ hal), List.forall_mem_cons.mpr ⟨news_hid N7 [a] k8 (.tail _ (.tail _ (.tail _ (.head _)))) (nl _ h140a), List.forall_mem_cons.mpr ⟨news_hid N7 [a] k8 (.tail _ (.tail _ (.tail _ (.tail _ (.head _))))) (nl _ h147a), List.forall_mem_cons.mpr ⟨news_hid N7 [a] k8 (.tail _ (.tail _ (.tail _ (.tail _ (.tail _ (.head _)))))) (nl _ haT), List.forall_mem_cons.mpr ⟨⟨hq8, hqL, hqg⟩, List.forall_mem_nil _⟩⟩⟩⟩⟩⟩⟩
  clear F7 N7 k8 ho8 hq8 gq8 etk edr
  k_steps
  refine Stop.intro ?_
  (with_reducible rename Fr _ _ _ _ => F9)
  (with_reducible rename News _ _ _ _ => N9)
  have gl2 : ∀ b ∈ [(147 : Addr)], g.get? b = none := fun b hb => by rw [List.mem_singleton.mp hb]; exact g147
  have n147 : ∀ b : Addr, b ≠ 147 → b ∉ [(147 : Addr)] := fun b hb q => hb (List.mem_singleton.mp q)
  have kg := grows_hide F9 [147] gl2
  have hlt2 := F9.ns.lt
  have hdx147 : dx ≠ 147 := by
    intro q
    have e1 := N9.get (.tail _ (.head _))
    have e2 := N9.get (.tail _ (.tail _ (.tail _ (.tail _ (.head _)))))
    rw [q, e2] at e1
    rw [Option.some.inj e1] at hop2
    cases hop2
  have hlr147 : lr ≠ 147 := by
    intro q
    have e1 := N9.get (.tail _ (.tail _ (.head _)))
    have e2 := N9.get (.tail _ (.tail _ (.tail _ (.tail _ (.head _)))))
    rw [q, e2] at e1
    rw [Option.some.inj e1] at hop2
    cases hop2
  have hT147 : Tn ≠ 147 := by
    intro q
    have e1 := N9.get (.tail _ (.tail _ (.tail _ (.tail _ (.tail _ (.head _))))))
    have e2 := N9.get (.tail _ (.tail _ (.tail _ (.tail _ (.head _)))))
    rw [q, e2] at e1
    rw [Option.some.inj e1] at hop2
    cases hop2
  have hlr140 : lr ≠ 140 := by
    intro q
    have e1 := N9.get (.tail _ (.tail _ (.head _)))
    have e2 := N9.get (.tail _ (.tail _ (.tail _ (.head _))))
    rw [q, e2] at e1
    rw [Option.some.inj e1] at j2
    cases j2
  have hTlr : Tn ≠ lr := by
    intro q
    have e1 := N9.get (.tail _ (.tail _ (.head _)))
    have e2 := N9.get (.tail _ (.tail _ (.tail _ (.tail _ (.tail _ (.head _))))))
    rw [q, e1] at e2
    have h1 := congrArg Obj.cls (Option.some.inj e2)
    simp at h1
  have hTdx : Tn ≠ dx := by
    intro q
    have e1 := N9.get (.tail _ (.head _))
    have e2 := N9.get (.tail _ (.tail _ (.tail _ (.tail _ (.tail _ (.head _))))))
    rw [q, e1] at e2
    have h1 := congrArg Obj.cls (Option.some.inj e2)
    simp at h1
  refine wpAny_AD 700 rfl (Nat.le_of_ble_eq_true rfl) (Nat.le_of_ble_eq_true rfl) ?_
  refine str_spec a dx ts ws n8 nd t0 u0 op2 ps2 ((B.at F9).hide [147] gl2) (H.keeps kg) (hideAll_get _ (N9.get (.head _)) (n147 _ h147a)) (hideAll_get _ (N9.get (.tail _ (.head _))) (n147 _ hdx147)) (List.forall_mem_cons.mpr ⟨⟨N9.get (.tail _ (.tail _ (.tail _ (.tail _ (.head _))))), hideAll_none _ (.head _)⟩, List.forall_mem_nil _⟩) hop2 ht2 (Nat.lt_trans h147 hlt2) G3 (by omega) hwl fun t10 h10 gs10 tk10 G10 k10 TI10 => ?_
  show StrBack _ _ _
  dsimp only [StrBack]
  obtain ⟨op10, ps10, i1, i2, i3⟩ := TI10
  have F10 := fr_hid F9 [147] (fun q => Nat.ne_of_gt h147 (List.mem_singleton.mp q)) gl2 k10
  have N10 : News g s.heap.objs.size h10 [(a, accObj dx (ts.map Value.ref).toArray n8), (dx, accDict w_1 t0 u0 nd), (lr, W.listOf rv nn), ((140 : Addr), op3), ((147 : Addr), op10), (Tn, { cls := .type "tuple", data := .seq #[.str (Str.ofString "") tu, .str x tv] }), (q, { cls := .type "list", data := .seq [Value.ref Tn].toArray })] :=
    List.forall_mem_cons.mpr ⟨news_hid N9 [147] k10 (.head _) (n147 _ h147a), List.forall_mem_cons.mpr ⟨news_hid N9 [147] k10 (.tail _ (.head _)) (n147 _ hdx147), List.forall_mem_cons.mpr ⟨news_hid N9 [147] k10 (.tail _ (.tail _ (.head _))) (n147 _ hlr147), List.forall_mem_cons.mpr ⟨news_hid N9 [147] k10 (.tail _ (.tail _ (.tail _ (.head _)))) (n147 _ (by show (140 : Nat) ≠ 147; decide)), List.forall_mem_cons.mpr ⟨⟨i1, Nat.ne_of_lt h147, g147⟩, List.forall_mem_cons.mpr ⟨news_hid N9 [147] k10 (.tail _ (.tail _ (.tail _ (.tail _ (.tail _ (.head _)))))) (n147 _ hT147), List.forall_mem_cons.mpr ⟨news_hid N9 [147] k10 (.tail _ (.tail _ (.tail _ (.tail _ (.tail _ (.tail _ (.head _))))))) (n147 _ hq147), List.forall_mem_nil _⟩⟩⟩⟩⟩⟩⟩
  clear F9 N9 k10 kg
  k_steps
  refine Stop.intro ?_
  refine append_K F10 N10 (Upd.tail hal (Upd.tail hdlr (Upd.head (List.forall_mem_cons.mpr ⟨hlr140.symm, List.forall_mem_cons.mpr ⟨hlr147.symm, List.forall_mem_cons.mpr ⟨hTlr, List.forall_mem_cons.mpr ⟨hqlr, List.forall_mem_nil _⟩⟩⟩⟩)))) (fun h11 F11 N11 => ?_) (by rw [sizeLine_eq]; omega)
  clear F10 N10
  k_steps
  refine Stop.intro ?_
  (with_reducible rename Fr _ _ _ _ => F11)
  (with_reducible rename News _ _ _ _ => N11)
  refine acc_method (X.keeps F11.keep) (N11.get (.head _)) (N11.get (.tail _ (.head _))) (f := .ref 160) (tf := .type "function") (by k_is) (looks_typeIn (X.keeps F11.keep) (by k_is)) (by decide) rfl ?_
  k_steps
  refine Stop.intro ?_
  refine wpAny_AD 700 rfl (Nat.le_of_ble_eq_true rfl) (Nat.le_of_ble_eq_true rfl) ?_
  have gl3 : ∀ b ∈ [a, dx], g.get? b = none := List.forall_mem_cons.mpr ⟨ga, List.forall_mem_cons.mpr ⟨gdx, List.forall_mem_nil _⟩⟩
  have nl3 : ∀ b : Addr, b ≠ a → b ≠ dx → b ∉ [a, dx] := fun b h1 h2 q => by
    rcases List.mem_cons.mp q with q | q
    · exact h1 q
    · exact h2 (List.mem_singleton.mp q)
  refine reset_spec a dx q (ts.map Value.ref).toArray #[.ref Tn] n8 nd t0 u0 ((B.at F11).hide [a, dx] gl3) (List.forall_mem_cons.mpr ⟨⟨N11.get (.head _), hideAll_none _ (.head _)⟩, List.forall_mem_cons.mpr ⟨⟨N11.get (.tail _ (.head _)), hideAll_none _ (.tail _ (.head _))⟩, List.forall_mem_nil _⟩⟩) ⟨_, hideAll_get _ (N11.get (.tail _ (.tail _ (.tail _ (.tail _ (.tail _ (.tail _ (.head _)))))))) (nl3 _ haq.symm hqdx), rfl, _, rfl⟩ (by rw [List.size_toArray, List.length_map, H.len]; omega) (by simp) fun h12 tk12 n12 u12 k12 ha12 hd12 => ?_
  have F12 := fr_hid F11 [a, dx] (nl3 _ haL.symm hdL.symm) gl3 k12
  have g12 : Grows g h12 := F12.keep
  have lr12 := k12 _ _ (hideAll_get _ (N11.get (.tail _ (.tail _ (.head _)))) (nl3 _ hal.symm hdlr.symm))
  have t140 := k12 _ _ (hideAll_get _ (N11.get (.tail _ (.tail _ (.tail _ (.head _))))) (nl3 _ h140a.symm hdx140.symm))
  have t147 := k12 _ _ (hideAll_get _ (N11.get (.tail _ (.tail _ (.tail _ (.tail _ (.head _)))))) (nl3 _ h147a.symm hdx147.symm))
  have tT := k12 _ _ (hideAll_get _ (N11.get (.tail _ (.tail _ (.tail _ (.tail _ (.tail _ (.head _))))))) (nl3 _ haT.symm hTdx))
  have hch : chunkF e (lines, ws) x = (lines ++ [Txt.join (Str.ofString "") ws], [x]) := if_pos (by (with_reducible rename _ < _ => hlt); assumption)
  clear F11 N11 k12
  k_steps
  exact hret h12 gs10 _ [Tn] n12 u12 _ _ G10 g12 ha12 hd12 lr12 (by rw [hch, Array.toList_push]; exact strs_snoc hrv _ _)
    (by rw [hch]; exact Words.snoc (ts := []) (ws := []) (h := h12) ⟨rfl, fun i t y a => by cases a⟩ (Grows.refl _) tT) ⟨_, _, t140, j2, j3⟩ ⟨_, _, t147, i2, i3⟩
theorem chunk_spec : ChunkSt := chunkA.2 over
end
end Mine

-- FmE0
namespace Mine
open PySem PySem.W PyProof.Rows PySem.Spec PySem.Calls
set_option maxRecDepth 100000
set_option maxHeartbeats 1000000
set_option pp.deepTerms false
set_option pp.deepTerms.threshold 8
set_option pp.fieldNotation false
noncomputable section
theorem ne_two {prog : Program} {w : World} {A : Around} {E : Value → Shared → Prop} {s : Shared} {a b : Addr} {x y z v : Str} {t1 t2 t3 t4 : Tok} {Q : Value → Shared → Prop} (ha : s.heap.get? a = some { cls := .type "tuple", data := .seq #[.str x t1, .str y t2] })
    (hb : s.heap.get? b = some { cls := .type "tuple", data := .seq #[.str z t3, .str v t4] }) (hu : A.units < cLine) (hne : (x == z) = false) (h : Q (.bool true) s) : wpAny (model prog w) A (compareOp .NotEq (.ref a) (.ref b)) Q E s := by
  refine PySem.SeqAt.RcNeAt.tuples (e := fun j => match j with | 0 => x == z | _ => y == v) ⟨_, ha, rfl, _, rfl⟩ ⟨_, hb, rfl, _, rfl⟩ hu ?_ _ _ _ _ ?_
  · intro j h1 h2
    match j, h1 with
    | 0, _ => exact PySem.SeqAt.EqAt.str_str _ _ _ _
    | 1, _ => exact PySem.SeqAt.EqAt.str_str _ _ _ _
    | j + 2, h1 => exact absurd h1 (by simp)
  · have : (!((List.range (min (#[Value.str x t1, .str y t2] : Array Value).size (#[Value.str z t3, .str v t4] : Array Value).size)).all (fun j => match j with | 0 => x == z | _ => y == v) && (#[Value.str x t1, .str y t2] : Array Value).size == (#[Value.str z t3, .str v t4] : Array Value).size)) = true := by
      show (!(((x == z) && ((y == v) && true)) && true)) = true
      rw [hne]; rfl
    rw [this]
    exact h
/-- a method called with a starred argument alone -/
theorem starCall {M : Model} {A : Around} {E : Value → Shared → Prop} {s : Shared} {env : Env} {o e : Expr} {name : Str} {apos pos p : Pos} {Q : Value → Shared → Prop}
    (h : wpAny M A (eval o env) (fun ov s₁ => wpAny M A (getAttr ov name true) (fun f s₂ => wpAny M A (callWith pos f [] (backTo pos (starEach [.Starred e p] env)) []) Q E s₂) E s₁) E s)
    (he : eval (.Call (.Attribute o name apos) [.Starred e p] [] pos) env = (do
      let ov ← eval o env
      standAt apos.atName
      let (f, first) ← holding [ov] (do pure (← getAttr ov name true, []))
      let cp ← pure pos
      callWith cp f first (backTo pos (starEach [.Starred e p] env)) []) := by rfl) :
    wpAny M A (eval (.Call (.Attribute o name apos) [.Starred e p] [] pos) env) Q E s := by
  rw [he]
  refine wpAny_bind (wpAny_mono h (fun ov s₁ h₁ => wpAny_bind (wpAny_standAt (wpAny_bind (wpAny_holding (wpAny_bind (wpAny_mono h₁ (fun f s₂ h₂ => wpAny_pure ?_) fun _ _ x => x)))))) fun _ _ x => x)
  exact wpAny_bind (wpAny_pure h₂)
theorem star_two {prog : Program} {w : World} {A : Around} {E : Value → Shared → Prop} {s : Shared} {a : Addr} {x y : Value} {Q : List Value → Shared → Prop} (ha : s.heap.get? a = some { cls := .type "tuple", data := .seq #[x, y] })
    (h : ∀ h', Grows s.heap h' → Q [x, y] { s with heap := h' }) : StarOf (model prog w) A E (.ref a) Q s := by
  have hT : s.TypeIs (.ref a) "tuple" := ⟨_, ha, rfl⟩
  have z : wpAny (model prog w) A (collect (.ref a)) Q E s := wpAny_collect_seq a (.inr rfl) ha rfl rfl (fun h' hk => h h' hk) (Nat.le_of_ble_eq_true rfl)
  unfold StarOf notIterableAtAll
  exact wpAny_bind (wpAny_specialOf hT PySem.F.slot_tuple_iter.lookup (wpAny_pure ⟨rfl, z⟩))
theorem acc_bound {w : World} {A : Around} {E : Value → Shared → Prop} {s : Shared} {a dx f : Addr} {its : Array Value} {n nd : Nat} {t u : Tok} {name : Str} {expr : Bool} {Q : Value → Shared → Prop} (X : (Mine.hd.heap_1 w.params).In s.heap)
    (h1 : s.heap.get? a = some (accObj dx its n)) (h2 : s.heap.get? dx = some (accDict w t u nd)) (hf : findObj (Mine.hd.heap_1 w.params) 178 (some (accDict w t u nd)) name = some (.bind (.builtin "function.__get__") (.ref f)))
    (hp : typeIn (Mine.hd.heap_1 w.params) (.ref f) = some (.type "function"))
    (h : Q (.ref s.heap.objs.size) { s with heap := s.heap.push (methodObj (.ref f) (.ref a)), toks := s.toks + 1 }) : wpAny (model PP w) A (getAttr (.ref a) name expr) Q E s := by
  have I := InstAt.acc h1 h2
  obtain ⟨hh, g, d, tt, os⟩ := s
  have L0 := I.type (M := model PP w)
  have L1 : Looks (model PP w) hh (typeLookup (.ref 178) "__getattribute__") (some (.builtin "list.__getattribute__")) := looks_findIn X (by k_is)
  have L2 := looks_find (M := model PP w) X I hf
  have L3 : Looks (model PP w) hh (typeLookup (.ref 178) "__getattr__") none := looks_findIn X (by k_is)
  have hb : bindSpecial (.builtin "list.__getattribute__") (.ref a) = pure (.builtin "list.__getattribute__", [.ref a]) :=
    (Slot.of (T := "list") (name := "__getattribute__") (owner := "list") (n := "__getattribute__") (by rw [typeLookup_type, builtinLookup_eq_fast]; kernel_rfl) (by decide +kernel) (by decide +kernel) (by decide +kernel) (.inl (by decide +kernel)) (by rw [isSubtype_type]; kernel_rfl)).bind _
  unfold getAttr getAttrBy
  refine wpAny_bind (wpAny_mkText (wpAny_holding (wpAny_bind (L0.at (wpAny_bind (L1.at ?_))))))
  dsimp only
  rw [if_neg (by decide)]
  unfold getAttrByItsOwn hookBefore callGetattribute boundAndCalled
  rw [if_pos (show onTheHeap (.ref 178) = true from rfl)]
  refine wpAny_bind (L3.at ?_)
  refine wpAny_bind (wpAny_attempt (wpAny_holding ?_))
  rw [if_neg (by cases expr <;> decide), hb]
  refine wpAny_bind (wpAny_pure ?_)
  refine call_acc (name := "__getattribute__") (b := Builtin.«object.__getattribute__») X h1 (by decide +kernel) entry_lga (.inl (by decide +kernel)) (by decide +kernel) (by unfold argsOk; kernel_rfl) ?_
  unfold Builtin.«object.__getattribute__»
  repeat lk
  refine wpAny_run (h := none) (fn_get (s := ⟨hh, g, d, tt + 1, os⟩) X hp ?_)
  exact wpAny_pure (wpAny_pure ⟨_, rfl, wpAny_pure h⟩)
theorem codeAny_AD {M : Model} {A : Around} {c : Code} {R : Result → Shared → Prop} {s : Shared} (n : Nat) (hh : A.handled = none) (hd : A.depth ≤ n) (hu : A.units ≤ n) (h : codeAny M (AD n) c R s) : codeAny M A c R s := fun Γ p hc hΓ =>
  h Γ p hc ⟨hΓ.1.trans hh, Nat.le_trans hΓ.2.1 hd, (fun _ e => (nomatch e)), (fun _ e => (nomatch e)), Nat.le_trans hΓ.2.2.2.2 hu⟩
/-- a call of a def without cells: g is what stands, news what is known beside it -/
theorem enterPc {w : World} {A : Around} {s : Shared} {Q E : Value → Shared → Prop} {g : Heap} {K : Frag} {news : List (Addr × Obj)}
    {name qual : Str} {params : Arguments} {body : List Stmt} {scope : Scope} {cl : List (Str × Addr)} {dV kV doc pm cdv ct oc : Value} {an od : Option Addr} {osl : Array (Option Value)} {f : Addr} {vs : List Value} {binds : List (Str × Value)}
    (X : K.In g) (hlim : g.NoLimit) (hg : Grows g s.heap) (hgs : g.objs.size ≤ s.heap.objs.size) (M : ∀ p ∈ news, s.heap.get? p.1 = some p.2 ∧ g.get? p.1 = none)
    (hroom : A.depth < recursionLimit)
    (ho : K.lookup f = some ⟨oc, od, .func (fnX name qual params body scope cl dV kV doc pm an cdv ct), osl⟩) (hcd : codeIn K cdv qual = true)
    (hbind : BindsTo s (fnX name qual params body scope cl dV kV doc pm an cdv ct) ⟨vs, []⟩ binds) (hloc : ∀ y ∈ binds, scope.names.lookup y.1 = some .local)
    (h : ∀ h₁, Fr g s.heap.objs.size h₁ (fun y => binds.reverse.lookup y) → News g s.heap.objs.size h₁ news →
      wpAny (model PP w) (A.deeper (envX qual scope s.heap.objs.size f cdv cl)) (execs body (envX qual scope s.heap.objs.size f cdv cl))
        (fun fl s' => Q (match fl with | .ret v => v | _ => .none) s') (fun _ _ => False) { s with heap := h₁, toks := s.toks + binds.length })
    (hco : scope.isCoroutine = false) (hgen : scope.isGenerator = false) (hk : scope.kind = .function) (hcell : ∀ x ∈ scope.names, x.2 ≠ .cell) :
    codeAny (model PP w) A (.call (.ref f) ⟨vs, []⟩) (fun r s' => match r with | .ok (.ret v) => Q v s' | .ok _ => False | .error e => E e s') s := by
  refine codeAny_call_def (fd := fnX name qual params body scope cl dV kV doc pm an cdv ct) (body := body) (binds := binds) hroom (hg _ _ (X _ _ ho)) rfl (hlim.keeps hg) (codeRec_of (X.keeps hg) hcd) rfl hbind hcell hloc (fun h₁ hns hk₁ => ?_) hco hgen hk
  exact wpAny_mono (h h₁ ⟨hns, fun b o e => hk₁ b o (hg b o e), hgs⟩ (fun p hp => ⟨hk₁ _ _ (M p hp).1, Nat.ne_of_lt (Heap.lt_size (M p hp).1), (M p hp).2⟩)) (fun _ _ x => x) fun _ _ x => x.elim

local macro_rules | `(tactic| walk_at "m_enterGc") => `(tactic| (refine' enterPc ?X ?lim ?g ?gs ?M ?room ?ho ?hcd ?bind ?loc ?_ ?c1 ?c2 ?c3 ?c4; (case X => exact Base.X (by with_reducible assumption)); (case lim => exact TopRead.nolimit (Base.T (by with_reducible assumption))); (case g => exact Base.grows (by with_reducible assumption)); (case gs => exact Base.size (by with_reducible assumption)); (case M => with_reducible assumption); (case room => decide); (case ho => k_is); (case hcd => k_is); (case bind => first | exact BindsTo.of_eq rfl | exact binds_K (Frag.In.keeps (Base.X (by with_reducible assumption)) (Base.grows (by with_reducible assumption))) rfl (by k_is) rfl rfl rfl); (case loc => exact locs rfl); (case c1 => exact rfl); (case c2 => exact rfl); (case c3 => exact rfl); (case c4 => decide); k_whole; intro h' F' N'; (try dsimp only); (try k_fold)))
local macro_rules | `(tactic| walk_at "eval Name") => `(tactic| ((with_reducible show wpAny _ _ (eval _ (genEnv _ _ _ _ _ _)) _ _ _); k_dflt (first
  | (refine' nm_L rfl rfl rfl ?hn ?hv ?_; (case hn => (try dsimp only [genEnv]); with_reducible assumption); (case hv => with_reducible assumption); k_whole)
  | (refine' nm_G rfl rfl rfl ?X ?T ?e ?_; (case X => with_reducible assumption); (case T => with_reducible assumption); (case e => k_is); k_whole)
  | (refine' nm_B rfl rfl rfl rfl ?X ?T ?e ?v ?n ?_; (case X => with_reducible assumption); (case T => with_reducible assumption); (case e => k_is); (case v => boot_fast); (case n => decide); k_whole))))
local macro_rules | `(tactic| k_inst) => `(tactic| (refine' Mine.InstAt.acc ?h1 ?h2; (case h1 => exact News.get (by k_asm) (by k_mem)); (case h2 => exact Fr.keep (by with_reducible assumption) _ _ (by with_reducible assumption))))
local macro_rules | `(tactic| walk_at "getMethod ref") => `(tactic| (refine halt ?_))
local macro_rules | `(tactic| walk_at "call builtin:list.append") => `(tactic| (refine halt ?_))
theorem push_code {w : World} {mg mb : Str → Option Value} {s : Shared} {Q E : Value → Shared → Prop} {g : Heap} (a dx : Addr) (its : Array Value) (x : Str) (n nd : Nat) (t0 u0 t1 t2 : Tok)
  (B : Base w mg mb g s.heap) (M : ∀ p ∈ [(a, accObj dx its n)], s.heap.get? p.1 = some p.2 ∧ g.get? p.1 = none) (hD : g.get? dx = some (accDict w t0 u0 nd))
  (hsz : its.size ≤ 100)
  (hret : ∀ (T : Addr) (h' : Heap) (tk' : Nat) u v, Grows g h' → h'.get? a = some (accObj dx (its.push (.ref T)) (n + 1)) → h'.get? T = some { cls := .type "tuple", data := .seq #[.str (Str.ofString "") u, .str x v] } → g.get? T = none → a ≠ T → Q .none { s with heap := h', toks := tk' }) :
  codeAny (model PP w) (AD 700) (.call (.ref 122) ⟨[.ref a, .str (Str.ofString "") t1, .str x t2], []⟩) (fun r s' => match r with | .ok (.ret v) => Q v s' | .ok _ => False | .error e => E e s') s := by
  have X := B.X
  have T := B.T
  k_dflt walk_at "m_enterGc"
  k_steps
  refine Stop.intro ?_
  (with_reducible rename Fr _ _ _ _ => F)
  (with_reducible rename News _ _ _ _ => N)
  refine acc_method (X.keeps F.keep) (N.get (.head _)) (F.keep _ _ hD) (f := .builtin "list.append") (tf := .type "method_descriptor") (by k_is) (Looks.of_pure (by kernel_rfl)) (by decide) rfl ?_
  k_steps
  refine Stop.intro ?_
  (with_reducible rename Fr _ _ _ _ => F)
  (with_reducible rename News _ _ _ _ => N)
  have hTa := (N.get (.head _))
  have haT : s.heap.get? a = some (accObj dx its n) := (M _ (.head _)).1
  refine acc_append (X.keeps F.keep) (N.get (.tail _ (.head _))) (by rw [sizeLine_eq]; omega) fun h' hs ho' => ?_
  have hne : ∀ b o, g.get? b = some o → b ≠ a := fun b o e q => by rw [q, (M _ (.head _)).2] at e; cases e
  refine wpAny_execs_nil ?_
  (try dsimp only)
  refine hret _ h' _ _ _ (fun b o e => hs.extBut b o (hne b o e) (F.keep _ _ e)) ho' (hs.extBut _ _ ?_ hTa) (N _ (.head _)).2.2 ?_
  · rename_i l1
    exact Nat.ne_of_gt l1
  · rename_i l1
    exact Nat.ne_of_lt l1
/-- the call of a bound method with a starred pair -/
theorem star_call {w : World} {A : Around} {E : Value → Shared → Prop} {s : Shared} {env : Env} {e : Expr} {pos p : Pos} {q f a t : Addr} {x y : Value} {Q : Value → Shared → Prop} (X : (Mine.hd.heap_1 w.params).In s.heap) (hf : fnIn (Mine.hd.heap_1 w.params) f = true)
    (hq : s.heap.get? q = some (methodObj (.ref f) (.ref a)))
    (h : wpAny (model PP w) A (eval e env) (fun v s₁ => Stop (v = .ref t ∧ Grows s.heap s₁.heap ∧ s₁.heap.get? t = some { cls := .type "tuple", data := .seq #[x, y] } ∧ ∀ h', Grows s₁.heap h' → codeAny (model PP w) A (.call (.ref f) ⟨[.ref a, x, y], []⟩) (fun r s' => match r with | .ok (.ret v) => Q v s' | .ok _ => False | .error e => E e s') { s₁ with heap := h' })) E s)
    (he : starEach [.Starred e p] env = [(true, eval e env)] := by rfl) :
    wpAny (model PP w) A (callWith pos (.ref q) [] (backTo pos (starEach [.Starred e p] env)) []) Q E s := by
  rw [he]
  refine ks_call rfl (keeps_M (q := q) (self := .ref a) hf) (ks_lone (wpAny_mono h (fun v s₁ h₁ => ?_) fun _ _ z => z))
  obtain ⟨rfl, k1, ht, hc⟩ := h₁
  refine star_two ht fun h' hk => ?_
  refine ⟨⟨hk _ _ (k1 _ _ hq), (X.keeps k1).keeps hk⟩, ?_⟩
  refine wpAny_call (method_call (hk _ _ (k1 _ _ hq)) ?_)
  exact hc h' hk
theorem Words.init {h : Heap} {ts : List Addr} {ws : List Str} {T : Addr} {x : Str} (H : Words h (ts ++ [T]) (ws ++ [x])) : Words h ts ws := by
  have hl : ts.length = ws.length := by have := H.len; simp at this; exact this
  refine ⟨hl, fun i t y a b => ?_⟩
  obtain ⟨hi, _⟩ := List.getElem?_eq_some_iff.mp a
  exact H.tup i t y (by rw [List.getElem?_append_left hi]; exact a) (by rw [List.getElem?_append_left (hl ▸ hi)]; exact b)
end
end Mine

-- FmE
namespace Mine
open PySem PySem.W PyProof.Rows PySem.Spec PySem.Calls
set_option maxRecDepth 100000
set_option maxHeartbeats 1000000
set_option pp.deepTerms false
set_option pp.deepTerms.threshold 8
set_option pp.fieldNotation false
noncomputable section
local macro_rules | `(tactic| walk_at "m_enterG") => `(tactic| (refine' enterP ?X ?lim ?g ?gs ?M ?room ?ho ?hcd ?bind ?loc ?_ ?c1 ?c2 ?c3 ?c4; (case X => exact Base.X (by with_reducible assumption)); (case lim => exact TopRead.nolimit (Base.T (by with_reducible assumption))); (case g => exact Base.grows (by with_reducible assumption)); (case gs => exact Base.size (by with_reducible assumption)); (case M => with_reducible assumption); (case room => decide); (case ho => k_is); (case hcd => k_is); (case bind => first | exact BindsTo.of_eq rfl | exact binds_K (Frag.In.keeps (Base.X (by with_reducible assumption)) (Base.grows (by with_reducible assumption))) rfl (by k_is) rfl rfl rfl); (case loc => exact locs rfl); (case c1 => exact rfl); (case c2 => exact rfl); (case c3 => exact rfl); (case c4 => decide); k_whole; intro h' F' N'; (try dsimp only); (try k_fold)))
local macro_rules | `(tactic| walk_at "eval Name") => `(tactic| ((with_reducible show wpAny _ _ (eval _ (genEnv _ _ _ _ _ _)) _ _ _); k_dflt (first
  | (refine' nm_L rfl rfl rfl ?hn ?hv ?_; (case hn => (try dsimp only [genEnv]); with_reducible assumption); (case hv => with_reducible assumption); k_whole)
  | (refine' nm_G rfl rfl rfl ?X ?T ?e ?_; (case X => with_reducible assumption); (case T => with_reducible assumption); (case e => k_is); k_whole)
  | (refine' nm_B rfl rfl rfl rfl ?X ?T ?e ?v ?n ?_; (case X => with_reducible assumption); (case T => with_reducible assumption); (case e => k_is); (case v => boot_fast); (case n => decide); k_whole))))
local macro_rules | `(tactic| k_inst) => `(tactic| first
  | (refine' Mine.InstAt.fmt ?h1 ?h2; (case h1 => exact Fr.keep (by with_reducible assumption) _ _ (by with_reducible assumption)); (case h2 => exact Fr.keep (by with_reducible assumption) _ _ (by with_reducible assumption)))
  | (refine' Mine.InstAt.acc ?h1 ?h2; (case h1 => exact News.get (by k_asm) (by k_mem)); (case h2 => exact News.get (by k_asm) (by k_mem))))



local macro_rules | `(tactic| walk_at "m_enterS") => `(tactic| (refine' enterS ?X ?lim ?g ?gs ?M ?room ?ho ?hcd ?bind ?loc ?_ ?c4 ?c1 ?c2 ?c3; (case X => exact Base.X (by with_reducible assumption)); (case lim => exact TopRead.nolimit (Base.T (by with_reducible assumption))); (case g => exact Base.grows (by with_reducible assumption)); (case gs => exact Base.size (by with_reducible assumption)); (case M => with_reducible assumption); (case room => decide); (case ho => k_is); (case hcd => k_is); (case bind => first | exact BindsTo.of_eq rfl | exact binds_K (Frag.In.keeps (Base.X (by with_reducible assumption)) (Base.grows (by with_reducible assumption))) rfl (by k_is) rfl rfl rfl); (case loc => exact locs rfl); (case c1 => exact rfl); (case c2 => exact rfl); (case c3 => exact rfl); (case c4 => decide); k_whole; intro h' F' N'; (try dsimp only); (try k_fold)))







local macro_rules | `(tactic| walk_at "getMethod ref") => `(tactic| ((first | (with_reducible show wpAny _ _ (getMethod _ (Str.ofString "push") _) _ _ _) | (with_reducible show wpAny _ _ (getMethod _ (Str.ofString "pop") _) _ _ _) | (with_reducible show wpAny _ _ (getMethod _ (Str.ofString "part_count") _) _ _ _) | (with_reducible show wpAny _ _ (getMethod _ (Str.ofString "pop_from") _) _ _ _) | (with_reducible show wpAny _ _ (getMethod _ (Str.ofString "reset") _) _ _ _) | (with_reducible show wpAny _ _ (getMethod _ (Str.ofString "is_onlyws") _) _ _ _)); refine halt ?_))
local macro_rules | `(tactic| walk_at "call builtin:list.append") => `(tactic| (refine halt ?_))
local macro_rules | `(tactic| walk_at "call ref") => `(tactic| ((with_reducible show wpAny _ _ (call (Value.ref _) _) _ _ _); refine halt ?_))
local macro_rules | `(tactic| walk_at "subscriptTail") => `(tactic| ((with_reducible show wpAny _ _ (subscriptTail _ _ (Value.str _ _) (Value.int _ _)) _ _ _); refine halt ?_))
local macro_rules | `(tactic| walk_at "subscriptTail") => `(tactic| ((with_reducible show wpAny _ _ (subscriptTail _ _ (Value.ref _) (Value.int _ _)) _ _ _); refine halt ?_))

local macro_rules | `(tactic| walk_at "getAttr ref") => `(tactic| ((with_reducible show wpAny _ _ (getAttr (Value.ref _) (Str.ofString "push") _) _ _ _); refine halt ?_))
theorem newline_spec {w : World} {mg mb : Str → Option Value} {s : Shared} {Q E : Value → Shared → Prop} {g : Heap} (fo fdx lr a dx : Addr) (e : Int) (k1 k2 k3 k4 k5 k6 v1 v2 v3 v4 : Tok) (nf : Nat) (ts : List Addr) (ws : List Str) (Te : Addr) (y : Str) (rv : Array Value) (lines : List Str) (n nd nn : Nat) (t0 u0 : Tok) (op op2 : Obj) (ps ps2 : Array Value)
  (B : Base w mg mb g s.heap) (H : Words g (ts ++ [Te]) (ws ++ [y])) (hF : g.get? fo = some (instObj 94 fdx)) (hFd : g.get? fdx = some (fmtDict w e lr a k1 k2 k3 k4 k5 k6 v1 v2 v3 v4 nf))
  (M : ∀ p ∈ [(a, accObj dx ((ts ++ [Te]).map Value.ref).toArray n), (dx, accDict w t0 u0 nd), (lr, W.listOf rv nn), ((140 : Addr), op), ((147 : Addr), op2)], s.heap.get? p.1 = some p.2 ∧ g.get? p.1 = none) (hop : op = tabObj ps) (ht : TriplesOk ps.toList) (hop2 : op2 = tabObj ps2) (ht2 : TriplesOk ps2.toList) (h178 : 178 < s.heap.objs.size) (ha : 178 < a) (hdl : a ≠ dx)
  (G : AllBare s.gens) (hwn : ws.length ≤ 20) (hwl : ∀ x ∈ ws ++ [y], x.length ≤ 100) (hpos : 0 < ((ws ++ [y]).map (·.length)).sum) (hsp : Txt.isspace (Txt.join (Str.ofString "") (ws ++ [y])) = false) (hrv : StrsAre rv.toList lines) (hrn : rv.size ≤ 100)
  (hret : ∀ h' gs' tk' n' u' rv' nn', AllBare gs' → Grows g h' → h'.get? a = some (accObj dx #[] n') → h'.get? dx = some (accDict w t0 u' nd) → h'.get? lr = some (W.listOf rv' nn') →
    StrsAre rv'.toList (lines ++ [Txt.join (Str.ofString "") (ws ++ [y])]) → TabI 140 h' → TabI 147 h' → Q .none ⟨h', gs', s.drawn, tk', s.os⟩) :
  wpAny (model PP w) (AD 500) (call (.ref 56) [.ref fo]) Q E s := by
  have X := B.X
  have T := B.T
  k_dflt walk_at "m_enterG"
  have hal : a ≠ lr := by
    intro q
    have e1 := (M _ (.head _)).1
    have e2 := (M _ (.tail _ (.tail _ (.head _)))).1
    dsimp only at e1 e2
    rw [q, e2] at e1
    cases e1
  have hdlr : dx ≠ lr := by
    intro q
    have e1 := (M _ (.tail _ (.head _))).1
    have e2 := (M _ (.tail _ (.tail _ (.head _)))).1
    dsimp only at e1 e2
    rw [q, e2] at e1
    have h1 := congrArg Obj.cls (Option.some.inj e1)
    simp at h1
  have ga := (M _ (.head _)).2
  have gdx := (M _ (.tail _ (.head _))).2
  have glr := (M _ (.tail _ (.tail _ (.head _)))).2
  have g140 := (M _ (.tail _ (.tail _ (.tail _ (.head _))))).2
  have g147 := (M _ (.tail _ (.tail _ (.tail _ (.tail _ (.head _)))))).2
  dsimp only at ga gdx glr g140 g147
  k_steps
  refine Stop.intro ?_
  (with_reducible rename Fr _ _ _ _ => F)
  (with_reducible rename News _ _ _ _ => N)
  have hL0 := F.ns.lt
  have haL : a ≠ s.heap.objs.size := (N _ (.head _)).2.1
  have hdL : dx ≠ s.heap.objs.size := (N _ (.tail _ (.head _))).2.1
  have gl : ∀ b ∈ [a], g.get? b = none := fun b hb => by rw [List.mem_singleton.mp hb]; exact ga
  have nl : ∀ b : Addr, a ≠ b → b ∉ [a] := fun b hb q => hb (List.mem_singleton.mp q).symm
  have aL : s.heap.objs.size ∉ [a] := fun q => haL (List.mem_singleton.mp q).symm
  have h140a : a ≠ 140 := Nat.ne_of_gt (Nat.lt_trans (by decide : (140 : Nat) < 178) ha)
  have h147a : a ≠ 147 := Nat.ne_of_gt (Nat.lt_trans (by decide : (147 : Nat) < 178) ha)
  have hlen1 : ts.length = ws.length := by have := H.len; simp at this; exact this
  refine acc_method (X.keeps F.keep) (N.get (.head _)) (N.get (.tail _ (.head _))) (f := .ref 138) (tf := .type "function") (by k_is) (looks_typeIn (X.keeps F.keep) (by k_is)) (by decide) rfl ?_
  k_steps
  refine Stop.intro ?_
  refine wpAny_AD 600 rfl (Nat.le_of_ble_eq_true rfl) (Nat.le_of_ble_eq_true rfl) ?_
  have epu : ((ts ++ [Te]).map Value.ref).toArray = (ts.map Value.ref).toArray.push (.ref Te) := by simp
  rw [epu] at N
  refine pop_spec a dx (ts.map Value.ref).toArray (.ref Te) n nd t0 u0 ((B.at F).hide [a] gl) (List.forall_mem_cons.mpr ⟨⟨N.get (.head _), hideAll_none _ (.head _)⟩, List.forall_mem_nil _⟩) (hideAll_get _ (N.get (.tail _ (.head _))) (nl _ hdl)) (Nat.ne_of_gt ha) (by rw [List.size_toArray, List.length_map, hlen1]; omega) fun h2 tk2 k2 ho2 => ?_
  have F2 := fr_hid F [a] aL gl k2
  have N2 : News g s.heap.objs.size h2 [(a, accObj dx (ts.map Value.ref).toArray (n + 1)), (dx, accDict w t0 u0 nd), (lr, W.listOf rv nn), ((140 : Addr), op), ((147 : Addr), op2)] :=
    List.forall_mem_cons.mpr ⟨⟨ho2, haL, ga⟩, List.forall_mem_cons.mpr ⟨news_hid N [a] k2 (.tail _ (.head _)) (nl _ hdl), List.forall_mem_cons.mpr ⟨news_hid N [a] k2 (.tail _ (.tail _ (.head _))) (nl _ hal), List.forall_mem_cons.mpr ⟨news_hid N [a] k2 (.tail _ (.tail _ (.tail _ (.head _)))) (nl _ h140a), List.forall_mem_cons.mpr ⟨news_hid N [a] k2 (.tail _ (.tail _ (.tail _ (.tail _ (.head _))))) (nl _ h147a), List.forall_mem_nil _⟩⟩⟩⟩⟩
  clear F N k2 ho2 M
  obtain ⟨uT, vT, hT⟩ := H.tup ts.length Te y (by simp) (by simp [hlen1])
  k_steps
  (with_reducible rename Fr _ _ _ _ => F3)
  (with_reducible rename News _ _ _ _ => N3)
  refine ne_two (F3.keep _ _ hT) (N3.get (.head _)) (Nat.le_of_ble_eq_true rfl) (by decide) ?_
  k_steps
  refine starCall ?_
  k_steps
  refine Stop.intro ?_
  have Hi := H.init
  refine acc_bound (X.keeps F3.keep) (N3.get (.tail _ (.head _))) (N3.get (.tail _ (.tail _ (.head _)))) (f := 122) (findObj_fn (by k_is) (by k_is) (by k_is) (by k_is) (by decide) rfl) (by k_is) ?_
  (with_reducible rename Heap => h3)
  have F4 := F3.push (methodObj (.ref 122) (.ref a))
  have N4 := N3.push F3 (methodObj (.ref 122) (.ref a))
  have hq := Heap.get?_push_size h3 (o := methodObj (.ref 122) (.ref a)) rfl
  refine star_call (t := Te) (x := .str (Str.ofString "") uT) (y := .str y vT) (X.keeps F4.keep) (by k_is) hq ?_
  clear hq F3 N3
  generalize Heap.push h3 _ = h4 at *
  k_steps
  refine Stop.intro ⟨rfl, fun _ _ e => e, F4.keep _ _ hT, fun h5 k5 => ?_⟩
  have F5 := F4.keeps k5
  have N5 := N4.grown k5
  clear F4 N4 k5
  refine codeAny_AD 700 rfl (Nat.le_of_ble_eq_true rfl) (Nat.le_of_ble_eq_true rfl) ?_
  refine push_code a dx (ts.map Value.ref).toArray y (n + 1) nd t0 u0 uT vT ((B.at F5).hide [a] gl) (List.forall_mem_cons.mpr ⟨⟨N5.get (.tail _ (.tail _ (.head _))), hideAll_none _ (.head _)⟩, List.forall_mem_nil _⟩) (hideAll_get _ (N5.get (.tail _ (.tail _ (.tail _ (.head _))))) (nl _ hdl)) (by rw [List.size_toArray, List.length_map, hlen1]; omega) fun T2 h6 tk6 tu tv k6' ho6 hT6 gT6 haT => ?_
  have F6 := fr_hid F5 [a] aL gl k6'
  obtain ⟨hTL, hTg⟩ := fresh_hid F5 gT6 aL gl
  have hTdx : T2 ≠ dx := ne_hid gT6 (N5.get (.tail _ (.tail _ (.tail _ (.head _))))) (nl _ hdl)
  have hTlr : T2 ≠ lr := ne_hid gT6 (N5.get (.tail _ (.tail _ (.tail _ (.tail _ (.head _)))))) (nl _ hal)
  have hT140 : T2 ≠ 140 := ne_hid gT6 (N5.get (.tail _ (.tail _ (.tail _ (.tail _ (.tail _ (.head _))))))) (nl _ h140a)
  have hT147 : T2 ≠ 147 := ne_hid gT6 (N5.get (.tail _ (.tail _ (.tail _ (.tail _ (.tail _ (.tail _ (.head _)))))))) (nl _ h147a)
  have epu2 : (ts.map Value.ref).toArray.push (.ref T2) = ((ts ++ [T2]).map Value.ref).toArray := by simp
  rw [epu2] at ho6
  have N6 : News g s.heap.objs.size h6 [(a, accObj dx ((ts ++ [T2]).map Value.ref).toArray (n + 1 + 1)), (dx, accDict w t0 u0 nd), (lr, W.listOf rv nn), ((140 : Addr), op), ((147 : Addr), op2), (T2, { cls := .type "tuple", data := .seq #[.str (Str.ofString "") tu, .str y tv] })] :=
    List.forall_mem_cons.mpr ⟨⟨ho6, haL, ga⟩, List.forall_mem_cons.mpr ⟨news_hid N5 [a] k6' (.tail _ (.tail _ (.tail _ (.head _)))) (nl _ hdl), List.forall_mem_cons.mpr ⟨news_hid N5 [a] k6' (.tail _ (.tail _ (.tail _ (.tail _ (.head _))))) (nl _ hal), List.forall_mem_cons.mpr ⟨news_hid N5 [a] k6' (.tail _ (.tail _ (.tail _ (.tail _ (.tail _ (.head _)))))) (nl _ h140a), List.forall_mem_cons.mpr ⟨news_hid N5 [a] k6' (.tail _ (.tail _ (.tail _ (.tail _ (.tail _ (.tail _ (.head _))))))) (nl _ h147a), List.forall_mem_cons.mpr ⟨⟨hT6, hTL, hTg⟩, List.forall_mem_nil _⟩⟩⟩⟩⟩⟩
  clear F5 N5 k6' ho6 hT6 gT6 epu2
  clear hT
  (try dsimp only)
  k_steps
  refine Stop.intro ?_
  (with_reducible rename Fr _ _ _ _ => F6)
  (with_reducible rename News _ _ _ _ => N6)
  have h140 : (140 : Nat) < s.heap.objs.size := Nat.lt_trans (by decide) h178
  have h147 : (147 : Nat) < s.heap.objs.size := Nat.lt_trans (by decide) h178
  have gl140 : ∀ b ∈ [(140 : Addr)], g.get? b = none := fun b hb => by rw [List.mem_singleton.mp hb]; exact g140
  have n140 : ∀ b : Addr, b ≠ 140 → b ∉ [(140 : Addr)] := fun b hb q => hb (List.mem_singleton.mp q)
  have kg := grows_hide F6 [140] gl140
  have hdx140 : dx ≠ 140 := by
    intro q
    have e1 := N6.get (.tail _ (.head _))
    have e2 := N6.get (.tail _ (.tail _ (.tail _ (.head _))))
    rw [q, e2] at e1
    rw [Option.some.inj e1] at hop
    cases hop
  have hdx147 : dx ≠ 147 := by
    intro q
    have e1 := N6.get (.tail _ (.head _))
    have e2 := N6.get (.tail _ (.tail _ (.tail _ (.tail _ (.head _)))))
    rw [q, e2] at e1
    rw [Option.some.inj e1] at hop2
    cases hop2
  have hlr140 : lr ≠ 140 := by
    intro q
    have e1 := N6.get (.tail _ (.tail _ (.head _)))
    have e2 := N6.get (.tail _ (.tail _ (.tail _ (.head _))))
    rw [q, e2] at e1
    rw [Option.some.inj e1] at hop
    cases hop
  have hlr147 : lr ≠ 147 := by
    intro q
    have e1 := N6.get (.tail _ (.tail _ (.head _)))
    have e2 := N6.get (.tail _ (.tail _ (.tail _ (.tail _ (.head _)))))
    rw [q, e2] at e1
    rw [Option.some.inj e1] at hop2
    cases hop2
  have hwn1 : (ws ++ [y]).length ≤ 21 := by simp; omega
  have hW : ∀ h', Grows g h' → h'.get? T2 = some { cls := .type "tuple", data := .seq #[.str (Str.ofString "") tu, .str y tv] } → Words h' (ts ++ [T2]) (ws ++ [y]) := fun h' k e => Hi.snoc k e
  have hsum := sum_le_of hwl
  refine wpAny_AD 700 rfl (Nat.le_of_ble_eq_true rfl) (Nat.le_of_ble_eq_true rfl) ?_
  refine len_spec a dx (ts ++ [T2]) (ws ++ [y]) (n + 1 + 1) nd t0 u0 op ps ((B.at F6).hide [140] gl140) (hW _ kg (hideAll_get _ (N6.get (.tail _ (.tail _ (.tail _ (.tail _ (.tail _ (.head _))))))) (n140 _ hT140))) (hideAll_get _ (N6.get (.head _)) (n140 _ h140a)) (hideAll_get _ (N6.get (.tail _ (.head _))) (n140 _ hdx140)) (List.forall_mem_cons.mpr ⟨⟨N6.get (.tail _ (.tail _ (.tail _ (.head _)))), hideAll_none _ (.head _)⟩, List.forall_mem_nil _⟩) hop ht (Nat.lt_trans h140 F6.ns.lt) G (by omega) hwl fun t3 h7 gs7 tk7 G7 k7 TI7 => ?_
  obtain ⟨op3, ps3, j1, j2, j3⟩ := TI7
  have F7 := fr_hid F6 [140] (fun q => Nat.ne_of_gt h140 (List.mem_singleton.mp q)) gl140 k7
  have N7 : News g s.heap.objs.size h7 [(a, accObj dx ((ts ++ [T2]).map Value.ref).toArray (n + 1 + 1)), (dx, accDict w t0 u0 nd), (lr, W.listOf rv nn), ((140 : Addr), op3), ((147 : Addr), op2), (T2, { cls := .type "tuple", data := .seq #[.str (Str.ofString "") tu, .str y tv] })] :=
    List.forall_mem_cons.mpr ⟨news_hid N6 [140] k7 (.head _) (n140 _ h140a), List.forall_mem_cons.mpr ⟨news_hid N6 [140] k7 (.tail _ (.head _)) (n140 _ hdx140), List.forall_mem_cons.mpr ⟨news_hid N6 [140] k7 (.tail _ (.tail _ (.head _))) (n140 _ hlr140), List.forall_mem_cons.mpr ⟨⟨j1, Nat.ne_of_lt h140, g140⟩, List.forall_mem_cons.mpr ⟨news_hid N6 [140] k7 (.tail _ (.tail _ (.tail _ (.tail _ (.head _))))) (n140 _ (by show (147 : Nat) ≠ 140; decide)), List.forall_mem_cons.mpr ⟨news_hid N6 [140] k7 (.tail _ (.tail _ (.tail _ (.tail _ (.tail _ (.head _)))))) (n140 _ hT140), List.forall_mem_nil _⟩⟩⟩⟩⟩⟩
  show (0 ≤ _ ∧ _) ∧ _
  refine ⟨⟨by omega, by omega⟩, ?_⟩
  clear F6 N6 k7 kg hop ht G
  have hposI : (0 : Int) < (((ws ++ [y]).map (·.length)).sum : Nat) := by omega
  generalize hsm : ((ws ++ [y]).map (·.length)).sum = tot at hposI ⊢
  k_steps
  refine Stop.intro ?_
  refine acc_method (X.keeps F7.keep) (N7.get (.head _)) (N7.get (.tail _ (.head _))) (f := .ref 167) (tf := .type "function") (by k_is) (looks_typeIn (X.keeps F7.keep) (by k_is)) (by decide) rfl ?_
  k_steps
  refine Stop.intro ?_
  have gl8 : ∀ b ∈ [(140 : Addr), 147], g.get? b = none := List.forall_mem_cons.mpr ⟨g140, List.forall_mem_cons.mpr ⟨g147, List.forall_mem_nil _⟩⟩
  have n8 : ∀ b : Addr, b ≠ 140 → b ≠ 147 → b ∉ [(140 : Addr), 147] := fun b h1 h2 q => by
    rcases List.mem_cons.mp q with q | q
    · exact h1 q
    · exact h2 (List.mem_singleton.mp q)
  have kg := grows_hide F7 [140, 147] gl8
  refine wpAny_AD 600 rfl (Nat.le_of_ble_eq_true rfl) (Nat.le_of_ble_eq_true rfl) ?_
  refine onlyws_spec a dx (ts ++ [T2]) (ws ++ [y]) (n + 1 + 1) nd t0 u0 op3 op2 ps3 ps2 ((B.at F7).hide [140, 147] gl8) (hW _ kg (hideAll_get _ (N7.get (.tail _ (.tail _ (.tail _ (.tail _ (.tail _ (.head _))))))) (n8 _ hT140 hT147))) (hideAll_get _ (N7.get (.head _)) (n8 _ h140a h147a)) (hideAll_get _ (N7.get (.tail _ (.head _))) (n8 _ hdx140 hdx147)) (List.forall_mem_cons.mpr ⟨⟨N7.get (.tail _ (.tail _ (.tail _ (.head _)))), hideAll_none _ (.head _)⟩, List.forall_mem_cons.mpr ⟨⟨N7.get (.tail _ (.tail _ (.tail _ (.tail _ (.head _))))), hideAll_none _ (.tail _ (.head _))⟩, List.forall_mem_nil _⟩⟩) j2 j3 hop2 ht2 (Nat.lt_trans h147 F7.ns.lt) G7 (by omega) hwl hpos fun h8 gs8 tk8 G8 k8 TI8 TI8' => ?_
  obtain ⟨op8, ps8, i1, i2, i3⟩ := TI8
  obtain ⟨op9, ps9, l1, l2, l3⟩ := TI8'
  have hL8 : s.heap.objs.size ∉ [(140 : Addr), 147] := n8 _ (Nat.ne_of_gt h140) (Nat.ne_of_gt h147)
  have F8 := fr_hid F7 [140, 147] hL8 gl8 k8
  have N8 : News g s.heap.objs.size h8 [(a, accObj dx ((ts ++ [T2]).map Value.ref).toArray (n + 1 + 1)), (dx, accDict w t0 u0 nd), (lr, W.listOf rv nn), ((140 : Addr), op8), ((147 : Addr), op9), (T2, { cls := .type "tuple", data := .seq #[.str (Str.ofString "") tu, .str y tv] })] :=
    List.forall_mem_cons.mpr ⟨news_hid N7 [140, 147] k8 (.head _) (n8 _ h140a h147a), List.forall_mem_cons.mpr ⟨news_hid N7 [140, 147] k8 (.tail _ (.head _)) (n8 _ hdx140 hdx147), List.forall_mem_cons.mpr ⟨news_hid N7 [140, 147] k8 (.tail _ (.tail _ (.head _))) (n8 _ hlr140 hlr147), List.forall_mem_cons.mpr ⟨⟨i1, Nat.ne_of_lt h140, g140⟩, List.forall_mem_cons.mpr ⟨⟨l1, Nat.ne_of_lt h147, g147⟩, List.forall_mem_cons.mpr ⟨news_hid N7 [140, 147] k8 (.tail _ (.tail _ (.tail _ (.tail _ (.tail _ (.head _)))))) (n8 _ hT140 hT147), List.forall_mem_nil _⟩⟩⟩⟩⟩⟩
  clear F7 N7 k8 kg j1 j2 j3 hop2 ht2 G7
  rw [hsp]
  k_steps
  refine Stop.intro ?_
  have gl2 : ∀ b ∈ [(147 : Addr)], g.get? b = none := fun b hb => by rw [List.mem_singleton.mp hb]; exact g147
  have n147 : ∀ b : Addr, b ≠ 147 → b ∉ [(147 : Addr)] := fun b hb q => hb (List.mem_singleton.mp q)
  have kg := grows_hide F8 [147] gl2
  refine wpAny_AD 700 rfl (Nat.le_of_ble_eq_true rfl) (Nat.le_of_ble_eq_true rfl) ?_
  refine str_spec a dx (ts ++ [T2]) (ws ++ [y]) (n + 1 + 1) nd t0 u0 op9 ps9 ((B.at F8).hide [147] gl2) (hW _ kg (hideAll_get _ (N8.get (.tail _ (.tail _ (.tail _ (.tail _ (.tail _ (.head _))))))) (n147 _ hT147))) (hideAll_get _ (N8.get (.head _)) (n147 _ h147a)) (hideAll_get _ (N8.get (.tail _ (.head _))) (n147 _ hdx147)) (List.forall_mem_cons.mpr ⟨⟨N8.get (.tail _ (.tail _ (.tail _ (.tail _ (.head _))))), hideAll_none _ (.head _)⟩, List.forall_mem_nil _⟩) l2 l3 (Nat.lt_trans h147 F8.ns.lt) G8 (by omega) hwl fun t10 h10 gs10 tk10 G10 k10 TI10 => ?_
  show StrBack _ _ _
  dsimp only [StrBack]
  obtain ⟨op10, ps10, q1, q2, q3⟩ := TI10
  have F10 := fr_hid F8 [147] (fun q => Nat.ne_of_gt h147 (List.mem_singleton.mp q)) gl2 k10
  have N10 : News g s.heap.objs.size h10 [(a, accObj dx ((ts ++ [T2]).map Value.ref).toArray (n + 1 + 1)), (dx, accDict w t0 u0 nd), (lr, W.listOf rv nn), ((140 : Addr), op8), ((147 : Addr), op10), (T2, { cls := .type "tuple", data := .seq #[.str (Str.ofString "") tu, .str y tv] })] :=
    List.forall_mem_cons.mpr ⟨news_hid N8 [147] k10 (.head _) (n147 _ h147a), List.forall_mem_cons.mpr ⟨news_hid N8 [147] k10 (.tail _ (.head _)) (n147 _ hdx147), List.forall_mem_cons.mpr ⟨news_hid N8 [147] k10 (.tail _ (.tail _ (.head _))) (n147 _ hlr147), List.forall_mem_cons.mpr ⟨news_hid N8 [147] k10 (.tail _ (.tail _ (.tail _ (.head _)))) (n147 _ (by show (140 : Nat) ≠ 147; decide)), List.forall_mem_cons.mpr ⟨⟨q1, Nat.ne_of_lt h147, g147⟩, List.forall_mem_cons.mpr ⟨news_hid N8 [147] k10 (.tail _ (.tail _ (.tail _ (.tail _ (.tail _ (.head _)))))) (n147 _ hT147), List.forall_mem_nil _⟩⟩⟩⟩⟩⟩
  clear F8 N8 k10 kg l1 l2 l3 G8
  k_steps
  refine Stop.intro ?_
  refine append_K F10 N10 (Upd.tail hal (Upd.tail hdlr (Upd.head (List.forall_mem_cons.mpr ⟨hlr140.symm, List.forall_mem_cons.mpr ⟨hlr147.symm, List.forall_mem_cons.mpr ⟨hTlr, List.forall_mem_nil _⟩⟩⟩)))) (fun h11 F11 N11 => ?_) (by rw [sizeLine_eq]; omega)
  clear F10 N10
  k_steps
  refine Stop.intro ?_
  refine acc_method (X.keeps F11.keep) (N11.get (.head _)) (N11.get (.tail _ (.head _))) (f := .ref 160) (tf := .type "function") (by k_is) (looks_typeIn (X.keeps F11.keep) (by k_is)) (by decide) rfl ?_
  k_steps
  refine Stop.intro ?_
  refine wpAny_AD 700 rfl (Nat.le_of_ble_eq_true rfl) (Nat.le_of_ble_eq_true rfl) ?_
  have gl3 : ∀ b ∈ [a, dx], g.get? b = none := List.forall_mem_cons.mpr ⟨ga, List.forall_mem_cons.mpr ⟨gdx, List.forall_mem_nil _⟩⟩
  have nl3 : ∀ b : Addr, b ≠ a → b ≠ dx → b ∉ [a, dx] := fun b h1 h2 q => by
    rcases List.mem_cons.mp q with q | q
    · exact h1 q
    · exact h2 (List.mem_singleton.mp q)
  refine reset0_spec a dx ((ts ++ [T2]).map Value.ref).toArray (n + 1 + 1) nd t0 u0 ((B.at F11).hide [a, dx] gl3) (List.forall_mem_cons.mpr ⟨⟨N11.get (.head _), hideAll_none _ (.head _)⟩, List.forall_mem_cons.mpr ⟨⟨N11.get (.tail _ (.head _)), hideAll_none _ (.tail _ (.head _))⟩, List.forall_mem_nil _⟩⟩) (by rw [List.size_toArray, List.length_map, List.length_append, hlen1]; simp; omega) fun h12 tk12 n12 u12 k12 ha12 hd12 => ?_
  have F12 := fr_hid F11 [a, dx] (nl3 _ haL.symm hdL.symm) gl3 k12
  have g12 : Grows g h12 := F12.keep
  have lr12 := k12 _ _ (hideAll_get _ (N11.get (.tail _ (.tail _ (.head _)))) (nl3 _ hal.symm hdlr.symm))
  have t140 := k12 _ _ (hideAll_get _ (N11.get (.tail _ (.tail _ (.tail _ (.head _))))) (nl3 _ h140a.symm hdx140.symm))
  have t147 := k12 _ _ (hideAll_get _ (N11.get (.tail _ (.tail _ (.tail _ (.tail _ (.head _)))))) (nl3 _ h147a.symm hdx147.symm))
  clear F11 N11 k12
  k_steps
  exact hret h12 gs10 _ n12 u12 _ _ G10 g12 ha12 hd12 lr12 (by rw [Array.toList_push]; exact strs_snoc hrv _ _) ⟨_, _, t140, i2, i3⟩ ⟨_, _, t147, q2, q3⟩
end
end Mine

-- FmF
namespace Mine
open PySem PySem.W PyProof.Rows PySem.Spec PySem.Calls
set_option maxRecDepth 100000
set_option maxHeartbeats 1000000
set_option pp.deepTerms false
set_option pp.deepTerms.threshold 8
set_option pp.fieldNotation false
noncomputable section
local macro_rules | `(tactic| walk_at "m_enterGc") => `(tactic| (refine' enterPc ?X ?lim ?g ?gs ?M ?room ?ho ?hcd ?bind ?loc ?_ ?c1 ?c2 ?c3 ?c4; (case X => exact Base.X (by with_reducible assumption)); (case lim => exact TopRead.nolimit (Base.T (by with_reducible assumption))); (case g => exact Base.grows (by with_reducible assumption)); (case gs => exact Base.size (by with_reducible assumption)); (case M => with_reducible assumption); (case room => decide); (case ho => k_is); (case hcd => k_is); (case bind => first | exact BindsTo.of_eq rfl | exact binds_K (Frag.In.keeps (Base.X (by with_reducible assumption)) (Base.grows (by with_reducible assumption))) rfl (by k_is) rfl rfl rfl); (case loc => exact locs rfl); (case c1 => exact rfl); (case c2 => exact rfl); (case c3 => exact rfl); (case c4 => decide); k_whole; intro h' F' N'; (try dsimp only); (try k_fold)))
local macro_rules | `(tactic| walk_at "eval Name") => `(tactic| ((with_reducible show wpAny _ _ (eval _ (genEnv _ _ _ _ _ _)) _ _ _); k_dflt (first
  | (refine' nm_L rfl rfl rfl ?hn ?hv ?_; (case hn => (try dsimp only [genEnv]); with_reducible assumption); (case hv => with_reducible assumption); k_whole)
  | (refine' nm_G rfl rfl rfl ?X ?T ?e ?_; (case X => with_reducible assumption); (case T => with_reducible assumption); (case e => k_is); k_whole)
  | (refine' nm_B rfl rfl rfl rfl ?X ?T ?e ?v ?n ?_; (case X => with_reducible assumption); (case T => with_reducible assumption); (case e => k_is); (case v => boot_fast); (case n => decide); k_whole))))

local macro_rules | `(tactic| walk_at "call ref") => `(tactic| ((with_reducible show wpAny _ _ (call (Value.ref _) _) _ _ _); refine halt ?_))
theorem fmtnew_spec {w : World} {mg mb : Str → Option Value} {s : Shared} {Q E : Value → Shared → Prop} {g : Heap} (e : Int) (q1 q2 q3 q4 : Tok)
  (B : Base w mg mb g s.heap) (h178 : 178 < s.heap.objs.size)
  (hret : ∀ fo fdx lr a dx h' tk' k1 k2 k3 k4 k5 k6 v1 v2 v3 v4 nf nd t0 u0, Grows g h' → h'.get? fo = some (instObj 94 fdx) → h'.get? fdx = some (fmtDict w e lr a k1 k2 k3 k4 k5 k6 v1 v2 v3 v4 nf) → h'.get? lr = some (W.listOf #[] 0) →
    h'.get? a = some (accObj dx #[] 0) → h'.get? dx = some (accDict w t0 u0 nd) → a ≠ dx → 178 < a → (∀ b ∈ [fo, fdx, lr, a, dx], g.get? b = none) → Q (.ref fo) { s with heap := h', toks := tk' }) :
  wpAny (model PP w) (AD 400) (call (.ref 94) [.int 0 q1, .int e q2, .str (Str.ofString "") q3, .str (Str.ofString ";") q4]) Q E s := by
  have X := B.X
  have T := B.T
  refine wpAny_call ?_
  obtain ⟨hh, gg, dd, tt, oo⟩ := s
  have Xh := X.keeps B.grows
  refine make_core (init := .ref 35) (makes_of Xh (by k_is)) (looks_findIn Xh (by k_is)) (fun self => bind_fn Xh self (by k_is)) (.inl rfl) ?_
  have k : Grows hh ((hh.push emptyDict).push (instObj 94 hh.objs.size)) := fun b o e => Heap.get?_push_of_some _ (Heap.get?_push_of_some _ e)
  have hx : ((hh.push emptyDict).push (instObj 94 hh.objs.size)).get? (hh.objs.size + 1) = some (instObj 94 hh.objs.size) := by heap_get
  have hd : ((hh.push emptyDict).push (instObj 94 hh.objs.size)).get? hh.objs.size = some emptyDict := by heap_get
  have fresh : ∀ b, hh.objs.size ≤ b → g.get? b = none := fun b hb => Heap.get?_none_of_le (Nat.le_trans B.size hb)
  have B2 : Base w mg mb g ((hh.push emptyDict).push (instObj 94 hh.objs.size)) := ⟨B.X, B.T, fun b o e => k _ _ (B.grows _ _ e), by rw [Heap.size_push, Heap.size_push]; exact Nat.le_trans B.size (by dsimp only; omega), B.main⟩
  have M : ∀ p ∈ [(hh.objs.size + 1, instObj 94 hh.objs.size), (hh.objs.size, dictOf [] 0)], ((hh.push emptyDict).push (instObj 94 hh.objs.size)).get? p.1 = some p.2 ∧ g.get? p.1 = none :=
    List.forall_mem_cons.mpr ⟨⟨hx, fresh _ (Nat.le_succ _)⟩, List.forall_mem_cons.mpr ⟨⟨hd, fresh _ (Nat.le_refl _)⟩, List.forall_mem_nil _⟩⟩
  have hsz2 : ((hh.push emptyDict).push (instObj 94 hh.objs.size)).objs.size = hh.objs.size + 2 := by rw [Heap.size_push, Heap.size_push]
  refine codeAny_mono (R := fun r s' => match r with | .ok (.ret v) => v = .none ∧ Q (.ref (hh.objs.size + 1)) s' | .ok _ => False | .error e => False) ?_ (fun r s' z => ?_)
  · refine codeAny_AD 500 rfl (Nat.le_of_ble_eq_true rfl) (Nat.le_of_ble_eq_true rfl) ?_
    generalize Heap.push (Heap.push hh emptyDict) (instObj 94 (hh.objs.size)) = h1 at *
    have hs1 : hh.objs.size < hh.objs.size + 1 := Nat.lt_succ_self _
    generalize hz : hh.objs.size + 1 = x1 at *
    generalize hh.objs.size = x0 at *
    k_dflt walk_at "m_enterGc"
    k_steps
    refine Stop.intro ?_
    (with_reducible rename Fr _ _ _ _ => F)
    (with_reducible rename News _ _ _ _ => N)
    refine wpAny_AD 700 rfl (Nat.le_of_ble_eq_true rfl) (Nat.le_of_ble_eq_true rfl) ?_
    have hlt := F.ns.lt
    have hb178 : 178 < h1.objs.size := by omega
    refine accnew_spec q1 (B.up F.keep) (Nat.lt_trans hb178 hlt) fun a dx h3 tk3 t0 nd k3 ha hd2 hadx ha178 hza hzd => ?_
    have F3 := F.keeps k3
    have hsz : h1.objs.size ≤ _ := Nat.le_of_lt hlt
    have ga : g.get? a = none := Heap.get?_none_of_le (Nat.le_trans B2.size (Nat.le_trans hsz hza))
    have gd : g.get? dx = none := Heap.get?_none_of_le (Nat.le_trans B2.size (Nat.le_trans hsz hzd))
    have h0a : x0 < a := Nat.lt_of_lt_of_le (Heap.lt_size (N.get (.tail _ (.tail _ (.head _))))) hza
    have h0d : x0 < dx := Nat.lt_of_lt_of_le (Heap.lt_size (N.get (.tail _ (.tail _ (.head _))))) hzd
    have h1a : x1 < a := Nat.lt_of_lt_of_le (Heap.lt_size (N.get (.tail _ (.head _)))) hza
    have h1d : x1 < dx := Nat.lt_of_lt_of_le (Heap.lt_size (N.get (.tail _ (.head _)))) hzd
    have hLa : h1.objs.size < a := Nat.lt_of_lt_of_le hlt hza
    have hLd : h1.objs.size < dx := Nat.lt_of_lt_of_le hlt hzd
    have N3 : News g h1.objs.size h3 [_, _, _, (a, accObj dx #[] 0), (dx, accDict w t0 q1 nd)] :=
      List.forall_mem_cons.mpr ⟨N.grown k3 _ (.head _), List.forall_mem_cons.mpr ⟨N.grown k3 _ (.tail _ (.head _)), List.forall_mem_cons.mpr ⟨N.grown k3 _ (.tail _ (.tail _ (.head _))), List.forall_mem_cons.mpr ⟨⟨ha, Nat.ne_of_gt hLa, ga⟩, List.forall_mem_cons.mpr ⟨⟨hd2, Nat.ne_of_gt hLd, gd⟩, List.forall_mem_nil _⟩⟩⟩⟩⟩
    clear F N k3 ha hd2
    k_steps
    (with_reducible rename Fr _ _ _ _ => F)
    (with_reducible rename News _ _ _ _ => N)
    exact hret x1 x0 _ a dx _ _ _ _ _ _ _ _ _ _ _ _ _ _ _ _ F.keep (N.get (.tail _ (.head _))) (N.get (.tail _ (.tail _ (.head _)))) (N.get (.head _)) (N.get (.tail _ (.tail _ (.tail _ (.head _))))) (N.get (.tail _ (.tail _ (.tail _ (.tail _ (.head _)))))) hadx (Nat.lt_trans hb178 hLa)
      (List.forall_mem_cons.mpr ⟨(N _ (.tail _ (.head _))).2.2, List.forall_mem_cons.mpr ⟨(N _ (.tail _ (.tail _ (.head _)))).2.2, List.forall_mem_cons.mpr ⟨(N _ (.head _)).2.2, List.forall_mem_cons.mpr ⟨ga, List.forall_mem_cons.mpr ⟨gd, List.forall_mem_nil _⟩⟩⟩⟩⟩)
  · rcases r with e | (v | _ | _ | _) <;> first | exact z | exact z.elim
end
end Mine

-- FmG
namespace Mine
open PySem PySem.W PyProof.Rows PySem.Spec PySem.Calls
set_option maxRecDepth 100000
set_option maxHeartbeats 1000000
set_option pp.deepTerms false
set_option pp.deepTerms.threshold 8
set_option pp.fieldNotation false
noncomputable section
local macro_rules | `(tactic| walk_at "m_enterG") => `(tactic| (refine' enterP ?X ?lim ?g ?gs ?M ?room ?ho ?hcd ?bind ?loc ?_ ?c1 ?c2 ?c3 ?c4; (case X => exact Base.X (by with_reducible assumption)); (case lim => exact TopRead.nolimit (Base.T (by with_reducible assumption))); (case g => exact Base.grows (by with_reducible assumption)); (case gs => exact Base.size (by with_reducible assumption)); (case M => with_reducible assumption); (case room => decide); (case ho => k_is); (case hcd => k_is); (case bind => first | exact BindsTo.of_eq rfl | exact binds_K (Frag.In.keeps (Base.X (by with_reducible assumption)) (Base.grows (by with_reducible assumption))) rfl (by k_is) rfl rfl rfl); (case loc => exact locs rfl); (case c1 => exact rfl); (case c2 => exact rfl); (case c3 => exact rfl); (case c4 => decide); k_whole; intro h' F' N'; (try dsimp only); (try k_fold)))
local macro_rules | `(tactic| walk_at "eval Name") => `(tactic| ((with_reducible show wpAny _ _ (eval _ (genEnv _ _ _ _ _ _)) _ _ _); k_dflt (first
  | (refine' nm_L rfl rfl rfl ?hn ?hv ?_; (case hn => (try dsimp only [genEnv]); with_reducible assumption); (case hv => with_reducible assumption); k_whole)
  | (refine' nm_G rfl rfl rfl ?X ?T ?e ?_; (case X => with_reducible assumption); (case T => with_reducible assumption); (case e => k_is); k_whole)
  | (refine' nm_B rfl rfl rfl rfl ?X ?T ?e ?v ?n ?_; (case X => with_reducible assumption); (case T => with_reducible assumption); (case e => k_is); (case v => boot_fast); (case n => decide); k_whole))))
local macro_rules | `(tactic| k_inst) => `(tactic| first
  | (refine' Mine.InstAt.fmt ?h1 ?h2; (case h1 => exact Fr.keep (by with_reducible assumption) _ _ (by with_reducible assumption)); (case h2 => exact Fr.keep (by with_reducible assumption) _ _ (by with_reducible assumption)))
  | (refine' Mine.InstAt.acc ?h1 ?h2; (case h1 => exact News.get (by k_asm) (by k_mem)); (case h2 => exact News.get (by k_asm) (by k_mem))))



local macro_rules | `(tactic| walk_at "m_enterS") => `(tactic| (refine' enterS ?X ?lim ?g ?gs ?M ?room ?ho ?hcd ?bind ?loc ?_ ?c4 ?c1 ?c2 ?c3; (case X => exact Base.X (by with_reducible assumption)); (case lim => exact TopRead.nolimit (Base.T (by with_reducible assumption))); (case g => exact Base.grows (by with_reducible assumption)); (case gs => exact Base.size (by with_reducible assumption)); (case M => with_reducible assumption); (case room => decide); (case ho => k_is); (case hcd => k_is); (case bind => first | exact BindsTo.of_eq rfl | exact binds_K (Frag.In.keeps (Base.X (by with_reducible assumption)) (Base.grows (by with_reducible assumption))) rfl (by k_is) rfl rfl rfl); (case loc => exact locs rfl); (case c1 => exact rfl); (case c2 => exact rfl); (case c3 => exact rfl); (case c4 => decide); k_whole; intro h' F' N'; (try dsimp only); (try k_fold)))







local macro_rules | `(tactic| walk_at "getMethod ref") => `(tactic| ((first | (with_reducible show wpAny _ _ (getMethod _ (Str.ofString "push") _) _ _ _) | (with_reducible show wpAny _ _ (getMethod _ (Str.ofString "pop") _) _ _ _) | (with_reducible show wpAny _ _ (getMethod _ (Str.ofString "part_count") _) _ _ _) | (with_reducible show wpAny _ _ (getMethod _ (Str.ofString "pop_from") _) _ _ _) | (with_reducible show wpAny _ _ (getMethod _ (Str.ofString "reset") _) _ _ _) | (with_reducible show wpAny _ _ (getMethod _ (Str.ofString "is_onlyws") _) _ _ _)); refine halt ?_))
local macro_rules | `(tactic| walk_at "call builtin:list.append") => `(tactic| (refine halt ?_))
local macro_rules | `(tactic| walk_at "call ref") => `(tactic| ((with_reducible show wpAny _ _ (call (Value.ref _) _) _ _ _); refine halt ?_))
local macro_rules | `(tactic| walk_at "subscriptTail") => `(tactic| ((with_reducible show wpAny _ _ (subscriptTail _ _ (Value.str _ _) (Value.int _ _)) _ _ _); refine halt ?_))
local macro_rules | `(tactic| walk_at "subscriptTail") => `(tactic| ((with_reducible show wpAny _ _ (subscriptTail _ _ (Value.ref _) (Value.int _ _)) _ _ _); refine halt ?_))

local macro_rules | `(tactic| walk_at "getAttr ref") => `(tactic| ((with_reducible show wpAny _ _ (getAttr (Value.ref _) (Str.ofString "push") _) _ _ _); refine halt ?_))
theorem strall_spec {w : World} {mg mb : Str → Option Value} {s : Shared} {Q E : Value → Shared → Prop} {g : Heap} (fo fdx lr a dx : Addr) (e : Int) (k1 k2 k3 k4 k5 k6 v1 v2 v3 v4 : Tok) (nf : Nat) (ts : List Addr) (ws : List Str) (Te : Addr) (y : Str) (rv : Array Value) (lines : List Str) (n nd nn : Nat) (t0 u0 : Tok) (op op2 : Obj) (ps ps2 : Array Value)
  (B : Base w mg mb g s.heap) (H : Words g (ts ++ [Te]) (ws ++ [y])) (hF : g.get? fo = some (instObj 94 fdx)) (hFd : g.get? fdx = some (fmtDict w e lr a k1 k2 k3 k4 k5 k6 v1 v2 v3 v4 nf))
  (M : ∀ p ∈ [(a, accObj dx ((ts ++ [Te]).map Value.ref).toArray n), (dx, accDict w t0 u0 nd), (lr, W.listOf rv nn), ((140 : Addr), op), ((147 : Addr), op2)], s.heap.get? p.1 = some p.2 ∧ g.get? p.1 = none) (hop : op = tabObj ps) (ht : TriplesOk ps.toList) (hop2 : op2 = tabObj ps2) (ht2 : TriplesOk ps2.toList) (h178 : 178 < s.heap.objs.size) (ha : 178 < a) (hdl : a ≠ dx)
  (G : AllBare s.gens) (hwn : ws.length ≤ 20) (hwl : ∀ x ∈ ws ++ [y], x.length ≤ 100) (ts0 : Tok) (hbig : ((lines ++ [Txt.join (Str.ofString "") (ws ++ [y])]).map (·.length)).sum + (lines ++ [Txt.join (Str.ofString "") (ws ++ [y])]).length ≤ 10000) (hpos : 0 < ((ws ++ [y]).map (·.length)).sum) (hsp : Txt.isspace (Txt.join (Str.ofString "") (ws ++ [y])) = false) (hrv : StrsAre rv.toList lines) (hrn : rv.size ≤ 100)
  (hret : ∀ h' gs' tk' t', AllBare gs' → Grows g h' → TabI 140 h' → TabI 147 h' → Q (.str (Txt.join (Str.ofString "\n") (lines ++ [Txt.join (Str.ofString "") (ws ++ [y])])) t') ⟨h', gs', s.drawn, tk', s.os⟩) :
  wpAny (model PP w) (AD 400) (call (.ref 42) [.ref fo, .str (Str.ofString "\n") ts0]) Q E s := by
  have X := B.X
  have T := B.T
  k_dflt walk_at "m_enterG"
  have ga := (M _ (.head _)).2
  have gdx := (M _ (.tail _ (.head _))).2
  have glr := (M _ (.tail _ (.tail _ (.head _)))).2
  have g140 := (M _ (.tail _ (.tail _ (.tail _ (.head _))))).2
  have g147 := (M _ (.tail _ (.tail _ (.tail _ (.tail _ (.head _)))))).2
  dsimp only at ga gdx glr g140 g147
  k_steps
  refine Stop.intro ?_
  (with_reducible rename Fr _ _ _ _ => F)
  (with_reducible rename News _ _ _ _ => N)
  have gl : ∀ b ∈ [a, dx, lr, 140, 147], g.get? b = none := List.forall_mem_cons.mpr ⟨ga, List.forall_mem_cons.mpr ⟨gdx, List.forall_mem_cons.mpr ⟨glr, List.forall_mem_cons.mpr ⟨g140, List.forall_mem_cons.mpr ⟨g147, List.forall_mem_nil _⟩⟩⟩⟩⟩
  have hL : s.heap.objs.size ∉ [a, dx, lr, 140, 147] := fun q => by
    rcases List.mem_cons.mp q with q | q
    · exact (N _ (.head _)).2.1 q.symm
    rcases List.mem_cons.mp q with q | q
    · exact (N _ (.tail _ (.head _))).2.1 q.symm
    rcases List.mem_cons.mp q with q | q
    · exact (N _ (.tail _ (.tail _ (.head _)))).2.1 q.symm
    rcases List.mem_cons.mp q with q | q
    · exact (N _ (.tail _ (.tail _ (.tail _ (.head _))))).2.1 q.symm
    · exact (N _ (.tail _ (.tail _ (.tail _ (.tail _ (.head _)))))).2.1 (List.mem_singleton.mp q).symm
  have kg := grows_hide F [a, dx, lr, 140, 147] gl
  refine wpAny_AD 500 rfl (Nat.le_of_ble_eq_true rfl) (Nat.le_of_ble_eq_true rfl) ?_
  refine newline_spec fo fdx lr a dx e k1 k2 k3 k4 k5 k6 v1 v2 v3 v4 nf ts ws Te y rv lines n nd nn t0 u0 op op2 ps ps2 ((B.at F).hide [a, dx, lr, 140, 147] gl) (H.keeps kg) (kg _ _ hF) (kg _ _ hFd) (List.forall_mem_cons.mpr ⟨⟨N.get (.head _), hideAll_none _ (.head _)⟩, List.forall_mem_cons.mpr ⟨⟨N.get (.tail _ (.head _)), hideAll_none _ (.tail _ (.head _))⟩, List.forall_mem_cons.mpr ⟨⟨N.get (.tail _ (.tail _ (.head _))), hideAll_none _ (.tail _ (.tail _ (.head _)))⟩, List.forall_mem_cons.mpr ⟨⟨N.get (.tail _ (.tail _ (.tail _ (.head _)))), hideAll_none _ (.tail _ (.tail _ (.tail _ (.head _))))⟩, List.forall_mem_cons.mpr ⟨⟨N.get (.tail _ (.tail _ (.tail _ (.tail _ (.head _))))), hideAll_none _ (.tail _ (.tail _ (.tail _ (.tail _ (.head _)))))⟩, List.forall_mem_nil _⟩⟩⟩⟩⟩) hop ht hop2 ht2 (Nat.lt_trans h178 F.ns.lt) ha hdl G hwn hwl hpos hsp hrv hrn fun h2 gs2 tk2 n2 u2 rv2 nn2 G2 k2 ha2 hd2 hl2 hr2 T1 T2 => ?_
  have F2 := fr_hid F [a, dx, lr, 140, 147] hL gl k2
  have N2 : News g s.heap.objs.size h2 [(lr, W.listOf rv2 nn2)] := List.forall_mem_cons.mpr ⟨⟨hl2, (N _ (.tail _ (.tail _ (.head _)))).2.1, glr⟩, List.forall_mem_nil _⟩
  clear F N k2 kg M ha2 hd2 hl2
  k_steps
  refine join_listW ⟨_, N2.get (.head _), rfl, _, rfl⟩ hr2 (by decide) (by omega) fun t2 tk3 => ?_
  exact hret h2 gs2 _ t2 G2 F2.keep T1 T2
end
end Mine

-- FlA
namespace Mine
open PySem PySem.W PyProof.Rows PySem.Spec PySem.Calls
set_option maxRecDepth 100000
set_option maxHeartbeats 1000000
noncomputable section
/-! floats by Nats: the same bits, made for the kernel's evaluation -/
def force {α : Type} (n : Nat) (f : Nat → α) : α := Nat.rec (f 0) (fun k _ => f (Nat.succ k)) n
theorem force_eq {α : Type} (n : Nat) (f : Nat → α) : force n f = f n := by cases n <;> rfl
theorem beqN (a b : Nat) : Nat.beq a b = (a == b) := by
  rw [Bool.eq_iff_iff, beq_iff_eq, Nat.beq_eq]
theorem bleN (a b : Nat) : Nat.ble a b = decide (a ≤ b) := by
  rw [Bool.eq_iff_iff, decide_eq_true_iff, Nat.ble_eq]
theorem bltN (a b : Nat) : Nat.ble (Nat.succ a) b = decide (a < b) := bleN _ _
def exN (n : Nat) : Nat := Nat.mod (Nat.div n 4503599627370496) 2048
def frN (n : Nat) : Nat := Nat.mod n 4503599627370496
def mtN (n : Nat) : Nat := cond (Nat.beq (exN n) 0) (frN n) (Nat.add 4503599627370496 (frN n))
def beN (n : Nat) : Nat := cond (Nat.beq (exN n) 0) 1 (exN n)
def sgN (n : Nat) : Bool := Nat.beq (Nat.div n 9223372036854775808) 1
def finN (n : Nat) : Bool := cond (Nat.beq (exN n) 2047) false true
theorem decode_fin {x : UInt64} (h : finN x.toNat = true) : Float64.decode x = .fin (sgN x.toNat) (mtN x.toNat) ((beN x.toNat : Int) - 1075) := by
  unfold finN at h
  unfold mtN beN sgN
  simp only [beqN] at h ⊢
  have e : (exN x.toNat == 2047) = false := by
    cases q : (exN x.toNat == 2047) with
    | false => rfl
    | true => rw [q] at h; cases h
  unfold Float64.decode
  show (if (exN x.toNat == 2047) = true then _ else if (exN x.toNat == 0) = true then _ else _) = _
  rw [e, if_neg (by decide)]
  cases q : (exN x.toNat == 0) with
  | true => rfl
  | false => rfl

def heN (n d : Nat) : Nat := force (Nat.div n d) fun q => force (Nat.mul 2 (Nat.mod n d)) fun r =>
  cond (Nat.ble (Nat.succ d) r) (Nat.succ q) (cond (Nat.beq r d) (cond (Nat.beq (Nat.mod q 2) 1) (Nat.succ q) q) q)
theorem heN_eq (n d : Nat) : heN n d = Float64.halfEven n d := by
  unfold heN Float64.halfEven
  simp only [force_eq, beqN, bltN]
  show cond (decide (d < 2 * (n % d))) (n / d + 1) (cond (2 * (n % d) == d) (cond ((n / d) % 2 == 1) (n / d + 1) (n / d)) (n / d)) = _
  by_cases h1 : 2 * (n % d) > d
  · have h1' : d < 2 * (n % d) := h1
    simp [h1']
  · have h1' : ¬ d < 2 * (n % d) := h1
    cases h2 : (2 * (n % d) == d) <;> cases h3 : ((n / d) % 2 == 1) <;> simp [h1', h2, h3]


theorem infMag_eq : Float64.infMag = 9218868437227405312 := by decide +kernel
theorem p52 : (2:Nat)^52 = 4503599627370496 := by decide +kernel
theorem p53 : (2:Nat)^53 = 9007199254740992 := by decide +kernel
def mnN (a : Nat) : Nat := force a fun a => cond (Nat.ble 9218868437227405312 a) 9218868437227405312 a
theorem mnN_eq (a : Nat) : mnN a = min Float64.infMag a := by
  unfold mnN
  rw [force_eq, bleN, Bool.cond_eq_ite, Nat.min_def, infMag_eq]
  simp only [decide_eq_true_eq]
def mlN (a b : Nat) : Nat := Nat.add (Nat.mul a 4503599627370496) b
theorem mlN_eq (a b : Nat) : mlN a b = a * 2 ^ 52 + b := by rw [p52]; rfl
/-- log2 by halves -/
noncomputable def lgW (n0 : Nat) : List Nat → Nat → Nat → Nat
  | [], m, acc => cond (Nat.beq m 1) acc (Nat.log2 n0)
  | k :: r, m, acc => cond (Nat.ble (Nat.pow 2 k) m) (force (Nat.div m (Nat.pow 2 k)) fun m => force (Nat.add acc k) fun acc => lgW n0 r m acc) (lgW n0 r m acc)
theorem lgW_eq (n0 : Nat) : ∀ (l : List Nat) (m acc : Nat), n0 / 2 ^ acc = m → lgW n0 l m acc = Nat.log2 n0
  | [], m, acc, h => by
    unfold lgW
    rw [beqN, Bool.cond_eq_ite]
    split
    · rename_i q
      rw [beq_iff_eq] at q
      rw [q] at h
      have hn : n0 ≠ 0 := fun z => by rw [z, Nat.zero_div] at h; cases h
      have hp : 0 < 2 ^ acc := Nat.pow_pos (by decide)
      have h1 : 2 ^ acc ≤ n0 := by
        rcases Nat.lt_or_ge n0 (2 ^ acc) with k | k
        · rw [Nat.div_eq_of_lt k] at h; cases h
        · exact k
      have h2 : n0 < 2 ^ (acc + 1) := by
        have := (Nat.div_lt_iff_lt_mul hp (x := n0) (y := 2)).mp (by omega)
        rw [Nat.pow_succ]
        omega
      exact ((Nat.log2_eq_iff hn).mpr ⟨h1, h2⟩).symm
    · rfl
  | k :: r, m, acc, h => by
    unfold lgW
    rw [Bool.cond_eq_ite]
    split
    · rw [force_eq, force_eq]
      refine lgW_eq n0 r _ _ ?_
      rw [Nat.add_eq, Nat.pow_add, ← Nat.div_div_eq_div_mul, h]
      rfl
    · exact lgW_eq n0 r m acc h
def lgN (n : Nat) : Nat := cond (Nat.ble 340282366920938463463374607431768211456 n) (lgW n [1024, 512, 256, 128, 64, 32, 16, 8, 4, 2, 1] n 0) (lgW n [64, 32, 16, 8, 4, 2, 1] n 0)
theorem lgN_eq (n : Nat) : lgN n = Nat.log2 n := by
  unfold lgN
  have h := fun l => lgW_eq n l n 0 (by rw [Nat.pow_zero, Nat.div_one])
  rw [h, h, Bool.cond_eq_ite]
  split <;> rfl
/-- roundMag by Nats -/
def rmN (n d : Nat) : Nat :=
  cond (Nat.beq n 0) 0
    (force (lgN n) fun ln => force (lgN d) fun ld =>
      cond (Nat.ble ld ln)
        (force (Nat.sub ln ld) fun l =>
          cond (Nat.ble (Nat.mul d (Nat.pow 2 l)) n)
            (cond (Nat.ble 52 l) (mnN (mlN (Nat.add (Nat.sub l 52) 1074) (heN n (Nat.mul d (Nat.pow 2 (Nat.sub l 52))))))
                (mnN (mlN (Nat.add l 1022) (heN (Nat.mul n (Nat.pow 2 (Nat.sub 52 l))) d))))
            (cond (Nat.ble 53 l) (mnN (mlN (Nat.add (Nat.sub l 53) 1074) (heN n (Nat.mul d (Nat.pow 2 (Nat.sub l 53))))))
                (mnN (mlN (Nat.add l 1021) (heN (Nat.mul n (Nat.pow 2 (Nat.sub 53 l))) d)))))
        (force (Nat.sub ld ln) fun l =>
          force (Nat.add l (cond (Nat.ble d (Nat.mul n (Nat.pow 2 l))) 52 53)) fun e =>
            cond (Nat.ble e 1074) (mnN (mlN (Nat.sub 1074 e) (heN (Nat.mul n (Nat.pow 2 e)) d)))
              (mnN (heN (Nat.mul n (Nat.pow 2 1074)) d))))
theorem shift_up (n d k : Nat) : Float64.shift n d (k : Int) = (n * 2 ^ k, d) := by
  unfold Float64.shift
  rw [if_pos (by omega)]
  simp
theorem shift_dn (n d k : Nat) : Float64.shift n d (-(k : Int)) = (n, d * 2 ^ k) := by
  unfold Float64.shift
  split
  · have : k = 0 := by omega
    subst this; simp
  · simp
theorem rm_at (n d : Nat) (hn : (n == 0) = false) {a b : Nat} {l e : Int} (h1 : ((Nat.log2 n : Int) - (Nat.log2 d : Int)) = l) (h2 : Float64.shift n d (-l) = (a, b)) (h3 : max (if a ≥ b then l - 52 else l - 53) (-1074) = e) {a' b' : Nat} (h4 : Float64.shift n d (-e) = (a', b')) {k : Nat} (h5 : (e + 1074).toNat = k) :
    Float64.roundMag n d = min Float64.infMag (k * 2 ^ 52 + Float64.halfEven a' b') := by
  unfold Float64.roundMag
  rw [hn, if_neg (by decide)]
  simp only [h1, h2, h3, h4, h5]
theorem rmN_eq (n d : Nat) : rmN n d = Float64.roundMag n d := by
  unfold rmN
  simp only [force_eq, lgN_eq, beqN, bleN, mnN_eq, heN_eq, mlN_eq, Bool.cond_eq_ite, decide_eq_true_eq, Nat.add_eq, Nat.sub_eq, Nat.mul_eq, Nat.pow_eq]
  cases q : n == 0 with
  | true =>
    rw [if_pos rfl]
    unfold Float64.roundMag
    rw [q, if_pos rfl]
  | false =>
    rw [if_neg (by decide)]
    by_cases h1 : Nat.log2 d ≤ Nat.log2 n
    · rw [if_pos h1]
      have hl : ((Nat.log2 n : Int) - (Nat.log2 d : Int)) = ((Nat.log2 n - Nat.log2 d : Nat) : Int) := by omega
      generalize Nat.log2 n - Nat.log2 d = l at *
      by_cases h2 : d * 2 ^ l ≤ n
      · rw [if_pos h2]
        by_cases h3 : 52 ≤ l
        · rw [if_pos h3]
          exact (rm_at n d q hl (shift_dn n d l) (e := ((l - 52 : Nat) : Int)) (by rw [if_pos h2]; omega) (shift_dn n d (l - 52)) (by omega)).symm
        · rw [if_neg h3]
          exact (rm_at n d q hl (shift_dn n d l) (e := -((52 - l : Nat) : Int)) (by rw [if_pos h2]; omega) (by rw [Int.neg_neg]; exact shift_up n d (52 - l)) (by omega)).symm
      · rw [if_neg h2]
        by_cases h3 : 53 ≤ l
        · rw [if_pos h3]
          exact (rm_at n d q hl (shift_dn n d l) (e := ((l - 53 : Nat) : Int)) (by rw [if_neg h2]; omega) (shift_dn n d (l - 53)) (by omega)).symm
        · rw [if_neg h3]
          exact (rm_at n d q hl (shift_dn n d l) (e := -((53 - l : Nat) : Int)) (by rw [if_neg h2]; omega) (by rw [Int.neg_neg]; exact shift_up n d (53 - l)) (by omega)).symm
    · rw [if_neg h1]
      have hl : ((Nat.log2 n : Int) - (Nat.log2 d : Int)) = -((Nat.log2 d - Nat.log2 n : Nat) : Int) := by omega
      have hl0 : 0 < Nat.log2 d - Nat.log2 n := by omega
      generalize Nat.log2 d - Nat.log2 n = l at *
      have hs : Float64.shift n d (-(-(l : Int))) = (n * 2 ^ l, d) := by rw [Int.neg_neg]; exact shift_up n d l
      by_cases h2 : d ≤ n * 2 ^ l
      · rw [if_pos h2]
        by_cases h3 : l + 52 ≤ 1074
        · rw [if_pos h3]
          exact (rm_at n d q hl hs (e := -((l + 52 : Nat) : Int)) (by rw [if_pos h2]; omega) (by rw [Int.neg_neg]; exact shift_up n d (l + 52)) (by omega)).symm
        · rw [if_neg h3]
          rw [rm_at n d q hl hs (e := -((1074 : Nat) : Int)) (by rw [if_pos h2]; omega) (a' := n * 2 ^ 1074) (b' := d) (by rw [Int.neg_neg]; exact shift_up n d 1074) (k := 0) rfl, Nat.zero_mul, Nat.zero_add]
      · rw [if_neg h2]
        by_cases h3 : l + 53 ≤ 1074
        · rw [if_pos h3]
          exact (rm_at n d q hl hs (e := -((l + 53 : Nat) : Int)) (by rw [if_neg h2]; omega) (by rw [Int.neg_neg]; exact shift_up n d (l + 53)) (by omega)).symm
        · rw [if_neg h3]
          rw [rm_at n d q hl hs (e := -((1074 : Nat) : Int)) (by rw [if_neg h2]; omega) (a' := n * 2 ^ 1074) (b' := d) (by rw [Int.neg_neg]; exact shift_up n d 1074) (k := 0) rfl, Nat.zero_mul, Nat.zero_add]

/-! the operations -/
def pkN (s : Bool) (m : Nat) : Nat := cond s (Nat.mod (Nat.add 9223372036854775808 m) 18446744073709551616) (Nat.mod m 18446744073709551616)
theorem pkN_eq (s : Bool) (m : Nat) : (Float64.pack s m).toNat = pkN s m := by
  unfold Float64.pack pkN
  cases s with
  | true =>
    rw [if_pos rfl, UInt64.toNat_ofNat']
    rfl
  | false =>
    rw [if_neg (by decide), UInt64.toNat_ofNat', Nat.zero_add]
    rfl
/-- m by 2 to b less 2150 -/
def bnN (s : Bool) (m b : Nat) : Nat := cond (Nat.ble 2150 b) (pkN s (rmN (Nat.mul m (Nat.pow 2 (Nat.sub b 2150))) 1)) (pkN s (rmN m (Nat.pow 2 (Nat.sub 2150 b))))
theorem bnN_eq (s : Bool) (m b : Nat) {e : Int} (h : e = (b : Int) - 2150) : (Float64.ofBin s m e).toNat = bnN s m b := by
  unfold Float64.ofBin bnN Float64.ofFrac
  rw [bleN, Bool.cond_eq_ite]
  by_cases c : 2150 ≤ b
  · have : e = ((b - 2150 : Nat) : Int) := by omega
    rw [this, shift_up]
    simp only [c, decide_true, if_true, pkN_eq, ← rmN_eq]
    rfl
  · have : e = -((2150 - b : Nat) : Int) := by omega
    rw [this, shift_dn]
    simp only [c, decide_false, Bool.false_eq_true, if_false, pkN_eq, ← rmN_eq, Nat.one_mul]
    rfl
def slow1 (f : UInt64 → UInt64 → UInt64) (n m : Nat) : Nat := (f n.toUInt64 m.toUInt64).toNat
theorem slow1_eq (f : UInt64 → UInt64 → UInt64) (x y : UInt64) : slow1 f x.toNat y.toNat = (f x y).toNat := by
  unfold slow1
  rw [show x.toNat.toUInt64 = x from UInt64.ofNat_toNat, show y.toNat.toUInt64 = y from UInt64.ofNat_toNat]
def mulN (n m : Nat) : Nat := cond (finN n) (cond (finN m) (bnN (xor (sgN n) (sgN m)) (Nat.mul (mtN n) (mtN m)) (Nat.add (beN n) (beN m))) (slow1 Float64.mul n m)) (slow1 Float64.mul n m)
theorem xor_bne (a b : Bool) : (a != b) = xor a b := by cases a <;> cases b <;> rfl
theorem mulN_eq (x y : UInt64) : (Float64.mul x y).toNat = mulN x.toNat y.toNat := by
  unfold mulN
  cases h1 : finN x.toNat with
  | false => exact (slow1_eq ..).symm
  | true =>
    cases h2 : finN y.toNat with
    | false => exact (slow1_eq ..).symm
    | true =>
      unfold Float64.mul
      rw [decode_fin h1, decode_fin h2]
      dsimp only
      rw [xor_bne]
      exact bnN_eq _ _ _ (by show _ = ((beN x.toNat + beN y.toNat : Nat) : Int) - 2150; omega)
/-- the sum of two with their signs, by 2 to g less 1075 -/
def smN (a : Bool) (p : Nat) (b : Bool) (q : Nat) (g : Nat) : Nat :=
  cond (xor a b) (cond (Nat.beq p q) 0 (cond (Nat.ble p q) (bnN b (Nat.sub q p) (Nat.add g 1075)) (bnN a (Nat.sub p q) (Nat.add g 1075))))
    (cond (Nat.beq (Nat.add p q) 0) (pkN a 0) (bnN a (Nat.add p q) (Nat.add g 1075)))
theorem smN_eq (a : Bool) (p : Nat) (b : Bool) (q g : Nat) {e : Int} (h : e = (g : Int) - 1075) :
    ((if (Float64.sgn a p + Float64.sgn b q == 0) = true then Float64.zero (a && b) else Float64.ofBin (decide (Float64.sgn a p + Float64.sgn b q < 0)) (Float64.sgn a p + Float64.sgn b q).natAbs e)).toNat = smN a p b q g := by
  have hb : ∀ s m, (Float64.ofBin s m e).toNat = bnN s m (g + 1075) := fun s m => bnN_eq s m _ (by omega)
  unfold smN Float64.zero
  simp only [beqN, bleN, Nat.add_eq, Nat.sub_eq, Bool.cond_eq_ite, decide_eq_true_eq, beq_iff_eq]
  cases a <;> cases b <;> simp only [Float64.sgn, if_true, if_false, Bool.false_eq_true, Bool.xor_false, Bool.xor_true, Bool.not_false, Bool.not_true, Bool.and_false, Bool.and_true]
  · by_cases c : p + q = 0
    · rw [if_pos (by omega), if_pos c, pkN_eq]
    · rw [if_neg (by omega), if_neg c, hb]
      rw [show decide (((p : Int) + (q : Int)) < 0) = false from decide_eq_false (by omega), show ((p : Int) + (q : Int)).natAbs = p + q by omega]
  · by_cases c : p = q
    · rw [if_pos (by omega), if_pos c, pkN_eq]; rfl
    · rw [if_neg (by omega), if_neg c]
      by_cases d : p ≤ q
      · rw [if_pos d, hb, show decide (((p : Int) + -(q : Int)) < 0) = true from decide_eq_true (by omega), show ((p : Int) + -(q : Int)).natAbs = q - p by omega]
      · rw [if_neg d, hb, show decide (((p : Int) + -(q : Int)) < 0) = false from decide_eq_false (by omega), show ((p : Int) + -(q : Int)).natAbs = p - q by omega]
  · by_cases c : p = q
    · rw [if_pos (by omega), if_pos c, pkN_eq]; rfl
    · rw [if_neg (by omega), if_neg c]
      by_cases d : p ≤ q
      · rw [if_pos d, hb, show decide ((-(p : Int) + (q : Int)) < 0) = false from decide_eq_false (by omega), show (-(p : Int) + (q : Int)).natAbs = q - p by omega]
      · rw [if_neg d, hb, show decide ((-(p : Int) + (q : Int)) < 0) = true from decide_eq_true (by omega), show (-(p : Int) + (q : Int)).natAbs = p - q by omega]
  · by_cases c : p + q = 0
    · rw [if_pos (by omega), if_pos c, pkN_eq]
    · rw [if_neg (by omega), if_neg c, hb]
      rw [show decide ((-(p : Int) + -(q : Int)) < 0) = true from decide_eq_true (by omega), show (-(p : Int) + -(q : Int)).natAbs = p + q by omega]
/-- two numbers brought to one exponent -/
def alN {α : Type} (n m : Nat) (f : Nat → Nat → Nat → α) : α :=
  force (beN n) fun e1 => force (beN m) fun e2 =>
    cond (Nat.ble e1 e2) (force (mtN n) fun p => force (Nat.mul (mtN m) (Nat.pow 2 (Nat.sub e2 e1))) fun q => f p q e1)
      (force (Nat.mul (mtN n) (Nat.pow 2 (Nat.sub e1 e2))) fun p => force (mtN m) fun q => f p q e2)
theorem alN_eq {α : Type} (n m : Nat) (f : Nat → Nat → Nat → α) : ∃ p q g, alN n m f = f p q g ∧ ∀ a b, Float64.align a (mtN n) ((beN n : Int) - 1075) b (mtN m) ((beN m : Int) - 1075) = (Float64.sgn a p, Float64.sgn b q, (g : Int) - 1075) := by
  unfold alN Float64.align
  simp only [force_eq, bleN, Bool.cond_eq_ite, decide_eq_true_eq, Nat.mul_eq, Nat.pow_eq, Nat.sub_eq]
  generalize mtN n = M
  generalize mtN m = K
  generalize beN n = e1
  generalize beN m = e2
  by_cases c : e1 ≤ e2
  · rw [if_pos c]
    refine ⟨_, _, _, rfl, fun a b => ?_⟩
    rw [show min ((e1 : Int) - 1075) ((e2 : Int) - 1075) = (e1 : Int) - 1075 by omega, show ((e1 : Int) - 1075 - ((e1 : Int) - 1075)).toNat = 0 by omega, show ((e2 : Int) - 1075 - ((e1 : Int) - 1075)).toNat = e2 - e1 by omega, Nat.pow_zero, Nat.mul_one]
  · rw [if_neg c]
    refine ⟨_, _, _, rfl, fun a b => ?_⟩
    rw [show min ((e1 : Int) - 1075) ((e2 : Int) - 1075) = (e2 : Int) - 1075 by omega, show ((e2 : Int) - 1075 - ((e2 : Int) - 1075)).toNat = 0 by omega, show ((e1 : Int) - 1075 - ((e2 : Int) - 1075)).toNat = e1 - e2 by omega, Nat.pow_zero, Nat.mul_one]
def addN (n m : Nat) : Nat := cond (finN n) (cond (finN m) (alN n m fun p q g => smN (sgN n) p (sgN m) q g) (slow1 Float64.add n m)) (slow1 Float64.add n m)
theorem addN_eq (x y : UInt64) : (Float64.add x y).toNat = addN x.toNat y.toNat := by
  unfold addN
  cases h1 : finN x.toNat with
  | false => exact (slow1_eq ..).symm
  | true =>
    cases h2 : finN y.toNat with
    | false => exact (slow1_eq ..).symm
    | true =>
      unfold Float64.add
      rw [decode_fin h1, decode_fin h2]
      dsimp only [cond]
      obtain ⟨p, q, g, e1, e2⟩ := alN_eq x.toNat y.toNat fun p q g => smN (sgN x.toNat) p (sgN y.toNat) q g
      rw [e1, e2]
      exact smN_eq _ _ _ _ _ rfl
def ngN (n : Nat) : Nat := Nat.xor n 9223372036854775808
def subN (n m : Nat) : Nat := cond (finN m) (addN n (ngN m)) (slow1 Float64.sub n m)
theorem not_nan {x : UInt64} (h : finN x.toNat = true) : Float64.isNaN x = false := by
  unfold Float64.isNaN
  rw [decode_fin h]
theorem subN_eq (x y : UInt64) : (Float64.sub x y).toNat = subN x.toNat y.toNat := by
  unfold subN
  cases h2 : finN y.toNat with
  | false => exact (slow1_eq ..).symm
  | true =>
    unfold Float64.sub Float64.neg
    rw [not_nan h2, if_neg (by decide), addN_eq, UInt64.toNat_xor, show (Float64.pack true 0).toNat = 9223372036854775808 by decide +kernel]
    rfl
def divN (n m : Nat) : Nat := cond (finN n) (cond (finN m) (cond (Nat.beq (mtN m) 0) (slow1 Float64.div n m)
  (force (beN n) fun e1 => force (beN m) fun e2 => cond (Nat.ble e2 e1) (pkN (xor (sgN n) (sgN m)) (rmN (Nat.mul (mtN n) (Nat.pow 2 (Nat.sub e1 e2))) (mtN m))) (pkN (xor (sgN n) (sgN m)) (rmN (mtN n) (Nat.mul (mtN m) (Nat.pow 2 (Nat.sub e2 e1)))))))
  (slow1 Float64.div n m)) (slow1 Float64.div n m)
theorem divN_eq (x y : UInt64) : (Float64.div x y).toNat = divN x.toNat y.toNat := by
  unfold divN
  cases h1 : finN x.toNat with
  | false => exact (slow1_eq ..).symm
  | true =>
    cases h2 : finN y.toNat with
    | false => exact (slow1_eq ..).symm
    | true =>
      cases h3 : Nat.beq (mtN y.toNat) 0 with
      | true => exact (slow1_eq ..).symm
      | false =>
        unfold Float64.div Float64.ofFrac
        rw [decode_fin h1, decode_fin h2]
        rw [beqN] at h3
        simp only [Bool.cond_true, Bool.cond_false, h3, Bool.false_eq_true, if_false, force_eq, bleN, Bool.cond_eq_ite, decide_eq_true_eq, rmN_eq, Nat.mul_eq, Nat.pow_eq, Nat.sub_eq, xor_bne]
        by_cases c : beN y.toNat ≤ beN x.toNat
        · rw [if_pos c, show ((beN x.toNat : Int) - 1075 - ((beN y.toNat : Int) - 1075)) = ((beN x.toNat - beN y.toNat : Nat) : Int) by omega, shift_up]
          exact pkN_eq _ _
        · rw [if_neg c, show ((beN x.toNat : Int) - 1075 - ((beN y.toNat : Int) - 1075)) = -((beN y.toNat - beN x.toNat : Nat) : Int) by omega, shift_dn]
          exact pkN_eq _ _

/-- sign of the difference: 0 less, 1 equal, 2 greater -/
def cpN (a : Bool) (p : Nat) (b : Bool) (q : Nat) : Nat :=
  cond a (cond b (cond (Nat.beq p q) 1 (cond (Nat.ble p q) 2 0)) (cond (Nat.beq (Nat.add p q) 0) 1 0))
    (cond b (cond (Nat.beq (Nat.add p q) 0) 1 2) (cond (Nat.beq p q) 1 (cond (Nat.ble p q) 0 2)))
def ordN : Ordering → Nat
  | .lt => 0 | .eq => 1 | .gt => 2
theorem cpN_eq (a : Bool) (p : Nat) (b : Bool) (q : Nat) : ordN (compare (Float64.sgn a p) (Float64.sgn b q)) = cpN a p b q := by
  have hc : ∀ x y : Int, ordN (compare x y) = if x < y then 0 else if x = y then 1 else 2 := fun x y => by
    show ordN (compareOfLessAndEq x y) = _
    unfold compareOfLessAndEq
    split
    · rfl
    · split <;> rfl
  rw [hc]
  unfold cpN
  simp only [beqN, bleN, Nat.add_eq, Bool.cond_eq_ite, decide_eq_true_eq, beq_iff_eq]
  cases a <;> cases b <;> simp only [Float64.sgn, if_true, if_false, Bool.false_eq_true]
  · by_cases c : p = q
    · rw [if_neg (by omega), if_pos (by omega), if_pos c]
    · by_cases d : p ≤ q
      · rw [if_pos (by omega), if_neg c, if_pos d]
      · rw [if_neg (by omega), if_neg (by omega), if_neg c, if_neg d]
  · by_cases c : p + q = 0
    · rw [if_neg (by omega), if_pos (by omega), if_pos c]
    · rw [if_neg (by omega), if_neg (by omega), if_neg c]
  · by_cases c : p + q = 0
    · rw [if_neg (by omega), if_pos (by omega), if_pos c]
    · rw [if_pos (by omega), if_neg c]
  · by_cases c : p = q
    · rw [if_neg (by omega), if_pos (by omega), if_pos c]
    · by_cases d : p ≤ q
      · rw [if_neg (by omega), if_neg (by omega), if_neg c, if_pos d]
      · rw [if_pos (by omega), if_neg c, if_neg d]
def cmpS (x y : UInt64) : Nat := match Float64.cmp x y with | some o => ordN o | none => 3
def cmpN (n m : Nat) : Nat := cond (finN n) (cond (finN m) (alN n m fun p q _ => cpN (sgN n) p (sgN m) q) (cmpS n.toUInt64 m.toUInt64)) (cmpS n.toUInt64 m.toUInt64)
theorem cmpN_eq (x y : UInt64) : cmpS x y = cmpN x.toNat y.toNat := by
  unfold cmpN
  rw [show x.toNat.toUInt64 = x from UInt64.ofNat_toNat, show y.toNat.toUInt64 = y from UInt64.ofNat_toNat]
  cases h1 : finN x.toNat with
  | false => rfl
  | true =>
    cases h2 : finN y.toNat with
    | false => rfl
    | true =>
      unfold cmpS Float64.cmp
      rw [decode_fin h1, decode_fin h2]
      dsimp only [cond]
      obtain ⟨p, q, g, e1, e2⟩ := alN_eq x.toNat y.toNat fun p q _ => cpN (sgN x.toNat) p (sgN y.toNat) q
      rw [e1, e2]
      exact cpN_eq _ _ _ _
theorem cmp_lt (x y : UInt64) : (Float64.cmp x y == some .lt) = Nat.beq (cmpN x.toNat y.toNat) 0 := by
  rw [← cmpN_eq]; unfold cmpS
  cases Float64.cmp x y with
  | none => rfl
  | some o => cases o <;> rfl
theorem cmp_eq (x y : UInt64) : (Float64.cmp x y == some .eq) = Nat.beq (cmpN x.toNat y.toNat) 1 := by
  rw [← cmpN_eq]; unfold cmpS
  cases Float64.cmp x y with
  | none => rfl
  | some o => cases o <;> rfl
theorem cmp_gt (x y : UInt64) : (Float64.cmp x y == some .gt) = Nat.beq (cmpN x.toNat y.toNat) 2 := by
  rw [← cmpN_eq]; unfold cmpS
  cases Float64.cmp x y with
  | none => rfl
  | some o => cases o <;> rfl
/-- the remainder by 1.0 -/
def fmN (n : Nat) : Nat := cond (finN n) (alN n 4607182418800017408 fun p q g => bnN (sgN n) (Nat.mod p q) (Nat.add g 1075)) (slow1 Float64.fmod n 4607182418800017408)
theorem fmN_eq (x : UInt64) : (Float64.fmod x 4607182418800017408).toNat = fmN x.toNat := by
  unfold fmN
  cases h1 : finN x.toNat with
  | false => exact (slow1_eq Float64.fmod x 4607182418800017408).symm
  | true =>
    unfold Float64.fmod
    rw [decode_fin h1, decode_fin (x := 4607182418800017408) (by decide +kernel)]
    have hk : (mtN (UInt64.toNat 4607182418800017408) == 0) = false := by decide +kernel
    have hn : UInt64.toNat 4607182418800017408 = 4607182418800017408 := by decide +kernel
    dsimp only [cond]
    rw [hk, if_neg (by decide)]
    obtain ⟨p, q, g, e1, e2⟩ := alN_eq x.toNat (UInt64.toNat 4607182418800017408) fun p q g => bnN (sgN x.toNat) (Nat.mod p q) (Nat.add g 1075)
    rw [hn] at e1
    rw [e1, e2]
    dsimp only
    rw [show (Float64.sgn false p).toNat = p from rfl, show (Float64.sgn false q).toNat = q from rfl]
    exact bnN_eq _ _ _ (by show _ = ((g + 1075 : Nat) : Int) - 2150; omega)
def isZ (n : Nat) : Bool := cond (finN n) (Nat.beq (mtN n) 0) (Float64.isZero n.toUInt64)
theorem isZ_eq (x : UInt64) : Float64.isZero x = isZ x.toNat := by
  unfold isZ
  rw [show x.toNat.toUInt64 = x from UInt64.ofNat_toNat]
  cases h1 : finN x.toNat with
  | false => rfl
  | true =>
    unfold Float64.isZero
    rw [decode_fin h1]
    cases mtN x.toNat <;> rfl
def moN (n : Nat) : Nat := force (fmN n) fun r => cond (isZ r) 0 (cond (Nat.beq (cmpN r 0) 0) (addN r 4607182418800017408) r)
theorem moN_eq (x : UInt64) : (Float64.divmod x 4607182418800017408).2.toNat = moN x.toNat := by
  unfold moN
  rw [force_eq, ← fmN_eq, ← isZ_eq]
  have h0 : Float64.lt 4607182418800017408 (Float64.zero false) = false := by decide +kernel
  have h1 : (Float64.copysign (Float64.zero false) 4607182418800017408).toNat = 0 := by decide +kernel
  have h2 : Float64.lt (Float64.fmod x 4607182418800017408) (Float64.zero false) = Nat.beq (cmpN (Float64.fmod x 4607182418800017408).toNat 0) 0 := by
    unfold Float64.lt
    rw [cmp_lt, show (Float64.zero false).toNat = 0 by decide +kernel]
  have h3 : (4607182418800017408 : UInt64).toNat = 4607182418800017408 := by decide +kernel
  unfold Float64.divmod
  dsimp only
  rw [h0, ← h2]
  cases Float64.isZero (Float64.fmod x 4607182418800017408) with
  | true => exact h1
  | false =>
    cases Float64.lt (Float64.fmod x 4607182418800017408) (Float64.zero false) with
    | true => exact (addN_eq _ _).trans (by rw [h3]; rfl)
    | false => rfl
/-! the three parts of a colour, its place and its point -/
end
end Mine

-- FlB
namespace Mine
open PySem PySem.W PyProof.Rows PySem.Spec PySem.Calls
set_option maxRecDepth 100000
set_option maxHeartbeats 1000000
noncomputable section
/-! a colour's parts, its place and its point, by Nats -/
def nSixth : Nat := 4595172819793696085
def nHalf : Nat := 4602678819172646912
def nTwoThird : Nat := 4604180019048437077
def nThird : Nat := 4599676419421066581
def nOne : Nat := 4607182418800017408
def nTwo : Nat := 4611686018427387904
def nSix : Nat := 4618441417868443648
def n48 : Nat := 4631952216750555136
def nFour : Nat := 4616189618054758400
def n512 : Nat := 4647714815446351872
def ltN (n m : Nat) : Bool := Nat.beq (cmpN n m) 0
def eqN (n m : Nat) : Bool := Nat.beq (cmpN n m) 1
def gtN (n m : Nat) : Bool := Nat.beq (cmpN n m) 2
/-- the part of a colour at a hue that is within the turn -/
def vN (a b h : Nat) : Nat :=
  cond (ltN h nSixth) (force (subN b a) fun d => force (mulN d h) fun d => force (mulN d nSix) fun d => addN a d)
    (cond (ltN h nHalf) b
      (cond (ltN h nTwoThird) (force (subN b a) fun d => force (subN nTwoThird h) fun k => force (mulN d k) fun d => force (mulN d nSix) fun d => addN a d) a))
theorem vN_eq (x y z : UInt64) : (vF x y z).toNat = vN x.toNat y.toNat (moN z.toNat) := by
  unfold vF vN ltF ltN
  simp only [force_eq, Bool.cond_eq_ite, cmp_lt]
  have e : (Float64.divmod z fOne).2.toNat = moN z.toNat := moN_eq z
  rw [e]
  rw [show fSixth.toNat = nSixth from rfl, show fHalf.toNat = nHalf from rfl, show fTwoThird.toNat = nTwoThird from rfl]
  split
  · rw [addN_eq, mulN_eq, mulN_eq, subN_eq, e]; rfl
  · split
    · rfl
    · split
      · rw [addN_eq, mulN_eq, mulN_eq, subN_eq, subN_eq, e]; rfl
      · rfl
def maxN (a b c : Nat) : Nat := cond (gtN b a) (cond (gtN c b) c b) (cond (gtN c a) c a)
def minN (a b c : Nat) : Nat := cond (ltN b a) (cond (ltN c b) c b) (cond (ltN c a) c a)
theorem maxN_eq (a b c : UInt64) : (maxF a b c).toNat = maxN a.toNat b.toNat c.toNat := by
  unfold maxF maxN gtN
  simp only [Bool.cond_eq_ite, cmp_gt]
  repeat' split
  all_goals rfl
theorem minN_eq (a b c : UInt64) : (minF a b c).toNat = minN a.toNat b.toNat c.toNat := by
  unfold minF minN ltN
  simp only [Bool.cond_eq_ite, cmp_lt]
  repeat' split
  all_goals rfl
/-- the floor of a float that is not below nought -/
def trN (n : Nat) : Nat := cond (Nat.ble 1075 (beN n)) (Nat.mul (mtN n) (Nat.pow 2 (Nat.sub (beN n) 1075))) (Nat.div (mtN n) (Nat.pow 2 (Nat.sub 1075 (beN n))))
/-- a float that is finite and not below nought, its floor k -/
def atN (n k : Nat) : Bool := cond (finN n) (cond (sgN n) false (Nat.beq (trN n) k)) false
theorem atN_eq {x : UInt64} {k : Nat} (h : atN x.toNat k = true) : Float64.isFinite x = true ∧ Flt.toInt Float64.truncOf x = (k : Int) := by
  unfold atN at h
  cases h1 : finN x.toNat with
  | false => rw [h1] at h; cases h
  | true =>
    cases h2 : sgN x.toNat with
    | true => rw [h1, h2] at h; cases h
    | false =>
      rw [h1, h2] at h
      have h3 : trN x.toNat = k := Nat.eq_of_beq_eq_true h
      have hd := decode_fin h1
      rw [h2] at hd
      refine ⟨by unfold Float64.isFinite; rw [hd], ?_⟩
      rw [Flt.toInt_fin hd, ← h3]
      unfold Float64.truncOf Float64.floorOf trN
      rw [bleN, if_neg (by decide), Bool.cond_eq_ite]
      simp only [Float64.sgn, Bool.false_eq_true, if_false, decide_eq_true_eq]
      by_cases c : 1075 ≤ beN x.toNat
      · rw [if_pos (by omega), if_pos c, show ((beN x.toNat : Int) - 1075).toNat = beN x.toNat - 1075 by omega]
        show (_ : Int) = ((mtN x.toNat * 2 ^ (beN x.toNat - 1075) : Nat) : Int)
        rw [Int.natCast_mul, Int.natCast_pow]; rfl
      · rw [if_neg (by omega), if_neg c, show (-((beN x.toNat : Int) - 1075)).toNat = 1075 - beN x.toNat by omega]
        show (_ : Int) = ((mtN x.toNat / 2 ^ (1075 - beN x.toNat) : Nat) : Int)
        rw [Int.natCast_ediv, Int.natCast_pow]
        exact Int.fdiv_eq_ediv_of_nonneg _ (by exact Int.pow_nonneg (by decide))
def ptN (x : Nat) : Nat := force (mulN x n512) fun t => addN t nHalf
theorem ptN_eq (x : UInt64) : (ptF x).toNat = ptN x.toNat := by
  unfold ptF ptN
  rw [force_eq, addN_eq, mulN_eq]; rfl
def floorN (x : Nat) : Nat := trN x
/-- the hue of three parts -/
def hueN (r g b mx rg : Nat) : Nat :=
  force (divN (subN mx r) rg) fun rc => force (divN (subN mx g) rg) fun gc => force (divN (subN mx b) rg) fun bc =>
    force (cond (eqN r mx) (subN bc gc) (cond (eqN g mx) (force (addN nTwo rc) fun t => subN t bc) (force (addN nFour gc) fun t => subN t rc))) fun h => force (divN h nSix) fun h => moN h
theorem hueN_eq (r g b : UInt64) : (hueF r g b).toNat = hueN r.toNat g.toNat b.toNat (maxF r g b).toNat (rngF r g b).toNat := by
  unfold hueF hueN
  simp only [force_eq]
  have e : ∀ z : UInt64, (Float64.divmod z fOne).2.toNat = moN z.toNat := moN_eq
  rw [e, divN_eq]
  have p : ∀ x, (partF r g b x).toNat = divN (subN (maxF r g b).toNat x.toNat) (rngF r g b).toNat := fun x => by
    unfold partF; rw [divN_eq, subN_eq]
  have q : ∀ x y, (Float64.cmp x y == some .eq) = eqN x.toNat y.toNat := cmp_eq
  rw [← p, ← p, ← p, q, q, Bool.cond_eq_ite, Bool.cond_eq_ite]
  congr 2
  repeat' split
  · rw [subN_eq]
  · rw [subN_eq, addN_eq]; rfl
  · rw [subN_eq, addN_eq]; rfl
/-- all that is asked of a colour: its place is p, its point (x - 16 c, y - 16 c) -/
def askN (p c16 x y r g b : Nat) : Bool :=
  force (maxN r g b) fun mx => force (minN r g b) fun mn => force (subN mx mn) fun rg =>
    cond (isZ mx) false (cond (isZ rg) false (cond (eqN mn mx) false
      (cond (force (hueN r g b mx rg) fun h => force (mulN h n48) fun h => force (addN h nHalf) fun h => atN h p)
        (force (ptN r) fun r => force (ptN g) fun g => force (ptN b) fun b =>
          force (trN r) fun rt => force (trN g) fun gt => force (trN b) fun bt =>
            cond (atN r rt) (cond (atN g gt) (cond (atN b bt) (cond (Nat.beq (Nat.add rt c16) (Nat.add bt x)) (Nat.beq (Nat.add gt c16) (Nat.add bt y)) false) false) false) false) false)))
theorem cond_false {a b : Bool} (h : cond a b false = true) : a = true ∧ b = true := by
  cases a with
  | false => cases h
  | true => exact ⟨rfl, h⟩
theorem cond_true {a b : Bool} (h : cond a false b = true) : a = false ∧ b = true := by
  cases a with
  | true => cases h
  | false => exact ⟨rfl, h⟩
theorem askN_ok {p c16 x y : Nat} {r g b : UInt64} (h : askN p c16 x y r.toNat g.toNat b.toNat = true) :
    Float64.isZero (maxF r g b) = false ∧ Float64.isZero (rngF r g b) = false ∧ Float64.isFinite (placeF r g b) = true ∧ placeI r g b = (p : Int) ∧
    Float64.isFinite (ptF r) = true ∧ Float64.isFinite (ptF g) = true ∧ Float64.isFinite (ptF b) = true ∧ ptI r - ptI b = (x : Int) - (c16 : Int) ∧ ptI g - ptI b = (y : Int) - (c16 : Int) := by
  unfold askN at h
  simp only [force_eq] at h
  obtain ⟨h1, h⟩ := cond_true h
  obtain ⟨h2, h⟩ := cond_true h
  obtain ⟨h3, h⟩ := cond_true h
  obtain ⟨h4, h⟩ := cond_false h
  obtain ⟨h5, h⟩ := cond_false h
  obtain ⟨h6, h⟩ := cond_false h
  obtain ⟨h7, h⟩ := cond_false h
  obtain ⟨h8, h⟩ := cond_false h
  have er : (rngF r g b).toNat = subN (maxN r.toNat g.toNat b.toNat) (minN r.toNat g.toNat b.toNat) := by
    unfold rngF; rw [subN_eq, maxN_eq, minN_eq]
  have k1 : Float64.isZero (maxF r g b) = false := by rw [isZ_eq, maxN_eq]; exact h1
  have k2 : Float64.isZero (rngF r g b) = false := by rw [isZ_eq, er]; exact h2
  have hm : (hsvF r g b).1 = hueF r g b := by
    unfold hsvF
    rw [cmp_eq, maxN_eq, minN_eq]
    unfold eqN at h3
    rw [h3]; rfl
  have hp : (placeF r g b).toNat = addN (mulN (hueN r.toNat g.toNat b.toNat (maxN r.toNat g.toNat b.toNat) (subN (maxN r.toNat g.toNat b.toNat) (minN r.toNat g.toNat b.toNat))) n48) nHalf := by
    unfold placeF
    rw [hm, addN_eq, mulN_eq, hueN_eq, er, maxN_eq]; rfl
  rw [← hp] at h4
  rw [← ptN_eq] at h5 h6 h7
  rw [← ptN_eq, ← ptN_eq] at h8 h
  obtain ⟨a1, a2⟩ := atN_eq h4
  obtain ⟨b1, b2⟩ := atN_eq h5
  obtain ⟨c1, c2⟩ := atN_eq h6
  obtain ⟨d1, d2⟩ := atN_eq h7
  have h8' : _ + _ = _ + _ := Nat.eq_of_beq_eq_true h8
  have h9' : _ + _ = _ + _ := Nat.eq_of_beq_eq_true h
  refine ⟨k1, k2, a1, a2, b1, c1, d1, ?_, ?_⟩
  · unfold ptI; rw [b2, d2]; omega
  · unfold ptI; rw [c2, d2]; omega
end
end Mine

-- PlA
namespace Mine
open PySem PySem.W PyProof.Rows PySem.Spec PySem.Calls
set_option maxRecDepth 100000
set_option maxHeartbeats 1000000
noncomputable section
/-! the hexagon of hues -/
/-- the places' points, moved by (8, 8) -/
def hexN (p : Nat) : Nat × Nat :=
  match p / 8 with
  | 0 => (16, p % 8 + 8)
  | 1 => (16 - p % 8, 16)
  | 2 => (8 - p % 8, 16 - p % 8)
  | 3 => (0, 8 - p % 8)
  | 4 => (p % 8, 0)
  | _ => (p % 8 + 8, p % 8)
def crossH (p q : Nat) : Int := (((hexN p).1 : Int) - 8) * (((hexN q).2 : Int) - 8) - (((hexN p).2 : Int) - 8) * (((hexN q).1 : Int) - 8)
def crossOk (p q : Nat) : Bool := (decide (0 < crossH p q) == decide (1 ≤ (q + 48 - p) % 48 ∧ (q + 48 - p) % 48 ≤ 23)) && (decide (0 ≤ crossH p q) == decide ((q + 48 - p) % 48 ≤ 24))
theorem cross_all : ((List.range 48).all fun p => (List.range 48).all fun q => crossOk p q) = true := by decide +kernel
theorem crossH_ok {p q : Nat} (hp : p < 48) (hq : q < 48) : (0 < crossH p q ↔ 1 ≤ (q + 48 - p) % 48 ∧ (q + 48 - p) % 48 ≤ 23) ∧ (0 ≤ crossH p q ↔ (q + 48 - p) % 48 ≤ 24) := by
  have h := List.all_eq_true.mp (List.all_eq_true.mp cross_all p (List.mem_range.mpr hp)) q (List.mem_range.mpr hq)
  unfold crossOk at h
  rw [Bool.and_eq_true, beq_iff_eq, beq_iff_eq] at h
  exact ⟨decide_eq_decide.mp h.1, decide_eq_decide.mp h.2⟩
/-- the point of a colour of the chroma c at the place p -/
def ptAt (c p : Nat) : Int × Int := (((2 * c * (hexN p).1 : Nat) : Int) - ((16 * c : Nat) : Int), ((2 * c * (hexN p).2 : Nat) : Int) - ((16 * c : Nat) : Int))
theorem ptAt_eq (c p : Nat) : ptAt c p = (2 * (c : Int) * (((hexN p).1 : Int) - 8), 2 * (c : Int) * (((hexN p).2 : Int) - 8)) := by
  unfold ptAt
  simp only [Int.natCast_mul, Int.mul_sub]
  congr 1 <;> (congr 1; show (16 : Int) * c = _; omega)
theorem cross_pt (c p d q : Nat) : cross (ptAt c p) (ptAt d q) = (4 * (c : Int) * (d : Int)) * crossH p q := by
  rw [ptAt_eq, ptAt_eq]
  unfold cross crossH
  generalize ((hexN p).1 : Int) - 8 = a
  generalize ((hexN p).2 : Int) - 8 = b
  generalize ((hexN q).1 : Int) - 8 = a'
  generalize ((hexN q).2 : Int) - 8 = b'
  dsimp only
  rw [Int.mul_sub]
  congr 1
  · rw [show (4 : Int) * c * d = 2 * c * (2 * d) by rw [show (4 : Int) = 2 * 2 from rfl]; ac_rfl]; ac_rfl
  · rw [show (4 : Int) * c * d = 2 * c * (2 * d) by rw [show (4 : Int) = 2 * 2 from rfl]; ac_rfl]; ac_rfl
theorem cross_pos {c d p q : Nat} (hc : 1 ≤ c) (hd : 1 ≤ d) (hp : p < 48) (hq : q < 48) : 1 ≤ cross (ptAt c p) (ptAt d q) ↔ 1 ≤ (q + 48 - p) % 48 ∧ (q + 48 - p) % 48 ≤ 23 := by
  rw [cross_pt, ← (crossH_ok hp hq).1]
  have h4 : (0 : Int) < 4 * (c : Int) * (d : Int) := Int.mul_pos (by omega) (by omega)
  constructor
  · intro h
    exact Int.pos_of_mul_pos_right (a := 4 * (c : Int) * (d : Int)) (by omega) (by omega)
  · intro h
    have := Int.mul_pos h4 h
    omega
theorem cross_nonneg {c d p q : Nat} (hc : 1 ≤ c) (hd : 1 ≤ d) (hp : p < 48) (hq : q < 48) : 0 ≤ cross (ptAt c p) (ptAt d q) ↔ (q + 48 - p) % 48 ≤ 24 := by
  rw [cross_pt, ← (crossH_ok hp hq).2]
  have h4 : (0 : Int) < 4 * (c : Int) * (d : Int) := Int.mul_pos (by omega) (by omega)
  constructor
  · intro h
    rcases Int.lt_or_le (crossH p q) 0 with k | k
    · have := Int.mul_neg_of_pos_of_neg h4 k
      omega
    · exact k
  · intro h
    exact Int.mul_nonneg (Int.le_of_lt h4) h

/-- a walk forward: q_j is the point of a colour at P + D j -/
structure Fwd (pts : List (Int × Int)) (P : Nat) (D : Nat → Nat) : Prop where
  pt : ∀ j q, pts[j]? = some q → ∃ c, 1 ≤ c ∧ q = ptAt c ((P + D j) % 48)
  up : ∀ j, j + 1 < pts.length → D j < D (j + 1) ∧ D (j + 1) ≤ D j + 23
theorem Fwd.le {pts : List (Int × Int)} {P : Nat} {D : Nat → Nat} (H : Fwd pts P D) : ∀ {j : Nat}, 0 < j → j < pts.length → D 0 < D j
  | 0, h, _ => absurd h (Nat.lt_irrefl _)
  | 1, _, hj => (H.up 0 hj).1
  | j + 2, _, hj => Nat.lt_trans (H.le (Nat.succ_pos j) (Nat.lt_of_succ_lt hj)) (H.up (j + 1) hj).1
theorem Fwd.ge {pts : List (Int × Int)} {P : Nat} {D : Nat → Nat} (H : Fwd pts P D) : ∀ {m j : Nat}, j ≤ m → m < pts.length → D j ≤ D m
  | 0, j, h, _ => by rw [Nat.le_zero.mp h]; exact Nat.le_refl _
  | m + 1, j, h, hm => by
    rcases Nat.lt_or_ge j (m + 1) with q | q
    · exact Nat.le_trans (H.ge (Nat.le_of_lt_succ q) (Nat.lt_of_succ_lt hm)) (Nat.le_of_lt (H.up m hm).1)
    · rw [Nat.le_antisymm h q]; exact Nat.le_refl _
/-- a row is kept if and only if its steps come to no more than the edge -/
theorem kept_iff {pts : List (Int × Int)} {P : Nat} {D : Nat → Nat} {m : Nat} {e : Int} (H : Fwd pts P D) (hm : pts.length = m + 2) (he : e = 23 ∨ e = 24) (hb : (D m : Int) - (D 0 : Int) ≤ e) :
    Kept pts (24 - e) ↔ (D (m + 1) : Int) - (D 0 : Int) ≤ e := by
  have hup := H.up m (by omega)
  have at' : ∀ j, j < pts.length → ∃ c, 1 ≤ c ∧ pts[j]? = some (ptAt c ((P + D j) % 48)) := fun j hj => by
    obtain ⟨c, hc, e⟩ := H.pt j pts[j] (List.getElem?_eq_getElem hj)
    exact ⟨c, hc, by rw [List.getElem?_eq_getElem hj, e]⟩
  constructor
  · rintro ⟨k, q, hq, hall⟩
    obtain ⟨hk, _⟩ := List.getElem?_eq_some_iff.mp hq
    obtain ⟨c, hc, rfl⟩ := H.pt k q hq
    rcases Nat.eq_zero_or_pos k with rfl | hk0
    · obtain ⟨d, hd, hj⟩ := at' (m + 1) (by omega)
      have h := hall (m + 1) _ (Nat.succ_ne_zero m) hj
      have hge := H.ge (Nat.zero_le m) (by omega)
      rcases he with rfl | rfl
      · have := (cross_pos hc hd (Nat.mod_lt _ (by decide)) (Nat.mod_lt _ (by decide))).mp h
        omega
      · have := (cross_nonneg hc hd (Nat.mod_lt _ (by decide)) (Nat.mod_lt _ (by decide))).mp h
        omega
    · exfalso
      obtain ⟨k, rfl⟩ : ∃ k', k = k' + 1 := ⟨k - 1, by omega⟩
      obtain ⟨d, hd, hj⟩ := at' k (by omega)
      have h := hall k _ (Nat.ne_of_lt (Nat.lt_succ_self k)) hj
      have hu := H.up k hk
      have := (cross_nonneg hc hd (Nat.mod_lt _ (by decide)) (Nat.mod_lt _ (by decide))).mp (Int.le_trans (by omega) h)
      omega
  · intro h
    obtain ⟨c, hc, h0⟩ := at' 0 (by omega)
    refine ⟨0, _, h0, fun j p hj hp => ?_⟩
    obtain ⟨hjl, _⟩ := List.getElem?_eq_some_iff.mp hp
    obtain ⟨d, hd, rfl⟩ := H.pt j p hp
    have h1 := H.le (Nat.pos_of_ne_zero hj) hjl
    have h2 := H.ge (show j ≤ m + 1 by omega) (by omega)
    rcases he with rfl | rfl
    · exact (cross_pos hc hd (Nat.mod_lt _ (by decide)) (Nat.mod_lt _ (by decide))).mpr (by omega)
    · exact (cross_nonneg hc hd (Nat.mod_lt _ (by decide)) (Nat.mod_lt _ (by decide))).mpr (by omega)
end
end Mine

-- FlC
namespace Mine
open PySem PySem.W PyProof.Rows PySem.Spec PySem.Calls
set_option maxRecDepth 100000
set_option maxHeartbeats 1000000
noncomputable section
/-! every colour of the law: its place is told, its point lies on the hexagon -/
/-- the hues of the three parts, by the place -/
def hueT : List (Nat × Nat × Nat) := [
  (4599676419421066581, 0, 4604180019048437078),
  (4600051719390014122, 4581662020911584597, 4604367669032910848),
  (4600427019358961664, 4586165620538955093, 4604555319017384619),
  (4600802319327909205, 4589168020290535424, 4604742969001858390),
  (4601177619296856746, 4590669220166325589, 4604930618986332160),
  (4601552919265804288, 4592170420042115755, 4605118268970805931),
  (4601928219234751829, 4593671619917905920, 4605305918955279702),
  (4602303519203699370, 4594422219855801003, 4605493568939753472),
  (4602678819172646912, 4595172819793696085, 4605681218924227243),
  (4602866469157120682, 4595923419731591168, 4605868868908701014),
  (4603054119141594453, 4596674019669486251, 4606056518893174784),
  (4603241769126068224, 4597424619607381333, 4606244168877648555),
  (4603429419110541994, 4598175219545276416, 4606431818862122326),
  (4603617069095015765, 4598550519514223957, 4606619468846596096),
  (4603804719079489536, 4598925819483171499, 4606807118831069867),
  (4603992369063963306, 4599301119452119040, 4606994768815543638),
  (4604180019048437077, 4599676419421066581, 0),
  (4604367669032910848, 4600051719390014123, 4581662020911584608),
  (4604555319017384618, 4600427019358961664, 4586165620538955096),
  (4604742969001858389, 4600802319327909205, 4589168020290535424),
  (4604930618986332160, 4601177619296856747, 4590669220166325592),
  (4605118268970805930, 4601552919265804288, 4592170420042115756),
  (4605305918955279701, 4601928219234751829, 4593671619917905920),
  (4605493568939753472, 4602303519203699371, 4594422219855801004),
  (4605681218924227242, 4602678819172646912, 4595172819793696086),
  (4605868868908701014, 4602866469157120683, 4595923419731591170),
  (4606056518893174784, 4603054119141594453, 4596674019669486250),
  (4606244168877648554, 4603241769126068224, 4597424619607381334),
  (4606431818862122326, 4603429419110541995, 4598175219545276417),
  (4606619468846596096, 4603617069095015765, 4598550519514223957),
  (4606807118831069866, 4603804719079489536, 4598925819483171499),
  (4606994768815543638, 4603992369063963307, 4599301119452119041),
  (0, 4604180019048437077, 4599676419421066581),
  (4581662020911584576, 4604367669032910848, 4600051719390014123),
  (4586165620538955104, 4604555319017384619, 4600427019358961665),
  (4589168020290535424, 4604742969001858389, 4600802319327909205),
  (4590669220166325584, 4604930618986332160, 4601177619296856747),
  (4592170420042115760, 4605118268970805931, 4601552919265804289),
  (4593671619917905920, 4605305918955279701, 4601928219234751829),
  (4594422219855801000, 4605493568939753472, 4602303519203699371),
  (4595172819793696088, 4605681218924227243, 4602678819172646912),
  (4595923419731591168, 4605868868908701013, 4602866469157120682),
  (4596674019669486248, 4606056518893174784, 4603054119141594454),
  (4597424619607381336, 4606244168877648555, 4603241769126068224),
  (4598175219545276416, 4606431818862122325, 4603429419110541994),
  (4598550519514223956, 4606619468846596096, 4603617069095015766),
  (4598925819483171500, 4606807118831069867, 4603804719079489536),
  (4599301119452119040, 4606994768815543637, 4603992369063963306)]

def m2N (l s : Nat) : Nat := cond (cond (ltN l nHalf) true (eqN l nHalf)) (force (addN nOne s) fun t => mulN l t) (force (addN l s) fun a => force (mulN l s) fun b => subN a b)
def m1N (l m : Nat) : Nat := force (mulN nTwo l) fun t => subN t m
theorem m2N_eq (l s : UInt64) : (hls2 l s).toNat = m2N l.toNat s.toNat := by
  unfold hls2 m2N ltN eqN
  rw [cmp_lt, cmp_eq, show fHalf.toNat = nHalf from rfl]
  simp only [force_eq]
  cases Nat.beq (cmpN l.toNat nHalf) 0 with
  | true =>
    rw [Bool.true_or, if_pos rfl, mulN_eq, addN_eq]; rfl
  | false =>
    cases Nat.beq (cmpN l.toNat nHalf) 1 with
    | true => rw [Bool.or_true, if_pos rfl, mulN_eq, addN_eq]; rfl
    | false => rw [Bool.or_false, if_neg (by decide), subN_eq, addN_eq, mulN_eq]; rfl
theorem m1N_eq (l s : UInt64) : (hls1 l s).toNat = m1N l.toNat (m2N l.toNat s.toNat) := by
  unfold hls1 m1N
  rw [force_eq, subN_eq, mulN_eq, m2N_eq]; rfl
/-- the colour of the place p at the parts a and b is as it should be -/
def chkC (a b c16 c2 p : Nat) (t : Nat × Nat × Nat) : Bool :=
  force (vN a b t.1) fun r => force (vN a b t.2.1) fun g => force (vN a b t.2.2) fun u =>
    askN p c16 (Nat.mul c2 (hexN p).1) (Nat.mul c2 (hexN p).2) r g u
noncomputable def chkL (a b c16 c2 : Nat) : Nat → List (Nat × Nat × Nat) → Bool
  | _, [] => true
  | p, t :: r => cond (chkC a b c16 c2 p t) (force (Nat.succ p) fun p => chkL a b c16 c2 p r) false
def chroma (j q : Nat) : Nat := Nat.mul (cond (Nat.ble (Nat.add j 1) (Nat.sub 15 j)) (Nat.add j 1) (Nat.sub 15 j)) (Nat.add q 1)
def lightN (j : Nat) : Nat := (Float64.div (Float64.ofInt ((j : Int) + 1)) f16).toNat
def satN (q : Nat) : Nat := (Float64.div (Float64.ofInt ((q : Int) + 1)) f4).toNat
def chkS (q : Nat) : Bool := cond (eqN (satN q) 0) false true
def chkJ (j q : Nat) : Bool :=
  force (lightN j) fun l => force (satN q) fun s => force (m2N l s) fun b => force (m1N l b) fun a => force (chroma j q) fun c =>
    force (Nat.mul 16 c) fun c16 => force (Nat.mul 2 c) fun c2 => chkL a b c16 c2 0 hueT
theorem chk_0 : (cond (chkJ 0 0) (cond (chkJ 0 1) (cond (chkJ 0 2) (chkJ 0 3) false) false) false) = true := by decide +kernel
theorem chk_1 : (cond (chkJ 1 0) (cond (chkJ 1 1) (cond (chkJ 1 2) (chkJ 1 3) false) false) false) = true := by decide +kernel
theorem chk_2 : (cond (chkJ 2 0) (cond (chkJ 2 1) (cond (chkJ 2 2) (chkJ 2 3) false) false) false) = true := by decide +kernel
theorem chk_3 : (cond (chkJ 3 0) (cond (chkJ 3 1) (cond (chkJ 3 2) (chkJ 3 3) false) false) false) = true := by decide +kernel
theorem chk_4 : (cond (chkJ 4 0) (cond (chkJ 4 1) (cond (chkJ 4 2) (chkJ 4 3) false) false) false) = true := by decide +kernel
theorem chk_5 : (cond (chkJ 5 0) (cond (chkJ 5 1) (cond (chkJ 5 2) (chkJ 5 3) false) false) false) = true := by decide +kernel
theorem chk_6 : (cond (chkJ 6 0) (cond (chkJ 6 1) (cond (chkJ 6 2) (chkJ 6 3) false) false) false) = true := by decide +kernel
theorem chk_7 : (cond (chkJ 7 0) (cond (chkJ 7 1) (cond (chkJ 7 2) (chkJ 7 3) false) false) false) = true := by decide +kernel
theorem chk_8 : (cond (chkJ 8 0) (cond (chkJ 8 1) (cond (chkJ 8 2) (chkJ 8 3) false) false) false) = true := by decide +kernel
theorem chk_9 : (cond (chkJ 9 0) (cond (chkJ 9 1) (cond (chkJ 9 2) (chkJ 9 3) false) false) false) = true := by decide +kernel
theorem chk_10 : (cond (chkJ 10 0) (cond (chkJ 10 1) (cond (chkJ 10 2) (chkJ 10 3) false) false) false) = true := by decide +kernel
theorem chk_11 : (cond (chkJ 11 0) (cond (chkJ 11 1) (cond (chkJ 11 2) (chkJ 11 3) false) false) false) = true := by decide +kernel
theorem chk_12 : (cond (chkJ 12 0) (cond (chkJ 12 1) (cond (chkJ 12 2) (chkJ 12 3) false) false) false) = true := by decide +kernel
theorem chk_13 : (cond (chkJ 13 0) (cond (chkJ 13 1) (cond (chkJ 13 2) (chkJ 13 3) false) false) false) = true := by decide +kernel
theorem chk_14 : (cond (chkJ 14 0) (cond (chkJ 14 1) (cond (chkJ 14 2) (chkJ 14 3) false) false) false) = true := by decide +kernel
theorem chkJ_ok {j q : Nat} (hj : j < 15) (hq : q < 4) : chkJ j q = true := by
  have h : (cond (chkJ j 0) (cond (chkJ j 1) (cond (chkJ j 2) (chkJ j 3) false) false) false) = true := by
    match j, hj with
    | 0, _ => exact chk_0
    | 1, _ => exact chk_1
    | 2, _ => exact chk_2
    | 3, _ => exact chk_3
    | 4, _ => exact chk_4
    | 5, _ => exact chk_5
    | 6, _ => exact chk_6
    | 7, _ => exact chk_7
    | 8, _ => exact chk_8
    | 9, _ => exact chk_9
    | 10, _ => exact chk_10
    | 11, _ => exact chk_11
    | 12, _ => exact chk_12
    | 13, _ => exact chk_13
    | 14, _ => exact chk_14
  obtain ⟨h0, h⟩ := cond_false h
  obtain ⟨h1, h⟩ := cond_false h
  obtain ⟨h2, h3⟩ := cond_false h
  match q, hq with
  | 0, _ => exact h0
  | 1, _ => exact h1
  | 2, _ => exact h2
  | 3, _ => exact h3
theorem chkL_at {a b c16 c2 : Nat} : ∀ {l : List (Nat × Nat × Nat)} {p i : Nat} {t : Nat × Nat × Nat}, chkL a b c16 c2 p l = true → l[i]? = some t → chkC a b c16 c2 (p + i) t = true
  | [], _, _, _, _, e => by simp at e
  | u :: r, p, 0, t, h, e => by
    obtain ⟨h1, _⟩ := cond_false h
    cases e
    exact h1
  | u :: r, p, i + 1, t, h, e => by
    obtain ⟨_, h2⟩ := cond_false h
    rw [force_eq] at h2
    have := chkL_at h2 (by simpa using e : r[i]? = some t)
    rw [show p + (i + 1) = Nat.succ p + i by omega]
    exact this
def hueOk (p : Nat) : Bool := match hueT[p]? with
  | some t => cond (Nat.beq t.1 (moN (Float64.add (Float64.div (Float64.ofInt (p : Int)) f48) fThird).toNat)) (cond (Nat.beq t.2.1 (moN (Float64.div (Float64.ofInt (p : Int)) f48).toNat)) (Nat.beq t.2.2 (moN (Float64.sub (Float64.div (Float64.ofInt (p : Int)) f48) fThird).toNat)) false) false
  | none => false
theorem hue_all : ((List.range 48).all hueOk) = true := by decide +kernel
theorem sat_all : ((List.range 4).all chkS) = true := by decide +kernel
theorem chroma_ok {j q : Nat} (hj : j < 15) : 1 ≤ chroma j q := by
  unfold chroma
  have h1 : 1 ≤ cond (Nat.ble (Nat.add j 1) (Nat.sub 15 j)) (Nat.add j 1) (Nat.sub 15 j) := by
    rw [Bool.cond_eq_ite]
    split
    · exact Nat.succ_le_succ (Nat.zero_le _)
    · show 1 ≤ 15 - j
      omega
  exact Nat.mul_le_mul h1 (Nat.succ_le_succ (Nat.zero_le q))
/-- what holds of every colour of the law -/
structure ColOk (p c : Nat) (r g b : UInt64) : Prop where
  mx : Float64.isZero (maxF r g b) = false
  rg : Float64.isZero (rngF r g b) = false
  fin : Float64.isFinite (placeF r g b) = true
  place : placeI r g b = (p : Int)
  f1 : Float64.isFinite (ptF r) = true
  f2 : Float64.isFinite (ptF g) = true
  f3 : Float64.isFinite (ptF b) = true
  pt : (ptI r - ptI b, ptI g - ptI b) = ptAt c p
theorem col_ok {p : Nat} (hp : p < 48) (k : Int) : ∃ c, 1 ≤ c ∧ c ≤ 32 ∧ ColOk p c (colF (p : Int) k).1 (colF (p : Int) k).2.1 (colF (p : Int) k).2.2 := by
  obtain ⟨j, hj⟩ : ∃ j : Nat, Int.fmod k 15 = (j : Int) := Int.eq_ofNat_of_zero_le (Int.fmod_nonneg_of_pos k (by decide))
  obtain ⟨q, hq⟩ : ∃ q : Nat, Int.fmod (Int.fdiv k 15) 4 = (q : Int) := Int.eq_ofNat_of_zero_le (Int.fmod_nonneg_of_pos _ (by decide))
  have hj15 : j < 15 := by have := Int.fmod_lt_of_pos k (show (0 : Int) < 15 by decide); omega
  have hq4 : q < 4 := by have := Int.fmod_lt_of_pos (Int.fdiv k 15) (show (0 : Int) < 4 by decide); omega
  have hs := List.all_eq_true.mp sat_all q (List.mem_range.mpr hq4)
  have hh := List.all_eq_true.mp hue_all p (List.mem_range.mpr hp)
  have hc := chkJ_ok hj15 hq4
  unfold chkJ at hc
  simp only [force_eq] at hc
  unfold hueOk at hh
  cases ht : hueT[p]? with
  | none => rw [ht] at hh; cases hh
  | some t =>
    rw [ht] at hh
    obtain ⟨t1, hh⟩ := cond_false hh
    obtain ⟨t2, t3⟩ := cond_false hh
    have t1 := Nat.eq_of_beq_eq_true t1
    have t2 := Nat.eq_of_beq_eq_true t2
    have t3 := Nat.eq_of_beq_eq_true t3
    have h := chkL_at hc ht
    unfold chkC at h
    simp only [force_eq, Nat.zero_add] at h
    have hsat : (Float64.cmp (Float64.div (Float64.ofInt ((q : Int) + 1)) f4) 0 == some .eq) = false := by
      rw [cmp_eq]
      unfold chkS at hs
      exact (cond_true hs).1
    unfold colF
    rw [hj, hq]
    unfold hlsF
    rw [hsat, if_neg (by decide)]
    dsimp only
    generalize hH : Float64.div (Float64.ofInt (p : Int)) f48 = H at *
    unfold lightN satN at h
    generalize Float64.div (Float64.ofInt ((j : Int) + 1)) f16 = L at *
    generalize Float64.div (Float64.ofInt ((q : Int) + 1)) f4 = S at *
    rw [← m1N_eq, ← m2N_eq, t1, t2, t3, ← vN_eq, ← vN_eq, ← vN_eq] at h
    obtain ⟨a1, a2, a3, a4, a5, a6, a7, a8, a9⟩ := askN_ok h
    refine ⟨chroma j q, chroma_ok hj15, ?_, ⟨a1, a2, a3, a4, a5, a6, a7, ?_⟩⟩
    · have h1 : cond (Nat.ble (Nat.add j 1) (Nat.sub 15 j)) (Nat.add j 1) (Nat.sub 15 j) ≤ 8 := by
        rw [Bool.cond_eq_ite]
        split
        · rename_i z
          have z : j + 1 ≤ 15 - j := Nat.le_of_ble_eq_true z
          show j + 1 ≤ 8
          omega
        · rename_i z
          have z : ¬ j + 1 ≤ 15 - j := fun y => z (Nat.ble_eq_true_of_le y)
          show 15 - j ≤ 8
          omega
      exact Nat.mul_le_mul h1 (show q + 1 ≤ 4 by omega)
    · rw [a8, a9]; rfl
end
end Mine

-- LwF
namespace Mine
open PySem PySem.W PyProof.Rows PySem.Spec PySem.Calls
set_option maxRecDepth 100000
set_option maxHeartbeats 1000000
set_option pp.deepTerms false
set_option pp.deepTerms.threshold 8
set_option pp.fieldNotation false
noncomputable section
section
variable {prog : Program} {w : World} {A : Around} {E : Value → Shared → Prop} {s : Shared} {env : Env} {h₀ : Heap}
/-- what a loop's body is to do, from one turn to the next -/
def LoopBody (prog : Program) (w : World) (A : Around) (E : Value → Shared → Prop) (env : Env) (h₀ : Heap) (x : Str) (body : List Stmt) (Q : Flow → Shared → Prop) (J : Nat → (Str → Option Value) → List (Addr × Obj) → Array GenState → Prop) (n : Nat) (P : Nat → Value → Prop) (c : String) (dr : Drawn) (os : OsState) : Prop :=
  ∀ i v m nx gs h tk I io, i < n → P i v → J i m nx gs → Fr h₀ env.locals h (fun y => if y = x then some v else m y) → News h₀ env.locals h (nx ++ [(I, io)]) → io.cls = .type c → (∀ p ∈ nx, p.1 ≠ I) →
    wpAny (model prog w) A (execs body env) (fun f s₂ => match f with
      | .ret v => Q (.ret v) s₂
      | .brk => False
      | _ => Stop (∃ h' gs' tk' m' nx', s₂ = ⟨h', gs', dr, tk', os⟩ ∧ Fr h₀ env.locals h' m' ∧ News h₀ env.locals h' (nx' ++ [(I, io)]) ∧ (∀ p ∈ nx', p.1 ≠ I) ∧ J (i + 1) m' nx' gs')) E ⟨h, gs, dr, tk, os⟩
theorem forCore {x : Str} {px : Pos} {body : List Stmt} {Q : Flow → Shared → Prop} {I l : Addr} {n : Nat} {P : Nat → Value → Prop} {St : Nat → Heap → Prop} {lo : Obj} {c : String} (J : Nat → (Str → Option Value) → List (Addr × Obj) → Array GenState → Prop)
    {h₂ : Heap} {gs : Array GenState} {dr : Drawn} {tk : Nat} {os : OsState} {m : Str → Option Value} {nx : List (Addr × Obj)}
    (W : Walks prog w A I [I, l] [I] n P St) (hSt : ∀ i h, St i h → ∃ o, h.get? I = some o ∧ o.cls = .type c)
    (hst : St 0 h₂) (F : Fr h₀ env.locals h₂ m) (N : News h₀ env.locals h₂ nx) (hJ : J 0 m nx gs) (hJl : ∀ i m nx gs, J i m nx gs → (l, lo) ∈ nx) (hnx : ∀ p ∈ nx, p.1 ≠ I) (hI0 : h₀.get? I = none) (hIL : I ≠ env.locals)
    (turn : LoopBody prog w A E env h₀ x body Q J n P c dr os)
    (done : ∀ m nx gs h tk, J n m nx gs → Fr h₀ env.locals h m → News h₀ env.locals h nx → Q .next ⟨h, gs, dr, tk, os⟩)
    (hx : env.kindOf x = some .local) (hp : (env.scope.kind == .class || (env.scope.kind == .module && env.locals != env.globals)) = false)
    (hE : PassesOwn (model prog w) A env E) :
    codeAny (model prog w) A (.forLoop (.Name x px) (.ref I) body [] env) (fun r s' => match r with | .ok f => Q f s' | .error e => cameBackBy (model prog w) A env E e s') ⟨h₂, gs, dr, tk, os⟩ := by
  refine codeAny_forLoop (fun k s' => ∃ i m nx gs h tk, k = n - i ∧ i ≤ n ∧ s' = ⟨h, gs, dr, tk, os⟩ ∧ J i m nx gs ∧ Fr h₀ env.locals h m ∧ News h₀ env.locals h nx ∧ (∀ p ∈ nx, p.1 ≠ I) ∧ St i h) ?_ n ⟨0, m, nx, gs, h₂, tk, rfl, Nat.zero_le _, rfl, hJ, F, N, hnx, hst⟩
  rintro k s' ⟨i, m, nx, gs, h, tk, rfl, hin, rfl, hJ, F, N, hnx, hst⟩
  have hI0' : ∀ b o, h₀.get? b = some o → b ≠ I := fun b o e q => by rw [q, hI0] at e; cases e
  rcases Nat.lt_or_ge i n with hlt | hge
  · refine W.item i _ _ _ hlt hst fun v h₃ tk₃ hP hst₃ hk₃ => ?_
    have hk : ∀ b o, b ≠ I → h.get? b = some o → h₃.get? b = some o := fun b o hb e => hk₃ b o (fun q => hb (List.mem_singleton.mp q)) e
    refine wpAny_assign_Name (wpAny_storeName_local hx (F.ns.at fun o e => hk _ _ (Ne.symm hIL) e) (fun h₄ hn₄ hs₄ => ?_) hp)
    have hlL : l ≠ env.locals := (N _ (hJl _ _ _ _ hJ)).2.1
    have hst₄ : St (i + 1) h₄ := W.frame _ _ _ hst₃ fun b hb o e => by
      rcases List.mem_cons.mp hb with rfl | hb
      · exact hs₄.extBut _ _ hIL e
      · rw [List.mem_singleton.mp hb] at e ⊢; exact hs₄.extBut _ _ hlL e
    obtain ⟨io, hio, hcls⟩ := hSt _ _ hst₄
    have F₄ : Fr h₀ env.locals h₄ (fun y => if y = x then some v else m y) := ⟨hn₄, fun b o e => hs₄.extBut b o (Nat.ne_of_lt (Nat.lt_of_lt_of_le (Heap.lt_size e) F.above)) (hk b o (hI0' b o e) (F.keep b o e)), F.above⟩
    have N₄ : News h₀ env.locals h₄ (nx ++ [(I, io)]) := fun p hp => by
      rcases List.mem_append.mp hp with q | q
      · exact ⟨hs₄.extBut _ _ (N p q).2.1 (hk _ _ (hnx p q) (N p q).1), (N p q).2⟩
      · rw [List.mem_singleton.mp q]; exact ⟨hio, hIL, hI0⟩
    refine wpAny_passesOwn hE (wpAny_mono (turn i v m nx gs h₄ _ I io hlt hP hJ F₄ N₄ hcls hnx) (fun f s' q => ?_) fun _ _ e => e)
    have fin : (∃ h' gs' tk' m' nx', s' = ⟨h', gs', dr, tk', os⟩ ∧ Fr h₀ env.locals h' m' ∧ News h₀ env.locals h' (nx' ++ [(I, io)]) ∧ (∀ p ∈ nx', p.1 ≠ I) ∧ J (i + 1) m' nx' gs') →
        ∃ k', k' < n - i ∧ ∃ i' m nx gs h tk, k' = n - i' ∧ i' ≤ n ∧ s' = ⟨h, gs, dr, tk, os⟩ ∧ J i' m nx gs ∧ Fr h₀ env.locals h m ∧ News h₀ env.locals h nx ∧ (∀ p ∈ nx, p.1 ≠ I) ∧ St i' h := by
      rintro ⟨h', gs', tk', m', nx', rfl, F', N', hnx', hJ'⟩
      refine ⟨n - (i + 1), by omega, i + 1, m', nx', gs', h', tk', rfl, hlt, rfl, hJ', F', fun p hp => N' p (List.mem_append_left _ hp), hnx', W.frame _ _ _ hst₄ fun b hb o e => ?_⟩
      rcases List.mem_cons.mp hb with rfl | hb
      · rw [hio] at e; cases e
        exact (N' _ (List.mem_append_right _ (List.mem_singleton.mpr rfl))).1
      · rw [List.mem_singleton.mp hb] at e ⊢
        have e1 := (N₄ _ (List.mem_append_left _ (hJl _ _ _ _ hJ))).1
        dsimp only at e1
        rw [e1] at e; cases e
        exact (N' _ (List.mem_append_left _ (hJl _ _ _ _ hJ'))).1
    cases f with
    | ret v => exact q
    | brk => exact q.elim
    | next => exact fin q
    | cont => exact fin q
  · obtain rfl : i = n := Nat.le_antisymm hin hge
    refine W.done _ _ _ hst fun h₃ tk₃ hk₃ => ?_
    have hk : ∀ b o, b ≠ I → h.get? b = some o → h₃.get? b = some o := fun b o hb e => hk₃ b o (fun q => hb (List.mem_singleton.mp q)) e
    refine wpAny_execs_nil ?_
    exact done m nx gs h₃ _ hJ ⟨F.ns.at fun o e => hk _ _ (Ne.symm hIL) e, fun b o e => hk b o (hI0' b o e) (F.keep b o e), F.above⟩ fun p hp => ⟨hk _ _ (hnx p hp) (N p hp).1, (N p hp).2⟩
/-- a loop over a list of the call's own -/
theorem forList {x : Str} {px pos : Pos} {iter : Expr} {body : List Stmt} {Q : Flow → Shared → Prop} (J : Nat → (Str → Option Value) → List (Addr × Obj) → Array GenState → Prop)
    (h : wpAny (model prog w) A (eval iter env) (fun xv s₁ => Stop (∃ l items nn m nx, xv = .ref l ∧ Fr h₀ env.locals s₁.heap m ∧ News h₀ env.locals s₁.heap nx ∧ J 0 m nx s₁.gens ∧ (∀ i m nx gs, J i m nx gs → (l, W.listOf items nn) ∈ nx) ∧
      LoopBody prog w A E env h₀ x body Q J items.size (fun i v => items[i]? = some v) "list_iterator" s₁.drawn s₁.os ∧
      (∀ m nx gs h tk, J items.size m nx gs → Fr h₀ env.locals h m → News h₀ env.locals h nx → Q .next ⟨h, gs, s₁.drawn, tk, s₁.os⟩))) E s)
    (hh : A.handled = none) (hx : env.kindOf x = some .local) (hp : (env.scope.kind == .class || (env.scope.kind == .module && env.locals != env.globals)) = false)
    (hs : ∀ x, foldedSetIterable iter env x = pure x := by intro _; rfl)
    (hE : PassesOwn (model prog w) A env E := by passes_own) :
    wpAny (model prog w) A (exec (.For (.Name x px) iter body [] pos) env) Q E s := by
  refine wpAny_For (wpAny_mono h (fun xv s₁ h₁ => ?_) fun _ _ e => e) hs
  obtain ⟨l, items, nn, m, nx, rfl, F, N, hJ, hJl, turn, done⟩ := h₁
  have hlN := N _ (hJl _ _ _ _ hJ)
  have hl : s₁.heap.IsList l items := ⟨_, hlN.1, rfl, _, rfl⟩
  refine wpAny_pyIter_list hl ?_
  have hlt := Heap.lt_size hlN.1
  have hne : l ≠ s₁.heap.objs.size := Nat.ne_of_lt hlt
  obtain ⟨hp1, gs1, dr1, tk1, os1⟩ := s₁
  refine forCore (lo := W.listOf items nn) (c := "list_iterator") J (Walks.list hh _ l hne items) (fun i h st => ?_) ⟨⟨_, Heap.get?_push_size _ rfl, rfl, rfl⟩, hl.push _⟩ (F.push _) (fun p hp => ⟨Heap.get?_push_of_some _ (N p hp).1, (N p hp).2⟩) hJ hJl (fun p hp => Nat.ne_of_lt (Heap.lt_size (N p hp).1)) ?_ ?_ turn done hx hp hE
  · obtain ⟨o, e, hc, _⟩ := st.1
    exact ⟨o, e, hc⟩
  · cases e : h₀.get? hp1.objs.size with
    | none => rfl
    | some o => exact absurd (Heap.lt_size (F.keep _ _ e)) (Nat.lt_irrefl _)
  · exact Nat.ne_of_gt F.ns.lt
/-- a loop over a tuple of the call's own -/
theorem forTuple {x : Str} {px pos : Pos} {iter : Expr} {body : List Stmt} {Q : Flow → Shared → Prop}
    (h : wpAny (model prog w) A (eval iter env) (fun xv s₁ => Stop (∃ J : Nat → (Str → Option Value) → List (Addr × Obj) → Array GenState → Prop, ∃ l items lo m nx, xv = .ref l ∧ s₁.heap.IsTuple l items ∧ Fr h₀ env.locals s₁.heap m ∧ News h₀ env.locals s₁.heap nx ∧ J 0 m nx s₁.gens ∧ (∀ i m nx gs, J i m nx gs → (l, lo) ∈ nx) ∧
      LoopBody prog w A E env h₀ x body Q J items.size (fun i v => items[i]? = some v) "tuple_iterator" s₁.drawn s₁.os ∧
      (∀ m nx gs h tk, J items.size m nx gs → Fr h₀ env.locals h m → News h₀ env.locals h nx → Q .next ⟨h, gs, s₁.drawn, tk, s₁.os⟩))) E s)
    (hh : A.handled = none) (hx : env.kindOf x = some .local) (hp : (env.scope.kind == .class || (env.scope.kind == .module && env.locals != env.globals)) = false)
    (hs : ∀ x, foldedSetIterable iter env x = pure x := by intro _; rfl)
    (hE : PassesOwn (model prog w) A env E := by passes_own) :
    wpAny (model prog w) A (exec (.For (.Name x px) iter body [] pos) env) Q E s := by
  refine wpAny_For (wpAny_mono h (fun xv s₁ h₁ => ?_) fun _ _ e => e) hs
  obtain ⟨J, l, items, lo, m, nx, rfl, hl, F, N, hJ, hJl, turn, done⟩ := h₁
  have hlN := N _ (hJl _ _ _ _ hJ)
  refine wpAny_pyIter_tuple hl ?_
  have hlt := Heap.lt_size hlN.1
  have hne : l ≠ s₁.heap.objs.size := Nat.ne_of_lt hlt
  obtain ⟨hp1, gs1, dr1, tk1, os1⟩ := s₁
  refine forCore (lo := lo) (c := "tuple_iterator") J (Walks.tuple hh _ l hne items) (fun i h st => ?_) ⟨⟨_, Heap.get?_push_size _ rfl, rfl, rfl⟩, hl.push _⟩ (F.push _) (fun p hp => ⟨Heap.get?_push_of_some _ (N p hp).1, (N p hp).2⟩) hJ hJl (fun p hp => Nat.ne_of_lt (Heap.lt_size (N p hp).1)) ?_ ?_ turn done hx hp hE
  · obtain ⟨o, e, hc, _⟩ := st.1
    exact ⟨o, e, hc⟩
  · cases e : h₀.get? hp1.objs.size with
    | none => rfl
    | some o => exact absurd (Heap.lt_size (F.keep _ _ e)) (Nat.lt_irrefl _)
  · exact Nat.ne_of_gt F.ns.lt
end
end
end Mine

-- LwA
namespace Mine
open PySem PySem.W PyProof.Rows PySem.Spec PySem.Calls
set_option maxRecDepth 100000
set_option maxHeartbeats 1000000
set_option pp.deepTerms false
set_option pp.deepTerms.threshold 8
set_option pp.fieldNotation false
noncomputable section
local macro_rules | `(tactic| walk_at "m_enterCG") => `(tactic| (refine' enterC ?X ?lim ?g ?gs ?M ?room ?ho ?hcd ?bind ?kind ?nd ?_ ?c1 ?c2 ?c3; (case X => exact Base.X (by with_reducible assumption)); (case lim => exact TopRead.nolimit (Base.T (by with_reducible assumption))); (case g => exact Base.grows (by with_reducible assumption)); (case gs => exact Base.size (by with_reducible assumption)); (case M => with_reducible assumption); (case room => decide); (case ho => k_is); (case hcd => k_is); (case bind => exact BindsTo.of_eq rfl); (case kind => exact rfl); (case nd => decide); (case c1 => exact rfl); (case c2 => exact rfl); (case c3 => exact rfl); k_whole; intro h' tk' cells' F' N' Y' l1; (try dsimp only); (try dsimp only at F' N'); (k_cells Y'); (try simp only [List.append_nil, List.cons_append, List.nil_append] at N'); (try k_fold)))
local macro_rules | `(tactic| walk_at "eval Name") => `(tactic| (k_inBlock; k_dflt (first
  | (refine' nm_L rfl rfl rfl ?hn ?hv ?_; (case hn => assumption); (case hv => assumption); k_whole)
  | (refine' nm_C rfl rfl rfl ?ho ?hd ?_; (case ho => assumption); (case hd => assumption); k_whole)
  | (refine' nm_G rfl rfl rfl ?X ?T ?e ?_; (case X => assumption); (case T => assumption); (case e => k_is); k_whole)
  | (refine' nm_B rfl rfl rfl rfl ?X ?T ?e ?v ?n ?_; (case X => assumption); (case T => assumption); (case e => k_is); (case v => boot_fast); (case n => decide); k_whole))))

local macro_rules | `(tactic| walk_at "eval ListComp") => `(tactic| ((with_reducible show wpAny _ _ (eval (Expr.ListComp _ _ _ _) _) _ _ _); refine halt ?_))
local macro_rules | `(tactic| walk_at "call ref") => `(tactic| ((with_reducible show wpAny _ _ (call (Value.ref _) _) _ _ _); refine halt ?_))
local macro_rules | `(tactic| walk_at "exec For Name Name cons nil") => `(tactic| (refine halt ?_))
local macro_rules | `(tactic| walk_at "exec For Name Tuple cons nil") => `(tactic| (refine halt ?_))
/-! the law -/
theorem ints_of : ∀ {ys : List Value} {ms : List Int}, ys.length = ms.length → (∀ (j : Nat) y, ys[j]? = some y → ∃ t m, ms[j]? = some m ∧ y = .int m t) → IntsAre ys ms
  | [], [], _, _ => .nil
  | y :: r, m :: q, hl, h => by
    obtain ⟨t, m', e, rfl⟩ := h 0 y rfl
    cases e
    exact .cons _ t (ints_of (Nat.succ.inj hl) fun j z hz => h (j + 1) z hz)
theorem ints_at : ∀ {vs : List Value} {ns : List Int}, IntsAre vs ns → ∀ {j : Nat} {v : Value}, vs[j]? = some v → ∃ n t, ns[j]? = some n ∧ v = .int n t
  | _, _, .nil, j, v, e => by simp at e
  | _, _, .cons n t _, 0, v, e => ⟨n, t, rfl, (Option.some.inj e).symm⟩
  | _, _, .cons _ _ r, j + 1, v, e => ints_at r (j := j) (by simpa using e)
def IsRem (v y : Value) : Prop := ∃ i t u, v = .int i t ∧ y = .int (Int.fmod i 1000000) u
def numsL (ns : List Int) : List Int := (ns.take 6).map (fun i => Int.fmod i 1000000) ++ [1205, 427, 974, 1054]
noncomputable def plL (ns : List Int) : Nat → Int
  | 0 => Int.fmod (numsL ns).sum 48
  | i + 1 => Int.fmod (plL ns i + 1 + Int.fmod ((numsL ns).getD i 0) 23) 48
def mkL (ns : List Int) : Nat → Int
  | 0 => 29
  | i + 1 => Int.fdiv ((numsL ns).getD i 0) 23
def colL (ns : List Int) (i : Nat) : UInt64 × UInt64 × UInt64 := colF (plL ns i) (mkL ns i)
/-- a colour's tuple stands beneath or is told -/
def ColIn (g : Heap) (tups : List (Addr × Obj)) (D : Addr) (c : UInt64 × UInt64 × UInt64) : Prop := ∃ ta tb tc, g.get? D = some (tup3 c.1 c.2.1 c.2.2 ta tb tc) ∨ (D, tup3 c.1 c.2.1 c.2.2 ta tb tc) ∈ tups
theorem col_in {g h : Heap} {L D : Addr} {m : Str → Option Value} {c : UInt64 × UInt64 × UInt64} {ta tb tc : Tok} (F : Fr g L h m) (hD : h.get? D = some (tup3 c.1 c.2.1 c.2.2 ta tb tc)) : ∃ tups, News g L h tups ∧ ColIn g tups D c ∧ (∀ p ∈ tups, p.2.cls = .type "tuple" ∧ ∃ xs n, p.2.data = .seq xs n) := by
  cases e : g.get? D with
  | some o =>
    have := F.keep _ _ e
    rw [hD] at this
    exact ⟨[], List.forall_mem_nil _, ⟨ta, tb, tc, .inl (by rw [e, ← this])⟩, List.forall_mem_nil _⟩
  | none =>
    refine ⟨[(D, tup3 c.1 c.2.1 c.2.2 ta tb tc)], List.forall_mem_cons.mpr ⟨⟨hD, ?_, e⟩, List.forall_mem_nil _⟩, ⟨ta, tb, tc, .inr (.head _)⟩, List.forall_mem_cons.mpr ⟨⟨rfl, _, _, rfl⟩, List.forall_mem_nil _⟩⟩
    rintro rfl
    obtain ⟨o, es, ep, ho, hd, _⟩ := F.ns
    rw [hD] at ho
    rw [← Option.some.inj ho] at hd
    cases hd
theorem ColIn.at {g h : Heap} {L D : Addr} {m : Str → Option Value} {tups : List (Addr × Obj)} {c : UInt64 × UInt64 × UInt64} (C : ColIn g tups D c) (F : Fr g L h m) (N : News g L h tups) : ∃ ta tb tc, h.get? D = some (tup3 c.1 c.2.1 c.2.2 ta tb tc) := by
  obtain ⟨ta, tb, tc, e | e⟩ := C
  · exact ⟨ta, tb, tc, F.keep _ _ e⟩
  · exact ⟨ta, tb, tc, (N _ e).1⟩
theorem News.app {g h : Heap} {L : Addr} {a b : List (Addr × Obj)} (N : News g L h a) (N' : News g L h b) : News g L h (a ++ b) := fun p hp => (List.mem_append.mp hp).elim (N p) (N' p)
def LawA : Prop := ∀ {w : World} {mg mb : Str → Option Value} {s : Shared} {Q E : Value → Shared → Prop} {g : Heap} (sl : Addr) (vs : List Value) (ns : List Int)
  (B : Base w mg mb g s.heap) (hl : g.IsList sl vs.toArray) (hi : IntsAre vs ns) (hn : ns.length ≤ 63) (M : ∀ p ∈ [((140 : Addr), tabObj #[]), ((147 : Addr), tabObj #[])], s.heap.get? p.1 = some p.2 ∧ g.get? p.1 = none) (h178 : 178 < s.heap.objs.size) (G : AllBare s.gens)
  (hret : ∀ h' gs' tk', AllBare gs' → Grows g h' → TabI 140 h' → TabI 147 h' → Q (.bool true) ⟨h', gs', s.drawn, tk', s.os⟩),
  wpAny (model PP w) (AD 310) (call (.ref 244) [.ref sl]) Q E s
/-- a proposition held, that no search opens -/
structure Held (P : Prop) : Prop where
  out : P
noncomputable def lawA : (P : Prop) ×' (Held P → LawA) := by
  refine' ⟨_, fun hP => _⟩
  rotate_left
  intro w mg mb s Q E g sl vs ns B hl hi hn M h178 G hret
  have X := B.X
  have T := B.T
  k_dflt walk_at "m_enterCG"
  k_steps
  refine Stop.intro ?_
  k_dflt (refine' compV IsRem ?c1 ?c2 ?c3 ?c4 ?c5 ?_ ?c6; (case c1 => with_unfolding_all rfl); (case c2 => decide); (case c3 => exact rfl); (case c4 => decide); (case c5 => exact rfl); (case c6 => intro _; exact rfl))
  k_steps
  (with_reducible rename Fr _ _ _ _ => F)
  (with_reducible rename News _ _ _ _ => N)
  (with_reducible rename IntsAre _ _ => hI)
  have hI6 : IntsAre _ (ns.take 6) := hI
  have hlen6 := hI6.length
  refine Stop.intro ⟨_, _, ?_, iter_list rfl ⟨_, N.get (.head _), rfl, _, rfl⟩, ?_, ?_⟩
  · rw [sizeLine_eq, List.size_toArray, hlen6]; simp; omega
  · intro C i v s₂ m₂ E' hv hn2 hm hg
    have X2 : (Mine.hd.heap_1 w.params).In s₂.heap := (X.keeps F.keep).keeps hg
    have T2 : TopRead Mine.vw LS mg mb s₂.heap := (T.keeps F.keep).keeps hg
    obtain ⟨c, t, _, rfl⟩ := ints_at hI6 (by simpa using hv)
    clear hg F N hv
    k_steps
    exact Stop.intro ⟨⟨c, t, _, rfl, by rw [show ((10 : Int) ^ Int.toNat 6) = 1000000 by decide]⟩, _, _, rfl, fun _ _ e => e⟩
  · intro D h' tk ys hD hpl hsize hF hg
    have hys : IntsAre ys.toList ((ns.take 6).map fun i => Int.fmod i 1000000) := by
      refine ints_of (by rw [List.length_map, ← hlen6, Array.length_toList, hsize, List.size_toArray]) fun j y e => ?_
      obtain ⟨v, hv, i, t, u, rfl, rfl⟩ := hF j y (by simpa using e)
      obtain ⟨m, t', e1, e2⟩ := ints_at hI6 (by simpa using hv)
      cases e2
      exact ⟨u, _, by rw [List.getElem?_map, e1]; rfl, rfl⟩
    obtain ⟨n, N'⟩ := news_new F N hD hg hpl
    have F' := F.keeps hg
    have hls := hys.length
    clear hF hsize hpl hD hg F N hI6
    dsimp only at N' F' ⊢
    k_steps
    refine Stop.intro ?_
    (with_reducible rename Fr _ _ _ _ => F)
    (with_reducible rename News _ _ _ _ => N)
    (with_reducible rename IntsAre _ _ => hnums)
    refine wpAny_AD 700 rfl (Nat.le_of_ble_eq_true rfl) (Nat.le_of_ble_eq_true rfl) ?_
    have hp0 := Int.fmod_nonneg_of_pos (numsL ns).sum (show (0 : Int) < 48 by decide)
    have hp1 := Int.fmod_lt_of_pos (numsL ns).sum (show (0 : Int) < 48 by decide)
    refine col_spec (Int.fmod (numsL ns).sum 48) 29 _ _ hp0 hp1 (X.keeps F.keep) (T.keeps F.keep) fun D5 ta tb tc h5 tk5 k5 hD5 => ?_
    have F5 := F.keeps k5
    obtain ⟨tups, Nt, C5, Ct⟩ := col_in (c := colL ns 0) F5 hD5
    have N5 := News.app (N.grown k5) Nt
    (simp only [List.cons_append, List.nil_append] at N5)
    clear F N k5 Nt hD5
    k_steps
    refine Stop.intro ?_
    (with_reducible rename Fr _ _ _ _ => F)
    (with_reducible rename News _ _ _ _ => N)
    (with_reducible rename Obj.data _ = _ => hd)
    have N6 : News g s.heap.objs.size _ _ := List.forall_mem_cons.mpr ⟨N _ (.head _), List.forall_mem_cons.mpr ⟨N _ (.tail _ (.head _)), List.forall_mem_cons.mpr ⟨N _ (.tail _ (.tail _ (.head _))), List.forall_mem_cons.mpr ⟨N _ (.tail _ (.tail _ (.tail _ (.tail _ (.tail _ (.tail _ (.head _))))))), List.forall_mem_cons.mpr ⟨N _ (.tail _ (.tail _ (.tail _ (.tail _ (.tail _ (.tail _ (.tail _ (.head _)))))))), List.forall_mem_cons.mpr ⟨N _ (.tail _ (.tail _ (.tail _ (.tail _ (.tail _ (.tail _ (.tail _ (.tail _ (.head _))))))))), fun p hp => N p (.tail _ (.tail _ (.tail _ (.tail _ (.tail _ (.tail _ (.tail _ (.tail _ (.tail _ hp)))))))))⟩⟩⟩⟩⟩⟩
    clear N
    rename_i nl wsv e1 e2 e3 e4 e5 tkp e7 pl e8 e9 e10 e11 e12 cl e13 e14 hh
    clear e2 M hI hlen6 hys hls hp0 hp1
    revert w mg mb s Q E g sl vs ns D5 tups nl wsv tkp pl cl hh tk
    repeat' (rename _ => zz; revert zz)
    exact Held.out
end
end Mine

-- LwB
namespace Mine
open PySem PySem.W PyProof.Rows PySem.Spec PySem.Calls
set_option maxRecDepth 100000
set_option maxHeartbeats 1000000
set_option pp.deepTerms false
set_option pp.deepTerms.threshold 8
set_option pp.fieldNotation false
noncomputable section
local macro_rules | `(tactic| walk_at "m_enterCG") => `(tactic| (refine' enterC ?X ?lim ?g ?gs ?M ?room ?ho ?hcd ?bind ?kind ?nd ?_ ?c1 ?c2 ?c3; (case X => exact Base.X (by with_reducible assumption)); (case lim => exact TopRead.nolimit (Base.T (by with_reducible assumption))); (case g => exact Base.grows (by with_reducible assumption)); (case gs => exact Base.size (by with_reducible assumption)); (case M => with_reducible assumption); (case room => decide); (case ho => k_is); (case hcd => k_is); (case bind => exact BindsTo.of_eq rfl); (case kind => exact rfl); (case nd => decide); (case c1 => exact rfl); (case c2 => exact rfl); (case c3 => exact rfl); k_whole; intro h' tk' cells' F' N' Y' l1; (try dsimp only); (try dsimp only at F' N'); (k_cells Y'); (try simp only [List.append_nil, List.cons_append, List.nil_append] at N'); (try k_fold)))
local macro_rules | `(tactic| walk_at "eval Name") => `(tactic| (k_inBlock; k_dflt (first
  | (refine' nm_L rfl rfl rfl ?hn ?hv ?_; (case hn => assumption); (case hv => assumption); k_whole)
  | (refine' nm_C rfl rfl rfl ?ho ?hd ?_; (case ho => assumption); (case hd => assumption); k_whole)
  | (refine' nm_G rfl rfl rfl ?X ?T ?e ?_; (case X => assumption); (case T => assumption); (case e => k_is); k_whole)
  | (refine' nm_B rfl rfl rfl rfl ?X ?T ?e ?v ?n ?_; (case X => assumption); (case T => assumption); (case e => k_is); (case v => boot_fast); (case n => decide); k_whole))))

local macro_rules | `(tactic| walk_at "eval ListComp") => `(tactic| ((with_reducible show wpAny _ _ (eval (Expr.ListComp _ _ _ _) _) _ _ _); refine halt ?_))
local macro_rules | `(tactic| walk_at "call ref") => `(tactic| ((with_reducible show wpAny _ _ (call (Value.ref _) _) _ _ _); refine halt ?_))
local macro_rules | `(tactic| walk_at "exec For Name Name cons nil") => `(tactic| (refine halt ?_))
local macro_rules | `(tactic| walk_at "exec For Name Tuple cons nil") => `(tactic| (refine halt ?_))
local macro_rules | `(tactic| walk_at "subscriptTail Name UnaryOp ref int") => `(tactic| (refine halt ?_))
local macro_rules | `(tactic| walk_at "call builtin:list.append") => `(tactic| (refine halt ?_))
theorem item_neg {prog : Program} {w : World} {A : Around} {E : Value → Shared → Prop} {s : Shared} {value slice : Expr} {l : Addr} {its : Array Value} {u : Tok} {x : Value} {Q : Value → Shared → Prop} (hl : s.heap.IsList l its) (hsz : its.size ≤ 1000) (hx : its[its.size - 1]? = some x) (h0 : 0 < its.size) (h : Q x s)
    (hs : subscripted slice false (.ref l) (.int (-1) u) = operate [.ref l, .int (-1) u] (getItem (.ref l) (.int (-1) u)) := by with_unfolding_all rfl) :
    wpAny (model prog w) A (subscriptTail value slice (.ref l) (.int (-1) u)) Q E s :=
  tail_any hl.typeIs slot_list_getitem.lookup (wpAny_getItem_list_neg hl (by decide) (by omega) (by decide) (by rw [show ((-1 : Int) + (its.size : Int)).toNat = its.size - 1 by omega]; exact hx) h) hs
theorem map_three {m : Str → Option Value} {a b c : Str} {u v w : Value} (ha : m a = some u) (hb : m b = some v) (hc : m c = some w) : m = fun y => if y = a then some u else if y = b then some v else if y = c then some w else m y := by
  funext y
  split
  · rename_i e; rw [e, ha]
  · split
    · rename_i e; rw [e, hb]
    · split
      · rename_i e; rw [e, hc]
      · rfl
theorem last_int {vs : List Value} {f : Nat → Int} {i : Nat} (h : IntsAre vs ((List.range (i + 1)).map f)) : ∃ t, vs.toArray[vs.toArray.size - 1]? = some (.int (f i) t) := by
  have hl := h.length
  rw [List.length_map, List.length_range] at hl
  obtain ⟨t, e⟩ := h.get i (f i) (by simp)
  exact ⟨t, by rw [List.size_toArray, hl]; simpa using e⟩
theorem ints_snoc {vs : List Value} {f : Nat → Int} {i : Nat} {t : Tok} (h : IntsAre vs ((List.range (i + 1)).map f)) : IntsAre (vs ++ [.int (f (i + 1)) t]) ((List.range (i + 1 + 1)).map f) := by
  rw [List.range_succ, List.map_append]
  exact h.append (.cons _ t .nil)
/-- between the turns of the loop that lays the colours -/
def ColsJ (g : Heap) (ns : List Int) (cl pl nl c : Addr) (oc : Obj) (wsv : List Value) (gs₀ : Array GenState) (i : Nat) (m : Str → Option Value) (nx : List (Addr × Obj)) (gs : Array GenState) : Prop :=
  gs = gs₀ ∧ ∃ (pv : List Value) (pn cn : Nat) (ds : List Addr) (tups : List (Addr × Obj)), nx = (cl, W.listOf (List.toArray (ds.map Value.ref)) cn) :: (pl, W.listOf (List.toArray pv) pn) :: (nl, W.listOf wsv.toArray 0) :: (c, oc) :: ((140 : Addr), tabObj #[]) :: ((147 : Addr), tabObj #[]) :: tups ∧ IntsAre pv ((List.range (i + 1)).map (plL ns)) ∧
    ds.length = i + 1 ∧ (∀ j D, ds[j]? = some D → ColIn g tups D (colL ns j)) ∧ (∀ p ∈ tups, p.2.cls = .type "tuple" ∧ ∃ xs n, p.2.data = .seq xs n) ∧ m (Str.ofString "colours") = some (.ref cl) ∧ m (Str.ofString "places") = some (.ref pl) ∧ m (Str.ofString "numbers") = some (.ref nl)
theorem ne_cls {h : Heap} {a b : Addr} {oa ob : Obj} (ha : h.get? a = some oa) (hb : h.get? b = some ob) (hc : oa.cls ≠ ob.cls) : a ≠ b := by
  rintro rfl
  rw [ha] at hb
  exact hc (by rw [Option.some.inj hb])
theorem news_snoc {g h : Heap} {L a b : Addr} {o : Obj} {pv : List Value} {f : Nat → Int} {i n : Nat} {t : Tok} {r : List (Addr × Obj)} (N : News g L h ((a, o) :: (b, W.listOf (List.toArray (pv ++ [.int (f (i + 1)) t])) n) :: r)) (hp : IntsAre pv ((List.range (i + 1)).map f)) :
    ∃ pv2, IntsAre pv2 ((List.range (i + 1 + 1)).map f) ∧ News g L h ((a, o) :: (b, W.listOf (List.toArray pv2) n) :: r) := ⟨_, ints_snoc hp, N⟩
theorem pl_in (ns : List Int) : ∀ i, 0 ≤ plL ns i ∧ plL ns i < 48
  | 0 => ⟨Int.fmod_nonneg_of_pos _ (by decide), Int.fmod_lt_of_pos _ (by decide)⟩
  | _ + 1 => ⟨Int.fmod_nonneg_of_pos _ (by decide), Int.fmod_lt_of_pos _ (by decide)⟩
noncomputable def lawB : (P : Prop) ×' (Held P → lawA.1) := by
  refine' ⟨_, fun hP => _⟩
  rotate_left
  intro w
  unhygienic intros
  rename Obj => oc
  have hnl : (numsL ns).length ≤ 10 := by
    unfold numsL
    rw [List.length_append, List.length_map, List.length_take]
    simp; omega
  have hns : IntsAre wsv (numsL ns) := hnums
  have hnsl := hns.length
  refine forList (h₀ := g) (ColsJ g ns cl pl nl (s.heap.objs.size + 1) oc wsv s.gens) ?_ rfl rfl rfl
  · k_steps
    refine Stop.intro ⟨nl, wsv.toArray, 0, _, _, rfl, F, N6, ⟨rfl, _, _, _, [D5], tups, rfl, .cons _ _ .nil, rfl, fun j D e => ?_, Ct, rfl, rfl, rfl⟩, ?_, ?_, ?_⟩
    · cases j with
      | zero => cases e; exact C5
      | succ j => cases e
    · rintro i m nx gs ⟨_, pv, pn, cn, ds, tups, rfl, _⟩
      exact .tail _ (.tail _ (.head _))
    · clear F N6 C5 Ct
      rintro i v m nx gs h2 tk2 I io hi2 hv ⟨rfl, pv, pn, cn, ds, tups, rfl, hpv, hds, hcol, Ct, hmc, hmp, hmn⟩ F N hio hI
      rw [map_three hmc hmp hmn] at F
      rw [List.size_toArray, hnsl] at hi2
      obtain ⟨k, t, hk, rfl⟩ := ints_at hns (by simpa using hv)
      have hkd : (numsL ns).getD i 0 = k := by rw [List.getD_eq_getElem?_getD, hk]; rfl
      simp only [List.cons_append, List.nil_append] at N
      have hpvl := hpv.length
      rw [List.length_map, List.length_range] at hpvl
      have hplr := pl_in ns i
      have hcp : cl ≠ pl := Nat.ne_of_gt e14.1
      have hnp : nl ≠ pl := Nat.ne_of_lt e9.1
      have hoff : ∀ (a : Addr) (o : Obj), o.cls = .type "list" → h2.get? a = some o → ∀ p ∈ tups ++ [(I, io)], p.1 ≠ a := fun a o ho ha p hp => by
        refine ne_cls (N _ (.tail _ (.tail _ (.tail _ (.tail _ (.tail _ (.tail _ hp))))))).1 ha ?_
        rw [ho]
        rcases List.mem_append.mp hp with q | q
        · rw [(Ct p q).1]; decide
        · rw [List.mem_singleton.mp q, hio]; decide
      have hoffp := hoff pl _ rfl (N.get (.tail _ (.head _)))
      have hoffc := hoff cl _ rfl (N.get (.head _))
      k_steps
      refine Stop.intro ?_
      obtain ⟨tl, hlast⟩ := last_int hpv
      refine item_neg (l := pl) ⟨_, N.get (.tail _ (.head _)), rfl, _, rfl⟩ (by rw [List.size_toArray]; omega) hlast (by rw [List.size_toArray]; omega) ?_
      k_steps
      refine Stop.intro ?_
      have hg4 : ∀ p ∈ ((s.heap.objs.size + 1, oc) : Addr × Obj) :: ((140 : Addr), tabObj #[]) :: ((147 : Addr), tabObj #[]) :: (tups ++ [(I, io)]), p.1 ≠ pl :=
        List.forall_mem_cons.mpr ⟨Nat.ne_of_lt e9.2.2.2.2.1, List.forall_mem_cons.mpr ⟨Nat.ne_of_lt e9.2.2.2.2.2.1, List.forall_mem_cons.mpr ⟨Nat.ne_of_lt e9.2.2.2.2.2.2, hoffp⟩⟩⟩
      have hg5 : ∀ p ∈ ((s.heap.objs.size + 1, oc) : Addr × Obj) :: ((140 : Addr), tabObj #[]) :: ((147 : Addr), tabObj #[]) :: (tups ++ [(I, io)]), p.1 ≠ cl :=
        List.forall_mem_cons.mpr ⟨Nat.ne_of_lt e14.2.2.2.2.2.1, List.forall_mem_cons.mpr ⟨Nat.ne_of_lt e14.2.2.2.2.2.2.1, List.forall_mem_cons.mpr ⟨Nat.ne_of_lt e14.2.2.2.2.2.2.2.1, hoffc⟩⟩⟩
      refine append_K F N (Upd.tail hcp (Upd.head (List.forall_mem_cons.mpr ⟨hnp, hg4⟩))) (fun h3 F3 N3 => ?_) (by rw [sizeLine_eq, List.size_toArray]; omega)
      have ev : Int.fmod (plL ns i + 1 + Int.fmod k 23) 48 = plL ns (i + 1) := by
        show _ = Int.fmod (plL ns i + 1 + Int.fmod ((numsL ns).getD i 0) 23) 48
        rw [hkd]
      rw [ev, List.push_toArray] at N3
      obtain ⟨pv2, hpv2, N3⟩ := news_snoc N3 hpv
      have hpvl2 := hpv2.length
      rw [List.length_map, List.length_range] at hpvl2
      have hplr2 := pl_in ns (i + 1)
      clear F N
      k_steps
      refine Stop.intro ?_
      obtain ⟨tl2, hlast2⟩ := last_int hpv2
      refine item_neg (l := pl) ⟨_, N3.get (.tail _ (.head _)), rfl, _, rfl⟩ (by rw [List.size_toArray]; omega) hlast2 (by rw [List.size_toArray]; omega) ?_
      k_steps
      refine Stop.intro ?_
      refine wpAny_AD 700 rfl (Nat.le_of_ble_eq_true rfl) (Nat.le_of_ble_eq_true rfl) ?_
      refine col_spec (plL ns (i + 1)) (Int.fdiv k 23) _ _ hplr2.1 hplr2.2 (X.keeps F3.keep) (T.keeps F3.keep) fun D5 ta tb tc h5 tk5 k5 hD5 => ?_
      have F5 := F3.keeps k5
      have ec : colF (plL ns (i + 1)) (Int.fdiv k 23) = colL ns (i + 1) := by
        show _ = colF (plL ns (i + 1)) (Int.fdiv ((numsL ns).getD i 0) 23)
        rw [hkd]
      rw [ec] at hD5
      have N5 := N3.grown k5
      have hDI : D5 ≠ I := ne_cls hD5 (N5 _ (.tail _ (.tail _ (.tail _ (.tail _ (.tail _ (.tail _ (List.mem_append_right _ (.head _))))))))).1 (by rw [hio]; show Value.type "tuple" ≠ Value.type "list_iterator"; decide)
      obtain ⟨tups2, Nt, C5, Ct2⟩ := col_in (c := colL ns (i + 1)) F5 hD5
      have N6 := News.app N5 Nt
      (simp only [List.cons_append, List.append_assoc, List.nil_append] at N6)
      have hoff2 : ∀ p ∈ tups ++ (I, io) :: tups2, p.1 ≠ cl := fun p hp => by
        rcases List.mem_append.mp hp with q | q
        · exact hoffc p (List.mem_append_left _ q)
        · rcases List.mem_cons.mp q with q | q
          · rw [q]; exact hoffc _ (List.mem_append_right _ (.head _))
          · exact ne_cls (Nt p q).1 (N5.get (.head _)) (by rw [(Ct2 p q).1]; show Value.type "tuple" ≠ Value.type "list"; decide)
      have hI2 : ∀ p ∈ tups2, p.1 ≠ I := fun p hp => ne_cls (Nt p hp).1 (N5 _ (.tail _ (.tail _ (.tail _ (.tail _ (.tail _ (.tail _ (List.mem_append_right _ (.head _))))))))).1 (by rw [(Ct2 p hp).1, hio]; decide)
      clear F3 N3 k5 N5 Nt hDI hD5 ec
      k_steps
      refine Stop.intro ?_
      refine append_K F5 N6 (Upd.head (List.forall_mem_cons.mpr ⟨hcp.symm, List.forall_mem_cons.mpr ⟨Nat.ne_of_lt e14.2.1, List.forall_mem_cons.mpr ⟨Nat.ne_of_lt e14.2.2.2.2.2.1, List.forall_mem_cons.mpr ⟨Nat.ne_of_lt e14.2.2.2.2.2.2.1, List.forall_mem_cons.mpr ⟨Nat.ne_of_lt e14.2.2.2.2.2.2.2.1, hoff2⟩⟩⟩⟩⟩)) (fun h6 F7 N7 => ?_) (by rw [sizeLine_eq, List.size_toArray, List.length_map]; omega)
      rw [List.push_toArray, show ds.map Value.ref ++ [Value.ref D5] = (ds ++ [D5]).map Value.ref by rw [List.map_append]; rfl] at N7
      refine wpAny_execs_nil ?_
      refine Stop.intro ⟨h6, _, _, _, (cl, W.listOf (List.toArray ((ds ++ [D5]).map Value.ref)) (cn + 1)) :: (pl, W.listOf (List.toArray pv2) (pn + 1)) :: (nl, W.listOf wsv.toArray 0) :: (s.heap.objs.size + 1, oc) :: ((140 : Addr), tabObj #[]) :: ((147 : Addr), tabObj #[]) :: (tups ++ tups2), rfl, F7, ?_, ?_, rfl, pv2, pn + 1, cn + 1, ds ++ [D5], tups ++ tups2, rfl, hpv2, by rw [List.length_append, hds]; rfl, ?_, ?_, rfl, rfl, rfl⟩
      · intro p hp
        refine N7 p ?_
        simp only [List.cons_append, List.append_assoc, List.mem_cons, List.mem_append, List.nil_append, List.not_mem_nil, or_false] at hp ⊢
        rcases hp with q | q | q | q | q | q | q | q | q <;> simp [q]
      · intro p hp
        simp only [List.mem_cons, List.mem_append] at hp
        rcases hp with q | q | q | q | q | q | q | q
        · rw [q]; show cl ≠ I; exact hI (cl, _) (.head _)
        · rw [q]; show pl ≠ I; exact hI (pl, _) (.tail _ (.head _))
        · rw [q]; exact hI _ (.tail _ (.tail _ (.head _)))
        · rw [q]; exact hI _ (.tail _ (.tail _ (.tail _ (.head _))))
        · rw [q]; exact hI _ (.tail _ (.tail _ (.tail _ (.tail _ (.head _)))))
        · rw [q]; exact hI _ (.tail _ (.tail _ (.tail _ (.tail _ (.tail _ (.head _))))))
        · exact hI p (.tail _ (.tail _ (.tail _ (.tail _ (.tail _ (.tail _ q))))))
        · exact hI2 p q
      · intro j D e
        rcases Nat.lt_or_ge j ds.length with q | q
        · rw [List.getElem?_append_left q] at e
          obtain ⟨ta, tb, tc, z⟩ := hcol j D e
          exact ⟨ta, tb, tc, z.imp id fun y => List.mem_append_left _ y⟩
        · rw [List.getElem?_append_right q] at e
          cases hj : j - ds.length with
          | zero =>
            rw [hj] at e; cases e
            obtain rfl : j = i + 1 := by omega
            obtain ⟨ta, tb, tc, z⟩ := C5
            exact ⟨ta, tb, tc, z.imp id fun y => List.mem_append_right _ y⟩
          | succ k' => rw [hj] at e; cases e
      · intro p hp
        exact (List.mem_append.mp hp).elim (Ct p) (Ct2 p)
    · clear F N6 C5 Ct
      rintro m nx gs h2 tk2 ⟨rfl, pv, pn, cn, ds, tups, rfl, hpv, hds, hcol, Ct, hmc, hmp, hmn⟩ F N
      rw [map_three hmc hmp hmn] at F
      rw [List.size_toArray, hnsl] at hds hpv
      dsimp only
      have hN : News g s.heap.objs.size h2 ((cl, W.listOf (List.toArray (ds.map Value.ref)) cn) :: (nl, W.listOf wsv.toArray 0) :: (s.heap.objs.size + 1, oc) :: ((140 : Addr), tabObj #[]) :: ((147 : Addr), tabObj #[]) :: tups) :=
        List.forall_mem_cons.mpr ⟨N _ (.head _), fun p hp => N p (.tail _ (.tail _ hp))⟩
      clear N hpv
      revert w_1 mg mb s Q E g sl vs ns nl wsv oc pl cl m h2 tk2 cn ds tups
      repeat' (rename _ => zz; revert zz)
      exact Held.out
end
end Mine

-- LwC
namespace Mine
open PySem PySem.W PyProof.Rows PySem.Spec PySem.Calls
set_option maxRecDepth 100000
set_option maxHeartbeats 1000000
set_option pp.deepTerms false
set_option pp.deepTerms.threshold 8
set_option pp.fieldNotation false
noncomputable section
local macro_rules | `(tactic| walk_at "m_enterCG") => `(tactic| (refine' enterC ?X ?lim ?g ?gs ?M ?room ?ho ?hcd ?bind ?kind ?nd ?_ ?c1 ?c2 ?c3; (case X => exact Base.X (by with_reducible assumption)); (case lim => exact TopRead.nolimit (Base.T (by with_reducible assumption))); (case g => exact Base.grows (by with_reducible assumption)); (case gs => exact Base.size (by with_reducible assumption)); (case M => with_reducible assumption); (case room => decide); (case ho => k_is); (case hcd => k_is); (case bind => exact BindsTo.of_eq rfl); (case kind => exact rfl); (case nd => decide); (case c1 => exact rfl); (case c2 => exact rfl); (case c3 => exact rfl); k_whole; intro h' tk' cells' F' N' Y' l1; (try dsimp only); (try dsimp only at F' N'); (k_cells Y'); (try simp only [List.append_nil, List.cons_append, List.nil_append] at N'); (try k_fold)))
local macro_rules | `(tactic| walk_at "eval Name") => `(tactic| (k_inBlock; k_dflt (first
  | (refine' nm_L rfl rfl rfl ?hn ?hv ?_; (case hn => assumption); (case hv => assumption); k_whole)
  | (refine' nm_C rfl rfl rfl ?ho ?hd ?_; (case ho => assumption); (case hd => assumption); k_whole)
  | (refine' nm_G rfl rfl rfl ?X ?T ?e ?_; (case X => assumption); (case T => assumption); (case e => k_is); k_whole)
  | (refine' nm_B rfl rfl rfl rfl ?X ?T ?e ?v ?n ?_; (case X => assumption); (case T => assumption); (case e => k_is); (case v => boot_fast); (case n => decide); k_whole))))

local macro_rules | `(tactic| walk_at "exec Assign cons ListComp") => `(tactic| ((first | (with_reducible show wpAny _ _ (exec (Stmt.Assign [Expr.Name (Str.ofString "words") _] _ _) _) _ _ _) | (with_reducible show wpAny _ _ (exec (Stmt.Assign [Expr.Name (Str.ofString "points") _] _ _) _) _ _ _)); refine halt ?_))
local macro_rules | `(tactic| walk_at "eval ListComp") => `(tactic| ((with_reducible show wpAny _ _ (eval (Expr.ListComp _ _ _ _) _) _ _ _); refine halt ?_))
local macro_rules | `(tactic| walk_at "call ref") => `(tactic| ((with_reducible show wpAny _ _ (call (Value.ref _) _) _ _ _); refine halt ?_))
local macro_rules | `(tactic| walk_at "exec For Name Name cons nil") => `(tactic| (refine halt ?_))
local macro_rules | `(tactic| walk_at "exec For Name Tuple cons nil") => `(tactic| (refine halt ?_))
local macro_rules | `(tactic| walk_at "subscriptTail Name UnaryOp ref int") => `(tactic| (refine halt ?_))
local macro_rules | `(tactic| walk_at "call builtin:list.append") => `(tactic| (refine halt ?_))
/-- the place told of a colour's tuple -/
def IsTold (h : Heap) (v y : Value) : Prop := ∃ D a b c ta tb tc t, v = .ref D ∧ h.get? D = some (tup3 a b c ta tb tc) ∧ y = .int (placeI a b c) t
theorem col_okL (ns : List Int) (j : Nat) : ∃ c, 1 ≤ c ∧ c ≤ 32 ∧ ColOk (plL ns j).toNat c (colL ns j).1 (colL ns j).2.1 (colL ns j).2.2 := by
  obtain ⟨h0, h1⟩ := pl_in ns j
  have e : ((plL ns j).toNat : Int) = plL ns j := Int.toNat_of_nonneg h0
  have := col_ok (p := (plL ns j).toNat) (by omega) (mkL ns j)
  rw [e] at this
  exact this
theorem told_at {g h : Heap} {L : Addr} {m : Str → Option Value} {tups : List (Addr × Obj)} {ns : List Int} {ds : List Addr} {j : Nat} {y : Value} (F : Fr g L h m) (N : News g L h tups) (hcol : ∀ j D, ds[j]? = some D → ColIn g tups D (colL ns j)) {v : Value} (hv : (ds.map Value.ref)[j]? = some v) (hy : IsTold h v y) : ∃ t, y = .int (plL ns j) t := by
  obtain ⟨D, a, b, c, ta, tb, tc, t, rfl, hD, rfl⟩ := hy
  rw [List.getElem?_map] at hv
  obtain ⟨D', e1, e2⟩ := Option.map_eq_some_iff.mp hv
  cases e2
  obtain ⟨ua, ub, uc, hD2⟩ := (hcol j D e1).at F N
  rw [hD] at hD2
  have e := congrArg Obj.data (Option.some.inj hD2)
  simp only [tup3, Data.seq.injEq, and_true] at e
  injection e with e
  injection e with e3 e
  injection e with e4 e
  injection e with e5 _
  injection e3 with e3 _
  injection e4 with e4 _
  injection e5 with e5 _
  obtain ⟨k, _, _, hk⟩ := col_okL ns j
  refine ⟨t, ?_⟩
  rw [e3, e4, e5, hk.place, Int.toNat_of_nonneg (pl_in ns j).1]
local macro_rules | `(tactic| walk_at "subscriptTail") => `(tactic| ((with_reducible show wpAny _ _ (subscriptTail _ _ (Value.ref _) (Value.int _ _)) _ _ _); refine halt ?_))
local macro_rules | `(tactic| walk_at "binaryOp Add str str") => `(tactic| (refine halt ?_))
/-- the law's step and its word -/
def stepL (ns : List Int) (i : Nat) : Int := Int.fmod (plL ns (i + 1) - plL ns i - 1) 48
def wordL (ns : List Int) (i : Nat) : Str := Txt.mul (Str.ofString "x") (stepL ns i) ++ Str.ofString ";"
theorem mulx_len (ns : List Int) (i : Nat) : ((Txt.mul (Str.ofString "x") (stepL ns i)).length : Int) = stepL ns i := by
  have h0 : 0 ≤ stepL ns i := Int.fmod_nonneg_of_pos _ (by decide)
  have e := len_mul (Str.ofString "x") (stepL ns i)
  rw [if_neg (by rw [decide_eq_true_eq]; omega), show (((Str.ofString "x").length : Nat) : Int) = 1 by decide, Int.one_mul] at e
  exact e
theorem stepL_in (ns : List Int) (i : Nat) : 0 ≤ stepL ns i ∧ stepL ns i < 48 := ⟨Int.fmod_nonneg_of_pos _ (by decide), Int.fmod_lt_of_pos _ (by decide)⟩
theorem strs_of : ∀ {ys : List Value} {ms : List Str}, ys.length = ms.length → (∀ (j : Nat) y, ys[j]? = some y → ∃ t m, ms[j]? = some m ∧ y = .str m t) → StrsAre ys ms
  | [], [], _, _ => .nil
  | y :: r, m :: q, hl, h => by
    obtain ⟨t, m', e, rfl⟩ := h 0 y rfl
    cases e
    exact .cons _ t (strs_of (Nat.succ.inj hl) fun j z hz => h (j + 1) z hz)
def wordsL (ns : List Int) : List Str := (List.range (numsL ns).length).map (wordL ns)
/-- the point of a colour of the law -/
def ptL (ns : List Int) (j : Nat) : Int × Int := (ptI (colL ns j).1 - ptI (colL ns j).2.2, ptI (colL ns j).2.1 - ptI (colL ns j).2.2)
def ptsL (ns : List Int) : List (Int × Int) := (List.range ((numsL ns).length + 1)).map (ptL ns)
/-- the point of a colour's tuple -/
def IsPt (h : Heap) (v : Value) (o : Obj) : Prop := ∃ D a b c ta tb tc t u, v = .ref D ∧ h.get? D = some (tup3 a b c ta tb tc) ∧ o = tup2 (ptI a - ptI c) (ptI b - ptI c) t u
theorem made_list {G : Value → Obj → Prop} {h : Heap} : ∀ {l r : List Value}, Paired (Made G h) l r → ∃ as : List Addr, r = as.map Value.ref ∧ as.length = l.length ∧ ∀ (i : Nat) a v, as[i]? = some a → l[i]? = some v → ∃ o, h.get? a = some o ∧ G v o
  | _, _, .nil => ⟨[], rfl, rfl, fun i a v e => by simp at e⟩
  | _, _, .cons q t => by
    obtain ⟨as, rfl, hl, hi⟩ := made_list t
    obtain ⟨a, o, rfl, ho, hg⟩ := q
    refine ⟨a :: as, rfl, by simp [hl], fun i a' v e1 e2 => ?_⟩
    cases i with
    | zero => cases e1; cases e2; exact ⟨o, ho, hg⟩
    | succ i => exact hi i a' v (by simpa using e1) (by simpa using e2)
theorem tups_in {g h : Heap} {L : Addr} {m : Str → Option Value} (F : Fr g L h m) (l : List (Addr × Obj)) (hl : ∀ p ∈ l, h.get? p.1 = some p.2 ∧ ∃ xs n, p.2.data = .seq xs n) : ∃ tups, News g L h tups ∧ (∀ p ∈ l, g.get? p.1 = some p.2 ∨ p ∈ tups) ∧ ∀ p ∈ tups, p ∈ l := by
  refine ⟨l.filter fun p => (g.get? p.1).isNone, fun p hp => ?_, fun p hp => ?_, fun p hp => (List.mem_filter.mp hp).1⟩
  · obtain ⟨h1, h2⟩ := List.mem_filter.mp hp
    obtain ⟨h3, xs, n, h4⟩ := hl p h1
    refine ⟨h3, fun q => ?_, Option.isNone_iff_eq_none.mp h2⟩
    obtain ⟨oL, es, ep, hoL, hd, _⟩ := F.ns
    rw [← q, h3] at hoL
    rw [← Option.some.inj hoL, h4] at hd
    cases hd
  · cases e : g.get? p.1 with
    | none => exact .inr (List.mem_filter.mpr ⟨hp, by rw [e]; rfl⟩)
    | some o =>
      have := F.keep _ _ e
      rw [(hl p hp).1] at this
      exact .inl this.symm
/-- a point's tuple stands beneath or is told -/
def PtIn (g : Heap) (tups : List (Addr × Obj)) (a : Addr) (p : Int × Int) : Prop := ∃ t u, g.get? a = some (tup2 p.1 p.2 t u) ∨ (a, tup2 p.1 p.2 t u) ∈ tups
theorem pt_at {g h : Heap} {L : Addr} {m : Str → Option Value} {tups : List (Addr × Obj)} {ns : List Int} {ds : List Addr} {j : Nat} {o : Obj} (F : Fr g L h m) (N : News g L h tups) (hcol : ∀ j D, ds[j]? = some D → ColIn g tups D (colL ns j)) {v : Value} (hv : (ds.map Value.ref)[j]? = some v) (hy : IsPt h v o) : ∃ t u, o = tup2 (ptL ns j).1 (ptL ns j).2 t u := by
  obtain ⟨D, a, b, c, ta, tb, tc, t, u, rfl, hD, rfl⟩ := hy
  rw [List.getElem?_map] at hv
  obtain ⟨D', e1, e2⟩ := Option.map_eq_some_iff.mp hv
  cases e2
  obtain ⟨ua, ub, uc, hD2⟩ := (hcol j D e1).at F N
  rw [hD] at hD2
  have e := congrArg Obj.data (Option.some.inj hD2)
  simp only [tup3, Data.seq.injEq, and_true] at e
  injection e with e
  injection e with e3 e
  injection e with e4 e
  injection e with e5 _
  injection e3 with e3 _
  injection e4 with e4 _
  injection e5 with e5 _
  exact ⟨t, u, by rw [e3, e4, e5]; rfl⟩
theorem getD_pl (ns : List Int) {n i : Nat} (h : i < n) : ((List.range n).map (plL ns)).getD i 0 = plL ns i := by
  rw [List.getD_eq_getElem?_getD, List.getElem?_map, List.getElem?_range h]; rfl
noncomputable def lawC : (P : Prop) ×' (Held P → lawB.1) := by
  refine' ⟨_, fun hP => _⟩
  rotate_left
  intro w
  unhygienic intros
  have hn4 : 4 ≤ (numsL ns).length := by
    unfold numsL
    rw [List.length_append]
    simp
  k_steps
  refine Stop.intro ?_
  k_dflt (refine' compV (IsTold h2) ?c1 ?c2 ?c3 ?c4 ?c5 ?_ ?c6; (case c1 => with_unfolding_all rfl); (case c2 => decide); (case c3 => exact rfl); (case c4 => decide); (case c5 => exact rfl); (case c6 => intro _; exact rfl))
  k_steps
  have Nt : News g s.heap.objs.size h2 tups := fun p hp => hN p (.tail _ (.tail _ (.tail _ (.tail _ (.tail _ hp)))))
  refine Stop.intro ⟨_, _, ?_, iter_list rfl ⟨_, hN.get (.head _), rfl, _, rfl⟩, ?_, ?_⟩
  · rw [sizeLine_eq, List.size_toArray, List.length_map]; omega
  · intro C i v s₂ m₂ E' hv hn2 hm hg
    have X2 : (Mine.hd.heap_1 w_1.params).In s₂.heap := (X.keeps F.keep).keeps hg
    have T2 : TopRead Mine.vw LS mg mb s₂.heap := (T.keeps F.keep).keeps hg
    have hv' : (ds.map Value.ref)[i]? = some v := by simpa using hv
    rw [List.getElem?_map] at hv'
    obtain ⟨D, e1, e2⟩ := Option.map_eq_some_iff.mp hv'
    cases e2
    obtain ⟨ua, ub, uc, hD⟩ := (hcol i D e1).at F Nt
    obtain ⟨k, _, _, hk⟩ := col_okL ns i
    have hD2 := hg _ _ hD
    clear hg F hN Nt hv hv' hcol Ct
    k_steps
    refine Stop.intro ?_
    refine wpAny_AD 700 rfl (Nat.le_of_ble_eq_true rfl) (Nat.le_of_ble_eq_true rfl) ?_
    refine place_spec D _ _ _ ua ub uc X2 T2 hD2 hk.mx hk.rg hk.fin fun t h' tk' hg2 => ?_
    exact Stop.intro ⟨⟨D, _, _, _, ua, ub, uc, t, rfl, hD, rfl⟩, _, _, rfl, hg2⟩
  · intro D h' tk ys hD hpl hsize hF hg
    have hys : IntsAre ys.toList ((List.range ((numsL ns).length + 1)).map (plL ns)) := by
      refine ints_of (by rw [Array.length_toList, hsize, List.size_toArray, List.length_map, hds, List.length_map, List.length_range]) fun j y e => ?_
      obtain ⟨v, hv, hy⟩ := hF j y (by simpa using e)
      obtain ⟨t, rfl⟩ := told_at F Nt hcol (by simpa using hv) hy
      have hj : j < (numsL ns).length + 1 := by
        obtain ⟨q, _⟩ := List.getElem?_eq_some_iff.mp e
        rw [Array.length_toList, hsize, List.size_toArray, List.length_map, hds] at q
        exact q
      exact ⟨t, _, by rw [List.getElem?_map, List.getElem?_range hj]; rfl, rfl⟩
    have hDc : D ≠ s.heap.objs.size + 1 := by
      rintro rfl
      have := hN.get (.tail _ (.tail _ (.head _)))
      rw [hD] at this; cases this
    obtain ⟨n2, N'⟩ := news_new F hN hD hg hpl
    have F' := F.keeps hg
    have hysl := hys.length
    clear hF hsize hpl hD hg F hN Nt
    dsimp only at N' F' ⊢
    k_steps
    have hcc : ∀ (x : Addr) (o : Obj), (∃ xs n, o.data = .seq xs n) → h'.get? x = some o → x ≠ s.heap.objs.size + 1 := fun x o ho hx q => by
      have e := N'.get (.tail _ (.tail _ (.tail _ (.head _))))
      rw [← q, hx] at e
      obtain ⟨xs, n, ho⟩ := ho
      rw [← Option.some.inj e, ho] at hd
      cases hd
    refine storeX_C F' N' rfl (UpdF.tail hDc (UpdF.tail (hcc cl _ ⟨_, _, rfl⟩ (N'.get (.tail _ (.head _)))) (UpdF.tail (hcc nl _ ⟨_, _, rfl⟩ (N'.get (.tail _ (.tail _ (.head _))))) (UpdF.head (List.forall_mem_cons.mpr ⟨Nat.ne_of_lt (Nat.lt_succ_of_lt (l1 _ (.head _))), List.forall_mem_cons.mpr ⟨Nat.ne_of_lt (Nat.lt_succ_of_lt (l1 _ (.tail _ (.head _)))), fun p hp => hcc p.1 p.2 (Ct p hp).2 (N' p (.tail _ (.tail _ (.tail _ (.tail _ (.tail _ (.tail _ hp))))))).1⟩⟩))))) hd (fun h3 oc2 F3 N3 hd3 => ?_)
    (try dsimp only at N3)
    clear F' N' hcc hd
    k_steps
    refine Stop.intro ?_
    k_dflt (refine' Assign_compV (fun v y => ∃ (i : Nat) (t u : Tok), v = .int (i : Int) t ∧ y = .str (wordL ns i) u) ?c0 ?c1 ?c2 ?c3 ?c4 ?c5 ?c7 ?c8 ?_ ?c6; (case c0 => with_unfolding_all rfl); (case c1 => with_unfolding_all rfl); (case c2 => decide); (case c3 => exact rfl); (case c4 => decide); (case c5 => exact rfl); (case c7 => exact rfl); (case c8 => exact rfl); (case c6 => intro _; exact rfl))
    k_steps
    (with_reducible rename Fr _ _ _ _ => F)
    (with_reducible rename News _ _ _ _ => N)
    (with_reducible rename IsRange _ _ _ _ _ _ _ _ => hR)
    refine Stop.intro ⟨(numsL ns).length, fun i v => (∃ t, v = .int (0 + (i : Int) * 1) t) ∧ i < (numsL ns).length, _, ?_, IterOf.lt (iter_range rfl hR (n := (numsL ns).length) ?_ ?_), F.ns, ?_, ?_⟩
    · rw [sizeLine_eq]; omega
    · exact small_one (by omega) (by omega) (by omega) (by omega)
    · rw [rangeSize_one, if_pos (by omega)]; omega
    · intro C i v s₂ m₂ E' ⟨hv, hlt⟩ hn2 hm hg
      obtain ⟨t, rfl⟩ := hv
      rw [show (0 + (i : Int) * 1) = (i : Int) by omega] at hm ⊢
      have X2 : (Mine.hd.heap_1 w_1.params).In s₂.heap := (X.keeps F.keep).keeps hg
      have T2 : TopRead Mine.vw LS mg mb s₂.heap := (T.keeps F.keep).keeps hg
      have hc := hg _ _ (N.get (.tail _ (.tail _ (.tail _ (.head _)))))
      have hDl : s₂.heap.IsList D ys.toList.toArray := ⟨_, hg _ _ (N.get (.head _)), rfl, n2, by simp⟩
      have hi1 := pl_in ns i
      have hi2 := pl_in ns (i + 1)
      clear hg F N hR
      k_steps
      refine Stop.intro ?_
      refine item_list_ints hDl hys (by omega) (by rw [List.length_map, List.length_range]; omega) (by omega) fun t6 => ?_
      rw [show ((i : Int) + 1).toNat = i + 1 by omega, getD_pl ns (by omega)]
      k_steps
      refine Stop.intro ?_
      refine item_list_ints hDl hys (by omega) (by rw [List.length_map, List.length_range]; omega) (by omega) fun t7 => ?_
      rw [show ((i : Int)).toNat = i by omega, getD_pl ns (by omega)]
      k_steps
      refine Stop.intro ?_
      have hml := mulx_len ns i
      have hst := stepL_in ns i
      refine PyProof.Rows.add_str (fun t8 k8 => ?_) (by
        show (Txt.mul (Str.ofString "x") (stepL ns i)).length + (Str.ofString ";").length ≤ sizeLine
        rw [show (Str.ofString ";").length = 1 by decide, sizeLine_eq]; omega)
      exact Stop.intro ⟨⟨i, _, _, rfl, rfl⟩, _, _, rfl, fun _ _ e => e⟩
    · intro D2 h4 tk4 ys2 hD2 hpl hsize hF hns hk
      have hL0 : ∀ b o, g.get? b = some o → b ≠ s.heap.objs.size := fun b o e => Nat.ne_of_lt (Nat.lt_of_lt_of_le (Heap.lt_size e) F.above)
      have F4 : Fr g s.heap.objs.size h4 _ := ⟨hns, fun b o e => hk b o (hL0 b o e) (F.keep b o e), F.above⟩
      obtain ⟨n4, hn4'⟩ := hpl
      have N4 : News g s.heap.objs.size h4 ((D2, W.listOf ys2 n4) :: _) := List.forall_mem_cons.mpr ⟨⟨hn4', fun q => by
          obtain ⟨oL, es, ep, hoL, _⟩ := F.ns
          have q' : D2 = s.heap.objs.size := q
          rw [q'] at hD2
          exact absurd (hoL.symm.trans hD2) (by simp), by
          cases z : g.get? D2 with
          | none => rfl
          | some o => exact absurd ((F.keep _ _ z).symm.trans hD2) (by simp)⟩, fun p hp => ⟨hk _ _ (N p hp).2.1 (N p hp).1, (N p hp).2⟩⟩
      have hws : StrsAre ys2.toList (wordsL ns) := by
        refine strs_of (by rw [Array.length_toList, hsize]; simp [wordsL]) fun j y e => ?_
        obtain ⟨v, ⟨⟨t1, e1⟩, hj⟩, i, t, u, rfl, rfl⟩ := hF j y (by simpa using e)
        have : (i : Int) = 0 + (j : Int) * 1 := (Value.int.inj e1).1
        obtain rfl : i = j := by omega
        exact ⟨u, _, by unfold wordsL; rw [List.getElem?_map, List.getElem?_range hj]; rfl, rfl⟩
      clear hF hsize hk hns hD2 F N hR hn4' hys hysl hd3
      dsimp only at F4 N4 ⊢
      k_steps
      refine Stop.intro ?_
      have Nt4 : News g s.heap.objs.size h4 tups := fun p hp => N4 p (.tail _ (.tail _ (.tail _ (.tail _ (.tail _ (.tail _ (.tail _ hp)))))))
      k_dflt (refine' Assign_compO (IsPt h4) ?c0 ?ca ?c1 ?c2 ?c3 ?c4 ?c5 ?c7 ?c8 ?_ ?c6; (case c0 => with_unfolding_all rfl); (case ca => exact rfl); (case c1 => decide); (case c2 => decide); (case c3 => exact rfl); (case c4 => decide); (case c5 => exact rfl); (case c7 => exact rfl); (case c8 => exact rfl); (case c6 => intro _; exact rfl))
      k_steps
      refine Stop.intro ⟨cl, _, _, rfl, ⟨_, N4.get (.tail _ (.tail _ (.head _))), rfl, _, rfl⟩, ?_, F4.ns, ?_, ?_⟩
      · rw [sizeLine_eq, List.size_toArray, List.length_map]; omega
      · intro C v s₂ m₂ E' hv hn2 hm hg
        have X2 : (Mine.hd.heap_1 w_1.params).In s₂.heap := (X.keeps F4.keep).keeps hg
        have T2 : TopRead Mine.vw LS mg mb s₂.heap := (T.keeps F4.keep).keeps hg
        have hv' : v ∈ ds.map Value.ref := by simpa using hv
        obtain ⟨i, hi, e2⟩ := List.getElem_of_mem hv'
        rw [List.length_map] at hi
        rw [List.getElem_map] at e2
        subst e2
        obtain ⟨ua, ub, uc, hD⟩ := (hcol i ds[i] (List.getElem?_eq_getElem hi)).at F4 Nt4
        obtain ⟨k, _, _, hk⟩ := col_okL ns i
        have hD2 := hg _ _ hD
        clear hg F4 N4 Nt4 hv hv' hcol Ct
        k_steps
        refine Stop.intro ?_
        refine wpAny_AD 700 rfl (Nat.le_of_ble_eq_true rfl) (Nat.le_of_ble_eq_true rfl) ?_
        refine point_spec ds[i] _ _ _ ua ub uc X2 T2 hD2 hk.f1 hk.f2 hk.f3 fun D' t1 t2 h' tk' hg2 hnew hD' => ?_
        exact Stop.intro ⟨⟨D', _, rfl, hnew, hD', _, _, _, _, ua, ub, uc, t1, t2, rfl, hD, rfl⟩, _, _, rfl, hg2⟩
      · intro D3 h5 tk5 ys3 hD3 hpl hP hns hk
        dsimp only
        have hP2 : Paired (Made (IsPt h4) h5) (ds.map Value.ref) ys3.toList := hP
        obtain ⟨as, e3, has, hpts⟩ := made_list hP2
        obtain ⟨n5, hn5⟩ := hpl
        have hL0 : ∀ b o, g.get? b = some o → b ≠ s.heap.objs.size := fun b o e => Nat.ne_of_lt (Nat.lt_of_lt_of_le (Heap.lt_size e) F4.above)
        have F5 : Fr g s.heap.objs.size h5 _ := ⟨hns, fun b o e => hk b o (hL0 b o e) (F4.keep b o e), F4.above⟩
        have hD3L : D3 ≠ s.heap.objs.size := fun q => by
          obtain ⟨oL, es, ep, hoL, _⟩ := F4.ns
          rw [q] at hD3
          exact absurd (hoL.symm.trans hD3) (by simp)
        have hD3g : g.get? D3 = none := by
          cases z : g.get? D3 with
          | none => rfl
          | some o => exact absurd ((F4.keep _ _ z).symm.trans hD3) (by simp)
        have hys3 : ys3 = List.toArray (as.map Value.ref) := by rw [← e3]
        rw [hys3] at hn5
        have has2 : as.length = (numsL ns).length + 1 := by rw [has, List.length_map, hds]
        have hall : ∀ p ∈ as.map (fun a => (a, (h5.get? a).getD emptyDict)), h5.get? p.1 = some p.2 ∧ ∃ xs n, p.2.data = .seq xs n := by
          intro p hp
          obtain ⟨a, ha, rfl⟩ := List.mem_map.mp hp
          obtain ⟨j, hj, rfl⟩ := List.getElem_of_mem ha
          have hjd : j < (ds.map Value.ref).length := by rw [List.length_map, hds, ← has2]; exact hj
          obtain ⟨o, ho, hi⟩ := hpts j as[j] _ (List.getElem?_eq_getElem hj) (List.getElem?_eq_getElem hjd)
          obtain ⟨t, u, rfl⟩ := pt_at F4 Nt4 hcol (List.getElem?_eq_getElem hjd) hi
          exact ⟨by dsimp only; rw [ho]; rfl, by dsimp only; rw [ho]; exact ⟨_, _, rfl⟩⟩
        obtain ⟨tups2, Nt5, hin, hsub⟩ := tups_in F5 _ hall
        have hpin : ∀ j a, as[j]? = some a → PtIn g tups2 a (ptL ns j) := fun j a ha => by
          obtain ⟨hj, rfl⟩ := List.getElem?_eq_some_iff.mp ha
          have hjd : j < (ds.map Value.ref).length := by rw [List.length_map, hds, ← has2]; exact hj
          obtain ⟨o, ho, hi⟩ := hpts j as[j] _ (List.getElem?_eq_getElem hj) (List.getElem?_eq_getElem hjd)
          obtain ⟨t, u, rfl⟩ := pt_at F4 Nt4 hcol (List.getElem?_eq_getElem hjd) hi
          have := hin (as[j], (h5.get? as[j]).getD emptyDict) (List.mem_map.mpr ⟨as[j], List.getElem_mem hj, rfl⟩)
          rw [ho] at this
          exact ⟨t, u, this⟩
        have Ct2 : ∀ p ∈ tups2, p.2.cls = .type "tuple" ∧ ∃ xs n, p.2.data = .seq xs n := fun p hp => by
          obtain ⟨a, ha, rfl⟩ := List.mem_map.mp (hsub p hp)
          obtain ⟨j, hj, rfl⟩ := List.getElem_of_mem ha
          have hjd : j < (ds.map Value.ref).length := by rw [List.length_map, hds, ← has2]; exact hj
          obtain ⟨o, ho, hi⟩ := hpts j as[j] _ (List.getElem?_eq_getElem hj) (List.getElem?_eq_getElem hjd)
          obtain ⟨t, u, rfl⟩ := pt_at F4 Nt4 hcol (List.getElem?_eq_getElem hjd) hi
          dsimp only
          rw [ho]
          exact ⟨rfl, _, _, rfl⟩
        have N5 : News g s.heap.objs.size h5 ((D3, W.listOf (List.toArray (as.map Value.ref)) n5) :: (D2, W.listOf ys2 n4) :: ((140 : Addr), tabObj #[]) :: ((147 : Addr), tabObj #[]) :: tups2) :=
          List.forall_mem_cons.mpr ⟨⟨hn5, hD3L, hD3g⟩, List.forall_mem_cons.mpr ⟨⟨hk _ _ (N4 _ (.head _)).2.1 (N4 _ (.head _)).1, (N4 _ (.head _)).2⟩, List.forall_mem_cons.mpr ⟨⟨hk _ _ (N4 _ (.tail _ (.tail _ (.tail _ (.tail _ (.tail _ (.head _))))))).2.1 (N4 _ (.tail _ (.tail _ (.tail _ (.tail _ (.tail _ (.head _))))))).1, (N4 _ (.tail _ (.tail _ (.tail _ (.tail _ (.tail _ (.head _))))))).2⟩,
            List.forall_mem_cons.mpr ⟨⟨hk _ _ (N4 _ (.tail _ (.tail _ (.tail _ (.tail _ (.tail _ (.tail _ (.head _)))))))).2.1 (N4 _ (.tail _ (.tail _ (.tail _ (.tail _ (.tail _ (.tail _ (.head _)))))))).1, (N4 _ (.tail _ (.tail _ (.tail _ (.tail _ (.tail _ (.tail _ (.head _)))))))).2⟩, Nt5⟩⟩⟩⟩
        clear hP hP2 hpts hin hsub hall hk hns hn5 hD3 hD3L hD3g N4 Nt4 F4 hcol Ct hys3 e3 has hds
        clear hnums hC' hL' l1_1 l1_2 e9 e14 hnl hns hnsl hmc hmp hmn hDc hL0 Nt5
        revert w_1 mg mb s Q E g sl vs ns nl pl cl m D2 h5 tk5 ys2 n4 D3 as n5 tups2
        repeat' (rename _ => zz; revert zz)
        exact Held.out
end
end Mine

-- LwE
namespace Mine
open PySem PySem.W PyProof.Rows PySem.Spec PySem.Calls
set_option maxRecDepth 100000
set_option maxHeartbeats 1000000
set_option pp.deepTerms false
set_option pp.deepTerms.threshold 8
set_option pp.fieldNotation false
noncomputable section
abbrev wTup (x : Str) (u v : Tok) : Obj := { cls := .type "tuple", data := .seq #[.str (Str.ofString "") u, .str x v] }
/-- the words' tuples stand beneath or are told -/
def WordsIn (g : Heap) (wt : List (Addr × Obj)) (ts : List Addr) (ws : List Str) : Prop := ts.length = ws.length ∧ ∀ (i : Nat) (t : Addr) (x : Str), ts[i]? = some t → ws[i]? = some x → ∃ u v, g.get? t = some (wTup x u v) ∨ (t, wTup x u v) ∈ wt
def IsTups (l : List (Addr × Obj)) : Prop := ∀ p ∈ l, p.2.cls = .type "tuple" ∧ ∃ xs n, p.2.data = .seq xs n
/-- the five objects that a formatter's calls turn -/
abbrev five (w : World) (a dx lr : Addr) (ts : List Addr) (n nd nn : Nat) (t0 u0 : Tok) (rv : Array Value) (p1 p2 : Array Value) : List (Addr × Obj) :=
  [(a, accObj dx (ts.map Value.ref).toArray n), (dx, accDict w t0 u0 nd), (lr, W.listOf rv nn), ((140 : Addr), tabObj p1), ((147 : Addr), tabObj p2)]
theorem five_off {w : World} {g h : Heap} {L a dx lr : Addr} {ts : List Addr} {n nd nn : Nat} {t0 u0 : Tok} {rv p1 p2 : Array Value} (N : News g L h (five w a dx lr ts n nd nn t0 u0 rv p1 p2)) {b : Addr} {o : Obj} (hb : h.get? b = some o)
    (h1 : o.cls ≠ .ref 178) (h2 : o.cls ≠ .type "dict") (h3 : o.cls ≠ .type "list") (h4 : o.cls ≠ .none) : b ∉ [a, dx, lr, 140, 147] := fun q => by
  rcases List.mem_cons.mp q with q | q
  · exact ne_cls hb (N.get (.head _)) h1 q
  rcases List.mem_cons.mp q with q | q
  · exact ne_cls hb (N.get (.tail _ (.head _))) h2 q
  rcases List.mem_cons.mp q with q | q
  · exact ne_cls hb (N.get (.tail _ (.tail _ (.head _)))) h3 q
  rcases List.mem_cons.mp q with q | q
  · exact ne_cls hb (N.get (.tail _ (.tail _ (.tail _ (.head _))))) h4 q
  · exact ne_cls hb (N.get (.tail _ (.tail _ (.tail _ (.tail _ (.head _)))))) h4 (List.mem_singleton.mp q)
theorem five_none {w : World} {g h : Heap} {L a dx lr : Addr} {ts : List Addr} {n nd nn : Nat} {t0 u0 : Tok} {rv p1 p2 : Array Value} (N : News g L h (five w a dx lr ts n nd nn t0 u0 rv p1 p2)) : ∀ b ∈ [a, dx, lr, 140, 147], g.get? b = none :=
  List.forall_mem_cons.mpr ⟨(N _ (.head _)).2.2, List.forall_mem_cons.mpr ⟨(N _ (.tail _ (.head _))).2.2, List.forall_mem_cons.mpr ⟨(N _ (.tail _ (.tail _ (.head _)))).2.2, List.forall_mem_cons.mpr ⟨(N _ (.tail _ (.tail _ (.tail _ (.head _))))).2.2, List.forall_mem_cons.mpr ⟨(N _ (.tail _ (.tail _ (.tail _ (.tail _ (.head _)))))).2.2, List.forall_mem_nil _⟩⟩⟩⟩⟩
theorem five_L {w : World} {g h : Heap} {L a dx lr : Addr} {ts : List Addr} {n nd nn : Nat} {t0 u0 : Tok} {rv p1 p2 : Array Value} (N : News g L h (five w a dx lr ts n nd nn t0 u0 rv p1 p2)) : L ∉ [a, dx, lr, 140, 147] := fun q => by
  rcases List.mem_cons.mp q with q | q
  · exact (N _ (.head _)).2.1 q.symm
  rcases List.mem_cons.mp q with q | q
  · exact (N _ (.tail _ (.head _))).2.1 q.symm
  rcases List.mem_cons.mp q with q | q
  · exact (N _ (.tail _ (.tail _ (.head _)))).2.1 q.symm
  rcases List.mem_cons.mp q with q | q
  · exact (N _ (.tail _ (.tail _ (.tail _ (.head _))))).2.1 q.symm
  · exact (N _ (.tail _ (.tail _ (.tail _ (.tail _ (.head _)))))).2.1 (List.mem_singleton.mp q).symm
theorem five_M {w : World} {g h : Heap} {L a dx lr : Addr} {ts : List Addr} {n nd nn : Nat} {t0 u0 : Tok} {rv p1 p2 : Array Value} (N : News g L h (five w a dx lr ts n nd nn t0 u0 rv p1 p2)) :
    ∀ p ∈ five w a dx lr ts n nd nn t0 u0 rv p1 p2, h.get? p.1 = some p.2 ∧ (hideAll h [a, dx, lr, 140, 147]).get? p.1 = none :=
  List.forall_mem_cons.mpr ⟨⟨N.get (.head _), hideAll_none _ (.head _)⟩, List.forall_mem_cons.mpr ⟨⟨N.get (.tail _ (.head _)), hideAll_none _ (.tail _ (.head _))⟩, List.forall_mem_cons.mpr ⟨⟨N.get (.tail _ (.tail _ (.head _))), hideAll_none _ (.tail _ (.tail _ (.head _)))⟩, List.forall_mem_cons.mpr ⟨⟨N.get (.tail _ (.tail _ (.tail _ (.head _)))), hideAll_none _ (.tail _ (.tail _ (.tail _ (.head _))))⟩, List.forall_mem_cons.mpr ⟨⟨N.get (.tail _ (.tail _ (.tail _ (.tail _ (.head _))))), hideAll_none _ (.tail _ (.tail _ (.tail _ (.tail _ (.head _)))))⟩, List.forall_mem_nil _⟩⟩⟩⟩⟩
theorem words_hid {w : World} {g h : Heap} {L a dx lr : Addr} {m : Str → Option Value} {ts : List Addr} {n nd nn : Nat} {t0 u0 : Tok} {rv p1 p2 : Array Value} {wt : List (Addr × Obj)} {us : List Addr} {ws : List Str} (F : Fr g L h m) (N : News g L h (five w a dx lr ts n nd nn t0 u0 rv p1 p2)) (Nw : News g L h wt) (HW : WordsIn g wt us ws) :
    Words (hideAll h [a, dx, lr, 140, 147]) us ws := by
  refine ⟨HW.1, fun i t x e1 e2 => ?_⟩
  obtain ⟨u, v, z | z⟩ := HW.2 i t x e1 e2
  · exact ⟨u, v, grows_hide F _ (five_none N) _ _ z⟩
  · have hz := (Nw _ z).1
    exact ⟨u, v, hideAll_get _ hz (five_off N hz (by show Value.type "tuple" ≠ _; decide) (by show Value.type "tuple" ≠ _; decide) (by show Value.type "tuple" ≠ _; decide) (by show Value.type "tuple" ≠ _; decide))⟩
theorem fdx_off {w : World} {g h : Heap} {L a dx lr fdx : Addr} {ts : List Addr} {n nd nn : Nat} {t0 u0 : Tok} {rv p1 p2 : Array Value} {e : Int} {k1 k2 k3 k4 k5 k6 v1 v2 v3 v4 : Tok} {nf : Nat} (N : News g L h (five w a dx lr ts n nd nn t0 u0 rv p1 p2)) (hb : h.get? fdx = some (fmtDict w e lr a k1 k2 k3 k4 k5 k6 v1 v2 v3 v4 nf)) : fdx ∉ [a, dx, lr, 140, 147] := fun q => by
  rcases List.mem_cons.mp q with q | q
  · exact ne_cls hb (N.get (.head _)) (by show Value.type "dict" ≠ Value.ref 178; decide) q
  rcases List.mem_cons.mp q with q | q
  · have e2 := N.get (.tail _ (.head _))
    rw [← q, hb] at e2
    have := congrArg Obj.data (Option.some.inj e2)
    simp [dictOf] at this
  rcases List.mem_cons.mp q with q | q
  · exact ne_cls hb (N.get (.tail _ (.tail _ (.head _)))) (by show Value.type "dict" ≠ Value.type "list"; decide) q
  rcases List.mem_cons.mp q with q | q
  · exact ne_cls hb (N.get (.tail _ (.tail _ (.tail _ (.head _))))) (by show Value.type "dict" ≠ Value.none; decide) q
  · exact ne_cls hb (N.get (.tail _ (.tail _ (.tail _ (.tail _ (.head _)))))) (by show Value.type "dict" ≠ Value.none; decide) (List.mem_singleton.mp q)
theorem words_in {g h : Heap} {L : Addr} {m : Str → Option Value} {ts : List Addr} {ws : List Str} (F : Fr g L h m) (H : Words h ts ws) : ∃ wt, News g L h wt ∧ WordsIn g wt ts ws ∧ IsTups wt := by
  have hall : ∀ p ∈ ts.map (fun a => (a, (h.get? a).getD emptyDict)), h.get? p.1 = some p.2 ∧ ∃ xs n, p.2.data = .seq xs n := by
    intro p hp
    obtain ⟨a, ha, rfl⟩ := List.mem_map.mp hp
    obtain ⟨j, hj, rfl⟩ := List.getElem_of_mem ha
    obtain ⟨u, v, z⟩ := H.tup j ts[j] (ws[j]'(H.len ▸ hj)) (List.getElem?_eq_getElem hj) (List.getElem?_eq_getElem (H.len ▸ hj))
    exact ⟨by dsimp only; rw [z]; rfl, by dsimp only; rw [z]; exact ⟨_, _, rfl⟩⟩
  obtain ⟨wt, N, hin, hsub⟩ := tups_in F _ hall
  refine ⟨wt, N, ⟨H.len, fun i t x e1 e2 => ?_⟩, fun p hp => ?_⟩
  · obtain ⟨u, v, z⟩ := H.tup i t x e1 e2
    have := hin (t, (h.get? t).getD emptyDict) (List.mem_map.mpr ⟨t, List.mem_of_getElem? e1, rfl⟩)
    rw [z] at this
    exact ⟨u, v, this⟩
  · obtain ⟨a, ha, rfl⟩ := List.mem_map.mp (hsub p hp)
    obtain ⟨j, hj, rfl⟩ := List.getElem_of_mem ha
    obtain ⟨u, v, z⟩ := H.tup j ts[j] (ws[j]'(H.len ▸ hj)) (List.getElem?_eq_getElem hj) (List.getElem?_eq_getElem (H.len ▸ hj))
    dsimp only
    rw [z]
    exact ⟨rfl, _, _, rfl⟩
theorem news_five {w : World} {g h h' : Heap} {L a dx lr : Addr} {ts ts' : List Addr} {n nd nn n' nn' : Nat} {t0 u0 u' : Tok} {rv p1 p2 rv' p1' p2' : Array Value} (N : News g L h (five w a dx lr ts n nd nn t0 u0 rv p1 p2))
    (h1 : h'.get? a = some (accObj dx (ts'.map Value.ref).toArray n')) (h2 : h'.get? dx = some (accDict w t0 u' nd)) (h3 : h'.get? lr = some (W.listOf rv' nn')) (h4 : h'.get? 140 = some (tabObj p1')) (h5 : h'.get? 147 = some (tabObj p2')) :
    News g L h' (five w a dx lr ts' n' nd nn' t0 u' rv' p1' p2') :=
  List.forall_mem_cons.mpr ⟨⟨h1, (N _ (.head _)).2⟩, List.forall_mem_cons.mpr ⟨⟨h2, (N _ (.tail _ (.head _))).2⟩, List.forall_mem_cons.mpr ⟨⟨h3, (N _ (.tail _ (.tail _ (.head _)))).2⟩, List.forall_mem_cons.mpr ⟨⟨h4, (N _ (.tail _ (.tail _ (.tail _ (.head _))))).2⟩, List.forall_mem_cons.mpr ⟨⟨h5, (N _ (.tail _ (.tail _ (.tail _ (.tail _ (.head _)))))).2⟩, List.forall_mem_nil _⟩⟩⟩⟩⟩
/-- a word laid, told in the caller's frame -/
theorem chunk_step {w : World} {mg mb : Str → Option Value} {s : Shared} {Q E : Value → Shared → Prop} {g : Heap} {L : Addr} {m : Str → Option Value} (fo fdx lr a dx : Addr) (e : Int) (k1 k2 k3 k4 k5 k6 v1 v2 v3 v4 : Tok) (nf : Nat) (ts : List Addr) (ws : List Str) (x : Str) (tx ty : Tok) (rv : Array Value) (lines : List Str) (n nd nn : Nat) (t0 u0 : Tok) (p1 p2 : Array Value) (rest wt : List (Addr × Obj))
    (B : Base w mg mb g s.heap) (F : Fr g L s.heap m) (N : News g L s.heap (five w a dx lr ts n nd nn t0 u0 rv p1 p2)) (N2 : News g L s.heap [(fo, instObj 94 fdx), (fdx, fmtDict w e lr a k1 k2 k3 k4 k5 k6 v1 v2 v3 v4 nf)]) (Nr : News g L s.heap rest) (Nw : News g L s.heap wt)
    (hrest : ∀ p ∈ rest, p.1 ∉ [a, dx, lr, 140, 147]) (HW : WordsIn g wt ts ws) (ht : TriplesOk p1.toList) (ht2 : TriplesOk p2.toList) (h178 : 178 < s.heap.objs.size) (ha : 178 < a) (hdl : a ≠ dx)
    (G : AllBare s.gens) (hwn : ws.length ≤ 20) (hwl : ∀ x ∈ ws, x.length ≤ 100) (hx : x.length ≤ 100) (hxe : (x.length : Int) ≤ e) (hsemi : ∀ y ∈ ws, 0 < y.length ∧ Txt.item y (-1) = Str.ofString ";") (hrv : StrsAre rv.toList lines) (hrn : rv.size ≤ 100)
    (hret : ∀ h' gs' tk' ts' n' u' rv' nn' p1' p2' wt', AllBare gs' → Fr g L h' m → News g L h' (five w a dx lr ts' n' nd nn' t0 u' rv' p1' p2') → News g L h' [(fo, instObj 94 fdx), (fdx, fmtDict w e lr a k1 k2 k3 k4 k5 k6 v1 v2 v3 v4 nf)] → News g L h' rest → News g L h' wt' → WordsIn g wt' ts' (chunkF e (lines, ws) x).2 → IsTups wt' →
      StrsAre rv'.toList (chunkF e (lines, ws) x).1 → TriplesOk p1'.toList → TriplesOk p2'.toList → Q .none ⟨h', gs', s.drawn, tk', s.os⟩) :
    wpAny (model PP w) (AD 500) (call (.ref 91) [.ref fo, .str (Str.ofString "") tx, .str x ty]) Q E s := by
  have gl := five_none N
  have kg := grows_hide F [a, dx, lr, 140, 147] gl
  have hfo := five_off N (N2.get (.head _)) (by show Value.ref 94 ≠ _; decide) (by show Value.ref 94 ≠ _; decide) (by show Value.ref 94 ≠ _; decide) (by show Value.ref 94 ≠ _; decide)
  have hfd := fdx_off N (N2.get (.tail _ (.head _)))
  refine chunk_spec fo fdx lr a dx e k1 k2 k3 k4 k5 k6 v1 v2 v3 v4 nf ts ws x tx ty rv lines n nd nn t0 u0 (tabObj p1) (tabObj p2) p1 p2 ((B.at F).hide _ gl) (words_hid F N Nw HW) (hideAll_get _ (N2.get (.head _)) hfo) (hideAll_get _ (N2.get (.tail _ (.head _))) hfd) (five_M N) rfl ht rfl ht2 h178 ha hdl G hwn hwl hx hxe hsemi hrv hrn fun h' gs' tk' ts' n' u' rv' nn' G' k ha' hd' hl' hr' H' T1 T2 => ?_
  obtain ⟨_, q1, i1, rfl, i3⟩ := T1
  obtain ⟨_, q2, j1, rfl, j3⟩ := T2
  have F' := fr_hid F [a, dx, lr, 140, 147] (five_L N) gl k
  obtain ⟨wt', Nw', HW', It⟩ := words_in F' H'
  exact hret h' gs' tk' ts' n' u' rv' nn' q1 q2 wt' G' F' (news_five N ha' hd' hl' i1 j1) (List.forall_mem_cons.mpr ⟨news_hid N2 _ k (.head _) hfo, List.forall_mem_cons.mpr ⟨news_hid N2 _ k (.tail _ (.head _)) hfd, List.forall_mem_nil _⟩⟩) (fun p hp => news_hid Nr _ k hp (hrest p hp)) Nw' HW' It hr' i3 j3
/-- the formatter's text, told in the caller's frame -/
theorem str_step {w : World} {mg mb : Str → Option Value} {s : Shared} {Q E : Value → Shared → Prop} {g : Heap} {L : Addr} {m : Str → Option Value} (fo fdx lr a dx : Addr) (e : Int) (k1 k2 k3 k4 k5 k6 v1 v2 v3 v4 : Tok) (nf : Nat) (ts : List Addr) (Te : Addr) (ws : List Str) (y : Str) (rv : Array Value) (lines : List Str) (n nd nn : Nat) (t0 u0 ts0 : Tok) (p1 p2 : Array Value) (rest wt : List (Addr × Obj))
    (B : Base w mg mb g s.heap) (F : Fr g L s.heap m) (N : News g L s.heap (five w a dx lr (ts ++ [Te]) n nd nn t0 u0 rv p1 p2)) (N2 : News g L s.heap [(fo, instObj 94 fdx), (fdx, fmtDict w e lr a k1 k2 k3 k4 k5 k6 v1 v2 v3 v4 nf)]) (Nr : News g L s.heap rest) (Nw : News g L s.heap wt)
    (hrest : ∀ p ∈ rest, p.1 ∉ [a, dx, lr, 140, 147]) (HW : WordsIn g wt (ts ++ [Te]) (ws ++ [y])) (ht : TriplesOk p1.toList) (ht2 : TriplesOk p2.toList) (h178 : 178 < s.heap.objs.size) (ha : 178 < a) (hdl : a ≠ dx)
    (G : AllBare s.gens) (hwn : ws.length ≤ 20) (hwl : ∀ x ∈ ws ++ [y], x.length ≤ 100) (hbig : ((lines ++ [Txt.join (Str.ofString "") (ws ++ [y])]).map (·.length)).sum + (lines ++ [Txt.join (Str.ofString "") (ws ++ [y])]).length ≤ 10000) (hpos : 0 < ((ws ++ [y]).map (·.length)).sum) (hsp : Txt.isspace (Txt.join (Str.ofString "") (ws ++ [y])) = false) (hrv : StrsAre rv.toList lines) (hrn : rv.size ≤ 100)
    (hret : ∀ h' gs' tk' t' p1' p2', AllBare gs' → Fr g L h' m → News g L h' (((140 : Addr), tabObj p1') :: ((147 : Addr), tabObj p2') :: rest) → TriplesOk p1'.toList → TriplesOk p2'.toList → Q (.str (Txt.join (Str.ofString "\n") (lines ++ [Txt.join (Str.ofString "") (ws ++ [y])])) t') ⟨h', gs', s.drawn, tk', s.os⟩) :
    wpAny (model PP w) (AD 400) (call (.ref 42) [.ref fo, .str (Str.ofString "\n") ts0]) Q E s := by
  have gl := five_none N
  have kg := grows_hide F [a, dx, lr, 140, 147] gl
  have hfo := five_off N (N2.get (.head _)) (by show Value.ref 94 ≠ _; decide) (by show Value.ref 94 ≠ _; decide) (by show Value.ref 94 ≠ _; decide) (by show Value.ref 94 ≠ _; decide)
  have hfd := fdx_off N (N2.get (.tail _ (.head _)))
  refine strall_spec fo fdx lr a dx e k1 k2 k3 k4 k5 k6 v1 v2 v3 v4 nf ts ws Te y rv lines n nd nn t0 u0 (tabObj p1) (tabObj p2) p1 p2 ((B.at F).hide _ gl) (words_hid F N Nw HW) (hideAll_get _ (N2.get (.head _)) hfo) (hideAll_get _ (N2.get (.tail _ (.head _))) hfd) (five_M N) rfl ht rfl ht2 h178 ha hdl G hwn hwl ts0 hbig hpos hsp hrv hrn fun h' gs' tk' t' G' k T1 T2 => ?_
  obtain ⟨_, q1, i1, rfl, i3⟩ := T1
  obtain ⟨_, q2, j1, rfl, j3⟩ := T2
  exact hret h' gs' tk' t' q1 q2 G' (fr_hid F [a, dx, lr, 140, 147] (five_L N) gl k) (List.forall_mem_cons.mpr ⟨⟨i1, (N _ (.tail _ (.tail _ (.tail _ (.head _))))).2⟩, List.forall_mem_cons.mpr ⟨⟨j1, (N _ (.tail _ (.tail _ (.tail _ (.tail _ (.head _)))))).2⟩, fun p hp => news_hid Nr _ k hp (hrest p hp)⟩⟩) i3 j3
end
end Mine

-- PlB
namespace Mine
open PySem PySem.W PyProof.Rows PySem.Spec PySem.Calls
set_option maxRecDepth 100000
set_option maxHeartbeats 1000000
noncomputable section
/-! the plain law -/
def remL (ns : List Int) (i : Nat) : Nat := (Int.fmod ((numsL ns).getD i 0) 23).toNat
theorem remL_eq (ns : List Int) (i : Nat) : Int.fmod ((numsL ns).getD i 0) 23 = (remL ns i : Int) := (Int.toNat_of_nonneg (Int.fmod_nonneg_of_pos _ (by decide))).symm
theorem remL_lt (ns : List Int) (i : Nat) : remL ns i ≤ 22 := by
  have := Int.fmod_lt_of_pos ((numsL ns).getD i 0) (show (0 : Int) < 23 by decide)
  rw [remL_eq] at this
  omega
def P0 (ns : List Int) : Nat := (plL ns 0).toNat
noncomputable def DL (ns : List Int) : Nat → Nat
  | 0 => 0
  | j + 1 => DL ns j + (remL ns j + 1)
theorem fmod48 (a : Int) : Int.fmod a 48 = a % 48 := Int.fmod_eq_emod_of_nonneg _ (by decide)
theorem plL_eq (ns : List Int) : ∀ j, plL ns j = (((P0 ns + DL ns j) % 48 : Nat) : Int)
  | 0 => by
    have h := pl_in ns 0
    show plL ns 0 = (((plL ns 0).toNat + 0) % 48 : Nat)
    omega
  | j + 1 => by
    show Int.fmod (plL ns j + 1 + Int.fmod ((numsL ns).getD j 0) 23) 48 = (((P0 ns + (DL ns j + (remL ns j + 1))) % 48 : Nat) : Int)
    rw [remL_eq, fmod48, plL_eq ns j]
    omega
theorem stepL_eq (ns : List Int) (i : Nat) : stepL ns i = (remL ns i : Int) := by
  have h := remL_lt ns i
  unfold stepL
  rw [fmod48, plL_eq, plL_eq]
  show _ = (remL ns i : Int)
  rw [show DL ns (i + 1) = DL ns i + (remL ns i + 1) from rfl]
  omega
theorem wordL_len (ns : List Int) (i : Nat) : (wordL ns i).length = remL ns i + 1 := by
  have h := (mulx_len ns i).trans (stepL_eq ns i)
  unfold wordL
  rw [Str.length_append, show (Str.ofString ";").length = 1 by decide]
  omega
theorem ptL_eq (ns : List Int) (j : Nat) : ∃ c, 1 ≤ c ∧ ptL ns j = ptAt c ((P0 ns + DL ns j) % 48) := by
  obtain ⟨c, h1, _, hk⟩ := col_okL ns j
  refine ⟨c, h1, ?_⟩
  have e : (plL ns j).toNat = (P0 ns + DL ns j) % 48 := by rw [plL_eq]; omega
  rw [← e]
  exact hk.pt
theorem slice_at {α : Type} (l : List α) (b c j : Nat) : (slice l b c)[j]? = if j < c - b then l[b + j]? else none := by
  unfold slice
  rw [List.getElem?_take]
  split
  · rw [List.getElem?_drop]
  · rfl
theorem fwd_slice (ns : List Int) {b c : Nat} (hc : c ≤ (numsL ns).length + 1) : Fwd (slice (ptsL ns) b c) (P0 ns) (fun j => DL ns (b + j)) := by
  refine ⟨fun j q e => ?_, fun j _ => ?_⟩
  · rw [slice_at] at e
    split at e
    · unfold ptsL at e
      rw [List.getElem?_map] at e
      obtain ⟨x, e1, rfl⟩ := Option.map_eq_some_iff.mp e
      obtain ⟨_, e2⟩ := List.getElem?_eq_some_iff.mp e1
      rw [List.getElem_range] at e2
      subst e2
      exact ptL_eq ns (b + j)
    · cases e
  · have := remL_lt ns (b + j)
    show DL ns (b + j) < DL ns (b + j) + (remL ns (b + j) + 1) ∧ DL ns (b + j) + (remL ns (b + j) + 1) ≤ DL ns (b + j) + 23
    omega
theorem slice_snoc {α : Type} (l : List α) {b c : Nat} (hb : b ≤ c) (hc : c < l.length) : slice l b (c + 1) = slice l b c ++ [l[c]] := by
  unfold slice
  rw [show c + 1 - b = (c - b) + 1 by omega, List.take_add_one, List.getElem?_drop, show b + (c - b) = c by omega, List.getElem?_eq_getElem hc]
  rfl
theorem wordsL_at (ns : List Int) {i : Nat} (h : i < (numsL ns).length) : (wordsL ns)[i]? = some (wordL ns i) := by
  unfold wordsL
  rw [List.getElem?_map, List.getElem?_range h]; rfl
theorem wordsL_len (ns : List Int) : (wordsL ns).length = (numsL ns).length := by unfold wordsL; simp
theorem sum_slice (ns : List Int) {b : Nat} : ∀ c, b ≤ c → c ≤ (numsL ns).length → ((slice (wordsL ns) b c).map (·.length)).sum + DL ns b = DL ns c
  | 0, hb, _ => by
    obtain rfl : b = 0 := by omega
    unfold slice; simp
  | c + 1, hb, hc => by
    rcases Nat.lt_or_ge b (c + 1) with h | h
    · have hc' : c < (wordsL ns).length := by rw [wordsL_len]; exact hc
      have hw := wordsL_at ns hc
      rw [List.getElem?_eq_getElem hc'] at hw
      rw [slice_snoc (wordsL ns) (b := b) (c := c) (by omega) hc', List.map_append, List.sum_append, Option.some.inj hw]
      have ih := sum_slice ns (b := b) c (by omega) (by omega)
      have := wordL_len ns c
      show _ + ((wordL ns c).length + 0) + _ = DL ns c + (remL ns c + 1)
      omega
    · obtain rfl : b = c + 1 := by omega
      unfold slice; simp
/-- the lines told and the words held when i words are laid -/
def stateL (ns : List Int) (e : Int) (i : Nat) : List Str × List Str := ((wordsL ns).take i).foldl (chunkF e) ([], [])
theorem stateL_succ (ns : List Int) (e : Int) {i : Nat} (h : i < (numsL ns).length) : stateL ns e (i + 1) = chunkF e (stateL ns e i) (wordL ns i) := by
  unfold stateL
  rw [List.take_add_one, wordsL_at ns h, List.foldl_append]; rfl
theorem rows_state (ns : List Int) {e : Int} (he : e = 23 ∨ e = 24) : ∀ i, i + 1 ≤ (numsL ns).length → stateL ns e (i + 1) = ((rowsTo (ptsL ns) (wordsL ns) e i).2, slice (wordsL ns) (rowsTo (ptsL ns) (wordsL ns) e i).1 (i + 1)) ∧
    (DL ns (i + 1) : Int) - (DL ns (rowsTo (ptsL ns) (wordsL ns) e i).1 : Int) ≤ e
  | 0, h => by
    have hw := wordL_len ns 0
    have hr := remL_lt ns 0
    have e1 : rowsTo (ptsL ns) (wordsL ns) e 0 = (0, []) := rfl
    have hl : 0 < (wordsL ns).length := by rw [wordsL_len]; exact h
    have hw0 := wordsL_at ns h
    rw [List.getElem?_eq_getElem hl] at hw0
    rw [stateL_succ ns e h, e1]
    refine ⟨?_, ?_⟩
    · show chunkF e ([], []) (wordL ns 0) = _
      unfold chunkF
      rw [if_neg (by simp only [List.nil_append, List.map_cons, List.map_nil, List.sum_cons, List.sum_nil]; omega), slice_snoc _ (Nat.le_refl 0) hl, Option.some.inj hw0]
      rfl
    · show ((0 + (remL ns 0 + 1) : Nat) : Int) - ((0 : Nat) : Int) ≤ e
      omega
  | i + 1, h => by
    obtain ⟨h1, h2⟩ := rows_state ns he i (by omega)
    have hle := rowsTo_le (ptsL ns) (wordsL ns) e i
    have hi : i + 1 < (wordsL ns).length := by rw [wordsL_len]; exact h
    have hw := wordsL_at ns h
    rw [List.getElem?_eq_getElem hi] at hw
    have hsn := slice_snoc (wordsL ns) (b := (rowsTo (ptsL ns) (wordsL ns) e i).1) (c := i + 1) (by omega) hi
    rw [Option.some.inj hw] at hsn
    have hsum := sum_slice ns (b := (rowsTo (ptsL ns) (wordsL ns) e i).1) (i + 1 + 1) (by omega) h
    have hsum2 : _ + _ = DL ns (i + 2) := hsum
    have hpl : (ptsL ns).length = (numsL ns).length + 1 := by unfold ptsL; simp
    have hK := kept_iff (e := e) (m := i + 1 - (rowsTo (ptsL ns) (wordsL ns) e i).1) (fwd_slice ns (b := (rowsTo (ptsL ns) (wordsL ns) e i).1) (c := i + 3) (by omega)) (by rw [slice_len, hpl]; omega) he (by
      show (DL ns ((rowsTo (ptsL ns) (wordsL ns) e i).1 + (i + 1 - (rowsTo (ptsL ns) (wordsL ns) e i).1)) : Int) - (DL ns ((rowsTo (ptsL ns) (wordsL ns) e i).1 + 0) : Int) ≤ e
      rw [show (rowsTo (ptsL ns) (wordsL ns) e i).1 + (i + 1 - (rowsTo (ptsL ns) (wordsL ns) e i).1) = i + 1 by omega]
      exact h2)
    have hK2 : Kept (slice (ptsL ns) (rowsTo (ptsL ns) (wordsL ns) e i).1 (i + 3)) (24 - e) ↔ (DL ns (i + 2) : Int) - (DL ns (rowsTo (ptsL ns) (wordsL ns) e i).1 : Int) ≤ e := by
      rw [hK]
      show (DL ns ((rowsTo (ptsL ns) (wordsL ns) e i).1 + (i + 1 - (rowsTo (ptsL ns) (wordsL ns) e i).1 + 1)) : Int) - (DL ns ((rowsTo (ptsL ns) (wordsL ns) e i).1 + 0) : Int) ≤ e ↔ _
      rw [show (rowsTo (ptsL ns) (wordsL ns) e i).1 + (i + 1 - (rowsTo (ptsL ns) (wordsL ns) e i).1 + 1) = i + 2 by omega]
      rfl
    rw [stateL_succ ns e h, h1, rowsTo_succ]
    unfold chunkF stepR
    dsimp only
    rw [← hsn]
    by_cases c : (DL ns (i + 2) : Int) - (DL ns (rowsTo (ptsL ns) (wordsL ns) e i).1 : Int) ≤ e
    · rw [if_pos (hK2.mpr c), if_neg (by omega)]
      exact ⟨rfl, c⟩
    · rw [if_neg (fun q => c (hK2.mp q)), if_pos (by omega)]
      refine ⟨?_, ?_⟩
      · dsimp only
        rw [show i + 2 - 1 = i + 1 by omega, slice_snoc _ (Nat.le_refl (i + 1)) hi, Option.some.inj hw]
        unfold slice
        simp
      · have hr := remL_lt ns (i + 1)
        show ((DL ns (i + 1) + (remL ns (i + 1) + 1) : Nat) : Int) - (DL ns (i + 1) : Int) ≤ e
        omega
/-- the formatter's lines are the law's rows -/
theorem rows_eq (ns : List Int) {e : Int} (he : e = 23 ∨ e = 24) (hn : 1 ≤ (numsL ns).length) : rowsF (ptsL ns) (wordsL ns) e = (stateL ns e (numsL ns).length).1 ++ [Txt.join (Str.ofString "") (stateL ns e (numsL ns).length).2] := by
  obtain ⟨n, hn'⟩ : ∃ n, (numsL ns).length = n + 1 := ⟨(numsL ns).length - 1, by omega⟩
  obtain ⟨h1, _⟩ := rows_state ns he n (by omega)
  have hp : (ptsL ns).length - 2 = n := by unfold ptsL; simp; omega
  unfold rowsF
  rw [hp, hn', h1]
  dsimp only
  congr 3
  unfold slice
  rw [List.take_of_length_le (by rw [List.length_drop, wordsL_len]; omega)]
theorem state_facts (ns : List Int) {e : Int} (he : e = 23 ∨ e = 24) : ∀ i, i ≤ (numsL ns).length → (∀ x ∈ (stateL ns e i).2, ∃ j, x = wordL ns j) ∧ (stateL ns e i).2.length ≤ i ∧ (stateL ns e i).1.length ≤ i ∧ (0 < i → 0 < (stateL ns e i).2.length)
  | 0, _ => by
    have e0 : stateL ns e 0 = ([], []) := rfl
    rw [e0]
    exact ⟨fun x hx => absurd hx (List.not_mem_nil), Nat.le_refl _, Nat.le_refl _, fun h => absurd h (Nat.lt_irrefl _)⟩
  | i + 1, h => by
    obtain ⟨h1, h2, h3, h4⟩ := state_facts ns he i (by omega)
    rw [stateL_succ ns e h]
    unfold chunkF
    split
    · refine ⟨fun x hx => ⟨i, List.mem_singleton.mp hx⟩, by simp, by simp; exact h3, fun _ => by simp⟩
    · refine ⟨fun x hx => ?_, by simp; exact h2, Nat.le_succ_of_le h3, fun _ => by simp⟩
      rcases List.mem_append.mp hx with q | q
      · exact h1 x q
      · exact ⟨i, List.mem_singleton.mp q⟩
end
end Mine

-- PlC
namespace Mine
open PySem PySem.W PyProof.Rows PySem.Spec PySem.Calls
set_option maxRecDepth 100000
set_option maxHeartbeats 1000000
noncomputable section
theorem semi_eq : Str.ofString ";" = ⟨#[59]⟩ := by decide +kernel
theorem semi_last (a : Str) : 0 < (a ++ Str.ofString ";").length ∧ Txt.item (a ++ Str.ofString ";") (-1) = Str.ofString ";" := by
  have hl : (a ++ Str.ofString ";").length = a.length + 1 := by rw [Str.length_append, semi_eq]; rfl
  refine ⟨by omega, ?_⟩
  unfold Txt.item Txt.charAt
  have hi : seqIndex? (-1) (a ++ Str.ofString ";").length = some a.length := by
    rw [hl]
    unfold seqIndex?
    simp only [show (-1 : Int) < 0 from by decide, if_true]
    rw [if_pos (by simp only [Bool.and_eq_true, decide_eq_true_eq]; omega)]
    congr 1
    omega
  rw [hi, semi_eq]
  obtain ⟨c⟩ := a
  show (⟨#[((c ++ #[59])[c.size]?).getD 0]⟩ : Str) = _
  simp
theorem word_semi (ns : List Int) (j : Nat) : 0 < (wordL ns j).length ∧ Txt.item (wordL ns j) (-1) = Str.ofString ";" := semi_last _
theorem join_eq (ws : List Str) : Txt.join (Str.ofString "") ws = Str.join (Str.ofString "") ws := eq_of_beq (join_plain_closes (Str.ofString "") ws)
theorem join_len {ws : List Str} (h : ∀ x ∈ ws, x.length ≤ 23) : (Txt.join (Str.ofString "") ws).length ≤ 23 * ws.length := by
  rw [join_eq]
  have h1 := StrLaws.join_length_le (Str.ofString "") ws
  rw [show (Str.ofString "").length = 0 by decide, Nat.mul_zero] at h1
  refine Nat.le_trans h1 ?_
  clear h1
  induction ws with
  | nil => simp
  | cons x r ih =>
    have := ih fun y hy => h y (.tail _ hy)
    have := h x (.head _)
    simp only [List.map_cons, List.sum_cons, List.length_cons]
    omega
theorem semi_space (a : Str) : (a ++ Str.ofString ";").cps.all Unicode.isSpace = false := by
  rw [semi_eq]
  obtain ⟨c⟩ := a
  show (c ++ #[59]).all Unicode.isSpace = false
  rw [Array.all_append]
  have : (#[59] : Array Nat).all Unicode.isSpace = false := by decide +kernel
  rw [this, Bool.and_false]
theorem join_space {ns : List Int} {j : Nat} {r : List Str} : Txt.isspace (Txt.join (Str.ofString "") (wordL ns j :: r)) = false := by
  rw [join_eq]
  unfold Txt.isspace
  have h : (Str.join (Str.ofString "") (wordL ns j :: r)).cps.all Unicode.isSpace = false := by
    cases r with
    | nil => exact semi_space _
    | cons y r =>
      show ((wordL ns j).cps ++ (Str.ofString "").cps ++ (Str.join (Str.ofString "") (y :: r)).cps).all Unicode.isSpace = false
      rw [Array.all_append, Array.all_append]
      have : (wordL ns j).cps.all Unicode.isSpace = false := semi_space _
      rw [this, Bool.false_and, Bool.false_and]
  rw [h, Bool.and_false]
theorem word_len23 (ns : List Int) (j : Nat) : (wordL ns j).length ≤ 23 := by
  rw [wordL_len]; have := remL_lt ns j; omega
theorem lines_len (ns : List Int) {e : Int} (he : e = 23 ∨ e = 24) (hn : (numsL ns).length ≤ 10) : ∀ i, i ≤ (numsL ns).length → ∀ l ∈ (stateL ns e i).1, l.length ≤ 230
  | 0, _ => fun l hl => absurd hl List.not_mem_nil
  | i + 1, h => fun l hl => by
    obtain ⟨h1, h2, _⟩ := state_facts ns he i (by omega)
    rw [stateL_succ ns e h] at hl
    unfold chunkF at hl
    split at hl
    · rcases List.mem_append.mp hl with q | q
      · exact lines_len ns he hn i (by omega) l q
      · rw [List.mem_singleton.mp q]
        have := join_len (ws := (stateL ns e i).2) fun x hx => by
          obtain ⟨j, rfl⟩ := h1 x hx
          exact word_len23 ns j
        omega
    · exact lines_len ns he hn i (by omega) l hl
theorem sum_le230 {ls : List Str} (h : ∀ l ∈ ls, l.length ≤ 230) : (ls.map (·.length)).sum ≤ 230 * ls.length := by
  induction ls with
  | nil => simp
  | cons x r ih =>
    have := ih fun y hy => h y (.tail _ hy)
    have := h x (.head _)
    simp only [List.map_cons, List.sum_cons, List.length_cons]
    omega
/-- what the whole text's size is asked to be -/
theorem big_ok (ns : List Int) {e : Int} (he : e = 23 ∨ e = 24) (hn : (numsL ns).length ≤ 10) {ls ws : List Str} (hs : stateL ns e (numsL ns).length = (ls, ws)) : ((ls ++ [Txt.join (Str.ofString "") ws]).map (·.length)).sum + (ls ++ [Txt.join (Str.ofString "") ws]).length ≤ 10000 := by
  obtain ⟨h1, h2, h3, _⟩ := state_facts ns he (numsL ns).length (Nat.le_refl _)
  have hl := lines_len ns he hn (numsL ns).length (Nat.le_refl _)
  rw [hs] at h1 h2 h3 hl
  have hj := join_len (ws := ws) fun x hx => by
    obtain ⟨j, rfl⟩ := h1 x hx
    exact word_len23 ns j
  have := sum_le230 (ls := ls ++ [Txt.join (Str.ofString "") ws]) fun l hl' => by
    rcases List.mem_append.mp hl' with q | q
    · exact hl l q
    · rw [List.mem_singleton.mp q]; dsimp only at h2; omega
  rw [List.length_append] at this ⊢
  dsimp only at h3
  simp only [List.length_cons, List.length_nil] at this ⊢
  omega
end
end Mine

-- LwD
namespace Mine
open PySem PySem.W PyProof.Rows PySem.Spec PySem.Calls
set_option maxRecDepth 100000
set_option maxHeartbeats 1000000
set_option pp.deepTerms false
set_option pp.deepTerms.threshold 8
set_option pp.fieldNotation false
noncomputable section
local macro_rules | `(tactic| walk_at "m_enterCG") => `(tactic| (refine' enterC ?X ?lim ?g ?gs ?M ?room ?ho ?hcd ?bind ?kind ?nd ?_ ?c1 ?c2 ?c3; (case X => exact Base.X (by with_reducible assumption)); (case lim => exact TopRead.nolimit (Base.T (by with_reducible assumption))); (case g => exact Base.grows (by with_reducible assumption)); (case gs => exact Base.size (by with_reducible assumption)); (case M => with_reducible assumption); (case room => decide); (case ho => k_is); (case hcd => k_is); (case bind => exact BindsTo.of_eq rfl); (case kind => exact rfl); (case nd => decide); (case c1 => exact rfl); (case c2 => exact rfl); (case c3 => exact rfl); k_whole; intro h' tk' cells' F' N' Y' l1; (try dsimp only); (try dsimp only at F' N'); (k_cells Y'); (try simp only [List.append_nil, List.cons_append, List.nil_append] at N'); (try k_fold)))
local macro_rules | `(tactic| walk_at "eval Name") => `(tactic| (k_inBlock; k_dflt (first
  | (refine' nm_L rfl rfl rfl ?hn ?hv ?_; (case hn => assumption); (case hv => assumption); k_whole)
  | (refine' nm_C rfl rfl rfl ?ho ?hd ?_; (case ho => assumption); (case hd => assumption); k_whole)
  | (refine' nm_G rfl rfl rfl ?X ?T ?e ?_; (case X => assumption); (case T => assumption); (case e => k_is); k_whole)
  | (refine' nm_B rfl rfl rfl rfl ?X ?T ?e ?v ?n ?_; (case X => assumption); (case T => assumption); (case e => k_is); (case v => boot_fast); (case n => decide); k_whole))))

local macro_rules | `(tactic| walk_at "exec Assign cons ListComp") => `(tactic| ((first | (with_reducible show wpAny _ _ (exec (Stmt.Assign [Expr.Name (Str.ofString "words") _] _ _) _) _ _ _) | (with_reducible show wpAny _ _ (exec (Stmt.Assign [Expr.Name (Str.ofString "points") _] _ _) _) _ _ _)); refine halt ?_))
local macro_rules | `(tactic| walk_at "eval ListComp") => `(tactic| ((with_reducible show wpAny _ _ (eval (Expr.ListComp _ _ _ _) _) _ _ _); refine halt ?_))
local macro_rules | `(tactic| walk_at "call ref") => `(tactic| ((with_reducible show wpAny _ _ (call (Value.ref _) _) _ _ _); refine halt ?_))
local macro_rules | `(tactic| walk_at "exec For Name Name cons nil") => `(tactic| (refine halt ?_))
local macro_rules | `(tactic| walk_at "exec For Name Tuple cons nil") => `(tactic| (refine halt ?_))
local macro_rules | `(tactic| walk_at "subscriptTail Name UnaryOp ref int") => `(tactic| (refine halt ?_))
local macro_rules | `(tactic| walk_at "call builtin:list.append") => `(tactic| (refine halt ?_))
/-- between the turns over the edges -/
def EdgeJ (ns : List Int) (D2 D3 tt : Addr) (to : Obj) (ys2 : Array Value) (n4 n5 : Nat) (as : List Addr) (tups2 : List (Addr × Obj)) (_ : Nat) (m : Str → Option Value) (nx : List (Addr × Obj)) (gs : Array GenState) : Prop :=
  AllBare gs ∧ m (Str.ofString "words") = some (.ref D2) ∧ m (Str.ofString "points") = some (.ref D3) ∧ ∃ p1 p2 : Array Value, TriplesOk p1.toList ∧ TriplesOk p2.toList ∧
    nx = ((140 : Addr), tabObj p1) :: ((147 : Addr), tabObj p2) :: (tt, to) :: (D3, W.listOf (List.toArray (as.map Value.ref)) n5) :: (D2, W.listOf ys2 n4) :: tups2
/-- between the turns over the words -/
def WordJ (w : World) (g : Heap) (ns : List Int) (e : Int) (te : Tok) (D2 D3 fo fdx lr a dx : Addr) (k1 k2 k3 k4 k5 k6 v1 v2 v3 v4 : Tok) (nf nd : Nat) (t0 : Tok) (rest : List (Addr × Obj)) (i : Nat) (m : Str → Option Value) (nx : List (Addr × Obj)) (gs : Array GenState) : Prop :=
  AllBare gs ∧ m (Str.ofString "words") = some (.ref D2) ∧ m (Str.ofString "points") = some (.ref D3) ∧ m (Str.ofString "folder") = some (.ref fo) ∧ m (Str.ofString "edge") = some (.int e te) ∧
    ∃ (ts : List Addr) (n nn : Nat) (u0 : Tok) (rv p1 p2 : Array Value) (wt : List (Addr × Obj)), TriplesOk p1.toList ∧ TriplesOk p2.toList ∧ WordsIn g wt ts (stateL ns e i).2 ∧ IsTups wt ∧ StrsAre rv.toList (stateL ns e i).1 ∧
      nx = five w a dx lr ts n nd nn t0 u0 rv p1 p2 ++ ([(fo, instObj 94 fdx), (fdx, fmtDict w e lr a k1 k2 k3 k4 k5 k6 v1 v2 v3 v4 nf)] ++ (rest ++ wt))
theorem map_two {m : Str → Option Value} {a b : Str} {u v : Value} (ha : m a = some u) (hb : m b = some v) : m = fun y => if y = a then some u else if y = b then some v else m y := by
  funext y
  split
  · rename_i e; rw [e, ha]
  · split
    · rename_i e; rw [e, hb]
    · rfl
theorem map_four {m : Str → Option Value} {a b c d : Str} {u v x y : Value} (ha : m a = some u) (hb : m b = some v) (hc : m c = some x) (hd : m d = some y) : m = fun z => if z = a then some u else if z = b then some v else if z = c then some x else if z = d then some y else m z := by
  funext z
  split
  · rename_i e; rw [e, ha]
  · split
    · rename_i e; rw [e, hb]
    · split
      · rename_i e; rw [e, hc]
      · split
        · rename_i e; rw [e, hd]
        · rfl
theorem new_of {g h : Heap} {L b : Addr} {m : Str → Option Value} (F : Fr g L h m) (hb : h.get? b = none) : b ≠ L ∧ g.get? b = none := by
  constructor
  · rintro rfl
    obtain ⟨o, es, ep, ho, _⟩ := F.ns
    rw [hb] at ho; cases ho
  · cases e : g.get? b with
    | none => rfl
    | some o => have := F.keep _ _ e; rw [hb] at this; cases this
theorem strs_at : ∀ {vs : List Value} {ns : List Str}, StrsAre vs ns → ∀ {j : Nat} {v : Value}, vs[j]? = some v → ∃ n t, ns[j]? = some n ∧ v = .str n t
  | _, _, .nil, j, v, e => by simp at e
  | _, _, .cons n t _, 0, v, e => ⟨n, t, rfl, (Option.some.inj e).symm⟩
  | _, _, .cons _ _ r, j + 1, v, e => strs_at r (j := j) (by simpa using e)
local macro_rules | `(tactic| walk_at "call builtin:str.join") => `(tactic| (refine halt ?_))
theorem hex_le : ((List.range 48).all fun p => decide ((hexN p).1 ≤ 16 ∧ (hexN p).2 ≤ 16)) = true := by decide +kernel
theorem pt_bound (ns : List Int) {p : Int × Int} (hp : p ∈ ptsL ns) : (-1000 ≤ p.1 ∧ p.1 ≤ 1000) ∧ -1000 ≤ p.2 ∧ p.2 ≤ 1000 := by
  unfold ptsL at hp
  obtain ⟨j, _, rfl⟩ := List.mem_map.mp hp
  obtain ⟨c, h1, h2, hk⟩ := col_okL ns j
  obtain ⟨q0, q1⟩ := pl_in ns j
  have e : ptL ns j = ptAt c (plL ns j).toNat := hk.pt
  rw [e]
  have hx := of_decide_eq_true (List.all_eq_true.mp hex_le (plL ns j).toNat (List.mem_range.mpr (by omega)))
  unfold ptAt
  have m1 : 2 * c * (hexN (plL ns j).toNat).1 ≤ 2 * c * 16 := Nat.mul_le_mul_left _ hx.1
  have m2 : 2 * c * (hexN (plL ns j).toNat).2 ≤ 2 * c * 16 := Nat.mul_le_mul_left _ hx.2
  dsimp only
  generalize 2 * c * (hexN (plL ns j).toNat).1 = a at *
  generalize 2 * c * (hexN (plL ns j).toNat).2 = b at *
  omega
theorem pts_heap {g h : Heap} {L D3 : Addr} {m : Str → Option Value} {tups2 : List (Addr × Obj)} {as : List Addr} {n5 : Nat} {ns : List Int} (F : Fr g L h m) (N : News g L h tups2) (hl : h.get? D3 = some (W.listOf (List.toArray (as.map Value.ref)) n5)) (has : as.length = (numsL ns).length + 1)
    (hpin : ∀ j a, as[j]? = some a → PtIn g tups2 a (ptL ns j)) : PtsAt h D3 as (ptsL ns) := by
  refine ⟨⟨_, hl, rfl, _, rfl⟩, by rw [has]; unfold ptsL; simp, fun i a p e1 e2 => ?_⟩
  unfold ptsL at e2
  rw [List.getElem?_map] at e2
  obtain ⟨j, e3, rfl⟩ := Option.map_eq_some_iff.mp e2
  obtain ⟨_, e4⟩ := List.getElem?_eq_some_iff.mp e3
  rw [List.getElem_range] at e4
  subst e4
  obtain ⟨t, u, z | z⟩ := hpin i a e1
  · exact ⟨t, u, F.keep _ _ z⟩
  · exact ⟨t, u, (N _ z).1⟩
theorem edge_pack {g h : Heap} {L tt : Addr} {to : Obj} {x y : Addr × Obj} {r : List (Addr × Obj)} (N : News g L h (x :: y :: (tt, to) :: r)) : ∃ tt' to', tt' = tt ∧ to' = to ∧ News g L h (x :: y :: (tt', to') :: r) := ⟨_, _, rfl, rfl, N⟩
theorem lawD0 : lawC.1 := by
  intro w
  unhygienic intros
  clear F' N' a hL0 l1
  k_steps
  refine Stop.intro ?_
  refine forTuple (h₀ := g) ?_ rfl rfl rfl
  k_steps
  (with_reducible rename Fr _ _ _ _ => F6)
  (with_reducible rename News _ _ _ _ => N6)
  have N7 : News g s.heap.objs.size _ _ := List.forall_mem_cons.mpr ⟨N6 _ (.tail _ (.tail _ (.tail _ (.head _)))), List.forall_mem_cons.mpr ⟨N6 _ (.tail _ (.tail _ (.tail _ (.tail _ (.head _))))), List.forall_mem_cons.mpr ⟨N6 _ (.head _), List.forall_mem_cons.mpr ⟨N6 _ (.tail _ (.head _)), List.forall_mem_cons.mpr ⟨N6 _ (.tail _ (.tail _ (.head _))), fun p hp => N6 p (.tail _ (.tail _ (.tail _ (.tail _ (.tail _ hp)))))⟩⟩⟩⟩⟩
  have hlT := N6.get (.head _)
  obtain ⟨tt, to, rfl, eto, N7⟩ := edge_pack N7
  have hto : to.cls = .type "tuple" := by rw [eto]
  clear N6 eto
  refine Stop.intro ⟨EdgeJ ns D2 D3 _ to ys2 n4 n5 as tups2, _, _, to, _, _, rfl, ⟨_, hlT, rfl, _, rfl⟩, F6, N7, ⟨G, rfl, rfl, #[], #[], trivial, trivial, rfl⟩, ?_, ?_, ?_⟩
  · rintro i m nx gs ⟨_, _, _, p1, p2, _, _, rfl⟩
    exact .tail _ (.tail _ (.head _))
  · clear F6 N7 hlT
    rintro i v m nx gs h2 tk2 I io hi2 hv ⟨G2, hmw, hmp, p1, p2, hp1, hp2, rfl⟩ F N hio hI
    rw [map_two hmw hmp] at F
    obtain ⟨e, te, rfl, he⟩ : ∃ (e : Int) (te : Tok), v = .int e te ∧ (e = 23 ∨ e = 24) := by
      match i, hi2, hv with
      | 0, _, hv => exact ⟨23, _, (Option.some.inj hv).symm, .inl rfl⟩
      | 1, _, hv => exact ⟨24, _, (Option.some.inj hv).symm, .inr rfl⟩
      | i + 2, h, _ => exact absurd h (by simp)
    simp only [List.cons_append, List.nil_append] at N
    k_steps
    refine Stop.intro ?_
    have hL178 : 178 < h2.objs.size := Nat.lt_trans h178 F.ns.lt
    refine wpAny_AD 400 rfl (Nat.le_of_ble_eq_true rfl) (Nat.le_of_ble_eq_true rfl) ?_
    refine fmtnew_spec e _ _ _ _ (B.up F.keep) hL178 fun fo fdx lr a dx h3 tk3 k1 k2 k3 k4 k5 k6 v1 v2 v3 v4 nf nd t0 u0 kk hfo hfd hlr ha hdx hadx ha178 hnew => ?_
    have F3 := F.keeps kk
    have N3 := N.grown kk
    have nw : ∀ b ∈ [fo, fdx, lr, a, dx], b ≠ s.heap.objs.size ∧ g.get? b = none := fun b hb => new_of F (hnew b hb)
    have Nf : News g s.heap.objs.size h3 (five w_1 a dx lr [] 0 nd 0 t0 u0 #[] p1 p2) :=
      List.forall_mem_cons.mpr ⟨⟨ha, nw a (.tail _ (.tail _ (.tail _ (.head _))))⟩, List.forall_mem_cons.mpr ⟨⟨hdx, nw dx (.tail _ (.tail _ (.tail _ (.tail _ (.head _)))))⟩, List.forall_mem_cons.mpr ⟨⟨hlr, nw lr (.tail _ (.tail _ (.head _)))⟩, List.forall_mem_cons.mpr ⟨N3 _ (.head _), List.forall_mem_cons.mpr ⟨N3 _ (.tail _ (.head _)), List.forall_mem_nil _⟩⟩⟩⟩⟩
    have Nfo : News g s.heap.objs.size h3 [(fo, instObj 94 fdx), (fdx, fmtDict w_1 e lr a k1 k2 k3 k4 k5 k6 v1 v2 v3 v4 nf)] :=
      List.forall_mem_cons.mpr ⟨⟨hfo, nw fo (.head _)⟩, List.forall_mem_cons.mpr ⟨⟨hfd, nw fdx (.tail _ (.head _))⟩, List.forall_mem_nil _⟩⟩
    have Nr : News g s.heap.objs.size h3 _ := fun p hp => N3 p (.tail _ (.tail _ hp))
    have N4 := News.app Nf (News.app Nfo Nr)
    have hrest : ∀ p ∈ ((tt, to) : Addr × Obj) :: (D3, W.listOf (List.toArray (as.map Value.ref)) n5) :: (D2, W.listOf ys2 n4) :: (tups2 ++ [(I, io)]), p.1 ∉ [a, dx, lr, 140, 147] := fun p hp q => by
      have hpN := (N p (.tail _ (.tail _ hp))).1
      have hcls : p.2.cls ≠ .none := by
        rcases List.mem_cons.mp hp with rfl | hp
        · rw [hto]; decide
        rcases List.mem_cons.mp hp with rfl | hp
        · show Value.type "list" ≠ _; decide
        rcases List.mem_cons.mp hp with rfl | hp
        · show Value.type "list" ≠ _; decide
        rcases List.mem_append.mp hp with hp | hp
        · rw [(Ct2 p hp).1]; decide
        · rw [List.mem_singleton.mp hp, hio]; decide
      have fr : ∀ b ∈ [fo, fdx, lr, a, dx], p.1 ≠ b := fun b hb q => by have := hnew b hb; rw [← q, hpN] at this; cases this
      rcases List.mem_cons.mp q with q | q
      · exact fr a (.tail _ (.tail _ (.tail _ (.head _)))) q
      rcases List.mem_cons.mp q with q | q
      · exact fr dx (.tail _ (.tail _ (.tail _ (.tail _ (.head _))))) q
      rcases List.mem_cons.mp q with q | q
      · exact fr lr (.tail _ (.tail _ (.head _))) q
      rcases List.mem_cons.mp q with q | q
      · exact ne_cls hpN (N.get (.head _)) hcls q
      · exact ne_cls hpN (N.get (.tail _ (.head _))) hcls (List.mem_singleton.mp q)
    have hIf : ∀ b ∈ [fo, fdx, lr, a, dx, 140, 147], b ≠ I := fun b hb q => by
      have hI1 := (N _ (.tail _ (.tail _ (.tail _ (.tail _ (.tail _ (List.mem_append_right _ (.head _)))))))).1
      have fr : ∀ b ∈ [fo, fdx, lr, a, dx], I ≠ b := fun b hb q => by have := hnew b hb; rw [← q, hI1] at this; cases this
      rcases List.mem_cons.mp hb with hb | hb
      · exact fr fo (.head _) (hb ▸ q).symm
      rcases List.mem_cons.mp hb with hb | hb
      · exact fr fdx (.tail _ (.head _)) (hb ▸ q).symm
      rcases List.mem_cons.mp hb with hb | hb
      · exact fr lr (.tail _ (.tail _ (.head _))) (hb ▸ q).symm
      rcases List.mem_cons.mp hb with hb | hb
      · exact fr a (.tail _ (.tail _ (.tail _ (.head _)))) (hb ▸ q).symm
      rcases List.mem_cons.mp hb with hb | hb
      · exact fr dx (.tail _ (.tail _ (.tail _ (.tail _ (.head _))))) (hb ▸ q).symm
      rcases List.mem_cons.mp hb with hb | hb
      · exact hI _ (.head _) (hb ▸ q)
      · exact hI _ (.tail _ (.head _)) (List.mem_singleton.mp hb ▸ q)
    clear F N N3 Nf Nfo Nr kk hfo hfd hlr ha hdx nw
    (simp only [five, List.cons_append, List.nil_append] at N4)
    k_steps
    refine Stop.intro ?_
    have hnl : (numsL ns).length ≤ 10 := by
      unfold numsL
      rw [List.length_append, List.length_map, List.length_take]
      simp; omega
    have hwsl : ys2.size = (numsL ns).length := by
      have := hws.length
      rw [Array.length_toList, wordsL_len] at this
      exact this
    (with_reducible rename Fr _ _ _ _ => F4)
    (with_reducible rename News _ _ _ _ => N4)
    refine forList (h₀ := g) (WordJ w_1 g ns e te D2 D3 fo fdx lr a dx k1 k2 k3 k4 k5 k6 v1 v2 v3 v4 nf nd t0 (((tt, to) : Addr × Obj) :: (D3, W.listOf (List.toArray (as.map Value.ref)) n5) :: (D2, W.listOf ys2 n4) :: (tups2 ++ [(I, io)]))) ?_ rfl rfl rfl
    k_steps
    refine Stop.intro ⟨D2, ys2, n4, _, _, rfl, F4, N4, ⟨G2, rfl, rfl, rfl, rfl, [], 0, 0, u0, #[], p1, p2, [], hp1, hp2, ⟨rfl, fun i t x q => by cases q⟩, List.forall_mem_nil _, .nil, by rw [List.append_nil]; rfl⟩, ?_, ?_, ?_⟩
    · rintro i m nx gs ⟨_, _, _, _, _, ts, n, nn, u0, rv, p1, p2, wt, _, _, _, _, _, rfl⟩
      exact List.mem_append_right _ (List.mem_append_right _ (List.mem_append_left _ (.tail _ (.tail _ (.head _)))))
    · clear F4 N4 hp1 hp2 G2
      rintro i v m nx gs h4 tk4 I2 io2 hi2 hv ⟨G2, hmw, hmp, hmf, hme, ts, n, nn, u0, rv, p1, p2, wt, hp1, hp2, HW, Iw, hrv, rfl⟩ F N hio2 hI2
      rw [map_four hmw hmp hmf hme] at F
      rw [hwsl] at hi2
      obtain ⟨x, tx, hx, rfl⟩ := strs_at hws (by simpa using hv)
      rw [wordsL_at ns hi2] at hx
      obtain rfl : wordL ns i = x := Option.some.inj hx
      obtain ⟨f1, f2, f3, f4⟩ := state_facts ns he i (Nat.le_of_lt hi2)
      have Nf : News g s.heap.objs.size h4 (five w_1 a dx lr ts n nd nn t0 u0 rv p1 p2) := fun p hp => N p (List.mem_append_left _ (List.mem_append_left _ hp))
      have Nfo : News g s.heap.objs.size h4 [(fo, instObj 94 fdx), (fdx, fmtDict w_1 e lr a k1 k2 k3 k4 k5 k6 v1 v2 v3 v4 nf)] := fun p hp => N p (List.mem_append_left _ (List.mem_append_right _ (List.mem_append_left _ hp)))
      have Nr : News g s.heap.objs.size h4 (((tt, to) : Addr × Obj) :: (D3, W.listOf (List.toArray (as.map Value.ref)) n5) :: (D2, W.listOf ys2 n4) :: (tups2 ++ [(I, io)])) := fun p hp => N p (List.mem_append_left _ (List.mem_append_right _ (List.mem_append_right _ (List.mem_append_left _ hp))))
      have Nw : News g s.heap.objs.size h4 wt := fun p hp => N p (List.mem_append_left _ (List.mem_append_right _ (List.mem_append_right _ (List.mem_append_right _ hp))))
      have NI : News g s.heap.objs.size h4 [(I2, io2)] := fun p hp => N p (List.mem_append_right _ hp)
      have hrest2 : ∀ p ∈ (((tt, to) : Addr × Obj) :: (D3, W.listOf (List.toArray (as.map Value.ref)) n5) :: (D2, W.listOf ys2 n4) :: (tups2 ++ [(I, io)])) ++ [(I2, io2)], p.1 ∉ [a, dx, lr, 140, 147] := fun p hp => by
        rcases List.mem_append.mp hp with q | q
        · exact hrest p q
        · rw [List.mem_singleton.mp q]
          exact five_off Nf (NI.get (.head _)) (by rw [hio2]; decide) (by rw [hio2]; decide) (by rw [hio2]; decide) (by rw [hio2]; decide)
      have N8 := News.app Nfo N
      simp only [List.cons_append, List.nil_append] at N8
      clear N
      k_steps
      refine Stop.intro ?_
      refine wpAny_AD 500 rfl (Nat.le_of_ble_eq_true rfl) (Nat.le_of_ble_eq_true rfl) ?_
      have hwl23 := word_len23 ns i
      have hrvl := hrv.length
      rw [Array.length_toList] at hrvl
      refine chunk_step fo fdx lr a dx e k1 k2 k3 k4 k5 k6 v1 v2 v3 v4 nf ts (stateL ns e i).2 (wordL ns i) _ _ rv (stateL ns e i).1 n nd nn t0 u0 p1 p2 ((((tt, to) : Addr × Obj) :: (D3, W.listOf (List.toArray (as.map Value.ref)) n5) :: (D2, W.listOf ys2 n4) :: (tups2 ++ [(I, io)])) ++ [(I2, io2)]) wt (B.at F) F Nf Nfo (News.app Nr NI) Nw hrest2 HW hp1 hp2 (Nat.lt_trans h178 F.ns.lt) ha178 hadx G2 (by omega)
        (fun y hy => by obtain ⟨j, rfl⟩ := f1 y hy; have := word_len23 ns j; omega) (by omega) (by rcases he with rfl | rfl <;> omega) (fun y hy => by obtain ⟨j, rfl⟩ := f1 y hy; exact word_semi ns j) hrv (by omega) fun h5 gs5 tk5' ts5 n5' u5 rv5 nn5 q1 q2 wt5 G5 F5' Nf5 Nfo5 Nr5 Nw5 HW5 Iw5 hrv5 hq1 hq2 => ?_
      refine wpAny_execs_nil ?_
      have est : chunkF e ((stateL ns e i).1, (stateL ns e i).2) (wordL ns i) = stateL ns e (i + 1) := (stateL_succ ns e hi2).symm
      rw [est] at HW5 hrv5
      have hio5 := Nr5 _ (List.mem_append_right _ (List.mem_singleton.mpr rfl))
      refine Stop.intro ⟨h5, gs5, _, _, five w_1 a dx lr ts5 n5' nd nn5 t0 u5 rv5 q1 q2 ++ ([(fo, instObj 94 fdx), (fdx, fmtDict w_1 e lr a k1 k2 k3 k4 k5 k6 v1 v2 v3 v4 nf)] ++ ((((tt, to) : Addr × Obj) :: (D3, W.listOf (List.toArray (as.map Value.ref)) n5) :: (D2, W.listOf ys2 n4) :: (tups2 ++ [(I, io)])) ++ wt5)), rfl, F5', fun p hp => ?_, fun p hp => ?_, G5, rfl, rfl, rfl, rfl, ts5, n5', nn5, u5, rv5, q1, q2, wt5, hq1, hq2, HW5, Iw5, hrv5, rfl⟩
      · rcases List.mem_append.mp hp with q | q
        · rcases List.mem_append.mp q with q | q
          · exact Nf5 p q
          rcases List.mem_append.mp q with q | q
          · exact Nfo5 p q
          rcases List.mem_append.mp q with q | q
          · exact Nr5 p (List.mem_append_left _ q)
          · exact Nw5 p q
        · exact Nr5 p (List.mem_append_right _ q)
      · have old : ∀ p ∈ five w_1 a dx lr ts n nd nn t0 u0 rv p1 p2 ++ ([(fo, instObj 94 fdx), (fdx, fmtDict w_1 e lr a k1 k2 k3 k4 k5 k6 v1 v2 v3 v4 nf)] ++ (((tt, to) : Addr × Obj) :: (D3, W.listOf (List.toArray (as.map Value.ref)) n5) :: (D2, W.listOf ys2 n4) :: (tups2 ++ [(I, io)]))), p.1 ≠ I2 := fun p hp => by
          rcases List.mem_append.mp hp with q | q
          · exact hI2 p (List.mem_append_left _ q)
          rcases List.mem_append.mp q with q | q
          · exact hI2 p (List.mem_append_right _ (List.mem_append_left _ q))
          · exact hI2 p (List.mem_append_right _ (List.mem_append_right _ (List.mem_append_left _ q)))
        rcases List.mem_append.mp hp with q | q
        · rcases List.mem_cons.mp q with rfl | q
          · show a ≠ I2; exact old (a, accObj dx (ts.map Value.ref).toArray n) (List.mem_append_left _ (.head _))
          rcases List.mem_cons.mp q with rfl | q
          · show dx ≠ I2; exact old (dx, accDict w_1 t0 u0 nd) (List.mem_append_left _ (.tail _ (.head _)))
          rcases List.mem_cons.mp q with rfl | q
          · show lr ≠ I2; exact old (lr, W.listOf rv nn) (List.mem_append_left _ (.tail _ (.tail _ (.head _))))
          rcases List.mem_cons.mp q with rfl | q
          · show (140 : Addr) ≠ I2; exact old ((140 : Addr), tabObj p1) (List.mem_append_left _ (.tail _ (.tail _ (.tail _ (.head _)))))
          · rw [List.mem_singleton.mp q]
            show (147 : Addr) ≠ I2
            exact old ((147 : Addr), tabObj p2) (List.mem_append_left _ (.tail _ (.tail _ (.tail _ (.tail _ (.head _))))))
        rcases List.mem_append.mp q with q | q
        · exact old p (List.mem_append_right _ (List.mem_append_left _ q))
        rcases List.mem_append.mp q with q | q
        · exact old p (List.mem_append_right _ (List.mem_append_right _ q))
        · exact ne_cls (Nw5 p q).1 hio5.1 (by rw [(Iw5 p q).1]; show Value.type "tuple" ≠ io2.cls; rw [hio2]; decide)
    · clear F4 N4 hp1 hp2 G2
      rintro m nx gs h4 tk4 ⟨G2, hmw, hmp, hmf, hme, ts, n, nn, u0, rv, p1, p2, wt, hp1, hp2, HW, Iw, hrv, rfl⟩ F N
      rw [map_four hmw hmp hmf hme] at F
      rw [hwsl] at HW hrv
      obtain ⟨f1, f2, f3, f4⟩ := state_facts ns he (numsL ns).length (Nat.le_refl _)
      have hrows := rows_eq ns he (by omega)
      have hbig := big_ok ns he hnl (ls := (stateL ns e (numsL ns).length).1) (ws := (stateL ns e (numsL ns).length).2) rfl
      generalize (stateL ns e (numsL ns).length).1 = lines at *
      have hspc : ∀ y r, (stateL ns e (numsL ns).length).2 = y :: r → Txt.isspace (Txt.join (Str.ofString "") (stateL ns e (numsL ns).length).2) = false := fun y r q => by
        obtain ⟨j, e1⟩ := f1 y (by rw [q]; exact .head _)
        rw [q, e1]
        exact join_space
      have hlen4 := f4 (by omega)
      generalize (stateL ns e (numsL ns).length).2 = cur at *
      have Nf : News g s.heap.objs.size h4 (five w_1 a dx lr ts n nd nn t0 u0 rv p1 p2) := fun p hp => N p (List.mem_append_left _ hp)
      have Nfo : News g s.heap.objs.size h4 [(fo, instObj 94 fdx), (fdx, fmtDict w_1 e lr a k1 k2 k3 k4 k5 k6 v1 v2 v3 v4 nf)] := fun p hp => N p (List.mem_append_right _ (List.mem_append_left _ hp))
      have Nr : News g s.heap.objs.size h4 (((tt, to) : Addr × Obj) :: (D3, W.listOf (List.toArray (as.map Value.ref)) n5) :: (D2, W.listOf ys2 n4) :: (tups2 ++ [(I, io)])) := fun p hp => N p (List.mem_append_right _ (List.mem_append_right _ (List.mem_append_left _ hp)))
      have Nw : News g s.heap.objs.size h4 wt := fun p hp => N p (List.mem_append_right _ (List.mem_append_right _ (List.mem_append_right _ hp)))
      have N8 := News.app Nfo N
      simp only [List.cons_append, List.nil_append] at N8
      clear N
      dsimp only
      k_steps
      refine Stop.intro ?_
      clear N8
      refine wpAny_AD 400 rfl (Nat.le_of_ble_eq_true rfl) (Nat.le_of_ble_eq_true rfl) ?_
      obtain ⟨ws', y, rfl⟩ : ∃ ws' y, cur = ws' ++ [y] := ⟨cur.dropLast, cur.getLast (List.ne_nil_of_length_pos hlen4), (List.dropLast_concat_getLast _).symm⟩
      have htl : ts ≠ [] := by
        rintro rfl
        have := HW.1
        simp at this
      obtain ⟨ts', Te, rfl⟩ : ∃ ts' Te, ts = ts' ++ [Te] := ⟨ts.dropLast, ts.getLast htl, (List.dropLast_concat_getLast _).symm⟩
      have hsp : Txt.isspace (Txt.join (Str.ofString "") (ws' ++ [y])) = false := by
        cases hq : ws' ++ [y] with
        | nil => simp at hq
        | cons a r => rw [← hq]; exact hspc a r hq
      have hpos : 0 < ((ws' ++ [y]).map (·.length)).sum := by
        obtain ⟨j, hj⟩ := f1 y (List.mem_append_right _ (.head _))
        have := wordL_len ns j
        rw [List.map_append, List.sum_append, hj]
        simp only [List.map_cons, List.map_nil, List.sum_cons, List.sum_nil]
        omega
      have hwl5 : ∀ x ∈ ws' ++ [y], x.length ≤ 100 := fun x hx => by obtain ⟨j, rfl⟩ := f1 x hx; have := word_len23 ns j; omega
      have hrvl := hrv.length
      rw [Array.length_toList] at hrvl
      rw [List.length_append] at f2
      refine str_step fo fdx lr a dx e k1 k2 k3 k4 k5 k6 v1 v2 v3 v4 nf ts' Te ws' y rv lines n nd nn t0 u0 _ p1 p2 (((tt, to) : Addr × Obj) :: (D3, W.listOf (List.toArray (as.map Value.ref)) n5) :: (D2, W.listOf ys2 n4) :: (tups2 ++ [(I, io)])) wt (B.at F) F Nf Nfo Nr Nw hrest HW hp1 hp2 (Nat.lt_trans h178 F.ns.lt) ha178 hadx G2 (by omega) hwl5 hbig hpos hsp hrv (by omega) fun h6 gs6 tk6 t6 q1 q2 G6 F6 N6 hq1 hq2 => ?_
      clear F Nf Nfo Nr Nw
      k_steps
      refine Stop.intro ?_
      refine wpAny_AD 500 rfl (Nat.le_of_ble_eq_true rfl) (Nat.le_of_ble_eq_true rfl) ?_
      have Nt6 : News g s.heap.objs.size h6 tups2 := fun p hp => N6 p (.tail _ (.tail _ (.tail _ (.tail _ (.tail _ (List.mem_append_left _ hp))))))
      have hwsl2 := wordsL_len ns
      refine rows_spec D2 D3 ys2.toList (wordsL ns) as (ptsL ns) e _ (X.keeps F6.keep) (T.keeps F6.keep) (pts_heap F6 Nt6 (N6.get (.tail _ (.tail _ (.tail _ (.head _))))) has2 hpin) (by unfold ptsL; simp; omega) (by unfold ptsL; simp; omega) (fun p hp => pt_bound ns hp) ⟨_, N6.get (.tail _ (.tail _ (.tail _ (.tail _ (.head _))))), rfl, n4, by simp⟩ hws (fun x hx => by
          unfold wordsL at hx
          obtain ⟨j, _, rfl⟩ := List.mem_map.mp hx
          have := word_len23 ns j
          omega) (by omega) fun R rv7 h7 tk7 hR k7 hRl hRs => ?_
      rw [hrows] at hRs
      have F7 := F6.keeps k7
      have N7 := N6.grown k7
      clear F6 N6 Nt6 k7
      k_steps
      refine Stop.intro ?_
      refine join_listW hRl hRs (by decide) (by omega) fun t8 tk8 => ?_
      k_steps
      all_goals first
        | (exfalso; (with_reducible rename (_ != _) = true => hne); simp at hne; done)
        | (dsimp only
           refine Stop.intro ⟨h7, gs6, _, _, ((140 : Addr), tabObj q1) :: ((147 : Addr), tabObj q2) :: ((tt, to) : Addr × Obj) :: (D3, W.listOf (List.toArray (as.map Value.ref)) n5) :: (D2, W.listOf ys2 n4) :: tups2, rfl, F7, N7, fun p hp => ?_, G6, rfl, rfl, q1, q2, hq1, hq2, rfl⟩
           rcases List.mem_cons.mp hp with rfl | hp
           · exact hIf 140 (.tail _ (.tail _ (.tail _ (.tail _ (.tail _ (.head _))))))
           rcases List.mem_cons.mp hp with rfl | hp
           · exact hIf 147 (.tail _ (.tail _ (.tail _ (.tail _ (.tail _ (.tail _ (.head _)))))))
           · exact hI p (.tail _ (.tail _ hp)))
  · rintro m nx gs h4 tk4 ⟨G2, hmw, hmp, p1, p2, hp1, hp2, rfl⟩ F N
    k_steps
    (try dsimp only)
    exact hret h4 gs _ G2 F.keep ⟨_, p1, N.get (.head _), rfl, hp1⟩ ⟨_, p2, N.get (.tail _ (.head _)), rfl, hp2⟩
theorem law_spec : LawA := lawA.2 ⟨lawB.2 ⟨lawC.2 ⟨lawD0⟩⟩⟩
end
end Mine

-- LwZ
namespace Mine
open PySem PySem.W PyProof.Rows PySem.Spec PySem.Calls
set_option maxRecDepth 100000
set_option maxHeartbeats 4000000
set_option pp.deepTerms false
set_option pp.deepTerms.threshold 8
set_option pp.fieldNotation false
noncomputable section
theorem law_holds : Challenge.rw_pg0221_01.Holds := by
  refine Mine.hd ?_
  intro w s₀ s₁ mg mb G Y fa o pm cd doc dV kV ho hd' hcd hD hmg hg args vals as hpre hlay hrd hwl hlo
  have KX := km_in_of Y
  have hts := km_tabs_of Y
  refine Ground.open G ?_
  intro T B D TE TW
  wrow_args hpre hlay hrd hwl hlo
  (with_reducible rename IntsAre _ _ => hI)
  (with_reducible rename Heap.IsList _ _ _ => hL)
  (with_reducible rename ¬ _ => hlen)
  have hTabs : TabsAt [((144 : Addr), (140 : Addr)), ((151 : Addr), (147 : Addr))] s₁.heap := List.forall_mem_cons.mpr ⟨⟨code144 KX, hts 140 (.head _)⟩, List.forall_mem_cons.mpr ⟨⟨code151 KX, hts 147 (.tail _ (.head _))⟩, List.forall_mem_nil _⟩⟩
  have Xg : (Mine.hd.heap_1 w.params).In (ghostOf s₁.heap [((144 : Addr), (140 : Addr)), ((151 : Addr), (147 : Addr))]) := ghost_K hTabs KX (by kernel_rfl)
  have Tr := topRead_of T
  have Tg : TopRead Mine.vw LS mg mb (ghostOf s₁.heap [((144 : Addr), (140 : Addr)), ((151 : Addr), (147 : Addr))]) := by
    obtain ⟨mc, hn, hr⟩ := Tr.nolimit
    exact ⟨ghost_ns hTabs Tr.g, ghost_ns hTabs Tr.b, ⟨mc, ghost_ns hTabs hn, hr⟩, Tr.builtins, Tr.free⟩
  have Bg : Base w mg mb (ghostOf s₁.heap [((144 : Addr), (140 : Addr)), ((151 : Addr), (147 : Addr))]) s₁.heap := by
    refine ⟨Xg, Tg, fun b o e => of_hideAll _ e, Nat.le_of_eq (hideAll_size _ _), ?_⟩
    obtain ⟨bm, ob, b1, b2, b3, b4, b5, b6⟩ := T.bmain
    exact ⟨bm, ob, b1, b2, ghost_get hTabs b3 (fun q => by rw [q] at b4; cases b4), b4, b5, b6⟩
  have e1 : mg (Str.ofString "law") = some (.ref 244) := mg_of KX T.g (by k_is)
  have hfa : fa = 244 := by
    have := hmg.symm.trans e1
    cases this
    rfl
  subst hfa
  have h178 : 178 < s₁.heap.objs.size := by
    have hk : ((Mine.hd.heap_1 w.params).lookup 178).isSome = true := by kernel_rfl
    obtain ⟨o, e⟩ := Option.isSome_iff_exists.mp hk
    exact Heap.lt_size (KX _ _ e)
  refine wpAny_AD 310 rfl (Nat.le_of_ble_eq_true rfl) (Nat.le_of_ble_eq_true rfl) ?_
  refine law_spec _ _ _ Bg (ghost_list hTabs hL) hI (by omega) (List.forall_mem_cons.mpr ⟨⟨hts 140 (.head _), hideAll_none _ (.head _)⟩, List.forall_mem_cons.mpr ⟨⟨hts 147 (.tail _ (.head _)), hideAll_none _ (.tail _ (.head _))⟩, List.forall_mem_nil _⟩⟩) h178 (AllBare.of_eq hg) fun h' gs' tk' G' k T1 T2 => ?_
  obtain ⟨_, q1, i1, rfl, i3⟩ := T1
  obtain ⟨_, q2, j1, rfl, j3⟩ := T2
  have key : ∀ b o, s₁.heap.get? b = some o → h'.get? b = some o ∨ (isCodeTable s₁.heap b ∧ o = tabObj #[] ∧ ∃ ps, h'.get? b = some (tabObj ps)) := fun b o e => by
    by_cases c1 : b = 140
    · subst c1
      rw [hts 140 (.head _)] at e
      exact .inr ⟨((code144 KX).tab (hts 140 (.head _))).isCodeTable, (Option.some.inj e).symm, q1, i1⟩
    by_cases c2 : b = 147
    · subst c2
      rw [hts 147 (.tail _ (.head _))] at e
      exact .inr ⟨((code151 KX).tab (hts 147 (.tail _ (.head _)))).isCodeTable, (Option.some.inj e).symm, q2, j1⟩
    · refine .inl (k _ _ (hideAll_get _ e fun q => ?_))
      rcases List.mem_cons.mp q with q | q
      · exact c1 q
      · exact c2 (List.mem_singleton.mp q)
  refine ⟨.inl ⟨_, .bool true, [], rfl, fun cls => rfl, ReadsW.bool true, ?_, fun _ => ⟨.nil, fun _ ha => nomatch ha⟩⟩, ⟨fun b o e => ?_, fun b o e => ?_⟩, rfl, G'⟩
  · first
      | with_unfolding_all rfl
      | kernel_rfl
      | (with_unfolding_all decide)
      | (show (WShape.has _ _ _ && _) = true; simp [WTm.holds, OpenLaw.row])
  · rcases key b o e with z | ⟨ht, rfl, ps, z⟩
    · exact .inl z
    · exact .inr (.inl ⟨ht, rfl, #[], ps, rfl, by rw [Array.empty_append]; exact z⟩)
  · rcases key b o e with z | ⟨_, _, ps, z⟩
    · exact ⟨_, z⟩
    · exact ⟨_, z⟩
end
end Mine

theorem PySem.Challenge.cw_pg0221_01_holds : PySem.Challenge.rw_pg0221_01.Holds := by
  exact Mine.law_holds
