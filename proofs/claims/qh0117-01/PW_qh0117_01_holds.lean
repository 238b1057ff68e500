import PyProof.Rows.All
import Wide.All
import OpenK.AllK
import Wide.FinOn
import Lean
import PySem.Challenge.RW_qh0117_01
set_option Elab.async false
set_option compiler.extract_closed false
section HeadQ
open PySem PySem.W PyProof.Rows
set_option Elab.async false
set_option maxRecDepth 100000
set_option maxHeartbeats 8000000
set_option compiler.extract_closed false
namespace Mine
/-- the law's top, seen through the statements that the head looks at -/
def vw : Program := { PySem.Challenge.pw_qh0117_01 with main := { PySem.Challenge.pw_qh0117_01.main with body := [0, 2, 3, 5, 6, 8, 9, 10, 11, 12, 13, 20, 21, 22, 23, 24, 25, 26].filterMap fun k => PySem.Challenge.pw_qh0117_01.main.body[k]? } }
def lo : List Str := [Str.ofString "bytes_types", Str.ofString "a2b_base64", Str.ofString "b2a_base64", Str.ofString "b64encode", Str.ofString "b64decode"]
/-- the looks at the law's text, each by itself -/
theorem said : PySem.Challenge.rw_qh0117_01.wellSaid = true := by
  rw [OpenLaw.wellSaid]
  iterate 18 (refine Bool.and_eq_true_iff.mpr ⟨?_, by decide +kernel⟩)
  rw [OpenRow.wellSaid]
  iterate 2 (refine Bool.and_eq_true_iff.mpr ⟨?_, by decide +kernel⟩)
  rw [OpenRow.partSaid]
  iterate 13 (refine Bool.and_eq_true_iff.mpr ⟨?_, by decide +kernel⟩)
  rw [looksOpen]
  iterate 5 (refine Bool.and_eq_true_iff.mpr ⟨?_, by decide +kernel⟩)
  decide +kernel
local macro_rules | `(tactic| o_law) => `(tactic| refine holds_law said fun _ => ?_)
local macro_rules | `(tactic| o_head $H) => do
  let (hw, hc) := (Lean.mkIdent `hw, Lean.mkIdent `hc)
  `(tactic| (
    refine holds_open (r := PySem.Challenge.rw_qh0117_01.row) (q := Mine.vw) (loose := Mine.lo) (Xt := fun s => xlAt Mine.vw [] s && recOk (RowW.records (OpenRow.toRowW PySem.Challenge.rw_qh0117_01.row)) s) (XP := XL Mine.vw []) (Yf := Hook.obs $H) (Ya := Hook.val $H) (YP := Hook.says $H) (N := 1840) (by intro w; kernel_rfl) (Hook.of $H) (Hook.keeps $H) (fun s e => xl_of s (Bool.and_eq_true_iff.mp e).1) XL.keeps (by rfl) (by rfl) (by rfl) (fun s e => recFacts_of (Bool.and_eq_true_iff.mp e).2) (by rfl) (by first | assumption | decide +kernel) (by decide +kernel) ⟨rfl, rfl, rfl, rfl, rfl, by decide +kernel⟩ ?$hw ?$hc))
open_top hd for PySem.Challenge.rw_qh0117_01
end Mine

end HeadQ
section QBase
example : True := by
  w_top off
  trivial
open PySem PySem.W PyProof.Rows PySem.Calls PySem.Spec
set_option Elab.async false
set_option maxRecDepth 100000
set_option maxHeartbeats 8000000
namespace Mine
section
variable {prog : Program} {w : World} {A A₀ : Around} {E : Value → Shared → Prop} {s : Shared} {K : Frag} {L : Addr} {h₀ base : Heap} {m mg mb : Str → Option Value} {p : Program} {loose : List Str} {mean : ExcName → Option Value}

/-- entering a def with the whole heap as its ground -/
theorem enterE {env : Env} {outer : List Env} {R : Result → Shared → Prop} {name qual : Str} {params : Arguments} {body : List Stmt} {scope : Scope} {dV kV doc pm cdv ct oc : Value} {an od : Option Addr} {osl : Array (Option Value)} {f : Addr} {args : Args} {binds : List (Str × Value)}
    (B : Below A₀ base outer h₀) (F : Fr h₀ L s.heap m) (X₀ : K.In h₀) (T : Top p loose mean mg mb h₀) (hA : A.frames = some (env :: outer)) (hf : env.frame = some L) (hke : env.scope.kind = .function)
    (ho : K.lookup f = some ⟨oc, od, .func (fnOf name qual params body scope dV kV doc pm an cdv ct), osl⟩) (hcd : codeIn K cdv qual = true) (hroom : A.depth < recursionLimit)
    (hbind : BindsTo s (fnOf name qual params body scope dV kV doc pm an cdv ct) args binds) (hloc : ∀ y ∈ binds, scope.names.lookup y.1 = some .local)
    (h : ∀ L' h₁, Fr s.heap L' h₁ (fun y => binds.reverse.lookup y) → News s.heap L' h₁ [] → Below A base (env :: outer) s.heap → K.In s.heap → Top p loose mean mg mb s.heap →
      wpAny (model prog w) (A.deeper (envOf qual scope L' f cdv)) (execs body (envOf qual scope L' f cdv))
        (fun fl s' => LeaveK h₀ L m s.heap R (match fl with | .ret v => v | _ => .none) s')
        (fun e s' => wpAny (model prog w) (A.deeper (envOf qual scope L' f cdv)) (leaving (envOf qual scope L' f cdv) e) (fun _ s'' => R (.error e) s'') (fun e' s'' => R (.error e') s'') s')
        { s with heap := h₁, toks := s.toks + binds.length })
    (hco : scope.isCoroutine = false) (hgen : scope.isGenerator = false) (hk : scope.kind = .function)
    (hcell : ∀ x ∈ scope.names, x.2 ≠ .cell) : codeAny (model prog w) A (.call (.ref f) args) R s := by
  obtain ⟨FG, BG, st, lv⟩ := groundX (R := R) B F (News.nil (h₀ := h₀) (L := L) (h := s.heap)) hA hf hke
  have X := X₀.keeps F.keep
  refine codeAny_call_def (fd := fnOf name qual params body scope dV kV doc pm an cdv ct) (body := body) (binds := binds) hroom (X _ _ ho) rfl (T.nolimit.keeps F.keep) (codeRec_of X hcd) rfl hbind hcell hloc (fun h₁ hns hk₁ => ?_) hco hgen hk
  exact wpAny_mono (h s.heap.objs.size h₁ ⟨hns, fun b o e => hk₁ b o e, Nat.le_refl _⟩ News.nil BG X (T.keeps F.keep)) (fun fl s' hl => lv _ _ hl) fun _ _ y => y

theorem enterEC {env : Env} {outer : List Env} {R : Result → Shared → Prop} {name qual : Str} {params : Arguments} {body : List Stmt} {scope : Scope} {dV kV doc pm cdv ct oc : Value} {an od : Option Addr} {osl : Array (Option Value)} {f : Addr} {args : Args} {binds : List (Str × Value)}
    (B : Below A₀ base outer h₀) (F : Fr h₀ L s.heap m) (X₀ : K.In h₀) (T : Top p loose mean mg mb h₀) (hA : A.frames = some (env :: outer)) (hf : env.frame = some L) (hke : env.scope.kind = .function)
    (ho : K.lookup f = some ⟨oc, od, .func (fnOf name qual params body scope dV kV doc pm an cdv ct), osl⟩) (hcd : codeIn K cdv qual = true) (hroom : A.depth < recursionLimit)
    (hbind : BindsTo s (fnOf name qual params body scope dV kV doc pm an cdv ct) args binds) (hkind : (binds.all fun y => scope.names.lookup y.1 == some .local || scope.names.lookup y.1 == some .cell) = true)
    (hnd : ((cellsFrom 0 scope.names []).map (·.1)).Nodup)
    (h : ∀ L' h₁ tk cells, Fr s.heap L' h₁ (bindL (envOfC qual scope L' f cdv).kindOf binds fun _ => none) → News s.heap L' h₁ (cells ++ []) →
      CellsAre (bindC (envOfC qual scope L' f cdv).kindOf binds fun _ => none) (cellsFrom (L' + 1) scope.names []) cells → Below A base (env :: outer) s.heap → K.In s.heap → Top p loose mean mg mb s.heap →
      wpAny (model prog w) (A.deeper (envOfC qual scope L' f cdv)) (execs body (envOfC qual scope L' f cdv))
        (fun fl s' => LeaveK h₀ L m s.heap R (match fl with | .ret v => v | _ => .none) s')
        (fun e s' => wpAny (model prog w) (A.deeper (envOfC qual scope L' f cdv)) (leaving (envOfC qual scope L' f cdv) e) (fun _ s'' => R (.error e) s'') (fun e' s'' => R (.error e') s'') s')
        { s with heap := h₁, toks := tk })
    (hco : scope.isCoroutine = false) (hgen : scope.isGenerator = false) (hk : scope.kind = .function) : codeAny (model prog w) A (.call (.ref f) args) R s := by
  obtain ⟨FG, BG, st, lv⟩ := groundX (R := R) B F (News.nil (h₀ := h₀) (L := L) (h := s.heap)) hA hf hke
  have X := X₀.keeps F.keep
  refine codeAny_call_function hroom (X _ _ ho) rfl hco hgen rfl (codeRec_of X hcd) (hbind _ _ _ _ ?_)
  refine wpAny_newFunctionEnv_cells hk (kindsX hkind _) fun env' he s' x => ?_
  subst he
  refine ⟨(T.nolimit.keeps F.keep).keeps x.toInCall.keep, codeAny_func ?_⟩
  obtain ⟨h₁, tk, rfl, _⟩ := x.done
  have hk₁ := x.toInCall.keep
  obtain ⟨cells, NC, Y⟩ := Cl.news (h₀ := s.heap) (Nat.le_refl _) fun n c hm => ⟨x.cell n c (lookup_of_mem_nodup (cellsFrom_names scope.names 0 (s.heap.objs.size + 1) [] [] rfl ▸ hnd) hm), x.above n c hm⟩
  refine wpAny_mono (h s.heap.objs.size h₁ tk cells ⟨x.toInCall.ns, fun b o e => hk₁ b o e, Nat.le_refl _⟩ (fun p hp => ?_) Y BG X (T.keeps F.keep)) (fun fl s' hl => lv _ _ hl) fun _ _ y => y
  rw [List.append_nil] at hp
  exact ⟨(NC p hp).1, (NC p hp).2.1, (NC p hp).2.2⟩
end

/-- what a call leaves of the caller's ledger when its ground was the whole heap -/
theorem back {h₀ g h' : Heap} {L L' : Addr} {m m' : Str → Option Value} {new news : List (Addr × Obj)} (F : Fr h₀ L g m) (N : News h₀ L g news) (F' : Fr g L' h' m') (kN : News h₀ L h' new) : News h₀ L h' (new ++ news) := by
  intro q hq
  rcases List.mem_append.mp hq with hq | hq
  · exact kN q hq
  · exact ⟨F'.keep _ _ (N q hq).1, (N q hq).2⟩
theorem say {h₀ h : Heap} {L : Addr} {m : Str → Option Value} {x : Str} {v : Value} (F : Fr h₀ L h m) (e : m x = some v) : Fr h₀ L h (fun y => if y = x then some v else m y) := by
  have : (fun y => if y = x then some v else m y) = m := by
    funext y
    by_cases hy : y = x
    · rw [if_pos hy, hy, e]
    · rw [if_neg hy]
  rw [this]; exact F
theorem skip3 {h₀ h : Heap} {L : Addr} {x y z : Addr × Obj} {r : List (Addr × Obj)} (N : News h₀ L h (x :: y :: z :: r)) : News h₀ L h (x :: r) := fun q hq => N q ((List.mem_cons.mp hq).elim (fun e => e ▸ .head _) fun h => .tail _ (.tail _ (.tail _ h)))
theorem skip2 {h₀ h : Heap} {L : Addr} {x y : Addr × Obj} {r : List (Addr × Obj)} (N : News h₀ L h (x :: y :: r)) : News h₀ L h (x :: r) := fun q hq => N q ((List.mem_cons.mp hq).elim (fun e => e ▸ .head _) fun h => .tail _ (.tail _ h))
theorem skip1 {h₀ h : Heap} {L : Addr} {x : Addr × Obj} {r : List (Addr × Obj)} (N : News h₀ L h (x :: r)) : News h₀ L h r := fun q hq => N q (.tail _ hq)
end Mine

end QBase
section QRows
example : True := by
  w_top off
  trivial
open PySem PySem.W PyProof.Rows PySem.Calls PySem.Spec
set_option Elab.async false
set_option maxRecDepth 100000
set_option maxHeartbeats 8000000
namespace Mine
example : (fun (_ : OpenLaw) (_ : PySem.Params → Frag) => True) PySem.Challenge.rw_qh0117_01 Mine.hd.heap_1 := by
  k_fill
  trivial
def Oct (l : List Int) : Prop := ∀ x ∈ l, 0 ≤ x ∧ x < 256

theorem rows_start : ([77, 97, 110] : List Int).length = ([] : List Int).length + 3 ∧ ([77, 97, 111] : List Int).length = ([] : List Int).length + 3 ∧ Oct [77, 97, 110] ∧ Oct [77, 97, 111] := by
  refine ⟨rfl, rfl, ?_, ?_⟩ <;> (intro x hx; simp at hx; omega)
theorem rows_step {pre old fresh : List Int} {n o f : Int} (a : old.length = pre.length + 3) (b : fresh.length = pre.length + 3) (c : Oct old) (d : Oct fresh) (h1 : 0 ≤ o) (h2 : o < 256) (h3 : 0 ≤ f ∧ f < 256) :
    (old ++ [o]).length = (pre ++ [n]).length + 3 ∧ (fresh ++ [f]).length = (pre ++ [n]).length + 3 ∧ Oct (old ++ [o]) ∧ Oct (fresh ++ [f]) := by
  refine ⟨by simp; omega, by simp; omega, ?_, ?_⟩ <;> (intro x hx; rcases List.mem_append.mp hx with hx | hx)
  · exact c x hx
  · simp at hx; omega
  · exact d x hx
  · simp at hx; omega
theorem rows_f0 (n : Int) : 0 ≤ (n.fdiv 3).fmod 256 := Int.fmod_nonneg_of_pos _ (by decide)
theorem rows_f1 (n : Int) : (n.fdiv 3).fmod 256 < 256 := Int.fmod_lt_of_pos _ (by decide)
theorem rows_f2 (n : Int) : 0 ≤ (n.fdiv 3).fmod 256 ∧ (n.fdiv 3).fmod 256 < 256 := ⟨rows_f0 n, rows_f1 n⟩
theorem rows_f3 (n : Int) : 0 ≤ (n.fdiv 768).fmod 256 ∧ (n.fdiv 768).fmod 256 < 256 := ⟨Int.fmod_nonneg_of_pos _ (by decide), Int.fmod_lt_of_pos _ (by decide)⟩
theorem eight {e : Int} (h0 : 0 ≤ e) (h1 : e < 8) : e = 0 ∨ e = 1 ∨ e = 2 ∨ e = 3 ∨ e = 4 ∨ e = 5 ∨ e = 6 ∨ e = 7 := by omega
theorem rows_bit1 {o e : Int} (h0 : 0 ≤ o) (h1 : o < 256) (e0 : 0 ≤ e) (e1 : e < 8) (hb : (o.fdiv (2 ^ e.toNat)).fmod 2 = 1) : 0 ≤ o - 2 ^ e.toNat ∧ o - 2 ^ e.toNat < 256 := by
  rcases eight e0 e1 with h | h | h | h | h | h | h | h <;> subst h <;> simp only [Int.reducePow, Int.reduceToNat] at hb ⊢ <;> rw [Int.fmod_eq_emod_of_nonneg _ (by decide), Int.fdiv_eq_ediv_of_nonneg _ (by decide)] at hb <;> omega
theorem rows_bit0 {o e : Int} (h0 : 0 ≤ o) (h1 : o < 256) (e0 : 0 ≤ e) (e1 : e < 8) (hb : (o.fdiv (2 ^ e.toNat)).fmod 2 ≠ 1) : 0 ≤ o + 2 ^ e.toNat ∧ o + 2 ^ e.toNat < 256 := by
  rcases eight e0 e1 with h | h | h | h | h | h | h | h <;> subst h <;> simp only [Int.reducePow, Int.reduceToNat] at hb ⊢ <;> rw [Int.fmod_eq_emod_of_nonneg _ (by decide), Int.fdiv_eq_ediv_of_nonneg _ (by decide)] at hb <;> omega
variable {prog : Program} {w : World} {p : Program} {loose : List Str} {mean : ExcName → Option Value} {mg mb : Str → Option Value}
local macro_rules | `(tactic| walk_at "InvEndN") => `(tactic| k_dflt kst_close)
theorem c_rows {l : Addr} {vs : List Value} {ns : List Int} (dp un : Nat) (gd : Option (List Code)) (cn : Str) (cs : Scope) (a : Addr) (ccd : Value) (cl : List (Str × Addr)) (outer : List Env) (A₀ : Around) (base h₀ : Heap) (L : Addr) (m : Str → Option Value) (s : Shared) (Q E : Value → Shared → Prop)
    (news : List (Addr × Obj))
    (B : Below A₀ base outer h₀) (F : Fr h₀ L s.heap m) (X : (Mine.hd.heap_1 w.params).In h₀) (N : News h₀ L s.heap news) (T : Top p loose mean mg mb h₀) (hk : cs.kind = .function)
    (hl : s.heap.IsList l vs.toArray) (hi : IntsAre vs ns) (hlen : ns.length ≤ 9) (hpos : ∀ v ∈ ns, 0 ≤ v ∧ v < 1000000)
    (hd : dp + 1 < recursionLimit) (hu : un + 8 < cLine)
    (hret : ∀ (t lo lf : Addr) (vo vf : List Value) (no nf : Nat) (os fs : List Int) (h' : Heap) (tk' : Nat), Fr h₀ L h' m → News h₀ L h' ((t, ({ cls := .type "tuple", data := .seq [Value.ref lo, Value.ref lf].toArray } : Obj)) :: (lf, listOf vf.toArray nf) :: (lo, listOf vo.toArray no) :: news) →
       IntsAre vo os → IntsAre vf fs → os.length = ns.length + 3 → fs.length = ns.length + 3 → Oct os → Oct fs → Q (.ref t) { s with heap := h', toks := tk' }) :
      wpAny (model prog w) (ktrTop dp un gd cn cs L a ccd cl outer) (call (.ref 123) [.ref l]) Q E s := by
  k_with_none
  k_with "pyIter ref" => k_state (fun pre old fresh => old.length = pre.length + 3 ∧ fresh.length = pre.length + 3 ∧ Oct old ∧ Oct fresh) "old" "fresh"
  k_with "state" => first | exact rows_start | exact rows_step (by assumption) (by assumption) (by assumption) (by assumption) (rows_f0 _) (rows_f1 _) (by first | exact rows_f2 _ | exact rows_f3 _ | exact rows_bit1 (rows_f0 _) (rows_f1 _) (by assumption) (by assumption) (by assumption) | exact rows_bit0 (rows_f0 _) (rows_f1 _) (by assumption) (by assumption) (by assumption))
  refine wpAny_call ?_
  k_dflt (refine' enterE ?k1 ?k2 ?k3 ?k5 ?kA ?kF ?kK ?k6 ?k7 ?k8 ?k9 ?kB ?_ ?c2 ?c3 ?c4 ?c5; (case kA => exact rfl); (case kF => exact rfl); (case kK => assumption); (case k1 => k_asm); (case k2 => k_asm); (case k3 => k_asm);  (case k5 => k_asm); (case k6 => k_is); (case k7 => k_is); (case k8 => ktr_room); (case k9 => exact BindsTo.of_eq rfl); (case c5 => decide); (case kB => exact locs rfl); (case c2 => exact rfl); (case c3 => exact rfl); (case c4 => exact rfl); k_whole; intro L' h' F' N' B' X' T'; (try dsimp only); (try k_fold))
  k_steps
  rename_i kF kN kT kX
  rename Fr s.heap _ _ _ => kF'
  exact hret _ _ _ _ _ _ _ _ _ _ _ kF (skip2 (back F N kF' kN)) (by assumption) (by assumption) (by assumption) (by assumption) (by assumption) (by assumption)
end Mine

end QRows
section QFig
example : True := by
  w_top off
  trivial
open PySem PySem.W PyProof.Rows PySem.Calls PySem.Spec
set_option Elab.async false
set_option maxRecDepth 100000
set_option maxHeartbeats 8000000
set_option pp.deepTerms false
set_option pp.deepTerms.threshold 4
namespace Mine
example : (fun (_ : OpenLaw) (_ : PySem.Params → Frag) => True) PySem.Challenge.rw_qh0117_01 Mine.hd.heap_1 := by
  k_fill
  trivial

def valOf (l : List Int) : Int := l.foldl (fun v o => v * 256 + o) 0
theorem valOf_snoc (l : List Int) (o : Int) : valOf (l ++ [o]) = valOf l * 256 + o := by simp [valOf]
theorem Oct.snoc {l : List Int} {o : Int} (h : Oct (l ++ [o])) : Oct l ∧ 0 ≤ o ∧ o < 256 := ⟨fun x hx => h x (by simp [hx]), h o (by simp)⟩
theorem valOf_bound : ∀ (n : Nat) (l : List Int), l.length = n → Oct l → 0 ≤ valOf l ∧ valOf l < 256 ^ n := by
  intro n
  induction n with
  | zero => intro l h _; rw [List.length_eq_zero_iff.mp h]; decide
  | succ n ih =>
    intro l h ho
    obtain ⟨l', o, rfl⟩ : ∃ l' o, l = l' ++ [o] := ⟨l.dropLast, l.getLast (by intro e; rw [e] at h; cases h), (List.dropLast_concat_getLast _).symm⟩
    obtain ⟨h1, h2, h3⟩ := ho.snoc
    have := ih l' (by simpa using h) h1
    rw [valOf_snoc, Int.pow_succ]
    omega
theorem cnt_e {n : Int} (h : 0 ≤ n) : 0 ≤ (n * 4 + 2).fdiv 3 * 6 - n * 8 ∧ (n * 4 + 2).fdiv 3 * 6 - n * 8 ≤ 4 := by
  rw [Int.fdiv_eq_ediv_of_nonneg _ (by decide)]; omega
theorem bits_pow4 {e : Int} (h : e ≤ 4) : Builtin.Int.intBits ((2 : Int) ^ e.toNat) ≤ 64 := by
  refine intBits_le_iff.mpr ?_
  have h1 : e.toNat ≤ 4 := by omega
  have h2 : ((2 : Int) ^ e.toNat).natAbs = 2 ^ e.toNat := by rw [Int.natAbs_pow]; rfl
  rw [h2]
  exact Nat.lt_of_le_of_lt (Nat.pow_le_pow_right (by decide) h1) (by decide)
theorem floordiv64 {prog : Program} {w : World} {A : Around} {E : Value → Shared → Prop} {s : Shared} {a e : Int} {t u : Tok} {Q : Value → Shared → Prop} (he : e ≤ 1000) (h : Q (.int (a.fdiv (64 ^ e.toNat)) s.toks) { s with toks := s.toks + 1 }) :
    wpAny (model prog w) A (binaryOp .FloorDiv (.int a t) (.int (64 ^ e.toNat) u)) Q E s := by
  have h1 : ((64 : Int) ^ e.toNat).natAbs = 2 ^ (6 * e.toNat) := by rw [Int.natAbs_pow, Nat.pow_mul]; rfl
  refine floordiv_int ?_ h (Or.inl (PyProof.noPylong_of_log2 ?_))
  · intro h0
    rw [h0] at h1
    have := Nat.pow_pos (n := 6 * e.toNat) (show 0 < 2 by decide)
    simp at h1
    omega
  · rw [h1, Nat.log2_two_pow]; omega
theorem cnt_le {n : Int} (h : n ≤ 12) : (n * 4 + 2).fdiv 3 ≤ 16 := by
  rw [Int.fdiv_eq_ediv_of_nonneg _ (by decide)]; omega
def figs (l : List Int) : List Int :=
  (rangeKs 0 (((l.length : Int) * 4 + 2).fdiv 3 - 0).toNat).map fun k => ((valOf l * 2 ^ (((l.length : Int) * 4 + 2).fdiv 3 * 6 - (l.length : Int) * 8).toNat).fdiv (64 ^ (((l.length : Int) * 4 + 2).fdiv 3 - 1 - k).toNat)).fmod 64
variable {prog : Program} {w : World} {p : Program} {loose : List Str} {mean : ExcName → Option Value} {mg mb : Str → Option Value}
theorem c_fig {l : Addr} {vs : List Value} {ns : List Int} (dp un : Nat) (gd : Option (List Code)) (cn : Str) (cs : Scope) (a : Addr) (ccd : Value) (cl : List (Str × Addr)) (outer : List Env) (A₀ : Around) (base h₀ : Heap) (L : Addr) (m : Str → Option Value) (s : Shared) (Q E : Value → Shared → Prop)
    (news : List (Addr × Obj))
    (B : Below A₀ base outer h₀) (F : Fr h₀ L s.heap m) (X : (Mine.hd.heap_1 w.params).In h₀) (N : News h₀ L s.heap news) (T : Top p loose mean mg mb h₀) (hk : cs.kind = .function)
    (hl : s.heap.IsList l vs.toArray) (hi : IntsAre vs ns) (hlen : ns.length ≤ 12) (ho : Oct ns)
    (hd : dp + 1 < recursionLimit) (hu : un + 8 < cLine)
    (hret : ∀ (lo : Addr) (vo : List Value) (no : Nat) (h' : Heap) (tk' : Nat), Fr h₀ L h' m → News h₀ L h' ((lo, listOf vo.toArray no) :: news) →
       IntsAre vo (figs ns) → Q (.ref lo) { s with heap := h', toks := tk' }) :
      wpAny (model prog w) (ktrTop dp un gd cn cs L a ccd cl outer) (call (.ref 128) [.ref l]) Q E s := by
  k_with_none
  k_with "pyIter ref" => (fail "mine")
  refine wpAny_call ?_
  k_dflt (refine' enterEC ?k1 ?k2 ?k3 ?k5 ?kA ?kF ?kK ?k6 ?k7 ?k8 ?k9 ?kB ?kD ?_ ?c2 ?c3 ?c4; (case kA => exact rfl); (case kF => exact rfl); (case kK => assumption); (case k1 => k_asm); (case k2 => k_asm); (case k3 => k_asm);  (case k5 => k_asm); (case k6 => k_is); (case k7 => k_is); (case k8 => ktr_room); (case k9 => exact BindsTo.of_eq rfl); (case kB => exact rfl); (case kD => decide +kernel); (case c2 => exact rfl); (case c3 => exact rfl); (case c4 => exact rfl); k_whole; intro L' h' tk' cells' F' N' Y' B' X' T'; (try dsimp only); k_cells Y'; (try k_fold))
  k_steps
  rename Fr _ _ _ _ => lF
  rename News _ _ _ _ => lN
  rename_i h1 oc dc hh ov dv
  obtain ⟨tv, htv⟩ : ∃ t, ov.data = Data.cell (some (Value.int 0 t)) := ⟨_, dv⟩
  obtain ⟨m₀, hrow, lF⟩ : ∃ m₀, m₀ (Str.ofString "row") = some (.ref l) ∧ Fr s.heap L' hh m₀ := ⟨_, rfl, lF⟩
  refine iter_invN (m₀ := m₀) (fun i m nx => ∃ o1 t, nx = [(L' + 1 + 1, o1), (L' + 1, oc)] ∧ o1.data = .cell (some (.int (valOf (ns.take i)) t)) ∧ ∀ z, z ≠ Str.ofString "octet" → m z = m₀ z) rfl hl (by assumption) lF lN ⟨ov, tv, rfl, htv, fun _ _ => rfl⟩ ?_ ?_
  · rintro i n t m₁ nx h tk own hn hadr hoff ⟨o1, t', rfl, hd1, hm⟩ F₁ N₁
    have hmem : n ∈ ns := List.mem_of_getElem? hn
    have hn0 := ho n hmem
    have hs : ns.take (i + 1) = ns.take i ++ [n] := by simp [List.take_add_one, hn]
    have hb := valOf_bound (ns.take i).length (ns.take i) rfl (fun x hx => ho x (List.mem_of_mem_take hx))
    have hb2 : valOf (ns.take i) < 256 ^ 12 := Int.lt_of_lt_of_le hb.2 (by
      have h1 : (ns.take i).length ≤ 12 := by rw [List.length_take]; omega
      exact_mod_cast Nat.pow_le_pow_right (by decide) h1)
    have hb1 := hb.1
    rw [hs, valOf_snoc]
    generalize valOf (ns.take i) = v at *
    simp only [Int.reducePow] at hb2
    simp only [List.cons_append, List.nil_append] at N₁
    k_steps
    rename Obj => oX
    rename (oX.data = _) => dX
    refine InvEndN.intro (by assumption) (by assumption) (nx := [(L' + 1 + 1, oX), (L' + 1, oc)]) ⟨_, _, rfl, dX, fun z hz => ?_⟩ rfl ?_ ?_
    · show (if z = _ then _ else _) = _
      rw [if_neg hz]; exact hm z hz
    · intro q hq; simp only [List.mem_cons, List.not_mem_nil, or_false] at hq ⊢; rcases hq with hq | hq
      · exact .inl hq
      · exact .inr (.inl hq)
    · intro q hq; exact .tail _ (.tail _ hq)
  · rintro m₁ nx h tk ⟨o1, t', rfl, hd1, hm⟩ F₁ N₁
    rw [List.take_length] at hd1
    replace F₁ := say F₁ ((hm _ (by decide)).trans hrow)
    k_steps
    have hE := cnt_e (n := (ns.length : Int)) (by omega)
    have hC := cnt_le (n := (ns.length : Int)) (by omega)
    k_with "binaryOp FloorDiv int int" => refine floordiv64 (by omega) ?_
    refine imul_int ?_ (IntMulOk.of_right (bits_pow4 (by simpa using hE.2)))
    k_steps
    rename_i kF kN _ _
    rename Fr s.heap _ _ _ => kF'
    exact hret _ _ _ _ _ kF (skip3 (back F N kF' kN)) (by assumption)
end Mine

end QFig
section Common
open PySem PySem.W PyProof.Rows
local macro_rules | `(tactic| k_room) => `(tactic| ktr_room)
local macro_rules | `(tactic| k_units) => `(tactic| ktr_units)
local macro_rules | `(tactic| ke_room) => `(tactic| ktr_units)
section QSmall
example : True := by
  w_top off
  trivial
local macro_rules | `(tactic| walk_at "QSmall none") => `(tactic| skip)
open PySem PySem.W PyProof.Rows PySem.Calls PySem.Spec
set_option Elab.async false
set_option maxRecDepth 100000
set_option maxHeartbeats 8000000
set_option pp.deepTerms false
set_option pp.deepTerms.threshold 4
set_option linter.unusedVariables false
namespace Mine
example : (fun (_ : OpenLaw) (_ : PySem.Params → Frag) => True) PySem.Challenge.rw_qh0117_01 Mine.hd.heap_1 := by
  k_fill
  trivial
def b64v (c : Int) : Int :=
  if 65 ≤ c ∧ c ≤ 90 then c - 65 else if 97 ≤ c ∧ c ≤ 122 then c - 71 else if 48 ≤ c ∧ c ≤ 57 then c + 4 else if c = 43 then 62 else if c = 47 then 63 else 64
variable {prog : Program} {w : World} {p : Program} {loose : List Str} {mean : ExcName → Option Value} {mg mb : Str → Option Value}
theorem c_buffer {b : Array UInt8} {tb : Tok} (dp un : Nat) (gd : Option (List Code)) (cn : Str) (cs : Scope) (a : Addr) (ccd : Value) (cl : List (Str × Addr)) (outer : List Env) (A₀ : Around) (base h₀ : Heap) (L : Addr) (m : Str → Option Value) (s : Shared) (Q E : Value → Shared → Prop)
    (news : List (Addr × Obj))
    (B : Below A₀ base outer h₀) (F : Fr h₀ L s.heap m) (X : (Mine.hd.heap_1 w.params).In h₀) (N : News h₀ L s.heap news) (T : Top p loose mean mg mb h₀) (hk : cs.kind = .function)
    (hd : dp + 1 < recursionLimit) (hu : un + 8 < cLine)
    (hret : ∀ (h' : Heap) (tk' : Nat), Fr h₀ L h' m → News h₀ L h' news → Q (.bytes b tb) { s with heap := h', toks := tk' }) :
      wpAny (model prog w) (ktrTop dp un gd cn cs L a ccd cl outer) (call (.ref 70) [.bytes b tb]) Q E s := by
  k_with_none
  k_with "call type:type" => refine call_type_of (Tx := "bytes") rfl (by decide +kernel) ?_
  refine wpAny_call ?_
  k_dflt (refine' enterE ?k1 ?k2 ?k3 ?k5 ?kA ?kF ?kK ?k6 ?k7 ?k8 ?k9 ?kB ?_ ?c2 ?c3 ?c4 ?c5; (case kA => exact rfl); (case kF => exact rfl); (case kK => assumption); (case k1 => k_asm); (case k2 => k_asm); (case k3 => k_asm);  (case k5 => k_asm); (case k6 => k_is); (case k7 => k_is); (case k8 => ktr_room); (case k9 => first | exact BindsTo.of_eq rfl | exact binds_K (by k_in) rfl (by k_is) rfl rfl rfl); (case c5 => decide); (case kB => exact locs rfl); (case c2 => exact rfl); (case c3 => exact rfl); (case c4 => exact rfl); k_whole; intro L' h' F' N' B' X' T'; (try dsimp only); (try k_fold))
  k_steps
  rename_i kF kN _ _
  rename Fr s.heap _ _ _ => kF'
  exact hret _ _ kF (back F N kF' kN)
theorem c_truth {b : Bool} (dp un : Nat) (gd : Option (List Code)) (cn : Str) (cs : Scope) (a : Addr) (ccd : Value) (cl : List (Str × Addr)) (outer : List Env) (A₀ : Around) (base h₀ : Heap) (L : Addr) (m : Str → Option Value) (s : Shared) (Q E : Value → Shared → Prop)
    (news : List (Addr × Obj))
    (B : Below A₀ base outer h₀) (F : Fr h₀ L s.heap m) (X : (Mine.hd.heap_1 w.params).In h₀) (N : News h₀ L s.heap news) (T : Top p loose mean mg mb h₀) (hk : cs.kind = .function)
    (hd : dp + 1 < recursionLimit) (hu : un + 8 < cLine)
    (hret : ∀ (h' : Heap) (tk' : Nat), Fr h₀ L h' m → News h₀ L h' news → Q (.bool b) { s with heap := h', toks := tk' }) :
      wpAny (model prog w) (ktrTop dp un gd cn cs L a ccd cl outer) (call (.ref 77) [.bool b]) Q E s := by
  k_with_none
  k_with "call type:type" => refine call_type_of (Tx := "bool") rfl (by decide +kernel) ?_
  refine wpAny_call ?_
  k_dflt (refine' enterE ?k1 ?k2 ?k3 ?k5 ?kA ?kF ?kK ?k6 ?k7 ?k8 ?k9 ?kB ?_ ?c2 ?c3 ?c4 ?c5; (case kA => exact rfl); (case kF => exact rfl); (case kK => assumption); (case k1 => k_asm); (case k2 => k_asm); (case k3 => k_asm);  (case k5 => k_asm); (case k6 => k_is); (case k7 => k_is); (case k8 => ktr_room); (case k9 => first | exact BindsTo.of_eq rfl | exact binds_K (by k_in) rfl (by k_is) rfl rfl rfl); (case c5 => decide); (case kB => exact locs rfl); (case c2 => exact rfl); (case c3 => exact rfl); (case c4 => exact rfl); k_whole; intro L' h' F' N' B' X' T'; (try dsimp only); (try k_fold))
  k_steps
  all_goals (
    rename_i hb kF kN _ _
    rename Fr s.heap _ _ _ => kF'
    subst hb
    exact hret _ _ kF (back F N kF' kN))
theorem c_ascii {b : Array UInt8} {tb : Tok} (dp un : Nat) (gd : Option (List Code)) (cn : Str) (cs : Scope) (a : Addr) (ccd : Value) (cl : List (Str × Addr)) (outer : List Env) (A₀ : Around) (base h₀ : Heap) (L : Addr) (m : Str → Option Value) (s : Shared) (Q E : Value → Shared → Prop)
    (news : List (Addr × Obj))
    (B : Below A₀ base outer h₀) (F : Fr h₀ L s.heap m) (X : (Mine.hd.heap_1 w.params).In h₀) (N : News h₀ L s.heap news) (T : Top p loose mean mg mb h₀) (hk : cs.kind = .function)
    (hd : dp + 1 < recursionLimit) (hu : un + 8 < cLine)
    (hret : ∀ (h' : Heap) (tk' : Nat), Fr h₀ L h' m → News h₀ L h' news → Q (.bytes b tb) { s with heap := h', toks := tk' }) :
      wpAny (model prog w) (ktrTop dp un gd cn cs L a ccd cl outer) (call (.ref 63) [.bytes b tb]) Q E s := by
  k_with_none
  k_with "call type:type" => refine call_type_of (Tx := "bytes") rfl (by decide +kernel) ?_
  refine wpAny_call ?_
  k_dflt (refine' enterE ?k1 ?k2 ?k3 ?k5 ?kA ?kF ?kK ?k6 ?k7 ?k8 ?k9 ?kB ?_ ?c2 ?c3 ?c4 ?c5; (case kA => exact rfl); (case kF => exact rfl); (case kK => assumption); (case k1 => k_asm); (case k2 => k_asm); (case k3 => k_asm);  (case k5 => k_asm); (case k6 => k_is); (case k7 => k_is); (case k8 => ktr_room); (case k9 => first | exact BindsTo.of_eq rfl | exact binds_K (by k_in) rfl (by k_is) rfl rfl rfl); (case c5 => decide); (case kB => exact locs rfl); (case c2 => exact rfl); (case c3 => exact rfl); (case c4 => exact rfl); k_whole; intro L' h' F' N' B' X' T'; (try dsimp only); (try k_fold))
  k_steps
  rename_i kF kN _ _
  rename Fr s.heap _ _ _ => kF'
  exact hret _ _ kF (back F N kF' kN)
theorem c_bfdd {b : Array UInt8} {tb : Tok} (dp un : Nat) (gd : Option (List Code)) (cn : Str) (cs : Scope) (a : Addr) (ccd : Value) (cl : List (Str × Addr)) (outer : List Env) (A₀ : Around) (base h₀ : Heap) (L : Addr) (m : Str → Option Value) (s : Shared) (Q E : Value → Shared → Prop)
    (news : List (Addr × Obj))
    (B : Below A₀ base outer h₀) (F : Fr h₀ L s.heap m) (X : (Mine.hd.heap_1 w.params).In h₀) (N : News h₀ L s.heap news) (T : Top p loose mean mg mb h₀) (hk : cs.kind = .function)
    (hd : dp + 1 < recursionLimit) (hu : un + 8 < cLine)
    (hret : ∀ (h' : Heap) (tk' : Nat), Fr h₀ L h' m → News h₀ L h' news → Q (.bytes b tb) { s with heap := h', toks := tk' }) :
      wpAny (model prog w) (ktrTop dp un gd cn cs L a ccd cl outer) (call (.ref 43) [.bytes b tb]) Q E s := by
  k_with_none
  refine wpAny_call ?_
  k_dflt (refine' enterE ?k1 ?k2 ?k3 ?k5 ?kA ?kF ?kK ?k6 ?k7 ?k8 ?k9 ?kB ?_ ?c2 ?c3 ?c4 ?c5; (case kA => exact rfl); (case kF => exact rfl); (case kK => assumption); (case k1 => k_asm); (case k2 => k_asm); (case k3 => k_asm);  (case k5 => k_asm); (case k6 => k_is); (case k7 => k_is); (case k8 => ktr_room); (case k9 => first | exact BindsTo.of_eq rfl | exact binds_K (by k_in) rfl (by k_is) rfl rfl rfl); (case c5 => decide); (case kB => exact locs rfl); (case c2 => exact rfl); (case c3 => exact rfl); (case c4 => exact rfl); k_whole; intro L' h' F' N' B' X' T'; (try dsimp only); (try k_fold))
  k_steps
  rename_i kF kN _ _
  rename Fr s.heap _ _ _ => kF'
  exact hret _ _ kF (back F N kF' kN)
theorem c_b64v {c : Int} {t : Tok} (dp un : Nat) (gd : Option (List Code)) (cn : Str) (cs : Scope) (a : Addr) (ccd : Value) (cl : List (Str × Addr)) (outer : List Env) (A₀ : Around) (base h₀ : Heap) (L : Addr) (m : Str → Option Value) (s : Shared) (Q E : Value → Shared → Prop)
    (news : List (Addr × Obj))
    (B : Below A₀ base outer h₀) (F : Fr h₀ L s.heap m) (X : (Mine.hd.heap_1 w.params).In h₀) (N : News h₀ L s.heap news) (T : Top p loose mean mg mb h₀) (hk : cs.kind = .function)
    (hd : dp + 1 < recursionLimit) (hu : un + 8 < cLine)
    (hret : ∀ (t : Tok) (h' : Heap) (tk' : Nat), Fr h₀ L h' m → News h₀ L h' news → Q (.int (b64v c) t) { s with heap := h', toks := tk' }) :
      wpAny (model prog w) (ktrTop dp un gd cn cs L a ccd cl outer) (call (.ref 84) [.int c t]) Q E s := by
  k_with_none
  refine wpAny_call ?_
  k_dflt (refine' enterE ?k1 ?k2 ?k3 ?k5 ?kA ?kF ?kK ?k6 ?k7 ?k8 ?k9 ?kB ?_ ?c2 ?c3 ?c4 ?c5; (case kA => exact rfl); (case kF => exact rfl); (case kK => assumption); (case k1 => k_asm); (case k2 => k_asm); (case k3 => k_asm);  (case k5 => k_asm); (case k6 => k_is); (case k7 => k_is); (case k8 => ktr_room); (case k9 => first | exact BindsTo.of_eq rfl | exact binds_K (by k_in) rfl (by k_is) rfl rfl rfl); (case c5 => decide); (case kB => exact locs rfl); (case c2 => exact rfl); (case c3 => exact rfl); (case c4 => exact rfl); k_whole; intro L' h' F' N' B' X' T'; (try dsimp only); (try k_fold))
  k_steps
  all_goals (
    rename_i kF kN _ _
    rename Fr s.heap _ _ _ => kF'
    refine cb_retI hret ?_ kF (back F N kF' kN)
    unfold b64v
    repeat' split
    all_goals omega)
end Mine


end QSmall
section QBits
example : True := by
  w_top off
  trivial
open PySem PySem.W PyProof.Rows PySem.Calls PySem.Spec
set_option Elab.async false
set_option maxRecDepth 100000
set_option maxHeartbeats 8000000
set_option pp.deepTerms false
set_option pp.deepTerms.threshold 4
set_option linter.unusedVariables false
namespace Mine
theorem or_shl {a b : Int} {k : Nat} (ha : 0 ≤ a) (hb : 0 ≤ b) (hb2 : b < 2 ^ k) : Builtin.bitOr (a * 2 ^ k) b = a * 2 ^ k + b := by
  have hp : (0 : Int) ≤ a * 2 ^ k := Int.mul_nonneg ha (Int.le_of_lt (kbt_pos k))
  rw [bitOr_and, bitAnd_pp hp hb]
  have e1 : (a * 2 ^ k).toNat = a.toNat * 2 ^ k := by
    have : (a * 2 ^ k) = ((a.toNat * 2 ^ k : Nat) : Int) := by rw [Int.natCast_mul, kbt_cast, Int.toNat_of_nonneg ha]
    rw [this]; rfl
  have e2 : b.toNat < 2 ^ k := by have := kbt_cast k; omega
  have e3 : a.toNat * 2 ^ k &&& b.toNat = 0 := by
    have h1 : b.toNat = b.toNat &&& (2 ^ k - 1) := by rw [Nat.and_two_pow_sub_one_eq_mod, Nat.mod_eq_of_lt e2]
    have h2 : a.toNat * 2 ^ k &&& (2 ^ k - 1) = 0 := by rw [Nat.and_two_pow_sub_one_eq_mod, Nat.mul_mod_left]
    rw [h1, Nat.and_comm b.toNat, ← Nat.and_assoc, h2, Nat.zero_and]
  rw [e1, e3]; simp
section
variable {prog : Program} {w : World} {A : Around} {E : Value → Shared → Prop} {s : Shared} {a b : Int} {t u : Tok} {Q : Value → Shared → Prop}
theorem and65535 (h : Q (.int (a % 65536) s.toks) { s with toks := s.toks + 1 }) : wpAny (model prog w) A (binaryOp .BitAnd (.int a t) (.int 65535 u)) Q E s :=
  and_int (by have := kbt_mask a 16; simp only [Int.reducePow, Int.reduceSub] at this; rw [this]; exact h)
theorem and63 (h : Q (.int (a % 64) s.toks) { s with toks := s.toks + 1 }) : wpAny (model prog w) A (binaryOp .BitAnd (.int a t) (.int 63 u)) Q E s :=
  and_int (by have := kbt_mask a 6; simp only [Int.reducePow, Int.reduceSub] at this; rw [this]; exact h)
theorem and15 (h : Q (.int (a % 16) s.toks) { s with toks := s.toks + 1 }) : wpAny (model prog w) A (binaryOp .BitAnd (.int a t) (.int 15 u)) Q E s :=
  and_int (by have := kbt_mask a 4; simp only [Int.reducePow, Int.reduceSub] at this; rw [this]; exact h)
theorem and3 (h : Q (.int (a % 4) s.toks) { s with toks := s.toks + 1 }) : wpAny (model prog w) A (binaryOp .BitAnd (.int a t) (.int 3 u)) Q E s :=
  and_int (by have := kbt_mask a 2; simp only [Int.reducePow, Int.reduceSub] at this; rw [this]; exact h)
theorem shl_lit {n : Int} (k : Nat) (e : n = (k : Int)) (hk : k ≤ 64) (ha : 0 ≤ a) (ha2 : a < 18446744073709551616) (h : Q (.int (a * 2 ^ k) s.toks) { s with toks := s.toks + 1 }) : wpAny (model prog w) A (binaryOp .LShift (.int a t) (.int n u)) Q E s := by
  subst e
  exact lshift_int_small (by omega) (by omega) (by omega) (by simpa using h)
theorem shr_lit {n : Int} (k : Nat) (e : n = (k : Int)) (h : Q (.int (a / 2 ^ k) s.toks) { s with toks := s.toks + 1 }) : wpAny (model prog w) A (binaryOp .RShift (.int a t) (.int n u)) Q E s := by
  subst e
  refine rshift_int (by omega) ?_
  rw [Int.toNat_natCast, Int.fdiv_eq_ediv_of_nonneg _ (Int.le_of_lt (kbt_pos k))]; exact h
theorem or_lit {k : Nat} (ha : 0 ≤ a) (hb : 0 ≤ b) (hb2 : b < 2 ^ k) (h : Q (.int (a * 2 ^ k + b) s.toks) { s with toks := s.toks + 1 }) : wpAny (model prog w) A (binaryOp .BitOr (.int (a * 2 ^ k) t) (.int b u)) Q E s :=
  or_int (by rw [or_shl ha hb hb2]; exact h)
end
def b64ks : List Int := [65, 66, 67, 68, 69, 70, 71, 72, 73, 74, 75, 76, 77, 78, 79, 80, 81, 82, 83, 84, 85, 86, 87, 88, 89, 90, 97, 98, 99, 100, 101, 102, 103, 104, 105, 106, 107, 108, 109, 110, 111, 112, 113, 114, 115, 116, 117, 118, 119, 120, 121, 122, 48, 49, 50, 51, 52, 53, 54, 55, 56, 57, 43, 47]
/-- the sign of a figure -/
def b64c (i : Int) : Int := b64ks.getD i.toNat 0
theorem b64c_in (i : Int) : 0 ≤ b64c i ∧ b64c i < 256 := KBw.getD_in (fun k hk => (by decide : ∀ k ∈ b64ks, 0 ≤ k ∧ k < 256) k hk)
section
variable {prog : Program} {w : World} {A : Around} {E : Value → Shared → Prop} {s : Shared} {value slice : PySem.Expr} {b : Array UInt8} {t ui : Tok} {i : Int} {Q : Value → Shared → Prop}
theorem b64_item (hk : KBw.bInts b = b64ks) (h0 : 0 ≤ i) (h1 : i < 64) (h : ∀ t' k, Q (.int (b64c i) t') { s with toks := k })
    (hs : subscripted slice false (.bytes b t) (.int i ui) = operate [.bytes b t, .int i ui] (getItem (.bytes b t) (.int i ui)) := by with_unfolding_all rfl)
    (ht : ∀ r, letTemporaryGo value (.bytes b t) r = pure () := by intro _; with_unfolding_all rfl) : wpAny (model prog w) A (subscriptTail value slice (.bytes b t) (.int i ui)) Q E s :=
  KBw.item_K hk (by decide) h0 (by exact h1) (fun t' k _ _ => h t' k) hs ht
end
end Mine


end QBits
section QB2a
example : True := by
  w_top off
  trivial
open PySem PySem.W PyProof.Rows PySem.Calls PySem.Spec
set_option Elab.async false
set_option maxRecDepth 100000
set_option maxHeartbeats 8000000
set_option pp.deepTerms false
set_option pp.deepTerms.threshold 4
set_option linter.unusedVariables false
namespace Mine
example : (fun (_ : OpenLaw) (_ : PySem.Params → Frag) => True) PySem.Challenge.rw_qh0117_01 Mine.hd.heap_1 := by
  k_fill
  trivial
local macro_rules | `(tactic| walk_at "InvEndN") => `(tactic| k_dflt kst_close)
def encStep (st : Int × Int × List Int) (n : Int) : Int × Int × List Int :=
  let c := (st.2.1 * 2 ^ 8 + n) % 65536
  if st.1 = 0 then (2, c, st.2.2 ++ [b64c (c / 2 ^ 2 % 64)])
  else if st.1 = 2 then (4, c, st.2.2 ++ [b64c (c / 2 ^ 4 % 64)])
  else (0, c, st.2.2 ++ [b64c (c / 2 ^ 6 % 64)] ++ [b64c (c / 2 ^ 0 % 64)])
def encSt (l : List Int) : Int × Int × List Int := l.foldl encStep (0, 0, [])
theorem encSt_snoc (l : List Int) (n : Int) : encSt (l ++ [n]) = encStep (encSt l) n := by simp [encSt]
structure EncP (pre : List Int) (lb lc : Int) (out : List Int) : Prop where
  st : encSt pre = (lb, lc, out)
  lb3 : lb = 0 ∨ lb = 2 ∨ lb = 4
  c0 : 0 ≤ lc
  c1 : lc < 65536
  len : out.length ≤ 2 * pre.length
  oct : KBa.In out
theorem In_snoc {l : List Int} {x : Int} (h : KBa.In l) (h1 : 0 ≤ x) (h2 : x < 256) : KBa.In (l ++ [x]) := by
  intro y hy
  rcases List.mem_append.mp hy with hy | hy
  · exact h y hy
  · rw [List.mem_singleton.mp hy]; exact ⟨h1, h2⟩
theorem In_nil : KBa.In [] := fun _ h => nomatch h
theorem enc_start : EncP [] 0 0 [] := ⟨rfl, by omega, by omega, by omega, by simp, In_nil⟩
theorem enc_0 {pre : List Int} {lc n : Int} {out : List Int} (h : EncP pre 0 lc out) : EncP (pre ++ [n]) (0 + 8 - 6) ((lc * 2 ^ 8 + n) % 65536) (out ++ [b64c ((lc * 2 ^ 8 + n) % 65536 / 2 ^ 2 % 64)]) := by
  obtain ⟨h1, h2, h3, h4, h5, h6⟩ := h
  exact ⟨by rw [encSt_snoc, h1]; simp [encStep], by omega, by omega, by omega, by simp; omega, In_snoc h6 (b64c_in _).1 (b64c_in _).2⟩
theorem enc_2 {pre : List Int} {lc n : Int} {out : List Int} (h : EncP pre 2 lc out) : EncP (pre ++ [n]) (2 + 8 - 6) ((lc * 2 ^ 8 + n) % 65536) (out ++ [b64c ((lc * 2 ^ 8 + n) % 65536 / 2 ^ 4 % 64)]) := by
  obtain ⟨h1, h2, h3, h4, h5, h6⟩ := h
  exact ⟨by rw [encSt_snoc, h1]; simp [encStep], by omega, by omega, by omega, by simp; omega, In_snoc h6 (b64c_in _).1 (b64c_in _).2⟩
theorem enc_4 {pre : List Int} {lc n : Int} {out : List Int} (h : EncP pre 4 lc out) : EncP (pre ++ [n]) (4 + 8 - 6 - 6) ((lc * 2 ^ 8 + n) % 65536) (out ++ [b64c ((lc * 2 ^ 8 + n) % 65536 / 2 ^ 6 % 64)] ++ [b64c ((lc * 2 ^ 8 + n) % 65536 / 2 ^ 0 % 64)]) := by
  obtain ⟨h1, h2, h3, h4, h5, h6⟩ := h
  exact ⟨by rw [encSt_snoc, h1]; simp [encStep], by omega, by omega, by omega, by simp; omega, In_snoc (In_snoc h6 (b64c_in _).1 (b64c_in _).2) (b64c_in _).1 (b64c_in _).2⟩
def encFin (st : Int × Int × List Int) : List Int :=
  if st.1 = 2 then st.2.2 ++ [b64c (st.2.1 % 4 * 2 ^ 4)] ++ [61] ++ [61] else if st.1 = 4 then st.2.2 ++ [b64c (st.2.1 % 16 * 2 ^ 2)] ++ [61] else st.2.2
/-- the base-64 writing of a row -/
def enc (l : List Int) : List Int := encFin (encSt l)
theorem enc_fin0 {pre out : List Int} {lc : Int} (h : EncP pre 0 lc out) : out = enc pre := by rw [enc, h.st]; simp [encFin]
theorem enc_fin2 {pre out : List Int} {lc : Int} (h : EncP pre 2 lc out) : out ++ [b64c (lc % 4 * 2 ^ 4)] ++ [61] ++ [61] = enc pre := by rw [enc, h.st]; simp [encFin]
theorem enc_fin4 {pre out : List Int} {lc : Int} (h : EncP pre 4 lc out) : out ++ [b64c (lc % 16 * 2 ^ 2)] ++ [61] = enc pre := by rw [enc, h.st]; simp [encFin]
local macro_rules | `(tactic| kba_in) => `(tactic| (repeat' (first | assumption | exact (b64c_in _).1 | exact (b64c_in _).2 | decide | refine In_snoc ?_ ?_ ?_)))
local macro_rules | `(tactic| walk_at "binaryOp BitAnd int int") => `(tactic| with_reducible (first | refine and65535 ?_ | refine and63 ?_ | refine and15 ?_ | refine and3 ?_))
local macro_rules | `(tactic| walk_at "binaryOp BitOr int int") => `(tactic| ((with_reducible refine or_lit ?ha ?hb ?hc ?_); (case ha => omega); (case hb => omega); (case hc => omega)))
local macro_rules | `(tactic| walk_at "binaryOp LShift int int") => `(tactic| (first | refine shl_lit 8 (by decide) ?h1 ?h2 ?h3 ?_ | refine shl_lit 4 (by decide) ?h1 ?h2 ?h3 ?_ | refine shl_lit 2 (by decide) ?h1 ?h2 ?h3 ?_); (case h1 => decide); (case h2 => omega); (case h3 => omega))
local macro_rules | `(tactic| walk_at "binaryOp RShift int int") => `(tactic| (first | refine shr_lit 2 (by decide) ?_ | refine shr_lit 4 (by decide) ?_ | refine shr_lit 6 (by decide) ?_ | refine shr_lit 0 (by decide) ?_))
local macro_rules | `(tactic| walk_at "subscriptTail") => `(tactic| ((with_reducible show wpAny _ _ (subscriptTail _ _ (Value.bytes _ _) (Value.int _ _)) _ _ _); (refine b64_item (by decide +kernel) ?h1 ?h2 ?_); (case h1 => omega); (case h2 => omega); intro _ _))
variable {prog : Program} {w : World} {p : Program} {loose : List Str} {mean : ExcName → Option Value} {mg mb : Str → Option Value}
local macro_rules | `(tactic| walk_at "call ref") => `(tactic| ((with_reducible show wpAny _ _ (call (Value.ref 70) _ _) _ _ _); k_dflt (refine' c_buffer _ _ _ _ _ _ _ _ _ _ _ _ _ _ _ _ _ _ ?k1 ?k2 ?k3 ?k4 ?k5 ?kK  ?kd ?ku ?_; (case k1 => k_asm); (case k2 => k_asm); (case k3 => k_asm); (case k4 => k_asm); (case k5 => k_asm); (case kK => first | exact rfl | assumption); (case kd => ktr_room); (case ku => ktr_units); intro h9 tk9 F9 N9; (try dsimp only); (try k_sweep); (try k_fold))))
local macro_rules | `(tactic| walk_at "call ref") => `(tactic| ((with_reducible show wpAny _ _ (call (Value.ref 77) _ _) _ _ _); k_dflt (refine' c_truth _ _ _ _ _ _ _ _ _ _ _ _ _ _ _ _ _ _ ?k1 ?k2 ?k3 ?k4 ?k5 ?kK  ?kd ?ku ?_; (case k1 => k_asm); (case k2 => k_asm); (case k3 => k_asm); (case k4 => k_asm); (case k5 => k_asm); (case kK => first | exact rfl | assumption); (case kd => ktr_room); (case ku => ktr_units); intro h9 tk9 F9 N9; (try dsimp only); (try k_sweep); (try k_fold))))
theorem c_b2a {b : Array UInt8} {bs : List Int} {tb : Tok} (dp un : Nat) (gd : Option (List Code)) (cn : Str) (cs : Scope) (a : Addr) (ccd : Value) (cl : List (Str × Addr)) (outer : List Env) (A₀ : Around) (base h₀ : Heap) (L : Addr) (m : Str → Option Value) (s : Shared) (Q E : Value → Shared → Prop)
    (news : List (Addr × Obj))
    (B : Below A₀ base outer h₀) (F : Fr h₀ L s.heap m) (X : (Mine.hd.heap_1 w.params).In h₀) (N : News h₀ L s.heap news) (T : Top p loose mean mg mb h₀) (hk : cs.kind = .function)
    (hb : KBw.bInts b = bs) (hlen : bs.length ≤ 12)
    (hd : dp + 3 < recursionLimit) (hu : un + 16 < cLine)
    (hret : ∀ (t : Tok) (h' : Heap) (tk' : Nat), Fr h₀ L h' m → News h₀ L h' news → KBa.In (enc bs) → (enc bs).length ≤ 40 → Q (.bytes (byteArr (enc bs)) t) { s with heap := h', toks := tk' }) :
      wpAny (model prog w) (ktrTop dp un gd cn cs L a ccd cl outer) (call (.ref 100) [.bytes b tb] [(Str.ofString "newline", .bool false)]) Q E s := by
  k_with_none
  k_with "state" => first | exact enc_start | exact enc_0 (by assumption) | exact enc_2 (by assumption) | exact enc_4 (by assumption)
  refine wpAny_call ?_
  k_dflt (refine' enterE ?k1 ?k2 ?k3 ?k5 ?kA ?kF ?kK ?k6 ?k7 ?k8 ?k9 ?kB ?_ ?c2 ?c3 ?c4 ?c5; (case kA => exact rfl); (case kF => exact rfl); (case kK => assumption); (case k1 => k_asm); (case k2 => k_asm); (case k3 => k_asm);  (case k5 => k_asm); (case k6 => k_is); (case k7 => k_is); (case k8 => ktr_room); (case k9 => first | exact BindsTo.of_eq rfl | exact binds_K (by k_in) rfl (by k_is) rfl rfl rfl); (case c5 => decide); (case kB => exact locs rfl); (case c2 => exact rfl); (case c3 => exact rfl); (case c4 => exact rfl); k_whole; intro L' h' F' N' B' X' T'; (try dsimp only); (try k_fold))
  repeat' ((fail_if_success (with_reducible show wpAny _ _ (pyIter (Value.bytes _ _)) _ _ _)); first | (k_unfold; (try dsimp only)) | (k_end; wrow_close) | walk1 | (dsimp only; walk1) | (leave1; walk_say "STEP leave1"; try dsimp only) | fail "no step")
  rename Fr _ _ _ _ => lF
  rename News _ _ _ _ => lN
  refine KStb.kst_bytes (σ := Int × Tok × Int × Tok × List Value × List Int × Nat) (fun c => [(_, listOf c.2.2.2.2.1.toArray c.2.2.2.2.2.2)]) (fun c => [(Str.ofString "leftbits", .int c.1 c.2.1), (Str.ofString "leftchar", .int c.2.2.1 c.2.2.2.1)]) (fun c => IntsAre c.2.2.2.2.1 c.2.2.2.2.2.1) [] (fun pre c => EncP pre c.1 c.2.2.1 c.2.2.2.2.2.1) ⟨0, _, 0, _, [], [], 0⟩ hb rfl rfl lF lN .nil (by kst_all) enc_start ?_ ?_
  · rintro ⟨lb, tlb, lc, tlc, vs, out, nn⟩ pre post n t u h tk own hbs hpl hn0 hn1 hoff hI hP F₁ N₁
    dsimp only at hI hP N₁
    dsimp only [kstB] at F₁
    obtain ⟨hE, hor, hc0, hc1, hlo, hoc⟩ := id hP
    simp only [List.cons_append, List.nil_append] at N₁
    simp only [List.map_cons, List.map_nil] at hoff
    have kMark := kstMark
    have kLen := IntsAre.length hI
    clear lF lN
    repeat' ((fail_if_success (with_reducible show wpAny _ _ (exec (Stmt.While _ _ _ _) _) _ _ _)); first | (k_unfold; (try dsimp only)) | (k_end; wrow_close) | walk1 | (dsimp only; walk1) | (leave1; walk_say "STEP leave1"; try dsimp only) | fail "no step")
    rcases hor with hor | hor | hor
    all_goals (
      subst hor
      k_steps)
  · rintro ⟨lb, tlb, lc, tlc, vs, out, nn⟩ u h tk hkl hI hP F₁ N₁
    dsimp only at hI hP N₁
    dsimp only [kstB] at F₁
    obtain ⟨hE, hor, hc0, hc1, hlo, hoc⟩ := id hP
    have kMark := kstMark
    have kLen := IntsAre.length hI
    clear lF lN
    rcases hor with hor | hor | hor
    · subst hor
      k_steps
      rename_i kF kN _ _
      rename Fr s.heap _ _ _ => kF'
      have e := enc_fin0 hP
      rw [e] at hoc hlo ⊢
      exact hret _ _ _ kF (skip1 (back F N kF' kN)) hoc (by omega)
    · subst hor
      k_steps
      rename Fr _ _ _ _ => qF
      rename News _ _ _ _ => qN
      simp only [List.push_toArray] at qN
      have e := enc_fin2 hP
      have hoc' : KBa.In (enc bs) := by rw [← e]; kba_in
      have hlo' : (enc bs).length ≤ 40 := by rw [← e]; simp; omega
      refine KBa.make_K (ns := enc bs) qF qN rfl (News.isList qN (.head _)) (by rw [← e]; k_intsEnd) hoc' (by omega) ?_
      intro h8 t8 k8 F8 N8 _
      k_steps
      rename_i kF kN _ _
      exact hret _ _ _ kF (skip1 (back F N F8 kN)) hoc' hlo'
    · subst hor
      k_steps
      rename Fr _ _ _ _ => qF
      rename News _ _ _ _ => qN
      simp only [List.push_toArray] at qN
      have e := enc_fin4 hP
      have hoc' : KBa.In (enc bs) := by rw [← e]; kba_in
      have hlo' : (enc bs).length ≤ 40 := by rw [← e]; simp; omega
      refine KBa.make_K (ns := enc bs) qF qN rfl (News.isList qN (.head _)) (by rw [← e]; k_intsEnd) hoc' (by omega) ?_
      intro h8 t8 k8 F8 N8 _
      k_steps
      rename_i kF kN _ _
      exact hret _ _ _ kF (skip1 (back F N F8 kN)) hoc' hlo'
end Mine


end QB2a
section QEnc
example : True := by
  w_top off
  trivial
open PySem PySem.W PyProof.Rows PySem.Calls PySem.Spec
set_option Elab.async false
set_option maxRecDepth 100000
set_option maxHeartbeats 8000000
set_option pp.deepTerms false
set_option pp.deepTerms.threshold 4
set_option linter.unusedVariables false
namespace Mine
example : (fun (_ : OpenLaw) (_ : PySem.Params → Frag) => True) PySem.Challenge.rw_qh0117_01 Mine.hd.heap_1 := by
  k_fill
  trivial
variable {prog : Program} {w : World} {p : Program} {loose : List Str} {mean : ExcName → Option Value} {mg mb : Str → Option Value}
local macro_rules | `(tactic| walk_at "call ref") => `(tactic| ((with_reducible show wpAny _ _ (call (Value.ref 100) _ _) _ _ _); k_dflt (refine' c_b2a _ _ _ _ _ _ _ _ _ _ _ _ _ _ _ _ _ _ ?k1 ?k2 ?k3 ?k4 ?k5 ?kK ?e0 ?e1 ?kd ?ku ?_; (case k1 => k_asm); (case k2 => k_asm); (case k3 => k_asm); (case k4 => k_asm); (case k5 => k_asm); (case kK => first | exact rfl | assumption); (case e0 => assumption); (case e1 => assumption); (case kd => ktr_room); (case ku => ktr_units); intro t9 h9 tk9 F9 N9 hIn9 hLn9; (try dsimp only); (try k_sweep); (try k_fold))))
theorem c_b64e {b : Array UInt8} {bs : List Int} {tb : Tok} (dp un : Nat) (gd : Option (List Code)) (cn : Str) (cs : Scope) (a : Addr) (ccd : Value) (cl : List (Str × Addr)) (outer : List Env) (A₀ : Around) (base h₀ : Heap) (L : Addr) (m : Str → Option Value) (s : Shared) (Q E : Value → Shared → Prop)
    (news : List (Addr × Obj))
    (B : Below A₀ base outer h₀) (F : Fr h₀ L s.heap m) (X : (Mine.hd.heap_1 w.params).In h₀) (N : News h₀ L s.heap news) (T : Top p loose mean mg mb h₀) (hk : cs.kind = .function)
    (hb : KBw.bInts b = bs) (hlen : bs.length ≤ 12)
    (hd : dp + 5 < recursionLimit) (hu : un + 24 < cLine)
    (hret : ∀ (t : Tok) (h' : Heap) (tk' : Nat), Fr h₀ L h' m → News h₀ L h' news → KBa.In (enc bs) → (enc bs).length ≤ 40 → Q (.bytes (byteArr (enc bs)) t) { s with heap := h', toks := tk' }) :
      wpAny (model prog w) (ktrTop dp un gd cn cs L a ccd cl outer) (call (.ref 108) [.bytes b tb]) Q E s := by
  k_with_none
  refine wpAny_call ?_
  k_dflt (refine' enterE ?k1 ?k2 ?k3 ?k5 ?kA ?kF ?kK ?k6 ?k7 ?k8 ?k9 ?kB ?_ ?c2 ?c3 ?c4 ?c5; (case kA => exact rfl); (case kF => exact rfl); (case kK => assumption); (case k1 => k_asm); (case k2 => k_asm); (case k3 => k_asm);  (case k5 => k_asm); (case k6 => k_is); (case k7 => k_is); (case k8 => ktr_room); (case k9 => first | exact BindsTo.of_eq rfl | exact binds_K (by k_in) rfl (by k_is) rfl rfl rfl); (case c5 => decide); (case kB => exact locs rfl); (case c2 => exact rfl); (case c3 => exact rfl); (case c4 => exact rfl); k_whole; intro L' h' F' N' B' X' T'; (try dsimp only); (try k_fold))
  k_steps
  rename_i kF kN _ _
  rename Fr s.heap _ _ _ => kF'
  exact hret _ _ _ kF (back F N kF' kN) (by assumption) (by assumption)
end Mine


end QEnc
section QDecM
example : True := by
  w_top off
  trivial
open PySem PySem.W PyProof.Rows PySem.Calls PySem.Spec
set_option Elab.async false
set_option maxRecDepth 100000
set_option maxHeartbeats 8000000
set_option pp.deepTerms false
set_option pp.deepTerms.threshold 4
set_option linter.unusedVariables false
namespace Mine
def Fig (l : List Int) : Prop := ∀ x ∈ l, 0 ≤ x ∧ x < 64
theorem b64_all : ∀ i : Fin 64, b64v (b64c ((i.val : Nat) : Int)) = ((i.val : Nat) : Int) ∧ b64c ((i.val : Nat) : Int) ≠ 61 := by decide +kernel
theorem b64_back {c : Int} (h0 : 0 ≤ c) (h1 : c < 64) : b64v (b64c c) = c ∧ b64c c ≠ 61 := by
  have h := b64_all ⟨c.toNat, by omega⟩
  have e : ((c.toNat : Nat) : Int) = c := Int.toNat_of_nonneg h0
  simp only [e] at h
  exact h
def decStep (st : Int × Int × List Int) (c : Int) : Int × Int × List Int :=
  if st.1 = 0 then (1, c, st.2.2)
  else if st.1 = 1 then (2, c % 16, st.2.2 ++ [st.2.1 * 2 ^ 2 + c / 2 ^ 4])
  else if st.1 = 2 then (3, c % 4, st.2.2 ++ [st.2.1 * 2 ^ 4 + c / 2 ^ 2])
  else (0, 0, st.2.2 ++ [st.2.1 * 2 ^ 6 + c])
def decSt (l : List Int) : Int × Int × List Int := l.foldl decStep (0, 0, [])
theorem decSt_snoc (l : List Int) (n : Int) : decSt (l ++ [n]) = decStep (decSt l) n := by simp [decSt]
/-- the octets that figures stand for -/
def dec (l : List Int) : List Int := (decSt l).2.2
/-- what holds of the decoder's state behind figures -/
structure DecI (l : List Int) (qp lc : Int) (out : List Int) : Prop where
  st : decSt l = (qp, lc, out)
  q : (qp = 0 ∧ l.length % 4 = 0) ∨ (qp = 1 ∧ l.length % 4 = 1 ∧ lc < 64) ∨ (qp = 2 ∧ l.length % 4 = 2 ∧ lc < 16) ∨ (qp = 3 ∧ l.length % 4 = 3 ∧ lc < 4)
  c0 : 0 ≤ lc
  len : out.length ≤ l.length
  oct : KBa.In out
theorem decI_nil : DecI [] 0 0 [] := ⟨rfl, .inl ⟨rfl, rfl⟩, by omega, by simp, In_nil⟩
theorem decI_step {l out : List Int} {qp lc c : Int} (h : DecI l qp lc out) (h0 : 0 ≤ c) (h1 : c < 64) :
    DecI (l ++ [c]) (decStep (qp, lc, out) c).1 (decStep (qp, lc, out) c).2.1 (decStep (qp, lc, out) c).2.2 := by
  obtain ⟨a, b, d, e, f⟩ := h
  have hl : (l ++ [c]).length = l.length + 1 := by simp
  rcases b with ⟨rfl, b⟩ | ⟨rfl, b, b2⟩ | ⟨rfl, b, b2⟩ | ⟨rfl, b, b2⟩
  · exact ⟨by rw [decSt_snoc, a], by simp [decStep]; omega, by simp [decStep]; omega, by simp [decStep]; omega, by simpa [decStep] using f⟩
  · exact ⟨by rw [decSt_snoc, a], by simp [decStep]; omega, by simp [decStep]; omega, by simp [decStep]; omega, by simpa [decStep] using In_snoc f (by omega) (by omega)⟩
  · exact ⟨by rw [decSt_snoc, a], by simp [decStep]; omega, by simp [decStep]; omega, by simp [decStep]; omega, by simpa [decStep] using In_snoc f (by omega) (by omega)⟩
  · exact ⟨by rw [decSt_snoc, a], by simp [decStep]; omega, by simp [decStep], by simp [decStep]; omega, by simpa [decStep] using In_snoc f (by omega) (by omega)⟩
theorem decI_all : ∀ (n : Nat) (l : List Int), l.length = n → Fig l → DecI l (decSt l).1 (decSt l).2.1 (decSt l).2.2 := by
  intro n
  induction n with
  | zero => intro l h _; rw [List.length_eq_zero_iff.mp h]; exact decI_nil
  | succ n ih =>
    intro l h hf
    obtain ⟨l', c, rfl⟩ : ∃ l' o, l = l' ++ [o] := ⟨l.dropLast, l.getLast (by intro e; rw [e] at h; cases h), (List.dropLast_concat_getLast _).symm⟩
    have hc := hf c (by simp)
    have := decI_step (ih l' (by simpa using h) (fun x hx => hf x (by simp [hx]))) hc.1 hc.2
    rw [decSt_snoc]
    exact this
/-- how many signs fill a writing of so many figures -/
def padOk (n pd : Nat) : Prop := (n % 4 = 0 ∧ pd = 0) ∨ (n % 4 = 2 ∧ pd = 2) ∨ (n % 4 = 3 ∧ pd = 1)
/-- the decoder's loop: what it has read, and where it stands -/
structure DecP (cs pre : List Int) (qp lc pads : Int) (out : List Int) : Prop where
  ex : ∃ j q : Nat, pre = (cs.take j).map b64c ++ List.replicate q 61 ∧ j ≤ cs.length ∧ (q = 0 ∨ j = cs.length) ∧ pads = (q : Int) ∧ DecI (cs.take j) qp lc out
theorem decP_start (cs : List Int) : DecP cs [] 0 0 0 [] := ⟨0, 0, by simp, by omega, .inl rfl, rfl, by simpa using decI_nil⟩
theorem decP_turn {cs pre post out : List Int} {pd : Nat} {n qp lc pads : Int} (hf : Fig cs) (hp : padOk cs.length pd) (hd : cs.map b64c ++ List.replicate pd 61 = pre ++ n :: post) (h : DecP cs pre qp lc pads out) :
    (∃ c, n ≠ 61 ∧ b64v n = c ∧ 0 ≤ c ∧ c < 64 ∧ pads = 0 ∧ (qp = 0 ∨ (qp = 1 ∧ lc < 64) ∨ (qp = 2 ∧ lc < 16) ∨ (qp = 3 ∧ lc < 4)) ∧ 0 ≤ lc ∧ out.length ≤ cs.length ∧ DecP cs (pre ++ [n]) (decStep (qp, lc, out) c).1 (decStep (qp, lc, out) c).2.1 0 (decStep (qp, lc, out) c).2.2) ∨
    (n = 61 ∧ out.length ≤ cs.length ∧ 0 ≤ lc ∧ ((qp = 2 ∧ pads = 0) ∨ (qp = 2 ∧ pads = 1) ∨ (qp = 3 ∧ pads = 0)) ∧ DecP cs (pre ++ [n]) qp lc (pads + 1) out) := by
  obtain ⟨j, q, e, hj, hq, hpq, I⟩ := h.ex
  by_cases hjl : j < cs.length
  · left
    have hq0 : q = 0 := by omega
    subst hq0
    simp only [List.replicate_zero, List.append_nil] at e
    have hlen : pre.length = j := by rw [e]; simp; omega
    have hn : n = b64c cs[j] := by
      have h1 : (cs.map b64c ++ List.replicate pd 61)[j]? = some n := by rw [hd, List.getElem?_append_right (by omega)]; simp [hlen]
      rw [List.getElem?_append_left (by simpa using hjl)] at h1
      simp [hjl] at h1
      exact h1.symm
    have hc := hf cs[j] (List.getElem_mem hjl)
    have e2 : cs.take (j + 1) = cs.take j ++ [cs[j]] := by rw [List.take_add_one, List.getElem?_eq_getElem hjl]; rfl
    have hb := b64_back hc.1 hc.2
    refine ⟨cs[j], by rw [hn]; exact hb.2, by rw [hn]; exact hb.1, hc.1, hc.2, by simpa using hpq, ?_, I.c0, ?_, ⟨j + 1, 0, ?_, by omega, .inl rfl, rfl, ?_⟩⟩
    · rcases I.q with ⟨a, _⟩ | ⟨a, _, b⟩ | ⟨a, _, b⟩ | ⟨a, _, b⟩
      · exact .inl a
      · exact .inr (.inl ⟨a, b⟩)
      · exact .inr (.inr (.inl ⟨a, b⟩))
      · exact .inr (.inr (.inr ⟨a, b⟩))
    · have := I.len; rw [List.length_take] at this; omega
    · rw [e, hn, e2, List.map_append, List.replicate_zero, List.append_nil]; rfl
    · have := decI_step I hc.1 hc.2
      rw [e2]; exact this
  · right
    have hje : j = cs.length := by omega
    subst hje
    rw [List.take_length] at e I
    have hlen : pre.length = cs.length + q := by rw [e]; simp
    have htot := congrArg List.length hd
    simp at htot
    have hn : n = 61 := by
      have h1 : (cs.map b64c ++ List.replicate pd 61)[cs.length + q]? = some n := by rw [hd, List.getElem?_append_right (by omega)]; simp [hlen]
      rw [List.getElem?_append_right (by simp)] at h1
      simp [List.getElem?_replicate] at h1
      exact h1.2.symm
    have hqp : q < pd := by omega
    refine ⟨hn, I.len, I.c0, ?_, ⟨cs.length, q + 1, ?_, by omega, .inr rfl, by rw [hpq]; simp, by rw [List.take_length]; exact I⟩⟩
    · rcases hp with ⟨a, b⟩ | ⟨a, b⟩ | ⟨a, b⟩ <;> rcases I.q with ⟨a', _⟩ | ⟨a', _, b'⟩ | ⟨a', _, b'⟩ | ⟨a', _, b'⟩ <;> omega
    · rw [e, hn, List.take_length, List.append_assoc, List.replicate_succ']
theorem decP_end {cs out : List Int} {pd : Nat} {qp lc pads : Int} (hp : padOk cs.length pd) (h : DecP cs (cs.map b64c ++ List.replicate pd 61) qp lc pads out) :
    out = dec cs ∧ KBa.In out ∧ out.length ≤ cs.length ∧ ((qp = 0 ∧ pads = 0) ∨ (qp = 2 ∧ pads = 2) ∨ (qp = 3 ∧ pads = 1)) := by
  obtain ⟨j, q, e, hj, hq, hpq, I⟩ := h.ex
  have hl := congrArg List.length e
  simp at hl
  have hje : j = cs.length := by
    rcases hq with hq | hq
    · subst hq
      by_cases hj' : j = cs.length
      · exact hj'
      · exfalso; omega
    · exact hq
  subst hje
  rw [List.take_length] at I
  refine ⟨?_, I.oct, I.len, ?_⟩
  · rw [dec, I.st]
  · have := I.q
    rcases hp with ⟨a, b⟩ | ⟨a, b⟩ | ⟨a, b⟩ <;> omega
end Mine


end QDecM
section QDec
example : True := by
  w_top off
  trivial
open PySem PySem.W PyProof.Rows PySem.Calls PySem.Spec
set_option Elab.async false
set_option maxRecDepth 100000
set_option maxHeartbeats 8000000
set_option pp.deepTerms false
set_option pp.deepTerms.threshold 4
set_option linter.unusedVariables false
namespace Mine
example : (fun (_ : OpenLaw) (_ : PySem.Params → Frag) => True) PySem.Challenge.rw_qh0117_01 Mine.hd.heap_1 := by
  k_fill
  trivial
local macro_rules | `(tactic| walk_at "InvEndN") => `(tactic| k_dflt kst_close)
local macro_rules | `(tactic| kba_in) => `(tactic| assumption)
local macro_rules | `(tactic| walk_at "binaryOp BitAnd int int") => `(tactic| with_reducible (first | refine and63 ?_ | refine and15 ?_ | refine and3 ?_))
local macro_rules | `(tactic| walk_at "binaryOp BitOr int int") => `(tactic| ((with_reducible refine or_lit ?ha ?hb ?hc ?_); (case ha => omega); (case hb => omega); (case hc => omega)))
local macro_rules | `(tactic| walk_at "binaryOp LShift int int") => `(tactic| (first | refine shl_lit 2 (by decide) ?h1 ?h2 ?h3 ?_ | refine shl_lit 4 (by decide) ?h1 ?h2 ?h3 ?_ | refine shl_lit 6 (by decide) ?h1 ?h2 ?h3 ?_); (case h1 => decide); (case h2 => omega); (case h3 => omega))
local macro_rules | `(tactic| walk_at "binaryOp RShift int int") => `(tactic| (first | refine shr_lit 4 (by decide) ?_ | refine shr_lit 2 (by decide) ?_))
variable {prog : Program} {w : World} {p : Program} {loose : List Str} {mean : ExcName → Option Value} {mg mb : Str → Option Value}
theorem c_b64v2 {c v : Int} {t : Tok} (dp un : Nat) (gd : Option (List Code)) (cn : Str) (cs : Scope) (a : Addr) (ccd : Value) (cl : List (Str × Addr)) (outer : List Env) (A₀ : Around) (base h₀ : Heap) (L : Addr) (m : Str → Option Value) (s : Shared) (Q E : Value → Shared → Prop)
    (news : List (Addr × Obj))
    (B : Below A₀ base outer h₀) (F : Fr h₀ L s.heap m) (X : (Mine.hd.heap_1 w.params).In h₀) (N : News h₀ L s.heap news) (T : Top p loose mean mg mb h₀) (hk : cs.kind = .function)
    (hv : b64v c = v)
    (hd : dp + 1 < recursionLimit) (hu : un + 8 < cLine)
    (hret : ∀ (t : Tok) (h' : Heap) (tk' : Nat), Fr h₀ L h' m → News h₀ L h' news → Q (.int v t) { s with heap := h', toks := tk' }) :
      wpAny (model prog w) (ktrTop dp un gd cn cs L a ccd cl outer) (call (.ref 84) [.int c t]) Q E s := by
  k_with_none
  refine wpAny_call ?_
  k_dflt (refine' enterE ?k1 ?k2 ?k3 ?k5 ?kA ?kF ?kK ?k6 ?k7 ?k8 ?k9 ?kB ?_ ?c2 ?c3 ?c4 ?c5; (case kA => exact rfl); (case kF => exact rfl); (case kK => assumption); (case k1 => k_asm); (case k2 => k_asm); (case k3 => k_asm);  (case k5 => k_asm); (case k6 => k_is); (case k7 => k_is); (case k8 => ktr_room); (case k9 => first | exact BindsTo.of_eq rfl | exact binds_K (by k_in) rfl (by k_is) rfl rfl rfl); (case c5 => decide); (case kB => exact locs rfl); (case c2 => exact rfl); (case c3 => exact rfl); (case c4 => exact rfl); k_whole; intro L' h' F' N' B' X' T'; (try dsimp only); (try k_fold))
  subst hv
  k_steps
  all_goals (
    rename_i kF kN _ _
    rename Fr s.heap _ _ _ => kF'
    refine cb_retI hret ?_ kF (back F N kF' kN)
    unfold b64v
    repeat' split
    all_goals omega)
local macro_rules | `(tactic| walk_at "call ref") => `(tactic| ((with_reducible show wpAny _ _ (call (Value.ref 63) _ _) _ _ _); k_dflt (refine' c_ascii _ _ _ _ _ _ _ _ _ _ _ _ _ _ _ _ _ _ ?k1 ?k2 ?k3 ?k4 ?k5 ?kK  ?kd ?ku ?_; (case k1 => k_asm); (case k2 => k_asm); (case k3 => k_asm); (case k4 => k_asm); (case k5 => k_asm); (case kK => first | exact rfl | assumption); (case kd => ktr_room); (case ku => ktr_units); intro h9 tk9 F9 N9; (try dsimp only); (try k_sweep); (try k_fold))))
local macro_rules | `(tactic| walk_at "call ref") => `(tactic| ((with_reducible show wpAny _ _ (call (Value.ref 77) _ _) _ _ _); k_dflt (refine' c_truth _ _ _ _ _ _ _ _ _ _ _ _ _ _ _ _ _ _ ?k1 ?k2 ?k3 ?k4 ?k5 ?kK  ?kd ?ku ?_; (case k1 => k_asm); (case k2 => k_asm); (case k3 => k_asm); (case k4 => k_asm); (case k5 => k_asm); (case kK => first | exact rfl | assumption); (case kd => ktr_room); (case ku => ktr_units); intro h9 tk9 F9 N9; (try dsimp only); (try k_sweep); (try k_fold))))
local macro_rules | `(tactic| walk_at "call ref") => `(tactic| ((with_reducible show wpAny _ _ (call (Value.ref 84) _ _) _ _ _); k_dflt (refine' c_b64v2 _ _ _ _ _ _ _ _ _ _ _ _ _ _ _ _ _ _ ?k1 ?k2 ?k3 ?k4 ?k5 ?kK ?e0 ?kd ?ku ?_; (case k1 => k_asm); (case k2 => k_asm); (case k3 => k_asm); (case k4 => k_asm); (case k5 => k_asm); (case kK => first | exact rfl | assumption); (case e0 => assumption); (case kd => ktr_room); (case ku => ktr_units); intro t9 h9 tk9 F9 N9; (try dsimp only); (try k_sweep); (try k_fold))))
theorem c_a2b {b : Array UInt8} {gs : List Int} {pd : Nat} {tb : Tok} (dp un : Nat) (gd : Option (List Code)) (cn : Str) (cs : Scope) (a : Addr) (ccd : Value) (cl : List (Str × Addr)) (outer : List Env) (A₀ : Around) (base h₀ : Heap) (L : Addr) (m : Str → Option Value) (s : Shared) (Q E : Value → Shared → Prop)
    (news : List (Addr × Obj))
    (B : Below A₀ base outer h₀) (F : Fr h₀ L s.heap m) (X : (Mine.hd.heap_1 w.params).In h₀) (N : News h₀ L s.heap news) (T : Top p loose mean mg mb h₀) (hk : cs.kind = .function)
    (hb : KBw.bInts b = gs.map b64c ++ List.replicate pd 61) (hf : Fig gs) (hp : padOk gs.length pd) (hlen : gs.length ≤ 16)
    (hd : dp + 3 < recursionLimit) (hu : un + 16 < cLine)
    (hret : ∀ (t : Tok) (h' : Heap) (tk' : Nat), Fr h₀ L h' m → News h₀ L h' news → KBa.In (dec gs) → Q (.bytes (byteArr (dec gs)) t) { s with heap := h', toks := tk' }) :
      wpAny (model prog w) (ktrTop dp un gd cn cs L a ccd cl outer) (call (.ref 92) [.bytes b tb] [(Str.ofString "strict_mode", .bool true)]) Q E s := by
  k_with_none
  k_with "state" => first | assumption | (simp only [decStep] at *; assumption)
  refine wpAny_call ?_
  k_dflt (refine' enterE ?k1 ?k2 ?k3 ?k5 ?kA ?kF ?kK ?k6 ?k7 ?k8 ?k9 ?kB ?_ ?c2 ?c3 ?c4 ?c5; (case kA => exact rfl); (case kF => exact rfl); (case kK => assumption); (case k1 => k_asm); (case k2 => k_asm); (case k3 => k_asm);  (case k5 => k_asm); (case k6 => k_is); (case k7 => k_is); (case k8 => ktr_room); (case k9 => first | exact BindsTo.of_eq rfl | exact binds_K (by k_in) rfl (by k_is) rfl rfl rfl); (case c5 => decide); (case kB => exact locs rfl); (case c2 => exact rfl); (case c3 => exact rfl); (case c4 => exact rfl); k_whole; intro L' h' F' N' B' X' T'; (try dsimp only); (try k_fold))
  repeat' ((fail_if_success (with_reducible show wpAny _ _ (pyIter (Value.bytes _ _)) _ _ _)); first | (k_unfold; (try dsimp only)) | (k_end; wrow_close) | walk1 | (dsimp only; walk1) | (leave1; walk_say "STEP leave1"; try dsimp only) | fail "no step")
  rename Fr _ _ _ _ => lF
  rename News _ _ _ _ => lN
  refine KStb.kst_bytes (σ := Int × Tok × Int × Tok × Int × Tok × Int × Tok × List Value × List Int × Nat) (fun c => [(_, listOf c.2.2.2.2.2.2.2.2.1.toArray c.2.2.2.2.2.2.2.2.2.2)]) (fun c => [(Str.ofString "quad_pos", .int c.1 c.2.1), (Str.ofString "leftchar", .int c.2.2.1 c.2.2.2.1), (Str.ofString "pads", .int c.2.2.2.2.1 c.2.2.2.2.2.1), (Str.ofString "i", .int c.2.2.2.2.2.2.1 c.2.2.2.2.2.2.2.1)]) (fun c => IntsAre c.2.2.2.2.2.2.2.2.1 c.2.2.2.2.2.2.2.2.2.1) [] (fun pre c => DecP gs pre c.1 c.2.2.1 c.2.2.2.2.1 c.2.2.2.2.2.2.2.2.2.1) ⟨0, _, 0, _, 0, _, 0, _, [], [], 0⟩ hb rfl rfl lF lN .nil (by kst_all) (decP_start gs) ?_ ?_
  · rintro ⟨qp, tqp, lc, tlc, pads, tpa, ii, tii, vs, out, nn⟩ pre post n t u h tk own hbs hpl hn0 hn1 hoff hI hP F₁ N₁
    dsimp only at hI hP N₁
    dsimp only [kstB] at F₁
    simp only [List.cons_append, List.nil_append] at N₁
    simp only [List.map_cons, List.map_nil] at hoff
    have kMark := kstMark
    have kLen := IntsAre.length hI
    clear lF lN hpl
    rcases decP_turn hf hp hbs hP with ⟨c, hne, hv, hc0, hc1, hpa, hq, hl0, hol, hD⟩ | ⟨hn, hol, hl0, hq, hD⟩
    · clear hP hbs
      subst hpa
      repeat' ((fail_if_success (with_reducible show wpAny _ _ (exec (Stmt.If _ _ (_ :: _) _) _) _ _ _)); first | (k_unfold; (try dsimp only)) | (k_end; wrow_close) | walk1 | (dsimp only; walk1) | (leave1; walk_say "STEP leave1"; try dsimp only) | fail "no step")
      all_goals first | (exfalso; omega) | skip
      rcases hq with hq | ⟨hq, hl1⟩ | ⟨hq, hl1⟩ | ⟨hq, hl1⟩
      all_goals (
        subst hq
        k_steps
        all_goals (exfalso; omega))
    · clear hP hbs
      subst hn
      rcases hq with ⟨hq, hq2⟩ | ⟨hq, hq2⟩ | ⟨hq, hq2⟩
      · subst hq hq2
        k_steps
        all_goals (exfalso; omega)
      · subst hq hq2
        k_steps
        all_goals (exfalso; omega)
      · subst hq hq2
        k_steps
        all_goals (exfalso; omega)
  · rintro ⟨qp, tqp, lc, tlc, pads, tpa, ii, tii, vs, out, nn⟩ u h tk hkl hI hP F₁ N₁
    dsimp only at hI hP N₁
    dsimp only [kstB] at F₁
    have kMark := kstMark
    have kLen := IntsAre.length hI
    clear lF lN hkl
    obtain ⟨e, hoc, hol, hq⟩ := decP_end hp hP
    clear hP
    rcases hq with ⟨hq, hq2⟩ | ⟨hq, hq2⟩ | ⟨hq, hq2⟩
    all_goals (
      subst hq hq2
      k_steps
      rename_i kF kN _ _
      rename Fr s.heap _ _ _ => kF'
      rw [e] at hoc ⊢
      exact hret _ _ _ kF (skip1 (back F N kF' kN)) hoc)
end Mine


end QDec
section QB64d
example : True := by
  w_top off
  trivial
open PySem PySem.W PyProof.Rows PySem.Calls PySem.Spec
set_option Elab.async false
set_option maxRecDepth 100000
set_option maxHeartbeats 8000000
set_option pp.deepTerms false
set_option pp.deepTerms.threshold 4
set_option linter.unusedVariables false
namespace Mine
example : (fun (_ : OpenLaw) (_ : PySem.Params → Frag) => True) PySem.Challenge.rw_qh0117_01 Mine.hd.heap_1 := by
  k_fill
  trivial
variable {prog : Program} {w : World} {p : Program} {loose : List Str} {mean : ExcName → Option Value} {mg mb : Str → Option Value}
local macro_rules | `(tactic| walk_at "call ref") => `(tactic| ((with_reducible show wpAny _ _ (call (Value.ref 43) _ _) _ _ _); k_dflt (refine' c_bfdd _ _ _ _ _ _ _ _ _ _ _ _ _ _ _ _ _ _ ?k1 ?k2 ?k3 ?k4 ?k5 ?kK  ?kd ?ku ?_; (case k1 => k_asm); (case k2 => k_asm); (case k3 => k_asm); (case k4 => k_asm); (case k5 => k_asm); (case kK => first | exact rfl | assumption); (case kd => ktr_room); (case ku => ktr_units); intro h9 tk9 F9 N9; (try dsimp only); (try k_sweep); (try k_fold))))
local macro_rules | `(tactic| walk_at "call ref") => `(tactic| ((with_reducible show wpAny _ _ (call (Value.ref 92) _ _) _ _ _); k_dflt (refine' c_a2b _ _ _ _ _ _ _ _ _ _ _ _ _ _ _ _ _ _ ?k1 ?k2 ?k3 ?k4 ?k5 ?kK ?e0 ?e1 ?e2 ?e3 ?kd ?ku ?_; (case k1 => k_asm); (case k2 => k_asm); (case k3 => k_asm); (case k4 => k_asm); (case k5 => k_asm); (case kK => first | exact rfl | assumption); (case e0 => assumption); (case e1 => assumption); (case e2 => assumption); (case e3 => assumption); (case kd => ktr_room); (case ku => ktr_units); intro t9 h9 tk9 F9 N9 hIn9; (try dsimp only); (try k_sweep); (try k_fold))))
theorem c_b64d {b : Array UInt8} {gs : List Int} {pd : Nat} {tb : Tok} (dp un : Nat) (gd : Option (List Code)) (cn : Str) (cs : Scope) (a : Addr) (ccd : Value) (cl : List (Str × Addr)) (outer : List Env) (A₀ : Around) (base h₀ : Heap) (L : Addr) (m : Str → Option Value) (s : Shared) (Q E : Value → Shared → Prop)
    (news : List (Addr × Obj))
    (B : Below A₀ base outer h₀) (F : Fr h₀ L s.heap m) (X : (Mine.hd.heap_1 w.params).In h₀) (N : News h₀ L s.heap news) (T : Top p loose mean mg mb h₀) (hk : cs.kind = .function)
    (hb : KBw.bInts b = gs.map b64c ++ List.replicate pd 61) (hf : Fig gs) (hp : padOk gs.length pd) (hlen : gs.length ≤ 16)
    (hd : dp + 5 < recursionLimit) (hu : un + 24 < cLine)
    (hret : ∀ (t : Tok) (h' : Heap) (tk' : Nat), Fr h₀ L h' m → News h₀ L h' news → KBa.In (dec gs) → Q (.bytes (byteArr (dec gs)) t) { s with heap := h', toks := tk' }) :
      wpAny (model prog w) (ktrTop dp un gd cn cs L a ccd cl outer) (call (.ref 116) [.bytes b tb] [(Str.ofString "validate", .bool true)]) Q E s := by
  k_with_none
  refine wpAny_call ?_
  k_dflt (refine' enterE ?k1 ?k2 ?k3 ?k5 ?kA ?kF ?kK ?k6 ?k7 ?k8 ?k9 ?kB ?_ ?c2 ?c3 ?c4 ?c5; (case kA => exact rfl); (case kF => exact rfl); (case kK => assumption); (case k1 => k_asm); (case k2 => k_asm); (case k3 => k_asm);  (case k5 => k_asm); (case k6 => k_is); (case k7 => k_is); (case k8 => ktr_room); (case k9 => first | exact BindsTo.of_eq rfl | exact binds_K (by k_in) rfl (by k_is) rfl rfl rfl); (case c5 => decide); (case kB => exact locs rfl); (case c2 => exact rfl); (case c3 => exact rfl); (case c4 => exact rfl); k_whole; intro L' h' F' N' B' X' T'; (try dsimp only); (try k_fold))
  k_steps
  rename_i kF kN _ _
  rename Fr s.heap _ _ _ => kF'
  exact hret _ _ _ kF (back F N kF' kN) (by assumption)
end Mine


end QB64d
section QTorn
example : True := by
  w_top off
  trivial
open PySem PySem.W PyProof.Rows PySem.Calls PySem.Spec
set_option Elab.async false
set_option maxRecDepth 100000
set_option maxHeartbeats 8000000
set_option pp.deepTerms false
set_option pp.deepTerms.threshold 4
set_option linter.unusedVariables false
namespace Mine
example : (fun (_ : OpenLaw) (_ : PySem.Params → Frag) => True) PySem.Challenge.rw_qh0117_01 Mine.hd.heap_1 := by
  k_fill
  trivial
def tornE (bd i : Int) : Int := 8 - if (if bd - 8 * i > 0 then bd - 8 * i else 0) < 8 then if bd - 8 * i > 0 then bd - 8 * i else 0 else 8
def tornAt (os fs : List Int) (bd i : Int) : Int :=
  fs.getD i.toNat 0 - (fs.getD i.toNat 0).fmod (2 ^ (tornE bd i).toNat) + (os.getD i.toNat 0).fmod (2 ^ (tornE bd i).toNat)
theorem tornE_in (bd i : Int) : 0 ≤ tornE bd i ∧ tornE bd i ≤ 8 := by unfold tornE; repeat' split <;> omega
theorem nine {e : Int} (h0 : 0 ≤ e) (h1 : e ≤ 8) : e = 0 ∨ e = 1 ∨ e = 2 ∨ e = 3 ∨ e = 4 ∨ e = 5 ∨ e = 6 ∨ e = 7 ∨ e = 8 := by omega
theorem mix_in {x y e : Int} (hx : 0 ≤ x ∧ x < 256) (hy : 0 ≤ y ∧ y < 256) (he : 0 ≤ e ∧ e ≤ 8) : 0 ≤ x - x.fmod (2 ^ e.toNat) + y.fmod (2 ^ e.toNat) ∧ x - x.fmod (2 ^ e.toNat) + y.fmod (2 ^ e.toNat) < 256 := by
  rcases nine he.1 he.2 with h | h | h | h | h | h | h | h | h <;> subst h <;> simp only [Int.reducePow, Int.reduceToNat] <;> rw [Int.fmod_eq_emod_of_nonneg _ (by decide), Int.fmod_eq_emod_of_nonneg _ (by decide)] <;> omega
theorem Oct.getD {l : List Int} (h : Oct l) (j : Nat) : 0 ≤ l.getD j 0 ∧ l.getD j 0 < 256 := KBw.getD_in h
theorem tornAt_in {os fs : List Int} (ho : Oct os) (hf : Oct fs) (bd i : Int) : 0 ≤ tornAt os fs bd i ∧ tornAt os fs bd i < 256 := mix_in (hf.getD _) (ho.getD _) (tornE_in _ _)
structure TornP (os fs : List Int) (bd : Int) (pre row : List Int) : Prop where
  eq : row = pre.map (tornAt os fs bd)
  oct : KBa.In row
  len : row.length = pre.length
theorem torn_start {os fs : List Int} {bd : Int} : TornP os fs bd [] [] := ⟨rfl, In_nil, rfl⟩
theorem torn_step {os fs pre row : List Int} {bd k : Int} (ho : Oct os) (hf : Oct fs) (h : TornP os fs bd pre row) : TornP os fs bd (pre ++ [k]) (row ++ [tornAt os fs bd k]) :=
  ⟨by rw [h.eq, List.map_append]; rfl, In_snoc h.oct (tornAt_in ho hf bd k).1 (tornAt_in ho hf bd k).2, by simp [h.len]⟩
theorem torn_step2 {os fs pre row : List Int} {bd k : Int} (ho : Oct os) (hf : Oct fs) (h : TornP os fs bd pre row) : TornP os fs bd (pre ++ [k]) (row ++ [tornAt os fs bd k]) ∧ (row ++ [tornAt os fs bd k]).length = (pre ++ [k]).length :=
  ⟨torn_step ho hf h, by simp [h.len]⟩
/-- an octet row torn between new and old at a bit -/
def torn (os fs : List Int) (bd : Int) : List Int := (rangeKs 0 os.length).map (tornAt os fs bd)
variable {prog : Program} {w : World} {p : Program} {loose : List Str} {mean : ExcName → Option Value} {mg mb : Str → Option Value}
theorem c_torn {lo lf : Addr} {vo vf : List Value} {os fs : List Int} {bd : Int} {tb : Tok} (dp un : Nat) (gd : Option (List Code)) (cn : Str) (cs : Scope) (a : Addr) (ccd : Value) (cl : List (Str × Addr)) (outer : List Env) (A₀ : Around) (base h₀ : Heap) (L : Addr) (m : Str → Option Value) (s : Shared) (Q E : Value → Shared → Prop)
    (news : List (Addr × Obj))
    (B : Below A₀ base outer h₀) (F : Fr h₀ L s.heap m) (X : (Mine.hd.heap_1 w.params).In h₀) (N : News h₀ L s.heap news) (T : Top p loose mean mg mb h₀) (hk : cs.kind = .function)
    (hlo : s.heap.IsList lo vo.toArray) (hio : IntsAre vo os) (hlf : s.heap.IsList lf vf.toArray) (hif : IntsAre vf fs) (hl : fs.length = os.length) (hlen : os.length ≤ 12) (ho : Oct os) (hf : Oct fs) (hb0 : 0 ≤ bd) (hb1 : bd ≤ 1000)
    (hd : dp + 1 < recursionLimit) (hu : un + 8 < cLine)
    (hret : ∀ (t : Tok) (h' : Heap) (tk' : Nat), Fr h₀ L h' m → News h₀ L h' news → KBa.In (torn os fs bd) → Q (.bytes (byteArr (torn os fs bd)) t) { s with heap := h', toks := tk' }) :
      wpAny (model prog w) (ktrTop dp un gd cn cs L a ccd cl outer) (call (.ref 154) [.ref lo, .ref lf, .int bd tb]) Q E s := by
  k_with_none
  k_with "pyIter ref" => k_state (fun pre row => TornP os fs bd pre row ∧ row.length = pre.length) "row"
  k_with "state" => first | exact ⟨torn_start, rfl⟩ | exact torn_step2 (by assumption) (by assumption) (by assumption)
  refine wpAny_call ?_
  k_dflt (refine' enterE ?k1 ?k2 ?k3 ?k5 ?kA ?kF ?kK ?k6 ?k7 ?k8 ?k9 ?kB ?_ ?c2 ?c3 ?c4 ?c5; (case kA => exact rfl); (case kF => exact rfl); (case kK => assumption); (case k1 => k_asm); (case k2 => k_asm); (case k3 => k_asm);  (case k5 => k_asm); (case k6 => k_is); (case k7 => k_is); (case k8 => ktr_room); (case k9 => first | exact BindsTo.of_eq rfl | exact binds_K (by k_in) rfl (by k_is) rfl rfl rfl); (case c5 => decide); (case kB => exact locs rfl); (case c2 => exact rfl); (case c3 => exact rfl); (case c4 => exact rfl); k_whole; intro L' h' F' N' B' X' T'; (try dsimp only); (try k_fold))
  k_steps
  rename TornP _ _ _ _ _ => hP
  rename Fr _ _ _ _ => qF
  rename News _ _ _ _ => qN
  have hz : (((os.length : Nat) : Int) - 0).toNat = os.length := by omega
  rw [hz] at hP
  obtain ⟨e, hoc, hln⟩ := hP
  rw [rangeKs_length] at hln
  have e' : _ = torn os fs bd := e
  refine KBa.make_K qF qN rfl (News.isList qN (.head _)) (by assumption) hoc (by omega) ?_
  intro h8 t8 k8 F8 N8 _
  k_steps
  rename_i kF kN _ _
  rw [e'] at hoc ⊢
  exact hret _ _ _ kF (skip1 (back F N F8 kN)) hoc
end Mine


end QTorn
section QPut
example : True := by
  w_top off
  trivial
local macro_rules | `(tactic| walk_at "QPut none") => `(tactic| skip)
open PySem PySem.W PyProof.Rows PySem.Calls PySem.Spec
set_option Elab.async false
set_option maxRecDepth 100000
set_option maxHeartbeats 8000000
set_option pp.deepTerms false
set_option pp.deepTerms.threshold 4
set_option linter.unusedVariables false
namespace Mine
example : (fun (_ : OpenLaw) (_ : PySem.Params → Frag) => True) PySem.Challenge.rw_qh0117_01 Mine.hd.heap_1 := by
  k_fill
  trivial
theorem put_eq {ks : List Int} {k c : Int} (h0 : 0 ≤ k) (h1 : k < (ks.length : Int)) :
    ks.set k.toNat c = List.take (clipAt ks.length k) ks ++ [c] ++ List.take (ks.length - clipAt ks.length (k + 1)) (List.drop (clipAt ks.length (k + 1)) ks) := by
  have e1 : clipAt ks.length k = k.toNat := by unfold clipAt; repeat' split <;> omega
  have e2 : clipAt ks.length (k + 1) = k.toNat + 1 := by unfold clipAt; repeat' split <;> omega
  rw [e1, e2, List.take_of_length_le (l := List.drop (k.toNat + 1) ks) (by simp), List.set_eq_take_append_cons_drop, if_pos (by omega), List.append_assoc]
  rfl
variable {prog : Program} {w : World} {p : Program} {loose : List Str} {mean : ExcName → Option Value} {mg mb : Str → Option Value}
theorem c_put {b : Array UInt8} {ks : List Int} {tb tk tc : Tok} {pa : Addr} {k c : Int} (dp un : Nat) (gd : Option (List Code)) (cn : Str) (cs : Scope) (a : Addr) (ccd : Value) (cl : List (Str × Addr)) (outer : List Env) (A₀ : Around) (base h₀ : Heap) (L : Addr) (m : Str → Option Value) (s : Shared) (Q E : Value → Shared → Prop)
    (news : List (Addr × Obj))
    (B : Below A₀ base outer h₀) (F : Fr h₀ L s.heap m) (X : (Mine.hd.heap_1 w.params).In h₀) (N : News h₀ L s.heap news) (T : Top p loose mean mg mb h₀) (hk : cs.kind = .function)
    (hb : KBw.bInts b = ks) (hlen : ks.length ≤ 40) (hpa : IsTup s.heap pa [Value.int k tk, Value.int c tc].toArray) (hk0 : 0 ≤ k) (hk1 : k < (ks.length : Int)) (hc0 : 0 ≤ c) (hc1 : c < 256)
    (hd : dp + 1 < recursionLimit) (hu : un + 8 < cLine)
    (hret : ∀ (ob : Array UInt8) (t : Tok) (h' : Heap) (tk' : Nat), Fr h₀ L h' m → News h₀ L h' news → KBw.bInts ob = ks.set k.toNat c → Q (.bytes ob t) { s with heap := h', toks := tk' }) :
      wpAny (model prog w) (ktrTop dp un gd cn cs L a ccd cl outer) (call (.ref 140) [.bytes b tb, .ref pa]) Q E s := by
  k_with_none
  refine wpAny_call ?_
  k_dflt (refine' enterE ?k1 ?k2 ?k3 ?k5 ?kA ?kF ?kK ?k6 ?k7 ?k8 ?k9 ?kB ?_ ?c2 ?c3 ?c4 ?c5; (case kA => exact rfl); (case kF => exact rfl); (case kK => assumption); (case k1 => k_asm); (case k2 => k_asm); (case k3 => k_asm);  (case k5 => k_asm); (case k6 => k_is); (case k7 => k_is); (case k8 => ktr_room); (case k9 => first | exact BindsTo.of_eq rfl | exact binds_K (by k_in) rfl (by k_is) rfl rfl rfl); (case c5 => decide); (case kB => exact locs rfl); (case c2 => exact rfl); (case c3 => exact rfl); (case c4 => exact rfl); k_whole; intro L' h' F' N' B' X' T'; (try dsimp only); (try k_fold))
  k_steps
  rename_i hb9 _ _ _ _ _ _ _ _ _ _ _ _ hB kF kN _ _
  rename Fr s.heap _ _ _ => kF'
  refine hret _ _ _ _ kF (skip1 (back F N kF' kN)) ?_
  rw [hB, put_eq hk0 hk1, List.map_cons, List.map_nil]
  rw [show ((c.toNat.toUInt8.toNat : Nat) : Int) = c by assumption]
end Mine


end QPut
section QIter
example : True := by
  w_top off
  trivial
open PySem PySem.W PyProof.Rows PySem.Calls PySem.Spec
set_option Elab.async false
set_option maxRecDepth 100000
set_option maxHeartbeats 8000000
set_option pp.deepTerms false
set_option pp.deepTerms.threshold 4
set_option linter.unusedVariables false
namespace Mine
section
variable {prog : Program} {w : World} {A : Around} {E : Value → Shared → Prop} {s : Shared} {env : Env} {h₀ : Heap} {x : Str} {body : List Stmt} {Q : Flow → Shared → Prop}
/-- a loop over a list of the ground, whatever it holds -/
theorem iterV {l : Addr} {vs : List Value} {m₀ : Str → Option Value} {news : List (Addr × Obj)} (J : Nat → (Str → Option Value) → List (Addr × Obj) → Prop)
    (hh : A.handled = none) (hl : h₀.IsList l vs.toArray) (F : Fr h₀ env.locals s.heap m₀) (N : News h₀ env.locals s.heap news) (hj : J 0 m₀ news)
    (turn : ∀ i v m₁ news₁ h tk own, vs[i]? = some v → OwnOff own (news₁.map (·.1)) → J i m₁ news₁ → Fr h₀ env.locals h (fun y => if y = x then some v else m₁ y) → News h₀ env.locals h (news₁ ++ own) →
      wpAny (model prog w) A (execs body env) (InvPostG h₀ env.locals (J (i + 1)) own { s with heap := h, toks := tk } Q) E { s with heap := h, toks := tk })
    (done : ∀ m₁ news₁ h tk, J vs.length m₁ news₁ → Fr h₀ env.locals h m₁ → News h₀ env.locals h news₁ → Q .next { s with heap := h, toks := tk }) :
    wpAny (model prog w) A (pyIter (.ref l)) (fun it s₂ => LoopAtV prog w A h₀ env x body Q E it s₂) E s := by
  have hls : s.heap.IsList l vs.toArray := hl.at fun o e => F.keep l o e
  obtain ⟨ol, hol, _⟩ := id hl
  have hlt : l < h₀.objs.size := Heap.lt_size hol
  have hne : l ≠ s.heap.objs.size := Nat.ne_of_lt (Nat.lt_trans (Nat.lt_of_lt_of_le hlt F.above) F.ns.lt)
  refine wpAny_pyIter_list hls ?_
  have W := Walks.list (prog := prog) (w := w) hh s.heap.objs.size l hne vs.toArray
  rw [show vs.toArray.size = vs.length by simp] at W
  refine ⟨_, _, _, vs.length, _, _, m₀, news, J, rfl, W, ?_, ?_, ?_, ⟨⟨_, Heap.get?_push_size _ rfl, rfl, rfl⟩, hls.at fun o e => Heap.get?_push_of_some _ e⟩, F.push _, (fun p hp => ⟨Heap.get?_push_of_some _ (N p hp).1, (N p hp).2⟩), hj, ?_, ?_⟩
  · intro hm
    rcases List.mem_cons.mp hm with e | hm
    · exact absurd F.ns.lt (e ▸ Nat.lt_irrefl _)
    · exact absurd (Nat.lt_of_lt_of_le hlt F.above) ((List.mem_singleton.mp hm) ▸ Nat.lt_irrefl _)
  · intro b hb
    rw [List.mem_singleton.mp hb]
    exact next_is_new F
  · intro p hp hI
    exact absurd (Heap.lt_size (N p hp).1) ((List.mem_singleton.mp hI) ▸ Nat.lt_irrefl _)
  · rintro i v m₁ news₁ s₁ own ⟨hh', tk', rfl⟩ hin hP hJ hoff hown _ hfp hst F₁ N₁
    have hI0 : h₀.get? s.heap.objs.size = none := next_is_new F
    obtain ⟨⟨oI, hoI, _⟩, _⟩ := id hst
    have hIown : (s.heap.objs.size, oI) ∈ own := hfp _ (List.mem_cons.mpr (.inl rfl)) hI0 _ hoI
    have hsep : OwnOff own (news₁.map (·.1)) := by
      intro p hp b hb e
      obtain ⟨q, hq, rfl⟩ := List.mem_map.mp hb
      rcases List.mem_cons.mp (hown p hp) with h1 | h1
      · exact hoff q hq (List.mem_singleton.mpr (e ▸ h1))
      · have h3 := (N₁ q (List.mem_append.mpr (.inr hq))).2.2
        rw [← e, List.mem_singleton.mp h1, hol] at h3
        cases h3
    have N₂ : News h₀ env.locals hh' (news₁ ++ own) := fun p hp => N₁ p ((List.mem_append.mp hp).elim (fun h => List.mem_append.mpr (.inr h)) fun h => List.mem_append.mpr (.inl h))
    refine wpAny_mono (turn i v m₁ news₁ hh' tk' own (by simpa using hP) hsep hJ F₁ N₂) (fun f s₂ p => ?_) fun _ _ e => e
    have fin : InvEndG h₀ env.locals (J (i + 1)) own { s with heap := hh', toks := tk' } s₂ → LoopStepU h₀ env.locals [s.heap.objs.size] own (J (i + 1)) { s with heap := hh', toks := tk' } .next s₂ := by
      rintro ⟨h', tk, m', news', nx, e, F', N', hn, ho, ha, hm⟩
      refine ⟨rfl, h', tk, m', nx, e, F', fun p hp => N' p ((List.mem_append.mp hp).elim (ho p) (hn p)), fun p hp hq => ?_, hm⟩
      exact ha _ hIown p.1 (List.mem_map.mpr ⟨p, hp, rfl⟩) (List.mem_singleton.mp hq).symm
    cases f with
    | ret v => exact .ret p
    | brk => exact .brk p
    | next => exact .next (fin p)
    | cont => exact .cont (fin p)
  · rintro h' tk m' news' F' N' _ hJ
    exact done m' news' h' tk hJ F' N'
end
/-- a list's items are pairs of ints -/
structure PairsAre (h : Heap) (vs : List Value) (ps : List (Int × Int)) : Prop where
  len : vs.length = ps.length
  get : ∀ (i : Nat) (p : Int × Int), ps[i]? = some p → ∃ a t u, vs[i]? = some (.ref a) ∧ IsTup h a [Value.int p.1 t, Value.int p.2 u].toArray
theorem PairsAre.keeps {h h' : Heap} {vs : List Value} {ps : List (Int × Int)} (P : PairsAre h vs ps) (k : ∀ b o, h.get? b = some o → h'.get? b = some o) : PairsAre h' vs ps :=
  ⟨P.len, fun i p hp => let ⟨a, t, u, e, hT⟩ := P.get i p hp; ⟨a, t, u, e, IsTup.keeps hT k⟩⟩
/-- a list's items are bytes -/
inductive BytesAre : List Value → List (List Int) → Prop
  | nil : BytesAre [] []
  | cons {b : Array UInt8} {t : Tok} {ks : List Int} {vs : List Value} {kss : List (List Int)} : KBw.bInts b = ks → BytesAre vs kss → BytesAre (.bytes b t :: vs) (ks :: kss)
theorem BytesAre.length {vs : List Value} {kss : List (List Int)} (h : BytesAre vs kss) : vs.length = kss.length := by
  induction h with
  | nil => rfl
  | cons _ _ ih => simp [ih]
theorem BytesAre.append {vs ws : List Value} {kss lss : List (List Int)} (h : BytesAre vs kss) (k : BytesAre ws lss) : BytesAre (vs ++ ws) (kss ++ lss) := by
  induction h with
  | nil => exact k
  | cons e _ ih => exact .cons e ih
theorem BytesAre.get {vs : List Value} {kss : List (List Int)} (h : BytesAre vs kss) : ∀ (i : Nat) (ks : List Int), kss[i]? = some ks → ∃ b t, vs[i]? = some (.bytes b t) ∧ KBw.bInts b = ks := by
  induction h with
  | nil => intro i ks e; simp at e
  | cons e _ ih =>
    intro i ks hi
    cases i with
    | zero => simp at hi; exact ⟨_, _, rfl, by rw [e, hi]⟩
    | succ i => exact ih i ks (by simpa using hi)
def lastOf (ks : List Int) (ps : List (Int × Int)) : List Int := ps.foldl (fun ks p => ks.set p.1.toNat p.2) ks
/-- the texts on the way, one more sign put each time -/
def textsOf (ks : List Int) (ps : List (Int × Int)) : List (List Int) := (List.range (ps.length + 1)).map fun j => lastOf ks (ps.take j)
theorem lastOf_snoc (ks : List Int) (ps : List (Int × Int)) (p : Int × Int) : lastOf ks (ps ++ [p]) = (lastOf ks ps).set p.1.toNat p.2 := by simp [lastOf]
theorem lastOf_length (ks : List Int) (ps : List (Int × Int)) : (lastOf ks ps).length = ks.length := by
  induction ps generalizing ks with
  | nil => rfl
  | cons p ps ih => simpa [lastOf] using ih (ks.set p.1.toNat p.2)
theorem textsOf_snoc (ks : List Int) (ps : List (Int × Int)) (p : Int × Int) : textsOf ks (ps ++ [p]) = textsOf ks ps ++ [lastOf ks (ps ++ [p])] := by
  unfold textsOf
  rw [List.length_append, List.length_singleton, List.range_succ, List.map_append]
  congr 1
  · apply List.map_congr_left
    intro j hj
    rw [List.take_append_of_le_length (by have := List.mem_range.mp hj; omega)]
  · rw [List.map_singleton, List.take_of_length_le (by simp)]
end Mine


end QIter
section QTexts
example : True := by
  w_top off
  trivial
open PySem PySem.W PyProof.Rows PySem.Calls PySem.Spec
set_option Elab.async false
set_option maxRecDepth 100000
set_option maxHeartbeats 8000000
set_option pp.deepTerms false
set_option pp.deepTerms.threshold 4
set_option linter.unusedVariables false
namespace Mine
example : (fun (_ : OpenLaw) (_ : PySem.Params → Frag) => True) PySem.Challenge.rw_qh0117_01 Mine.hd.heap_1 := by
  k_fill
  trivial
section
variable {prog : Program} {w : World} {A : Around} {E : Value → Shared → Prop} {s : Shared} {h₀ : Heap} {L l : Addr} {news : List (Addr × Obj)} {value slice : PySem.Expr} {tv : List Value} {x : Value} {n : Nat} {u : Tok} {Q : Value → Shared → Prop}
theorem last_item (N : News h₀ L s.heap news) (hm : (l, listOf (tv ++ [x]).toArray n) ∈ news) (h : Q x s)
    (hs : subscripted slice false (.ref l) (.int (-1) u) = operate [.ref l, .int (-1) u] (getItem (.ref l) (.int (-1) u)) := by with_unfolding_all rfl) :
    wpAny (model prog w) A (subscriptTail value slice (.ref l) (.int (-1) u)) Q E s := by
  have hl := News.isList N hm
  refine tail_any hl.typeIs slot_list_getitem.lookup (wpAny_getItem_list_neg hl (by decide) ?_ (by decide) ?_ h) hs
  · simp; omega
  · have e : (-1 + (((tv ++ [x]).toArray.size : Nat) : Int)).toNat = tv.length := by simp; omega
    rw [e]; simp
end
local macro_rules | `(tactic| walk_at "subscriptTail") => `(tactic| ((with_reducible show wpAny _ _ (subscriptTail _ _ (Value.ref _) (Value.int _ _)) _ _ _); refine last_item (by k_asm) (by k_mem) ?_))
variable {prog : Program} {w : World} {p : Program} {loose : List Str} {mean : ExcName → Option Value} {mg mb : Str → Option Value}
local macro_rules | `(tactic| walk_at "call ref") => `(tactic| ((with_reducible show wpAny _ _ (call (Value.ref 140) _ _) _ _ _); k_dflt (refine' c_put _ _ _ _ _ _ _ _ _ _ _ _ _ _ _ _ _ _ ?k1 ?k2 ?k3 ?k4 ?k5 ?kK ?e0 ?e1 ?e2 ?e3 ?e4 ?e5 ?e6 ?kd ?ku ?_; (case k1 => k_asm); (case k2 => k_asm); (case k3 => k_asm); (case k4 => k_asm); (case k5 => k_asm); (case kK => first | exact rfl | assumption); (case e0 => assumption); (case e1 => assumption); (case e2 => exact IsTup.keeps (by assumption) (Fr.keep (by k_asm))); (case e3 => assumption); (case e4 => assumption); (case e5 => assumption); (case e6 => assumption); (case kd => ktr_room); (case ku => ktr_units); intro ob9 t9 h9 tk9 F9 N9 hb9; (try dsimp only); (try k_sweep); (try k_fold))))
theorem c_texts {b : Array UInt8} {ks : List Int} {tb : Tok} {lp : Addr} {vp : List Value} {ps : List (Int × Int)} (dp un : Nat) (gd : Option (List Code)) (cn : Str) (cs : Scope) (a : Addr) (ccd : Value) (cl : List (Str × Addr)) (outer : List Env) (A₀ : Around) (base h₀ : Heap) (L : Addr) (m : Str → Option Value) (s : Shared) (Q E : Value → Shared → Prop)
    (news : List (Addr × Obj))
    (B : Below A₀ base outer h₀) (F : Fr h₀ L s.heap m) (X : (Mine.hd.heap_1 w.params).In h₀) (N : News h₀ L s.heap news) (T : Top p loose mean mg mb h₀) (hk : cs.kind = .function)
    (hb : KBw.bInts b = ks) (hlen : ks.length ≤ 40) (hlp : s.heap.IsList lp vp.toArray) (hP : PairsAre s.heap vp ps) (hin : ∀ p ∈ ps, 0 ≤ p.1 ∧ p.1 < (ks.length : Int) ∧ 0 ≤ p.2 ∧ p.2 < 256) (hpl : ps.length ≤ 40)
    (hd : dp + 3 < recursionLimit) (hu : un + 16 < cLine)
    (hret : ∀ (l : Addr) (vt : List Value) (n : Nat) (h' : Heap) (tk' : Nat), Fr h₀ L h' m → News h₀ L h' ((l, listOf vt.toArray n) :: news) → BytesAre vt (textsOf ks ps) → Q (.ref l) { s with heap := h', toks := tk' }) :
      wpAny (model prog w) (ktrTop dp un gd cn cs L a ccd cl outer) (call (.ref 147) [.bytes b tb, .ref lp]) Q E s := by
  k_with_none
  k_with "pyIter ref" => fail "mine"
  refine wpAny_call ?_
  k_dflt (refine' enterE ?k1 ?k2 ?k3 ?k5 ?kA ?kF ?kK ?k6 ?k7 ?k8 ?k9 ?kB ?_ ?c2 ?c3 ?c4 ?c5; (case kA => exact rfl); (case kF => exact rfl); (case kK => assumption); (case k1 => k_asm); (case k2 => k_asm); (case k3 => k_asm);  (case k5 => k_asm); (case k6 => k_is); (case k7 => k_is); (case k8 => ktr_room); (case k9 => first | exact BindsTo.of_eq rfl | exact binds_K (by k_in) rfl (by k_is) rfl rfl rfl); (case c5 => decide); (case kB => exact locs rfl); (case c2 => exact rfl); (case c3 => exact rfl); (case c4 => exact rfl); k_whole; intro L' h' F' N' B' X' T'; (try dsimp only); (try k_fold))
  repeat' ((fail_if_success (with_reducible show wpAny _ _ (pyIter (Value.ref _)) _ _ _)); first | (k_unfold; (try dsimp only)) | (k_end; wrow_close) | walk1 | (dsimp only; walk1) | (leave1; walk_say "STEP leave1"; try dsimp only) | fail "no step")
  rename Fr _ _ _ _ => lF
  rename News _ _ _ _ => lN
  rename_i l9 h9 l19 hh
  obtain ⟨m₀, hm0, lF⟩ : ∃ m₀, m₀ (Str.ofString "texts") = some (.ref l9) ∧ Fr s.heap L' hh m₀ := ⟨_, rfl, lF⟩
  refine iterV (m₀ := m₀) (fun i m nx => ∃ tv b t nn, nx = [(l9, listOf (tv ++ [.bytes b t]).toArray nn)] ∧ BytesAre (tv ++ [.bytes b t]) (textsOf ks (ps.take i)) ∧ KBw.bInts b = lastOf ks (ps.take i) ∧ tv.length ≤ i ∧ ∀ z, z ≠ Str.ofString "pair" → m z = m₀ z) rfl hlp lF lN ⟨[], b, tb, 0, rfl, .cons hb .nil, hb, Nat.le_refl _, fun _ _ => rfl⟩ ?_ ?_
  · rintro i v m₁ nx h tk own hv hoff ⟨tv, b1, t1, nn, rfl, hB, hb1, htv, hm⟩ F₁ N₁
    clear lF lN
    have hi : i < ps.length := by
      rw [← hP.len]
      exact (List.getElem?_eq_some_iff.mp hv).1
    obtain ⟨a, t, u, e, hT⟩ := hP.get i ps[i] (List.getElem?_eq_getElem hi)
    rw [hv] at e
    cases e
    have hp := hin ps[i] (List.getElem_mem hi)
    have e2 : ps.take (i + 1) = ps.take i ++ [ps[i]] := by rw [List.take_add_one, List.getElem?_eq_getElem hi]; rfl
    have hlk : (lastOf ks (ps.take i)).length = ks.length := lastOf_length _ _
    generalize hkk : lastOf ks (ps.take i) = kk at *
    obtain ⟨hp0, hp1, hp2, hp3⟩ := hp
    rw [← hlk] at hp1 hlen
    simp only [List.cons_append, List.nil_append, List.map_cons, List.map_nil] at N₁ hoff
    replace F₁ := say F₁ (x := Str.ofString "texts") (v := .ref l9) ((if_neg (by decide)).trans ((hm _ (by decide)).trans hm0))
    k_steps
    rename News _ _ _ _ => qN
    rename Fr _ _ _ _ => qF
    rename (KBw.bInts _ = kk.set _ _) => hbX
    simp only [List.push_toArray] at qN
    rename Array UInt8 => obX
    rename Heap => hX
    obtain ⟨tX, qN⟩ : ∃ tX : Tok, News s.heap L' hX ((l9, listOf ((tv ++ [Value.bytes b1 t1]) ++ [Value.bytes obX tX]).toArray (nn + 1)) :: own) := ⟨_, qN⟩
    refine InvEndG.intro qF qN (nx := [(l9, listOf ((tv ++ [Value.bytes b1 t1]) ++ [Value.bytes obX tX]).toArray (nn + 1))]) ⟨tv ++ [.bytes b1 t1], obX, tX, nn + 1, rfl, ?_, ?_, ?_, ?_⟩ ?_ ?_ ?_
    · rw [e2, textsOf_snoc, lastOf_snoc, hkk]
      exact BytesAre.append hB (.cons hbX .nil)
    · rw [e2, lastOf_snoc, hkk]; exact hbX
    · simp; omega
    · intro z hz
      show (if z = _ then _ else if z = _ then _ else _) = _
      by_cases h1 : z = Str.ofString "texts"
      · rw [if_pos h1, h1, hm0]
      · rw [if_neg h1, if_neg hz]; exact hm z hz
    · exact hoff
    · intro q hq; rw [List.mem_singleton.mp hq]; exact .head _
    · intro q hq; exact .tail _ hq
  · rintro m₁ nx h tk ⟨tv, b1, t1, nn, rfl, hB, hb1, htv, hm⟩ F₁ N₁
    clear lF lN
    replace F₁ := say F₁ (x := Str.ofString "texts") (v := .ref l9) ((hm _ (by decide)).trans hm0)
    rw [hP.len, List.take_length] at hB
    k_steps
    rename_i kF kN _ _
    exact hret _ _ _ _ _ kF (back F N F₁ kN) hB
end Mine


end QTexts
section QPairs
example : True := by
  w_top off
  trivial
open PySem PySem.W PyProof.Rows PySem.Calls PySem.Spec
set_option Elab.async false
set_option maxRecDepth 100000
set_option maxHeartbeats 8000000
set_option pp.deepTerms false
set_option pp.deepTerms.threshold 4
set_option linter.unusedVariables false
namespace Mine
example : (fun (_ : OpenLaw) (_ : PySem.Params → Frag) => True) PySem.Challenge.rw_qh0117_01 Mine.hd.heap_1 := by
  k_fill
  trivial
section
variable {prog : Program} {w : World} {A : Around} {s : Shared} {h₀ : Heap} {L : Addr} {m : Str → Option Value} {env : Env}
/-- a comprehension by what holds of the items made so far -/
theorem compRest_of {elt : PySem.Expr} {x : Str} {scope : Scope} {cl : List (Str × Addr)} {S : List (Addr × Obj) → Prop} {P : Nat → Value → Prop} {Fin : List Value → List (Addr × Obj) → Prop} (n : Nat) (Good : Nat → List Value → List (Addr × Obj) → Prop)
    (step : ∀ i ys news v I oI C oC D m₂ h tk (E' : Value → Shared → Prop), i < n → Good i ys news → P i v → LCg.NsObj oC m₂ → m₂ x = some v → Fr h₀ L h m → News h₀ L h ((I, oI) :: (C, oC) :: (D, LCg.lst ys) :: news) → LCg.Off3 I C D news → ((@Ne Nat I C) ∧ (@Ne Nat I D) ∧ (@Ne Nat C D)) →
      wpAny (model prog w) A (eval elt (compEnvC scope cl C env)) (LCg.CompEnd h₀ L m { s with heap := h, toks := tk } I oI C oC D (LCg.lst ys) S (fun y news' => Good (i + 1) (ys ++ [y]) news')) E' { s with heap := h, toks := tk })
    (fin : ∀ ys news, Good n ys news → Fin ys news) : ∀ (k i : Nat) (ys : List Value) (news : List (Addr × Obj)), i + k = n → Good i ys news → LCg.CompRest prog w A h₀ L m env elt x scope cl s S P Fin k i ys news := by
  intro k
  induction k with
  | zero =>
    intro i ys news e g
    have e' : i = n := by omega
    subst e'
    exact LCg.CompRest.zero (fin ys news g)
  | succ k ih =>
    intro i ys news e g
    refine LCg.CompRest.succ fun v I oI C oC D m₂ h tk E' hP hC hx F N off hne => ?_
    refine wpAny_mono (step i ys news v I oI C oC D m₂ h tk E' (by omega) g hP hC hx F N off hne) (fun y s₂ q => ?_) fun _ _ z => z
    obtain ⟨h', tk', news', e1, F', N', off', hS, r⟩ := q
    exact ⟨h', tk', news', e1, F', N', off', hS, ih (i + 1) (ys ++ [y]) news' (by omega) r⟩
end
/-- a ledger bears a list's items as pairs of ints -/
structure PairsIn (news : List (Addr × Obj)) (vs : List Value) (ps : List (Int × Int)) : Prop where
  len : vs.length = ps.length
  get : ∀ (i : Nat) (p : Int × Int), ps[i]? = some p → ∃ a t u, vs[i]? = some (.ref a) ∧ (a, ({ cls := .type "tuple", data := .seq [Value.int p.1 t, Value.int p.2 u].toArray } : Obj)) ∈ news
theorem PairsIn.nil {news : List (Addr × Obj)} : PairsIn news [] [] := ⟨rfl, fun i p h => by simp at h⟩
theorem PairsIn.snoc {news : List (Addr × Obj)} {vs : List Value} {ps : List (Int × Int)} (h : PairsIn news vs ps) {a : Addr} {k c : Int} {t u : Tok} :
    PairsIn ((a, ({ cls := .type "tuple", data := .seq [Value.int k t, Value.int c u].toArray } : Obj)) :: news) (vs ++ [.ref a]) (ps ++ [(k, c)]) := by
  refine ⟨by simp [h.len], fun i p hp => ?_⟩
  by_cases hi : i < ps.length
  · rw [List.getElem?_append_left hi] at hp
    obtain ⟨a', t', u', e, hm⟩ := h.get i p hp
    exact ⟨a', t', u', by rw [List.getElem?_append_left (by rw [h.len]; exact hi)]; exact e, .tail _ hm⟩
  · have hi' : i = ps.length := by
      have := (List.getElem?_eq_some_iff.mp hp).1
      simp at this; omega
    subst hi'
    simp at hp
    subst hp
    exact ⟨a, t, u, by rw [← h.len]; simp, .head _⟩
theorem PairsIn.are {h₀ h : Heap} {L : Addr} {news : List (Addr × Obj)} {vs : List Value} {ps : List (Int × Int)} (P : PairsIn news vs ps) (N : News h₀ L h news) : PairsAre h vs ps :=
  ⟨P.len, fun i p hp => let ⟨a, t, u, e, hm⟩ := P.get i p hp; ⟨a, t, u, e, News.isTup N hm⟩⟩
local macro_rules | `(tactic| walk_at "subscriptTail") => `(tactic| ((with_reducible show wpAny _ _ (subscriptTail _ _ (Value.bytes _ _) (Value.int _ _)) _ _ _); (refine b64_item (by decide +kernel) ?h1 ?h2 ?_); (case h1 => omega); (case h2 => omega); intro _ _))
variable {prog : Program} {w : World} {p : Program} {loose : List Str} {mean : ExcName → Option Value} {mg mb : Str → Option Value}
theorem c_pairs {lf lp : Addr} {vf vp : List Value} {fs ps : List Int} (dp un : Nat) (gd : Option (List Code)) (cn : Str) (cs : Scope) (a : Addr) (ccd : Value) (cl : List (Str × Addr)) (outer : List Env) (A₀ : Around) (base h₀ : Heap) (L : Addr) (m : Str → Option Value) (s : Shared) (Q E : Value → Shared → Prop)
    (news : List (Addr × Obj))
    (B : Below A₀ base outer h₀) (F : Fr h₀ L s.heap m) (X : (Mine.hd.heap_1 w.params).In h₀) (N : News h₀ L s.heap news) (T : Top p loose mean mg mb h₀) (hk : cs.kind = .function)
    (hlf : s.heap.IsList lf vf.toArray) (hif : IntsAre vf fs) (hlp : s.heap.IsList lp vp.toArray) (hip : IntsAre vp ps) (hfl : fs.length ≤ 16) (hf : Fig fs) (hin : ∀ k ∈ ps, 0 ≤ k ∧ k < (fs.length : Int)) (hpl : ps.length ≤ 16)
    (hd : dp + 2 < recursionLimit) (hu : un + 16 < cLine)
    (hret : ∀ (l : Addr) (vt : List Value) (n : Nat) (new : List (Addr × Obj)) (h' : Heap) (tk' : Nat), Fr h₀ L h' m → News h₀ L h' ((l, listOf vt.toArray n) :: (new ++ news)) → PairsIn new vt (ps.map fun k => (k, b64c (fs.getD k.toNat 0))) → Q (.ref l) { s with heap := h', toks := tk' }) :
      wpAny (model prog w) (ktrTop dp un gd cn cs L a ccd cl outer) (call (.ref 133) [.ref lf, .ref lp]) Q E s := by
  k_with_none
  refine wpAny_call ?_
  k_dflt (refine' enterEC ?k1 ?k2 ?k3 ?k5 ?kA ?kF ?kK ?k6 ?k7 ?k8 ?k9 ?kB ?kD ?_ ?c2 ?c3 ?c4; (case kA => exact rfl); (case kF => exact rfl); (case kK => assumption); (case k1 => k_asm); (case k2 => k_asm); (case k3 => k_asm);  (case k5 => k_asm); (case k6 => k_is); (case k7 => k_is); (case k8 => ktr_room); (case k9 => exact BindsTo.of_eq rfl); (case kB => exact rfl); (case kD => decide +kernel); (case c2 => exact rfl); (case c3 => exact rfl); (case c4 => exact rfl); k_whole; intro L' h' tk' cells' F' N' Y' B' X' T'; (try dsimp only); k_cells Y'; (try k_fold))
  repeat' ((fail_if_success (with_reducible show wpAny _ _ (eval (PySem.Expr.ListComp _ _ _ _) _) _ _ _)); first | (k_unfold; (try dsimp only)) | (k_end; wrow_close) | walk1 | (dsimp only; walk1) | (leave1; walk_say "STEP leave1"; try dsimp only) | fail "no step")
  rename Fr _ _ _ _ => lF
  rename News _ _ _ _ => lN
  rename_i o1 oF dA dF hh oA dA'
  obtain ⟨tA, hA⟩ : ∃ tA : Tok, oA.data = Data.cell (some (Value.bytes _ tA)) := ⟨_, dA'⟩
  have hFc : oF.data = Data.cell (some (Value.ref lf)) := dF
  have lN2 : News s.heap L' hh [(L' + 1 + 1, oA), (L' + 1, oF)] := lN
  obtain ⟨m₀, hm0, lF⟩ : ∃ m₀, m₀ (Str.ofString "places") = some (.ref lp) ∧ Fr s.heap L' hh m₀ := ⟨_, rfl, lF⟩
  replace lF := say lF hm0
  clear lN dA' dF dA
  k_dflt (refine LCg.ListComp_U (F₀ := by k_asm) (by rfl) (by decide) (by rfl) (by decide) (by rfl) ?_)
  walk1
  have hvl : vp.length = ps.length := IntsAre.length hip
  refine LCg.CompSrc.base rfl lF lN2 hlp (by simp [hvl]; rw [sizeLine_eq]; omega) (fun g => compRest_of vp.toArray.size (fun i ys nw => ∃ new, nw = (L' + 1 + 1, oA) :: (L' + 1, oF) :: new ∧ PairsIn new ys ((ps.take i).map fun k => (k, b64c (fs.getD k.toNat 0)))) ?_ ?_ vp.toArray.size 0 [] _ (by omega) ⟨[], rfl, by simpa using PairsIn.nil⟩)
  · rintro i ys nw v I oI C oC D m₂ h tk E' hi ⟨new, rfl, hP⟩ hv hC hx F₁ N₁ off hne
    have hil : i < ps.length := by simpa [hvl] using hi
    obtain ⟨t, hvt⟩ := hip.get i ps[i] (List.getElem?_eq_getElem hil)
    have hv' : v = .int ps[i] t := by
      have h1 : vp[i]? = some v := by simpa using hv
      rw [hvt] at h1; exact (Option.some.inj h1).symm
    subst hv'
    have hk := hin ps[i] (List.getElem_mem hil)
    have hfg := hf (fs.getD ps[i].toNat 0) (by rw [List.getD_eq_getElem?_getD, List.getElem?_eq_getElem (by omega)]; exact List.getElem_mem _)
    have e2 : ps.take (i + 1) = ps.take i ++ [ps[i]] := by rw [List.take_add_one, List.getElem?_eq_getElem hil]; rfl
    generalize ps[i] = k at *
    obtain ⟨hk0, hk1⟩ := hk
    obtain ⟨hg0, hg1⟩ := hfg
    clear lF lN2
    k_steps
    rename Fr _ _ _ _ => qF
    rename News _ _ _ _ => qN
    rename_i t8 t9 k9 D9 h9 l1
    refine LCg.CompEnd.intro qF qN ((L' + 1 + 1, oA) :: (L' + 1, oF) :: (D9, ({ cls := .type "tuple", data := .seq [Value.int k t, Value.int (b64c (fs.getD k.toNat 0)) t9].toArray } : Obj)) :: new) ?_ ?_ (.inl hlp) ⟨_, rfl, ?_⟩
    · intro q hq
      simp only [List.mem_cons] at hq ⊢
      rcases hq with hq | hq | hq | hq | hq | hq | hq <;> simp [hq]
    · exact ⟨off.1, off.2.1, ⟨by omega, by omega, by omega⟩, off.2.2⟩
    · rw [e2, List.map_append]
      exact hP.snoc
  · rintro ys nw ⟨new, rfl, hP⟩
    simp only [List.size_toArray, hvl, List.take_length] at hP
    unfold LCg.FinE
    intro D h tk F₁ N₁ _
    dsimp only
    clear lF lN2
    k_steps
    rename_i kF kN _ _
    refine hret D ys ys.length new _ _ kF (cb_drop (back F N F₁ kN) ?_) hP
    intro q hq
    simp only [List.mem_cons, List.mem_append, List.cons_append] at hq ⊢
    rcases hq with hq | hq | hq <;> simp [hq]
end Mine


end QPairs
section QMath
example : True := by
  w_top off
  trivial
open PySem PySem.W PyProof.Rows PySem.Calls PySem.Spec
set_option Elab.async false
set_option linter.unusedVariables false
namespace Mine
/-- the figures of a row, three octets at a time -/
def figR : List Int → List Int
  | a :: b :: c :: r => a / 4 :: (a % 4 * 16 + b / 16) :: (b % 16 * 4 + c / 64) :: c % 64 :: figR r
  | [a, b] => [a / 4, a % 4 * 16 + b / 16, b % 16 * 4]
  | [a] => [a / 4, a % 4 * 16]
  | [] => []
def padR : List Int → Nat
  | _ :: _ :: _ :: r => padR r
  | [_, _] => 1
  | [_] => 2
  | [] => 0
theorem Oct.head {a : Int} {l : List Int} (h : Oct (a :: l)) : 0 ≤ a ∧ a < 256 := h a (by simp)
theorem Oct.tail {a : Int} {l : List Int} (h : Oct (a :: l)) : Oct l := fun x hx => h x (by simp [hx])
theorem fig_len : ∀ l : List Int, (figR l).length = (l.length * 4 + 2) / 3
  | a :: b :: c :: r => by simp only [figR, List.length_cons, fig_len r]; omega
  | [a, b] => by simp [figR]
  | [a] => by simp [figR]
  | [] => rfl
theorem fig_in : ∀ l : List Int, Oct l → Fig (figR l)
  | a :: b :: c :: r, h => by
    have ha := h.head
    have hb := h.tail.head
    have hc := h.tail.tail.head
    have ih := fig_in r h.tail.tail.tail
    intro x hx
    simp only [figR, List.mem_cons] at hx
    rcases hx with rfl | rfl | rfl | rfl | hx
    · omega
    · omega
    · omega
    · omega
    · exact ih x hx
  | [a, b], h => by
    have ha := h.head
    have hb := h.tail.head
    intro x hx
    simp only [figR, List.mem_cons, List.not_mem_nil, or_false] at hx
    omega
  | [a], h => by
    have ha := h.head
    intro x hx
    simp only [figR, List.mem_cons, List.not_mem_nil, or_false] at hx
    omega
  | [], _ => fun _ h => nomatch h
theorem pad_ok : ∀ l : List Int, padOk (figR l).length (padR l)
  | a :: b :: c :: r => by
    have ih := pad_ok r
    unfold padOk at *
    simp only [figR, padR, List.length_cons]
    omega
  | [a, b] => .inr (.inr ⟨rfl, rfl⟩)
  | [a] => .inr (.inl ⟨rfl, rfl⟩)
  | [] => .inl ⟨rfl, rfl⟩
theorem pad_len : ∀ k l : List Int, k.length = l.length → padR k = padR l
  | _ :: _ :: _ :: r, _ :: _ :: _ :: r', h => by simp only [padR]; exact pad_len r r' (by simpa using h)
  | [_, _], [_, _], _ => rfl
  | [_], [_], _ => rfl
  | [], [], _ => rfl
  | [], _ :: _, h => by simp at h
  | _ :: _, [], h => by simp at h
  | [_], _ :: _ :: _, h => by simp at h
  | _ :: _ :: _, [_], h => by simp at h
  | [_, _], _ :: _ :: _ :: _, h => by simp at h
  | _ :: _ :: _ :: _, [_, _], h => by simp at h
theorem enc0 (lc n : Int) (out : List Int) : encStep (0, lc, out) n = (2, (lc * 2 ^ 8 + n) % 65536, out ++ [b64c ((lc * 2 ^ 8 + n) % 65536 / 2 ^ 2 % 64)]) := by simp [encStep]
theorem enc2 (lc n : Int) (out : List Int) : encStep (2, lc, out) n = (4, (lc * 2 ^ 8 + n) % 65536, out ++ [b64c ((lc * 2 ^ 8 + n) % 65536 / 2 ^ 4 % 64)]) := by simp [encStep]
theorem enc4 (lc n : Int) (out : List Int) : encStep (4, lc, out) n = (0, (lc * 2 ^ 8 + n) % 65536, out ++ [b64c ((lc * 2 ^ 8 + n) % 65536 / 2 ^ 6 % 64)] ++ [b64c ((lc * 2 ^ 8 + n) % 65536 / 2 ^ 0 % 64)]) := by simp [encStep]
theorem enc_all : ∀ (l : List Int) (lc : Int) (out : List Int), Oct l → encFin (l.foldl encStep (0, lc, out)) = out ++ ((figR l).map b64c ++ List.replicate (padR l) 61)
  | a :: b :: c :: r, lc, out, h => by
    have ha := h.head
    have hb := h.tail.head
    have hc := h.tail.tail.head
    have ih := enc_all r
    rw [List.foldl_cons, List.foldl_cons, List.foldl_cons, enc0, enc2, enc4, ih _ _ h.tail.tail.tail]
    simp only [figR, padR, List.map_cons, List.append_assoc, List.cons_append, List.nil_append, Int.reducePow]
    congr 1
    congr 1
    · congr 1; omega
    · congr 1
      · congr 1; omega
      · congr 1
        · congr 1; omega
        · congr 1
          congr 1; omega
  | [a, b], lc, out, h => by
    have ha := h.head
    have hb := h.tail.head
    rw [List.foldl_cons, List.foldl_cons, List.foldl_nil, enc0, enc2]
    simp only [encFin, figR, padR, List.map_cons, List.map_nil, List.append_assoc, List.cons_append, List.nil_append, Int.reducePow, List.replicate, Int.reduceEq, if_false, if_true]
    congr 1
    congr 1
    · congr 1; omega
    · congr 1
      · congr 1; omega
      · congr 1
        congr 1; omega
  | [a], lc, out, h => by
    have ha := h.head
    rw [List.foldl_cons, List.foldl_nil, enc0]
    simp only [encFin, figR, padR, List.map_cons, List.map_nil, List.append_assoc, List.cons_append, List.nil_append, Int.reducePow, List.replicate, Int.reduceEq, if_false, if_true]
    congr 1
    congr 1
    · congr 1; omega
    · congr 1
      congr 1; omega
  | [], lc, out, h => by simp [encFin, figR, padR]
theorem enc_eq {l : List Int} (h : Oct l) : enc l = (figR l).map b64c ++ List.replicate (padR l) 61 := by
  have := enc_all l 0 [] h
  rw [List.nil_append] at this
  exact this
theorem dec0 (lc n : Int) (out : List Int) : decStep (0, lc, out) n = (1, n, out) := by simp [decStep]
theorem dec1 (lc n : Int) (out : List Int) : decStep (1, lc, out) n = (2, n % 16, out ++ [lc * 2 ^ 2 + n / 2 ^ 4]) := by simp [decStep]
theorem dec2 (lc n : Int) (out : List Int) : decStep (2, lc, out) n = (3, n % 4, out ++ [lc * 2 ^ 4 + n / 2 ^ 2]) := by simp [decStep]
theorem dec3 (lc n : Int) (out : List Int) : decStep (3, lc, out) n = (0, 0, out ++ [lc * 2 ^ 6 + n]) := by simp [decStep]
theorem dec_all : ∀ (l : List Int) (lc : Int) (out : List Int), Oct l → ((figR l).foldl decStep (0, lc, out)).2.2 = out ++ l
  | a :: b :: c :: r, lc, out, h => by
    have ha := h.head
    have hb := h.tail.head
    have hc := h.tail.tail.head
    have ih := dec_all r
    simp only [figR]
    rw [List.foldl_cons, List.foldl_cons, List.foldl_cons, List.foldl_cons, dec0, dec1, dec2, dec3, ih _ _ h.tail.tail.tail]
    simp only [List.append_assoc, List.cons_append, List.nil_append, Int.reducePow]
    congr 1
    congr 1
    · omega
    · congr 1
      · omega
      · congr 1
        omega
  | [a, b], lc, out, h => by
    have ha := h.head
    have hb := h.tail.head
    simp only [figR]
    rw [List.foldl_cons, List.foldl_cons, List.foldl_cons, List.foldl_nil, dec0, dec1, dec2]
    simp only [List.append_assoc, List.cons_append, List.nil_append, Int.reducePow]
    congr 1
    congr 1
    · omega
    · congr 1
      omega
  | [a], lc, out, h => by
    have ha := h.head
    simp only [figR]
    rw [List.foldl_cons, List.foldl_cons, List.foldl_nil, dec0, dec1]
    simp only [Int.reducePow]
    congr 1
    congr 1
    omega
  | [], lc, out, h => by simp [figR]
theorem dec_fig {l : List Int} (h : Oct l) : dec (figR l) = l := by
  have := dec_all l 0 [] h
  rw [List.nil_append] at this
  exact this
/-- one octet torn -/
def tornOne (x y bd : Int) : Int := y - y.fmod (2 ^ (tornE bd 0).toNat) + x.fmod (2 ^ (tornE bd 0).toNat)
def tornR : List Int → List Int → Int → List Int
  | x :: xs, y :: ys, bd => tornOne x y bd :: tornR xs ys (bd - 8)
  | _, _, _ => []
theorem tornE_shift (bd : Int) (i : Int) : tornE bd (i + 1) = tornE (bd - 8) i := by
  unfold tornE
  rw [show bd - 8 * (i + 1) = bd - 8 - 8 * i by omega]
theorem tornR_len : ∀ (xs ys : List Int) (bd : Int), xs.length = ys.length → (tornR xs ys bd).length = xs.length
  | x :: xs, y :: ys, bd, h => by simp only [tornR, List.length_cons]; rw [tornR_len xs ys _ (by simpa using h)]
  | [], [], _, _ => rfl
  | [], _ :: _, _, h => by simp at h
  | _ :: _, [], _, h => by simp at h
theorem tornAt_cons {x y : Int} {xs ys : List Int} {bd : Int} (i : Nat) : tornAt (x :: xs) (y :: ys) bd (0 + ((i + 1 : Nat) : Int)) = tornAt xs ys (bd - 8) (0 + (i : Int)) := by
  unfold tornAt
  have e1 : (0 + ((i + 1 : Nat) : Int)).toNat = i + 1 := by omega
  have e2 : (0 + (i : Int)).toNat = i := by omega
  have e3 : tornE bd (0 + ((i + 1 : Nat) : Int)) = tornE (bd - 8) (0 + (i : Int)) := by
    rw [← tornE_shift]; congr 1
  rw [e1, e2, e3]
  simp
theorem torn_eq : ∀ (xs ys : List Int) (bd : Int), xs.length = ys.length → torn xs ys bd = tornR xs ys bd
  | x :: xs, y :: ys, bd, h => by
    have ih := torn_eq xs ys (bd - 8) (by simpa using h)
    unfold torn rangeKs at ih ⊢
    rw [List.length_cons, List.range_succ_eq_map, List.map_cons, List.map_cons, List.map_map, List.map_map]
    rw [List.map_map] at ih
    simp only [tornR]
    rw [← ih]
    refine List.cons_eq_cons.mpr ⟨rfl, ?_⟩
    apply List.map_congr_left
    intro i _
    exact tornAt_cons i
  | [], [], _, _ => rfl
  | [], _ :: _, _, h => by simp at h
  | _ :: _, [], _, h => by simp at h
theorem one_old {x y bd : Int} (hx : 0 ≤ x ∧ x < 256) (hy : 0 ≤ y ∧ y < 256) (h : bd ≤ 0) : tornOne x y bd = x := by
  have e : tornE bd 0 = 8 := by unfold tornE; repeat' split <;> omega
  unfold tornOne
  rw [e]
  simp only [Int.reducePow, Int.reduceToNat]
  rw [Int.fmod_eq_emod_of_nonneg _ (by decide), Int.fmod_eq_emod_of_nonneg _ (by decide)]
  omega
theorem one_new {x y bd : Int} (h : 8 ≤ bd) : tornOne x y bd = y := by
  have e : tornE bd 0 = 0 := by unfold tornE; repeat' split <;> omega
  unfold tornOne
  rw [e]
  simp only [Int.reducePow, Int.reduceToNat]
  rw [Int.fmod_eq_emod_of_nonneg _ (by decide), Int.fmod_eq_emod_of_nonneg _ (by decide)]
  omega
theorem one_2 {x y : Int} : tornOne x y 2 = y - y % 64 + x % 64 := by
  have e : tornE 2 0 = 6 := by decide
  unfold tornOne
  rw [e]
  simp only [Int.reducePow, Int.reduceToNat]
  rw [Int.fmod_eq_emod_of_nonneg _ (by decide), Int.fmod_eq_emod_of_nonneg _ (by decide)]
theorem one_4 {x y : Int} : tornOne x y 4 = y - y % 16 + x % 16 := by
  have e : tornE 4 0 = 4 := by decide
  unfold tornOne
  rw [e]
  simp only [Int.reducePow, Int.reduceToNat]
  rw [Int.fmod_eq_emod_of_nonneg _ (by decide), Int.fmod_eq_emod_of_nonneg _ (by decide)]
theorem one_6 {x y : Int} : tornOne x y 6 = y - y % 4 + x % 4 := by
  have e : tornE 6 0 = 2 := by decide
  unfold tornOne
  rw [e]
  simp only [Int.reducePow, Int.reduceToNat]
  rw [Int.fmod_eq_emod_of_nonneg _ (by decide), Int.fmod_eq_emod_of_nonneg _ (by decide)]
theorem torn_old : ∀ (xs ys : List Int) (bd : Int), xs.length = ys.length → Oct xs → Oct ys → bd ≤ 0 → tornR xs ys bd = xs
  | x :: xs, y :: ys, bd, h, hx, hy, hb => by
    simp only [tornR]
    rw [one_old hx.head hy.head hb, torn_old xs ys _ (by simpa using h) hx.tail hy.tail (by omega)]
  | [], [], _, _, _, _, _ => rfl
  | [], _ :: _, _, h, _, _, _ => by simp at h
  | _ :: _, [], _, h, _, _, _ => by simp at h
/-- the figures of a torn row are the new ones up to the tear, the old ones behind it -/
theorem fig_torn : ∀ (xs ys : List Int) (j : Nat), xs.length = ys.length → Oct xs → Oct ys → j ≤ (figR xs).length →
    figR (tornR xs ys (6 * (j : Int))) = (figR ys).take j ++ (figR xs).drop j
  | xs, ys, 0, h, hx, hy, _ => by
    rw [torn_old xs ys _ h hx hy (by omega)]; simp
  | a :: b :: c :: r, a' :: b' :: c' :: r', j + 1, h, hx, hy, hj => by
    have ha := hx.head
    have hb := hx.tail.head
    have hc := hx.tail.tail.head
    have ha' := hy.head
    have hb' := hy.tail.head
    have hc' := hy.tail.tail.head
    have hr : r.length = r'.length := by simpa using h
    have ho := hx.tail.tail.tail
    have ho' := hy.tail.tail.tail
    rcases Nat.lt_or_ge j 3 with hj3 | hj3
    · have h3 : j = 0 ∨ j = 1 ∨ j = 2 := by omega
      rcases h3 with rfl | rfl | rfl
      · simp only [tornR]
        rw [torn_old r r' _ hr ho ho' (by omega), one_old hb hb' (by omega), one_old hc hc' (by omega), show (6 * ((0 + 1 : Nat) : Int)) = 6 by rfl, one_6]
        simp only [figR, List.take_succ_cons, List.take_zero, List.drop_succ_cons, List.drop_zero, List.cons_append, List.nil_append]
        congr 1
        · omega
        · congr 1; omega
      · simp only [tornR]
        rw [torn_old r r' _ hr ho ho' (by omega), one_old hc hc' (by omega), one_new (by omega), show (6 * ((1 + 1 : Nat) : Int) - 8) = 4 by rfl, one_4]
        simp only [figR, List.take_succ_cons, List.take_zero, List.drop_succ_cons, List.drop_zero, List.cons_append, List.nil_append]
        congr 1
        congr 1
        · omega
        · congr 1; omega
      · simp only [tornR]
        rw [torn_old r r' _ hr ho ho' (by omega), one_new (by omega), one_new (by omega), show (6 * ((2 + 1 : Nat) : Int) - 8 - 8) = 2 by rfl, one_2]
        simp only [figR, List.take_succ_cons, List.take_zero, List.drop_succ_cons, List.drop_zero, List.cons_append, List.nil_append]
        congr 1
        congr 1
        congr 1
        · omega
        · congr 1; omega
    · obtain ⟨k, rfl⟩ : ∃ k, j = k + 3 := ⟨j - 3, by omega⟩
      have ih := fig_torn r r' k hr ho ho' (by simp only [figR, List.length_cons] at hj; omega)
      simp only [tornR]
      rw [one_new (by omega), one_new (by omega), one_new (by omega), show (6 * ((k + 3 + 1 : Nat) : Int) - 8 - 8 - 8) = 6 * (k : Int) by push_cast; omega]
      simp only [figR, List.take_succ_cons, List.drop_succ_cons, List.cons_append, ih]
  | [a, b], [a', b'], j + 1, h, hx, hy, hj => by
    have ha := hx.head
    have hb := hx.tail.head
    have ha' := hy.head
    have hb' := hy.tail.head
    have h3 : j = 0 ∨ j = 1 ∨ j = 2 := by simp only [figR, List.length_cons, List.length_nil] at hj; omega
    rcases h3 with rfl | rfl | rfl
    · simp only [tornR]
      rw [one_old hb hb' (by omega), show (6 * ((0 + 1 : Nat) : Int)) = 6 by rfl, one_6]
      simp only [figR, List.take_succ_cons, List.take_zero, List.drop_succ_cons, List.drop_zero, List.cons_append, List.nil_append]
      congr 1
      · omega
      · congr 1; omega
    · simp only [tornR]
      rw [one_new (by omega), show (6 * ((1 + 1 : Nat) : Int) - 8) = 4 by rfl, one_4]
      simp only [figR, List.take_succ_cons, List.take_zero, List.drop_succ_cons, List.drop_zero, List.cons_append, List.nil_append]
      congr 1
      congr 1
      · omega
      · congr 1; omega
    · simp only [tornR]
      rw [one_new (by omega), one_new (by omega)]
      simp only [figR, List.take_succ_cons, List.take_zero, List.drop_succ_cons, List.drop_zero, List.cons_append, List.nil_append]
  | [a], [a'], j + 1, h, hx, hy, hj => by
    have ha := hx.head
    have ha' := hy.head
    have h3 : j = 0 ∨ j = 1 := by simp only [figR, List.length_cons, List.length_nil] at hj; omega
    rcases h3 with rfl | rfl
    · simp only [tornR]
      rw [show (6 * ((0 + 1 : Nat) : Int)) = 6 by rfl, one_6]
      simp only [figR, List.take_succ_cons, List.take_zero, List.drop_succ_cons, List.drop_zero, List.cons_append, List.nil_append]
      congr 1
      · omega
      · congr 1; omega
    · simp only [tornR]
      rw [one_new (by omega)]
      simp only [figR, List.take_succ_cons, List.take_zero, List.drop_succ_cons, List.drop_zero, List.cons_append, List.nil_append]
  | [], [], j + 1, h, hx, hy, hj => by simp [figR] at hj
  | [], _ :: _, _ + 1, h, _, _, _ => by simp at h
  | _ :: _, [], _ + 1, h, _, _, _ => by simp at h
  | [_], _ :: _ :: _, _ + 1, h, _, _, _ => by simp at h
  | _ :: _ :: _, [_], _ + 1, h, _, _, _ => by simp at h
  | [_, _], _ :: _ :: _ :: _, _ + 1, h, _, _, _ => by simp at h
  | _ :: _ :: _ :: _, [_, _], _ + 1, h, _, _, _ => by simp at h
end Mine

end QMath
section QMath2
example : True := by
  w_top off
  trivial
open PySem PySem.W PyProof.Rows PySem.Calls PySem.Spec
set_option Elab.async false
set_option linter.unusedVariables false
namespace Mine
def cntN (l : List Int) : Nat := (l.length * 4 + 2) / 3
def bigN (l : List Int) : Int := valOf l * 2 ^ (cntN l * 6 - l.length * 8)
theorem figs_nat (l : List Int) : figs l = (List.range (cntN l)).map fun k => bigN l / 64 ^ (cntN l - 1 - k) % 64 := by
  have hc : ((l.length : Int) * 4 + 2).fdiv 3 = ((cntN l : Nat) : Int) := by
    rw [Int.fdiv_eq_ediv_of_nonneg _ (by decide)]; unfold cntN; omega
  unfold figs rangeKs
  rw [hc, List.map_map]
  rw [show (((cntN l : Nat) : Int) - 0).toNat = cntN l by omega]
  apply List.map_congr_left
  intro k hk
  have hk' := List.mem_range.mp hk
  show ((valOf l * 2 ^ (((cntN l : Nat) : Int) * 6 - (l.length : Int) * 8).toNat).fdiv (64 ^ (((cntN l : Nat) : Int) - 1 - (0 + (k : Int))).toNat)).fmod 64 = _
  have e1 : (((cntN l : Nat) : Int) * 6 - (l.length : Int) * 8).toNat = cntN l * 6 - l.length * 8 := by omega
  have e2 : (((cntN l : Nat) : Int) - 1 - (0 + (k : Int))).toNat = cntN l - 1 - k := by omega
  rw [e1, e2, Int.fmod_eq_emod_of_nonneg _ (by decide), Int.fdiv_eq_ediv_of_nonneg _ (Int.pow_nonneg (by decide))]
  rfl
theorem val_from (l : List Int) : ∀ v : Int, l.foldl (fun v o => v * 256 + o) v = v * 256 ^ l.length + valOf l := by
  induction l with
  | nil => intro v; simp [valOf]
  | cons o l ih =>
    intro v
    unfold valOf
    rw [List.foldl_cons, List.foldl_cons, ih, ih (0 * 256 + o), List.length_cons, Int.pow_succ]
    generalize (256 : Int) ^ l.length = p
    rw [Int.add_mul, Int.mul_assoc, Int.mul_comm 256 p, Int.zero_mul, Int.zero_add]
    omega
theorem pow_256 (n : Nat) : (256 : Int) ^ n = 2 ^ (8 * n) := by rw [Int.pow_mul]; rfl
theorem pow_64 (n : Nat) : (64 : Int) ^ n = 2 ^ (6 * n) := by rw [Int.pow_mul]; rfl
theorem big_cons (a b c : Int) (r : List Int) : bigN (a :: b :: c :: r) = (a * 65536 + b * 256 + c) * 64 ^ cntN r + bigN r := by
  have e1 : cntN (a :: b :: c :: r) = cntN r + 4 := by unfold cntN; simp only [List.length_cons]; omega
  unfold bigN
  rw [e1]
  have e2 : (cntN r + 4) * 6 - (a :: b :: c :: r).length * 8 = cntN r * 6 - r.length * 8 := by simp only [List.length_cons]; omega
  rw [e2]
  have e3 : valOf (a :: b :: c :: r) = (a * 65536 + b * 256 + c) * 256 ^ r.length + valOf r := by
    have := val_from r ((((0 : Int) * 256 + a) * 256 + b) * 256 + c)
    show List.foldl (fun v o => v * 256 + o) ((((0 : Int) * 256 + a) * 256 + b) * 256 + c) r = _
    rw [this]
    congr 2
    omega
  rw [e3, Int.add_mul, Int.mul_assoc, pow_256, ← Int.pow_add, pow_64]
  have e4 : 8 * r.length + (cntN r * 6 - r.length * 8) = 6 * cntN r := by unfold cntN; omega
  rw [e4]
theorem big_in {r : List Int} (h : Oct r) : 0 ≤ bigN r ∧ bigN r < 64 ^ cntN r := by
  obtain ⟨h0, h1⟩ := valOf_bound r.length r rfl h
  have hp : (0 : Int) < 2 ^ (cntN r * 6 - r.length * 8) := Int.pow_pos (by decide)
  refine ⟨Int.mul_nonneg h0 (Int.le_of_lt hp), ?_⟩
  have e4 : 8 * r.length + (cntN r * 6 - r.length * 8) = 6 * cntN r := by unfold cntN; omega
  have e5 : (256 : Int) ^ r.length * 2 ^ (cntN r * 6 - r.length * 8) = 64 ^ cntN r := by rw [pow_256, ← Int.pow_add, e4, pow_64]
  rw [← e5]
  exact Int.mul_lt_mul_of_pos_right h1 hp
theorem top_fig {m w : Int} {c j : Nat} (h0 : 0 ≤ w) (h1 : w < 64 ^ c) : (m * 64 ^ c + w) / 64 ^ (c + j) = m / 64 ^ j := by
  have hp : (0 : Int) < 64 ^ c := Int.pow_pos (by decide)
  rw [Int.pow_add, ← Int.ediv_ediv_of_nonneg (Int.le_of_lt hp), Int.add_comm, Int.add_mul_ediv_right _ _ (Int.ne_of_gt hp), Int.ediv_eq_zero_of_lt h0 h1, Int.zero_add]
theorem low_fig {m w : Int} {c j : Nat} (h : j < c) : (m * 64 ^ c + w) / 64 ^ j % 64 = w / 64 ^ j % 64 := by
  have hp : (0 : Int) < 64 ^ j := Int.pow_pos (by decide)
  obtain ⟨d, rfl⟩ : ∃ d, c = d + 1 + j := ⟨c - 1 - j, by omega⟩
  rw [Int.pow_add, ← Int.mul_assoc, Int.add_comm, Int.add_mul_ediv_right _ _ (Int.ne_of_gt hp), Int.pow_succ, ← Int.mul_assoc, Int.add_mul_emod_self_right]
theorem figs_eq : ∀ l : List Int, Oct l → figs l = figR l
  | a :: b :: c :: r, h => by
    have ha := h.head
    have hb := h.tail.head
    have hc := h.tail.tail.head
    have ho := h.tail.tail.tail
    have ih := figs_eq r ho
    have hB := big_in ho
    have e1 : cntN (a :: b :: c :: r) = cntN r + 4 := by unfold cntN; simp only [List.length_cons]; omega
    rw [figs_nat, e1, big_cons]
    simp only [figR]
    rw [← ih, figs_nat r]
    rw [List.range_succ_eq_map, List.map_cons, List.map_map, List.range_succ_eq_map, List.map_cons, List.map_map, List.range_succ_eq_map, List.map_cons, List.map_map, List.range_succ_eq_map, List.map_cons, List.map_map]
    refine List.cons_eq_cons.mpr ⟨?_, List.cons_eq_cons.mpr ⟨?_, List.cons_eq_cons.mpr ⟨?_, List.cons_eq_cons.mpr ⟨?_, ?_⟩⟩⟩⟩
    · rw [show cntN r + 4 - 1 - 0 = cntN r + 3 by omega, top_fig hB.1 hB.2]
      simp only [Int.reducePow]; omega
    · simp only [Function.comp]
      rw [show cntN r + 4 - 1 - Nat.succ 0 = cntN r + 2 by omega, top_fig hB.1 hB.2]
      simp only [Int.reducePow]; omega
    · simp only [Function.comp]
      rw [show cntN r + 4 - 1 - Nat.succ (Nat.succ 0) = cntN r + 1 by omega, top_fig hB.1 hB.2]
      simp only [Int.reducePow]; omega
    · simp only [Function.comp]
      rw [show cntN r + 4 - 1 - Nat.succ (Nat.succ (Nat.succ 0)) = cntN r + 0 by omega, top_fig hB.1 hB.2]
      simp only [Int.reducePow]; omega
    · apply List.map_congr_left
      intro k hk
      have hk' := List.mem_range.mp hk
      simp only [Function.comp]
      rw [show cntN r + 4 - 1 - Nat.succ (Nat.succ (Nat.succ (Nat.succ k))) = cntN r - 1 - k by omega]
      exact low_fig (by omega)
  | [a, b], h => by
    have ha := h.head
    have hb := h.tail.head
    rw [figs_nat]
    have e1 : cntN [a, b] = 3 := by simp [cntN]
    have e2 : bigN [a, b] = valOf [a, b] * 2 ^ 2 := by unfold bigN; rw [e1]; rfl
    simp only [e1, e2]
    rw [show List.range 3 = [0, 1, 2] from rfl]
    simp only [List.map_cons, List.map_nil, Nat.reduceSub, valOf, List.foldl_cons, List.foldl_nil, figR, Int.reducePow]
    refine List.cons_eq_cons.mpr ⟨?_, List.cons_eq_cons.mpr ⟨?_, List.cons_eq_cons.mpr ⟨?_, rfl⟩⟩⟩ <;> omega
  | [a], h => by
    have ha := h.head
    rw [figs_nat]
    have e1 : cntN [a] = 2 := by simp [cntN]
    have e2 : bigN [a] = valOf [a] * 2 ^ 4 := by unfold bigN; rw [e1]; rfl
    simp only [e1, e2]
    rw [show List.range 2 = [0, 1] from rfl]
    simp only [List.map_cons, List.map_nil, Nat.reduceSub, valOf, List.foldl_cons, List.foldl_nil, figR, Int.reducePow]
    refine List.cons_eq_cons.mpr ⟨?_, List.cons_eq_cons.mpr ⟨?_, rfl⟩⟩ <;> omega
  | [], _ => rfl
-- the places at which two writings part
def diffP (xs ys : List Int) (n : Nat) : List Nat := (List.range n).filter fun k => xs.getD k 0 != ys.getD k 0
def pairsOf (xs : List Int) (D : List Nat) : List (Int × Int) := D.map fun (k : Nat) => ((k : Int), xs.getD k 0)
def mixAt (xs ys : List Int) (t : Nat) : List Int := ys.take t ++ xs.drop t
theorem diffP_yes {xs ys : List Int} {n : Nat} (h : xs.getD n 0 ≠ ys.getD n 0) : diffP xs ys (n + 1) = diffP xs ys n ++ [n] := by
  unfold diffP
  have : (xs.getD n 0 != ys.getD n 0) = true := by simpa using h
  rw [List.range_succ, List.filter_append, List.filter_cons, List.filter_nil, this]; rfl
theorem diffP_no {xs ys : List Int} {n : Nat} (h : xs.getD n 0 = ys.getD n 0) : diffP xs ys (n + 1) = diffP xs ys n := by
  unfold diffP
  have : (xs.getD n 0 != ys.getD n 0) = false := by simpa using h
  rw [List.range_succ, List.filter_append, List.filter_cons, List.filter_nil, this]; simp
theorem diffP_comm (xs ys : List Int) (n : Nat) : diffP ys xs n = diffP xs ys n := by
  unfold diffP
  apply List.filter_congr
  intro k _
  exact bne_comm
theorem mem_diffP {xs ys : List Int} {n k : Nat} (h : k ∈ diffP xs ys n) : k < n ∧ xs.getD k 0 ≠ ys.getD k 0 := by
  unfold diffP at h
  rw [List.mem_filter] at h
  exact ⟨List.mem_range.mp h.1, by simpa using h.2⟩
theorem diffP_len (xs ys : List Int) (n : Nat) : (diffP xs ys n).length ≤ n := by
  unfold diffP
  have := List.length_filter_le (fun k => xs.getD k 0 != ys.getD k 0) (List.range n)
  simpa using this
theorem getD_lt {xs : List Int} {n : Nat} (h : n < xs.length) : xs.getD n 0 = xs[n] := by
  rw [List.getD_eq_getElem?_getD, List.getElem?_eq_getElem h]; rfl
theorem mix_len {xs ys : List Int} (h : xs.length = ys.length) (t : Nat) : (mixAt xs ys t).length = xs.length := by
  unfold mixAt; rw [List.length_append, List.length_take, List.length_drop]; omega
theorem mix_same {xs ys : List Int} {n : Nat} (hl : xs.length = ys.length) (hn : n < xs.length) (h : xs.getD n 0 = ys.getD n 0) : mixAt xs ys (n + 1) = mixAt xs ys n := by
  unfold mixAt
  rw [getD_lt hn, getD_lt (by omega)] at h
  rw [List.take_add_one, List.getElem?_eq_getElem (by omega), List.drop_eq_getElem_cons hn, h, List.append_assoc]
  rfl
theorem mix_put {xs ys : List Int} {n : Nat} (hl : xs.length = ys.length) (hn : n < xs.length) : (mixAt xs ys n).set n (ys.getD n 0) = mixAt xs ys (n + 1) := by
  unfold mixAt
  rw [getD_lt (show n < ys.length by omega), List.set_append_right _ _ (by rw [List.length_take]; omega), List.length_take, show n - min n ys.length = 0 by omega, List.drop_eq_getElem_cons hn, List.set_cons_zero, List.take_add_one, List.getElem?_eq_getElem (by omega), List.append_assoc]
  rfl
theorem mix_back {xs ys : List Int} {n : Nat} (hl : xs.length = ys.length) (hn : n < xs.length) : (mixAt xs ys (n + 1)).set n (xs.getD n 0) = mixAt xs ys n := by
  rw [← mix_put hl hn, List.set_set]
  unfold mixAt
  rw [getD_lt hn, List.set_append_right _ _ (by rw [List.length_take]; omega), List.length_take, show n - min n ys.length = 0 by omega, List.drop_eq_getElem_cons hn, List.set_cons_zero]
theorem mix_0 (xs ys : List Int) : mixAt xs ys 0 = xs := by simp [mixAt]
theorem mix_all {xs ys : List Int} (hl : xs.length = ys.length) : mixAt xs ys xs.length = ys := by
  unfold mixAt; rw [List.drop_length, hl, List.take_length, List.append_nil]
theorem texts_cons (ks : List Int) (p : Int × Int) (ps : List (Int × Int)) : textsOf ks (p :: ps) = ks :: textsOf (ks.set p.1.toNat p.2) ps := by
  unfold textsOf
  rw [List.length_cons, List.range_succ_eq_map, List.map_cons, List.map_map]
  refine List.cons_eq_cons.mpr ⟨rfl, ?_⟩
  apply List.map_congr_left
  intro j _
  rfl
theorem there {xs ys : List Int} (hl : xs.length = ys.length) : ∀ n, n ≤ xs.length →
    lastOf xs (pairsOf ys (diffP xs ys n)) = mixAt xs ys n ∧ textsOf xs (pairsOf ys (diffP xs ys n)) = (diffP xs ys n ++ [n]).map (mixAt xs ys) ∧
    textsOf xs (pairsOf ys (diffP xs ys n)) = (0 :: (diffP xs ys n).map (· + 1)).map (mixAt xs ys) := by
  intro n
  induction n with
  | zero => intro _; exact ⟨by simp [diffP, pairsOf, lastOf, mix_0], by simp [diffP, pairsOf, textsOf, lastOf, mix_0], by simp [diffP, pairsOf, textsOf, lastOf, mix_0]⟩
  | succ n ih =>
    intro hn
    obtain ⟨h1, h2, h3⟩ := ih (by omega)
    by_cases h : xs.getD n 0 = ys.getD n 0
    · rw [diffP_no h, mix_same hl (by omega) h]
      refine ⟨h1, ?_, h3⟩
      rw [h2, List.map_append, List.map_append, List.map_singleton, List.map_singleton, mix_same hl (by omega) h]
    · rw [diffP_yes h]
      have e : pairsOf ys (diffP xs ys n ++ [n]) = pairsOf ys (diffP xs ys n) ++ [((n : Int), ys.getD n 0)] := by simp [pairsOf]
      have e2 : lastOf xs (pairsOf ys (diffP xs ys n) ++ [((n : Int), ys.getD n 0)]) = mixAt xs ys (n + 1) := by
        rw [lastOf_snoc, h1]
        exact mix_put hl (by omega)
      rw [e]
      refine ⟨e2, ?_, ?_⟩
      · rw [textsOf_snoc, e2, h2, List.map_append (l₂ := [n + 1]), List.map_singleton]
      · rw [textsOf_snoc, e2, h3, List.map_append (l₂ := [n]), List.map_singleton, ← List.cons_append, List.map_append, List.map_singleton]
theorem backs {xs ys : List Int} (hl : xs.length = ys.length) : ∀ n, n ≤ xs.length →
    textsOf (mixAt xs ys n) (pairsOf xs (diffP xs ys n)).reverse = ((diffP xs ys n ++ [n]).map (mixAt xs ys)).reverse := by
  intro n
  induction n with
  | zero => intro _; simp [diffP, pairsOf, textsOf, lastOf]
  | succ n ih =>
    intro hn
    have ih := ih (by omega)
    by_cases h : xs.getD n 0 = ys.getD n 0
    · rw [diffP_no h, mix_same hl (by omega) h, ih, List.map_append, List.map_append, List.map_singleton, List.map_singleton, mix_same hl (by omega) h]
    · rw [diffP_yes h]
      have e : pairsOf xs (diffP xs ys n ++ [n]) = pairsOf xs (diffP xs ys n) ++ [((n : Int), xs.getD n 0)] := by simp [pairsOf]
      rw [e, List.reverse_append, List.reverse_singleton, List.singleton_append, texts_cons]
      show mixAt xs ys (n + 1) :: textsOf ((mixAt xs ys (n + 1)).set n (xs.getD n 0)) _ = _
      rw [mix_back hl (by omega), ih, List.map_append (l₂ := [n + 1]), List.reverse_append, List.map_singleton, List.reverse_singleton, List.singleton_append]
/-- the law's own texts: there and back -/
theorem texts_meet {xs ys : List Int} (hl : xs.length = ys.length) :
    textsOf ys (pairsOf xs (diffP xs ys xs.length)).reverse = (textsOf xs (pairsOf ys (diffP xs ys xs.length))).reverse := by
  have h := backs hl xs.length (Nat.le_refl _)
  rw [mix_all hl] at h
  rw [h, (there hl xs.length (Nat.le_refl _)).2.1]
theorem texts_mix {xs ys : List Int} (hl : xs.length = ys.length) :
    textsOf xs (pairsOf ys (diffP xs ys xs.length)) = (0 :: (diffP xs ys xs.length).map (· + 1)).map (mixAt xs ys) := (there hl xs.length (Nat.le_refl _)).2.2
end Mine

end QMath2
section QMath3
example : True := by
  w_top off
  trivial
open PySem PySem.W PyProof.Rows PySem.Calls PySem.Spec
set_option Elab.async false
set_option linter.unusedVariables false
namespace Mine
theorem b64c_inj {a b : Int} (ha : 0 ≤ a ∧ a < 64) (hb : 0 ≤ b ∧ b < 64) (h : b64c a = b64c b) : a = b := by
  rw [← (b64_back ha.1 ha.2).1, ← (b64_back hb.1 hb.2).1, h]
theorem map_getD {F : List Int} {p : List Int} {k : Nat} (h : k < F.length) : (F.map b64c ++ p).getD k 0 = b64c (F.getD k 0) := by
  rw [List.getD_eq_getElem?_getD, List.getElem?_append_left (by simpa using h), List.getElem?_map, List.getD_eq_getElem?_getD, List.getElem?_eq_getElem h]; rfl
theorem map_pad {F G : List Int} {p : List Int} {k : Nat} (hl : F.length = G.length) (h : F.length ≤ k) : (F.map b64c ++ p).getD k 0 = (G.map b64c ++ p).getD k 0 := by
  rw [List.getD_eq_getElem?_getD, List.getD_eq_getElem?_getD, List.getElem?_append_right (by simpa using h), List.getElem?_append_right (by simpa [← hl] using h), List.length_map, List.length_map, hl]
theorem fig_at {F : List Int} (hF : Fig F) {k : Nat} (h : k < F.length) : 0 ≤ F.getD k 0 ∧ F.getD k 0 < 64 := by
  rw [getD_lt h]; exact hF _ (List.getElem_mem h)
theorem diff_signs {F G : List Int} {p : List Int} (hF : Fig F) (hG : Fig G) (hl : F.length = G.length) :
    ∀ d, diffP (F.map b64c ++ p) (G.map b64c ++ p) (F.length + d) = diffP F G F.length := by
  intro d
  induction d with
  | zero =>
    unfold diffP
    apply List.filter_congr
    intro k hk
    have hk' := List.mem_range.mp hk
    rw [map_getD (by omega), map_getD (by omega)]
    by_cases h : F.getD k 0 = G.getD k 0
    · rw [h]; simp
    · have h2 : b64c (F.getD k 0) ≠ b64c (G.getD k 0) := fun e => h (b64c_inj (fig_at hF (by omega)) (fig_at hG (by omega)) e)
      rw [bne_iff_ne.mpr h, bne_iff_ne.mpr h2]
  | succ d ih =>
    rw [← Nat.add_assoc, diffP_no (map_pad hl (by omega)), ih]
theorem enc_len {l : List Int} (h : Oct l) : (enc l).length = (figR l).length + padR l := by rw [enc_eq h]; simp
theorem fig_len2 {os fs : List Int} (hl : os.length = fs.length) : (figR os).length = (figR fs).length := by rw [fig_len, fig_len, hl]
theorem enc_len2 {os fs : List Int} (ho : Oct os) (hf : Oct fs) (hl : os.length = fs.length) : (enc os).length = (enc fs).length := by rw [enc_len ho, enc_len hf, fig_len2 hl, pad_len _ _ hl]
/-- the places at which six bits are unlike -/
def placesN (os fs : List Int) : List Nat := diffP (figR os) (figR fs) (figR os).length
theorem places_enc {os fs : List Int} (ho : Oct os) (hf : Oct fs) (hl : os.length = fs.length) : diffP (enc os) (enc fs) (enc os).length = placesN os fs := by
  rw [enc_len ho, enc_eq ho, enc_eq hf, pad_len os fs hl]
  exact diff_signs (fig_in _ ho) (fig_in _ hf) (fig_len2 hl) _
theorem places_lt {os fs : List Int} {k : Nat} (h : k ∈ placesN os fs) : k < (figR os).length := (mem_diffP h).1
theorem pairs_figs {os : List Int} (ho : Oct os) {D : List Nat} (h : ∀ k ∈ D, k < (figR os).length) :
    pairsOf (enc os) D = (D.map fun (k : Nat) => (k : Int)).map fun k => (k, b64c ((figR os).getD k.toNat 0)) := by
  unfold pairsOf
  rw [List.map_map]
  apply List.map_congr_left
  intro k hk
  have := h k hk
  rw [enc_eq ho, map_getD this]
  rfl
theorem fig_mix {F G : List Int} (hF : Fig F) (hG : Fig G) (t : Nat) : Fig (mixAt F G t) := by
  intro x hx
  rcases List.mem_append.mp hx with hx | hx
  · exact hG x (List.mem_of_mem_take hx)
  · exact hF x (List.mem_of_mem_drop hx)
theorem oct_torn {os fs : List Int} (ho : Oct os) (hf : Oct fs) (bd : Int) : Oct (torn os fs bd) := by
  intro x hx
  obtain ⟨i, _, rfl⟩ := List.mem_map.mp hx
  exact tornAt_in ho hf bd i
theorem torn_len {os fs : List Int} (bd : Int) : (torn os fs bd).length = os.length := by simp [torn, rangeKs]
theorem torn_figs {os fs : List Int} (ho : Oct os) (hf : Oct fs) (hl : os.length = fs.length) {t : Nat} (ht : t ≤ (figR os).length) : figR (torn os fs (6 * (t : Int))) = mixAt (figR os) (figR fs) t := by
  rw [torn_eq _ _ _ hl]; exact fig_torn os fs t hl ho hf ht
/-- the text at a border is the writing of the torn row -/
theorem text_figs {os fs : List Int} (ho : Oct os) (hf : Oct fs) (hl : os.length = fs.length) {t : Nat} (ht : t ≤ (figR os).length) :
    mixAt (enc os) (enc fs) t = (mixAt (figR os) (figR fs) t).map b64c ++ List.replicate (padR os) 61 := by
  have hl2 := fig_len2 hl
  rw [enc_eq ho, enc_eq hf, ← pad_len os fs hl]
  unfold mixAt
  rw [List.take_append_of_le_length (by rw [List.length_map]; omega), List.drop_append_of_le_length (by rw [List.length_map]; omega), List.map_append, List.map_take, List.map_drop, List.append_assoc]
theorem text_enc {os fs : List Int} (ho : Oct os) (hf : Oct fs) (hl : os.length = fs.length) {t : Nat} (ht : t ≤ (figR os).length) :
    enc (torn os fs (6 * (t : Int))) = mixAt (enc os) (enc fs) t := by
  rw [enc_eq (oct_torn ho hf _), torn_figs ho hf hl ht, text_figs ho hf hl ht, pad_len _ os (torn_len _)]
theorem text_dec {os fs : List Int} (ho : Oct os) (hf : Oct fs) (hl : os.length = fs.length) {t : Nat} (ht : t ≤ (figR os).length) :
    dec (mixAt (figR os) (figR fs) t) = torn os fs (6 * (t : Int)) := by
  rw [← torn_figs ho hf hl ht]
  exact dec_fig (oct_torn ho hf _)
theorem text_pad {os fs : List Int} (hl : os.length = fs.length) (t : Nat) : padOk (mixAt (figR os) (figR fs) t).length (padR os) := by
  rw [mix_len (fig_len2 hl)]; exact pad_ok os
end Mine

end QMath3
section QEnum
example : True := by
  w_top off
  trivial
open PySem PySem.W PyProof.Rows PySem.Calls PySem.Spec
set_option Elab.async false
set_option maxRecDepth 100000
set_option maxHeartbeats 8000000
set_option linter.unusedVariables false
namespace Mine
section
variable {prog : Program} {w : World} {A : Around} {E : Value → Shared → Prop} {s : Shared} {b : Array UInt8} {t : Tok}
theorem nb_item {it : Addr} {i : Nat} {c : UInt8} {Q : Value → Shared → Prop} (hit : KBw.IsBytesIter s.heap it b t i) (hx : b[i]? = some c)
    (hQ : ∀ h', KBw.IsBytesIter h' it b t (i + 1) → Heap.SameBut it s.heap h' → Q (.int (c.toNat : Int) s.toks) { s with heap := h', toks := s.toks + 1 }) :
    wpAny (model prog w) A (Builtin.SmallTypes.nextOf (.ref it)) Q E s := by
  obtain ⟨o, ho, hc, hd⟩ := id hit
  unfold Builtin.SmallTypes.nextOf
  refine wpAny_bind (wpAny_callSpecial?_slot (name := PySem.Str.ofString "__next__") (KBw.iter_typeIs hit) KBw.slot_next
    (wpAny_call_entry KBw.slot_next (KBw.iter_typeIs hit) KBw.entry_next ?_ (KBw.args_next _)))
  show wpAny _ _ (field (.ref it) 0 >>= _) _ _ s
  refine wpAny_bind (wpAny_field ho hd (x := .bytes b t) rfl ?_)
  show wpAny _ _ (if (Value.bytes b t == Value.none) = true then _ else _) _ _ s
  rw [if_neg (show ¬ ((Value.bytes b t == Value.none) = true) from Bool.false_ne_true)]
  show wpAny _ _ (field (.ref it) 1 >>= _) _ _ s
  refine wpAny_bind (wpAny_field ho hd (x := .int i 0) rfl ?_)
  refine wpAny_bind (wpAny_of_eq (a := b) rfl ?_)
  simp only [Int.toNat_natCast, hx]
  refine wpAny_bind (wpAny_setField ho hd (by simp) (wpAny_bind (wpAny_mkInt (wpAny_pure ⟨_, rfl, wpAny_pure (hQ _ ?_ (Heap.SameBut.update ..))⟩))))
  exact ⟨_, Heap.get?_update_self _ ho (Obj.isFreed_of_fields (Obj.data_mapFields hd _)), (Obj.cls_mapFields ..).trans hc, by rw [Obj.data_mapFields hd]; simp [rawInt]⟩
theorem nb_end {it : Addr} {i : Nat} {Q : Value → Shared → Prop} (hh : A.handled = none) (hit : KBw.IsBytesIter s.heap it b t i) (hx : b[i]? = none)
    (hE : ∀ h' e, Heap.ExtBut it s.heap h' → (∃ o, h'.get? e = some o ∧ o.cls = .type "StopIteration") → E (.ref e) { s with heap := h' }) :
    wpAny (model prog w) A (Builtin.SmallTypes.nextOf (.ref it)) Q E s := by
  obtain ⟨o, ho, hc, hd⟩ := id hit
  unfold Builtin.SmallTypes.nextOf
  refine wpAny_bind (wpAny_callSpecial?_slot (name := PySem.Str.ofString "__next__") (KBw.iter_typeIs hit) KBw.slot_next
    (wpAny_call_entry KBw.slot_next (KBw.iter_typeIs hit) KBw.entry_next ?_ (KBw.args_next _)))
  show wpAny _ _ (field (.ref it) 0 >>= _) _ _ s
  refine wpAny_bind (wpAny_field ho hd (x := .bytes b t) rfl ?_)
  show wpAny _ _ (if (Value.bytes b t == Value.none) = true then _ else _) _ _ s
  rw [if_neg (show ¬ ((Value.bytes b t == Value.none) = true) from Bool.false_ne_true)]
  show wpAny _ _ (field (.ref it) 1 >>= _) _ _ s
  refine wpAny_bind (wpAny_field ho hd (x := .int i 0) rfl ?_)
  refine wpAny_bind (wpAny_of_eq (a := b) rfl ?_)
  simp only [Int.toNat_natCast, hx]
  refine wpAny_bind (wpAny_rule (wpAny_bind (wpAny_setField ho hd (by simp) ?_)))
  show wpAny _ _ (newExc (.type "StopIteration") [] >>= _) _ _ _
  refine wpAny_bind ?_
  simp only [newExc, newTuple]
  refine wpAny_bind (wpAny_newObj_type ?_ (by size_fits))
  refine wpAny_bind (m := firstArgMember _ _) (wpAny_of_eq (a := Value.none) (by first | rfl | (simp only [firstArgMember]; rfl)) ?_)
  refine wpAny_newObj_type ?_ (by size_fits)
  simp only [raiseNew]
  refine wpAny_bind (wpAny_handled ?_)
  first | rw [show A.in1.handled = none from hh] | rw [hh]
  refine wpAny_bind (wpAny_pure (wpAny_throw ?_))
  exact hE _ _ (((Heap.SameBut.update ..).extBut.push _).push _) ⟨_, Heap.get?_push_size _ rfl, rfl⟩
end
theorem drawsB {prog : Program} {w : World} {A : Around} (hh : A.handled = none) (it : Addr) (b : Array UInt8) (t : Tok) :
    Draws prog w A it [it] b.size (fun i v => ∃ c u, b[i]? = some c ∧ v = .int (c.toNat : Int) u) (fun i h => KBw.IsBytesIter h it b t i) where
  live := fun _ _ st => let ⟨o, ho, _⟩ := st; ⟨o, ho⟩
  frame := fun _ _ _ st hk => let ⟨o, ho, r⟩ := st; ⟨o, hk it (by simp) o ho, r⟩
  item := fun i s Q E hi st hQ => by
    refine nb_item st (c := b[i]) (by simp [hi]) fun h' hit' hs' => ?_
    exact hQ _ h' (s.toks + 1) ⟨_, _, by simp [hi], rfl⟩ hit' hs'
  done := fun s Q E st hE => nb_end hh st (by simp) hE
/-- an enumerate whose last pair is still held by another -/
abbrev EnOut (h : Heap) (e it : Addr) (i : Int) (item : Value) (a : Addr) (f : Bool) : Prop :=
  h.get? e = some { cls := .type "enumerate", dict := none, data := .fields #[rawInt a, .bool f, .ref it, rawInt i, .none, item], slots := #[] }
section
variable {prog : Program} {w : World} {A : Around} {E : Value → Shared → Prop} {s : Shared} {b : Array UInt8} {t : Tok}
theorem en_next_out {e it a : Addr} {i : Nat} {c : UInt8} {old : Value} {f : Bool} {oa : Obj} {Q : Value → Shared → Prop}
    (he : EnOut s.heap e it i old a f) (ha : s.heap.get? a = some oa) (hae : a ≠ e) (hai : a ≠ it) (hit : KBw.IsBytesIter s.heap it b t i) (hx : b[i]? = some c) (hne : e ≠ it)
    (hQ : ∀ h' tk, EnOut h' e it ((i : Int) + 1) old a true → KBw.IsBytesIter h' it b t (i + 1) →
      h'.get? s.heap.objs.size = some { cls := .type "tuple", data := .seq #[.int i (tk + 1), .int (c.toNat : Int) tk] } → h'.objs.size = s.heap.objs.size + 1 →
      (∀ b o, b ≠ e → b ≠ it → s.heap.get? b = some o → h'.get? b = some o) → Q (.ref s.heap.objs.size) { s with heap := h', toks := tk + 2 }) :
    wpAny (model prog w) A (Builtin.«enumerate.__next__» ⟨[.ref e], []⟩) (fun fin s' => ∃ v, fin = .done (.ret v) ∧ Q v s') E s := by
  obtain ⟨hp, g, d, tk, os⟩ := s
  show wpAny _ _ (field (.ref e) 2 >>= _) _ _ _
  refine wpAny_bind (wpAny_field he rfl (x := .ref it) rfl ?_)
  refine wpAny_bind (nb_item hit hx fun h₁ hit₁ hs₁ => ?_)
  replace hs₁ : Heap.SameBut it hp h₁ := hs₁
  have he₁ : EnOut h₁ e it i old a f := (hs₁.2 e hne).trans he
  show wpAny _ _ (field (.ref e) 3 >>= _) _ _ ⟨h₁, g, d, tk + 1, os⟩
  refine wpAny_bind (wpAny_field he₁ rfl (x := rawInt i) rfl ?_)
  show wpAny _ _ (field (.ref e) 4 >>= _) _ _ ⟨h₁, g, d, tk + 1, os⟩
  refine wpAny_bind (wpAny_field he₁ rfl (x := .none) rfl ?_)
  show wpAny _ _ (mkInt i >>= _) _ _ ⟨h₁, g, d, tk + 1, os⟩
  refine wpAny_bind (wpAny_mkInt ?_)
  show wpAny _ _ (setField (.ref e) 3 (rawInt ((i : Int) + 1)) >>= _) _ _ ⟨h₁, g, d, tk + 1 + 1, os⟩
  refine wpAny_bind (wpAny_setField_rec he₁ (by simp) fun h₂ he₂ hs₂ => ?_)
  replace hs₂ : Heap.SameBut e h₁ h₂ := hs₂
  replace he₂ : EnOut h₂ e it ((i : Int) + 1) old a f := he₂
  show wpAny _ _ (setField (.ref e) 4 .none >>= _) _ _ ⟨h₂, g, d, tk + 1 + 1, os⟩
  refine wpAny_bind (wpAny_setField_rec he₂ (by simp) fun h₃ he₃ hs₃ => ?_)
  replace hs₃ : Heap.SameBut e h₂ h₃ := hs₃
  replace he₃ : EnOut h₃ e it ((i : Int) + 1) old a f := he₃
  show wpAny _ _ (newTuple [.int i (tk + 1), .int (c.toNat : Int) tk] >>= _) _ _ ⟨h₃, g, d, tk + 1 + 1, os⟩
  refine wpAny_bind (wpAny_newTuple ?_)
  have he₄ : EnOut (h₃.push { cls := .type "tuple", data := .seq #[.int i (tk + 1), .int (c.toNat : Int) tk] }) e it ((i : Int) + 1) old a f := Heap.get?_push_of_some _ he₃
  generalize hh₄ : h₃.push { cls := .type "tuple", data := .seq #[.int i (tk + 1), .int (c.toNat : Int) tk] } = h₄ at he₄
  have hsz : h₃.objs.size = hp.objs.size := by rw [hs₃.1, hs₂.1, hs₁.1]
  have hel : e < hp.objs.size := Heap.lt_size he
  have ht₄ : h₄.get? hp.objs.size = some { cls := .type "tuple", data := .seq #[.int i (tk + 1), .int (c.toNat : Int) tk] } := by rw [← hh₄, ← hsz]; exact Heap.get?_push_size _ rfl
  have hz₄ : h₄.objs.size = hp.objs.size + 1 := by rw [← hh₄, Heap.size_push, hsz]
  have hk₄ : ∀ b o, b ≠ e → b ≠ it → hp.get? b = some o → h₄.get? b = some o := fun b o hbe hbi hb => by
    rw [← hh₄]; exact Heap.get?_push_of_some _ (hs₃.extBut b o hbe (hs₂.extBut b o hbe (hs₁.extBut b o hbi hb)))
  have hit₄ : KBw.IsBytesIter h₄ it b t (i + 1) := by
    obtain ⟨o, ho, r⟩ := hit₁
    rw [← hh₄]
    exact ⟨o, Heap.get?_push_of_some _ (hs₃.extBut _ _ (Ne.symm hne) (hs₂.extBut _ _ (Ne.symm hne) ho)), r⟩
  have ha₄ : h₄.get? a = some oa := hk₄ a oa hae hai ha
  show wpAny _ _ (Builtin.SmallTypes.ownedTupleIsFree (.ref e) >>= _) _ _ ⟨h₄, g, d, tk + 1 + 1, os⟩
  rw [hsz]
  clear hh₄ he₃ hs₃ he₂ hs₂ he₁ hs₁ hit₁ hsz h₃ h₂ h₁
  have fin : ∀ h₅ : Heap, EnOut h₅ e it ((i : Int) + 1) old a true → Heap.SameBut e h₄ h₅ → Q (.ref hp.objs.size) ⟨h₅, g, d, tk + 1 + 1, os⟩ := fun h₅ he₅ hs₅ => by
    refine hQ h₅ tk he₅ ?_ (hs₅.extBut _ _ (Nat.ne_of_gt hel) ht₄) (by rw [hs₅.1, hz₄]) fun b o hbe hbi hb => hs₅.extBut b o hbe (hk₄ b o hbe hbi hb)
    obtain ⟨o, ho, r⟩ := hit₄
    exact ⟨o, hs₅.extBut _ _ (Ne.symm hne) ho, r⟩
  refine wpAny_bind ?_
  unfold Builtin.SmallTypes.ownedTupleIsFree
  refine wpAny_bind (wpAny_field he₄ rfl (x := rawInt a) rfl ?_)
  show wpAny _ _ (loadIfAlive ((a : Int).toNat) >>= _) _ _ _
  rw [Int.toNat_natCast]
  refine wpAny_bind (kdx_alive ha₄ ?_)
  simp only [Option.isNone_some, Bool.false_eq_true, if_false]
  refine wpAny_bind (wpAny_field he₄ rfl (x := .bool f) rfl ?_)
  cases f with
  | true =>
    rw [if_neg (show ¬ ((Value.bool true != Value.bool true) = true) from Bool.false_ne_true)]
    refine wpAny_pure ?_
    simp only [Bool.false_eq_true, if_false]
    first | exact wpAny_pure ⟨_, rfl, fin h₄ he₄ (Heap.SameBut.refl _ _)⟩ | exact wpAny_pure (wpAny_pure ⟨_, rfl, fin h₄ he₄ (Heap.SameBut.refl _ _)⟩)
  | false =>
    rw [if_pos (show (Value.bool false != Value.bool true) = true from rfl)]
    refine wpAny_bind (wpAny_setField_rec he₄ (by simp) fun h₅ he₅ hs₅ => ?_)
    replace hs₅ : Heap.SameBut e h₄ h₅ := hs₅
    replace he₅ : EnOut h₅ e it ((i : Int) + 1) old a true := he₅
    refine wpAny_pure ?_
    simp only [Bool.false_eq_true, if_false]
    first | exact wpAny_pure ⟨_, rfl, fin h₅ he₅ hs₅⟩ | exact wpAny_pure (wpAny_pure ⟨_, rfl, fin h₅ he₅ hs₅⟩)
/-- an enumerate of octets, before its item i, the list S being filled -/
def EnSt (h : Heap) (e it S : Addr) (i : Nat) : Prop :=
  (i = 0 ∧ ∃ old, IsEnum h e it 0 old) ∨ ∃ old a f oa, EnOut h e it i old a f ∧ h.get? a = some oa ∧ a ≠ e ∧ a ≠ it ∧ a ≠ S
theorem EnSt.keep {h h' : Heap} {e it S : Addr} {i : Nat} (x : EnSt h e it S i) (hk : ∀ b o, b ≠ S → h.get? b = some o → h'.get? b = some o) (hI : e ≠ S) : EnSt h' e it S i := by
  rcases x with ⟨q, old, he⟩ | ⟨old, a, f, oa, he, ha, r1, r2, r3⟩
  · exact .inl ⟨q, old, hk _ _ hI he⟩
  · exact .inr ⟨old, a, f, oa, hk _ _ hI he, hk _ _ r3 ha, r1, r2, r3⟩
theorem en_item {e it S : Addr} {i : Nat} {c : UInt8} {Q : Option Value → Shared → Prop} (hst : EnSt s.heap e it S i) (hS : S < s.heap.objs.size) (hit : KBw.IsBytesIter s.heap it b t i) (hx : b[i]? = some c) (hne : e ≠ it) (hh : A.handled = none)
    (hQ : ∀ h' tk u v, EnSt h' e it S (i + 1) → KBw.IsBytesIter h' it b t (i + 1) →
      h'.get? s.heap.objs.size = some { cls := .type "tuple", data := .seq #[.int i u, .int (c.toNat : Int) v] } → h'.objs.size = s.heap.objs.size + 1 →
      (∀ b o, b ≠ e → b ≠ it → s.heap.get? b = some o → h'.get? b = some o) → Q (some (.ref s.heap.objs.size)) { s with heap := h', toks := tk }) :
    wpAny (model prog w) A (pyNext (.ref e)) Q E s := by
  have hilt : it < s.heap.objs.size := let ⟨_, ho, _⟩ := hit; Heap.lt_size ho
  have hi : i < b.size := (Array.getElem?_eq_some_iff.mp hx).1
  rcases hst with ⟨rfl, old, he⟩ | ⟨old, a, f, oa, he, ha, hae, hai, haS⟩
  · refine wpAny_pyNext_enum_itemD (drawsB (A := A.in1) hh it b t) (i := 0) he hit hi hne (fun hm => hne (List.mem_singleton.mp hm)) fun x h' tk hP ho hit' hT hz hk => ?_
    obtain ⟨c', u, hc', rfl⟩ := hP
    rw [hx] at hc'
    cases hc'
    exact hQ h' (tk + 1) _ _ (.inr ⟨_, _, false, _, ho, hT, Nat.ne_of_gt (Heap.lt_size he), Nat.ne_of_gt hilt, Nat.ne_of_gt hS⟩) hit' hT hz hk
  · have hT : s.TypeIs (.ref e) "enumerate" := ⟨_, he, rfl⟩
    unfold pyNext
    exact wpAny_bind (wpAny_attempt (wpAny_callSpecial?_slot (name := PySem.Str.ofString "__next__") hT PySem.F.slot_enumerate_next
      (wpAny_call_entry PySem.F.slot_enumerate_next hT PySem.F.entry_enumerate_next
        (en_next_out he ha hae hai hit hx hne fun h' tk he' hit' hT' hz hk => wpAny_pure (hQ h' (tk + 2) _ _ (.inr ⟨_, _, true, _, he', hk a oa hae hai ha, hae, hai, haS⟩) hit' hT' hz hk)) (PySem.F.args_enumerate_next_1 _))))
theorem en_done {e it S : Addr} {i : Nat} {Q : Option Value → Shared → Prop} (hst : EnSt s.heap e it S i) (hit : KBw.IsBytesIter s.heap it b t i) (hx : b.size = i) (hh : A.handled = none)
    (hQ : ∀ h', Heap.ExtBut it s.heap h' → Q none { s with heap := h' }) : wpAny (model prog w) A (pyNext (.ref e)) Q E s := by
  subst hx
  rcases hst with ⟨q, old, he⟩ | ⟨old, a, f, oa, he, ha, hae, hai, haS⟩
  · exact wpAny_pyNext_enum_endD (drawsB (A := A.in1) hh it b t) he hit hQ
  · have hT : s.TypeIs (.ref e) "enumerate" := ⟨_, he, rfl⟩
    unfold pyNext
    refine wpAny_bind (wpAny_attempt (wpAny_callSpecial?_slot (name := PySem.Str.ofString "__next__") hT PySem.F.slot_enumerate_next
      (wpAny_call_entry PySem.F.slot_enumerate_next hT PySem.F.entry_enumerate_next ?_ (PySem.F.args_enumerate_next_1 _))))
    show wpAny _ _ (field (.ref e) 2 >>= _) _ _ _
    refine wpAny_bind (wpAny_field he rfl (x := .ref it) rfl ?_)
    refine wpAny_bind (nb_end (A := A.in1) hh hit (by simp) fun h' x he' hx' => ?_)
    obtain ⟨o, ho, hc⟩ := hx'
    refine wpAny_bind (wpAny_isInstance (T := "StopIteration") (b := true) ⟨o, ho, hc⟩ isSubtype_stop ?_)
    exact wpAny_pure (hQ _ he')
end
/-- the pairs that an enumerate has made -/
structure EnG (b : Array UInt8) (lo : Addr) (h : Heap) (as : List Addr) : Prop where
  above : ∀ a ∈ as, lo < a
  pairs : ∀ (j : Nat) (a : Addr), as[j]? = some a → ∃ c t u, b[j]? = some c ∧ h.get? a = some { cls := .type "tuple", data := .seq #[.int j t, .int (c.toNat : Int) u] }
theorem enumerate_no_len : typeLookup (.type "enumerate") "__len__" = pure none := by rw [typeLookup_type, builtinLookup_eq_fast]; kernel_rfl
theorem enumerate_no_hint : typeLookup (.type "enumerate") "__length_hint__" = pure none := by rw [typeLookup_type, builtinLookup_eq_fast]; kernel_rfl
section
variable {prog : Program} {w : World} {A : Around} {s : Shared} {R : Result → Shared → Prop} {b : Array UInt8} {t : Tok}
theorem en_loop {S e it lo : Addr} (hh : A.handled = none) (hSe : S ≠ e) (hSi : S ≠ it) (hei : e ≠ it) (hSl : S ≤ lo) (hel : e ≤ lo) (hil : it ≤ lo) (hn : b.size ≤ sizeLine) (res : Value) {h₁ : Heap}
    (hR : ∀ h' tk acc c as, (∀ b o, b ≠ S → b ≠ e → b ≠ it → h₁.get? b = some o → h'.get? b = some o) → h'.get? S = some { cls := .type "list", dict := none, data := .seq acc c, slots := #[] } → as.length = b.size → EnG b lo h' as →
      acc.toList = as.map Value.ref → R (.ok (.ret res)) { s with heap := h', toks := tk }) :
    ∀ (k i : Nat) (h : Heap) (tk c : Nat) (acc : Array Value) (as : List Addr), b.size - i = k → i ≤ b.size → EnSt h e it S i → KBw.IsBytesIter h it b t i → (∀ b o, b ≠ S → b ≠ e → b ≠ it → h₁.get? b = some o → h.get? b = some o) →
      h.get? S = some { cls := .type "list", dict := none, data := .seq acc c, slots := #[] } → acc.toList = as.map Value.ref → as.length = i → EnG b lo h as → lo < h.objs.size →
      codeAny (model prog w) A (.builtin "list.extend.loop" ⟨[.ref S, .ref e, res], []⟩) R { s with heap := h, toks := tk } := by
  intro k
  induction k with
  | zero =>
    intro i h tk c acc as hk hi hst hit hkeep hS hacc hal hG hIs
    have hin : b.size = i := by omega
    refine codeAny_builtin PySem.F.entry_extend_loop ?_
    rw [Around.under_plainId PySem.F.plain_extend_loop _]
    show wpAny _ A.in1 (pyNext (.ref e) >>= _) _ _ _
    refine wpAny_bind (en_done (s := { s with heap := h, toks := tk }) (A := A.in1) hst hit hin hh fun h' he => ?_)
    refine wpAny_pure (hR h' tk acc c as (fun b o h1 h2 h3 e => he b o h3 (hkeep b o h1 h2 h3 e)) (he S _ hSi hS) (by omega) ⟨hG.above, fun j a hj => ?_⟩ hacc)
    obtain ⟨c, u, v, e1, e2⟩ := hG.pairs j a hj
    exact ⟨c, u, v, e1, he a _ (Nat.ne_of_gt (Nat.lt_of_le_of_lt hil (hG.above a (List.mem_of_getElem? hj)))) e2⟩
  | succ k ih =>
    intro i h tk c acc as hk hi hst hit hkeep hS hacc hal hG hIs
    have hlt : i < b.size := by omega
    obtain ⟨ch, hx⟩ : ∃ ch, b[i]? = some ch := ⟨b[i], Array.getElem?_eq_getElem hlt⟩
    have hsz : acc.size = i := by rw [← Array.length_toList, hacc, List.length_map, hal]
    refine codeAny_builtin PySem.F.entry_extend_loop ?_
    rw [Around.under_plainId PySem.F.plain_extend_loop _]
    show wpAny _ A.in1 (pyNext (.ref e) >>= _) _ _ _
    refine wpAny_bind (en_item (s := { s with heap := h, toks := tk }) (S := S) (A := A.in1) hst (Heap.lt_size hS) hit hx hei hh fun h' tk' u v hst' hit' ht hz hkp => ?_)
    dsimp only at ht hz hkp ⊢
    have hS' := hkp S _ hSe hSi hS
    have up : ∀ b o, b ≠ S → h'.get? b = some o → (h'.update S (Obj.mapSeq (·.push (Value.ref h.objs.size)))).get? b = some o := fun b o hb e => (Heap.get?_update_other _ _ (Ne.symm hb)).trans e
    have hSlt : S < h.objs.size := Heap.lt_size hS
    show wpAny _ A.in1 (updateSeq S (·.push (Value.ref h.objs.size)) >>= _) _ _ _
    refine wpAny_bind ?_
    refine wpAny_updateSeq hS' rfl (wpAny_pure ⟨plainId_quiet PySem.F.plain_extend_loop _, ih (i + 1) _ tk' _ (acc.push (Value.ref h.objs.size)) (as ++ [h.objs.size]) (by omega) hlt (hst'.keep up (Ne.symm hSe)) (let ⟨o, ho, r⟩ := hit'; ⟨o, up _ _ (Ne.symm hSi) ho, r⟩)
      (fun b o h1 h2 h3 e => up b o h1 (hkp b o h2 h3 (hkeep b o h1 h2 h3 e))) (Heap.get?_update_self _ hS' rfl) (by rw [Array.toList_push, hacc, List.map_append]; rfl) (by rw [List.length_append, hal]; rfl) ⟨?_, ?_⟩ ?_⟩) (by rw [hsz]; omega) (by show (acc.push (Value.ref h.objs.size)).size ≤ sizeLine + 1; rw [Array.size_push, hsz]; omega)
    · intro a ha
      rcases List.mem_append.mp ha with ha | ha
      · exact hG.above a ha
      · rw [List.mem_singleton.mp ha]; exact hIs
    · intro j a hj
      rcases Nat.lt_trichotomy j as.length with h1 | h1 | h1
      · rw [List.getElem?_append_left h1] at hj
        obtain ⟨c', u', v', e1, e2⟩ := hG.pairs j a hj
        have hb := hG.above a (List.mem_of_getElem? hj)
        exact ⟨c', u', v', e1, up a _ (Nat.ne_of_gt (Nat.lt_of_le_of_lt hSl hb)) (hkp a _ (Nat.ne_of_gt (Nat.lt_of_le_of_lt hel hb)) (Nat.ne_of_gt (Nat.lt_of_le_of_lt hil hb)) e2)⟩
      · subst h1
        have hb : h.objs.size = a := by simpa using hj
        subst hb
        exact ⟨ch, u, v, by rw [hal]; exact hx, by rw [hal]; exact up _ _ (Nat.ne_of_gt hSlt) ht⟩
      · have hnone : (as ++ [h.objs.size])[j]? = none := List.getElem?_eq_none (by rw [List.length_append, List.length_singleton]; omega)
        rw [hnone] at hj; cases hj
    · have e : (h'.update S (Obj.mapSeq (·.push (Value.ref h.objs.size)))).get? h.objs.size = _ := up _ _ (Nat.ne_of_gt hSlt) ht
      exact Nat.lt_trans hIs (Heap.lt_size e)
theorem en_extend {e it S : Addr} (hh : A.handled = none) (hei : e ≠ it) (he : IsEnum s.heap e it 0 .none) (hit : KBw.IsBytesIter s.heap it b t 0) (hSe : S ≠ e) (hSi : S ≠ it) (lo : Addr) (hSl : S ≤ lo) (hel : e ≤ lo) (hil : it ≤ lo) (hlo : lo < s.heap.objs.size) (res : Value) (c₀ : Nat) (hS : s.heap.get? S = some { cls := .type "list", data := .seq #[] c₀ })
    (hR : ∀ h' tk acc c as, (∀ b o, b ≠ S → b ≠ e → b ≠ it → s.heap.get? b = some o → h'.get? b = some o) → h'.get? S = some { cls := .type "list", dict := none, data := .seq acc c, slots := #[] } → as.length = b.size → EnG b lo h' as →
      acc.toList = as.map Value.ref → R (.ok (.ret res)) { s with heap := h', toks := tk }) (hn : b.size ≤ sizeLine) :
    wpAny (model prog w) A.in1 (Builtin.List.listExtendWith (.ref S) (.ref e) res)
      (fun fin s' => match fin with | .done f => R (.ok f) s' | .again c' => c'.quiet = true ∧ codeAny (model prog w) A c' R s') (fun e s' => R (.error e) s') s := by
  have hT : s.TypeIs (.ref e) "enumerate" := ⟨_, he, rfl⟩
  unfold Builtin.List.listExtendWith
  refine wpAny_bind (wpAny_typeOf (T := "enumerate") hT ?_)
  have h1 : Builtin.List.listSameRef (.ref S) (.ref e) = false := by simp [Builtin.List.listSameRef, hSe]
  have h2 : (Value.type "enumerate" == Value.type "list") = false := by decide
  have h3 : (Value.type "enumerate" == Value.type "tuple") = false := by decide
  simp only [h1, h2, h3, Bool.or_false, Bool.false_eq_true, if_false]
  refine wpAny_bind (wpAny_pyIter_enum he ?_)
  refine wpAny_bind (wpAny_holding ?_)
  unfold Builtin.List.listLengthHint
  refine wpAny_bind (wpAny_specialOf hT enumerate_no_len ?_)
  show wpAny _ A.in1 (specialOf (Value.ref e) (PySem.Str.ofString "__length_hint__") >>= _) _ _ _
  refine wpAny_bind (wpAny_specialOf hT enumerate_no_hint ?_)
  refine wpAny_pure ?_
  show wpAny _ A.in1 (rule "list.extend.makes-room" >>= fun _ => Builtin.List.listTouch (.ref S) >>= fun _ =>
    again (.builtin "list.extend.loop" ⟨[.ref S, .ref e, res], []⟩)) _ _ _
  refine wpAny_bind (wpAny_rule ?_)
  refine wpAny_bind ?_
  show wpAny _ A.in1 (updateSeq S (·.push .none) >>= fun _ => updateSeq S (·.pop)) _ _ _
  refine wpAny_bind (wpAny_updateSeq hS rfl ?_)
  have hS₂ := Heap.get?_update_self (Obj.mapSeq (·.push Value.none)) hS rfl
  refine wpAny_updateSeq (hz := by seq_fits) hS₂ rfl ?_
  have hS₃ := Heap.get?_update_self (Obj.mapSeq (·.pop)) hS₂ rfl
  have oth : ∀ b o, b ≠ S → s.heap.get? b = some o → ((s.heap.update S (Obj.mapSeq (·.push Value.none))).update S (Obj.mapSeq (·.pop))).get? b = some o :=
    fun b o hb e => (Heap.get?_update_other _ _ (Ne.symm hb)).trans ((Heap.get?_update_other _ _ (Ne.symm hb)).trans e)
  refine wpAny_pure ⟨plainId_quiet PySem.F.plain_extend_loop _, en_loop (A := A) (s := s) (h₁ := s.heap) hh hSe hSi hei hSl hel hil hn res hR b.size 0 _ s.toks _ #[] [] (Nat.sub_zero _) (Nat.zero_le _) (.inl ⟨rfl, .none, oth e _ (Ne.symm hSe) he⟩)
    (let ⟨o, ho, r⟩ := hit; ⟨o, oth it _ (Ne.symm hSi) ho, r⟩) (fun b o hb _ _ e => oth b o hb e) hS₃ rfl rfl ⟨(fun _ ha => nomatch ha), (fun j a hj => by simp at hj)⟩ ?_⟩
  have hlt : lo < ((s.heap.update S (Obj.mapSeq (·.push Value.none))).update S (Obj.mapSeq (·.pop))).objs.size := by
    simpa [Heap.size_update] using hlo
  exact hlt
theorem en_init {e it S : Addr} (hh : A.handled = none) (hei : e ≠ it) (he : IsEnum s.heap e it 0 .none) (hit : KBw.IsBytesIter s.heap it b t 0) (hSe : S ≠ e) (hSi : S ≠ it) (hel : e ≤ S) (hil : it ≤ S) (hS : s.heap.get? S = some { cls := .type "list", data := .seq #[] })
    (hR : ∀ h' tk acc c as, (∀ b o, b ≠ S → b ≠ e → b ≠ it → s.heap.get? b = some o → h'.get? b = some o) → h'.get? S = some { cls := .type "list", dict := none, data := .seq acc c, slots := #[] } → as.length = b.size → EnG b S h' as →
      acc.toList = as.map Value.ref → R (.ok (.ret .none)) { s with heap := h', toks := tk }) (hn : b.size ≤ sizeLine) :
    wpAny (model prog w) A.in1 (Builtin.«list.__init__» ⟨[.ref S, .ref e], []⟩)
      (fun fin s' => match fin with | .done f => R (.ok f) s' | .again c' => c'.quiet = true ∧ codeAny (model prog w) A c' R s') (fun e s' => R (.error e) s') s := by
  show wpAny _ _ (do let old ← Builtin.List.listItems (.ref S); Builtin.List.listUpdate (.ref S) (fun _ => #[]); letGo old.toList.reverse; Builtin.List.listExtendWith (.ref S) (.ref e) .none) _ _ s
  refine wpAny_bind ?_
  unfold Builtin.List.listItems
  refine wpAny_bind (wpAny_seqItems hS rfl (wpAny_pure ?_))
  show wpAny _ _ (updateSeq S (fun _ => #[]) >>= fun _ => letGo (#[] : Array Value).toList.reverse >>= fun _ => Builtin.List.listExtendWith (.ref S) (.ref e) .none) _ _ s
  refine wpAny_bind (wpAny_updateSeq hS rfl ?_)
  have hS₂ := Heap.get?_update_self (Obj.mapSeq (fun _ => (#[] : Array Value))) hS rfl
  have oth : ∀ b o, b ≠ S → s.heap.get? b = some o → (s.heap.update S (Obj.mapSeq (fun _ => (#[] : Array Value)))).get? b = some o :=
    fun b o hb e => (Heap.get?_update_other _ _ (Ne.symm hb)).trans e
  refine wpAny_bind (wpAny_letGo ?_)
  refine en_extend (A := A) (b := b) (t := t) hh hei (oth _ _ (Ne.symm hSe) he) (let ⟨o, ho, r⟩ := hit; ⟨o, oth it _ (Ne.symm hSi) ho, r⟩) hSe hSi S (Nat.le_refl _) hel hil (Heap.lt_size hS₂) .none _ hS₂ (fun h' tk acc c as hk hS' hl hG hacc => ?_) hn
  exact hR h' tk acc c as (fun b o hb h2 h3 e => hk b o hb h2 h3 (oth b o hb e)) hS' hl hG hacc
end
section
variable {prog : Program} {w : World} {A : Around} {E : Value → Shared → Prop} {s : Shared} {b : Array UInt8} {t : Tok}
theorem en_list {e it : Addr} {Q : Value → Shared → Prop} (hh : A.handled = none) (hei : e ≠ it) (he : IsEnum s.heap e it 0 .none) (hit : KBw.IsBytesIter s.heap it b t 0) (hn : b.size ≤ sizeLine)
    (hQ : ∀ h' tk acc c as, (∀ b o, b ≠ e → b ≠ it → s.heap.get? b = some o → h'.get? b = some o) → h'.get? s.heap.objs.size = some { cls := .type "list", dict := none, data := .seq acc c, slots := #[] } → as.length = b.size → EnG b s.heap.objs.size h' as →
      acc.toList = as.map Value.ref → Q (.ref s.heap.objs.size) { s with heap := h', toks := tk }) :
    wpAny (model prog w) A (call (.type "list") [.ref e]) Q E s := by
  refine callType_codes (Q₁ := fun obj s₁ => obj = .ref s.heap.objs.size ∧ s₁ = { s with heap := s.heap.push { cls := .type "list", data := .seq #[] } }) PySem.F.called_list (PySem.F.typeCall_list_1 _) PySem.F.entry_list_init
    (code_list_new _ ⟨rfl, rfl⟩) fun obj s₁ h₁ => ?_
  obtain ⟨rfl, rfl⟩ := h₁
  have hS : (s.heap.push { cls := .type "list", data := .seq #[] }).get? s.heap.objs.size = some { cls := .type "list", data := .seq #[] } := Heap.get?_push_size _ rfl
  have hel : e < s.heap.objs.size := Heap.lt_size he
  have hil : it < s.heap.objs.size := let ⟨_, ho, _⟩ := hit; Heap.lt_size ho
  refine ⟨⟨_, hS, rfl⟩, PySem.F.args_list_init_2 _ _, en_init (b := b) (t := t) (A := A.in1) hh hei (Heap.get?_push_of_some _ he) (let ⟨o, ho, r⟩ := hit; ⟨o, Heap.get?_push_of_some _ ho, r⟩) (Nat.ne_of_gt hel) (Nat.ne_of_gt hil) (Nat.le_of_lt hel) (Nat.le_of_lt hil) hS (fun h' tk acc c as hk hS' hl hG hacc => ?_) hn⟩
  exact ⟨rfl, hQ h' tk acc c as (fun b o h2 h3 e => hk b o (Nat.ne_of_lt (Heap.lt_size e)) h2 h3 (Heap.get?_push_of_some _ e)) hS' hl hG hacc⟩
end
end Mine

end QEnum
section QEnum2
example : True := by
  w_top off
  trivial
open PySem PySem.W PyProof.Rows PySem.Calls PySem.Spec
set_option Elab.async false
set_option maxRecDepth 100000
set_option maxHeartbeats 8000000
set_option linter.unusedVariables false
namespace Mine
def biObj (b : Array UInt8) (t : Tok) : Obj := { cls := .type "bytes_iterator", data := .fields #[.bytes b t, .int 0 0] }
def enObj (it : Addr) : Obj := { cls := .type "enumerate", data := .fields #[.none, .bool false, .ref it, rawInt 0, .none, .none] }
theorem meets_enum_newB (b : Array UInt8) (t : Tok) :
    Meets (Builtin.«enumerate.__new__» ⟨[.type "enumerate", .bytes b t], []⟩) (fun _ R s =>
      R (.ok (.ret (.ref (s.heap.push (biObj b t)).objs.size))) { s with heap := (s.heap.push (biObj b t)).push (enObj s.heap.objs.size) }) :=
  .of_wp fun prog w A R s h => by
    obtain ⟨hp, g, d, tk, os⟩ := s
    have hsub := sub_enumerate
    wp_walk
    refine wpAny_stack_any fun st => wpAny_pure ?_
    split
    · rename_i c _ _ _ _ _
      cases (c == Value.type "enumerate")
      · wp_walk using KBw.pyIter_bytes
        exact ⟨_, rfl, h⟩
      · wp_walk using KBw.pyIter_bytes
        exact ⟨_, rfl, h⟩
    · wp_walk using KBw.pyIter_bytes
      exact ⟨_, rfl, h⟩
def enumP (ks : List Int) : List (Int × Int) := pairsOf ks (List.range ks.length)
section
variable {prog : Program} {w : World} {A : Around} {E : Value → Shared → Prop} {s : Shared} {b : Array UInt8} {t : Tok} {h₀ : Heap} {L : Addr} {m : Str → Option Value} {news : List (Addr × Obj)}
theorem en_callK {Q : Value → Shared → Prop} (F : Fr h₀ L s.heap m) (N : News h₀ L s.heap news)
    (h : ∀ e it h', Fr h₀ L h' m → News h₀ L h' ((e, enObj it) :: (it, biObj b t) :: news) → (it < e ∧ ∀ q ∈ news, q.1 < it) → Q (.ref e) { s with heap := h' }) :
    wpAny (model prog w) A (call (.type "enumerate") [.bytes b t]) Q E s := by
  refine callType_new PySem.F.called_enumerate (by decide) (PySem.F.typeCall_enumerate_1 _) (PySem.F.newCall_enumerate_1 _) (fun obj => PySem.F.args_object_init_2 obj _) PySem.F.entry_enumerate_new
    (meets_enum_newB b t) ?_
  have hz : (s.heap.push (biObj b t)).objs.size = s.heap.objs.size + 1 := Heap.size_push ..
  show _ ∧ _
  have F1 : Fr h₀ L (s.heap.push (biObj b t)) m := F.push _
  have F2 : Fr h₀ L ((s.heap.push (biObj b t)).push (enObj s.heap.objs.size)) m := F1.push _
  have g0 : ((s.heap.push (biObj b t)).push (enObj s.heap.objs.size)).get? (s.heap.push (biObj b t)).objs.size = some (enObj s.heap.objs.size) := Heap.get?_push_size _ rfl
  refine ⟨⟨_, g0, rfl⟩, h _ s.heap.objs.size _ F2 ?_ ⟨by rw [hz]; exact Nat.lt_succ_self _, fun q hq => Heap.lt_size (N q hq).1⟩⟩
  intro q hq
  rcases List.mem_cons.mp hq with rfl | hq
  · exact ⟨g0, (kdx_fresh F1 (Nat.le_refl _)).1, (kdx_fresh F1 (Nat.le_refl _)).2⟩
  · rcases List.mem_cons.mp hq with rfl | hq
    · exact ⟨Heap.get?_push_of_some _ (Heap.get?_push_size _ rfl), (kdx_fresh F (Nat.le_refl _)).1, (kdx_fresh F (Nat.le_refl _)).2⟩
    · exact ⟨Heap.get?_push_of_some _ (Heap.get?_push_of_some _ (N q hq).1), (N q hq).2⟩
theorem en_listK {Q : Value → Shared → Prop} {e it : Addr} {ks : List Int} (hh : A.handled = none) (F : Fr h₀ L s.heap m) (N : News h₀ L s.heap ((e, enObj it) :: (it, biObj b t) :: news)) (hlt : it < e ∧ ∀ q ∈ news, q.1 < it)
    (hb : KBw.bInts b = ks) (hn : ks.length ≤ 40)
    (h : ∀ B vs c tups h' tk, Fr h₀ L h' m → News h₀ L h' ((B, listOf vs.toArray c) :: (tups ++ news)) → PairsIn tups vs (enumP ks) → Q (.ref B) { s with heap := h', toks := tk }) :
    wpAny (model prog w) A (call (.type "list") [.ref e]) Q E s := by
  have hbs : b.size = ks.length := by rw [← hb, KBw.ints_length]
  have ge : s.heap.get? e = some (enObj it) := (N _ (.head _)).1
  have gi : s.heap.get? it = some (biObj b t) := (N _ (.tail _ (.head _))).1
  have hz : b.size ≤ sizeLine := by rw [sizeLine_eq]; omega
  have n0 := (N _ (.head _)).2
  have n1 := (N _ (.tail _ (.head _))).2
  refine en_list (b := b) (t := t) hh (Nat.ne_of_gt hlt.1) ge ⟨_, gi, rfl, rfl⟩ hz fun h' tk acc c as hk hS hl hG hacc => ?_
  have gk : ∀ c o, h₀.get? c = some o → h'.get? c = some o := fun c o y => hk c o (fun q => by rw [q, n0.2] at y; cases y) (fun q => by rw [q, n1.2] at y; cases y) (F.keep c o y)
  have F' : Fr h₀ L h' m := by
    obtain ⟨oL, es, ep, hL, r⟩ := F.ns
    exact ⟨⟨oL, es, ep, hk L _ (Ne.symm n0.1) (Ne.symm n1.1) hL, r⟩, gk, F.above⟩
  have hfr := fun a (ha : s.heap.objs.size ≤ a) => kdx_fresh F ha
  have ho : (acc : Array Value) = (as.map Value.ref).toArray := by rw [← hacc]
  subst ho
  refine h s.heap.objs.size (as.map Value.ref) c (as.map fun a => (a, (h'.get? a).getD (enObj it))) h' tk F' ?_ ?_
  · intro q hq
    rcases List.mem_cons.mp hq with rfl | hq
    · exact ⟨hS, (hfr _ (Nat.le_refl _)).1, (hfr _ (Nat.le_refl _)).2⟩
    · rcases List.mem_append.mp hq with hq | hq
      · obtain ⟨a, ha, rfl⟩ := List.mem_map.mp hq
        obtain ⟨j, hj⟩ := List.mem_iff_getElem?.mp ha
        obtain ⟨_, _, _, _, e2⟩ := hG.pairs j a hj
        have hla := Nat.le_of_lt (hG.above a ha)
        refine ⟨?_, (hfr a hla).1, (hfr a hla).2⟩
        show h'.get? a = some ((h'.get? a).getD _)
        rw [e2]; rfl
      · have y := N q (.tail _ (.tail _ hq))
        have l1 := hlt.2 q hq
        have l2 := hlt.1
        exact ⟨hk q.1 q.2 (Nat.ne_of_lt (Nat.lt_trans l1 l2)) (Nat.ne_of_lt l1) y.1, y.2⟩
  · refine ⟨by rw [List.length_map, enumP, pairsOf, List.length_map, List.length_range, hl, hbs], fun i p hp => ?_⟩
    have hi : i < ks.length := by
      have := (List.getElem?_eq_some_iff.mp hp).1
      simpa [enumP, pairsOf] using this
    have hia : i < as.length := by rw [hl, hbs]; exact hi
    obtain ⟨c', t', u', e1, e2⟩ := hG.pairs i as[i] (List.getElem?_eq_getElem hia)
    have e3 : ks[i]? = some (c'.toNat : Int) := by rw [← hb]; exact KBw.ints_get e1
    have e4 : p = ((i : Int), (c'.toNat : Int)) := by
      simp only [enumP, pairsOf, List.getElem?_map, List.getElem?_range hi, Option.map_some] at hp
      rw [← Option.some.inj hp, List.getD_eq_getElem?_getD, e3]; rfl
    subst e4
    refine ⟨as[i], t', u', by simp [hia], ?_⟩
    refine List.mem_map.mpr ⟨as[i], List.getElem_mem hia, ?_⟩
    rw [e2]; rfl
end
end Mine

end QEnum2
section QRule
example : True := by
  w_top off
  trivial
open PySem PySem.W PyProof.Rows PySem.Calls PySem.Spec PySem.SeqAt
set_option Elab.async false
set_option maxRecDepth 100000
set_option maxHeartbeats 8000000
set_option linter.unusedVariables false
namespace Mine
abbrev pairA (k x : Int) (t u : Tok) : Array Value := [Value.int k t, Value.int x u].toArray
def ltP (p q : Int × Int) : Bool := decide (p.1 < q.1) || (decide (p.1 = q.1) && decide (p.2 < q.2))
theorem IsTup.inj {h : Heap} {a : Addr} {xs ys : Array Value} (x : IsTup h a xs) (y : IsTup h a ys) : xs = ys := by
  obtain ⟨o, ho, _, n, hd⟩ := x
  obtain ⟨o', ho', _, n', hd'⟩ := y
  rw [ho] at ho'
  cases ho'
  rw [hd] at hd'
  injection hd'
theorem int_beq (a b : Int) : (a == b) = decide (a = b) := by rw [Bool.eq_iff_iff]; simp
theorem rc_pair {A : Around} {s : Shared} {a b : Addr} {p q : Int × Int} {t u v z : Tok} (ha : IsTup s.heap a (pairA p.1 p.2 t u)) (hb : IsTup s.heap b (pairA q.1 q.2 v z)) (hu : A.units < cLine) :
    RcAt A s (.ref a) (.ref b) (decide (p = q)) := by
  have e : ((List.range (min (pairA p.1 p.2 t u).size (pairA q.1 q.2 v z).size)).all (fun j => if j = 0 then decide (p.1 = q.1) else decide (p.2 = q.2)) && (pairA p.1 p.2 t u).size == (pairA q.1 q.2 v z).size) = decide (p = q) := by
    obtain ⟨p1, p2⟩ := p
    obtain ⟨q1, q2⟩ := q
    simp [List.range_succ, Prod.ext_iff]
  rw [← e]
  refine RcAt.tuples ha hb hu fun j h1 h2 => ?_
  have hj : j = 0 ∨ j = 1 := by have : (pairA p.1 p.2 t u).size = 2 := rfl; omega
  rcases hj with rfl | rfl
  · intro prog w E Q h
    exact wpAny_eqBool_int (by rw [int_beq]; simpa using h)
  · intro prog w E Q h
    exact wpAny_eqBool_int (by rw [int_beq]; simpa using h)
theorem eqAt_pair {A : Around} {s : Shared} {a b : Addr} {p q : Int × Int} {t u v z : Tok} (ha : IsTup s.heap a (pairA p.1 p.2 t u)) (hb : IsTup s.heap b (pairA q.1 q.2 v z)) (hu : A.units < cLine) :
    EqAt A s (.ref a) (.ref b) (decide (p = q)) := by
  by_cases hab : a = b
  · subst hab
    have e := IsTup.inj ha hb
    have e1 : p = q := by
      have := congrArg Array.toList e
      simp at this
      exact Prod.ext this.1.1 this.2.1
    rw [decide_eq_true e1]
    exact EqAt.same _
  · exact EqAt.of_refs hab (rc_pair ha hb hu)
theorem rcLt_int {prog : Program} {w : World} {A : Around} {E : Value → Shared → Prop} {s : Shared} {a b : Int} {t u : Tok} {Q : Value → Shared → Prop} (h : Q (.bool (decide (a < b))) s) : wpAny (model prog w) A (richCompare .Lt (.int a t) (.int b u)) Q E s := wpAny_lt_int h
theorem tuple_lt2 (l b : Addr) (k x j y : Int) (t1 t2 t3 t4 : Tok) (n n2 : Nat) (dd dd2 : Option Addr) (sl sl2 : Array (Option Value)) :
    Meets (Builtin.«tuple.__lt__» ⟨[.ref l, .ref b], []⟩)
      (fun A R s => s.heap.get? l = some { cls := .type "tuple", dict := dd, data := .seq (pairA k x t1 t2) n, slots := sl } ∧ s.heap.get? b = some { cls := .type "tuple", dict := dd2, data := .seq (pairA j y t3 t4) n2, slots := sl2 } ∧
        R (.ok (.ret (.bool (ltP (k, x) (j, y))))) s) :=
  .of_wp fun prog w A R s h => by
    obtain ⟨hp, g, d, tk, os⟩ := s; obtain ⟨hl, hb, h⟩ := h
    have f2 := AutoSeq1.sub_tuple_tuple
    wp_walk using AutoSeq1.wpAny_loadPart' hl, AutoSeq1.wpAny_loadPart' hb, wpAny_forIn_list _ (fun rest b s' => b.1 = none ∧ s' = ⟨hp, g, d, tk, os⟩ ∧
      (rest = [(Value.int k t1, Value.int j t3), (Value.int x t2, Value.int y t4)] ∨ (rest = [(Value.int x t2, Value.int y t4)] ∧ k = j) ∨ (rest = [] ∧ k = j ∧ x = y))) _
    case turn =>
      rintro ⟨v, z⟩ rest b s' ⟨hb', rfl, hr⟩
      rcases hr with hr | ⟨hr, rfl⟩ | ⟨hr, _⟩
      · injection hr with h1 h2
        injection h1 with h1 h3
        subst h1 h3 h2
        refine wpAny_bind (wpAny_eqBool_int ?_)
        by_cases hkj : k = j
        · subst hkj
          rw [beq_self_eq_true]
          wp_walk
          exact ⟨rfl, rfl, .inr (.inl ⟨rfl, rfl⟩)⟩
        · rw [beq_eq_false_iff_ne.mpr hkj]
          wp_walk using rcLt_int
          refine ⟨_, rfl, ?_⟩
          have e : ltP (k, x) (j, y) = decide (k < j) := by simp [ltP, hkj]
          rw [e] at h; exact h
      · injection hr with h1 h2
        injection h1 with h1 h3
        subst h1 h3 h2
        refine wpAny_bind (wpAny_eqBool_int ?_)
        by_cases hkj : x = y
        · subst hkj
          rw [beq_self_eq_true]
          wp_walk
          exact ⟨rfl, rfl, .inr (.inr ⟨rfl, rfl, rfl⟩)⟩
        · rw [beq_eq_false_iff_ne.mpr hkj]
          wp_walk using rcLt_int
          refine ⟨_, rfl, ?_⟩
          have e : ltP (k, x) (k, y) = decide (x < y) := by simp [ltP]
          rw [e] at h; exact h
      · cases hr
    case fin =>
      rintro ⟨b1, b2⟩ s' ⟨hb', rfl, hr⟩
      simp only at hb'
      subst hb'
      rcases hr with hr | ⟨hr, _⟩ | ⟨_, rfl, rfl⟩
      · cases hr
      · cases hr
      · wp_walk
        refine ⟨_, rfl, ?_⟩
        have e : ltP (k, x) (k, x) = false := by simp [ltP]
        rw [e] at h; exact h
    case h =>
      exact ⟨rfl, rfl, .inl rfl⟩
theorem rcGt_int {prog : Program} {w : World} {A : Around} {E : Value → Shared → Prop} {s : Shared} {a b : Int} {t u : Tok} {Q : Value → Shared → Prop} (h : Q (.bool (decide (b < a))) s) : wpAny (model prog w) A (richCompare .Gt (.int a t) (.int b u)) Q E s := PyProof.Rows.gt_int h
theorem tuple_gt2 (l b : Addr) (k x j y : Int) (t1 t2 t3 t4 : Tok) (n n2 : Nat) (dd dd2 : Option Addr) (sl sl2 : Array (Option Value)) :
    Meets (Builtin.«tuple.__gt__» ⟨[.ref l, .ref b], []⟩)
      (fun A R s => s.heap.get? l = some { cls := .type "tuple", dict := dd, data := .seq (pairA k x t1 t2) n, slots := sl } ∧ s.heap.get? b = some { cls := .type "tuple", dict := dd2, data := .seq (pairA j y t3 t4) n2, slots := sl2 } ∧
        R (.ok (.ret (.bool (ltP (j, y) (k, x))))) s) :=
  .of_wp fun prog w A R s h => by
    obtain ⟨hp, g, d, tk, os⟩ := s; obtain ⟨hl, hb, h⟩ := h
    have f2 := AutoSeq1.sub_tuple_tuple
    wp_walk using AutoSeq1.wpAny_loadPart' hl, AutoSeq1.wpAny_loadPart' hb, wpAny_forIn_list _ (fun rest b s' => b.1 = none ∧ s' = ⟨hp, g, d, tk, os⟩ ∧
      (rest = [(Value.int k t1, Value.int j t3), (Value.int x t2, Value.int y t4)] ∨ (rest = [(Value.int x t2, Value.int y t4)] ∧ k = j) ∨ (rest = [] ∧ k = j ∧ x = y))) _
    case turn =>
      rintro ⟨v, z⟩ rest b s' ⟨hb', rfl, hr⟩
      rcases hr with hr | ⟨hr, rfl⟩ | ⟨hr, _⟩
      · injection hr with h1 h2
        injection h1 with h1 h3
        subst h1 h3 h2
        refine wpAny_bind (wpAny_eqBool_int ?_)
        by_cases hkj : k = j
        · subst hkj
          rw [beq_self_eq_true]
          wp_walk
          exact ⟨rfl, rfl, .inr (.inl ⟨rfl, rfl⟩)⟩
        · rw [beq_eq_false_iff_ne.mpr hkj]
          wp_walk using rcGt_int
          refine ⟨_, rfl, ?_⟩
          have e : ltP (j, y) (k, x) = decide (j < k) := by simp [ltP, Ne.symm hkj]
          rw [e] at h; exact h
      · injection hr with h1 h2
        injection h1 with h1 h3
        subst h1 h3 h2
        refine wpAny_bind (wpAny_eqBool_int ?_)
        by_cases hkj : x = y
        · subst hkj
          rw [beq_self_eq_true]
          wp_walk
          exact ⟨rfl, rfl, .inr (.inr ⟨rfl, rfl, rfl⟩)⟩
        · rw [beq_eq_false_iff_ne.mpr hkj]
          wp_walk using rcGt_int
          refine ⟨_, rfl, ?_⟩
          have e : ltP (k, y) (k, x) = decide (y < x) := by simp [ltP]
          rw [e] at h; exact h
      · cases hr
    case fin =>
      rintro ⟨b1, b2⟩ s' ⟨hb', rfl, hr⟩
      simp only at hb'
      subst hb'
      rcases hr with hr | ⟨hr, _⟩ | ⟨_, rfl, rfl⟩
      · cases hr
      · cases hr
      · wp_walk
        refine ⟨_, rfl, ?_⟩
        have e : ltP (k, x) (k, x) = false := by simp [ltP]
        rw [e] at h; exact h
    case h =>
      exact ⟨rfl, rfl, .inl rfl⟩

section
variable {prog : Program} {w : World} {A : Around} {E : Value → Shared → Prop} {s : Shared} {a b : Addr} {p q : Int × Int} {t u v z : Tok} {Q : Value → Shared → Prop}
theorem lt_pair (ha : IsTup s.heap a (pairA p.1 p.2 t u)) (hb : IsTup s.heap b (pairA q.1 q.2 v z)) (hu : A.units < cLine) (h : Q (.bool (ltP p q)) s) : wpAny (model prog w) A (compareOp .Lt (.ref a) (.ref b)) Q E s := by
  obtain ⟨⟨cls, dd, data, sl⟩, ho, hc, n, hd⟩ := id ha
  obtain ⟨⟨cls2, dd2, data2, sl2⟩, ho2, hc2, n2, hd2⟩ := id hb
  simp only at hc hd hc2 hd2
  subst hc hd hc2 hd2
  exact richCompare_meets_room (op := .Lt) ⟨_, ho, rfl⟩ ⟨_, ho2, rfl⟩ PySem.F.slot_tuple_lt PySem.F.entry_tuple_lt (PySem.F.args_tuple_lt_2 _ _) (tuple_lt2 a b p.1 p.2 q.1 q.2 t u v z n n2 dd dd2 sl sl2)
    ⟨ho, ho2, show Value.bool (ltP p q) ≠ Value.notImplemented ∧ Q (.bool (ltP p q)) s from ⟨(fun x => nomatch x), h⟩⟩ hu
theorem gt_pair (ha : IsTup s.heap a (pairA p.1 p.2 t u)) (hb : IsTup s.heap b (pairA q.1 q.2 v z)) (hu : A.units < cLine) (h : Q (.bool (ltP q p)) s) : wpAny (model prog w) A (compareOp .Gt (.ref a) (.ref b)) Q E s := by
  obtain ⟨⟨cls, dd, data, sl⟩, ho, hc, n, hd⟩ := id ha
  obtain ⟨⟨cls2, dd2, data2, sl2⟩, ho2, hc2, n2, hd2⟩ := id hb
  simp only at hc hd hc2 hd2
  subst hc hd hc2 hd2
  exact richCompare_meets_room (op := .Gt) ⟨_, ho, rfl⟩ ⟨_, ho2, rfl⟩ PySem.F.slot_tuple_gt PySem.F.entry_tuple_gt (PySem.F.args_tuple_gt_2 _ _) (tuple_gt2 a b p.1 p.2 q.1 q.2 t u v z n n2 dd dd2 sl sl2)
    ⟨ho, ho2, show Value.bool (ltP q p) ≠ Value.notImplemented ∧ Q (.bool (ltP q p)) s from ⟨(fun x => nomatch x), h⟩⟩ hu
theorem eq_pair (ha : IsTup s.heap a (pairA p.1 p.2 t u)) (hb : IsTup s.heap b (pairA q.1 q.2 v z)) (hu : A.units < cLine) (h : Q (.bool (decide (p = q))) s) : wpAny (model prog w) A (compareOp .Eq (.ref a) (.ref b)) Q E s :=
  rc_pair ha hb hu prog w E Q h
theorem ne_same {xs ys : List Value} (ha : s.heap.IsList a xs.toArray) (hb : s.heap.IsList b ys.toArray) (hl : xs.length = ys.length) (hu : A.units < cLine)
    (he : ∀ j (h1 : j < xs.length) (h2 : j < ys.length), EqAt A.in1 s xs[j] ys[j] true) (h : Q (.bool false) s) : wpAny (model prog w) A (compareOp .NotEq (.ref a) (.ref b)) Q E s := by
  refine RcNeAt.lists (e := fun _ => true) ha hb (by simpa using hl) hu (fun j h1 h2 => by simpa using he j (by simpa using h1) (by simpa using h2)) prog w E Q ?_
  have e : (!(List.range xs.toArray.size).all (fun _ => true)) = false := by simp
  rw [e]; exact h
theorem ne_pairs {xs ys : List Value} {ps : List (Int × Int)} (ha : s.heap.IsList a xs.toArray) (hb : s.heap.IsList b ys.toArray) (hx : PairsAre s.heap xs ps) (hy : PairsAre s.heap ys ps) (hu : A.units + 64 < cLine) (h : Q (.bool false) s) :
    wpAny (model prog w) A (compareOp .NotEq (.ref a) (.ref b)) Q E s := by
  refine ne_same ha hb (by rw [hx.len, hy.len]) (by omega) (fun j h1 h2 => ?_) h
  have hj : j < ps.length := by rw [← hx.len]; exact h1
  obtain ⟨a1, t1, u1, e1, T1⟩ := hx.get j ps[j] (List.getElem?_eq_getElem hj)
  obtain ⟨a2, t2, u2, e2, T2⟩ := hy.get j ps[j] (List.getElem?_eq_getElem hj)
  rw [List.getElem?_eq_getElem h1] at e1
  rw [List.getElem?_eq_getElem h2] at e2
  rw [Option.some.inj e1, Option.some.inj e2]
  have := eqAt_pair (A := A.in1) T1 T2 (by have := units_in1 A; omega)
  simpa using this
theorem bytes_eq {c d : Array UInt8} (h : KBw.bInts c = KBw.bInts d) : c = d := by
  have e : c.toList = d.toList := by
    unfold KBw.bInts at h
    have hinj : Function.Injective (fun x : UInt8 => ((x.toNat : Nat) : Int)) := fun x y e => UInt8.toNat_inj.mp (Int.ofNat_inj.mp e)
    exact (List.map_inj_right hinj).mp h
  exact Array.toList_inj.mp e
theorem ne_bytes {xs ys : List Value} {kss : List (List Int)} (ha : s.heap.IsList a xs.toArray) (hb : s.heap.IsList b ys.toArray) (hx : BytesAre xs kss) (hy : BytesAre ys kss) (hu : A.units + 64 < cLine) (h : Q (.bool false) s) :
    wpAny (model prog w) A (compareOp .NotEq (.ref a) (.ref b)) Q E s := by
  refine ne_same ha hb (by rw [hx.length, hy.length]) (by omega) (fun j h1 h2 => ?_) h
  have hj : j < kss.length := by rw [← hx.length]; exact h1
  obtain ⟨b1, t1, e1, T1⟩ := hx.get j kss[j] (List.getElem?_eq_getElem hj)
  obtain ⟨b2, t2, e2, T2⟩ := hy.get j kss[j] (List.getElem?_eq_getElem hj)
  rw [List.getElem?_eq_getElem h1] at e1
  rw [List.getElem?_eq_getElem h2] at e2
  rw [Option.some.inj e1, Option.some.inj e2]
  have : b1 = b2 := bytes_eq (by rw [T1, T2])
  subst this
  intro prog w E Q h
  exact eqBool_bytes (by simpa using h)
end
end Mine

end QRule
section QRaise
example : True := by
  w_top off
  trivial
open PySem PySem.W PyProof.Rows PySem.Calls PySem.Spec
open PyProof.Rows.TI (gone gone_get gone_none gone_some none_of Frs SameUp frames_at sameUp_of tail_sub base_apart)
set_option Elab.async false
set_option maxRecDepth 100000
set_option maxHeartbeats 8000000
set_option linter.unusedVariables false
namespace Mine
/-- a new exception, with its context -/
structure NewC (h h' : Heap) (e : Addr) (cls : String) (c : Value) : Prop where
  keeps : ∀ b o, h.get? b = some o → h'.get? b = some o
  new : h.get? e = none
  there : ∃ ob t, h'.get? e = some ob ∧ ob.cls = .type cls ∧ ob.data = .fields #[t, .none, c, .none, .bool false, .none]
theorem NewC.of {h h' : Heap} {e : Addr} {cls : String} (x : Heap.NewExc h h' e cls) : NewC h h' e cls .none := ⟨x.keeps, x.new, x.there⟩
theorem entry_unchain : entryFor table "proto.unchain" = some Builtin.«proto.unchain» := entryFor_of_tree (by kernel_rfl)
theorem plain_unchain : plainId "proto.unchain" = true := by decide +kernel
section
variable {prog : Program} {w : World} {A : Around} {E : Value → Shared → Prop} {s : Shared}
theorem raiseNew_in {α : Type} {Q : α → Shared → Prop} {e e₁ : Addr} {o o₁ : Obj} {vs vs₁ : Array Value} (hh : A.handled = some (.ref e₁)) (hne : e₁ ≠ e) (h1 : s.heap.get? e₁ = some o₁) (hd : o₁.data = .fields vs₁) (hc : vs₁[2]? = some .none)
    (he : s.heap.get? e = some o) (hed : o.data = .fields vs) (hsz : 2 < vs.size) (h : E (.ref e) { s with heap := s.heap.update e (Obj.mapFields (·.setIfInBounds 2 (.ref e₁))) }) :
    wpAny (model prog w) A (raiseNew (.ref e) : Sem α) Q E s := by
  unfold raiseNew
  refine wpAny_bind (wpAny_handled ?_)
  rw [hh]
  dsimp only
  rw [if_pos (by simpa using hne)]
  refine wpAny_bind (wpAny_holding (wpAny_runValue (codeAny_builtin entry_unchain ?_)))
  rw [Around.under_plainId plain_unchain _]
  show wpAny _ _ (field (.ref e₁) 2 >>= _) _ _ _
  refine wpAny_bind (wpAny_field h1 hd hc ?_)
  refine wpAny_bind (wpAny_pure ?_)
  refine wpAny_pure ?_
  refine wpAny_bind (m := updateField e 2 (.ref e₁)) (show wpAny _ _ (setField (.ref e) 2 (.ref e₁)) _ _ _ from wpAny_setField he hed hsz ?_)
  exact wpAny_throw h
theorem raise_in {cls msg : String} {α : Type} {Q : α → Shared → Prop} {e₁ : Addr} {o₁ : Obj} {vs₁ : Array Value} (hp : PlainExc cls) (hh : A.handled = some (.ref e₁)) (h1 : s.heap.get? e₁ = some o₁) (hd : o₁.data = .fields vs₁) (hc : vs₁[2]? = some .none)
    (h : ∀ h' tk e, NewC s.heap h' e cls (.ref e₁) → E (.ref e) { s with heap := h', toks := tk }) :
    wpAny (model prog w) A (raiseErrorWords cls msg : Sem α) Q E s := by
  unfold raiseErrorWords
  refine wpAny_bind (wpAny_mkText (wpAny_bind ?_))
  unfold newExc newTuple
  refine wpAny_bind (wpAny_newObj_type ?_)
  refine wpAny_bind (m := firstArgMember _ _) (wpAny_of_eq (a := Value.none) (by simp only [firstArgMember, hp.first]; rfl) ?_)
  rw [hp.own]
  refine wpAny_newObj_type ?_
  have hlt := Heap.lt_size h1
  refine raiseNew_in hh ?_ (Heap.get?_push_of_some _ (Heap.get?_push_of_some _ h1)) hd hc (Heap.get?_push_size _ rfl) rfl (by simp) ?_
  · refine Nat.ne_of_lt (Nat.lt_of_lt_of_le hlt ?_)
    simp only [Heap.size_push]
    exact Nat.le_succ _
  · refine h _ _ _ ⟨fun b o hb => ?_, Heap.get?_none_of_le (by simp), ?_⟩
    · have hb' := Heap.lt_size hb
      refine (Heap.get?_update_other _ _ ?_).trans (Heap.get?_push_of_some _ (Heap.get?_push_of_some _ hb))
      refine Nat.ne_of_gt (Nat.lt_of_lt_of_le hb' ?_)
      simp only [Heap.size_push]
      exact Nat.le_succ _
    · refine ⟨_, .ref s.heap.objs.size, Heap.get?_update_self _ (Heap.get?_push_size _ rfl) (Obj.isFreed_of_fields (Obj.data_mapFields rfl _)), Obj.cls_mapFields .., ?_⟩
      refine (Obj.data_mapFields rfl _).trans ?_
      simp
theorem getItem_out_in {l e₁ : Addr} {items : Array Value} {k : Int} {t : Tok} {Q : Value → Shared → Prop} {o₁ : Obj} {vs₁ : Array Value} (hh : A.handled = some (.ref e₁)) (h1 : s.heap.get? e₁ = some o₁) (hd1 : o₁.data = .fields vs₁) (hc1 : vs₁[2]? = some .none)
    (hl : s.heap.IsList l items) (hout : (items.size : Int) ≤ k) (hhi : k < 2 ^ 63)
    (hE : ∀ h' tk e, NewC s.heap h' e "IndexError" (.ref e₁) → E (.ref e) { s with heap := h', toks := tk }) :
    wpAny (model prog w) A (getItem (.ref l) (.int k t)) Q E s := by
  obtain ⟨o, ho, hc, ne, hd⟩ := id hl
  unfold getItem
  try with_reducible refine wpAny_holding ?_
  first | refine wpAny_bind (wpAny_pure ?_) | skip
  refine wpAny_bind (wpAny_sequenceKey hl.typeIs (by decide) ?_)
  refine wpAny_bind (wpAny_callSpecial?_slot (name := PySem.Str.ofString "__getitem__") hl.typeIs slot_list_getitem
    (wpAny_call_entry slot_list_getitem hl.typeIs entry_list_getitem ?_ (args_list_getitem _ _)))
  show wpAny _ _ (Builtin.List.listSubscript? (.int k t) >>= _) _ _ s
  refine wpAny_bind (wpAny_listSubscript_int (fitsIndex_both (by omega) hhi) ?_)
  cases k with
  | ofNat j =>
    have hx : items[j]? = none := Array.getElem?_eq_none (by have : (items.size : Int) ≤ (j : Int) := hout; omega)
    show wpAny _ _ ((seqItemAt l j >>= fun r => pure (r.map (j, ·))) >>= _) _ _ s
    refine wpAny_bind (wpAny_bind (wpAny_seqItemAt ho hd (wpAny_pure ?_)))
    rw [hx]
    have key : ∀ {α : Type} {Q : α → Shared → Prop}, wpAny (model prog w) A.in1 (raiseErrorWords "IndexError" "list index out of range" : Sem α) Q E s := fun {α Q} => raise_in (A := A.in1) plainExc_IndexError hh h1 hd1 hc1 hE
    first
      | exact wpAny_bind (wpAny_rule key)
      | exact wpAny_bind (wpAny_rule (wpAny_bind key))
      | exact wpAny_bind (wpAny_bind (wpAny_rule key))
      | exact wpAny_rule key
  | negSucc j => exact absurd hout (by have := Int.negSucc_lt_zero j; omega)
theorem item_out_in {value slice : PySem.Expr} {l e₁ : Addr} {items : Array Value} {k : Int} {u : Tok} {Q : Value → Shared → Prop} {o₁ : Obj} {vs₁ : Array Value} (hh : A.handled = some (.ref e₁)) (h1 : s.heap.get? e₁ = some o₁) (hd1 : o₁.data = .fields vs₁) (hc1 : vs₁[2]? = some .none)
    (hl : s.heap.IsList l items) (hout : (items.size : Int) ≤ k) (hhi : k < 2 ^ 63)
    (hE : ∀ h' tk e, NewC s.heap h' e "IndexError" (.ref e₁) → E (.ref e) { s with heap := h', toks := tk })
    (hs : subscripted slice false (.ref l) (.int k u) = operate [.ref l, .int k u] (getItem (.ref l) (.int k u)) := by with_unfolding_all rfl) :
    wpAny (model prog w) A (subscriptTail value slice (.ref l) (.int k u)) Q E s :=
  tail_any hl.typeIs slot_list_getitem.lookup (getItem_out_in hh h1 hd1 hc1 hl hout hhi hE) hs
end
/-- the first look at an exception, said in full -/
theorem note_p {M : Model} {A : Around} {E : Value → Shared → Prop} {s : Shared} {base : Heap} {env : Env} {outer : List Env} {L e : Addr} {oe : Obj} {vs : Array Value} {Q : Unit → Shared → Prop}
    (hfr : A.frames = some (env :: outer)) (hl : s.heap.FunFrames base (env :: outer)) (hf : env.frame = some L)
    (he : s.heap.get? e = some oe) (hd : oe.data = .fields vs) (h1 : vs[1]? = some .none)
    (h : ∀ h' T oT ts, (∀ b o, b ∉ (env :: outer).filterMap (·.frame) → b ≠ e → s.heap.get? b = some o → h'.get? b = some o) → (∀ b o, b ≠ e → s.heap.get? b = some o → ∃ sl, h'.get? b = some { o with slots := sl }) →
      h'.get? e = some (oe.mapFields (·.setIfInBounds 1 (.ref T))) → s.heap.get? T = none → h'.get? T = some oT → oT.data = .fields ts → ts[3]? = some (rawInt L) → Q () { s with heap := h' }) :
    wpAny M A (noteFrame (.ref e) env) Q E s := by
  have hsz : 1 < vs.size := (Array.getElem?_eq_some_iff.mp h1).1
  have hene : e ∉ (env :: outer).filterMap (·.frame) := fun hm => by
    obtain ⟨_, o, ho, hnf⟩ := hl.mem hm
    rw [he] at ho; injection ho with ho; subst ho; exact hnf vs hd
  unfold noteFrame
  simp only [hf]
  refine wpAny_bind (wpAny_field he hd h1 ?_)
  rw [if_neg (by decide)]
  refine wpAny_bind (wpAny_frameOf_fun hfr hl hf fun h₁ hs₁ => ?_)
  refine wpAny_bind (wpAny_entryPlaceOf fun pl hpl => ?_)
  unfold EntryCells.newEntry newFields
  refine wpAny_bind (wpAny_newObj_type ?_ (hpl.sizeOk5 _ _ _ _ _))
  have he₁ : h₁.get? e = some oe := (hs₁.2.1 e hene).trans he
  have he₂ := Heap.get?_push_of_some (h := h₁) { cls := .type "traceback", dict := none, data := .fields ([.none, .ref L, .none, rawInt L, .none] ++ (if pl.isEmpty then List.replicate 6 Value.none else pl)).toArray } he₁
  have hTe : h₁.objs.size ≠ e := Nat.ne_of_gt (Heap.lt_size he₁)
  have hd₃ := Obj.data_mapFields hd (·.setIfInBounds 1 (Value.ref h₁.objs.size))
  have he₃ := Heap.get?_update_self (Obj.mapFields (·.setIfInBounds 1 (Value.ref h₁.objs.size))) he₂ (Obj.isFreed_of_fields hd₃)
  have hT₃ := (Heap.get?_update_other (h₁.push { cls := .type "traceback", dict := none, data := .fields ([.none, .ref L, .none, rawInt L, .none] ++ (if pl.isEmpty then List.replicate 6 Value.none else pl)).toArray })
    (Obj.mapFields (·.setIfInBounds 1 (Value.ref h₁.objs.size))) (Ne.symm hTe)).trans (Heap.get?_push_size h₁ rfl)
  have keep : ∀ b o, b ≠ e → h₁.get? b = some o →
      ((h₁.push { cls := .type "traceback", dict := none, data := .fields ([.none, .ref L, .none, rawInt L, .none] ++ (if pl.isEmpty then List.replicate 6 Value.none else pl)).toArray }).update e (Obj.mapFields (·.setIfInBounds 1 (Value.ref h₁.objs.size)))).get? b = some o :=
    fun b o hbe hb => by
      rw [Heap.get?_update_other _ _ (Ne.symm hbe)]
      exact Heap.get?_push_of_some _ hb
  refine wpAny_setField he₂ hd hsz (h _ h₁.objs.size _ _ (fun b o hb hbe hbo => keep b o hbe ((hs₁.2.1 b hb).trans hbo)) (fun b o hbe hbo => ?_) he₃ (Heap.get?_none_of_le (by rw [hs₁.1]; exact Nat.le_refl _)) hT₃ rfl ?_)
  · obtain ⟨sl, hsl⟩ := hs₁.2.2 b o hbo
    exact ⟨sl, keep b _ hbe hsl⟩
  · first | (simp; done) | (rcases hpl with rfl | ⟨_, _, _, _, _, _, _, rfl⟩ <;> simp)
section
variable {prog : Program} {w : World} {A : Around} {E : Value → Shared → Prop} {s' : Shared} {hb h : Heap} {L a e : Addr} {m : Str → Option Value} {name : Str} {scope : Scope} {cd : Value} {Q : Unit → Shared → Prop} {X : String} {l : List Env} {frs new : List (Addr × Obj)} {c : Value}
/-- the first look at a new exception, its context known -/
theorem noted_C (hfr : A.frames = some (envOf name scope L a cd :: l)) (Fs : Frs l frs) (hx : NewC h s'.heap e X c) (F : Fr hb L h m) (N : News hb L h (new ++ frs)) (hap : ∀ p ∈ new, p.1 ∉ L :: frs.map (·.1))
    (k : ∀ h' frs' ob vs, SameUp frs frs' → Frs l frs' → TT.HeldN hb L h' m e X (new ++ frs') → h'.get? e = some ob → ob.data = .fields vs → vs[2]? = some c → Q () { s' with heap := h' }) (hk : scope.kind = .function := by rfl) :
    wpAny (model prog w) A (noteFrame (.ref e) (envOf name scope L a cd)) Q E s' := by
  obtain ⟨ob, tp, he, hcls, hd⟩ := hx.there
  obtain ⟨hff, hNs, frs₁, SU, ht⟩ := frames_at (name := name) (a := a) (cd := cd) (h' := s'.heap) (base := gone h (L :: frs.map (·.1))) hk Fs F N tail_sub (fun b o hb' => ⟨o.slots, hx.keeps b o hb'⟩) fun b hm => gone_none hm
  refine note_p hfr hff rfl he hd rfl fun h' T oT ts k1 k2 k3 kT kT2 kT3 kT4 => ?_
  have hadr : (envOf name scope L a cd :: l).filterMap (·.frame) = L :: frs.map (·.1) := by
    rw [List.filterMap_cons]
    show L :: l.filterMap (·.frame) = _
    rw [Fs.addrs]
  rw [hadr] at k1
  have hne : ∀ b o, h.get? b = some o → b ≠ e := fun b o y q => by rw [q, hx.new] at y; cases y
  obtain ⟨oL, esL, epL, hL, rL⟩ := F.ns
  obtain ⟨slL, hL'⟩ := k2 L _ (hne L _ hL) (hx.keeps _ _ hL)
  obtain ⟨frs₂, SU₂, ht₂⟩ := sameUp_of (h' := h') (frs := frs) fun p hp => k2 p.1 p.2 (hne _ _ (N p (tail_sub p hp)).1) (hx.keeps _ _ (N p (tail_sub p hp)).1)
  have hTn : ∀ b o, h.get? b = some o → b ≠ T := fun b o y q => by rw [q] at y; rw [hx.keeps _ _ y] at kT; cases kT
  have hd3 := Obj.data_mapFields hd (·.setIfInBounds 1 (Value.ref T))
  have hbk : ∀ b o, hb.get? b = some o → h'.get? b = some o := fun b o y => k1 b o (base_apart F N tail_sub y) (hne b o (F.keep b o y)) (hx.keeps _ _ (F.keep b o y))
  have F' : Fr hb L h' m := ⟨⟨_, esL, epL, hL', rL⟩, hbk, F.above⟩
  have N' : News hb L h' (new ++ frs₂) := fun p hp => by
    rcases List.mem_append.mp hp with hp | hp
    · have y := N p (List.mem_append_left _ hp)
      exact ⟨k1 p.1 p.2 (hap p hp) (hne _ _ y.1) (hx.keeps _ _ y.1), y.2⟩
    · obtain ⟨x, hx', q⟩ := SU₂.fwd p hp
      have y := N x (tail_sub x hx')
      exact ⟨ht₂ p hp, by rw [q]; exact y.2.1, by rw [q]; exact y.2.2⟩
  refine k h' frs₂ _ _ SU₂ (Fs.up SU₂) ⟨⟨F', ⟨_, _, T, oT, ts, k3, (Obj.cls_mapFields ..).trans hcls, hd3, by simp, kT2, kT3, kT4, Ne.symm (hTn L _ hL), fun q => ?_, none_of (fun b o y => hx.keeps _ _ (F.keep b o y)) kT⟩, none_of F.keep hx.new⟩, N', ?_⟩ k3 hd3 (by simp)
  · rw [q, he] at kT; cases kT
  · intro ob' ws tb e1 e2 e3 p hp q
    rw [k3] at e1
    obtain rfl := Option.some.inj e1
    rw [hd3] at e2
    injection e2 with e2
    subst e2
    have e4 : tb = T := by simpa using e3.symm
    subst e4
    rcases List.mem_append.mp hp with hp | hp
    · exact hTn _ _ (N p (List.mem_append_left _ hp)).1 q
    · obtain ⟨x, hx', q'⟩ := SU₂.fwd p hp
      exact hTn _ _ (N x (tail_sub x hx')).1 (q' ▸ q)
end
end Mine

end QRaise
section QTry
example : True := by
  w_top off
  trivial
open PySem PySem.W PyProof.Rows PySem.Calls PySem.Spec
open PyProof.Rows.TI (gone gone_get gone_none gone_some none_of Frs SameUp frames_at sameUp_of tail_sub base_apart notDict notDict_ne)
set_option Elab.async false
set_option maxRecDepth 100000
set_option maxHeartbeats 8000000
set_option linter.unusedVariables false
namespace Mine
/-- the ground of a callee: the whole heap but the caller's frame and what the callee may change -/
structure Ground (h : Heap) (L : Addr) (ex : List (Addr × Obj)) (B : Heap) : Prop where
  has : ∀ b o, h.get? b = some o → b ≠ L → b ∉ ex.map (·.1) → B.get? b = some o
  of : ∀ b o, B.get? b = some o → h.get? b = some o ∧ b ≠ L ∧ b ∉ ex.map (·.1)
theorem Ground.isList {h B : Heap} {L l : Addr} {ex : List (Addr × Obj)} {xs : Array Value} (g : Ground h L ex B) (hl : h.IsList l xs) (h1 : l ≠ L) (h2 : l ∉ ex.map (·.1)) : B.IsList l xs := let ⟨o, ho, r⟩ := hl; ⟨o, g.has _ _ ho h1 h2, r⟩
theorem Ground.isTup {h B : Heap} {L l : Addr} {ex : List (Addr × Obj)} {xs : Array Value} (g : Ground h L ex B) (hl : IsTup h l xs) (h1 : l ≠ L) (h2 : l ∉ ex.map (·.1)) : IsTup B l xs := let ⟨o, ho, r⟩ := hl; ⟨o, g.has _ _ ho h1 h2, r⟩
section
variable {prog : Program} {w : World} {A : Around} {E : Value → Shared → Prop} {s : Shared} {K : Frag} {L : Addr} {h₀ : Heap} {m mg mb : Str → Option Value} {p : Program} {loose : List Str} {mean : ExcName → Option Value} {news : List (Addr × Obj)}
theorem enterT {env : Env} {R : Result → Shared → Prop} {name qual : Str} {params : Arguments} {body : List Stmt} {scope : Scope} {dV kV doc pm cdv ct oc : Value} {an od : Option Addr} {osl : Array (Option Value)} {f : Addr} {args : Args} {binds : List (Str × Value)}
    (ex : List (Addr × Obj)) (hex : ∀ q ∈ ex, q ∈ news) (F : Fr h₀ L s.heap m) (N : News h₀ L s.heap news) (X₀ : K.In h₀) (T : Top p loose mean mg mb h₀) (hA : A.frames = some [env]) (hf : env.frame = some L) (hke : env.scope.kind = .function)
    (ho : K.lookup f = some ⟨oc, od, .func (fnOf name qual params body scope dV kV doc pm an cdv ct), osl⟩) (hcd : codeIn K cdv qual = true) (hroom : A.depth < recursionLimit)
    (hbind : BindsTo s (fnOf name qual params body scope dV kV doc pm an cdv ct) args binds) (hloc : ∀ y ∈ binds, scope.names.lookup y.1 = some .local)
    (h : ∀ oL h₁ B, TI.Caller h₀ L m oL → Frs [env] [(L, oL)] → Ground s.heap L ex B → (∀ b o, h₀.get? b = some o → B.get? b = some o) → Fr B s.heap.objs.size h₁ (fun y => binds.reverse.lookup y) → News B s.heap.objs.size h₁ (ex ++ [(L, oL)]) → (∀ q ∈ ex, q.1 ≠ L) → K.In B → Top p loose mean mg mb B →
      wpAny (model prog w) (A.deeper (envOf qual scope s.heap.objs.size f cdv)) (execs body (envOf qual scope s.heap.objs.size f cdv))
        (fun fl s' => R (.ok (.ret (match fl with | .ret v => v | _ => .none))) s')
        (fun e s' => wpAny (model prog w) (A.deeper (envOf qual scope s.heap.objs.size f cdv)) (leaving (envOf qual scope s.heap.objs.size f cdv) e) (fun _ s'' => R (.error e) s'') (fun e' s'' => R (.error e') s'') s')
        { s with heap := h₁, toks := s.toks + binds.length })
    (hco : scope.isCoroutine = false) (hgen : scope.isGenerator = false) (hk : scope.kind = .function)
    (hcell : ∀ x ∈ scope.names, x.2 ≠ .cell) : codeAny (model prog w) A (.call (.ref f) args) R s := by
  have X := X₀.keeps F.keep
  obtain ⟨oL, es, ep, hL, hLd, hLk, hLf⟩ := id F.ns
  have hLt := Heap.lt_size hL
  have hkind : env.scope.kind ≠ .module := by rw [hke]; decide
  refine codeAny_call_def (fd := fnOf name qual params body scope dV kV doc pm an cdv ct) (body := body) (binds := binds) hroom (X _ _ ho) rfl (T.nolimit.keeps F.keep) (codeRec_of X hcd) rfl hbind hcell hloc (fun h₁ hns hk₁ => ?_) hco hgen hk
  have up : ∀ b o, s.heap.get? b = some o → h₁.get? b = some o := fun b o e => hk₁ b o e
  have hG : Ground s.heap L ex (gone s.heap (L :: ex.map (·.1))) := ⟨fun b o y h1 h2 => (gone_get fun hm => (List.mem_cons.mp hm).elim h1 h2).trans y, fun b o y => by
    obtain ⟨y1, y2⟩ := gone_some y
    exact ⟨y2, fun q => y1 (q ▸ List.mem_cons_self), fun q => y1 (List.mem_cons_of_mem _ q)⟩⟩
  have hkB : ∀ b o, h₀.get? b = some o → (gone s.heap (L :: ex.map (·.1))).get? b = some o := fun b o y => by
    refine hG.has b o (F.keep b o y) (fun q => ?_) fun hm => ?_
    · rw [q] at y; exact absurd (Nat.lt_of_lt_of_le (Heap.lt_size y) F.above) (Nat.lt_irrefl _)
    · obtain ⟨q, hq, e⟩ := List.mem_map.mp hm
      have := (N q (hex q hq)).2.2
      rw [e, y] at this; cases this
  have hsz : ∀ l : List Addr, (gone s.heap l).objs.size = s.heap.objs.size := by
    intro l
    induction l with
    | nil => rfl
    | cons b l ih =>
      show ((gone s.heap l).update b _).objs.size = _
      rw [Heap.size_update, ih]
  refine wpAny_mono (h oL h₁ _ ⟨fun h' sl e => ⟨_, es, ep, e, hLd, hLk, hLf⟩, ⟨es, ep, hLd⟩, F.above⟩ ⟨hkind, hf, ⟨es, ep, hLd⟩, trivial⟩ hG hkB ⟨hns, fun b o e => up b o (hG.of b o e).1, by rw [hsz]; exact Nat.le_refl _⟩ (fun q hq => ?_)
    (fun q hq => (N q (hex q hq)).2.1) (X₀.keeps hkB) (T.keeps hkB)) (fun _ _ x => x) fun _ _ x => wpAny_mono x (fun _ _ y => y) fun _ _ y => y
  rcases List.mem_append.mp hq with hq | hq
  · have y := N q (hex q hq)
    exact ⟨up _ _ y.1, Nat.ne_of_lt (Heap.lt_size y.1), gone_none (List.mem_cons_of_mem _ (List.mem_map.mpr ⟨q, hq, rfl⟩))⟩
  · rw [List.mem_singleton.mp hq]
    exact ⟨up _ _ hL, Nat.ne_of_lt hLt, gone_none List.mem_cons_self⟩
/-- what the caller has back -/
theorem leaveT {B h' : Heap} {L' : Addr} {m' : Str → Option Value} {new : List (Addr × Obj)} {oL : Obj} {sl : Array (Option Value)} (C : TI.Caller h₀ L m oL) (hkB : ∀ b o, h₀.get? b = some o → B.get? b = some o) (F' : Fr B L' h' m')
    (N' : News B L' h' (new ++ [(L, { oL with slots := sl })])) (hnd : ∀ q ∈ new, notDict q = true) : Fr h₀ L h' m ∧ News h₀ L h' new := by
  have hL : h'.get? L = some { oL with slots := sl } := (N' _ (List.mem_append_right _ List.mem_cons_self)).1
  refine ⟨⟨C.ns _ sl hL, fun b o y => F'.keep b o (hkB b o y), C.above⟩, fun q hq => ?_⟩
  have y := N' q (List.mem_append_left _ hq)
  refine ⟨y.1, fun e => ?_, none_of hkB y.2.2⟩
  obtain ⟨es, ep, hd⟩ := C.dict
  have y1 := y.1
  rw [e, hL] at y1
  exact notDict_ne (hnd q hq) (by rw [← Option.some.inj y1]; exact hd)
theorem leaveOld {h B h' : Heap} {L' : Addr} {m' : Str → Option Value} {ex old : List (Addr × Obj)} (N : News h₀ L h old) (G : Ground h L ex B) (F' : Fr B L' h' m') (ha : ∀ q ∈ old, q.1 ∉ ex.map (·.1)) : News h₀ L h' old :=
  fun q hq => ⟨F'.keep _ _ (G.has _ _ (N q hq).1 (N q hq).2.1 (ha q hq)), (N q hq).2⟩
end
end Mine

end QTry
section QPair
example : True := by
  w_top off
  trivial
open PySem PySem.W PyProof.Rows PySem.Calls PySem.Spec PySem.SeqAt
set_option Elab.async false
set_option maxRecDepth 100000
set_option maxHeartbeats 8000000
set_option linter.unusedVariables false
namespace Mine
def ltQ (k x j y : Int) : Bool := ltP (k, x) (j, y)
theorem ltQ_lt {k x j y : Int} (h : k < j) : ltQ k x j y = true := by simp [ltQ, ltP, h]
theorem ltQ_gt {k x j y : Int} (h : j < k) : ltQ k x j y = false := by simp [ltQ, ltP]; omega
theorem ltQ_eq {k x y : Int} : ltQ k x k y = decide (x < y) := by simp [ltQ, ltP]
section
variable {prog : Program} {w : World} {A : Around} {E : Value → Shared → Prop} {s : Shared} {a b l L : Addr} {k x j y : Int} {t u v z tk : Tok} {Q : Value → Shared → Prop} {B : Heap} {m : Str → Option Value} {bb : Bool} {vs : List Value} {xs : List Int} {value slice : PySem.Expr}
theorem lt_pairB (F : Fr B L s.heap m) (ha : IsTup B a [Value.int k t, Value.int x u].toArray) (hb : IsTup B b [Value.int j v, Value.int y z].toArray) (e : ltQ k x j y = bb) (hu : A.units + 64 < cLine) (h : Q (.bool bb) s) : wpAny (model prog w) A (compareOp .Lt (.ref a) (.ref b)) Q E s :=
  lt_pair (p := (k, x)) (q := (j, y)) (IsTup.keeps ha F.keep) (IsTup.keeps hb F.keep) (by omega) (by rw [← e] at h; exact h)
theorem gt_pairB (F : Fr B L s.heap m) (ha : IsTup B a [Value.int k t, Value.int x u].toArray) (hb : IsTup B b [Value.int j v, Value.int y z].toArray) (e : ltQ j y k x = bb) (hu : A.units + 64 < cLine) (h : Q (.bool bb) s) : wpAny (model prog w) A (compareOp .Gt (.ref a) (.ref b)) Q E s :=
  gt_pair (p := (k, x)) (q := (j, y)) (IsTup.keeps ha F.keep) (IsTup.keeps hb F.keep) (by omega) (by rw [← e] at h; exact h)
theorem eq_pairB (F : Fr B L s.heap m) (ha : IsTup B a [Value.int k t, Value.int x u].toArray) (hb : IsTup B b [Value.int j v, Value.int y z].toArray) (hne : k ≠ j) (hu : A.units + 64 < cLine) (h : Q (.bool false) s) : wpAny (model prog w) A (compareOp .Eq (.ref a) (.ref b)) Q E s :=
  eq_pair (p := (k, x)) (q := (j, y)) (IsTup.keeps ha F.keep) (IsTup.keeps hb F.keep) (by omega) (by rw [decide_eq_false (by intro q; exact hne (Prod.mk.inj q).1)]; exact h)
theorem enum_len (ks : List Int) : (enumP ks).length = ks.length := by simp [enumP, pairsOf]
theorem enum_get {ks : List Int} {i : Nat} (h : i < ks.length) : (enumP ks)[i]? = some ((i : Int), ks.getD i 0) := by
  simp [enumP, pairsOf, List.getElem?_range h]
theorem item_pairs (F : Fr B L s.heap m) (hl : B.IsList l vs.toArray) (hP : PairsAre B vs (enumP xs)) (h0 : 0 ≤ k) (h1 : k < (xs.length : Int)) (hn : xs.length ≤ 40)
    (h : ∀ a t u, IsTup B a [Value.int k t, Value.int (xs.getD k.toNat 0) u].toArray → vs[k.toNat]? = some (.ref a) → Q (.ref a) s)
    (hs : subscripted slice false (.ref l) (.int k tk) = operate [.ref l, .int k tk] (getItem (.ref l) (.int k tk)) := by with_unfolding_all rfl) :
    wpAny (model prog w) A (subscriptTail value slice (.ref l) (.int k tk)) Q E s := by
  have hk : k.toNat < xs.length := by omega
  obtain ⟨a, t, u, e, hT⟩ := hP.get k.toNat _ (enum_get hk)
  have hls : s.heap.IsList l vs.toArray := hl.at fun o e => F.keep l o e
  have e2 : (((k.toNat : Nat)) : Int) = k := Int.toNat_of_nonneg h0
  rw [e2] at hT
  exact tail_any hls.typeIs slot_list_getitem.lookup (wpAny_getItem_list hls h0 (by omega) (by simpa using e) (h a t u hT e)) hs
theorem PairsAre.snoc {h : Heap} {ps : List (Int × Int)} (P : PairsAre h vs ps) (hT : IsTup h a [Value.int k t, Value.int x u].toArray) : PairsAre h (vs ++ [.ref a]) (ps ++ [(k, x)]) := by
  refine ⟨by simp [P.len], fun i p hp => ?_⟩
  by_cases hi : i < ps.length
  · rw [List.getElem?_append_left hi] at hp
    obtain ⟨a', t', u', e, hm⟩ := P.get i p hp
    exact ⟨a', t', u', by rw [List.getElem?_append_left (by rw [P.len]; exact hi)]; exact e, hm⟩
  · have hi' : i = ps.length := by
      have := (List.getElem?_eq_some_iff.mp hp).1
      simp at this; omega
    subst hi'
    simp at hp
    subst hp
    exact ⟨a, t, u, by rw [← P.len]; simp, hT⟩
theorem PairsAre.nil {h : Heap} : PairsAre h [] [] := ⟨rfl, fun i p hp => by simp at hp⟩
end
section
variable {prog : Program} {w : World} {A₀ : Around} {E : Value → Shared → Prop} {s' : Shared} {B h : Heap} {L L' a e : Addr} {m : Str → Option Value} {name : Str} {scope : Scope} {cd : Value} {X : String} {env : Env} {new : List (Addr × Obj)} {oL : Obj} {c : Value}
theorem heldSelf {news : List (Addr × Obj)} {ob : Obj} {fl : Value} (H : TT.HeldNA B L' h m e X news fl) (he : h.get? e = some ob) : TT.HeldNA B L' h m e X ((e, ob) :: news) fl := by
  refine ⟨H.held, fun p hp => ?_, fun ob' ws tb e1 e2 e3 p hp => ?_⟩
  · rcases List.mem_cons.mp hp with rfl | hp
    · exact ⟨he, H.held.ne, H.held.fresh⟩
    · exact H.made p hp
  · rcases List.mem_cons.mp hp with rfl | hp
    · obtain ⟨ob2, vs2, tb2, _, _, y1, _, y2, y3, _, _, _, _, y4, _⟩ := H.held.there
      rw [e1] at y1
      obtain rfl := Option.some.inj y1
      rw [e2] at y2
      injection y2 with y2
      subst y2
      rw [e3] at y3
      have : tb = tb2 := by simpa using y3
      subst this
      exact Ne.symm y4
    · exact H.apart ob' ws tb e1 e2 e3 p hp
theorem note1 (hfr : A₀.frames = some [env]) (Fs : TI.Frs [env] [(L, oL)]) (hx : NewC h s'.heap e X c) (F : Fr B L' h m) (N : News B L' h (new ++ [(L, oL)])) (hne : TLg.AllNe L new) {hd : Option Value} {Q : Unit → Shared → Prop}
    (k : ∀ h' sl ob vs, TI.Frs [env] [(L, { oL with slots := sl })] → TT.HeldN B L' h' m e X (new ++ [(L, { oL with slots := sl })]) → h'.get? e = some ob → ob.data = .fields vs → vs[2]? = some c → Q () { s' with heap := h' }) (hk : scope.kind = .function := by rfl) :
    wpAny (model prog w) ((A₀.deeper (envOf name scope L' a cd)).mark hd) (noteFrame (.ref e) (envOf name scope L' a cd)) Q E s' := by
  refine noted_C (A := (A₀.deeper (envOf name scope L' a cd)).mark hd) (new := new) (Around.frames_deeper hfr) Fs hx F N (fun p hp hm => ?_) (fun h' frs' ob vs SU Fs' H he hd hc => ?_) hk
  · rcases List.mem_cons.mp hm with q | hm
    · exact (N p (List.mem_append_left _ hp)).2.1 q
    · exact hne.mem p hp (List.mem_singleton.mp hm)
  · obtain ⟨sl, rfl⟩ := TLg.one_up SU
    exact k h' sl ob vs Fs' H he hd hc
/-- an exception meets a finally -/
theorem fin_caught (hfr : A₀.frames = some [env]) (Fs : TI.Frs [env] [(L, oL)]) (hx : Heap.NewExc h s'.heap e X) (F : Fr B L' h m) (N : News B L' h (new ++ [(L, oL)])) (hne : TLg.AllNe L new) {f₀ : Stmt} {fs : List Stmt} {Q : Flow → Shared → Prop} {E₂ : Value → Shared → Prop}
    (k : ∀ h' sl ob vs, TI.Frs [env] [(L, { oL with slots := sl })] → Fr B L' h' m → News B L' h' ((e, ob) :: (new ++ [(L, { oL with slots := sl })])) → ob.data = .fields vs → vs[2]? = some .none →
      wpAny (model prog w) ((A₀.deeper (envOf name scope L' a cd)).mark (some (.ref e))) (execs (f₀ :: fs) (envOf name scope L' a cd))
        (fun g s₂ => match g with | .next => wpAny (model prog w) (A₀.deeper (envOf name scope L' a cd)) (passOn "try.finally" (.ref e) (envOf name scope L' a cd)) Q E s₂ | g => wpAny (model prog w) (A₀.deeper (envOf name scope L' a cd)) (setFlight (.ref e) none) (fun _ s₃ => Q g s₃) E s₂)
        (notedBy (model prog w) ((A₀.deeper (envOf name scope L' a cd)).mark (some (.ref e))) (envOf name scope L' a cd) (cameBackBy (model prog w) (A₀.deeper (envOf name scope L' a cd)) (envOf name scope L' a cd) E)) { s' with heap := h' }) (hk : scope.kind = .function := by rfl) :
    wpAny (model prog w) (A₀.deeper (envOf name scope L' a cd)) (noteFrame (.ref e) (envOf name scope L' a cd)) (fun _ s₂ => FinallyRaised prog w (A₀.deeper (envOf name scope L' a cd)) E (envOf name scope L' a cd) (f₀ :: fs) Q (.ref e) s₂) E₂ s' := by
  have e0 := Around.mark_none (A₀.deeper (envOf name scope L' a cd))
  rw [← e0]
  refine note1 hfr Fs (NewC.of hx) F N hne (fun h' sl ob vs Fs' H he hd hc => ?_) hk
  rw [e0]
  refine ⟨ref_ne_byPass _, ?_⟩
  refine noted_again (s := { s' with heap := h' }) H.held (fun _ _ => ?_)
  exact (heldSelf H he).lands fun h'' F'' N'' => k h'' sl ob vs Fs' F'' N'' hd hc
theorem landBack {news : List (Addr × Obj)} {fl : Value} (H : TT.HeldNA B L' s'.heap m e X news fl) {M : Model} {A : Around} {Q : Unit → Shared → Prop} (k : ∀ h', TT.HeldN B L' h' m e X news → Q () { s' with heap := h' }) :
    wpAny M A (setFlight (.ref e) (some L')) Q E s' := by
  obtain ⟨⟨F, ⟨ob, vs, tb, otb, tvs, he, hcls, hd, h1, htb, htd, h3, htbL, htbe, htb0⟩, hf⟩, N, hap⟩ := H
  have hsz : 3 < tvs.size := (Array.getElem?_eq_some_iff.mp h3).1
  have happ := hap ob vs tb he hd h1
  have oth : ∀ b, b ≠ tb → (s'.heap.update tb (Obj.mapFields (·.setIfInBounds 3 (rawInt L')))).get? b = s'.heap.get? b := fun b hb => Heap.get?_update_other _ _ (Ne.symm hb)
  have he' := (oth e (Ne.symm htbe)).trans he
  have F' : Fr B L' (s'.heap.update tb (Obj.mapFields (·.setIfInBounds 3 (rawInt L')))) m := by
    obtain ⟨oL, esL, epL, hL, r⟩ := F.ns
    exact ⟨⟨oL, esL, epL, (oth L' (Ne.symm htbL)).trans hL, r⟩, fun b o hb => (oth b (fun q => by rw [q, htb0] at hb; cases hb)).trans (F.keep b o hb), F.above⟩
  unfold setFlight
  refine wpAny_bind (wpAny_field he hd h1 ?_)
  rw [if_pos (show (Value.ref tb != Value.none) = true from by simp)]
  refine wpAny_setField htb htd hsz (k _ ⟨⟨F', ⟨ob, vs, tb, _, _, he', hcls, hd, h1, Heap.get?_update_self _ htb (Obj.isFreed_of_fields (Obj.data_mapFields htd _)), Obj.data_mapFields htd _, ?_, htbL, htbe, htb0⟩, hf⟩,
    fun p hp => ⟨(oth p.1 (happ p hp)).trans (N p hp).1, (N p hp).2⟩, ?_⟩)
  · show (tvs.setIfInBounds 3 (rawInt L'))[3]? = _
    simp [hsz]
  · intro ob' vs' tb' e1 e2 e3 p hp
    have e1' := he'.symm.trans e1
    obtain rfl := Option.some.inj e1'
    exact hap ob vs' tb' he e2 e3 p hp
/-- an exception raised in a finally comes back to the try -/
theorem again_caught (hfr : A₀.frames = some [env]) (Fs : TI.Frs [env] [(L, oL)]) (hx : NewC h s'.heap e X c) (F : Fr B L' h m) (N : News B L' h (new ++ [(L, oL)])) (hne : TLg.AllNe L new) {hd : Option Value}
    (k : ∀ h' sl, TI.Frs [env] [(L, { oL with slots := sl })] → TT.HeldN B L' h' m e X (new ++ [(L, { oL with slots := sl })]) → E (.ref e) { s' with heap := h' }) (hk : scope.kind = .function := by rfl) :
    notedBy (model prog w) ((A₀.deeper (envOf name scope L' a cd)).mark hd) (envOf name scope L' a cd) (cameBackBy (model prog w) (A₀.deeper (envOf name scope L' a cd)) (envOf name scope L' a cd) E) (.ref e) s' := by
  refine note1 hfr Fs hx F N hne (fun h' sl ob vs Fs' H he hdd hc => ?_) hk
  unfold cameBackBy
  obtain ⟨ob2, vs2, tb2, _, _, y1, _, y2, y3, _⟩ := H.held.there
  refine wpAny_bind (wpAny_field (s := { s' with heap := h' }) y1 y2 y3 ?_)
  rw [if_neg (by simp)]
  refine landBack (s' := { s' with heap := h' }) H fun h'' H'' => k h'' sl Fs' H''
end
theorem ne_frame {h₀ h : Heap} {L l : Addr} {m : Str → Option Value} {xs : Array Value} (F : Fr h₀ L h m) (hl : h.IsList l xs) : l ≠ L := by
  intro q
  obtain ⟨o, ho, _, n, hd⟩ := hl
  obtain ⟨oL, es, ep, hL, hLd, _⟩ := F.ns
  rw [q, hL] at ho
  cases ho
  rw [hLd] at hd
  cases hd
theorem tup_ne_frame {h₀ h : Heap} {L l : Addr} {m : Str → Option Value} {xs : Array Value} (F : Fr h₀ L h m) (hl : IsTup h l xs) : l ≠ L := by
  intro q
  obtain ⟨o, ho, _, n, hd⟩ := hl
  obtain ⟨oL, es, ep, hL, hLd, _⟩ := F.ns
  rw [q, hL] at ho
  cases ho
  rw [hLd] at hd
  cases hd
theorem Ground.pairs {h₀ h B : Heap} {L : Addr} {m : Str → Option Value} {ex : List (Addr × Obj)} {vs : List Value} {ps : List (Int × Int)} (g : Ground h L ex B) (F : Fr h₀ L h m) (hq : ∀ q ∈ ex, h.get? q.1 = some q.2 ∧ q.2.cls = .type "list") (P : PairsAre h vs ps) : PairsAre B vs ps := by
  refine ⟨P.len, fun i p hp => ?_⟩
  obtain ⟨a, t, u, e, hT⟩ := P.get i p hp
  refine ⟨a, t, u, e, g.isTup hT (tup_ne_frame F hT) fun hm => ?_⟩
  obtain ⟨q, hq', e⟩ := List.mem_map.mp hm
  obtain ⟨o, ho, hc, _⟩ := hT
  obtain ⟨y1, y2⟩ := hq q hq'
  rw [e, ho] at y1
  rw [← Option.some.inj y1, hc] at y2
  exact absurd y2 (by decide)
theorem listUp {B h : Heap} {L l : Addr} {m : Str → Option Value} {xs : Array Value} (F : Fr B L h m) (hl : B.IsList l xs) : h.IsList l xs := hl.at fun o e => F.keep l o e
theorem sayAll {h₀ h : Heap} {L : Addr} {m : Str → Option Value} (l : List (Str × Value)) (F : Fr h₀ L h m) (hl : ∀ p ∈ l, m p.1 = some p.2) : Fr h₀ L h (kstB m l) := by
  have em : kstB m l = m := by
    funext y
    exact kstB_eq hl fun _ => rfl
  rw [em]; exact F
theorem pairs_yes {zs xs ys : List Int} {n : Nat} (h : xs.getD n 0 ≠ ys.getD n 0) : pairsOf zs (diffP xs ys (n + 1)) = pairsOf zs (diffP xs ys n) ++ [((n : Int), zs.getD ((n : Int)).toNat 0)] := by
  rw [diffP_yes h]; simp [pairsOf]
theorem pairs_no {zs xs ys : List Int} {n : Nat} (h : xs.getD n 0 = ys.getD n 0) : pairsOf zs (diffP xs ys (n + 1)) = pairsOf zs (diffP xs ys n) := by
  rw [diffP_no h]
section
variable {prog : Program} {w : World} {A₀ : Around} {E : Value → Shared → Prop} {s' : Shared} {h₀ h : Heap} {L a e : Addr} {m : Str → Option Value} {name : Str} {scope : Scope} {cd : Value}
  {t : Expr} {b₀ : Stmt} {suite : List Stmt} {pos : Pos} {rest : List ExceptHandler} {Q : Flow → Shared → Prop} {X T : String} {news : List (Addr × Obj)}
/-- a clause that takes the exception, its class read by the walk -/
theorem clause_hitW {fl : Value} (H : TT.HeldNA h₀ L s'.heap m e X news fl)
    (hexc : isSubtype (.type T) (.type "BaseException") = pure true) (hnt : isSubtype (.type ((Manifest.find? T).elim "type" fun y => y.metatype)) (.type "tuple") = pure false) (hsub : isSubtype (.type X) (.type T) = pure true)
    (hname : ∀ (Q' : Value → Shared → Prop), Q' (.type T) s' → wpAny (model prog w) ((A₀.deeper (envOf name scope L a cd)).mark (some (.ref e))) (eval t (envOf name scope L a cd)) Q' E s')
    (k : ∀ h', Fr h₀ L h' m → News h₀ L h' news → wpAny (model prog w) ((A₀.deeper (envOf name scope L a cd)).mark (some (.ref e))) (execs (b₀ :: suite) (envOf name scope L a cd)) Q E { s' with heap := h' })
    (hE : PassesOwnAt (model prog w) ((A₀.deeper (envOf name scope L a cd)).mark (some (.ref e))) (A₀.deeper (envOf name scope L a cd)) (envOf name scope L a cd) E) :
    wpAny (model prog w) (A₀.deeper (envOf name scope L a cd)) (handleBy (.ref e) (envOf name scope L a cd) (.ExceptHandler (some t) none (b₀ :: suite) pos :: rest)) Q E s' := by
  obtain ⟨ob, _, _, _, _, he, hcls, _⟩ := H.held.there
  refine wpAny_handleBy_builtin (X := X) (T := T) (b := true) hexc hnt hsub (wpAny_passesOwnAt hE (hname _ ⟨rfl, ⟨_, he, hcls⟩, ?_⟩))
  rw [if_pos rfl]
  exact H.lands fun h' F' N' => wpAny_passesOwnAt hE (k h' F' N')
end
theorem slice_end {vs : List Value} {k : Int} (h : k = (vs.length : Int)) : (slicePick vs.toArray (some k) none none).toList = [] := by
  subst h
  rw [slicePick_from _ _ (by simp)]
  simp
theorem slice_last {vs : List Value} {k : Int} {v : Value} (h0 : 0 ≤ k) (h : k + 1 = (vs.length : Int)) (e : vs[k.toNat]? = some v) : (slicePick vs.toArray (some k) none none).toList = [v] := by
  obtain ⟨n, rfl⟩ : ∃ n : Nat, k = (n : Int) := ⟨k.toNat, by omega⟩
  rw [slicePick_from _ _ (by simp; omega)]
  have hn : n < vs.length := by omega
  have e2 : vs[n] = v := by
    rw [Int.toNat_natCast, List.getElem?_eq_getElem hn] at e
    exact Option.some.inj e
  have e3 : n + 1 = vs.length := by omega
  simp only [List.drop_eq_getElem_cons hn, e2, e3, List.drop_length]
theorem not_long {b : Bool} {n : Nat} (h : n ≤ 1000) : ¬(b && Builtin.List.listTooLong n) = true := by
  have : Builtin.List.listTooLong n = false := by
    unfold Builtin.List.listTooLong
    rw [sizeLine_eq]
    simp; omega
  rw [this]; simp
theorem news3 {h₀ h : Heap} {L : Addr} {x y z : Addr × Obj} {r : List (Addr × Obj)} (c1 : h.get? x.1 = some x.2 ∧ x.1 ≠ L ∧ h₀.get? x.1 = none) (c2 : h.get? y.1 = some y.2 ∧ y.1 ≠ L ∧ h₀.get? y.1 = none) (c3 : h.get? z.1 = some z.2 ∧ z.1 ≠ L ∧ h₀.get? z.1 = none) (N : News h₀ L h r) : News h₀ L h (x :: y :: z :: r) := by
  intro q hq
  rcases List.mem_cons.mp hq with rfl | hq
  · exact c1
  · rcases List.mem_cons.mp hq with rfl | hq
    · exact c2
    · rcases List.mem_cons.mp hq with rfl | hq
      · exact c3
      · exact N q hq
theorem allNe2 {L x y : Addr} {o u : Obj} (h1 : @Ne Nat x L) (h2 : @Ne Nat y L) : TLg.AllNe L [(x, o), (y, u)] := ⟨h1, h2, trivial⟩
end Mine

end QPair
section QSld
example : True := by
  w_top off
  trivial
local macro_rules | `(tactic| walk_at "QSld none") => `(tactic| skip)
open PySem PySem.W PyProof.Rows PySem.Calls PySem.Spec
set_option Elab.async false
set_option maxRecDepth 100000
set_option maxHeartbeats 8000000
set_option pp.deepTerms false
set_option pp.deepTerms.threshold 4
set_option linter.unusedVariables false
namespace Mine
example : (fun (_ : OpenLaw) (_ : PySem.Params → Frag) => True) PySem.Challenge.rw_qh0117_01 Mine.hd.heap_1 := by
  k_fill
  trivial
/-- where the two walks of the first def stand -/
def SldI (xs ys : List Int) (i j : Nat) : Prop :=
  (i = j ∧ i < xs.length) ∨ (i = j + 1 ∧ i < xs.length ∧ xs.getD j 0 < ys.getD j 0) ∨ (j = i + 1 ∧ j < xs.length ∧ ys.getD i 0 < xs.getD i 0)
local macro_rules | `(tactic| k_steps) => `(tactic| repeat' (first | (k_unfold; (try dsimp only)) | (k_end; wrow_close) | ((with_reducible show wpAny _ _ (exec _ _) _ _ _); k_fold) | walk1 | (dsimp only; walk1) | (leave1; walk_say "STEP leave1"; try dsimp only) | fail "no step"))
abbrev SldInv (xs ys : List Int) (B' : Heap) (lu lm L le la : Addr) (oL' : Obj) (n : Nat) (m : Str → Option Value) (nx : List (Addr × Obj)) : Prop :=
  ∃ (i j : Nat) (ti tj : Tok) (vm vu : List Value) (nm nu : Nat) (sl : Array (Option Value)), nx = [(lu, listOf vu.toArray nu), (lm, listOf vm.toArray nm), (L, { oL' with slots := sl })] ∧ n + i + j = 2 * xs.length ∧ SldI xs ys i j ∧
    PairsAre B' vm (pairsOf xs (diffP xs ys i)) ∧ PairsAre B' vu (pairsOf ys (diffP xs ys j)) ∧ m (Str.ofString "i") = some (.int i ti) ∧ m (Str.ofString "j") = some (.int j tj) ∧ m (Str.ofString "missing") = some (.ref lm) ∧ m (Str.ofString "unexpected") = some (.ref lu) ∧
    m (Str.ofString "expected") = some (.ref le) ∧ m (Str.ofString "actual") = some (.ref la)
local macro_rules | `(tactic| walk_at "subscriptTail Name Name ref int") => `(tactic| ((with_reducible show wpAny _ _ (subscriptTail _ _ (Value.ref _) (Value.int _ _)) _ _ _); k_dflt (first
  | (refine item_pairs (by k_asm) (by assumption) (by assumption) ?h1 ?h2 (by omega) ?_; (case h1 => omega); (case h2 => omega); intro a9 t9 u9 hT9 hE9)
  | (refine item_outK (by rfl) (listUp (by k_asm) (by assumption)) (Or.inr ?h1) (by omega) (by omega) ?_; (case h1 => omega); intro h9 tk9 e9 hx9; (try dsimp only))
  | (refine item_out_in (by rfl) (News.get (by k_asm) (by k_mem)) (by assumption) (by assumption) (listUp (by k_asm) (by assumption)) ?h1 (by omega) ?_; (case h1 => omega); intro h9 tk9 e9 hx9; (try dsimp only)))))
local macro_rules | `(tactic| walk_at "compareOp Lt ref ref") => `(tactic| (first | refine lt_pairB (bb := true) (by k_asm) (by assumption) (by assumption) (by assumption) (by ktr_units) ?_ | refine lt_pairB (bb := false) (by k_asm) (by assumption) (by assumption) (by assumption) (by ktr_units) ?_))
local macro_rules | `(tactic| walk_at "compareOp Gt ref ref") => `(tactic| (first | refine gt_pairB (bb := true) (by k_asm) (by assumption) (by assumption) (by assumption) (by ktr_units) ?_ | refine gt_pairB (bb := false) (by k_asm) (by assumption) (by assumption) (by assumption) (by ktr_units) ?_))
local macro_rules | `(tactic| walk_at "compareOp Eq ref ref") => `(tactic| (refine eq_pairB (by k_asm) (by assumption) (by assumption) ?h1 (by ktr_units) ?_; (case h1 => omega)))
local macro_rules | `(tactic| walk_at "exec While Compare cons nil") => `(tactic| (refine whl_start 1 ?_))
local macro_rules | `(tactic| walk_at "call builtin:list.append") => `(tactic| (k_here; (with_reducible show wpAny _ _ (call (Value.builtin _) [Value.ref _, _]) _ _ _); k_dflt (refine' append_K ?k1 ?k2 ?k3 ?_ ?z; (case k1 => k_asm); (case k2 => k_asm); (case k3 => k_upd); (case z => (simp only [List.size_toArray, PySem.sizeLine_eq]; omega)); k_whole); intro h' F' N'; (try simp only [List.push_toArray] at N'); (try dsimp only)))
local macro_rules | `(tactic| walk_at "handleBy") => `(tactic| ((with_reducible rename TT.HeldNA _ _ _ _ _ _ _ _ => ttN); (have ttF := HeldAt.fr (TT.HeldNA.held ttN)); (refine' clause_hitW (T := "IndexError") ttN PySem.F.isExc_IndexError PySem.F.notTuple_IndexError ?hs ?hn ?_ ?hE; (case hs => (rw [isSubtype_type]; kernel_rfl)); (case hE => passes_own); (case hn => (intro q9 hq9; walk1; exact hq9)); clear ttF ttN; (try (with_reducible rename HeldAt _ _ _ _ _ _ _ => ttH; clear ttH)); intro h' F' N')))
local macro_rules | `(tactic| walk_at "subscriptTail Name Slice ref ref") => `(tactic| (k_here; (with_reducible show wpAny _ _ (subscriptTail _ (PySem.Expr.Slice _ _ none _) (Value.ref _) (Value.ref _)) _ _ _); k_dflt (refine' kmk_slice_lit ?F ?N ?l ?p ?q ?e ?_ ?s ?t ?z; (case F => k_asm); (case N => k_asm); (case l => exact listUp (by k_asm) (by assumption)); (case p => kmk_part); (case q => kmk_part); (case e => first | exact slice_end (by omega) | exact slice_last (by omega) (by omega) (by assumption)); (case s => with_unfolding_all rfl); (case t => kmk_pure); (case z => (simp only [PySem.sizeLine_eq]; omega)); k_whole); intro D' h' F' N' l1; k_lt l1; (try dsimp only)))
local macro_rules | `(tactic| walk_at "call builtin:list.extend") => `(tactic| (k_here; (with_reducible show wpAny _ _ (call (Value.builtin _) [Value.ref _, Value.ref _]) _ _ _); k_dflt (first
  | (refine' kxn_extend ?F ?N ?b ?e ?U ?d ?z ?y ?_; (case F => k_asm); (case N => k_asm); (case b => k_mem); (case e => exact rfl); (case U => k_upd); (case d => exact not_long (by simp only [List.size_toArray, List.length_append, List.length_cons, List.length_nil]; omega)); (case z => ((try simp only [PySem.sizeLine_eq, List.toList_toArray, List.length_append, List.length_cons, List.length_nil]); omega)); (case y => (simp only [PySem.sizeLine_eq, List.size_toArray, List.length_append, List.length_cons, List.length_nil]; omega)))
  | (refine' kl_extend ?F ?N ?b ?e ?ne ?U ?d ?z ?y ?_; (case F => k_asm); (case N => k_asm); (case b => k_mem); (case e => exact rfl); (case ne => simp); (case U => k_upd); (case d => exact not_long (by simp only [List.size_toArray, List.length_append, List.length_cons, List.length_nil]; omega)); (case z => ((try simp only [PySem.sizeLine_eq, List.toList_toArray, List.length_append, List.length_cons, List.length_nil]); omega)); (case y => (simp only [PySem.sizeLine_eq, List.size_toArray, List.length_append, List.length_cons, List.length_nil]; omega)))); k_whole; intro h' F' N'; (try dsimp only)))
local macro_rules | `(tactic| walk_at "noteFrame ref") => `(tactic| ((with_reducible show wpAny _ _ (noteFrame _ _) (fun _ _ => _ ∧ _) _ _); (with_reducible rename Heap.NewExc _ _ _ _ => fX); (with_reducible rename News _ _ _ _ => fN); (refine fin_caught (new := [_, _]) (by rfl) (by assumption) fX (by k_asm) fN (allNe2 (by assumption) (by assumption)) ?_); clear fX fN; intro h' sl' ob' vs' tiF' F' N' hd' hc'; (simp only [List.cons_append, List.nil_append] at N'); (try dsimp only)))
local macro_rules | `(tactic| walk_at "notedBy") => `(tactic| ((with_reducible rename NewC _ _ _ _ _ => fX); (with_reducible rename News _ _ _ _ => fN); (refine again_caught (new := [_, _]) (by rfl) (by assumption) fX (by k_asm) (skip1 fN) (allNe2 (by assumption) (by assumption)) ?_); clear fX fN; intro h' sl' tiF' tiH'; (simp only [List.cons_append, List.nil_append] at tiH'); have tiHH' := TT.HeldNA.held tiH'; (try dsimp only)))
variable {prog : Program} {w : World} {p : Program} {loose : List Str} {mean : ExcName → Option Value} {mg mb : Str → Option Value}
theorem c_sld {le la : Addr} {ve va : List Value} {xs ys : List Int} (dp un : Nat) (gd : Option (List Code)) (cn : Str) (cs : Scope) (a : Addr) (ccd : Value) (cl : List (Str × Addr)) (h₀ : Heap) (L : Addr) (m : Str → Option Value) (s : Shared) (Q E : Value → Shared → Prop)
    (news : List (Addr × Obj))
    (F : Fr h₀ L s.heap m) (X : (Mine.hd.heap_1 w.params).In h₀) (N : News h₀ L s.heap news) (T : Top p loose mean mg mb h₀) (hk : cs.kind = .function)
    (hle : s.heap.IsList le ve.toArray) (hla : s.heap.IsList la va.toArray) (hPe : PairsAre s.heap ve (enumP xs)) (hPa : PairsAre s.heap va (enumP ys)) (hxy : xs.length = ys.length) (hx0 : 0 < xs.length) (hx1 : xs.length ≤ 40)
    (hd : dp + 1 < recursionLimit) (hu : un + 160 < cLine)
    (hret : ∀ (t lm lu : Addr) (vm vu : List Value) (nm nu : Nat) (h' : Heap) (tk' : Nat), Fr h₀ L h' m → News h₀ L h' ((t, ({ cls := .type "tuple", data := .seq [Value.ref lm, Value.ref lu].toArray } : Obj)) :: (lu, listOf vu.toArray nu) :: (lm, listOf vm.toArray nm) :: news) →
       PairsAre h' vm (pairsOf xs (diffP xs ys xs.length)) → PairsAre h' vu (pairsOf ys (diffP xs ys xs.length)) → Q (.ref t) { s with heap := h', toks := tk' }) :
      wpAny (model prog w) (ktrTop dp un gd cn cs L a ccd cl []) (call (.ref 28) [.ref le, .ref la]) Q E s := by
  k_with_none
  refine wpAny_call ?_
  k_dflt (refine' enterT [] ?kX ?k2 ?k3 ?k4 ?k5 ?kA ?kF ?kK ?k6 ?k7 ?k8 ?k9 ?kB ?_ ?c2 ?c3 ?c4 ?c5; (case kX => exact fun _ h => nomatch h); (case kA => exact rfl); (case kF => exact rfl); (case kK => assumption); (case k2 => k_asm); (case k3 => k_asm); (case k4 => k_asm); (case k5 => k_asm); (case k6 => k_is); (case k7 => k_is); (case k8 => ktr_room); (case k9 => first | exact BindsTo.of_eq rfl | exact binds_K (by k_in) rfl (by k_is) rfl rfl rfl); (case c5 => decide); (case kB => exact locs rfl); (case c2 => exact rfl); (case c3 => exact rfl); (case c4 => exact rfl); k_whole; intro oL' h' B' tiC' tiF' G' hkB' F' N' hex' X' T'; (try dsimp only); (try k_fold))
  repeat' ((fail_if_success (with_reducible show wpAny _ _ (exec (Stmt.While _ _ _ _) _) _ _ _)); first | (k_unfold; (try dsimp only)) | (k_end; wrow_close) | walk1 | (dsimp only; walk1) | (leave1; walk_say "STEP leave1"; try dsimp only) | fail "no step")
  rename Fr _ _ _ _ => lF
  rename News _ _ _ _ => lN
  rename_i lm _ _ _ _ lu _ hlt hh
  have lN2 : News B' s.heap.objs.size hh [(lu, listOf [].toArray 0), (lm, listOf [].toArray 0), (L, { oL' with slots := oL'.slots })] := lN
  have hle' : B'.IsList le ve.toArray := G'.isList hle (ne_frame F hle) (by simp)
  have hla' : B'.IsList la va.toArray := G'.isList hla (ne_frame F hla) (by simp)
  have hPe' : PairsAre B' ve (enumP xs) := G'.pairs F (fun _ h => nomatch h) hPe
  have hPa' : PairsAre B' va (enumP ys) := G'.pairs F (fun _ h => nomatch h) hPa
  clear lN
  have tiC2 := tiC'
  have hkB2 := hkB'
  refine While_inv2 (SldInv xs ys B' lu lm L le la oL') lF lN2 ⟨0, 0, _, _, [], [], 0, 0, oL'.slots, rfl, rfl, .inl ⟨rfl, hx0⟩, PairsAre.nil, PairsAre.nil, rfl, rfl, rfl, rfl, rfl, rfl⟩ ?_
  rintro n m₁ nx h tk F₁ N₁ ⟨i, j, ti, tj, vm, vu, nm, nu, sl, rfl, hn, hI, hPm, hPu, m1, m2, m3, m4, m5, m6⟩
  replace F₁ := sayAll [(Str.ofString "i", .int i ti), (Str.ofString "j", .int j tj), (Str.ofString "missing", .ref lm), (Str.ofString "unexpected", .ref lu), (Str.ofString "expected", .ref le), (Str.ofString "actual", .ref la)] F₁
    (List.forall_mem_cons.mpr ⟨m1, List.forall_mem_cons.mpr ⟨m2, List.forall_mem_cons.mpr ⟨m3, List.forall_mem_cons.mpr ⟨m4, List.forall_mem_cons.mpr ⟨m5, List.forall_mem_cons.mpr ⟨m6, fun _ h => nomatch h⟩⟩⟩⟩⟩⟩)
  dsimp only [kstB] at F₁
  have tiF3 : TI.Frs [envX cn cs L a ccd cl] [(L, { oL' with slots := sl })] := tiF'
  clear tiF'
  have hmm := hPm.len
  have hq1 : @Ne Nat lm lu := Nat.ne_of_lt hlt.1
  have hq2 : @Ne Nat lm L := fun q => by
    have y1 := (N₁ _ (.tail _ (.head _))).1
    have y2 := (N₁ _ (.tail _ (.tail _ (.head _)))).1
    dsimp only at y1 y2
    rw [q, y2] at y1
    obtain ⟨es, ep, hdd⟩ := tiC'.dict
    have y3 := congrArg Obj.data (Option.some.inj y1)
    dsimp only at y3
    rw [hdd] at y3
    cases y3
  have hq3 : @Ne Nat lu L := fun q => by
    have y1 := (N₁ _ (.head _)).1
    have y2 := (N₁ _ (.tail _ (.tail _ (.head _)))).1
    dsimp only at y1 y2
    rw [q, y2] at y1
    obtain ⟨es, ep, hdd⟩ := tiC'.dict
    have y3 := congrArg Obj.data (Option.some.inj y1)
    dsimp only at y3
    rw [hdd] at y3
    cases y3
  have hmu := hPu.len
  have hsE : ve.toArray.size = xs.length := by rw [List.size_toArray, hPe.len, enum_len]
  have hsA : va.toArray.size = xs.length := by rw [List.size_toArray, hPa.len, enum_len, hxy]
  have hlE : ve.length = xs.length := by rw [hPe.len, enum_len]
  have hlA : va.length = xs.length := by rw [hPa.len, enum_len, hxy]
  have hnm : (pairsOf xs (diffP xs ys i)).length ≤ i := by rw [pairsOf, List.length_map]; exact diffP_len _ _ _
  have hnu : (pairsOf ys (diffP xs ys j)).length ≤ j := by rw [pairsOf, List.length_map]; exact diffP_len _ _ _
  clear lF lN2 hle hla hPe hPa
  have hi0 : i < xs.length := by rcases hI with h | h | h <;> omega
  have hj0 : j < xs.length := by rcases hI with h | h | h <;> omega
  repeat' ((fail_if_success (with_reducible show wpAny _ _ (compareOp _ _ _) _ _ _)); first | (k_unfold; (try dsimp only)) | (k_end; wrow_close) | ((with_reducible show wpAny _ _ (exec _ _) _ _ _); k_fold) | walk1 | (dsimp only; walk1) | (leave1; walk_say "STEP leave1"; try dsimp only) | fail "no step")
  rcases hI with ⟨rfl, hi⟩ | ⟨rfl, hi, hlt9⟩ | ⟨rfl, hi, hlt9⟩
  · have d1 : ltQ (i : Int) (xs.getD ((i : Int)).toNat 0) (i : Int) (ys.getD ((i : Int)).toNat 0) = decide (xs.getD i 0 < ys.getD i 0) := ltQ_eq
    have d2 : ltQ (i : Int) (ys.getD ((i : Int)).toNat 0) (i : Int) (xs.getD ((i : Int)).toNat 0) = decide (ys.getD i 0 < xs.getD i 0) := ltQ_eq
    rcases Int.lt_trichotomy (xs.getD i 0) (ys.getD i 0) with hc | hc | hc
    · rw [decide_eq_true hc] at d1
      rw [decide_eq_false (by omega)] at d2
      rcases Nat.lt_or_ge (i + 1) xs.length with hi1 | hi1
      · k_steps
        rename Fr _ _ _ _ => qF
        rename News _ _ _ _ => qN
        refine ⟨_, _, _, _, 2 * xs.length - (i + 1) - i, rfl, qF, qN, by omega, i + 1, i, _, _, _, _, _, _, _, rfl, by omega, .inr (.inl ⟨rfl, hi1, hc⟩), ?_, hPu, rfl, rfl, rfl, rfl, rfl, rfl⟩
        rw [pairs_yes (by omega)]
        exact PairsAre.snoc hPm (by assumption)
      · have hin : i + 1 = xs.length := by omega
        k_steps
        dsimp only [WhileStep2]
        k_steps
        rename Fr _ _ _ _ => qF
        rename News _ _ _ _ => qN
        obtain ⟨rF, rN⟩ := leaveT (new := [_, _, _, _, _]) tiC' hkB' qF qN (by simp [TI.notDict])
        have c1 := rN _ (.head _)
        have c2 := rN _ (.tail _ (.tail _ (.tail _ (.head _))))
        have c3 := rN _ (.tail _ (.tail _ (.tail _ (.tail _ (.head _)))))
        refine hret _ _ _ _ _ _ _ _ _ rF (news3 c1 c2 c3 (leaveOld N G' qF (fun _ _ h => nomatch h))) (PairsAre.keeps ?_ qF.keep) (PairsAre.keeps ?_ qF.keep)
        · rw [← hin, pairs_yes (by omega)]; exact PairsAre.snoc hPm (by assumption)
        · rw [← hin, pairs_yes (by omega)]; exact PairsAre.snoc hPu (by assumption)
    · rw [decide_eq_false (by omega)] at d1
      rw [decide_eq_false (by omega)] at d2
      rcases Nat.lt_or_ge (i + 1) xs.length with hi1 | hi1
      · skip
        k_steps
        rename Fr _ _ _ _ => qF
        rename News _ _ _ _ => qN
        refine ⟨_, _, _, _, 2 * xs.length - (i + 1) - (i + 1), rfl, qF, qN, by omega, i + 1, i + 1, _, _, _, _, _, _, _, rfl, by omega, .inl ⟨rfl, hi1⟩, ?_, ?_, rfl, rfl, rfl, rfl, rfl, rfl⟩
        · rw [pairs_no (by omega)]; exact hPm
        · rw [pairs_no (by omega)]; exact hPu
      · have hin : i + 1 = xs.length := by omega
        k_steps
        dsimp only [WhileStep2]
        k_steps
        rename Fr _ _ _ _ => qF
        rename News _ _ _ _ => qN
        obtain ⟨rF, rN⟩ := leaveT (new := [_, _, _, _, _]) tiC' hkB' qF qN (by simp [TI.notDict])
        have c1 := rN _ (.head _)
        have c2 := rN _ (.tail _ (.tail _ (.tail _ (.head _))))
        have c3 := rN _ (.tail _ (.tail _ (.tail _ (.tail _ (.head _)))))
        refine hret _ _ _ _ _ _ _ _ _ rF (news3 c1 c2 c3 (leaveOld N G' qF (fun _ _ h => nomatch h))) (PairsAre.keeps ?_ qF.keep) (PairsAre.keeps ?_ qF.keep)
        · rw [← hin, pairs_no (by omega)]; exact hPm
        · rw [← hin, pairs_no (by omega)]; exact hPu
    · rw [decide_eq_false (by omega)] at d1
      rw [decide_eq_true hc] at d2
      rcases Nat.lt_or_ge (i + 1) xs.length with hi1 | hi1
      · skip
        k_steps
        rename Fr _ _ _ _ => qF
        rename News _ _ _ _ => qN
        refine ⟨_, _, _, _, 2 * xs.length - (i + 1) - i, rfl, qF, qN, by omega, i, i + 1, _, _, _, _, _, _, _, rfl, by omega, .inr (.inr ⟨rfl, hi1, hc⟩), ?_, ?_, rfl, rfl, rfl, rfl, rfl, rfl⟩
        · exact hPm
        · rw [pairs_yes (by omega)]; exact PairsAre.snoc hPu (by assumption)
      · have hin : i + 1 = xs.length := by omega
        k_steps
        dsimp only [WhileStep2]
        k_steps
        rename Fr _ _ _ _ => qF
        rename News _ _ _ _ => qN
        obtain ⟨rF, rN⟩ := leaveT (new := [_, _, _, _, _]) tiC' hkB' qF qN (by simp [TI.notDict])
        have c1 := rN _ (.head _)
        have c2 := rN _ (.tail _ (.tail _ (.tail _ (.head _))))
        have c3 := rN _ (.tail _ (.tail _ (.tail _ (.tail _ (.head _)))))
        refine hret _ _ _ _ _ _ _ _ _ rF (news3 c1 c2 c3 (leaveOld N G' qF (fun _ _ h => nomatch h))) (PairsAre.keeps ?_ qF.keep) (PairsAre.keeps ?_ qF.keep)
        · rw [← hin, pairs_yes (by omega)]; exact PairsAre.snoc hPm (by assumption)
        · rw [← hin, pairs_yes (by omega)]; exact PairsAre.snoc hPu (by assumption)
  · have d1 : ltQ (((j + 1 : Nat) : Int)) (xs.getD (((j + 1 : Nat) : Int)).toNat 0) (j : Int) (ys.getD ((j : Int)).toNat 0) = false := ltQ_gt (by omega)
    have d2 : ltQ (j : Int) (ys.getD ((j : Int)).toNat 0) (((j + 1 : Nat) : Int)) (xs.getD (((j + 1 : Nat) : Int)).toNat 0) = true := ltQ_lt (by omega)
    k_steps
    rename Fr _ _ _ _ => qF
    rename News _ _ _ _ => qN
    refine ⟨_, _, _, _, 2 * xs.length - (j + 1) - (j + 1), rfl, qF, qN, by omega, j + 1, j + 1, _, _, _, _, _, _, _, rfl, by omega, .inl ⟨rfl, hi⟩, ?_, ?_, rfl, rfl, rfl, rfl, rfl, rfl⟩
    · exact hPm
    · rw [pairs_yes (by omega)]; exact PairsAre.snoc hPu (by assumption)
  · have d1 : ltQ (i : Int) (xs.getD ((i : Int)).toNat 0) (((i + 1 : Nat) : Int)) (ys.getD (((i + 1 : Nat) : Int)).toNat 0) = true := ltQ_lt (by omega)
    k_steps
    rename Fr _ _ _ _ => qF
    rename News _ _ _ _ => qN
    refine ⟨_, _, _, _, 2 * xs.length - (i + 1) - (i + 1), rfl, qF, qN, by omega, i + 1, i + 1, _, _, _, _, _, _, _, rfl, by omega, .inl ⟨rfl, hi⟩, ?_, ?_, rfl, rfl, rfl, rfl, rfl, rfl⟩
    · rw [pairs_yes (by omega)]; exact PairsAre.snoc hPm (by assumption)
    · exact hPu
end Mine

end QSld
section QRem
example : True := by
  w_top off
  trivial
open PySem PySem.W PyProof.Rows PySem.Calls PySem.Spec PySem.SeqAt PySem.MeetsSeq
open PySem.AutoSeq1 (wpAny_loadPart')
set_option Elab.async false
set_option maxRecDepth 100000
set_option maxHeartbeats 8000000
set_option linter.unusedVariables false
namespace Mine
theorem rem_loop (l : Addr) (items : Array Value) (n : Nat) (x : Value) (e : Value → Bool) (j : Nat) (hj : j < items.size) (hit : e items[j] = true) (k : Nat) (hs1 : items.size ≤ sizeLine) :
    ∀ i : Nat, j - i = k → i ≤ j → (∀ m (hm : m < items.size), i ≤ m → m < j → e items[m] = false) → Meets (Builtin.«list.remove.loop» ⟨[.ref l, x, rawInt i], []⟩)
      (fun A R s => s.heap.get? l = some { cls := .type "list", dict := none, data := .seq items n, slots := #[] } ∧ (∀ y, y ∈ items → EqAt A.in1 s y x (e y)) ∧ R (.ok (.ret .none)) { s with heap := s.heap.update l (Obj.mapSeq fun xs => xs.eraseIdxIfInBounds j) }) := by
  induction k with
  | zero =>
    intro i hk hij hno prog w A R s h
    obtain ⟨hp, g, d, tk, os⟩ := s; obtain ⟨hl, he, h⟩ := h
    have hij' : i = j := by omega
    subst hij'
    wp_walk using wpAny_loadPart' hl
    have hi : items[((i : Nat) : Int).toNat]? = some items[i] := by simp [hj]
    rw [hi]
    refine wpAny_bind (he _ (Array.getElem_mem hj) prog w _ _ ?_)
    rw [hit]
    have hz' : (items.eraseIdxIfInBounds i).size ≤ sizeLine + 1 := Nat.le_trans (size_erased items _) (Nat.le_succ_of_le hs1)
    wp_walk using (wpAny_updateSeq hl rfl (hz := hs1) (_hz' := hz')), wpAny_loadPart' hl
    simpa using h
  | succ k ih =>
    intro i hk hij hno prog w A R s h
    obtain ⟨hp, g, d, tk, os⟩ := s; obtain ⟨hl, he, h⟩ := h
    have hlt : i < items.size := by omega
    wp_walk using wpAny_loadPart' hl
    have hi : items[((i : Nat) : Int).toNat]? = some items[i] := by simp [hlt]
    have hc : ((i : Int) + 1) = ((i + 1 : Nat) : Int) := by push_cast; rfl
    rw [hi]
    refine wpAny_bind (he _ (Array.getElem_mem hlt) prog w _ _ ?_)
    rw [hno i hlt (Nat.le_refl _) (by omega)]
    wp_walk
    rw [hc]
    exact ⟨plainId_quiet plain_remove_loop _, codeAny_builtin entry_remove_loop (by
      rw [Around.under_plainId plain_remove_loop _]
      exact ih (i + 1) (by omega) (by omega) (fun m hm h1 h2 => hno m hm (by omega) h2) prog w A R _ ⟨hl, he, h⟩)⟩
theorem rem_hit (l : Addr) (items : Array Value) (n : Nat) (x : Value) (e : Value → Bool) (j : Nat) (hj : j < items.size)
    (hit : e items[j] = true) (hno : ∀ m (hm : m < items.size), m < j → e items[m] = false) (hs1 : items.size ≤ sizeLine) :
    Meets (Builtin.«list.remove» ⟨[.ref l, x], []⟩)
      (fun A R s => s.heap.get? l = some { cls := .type "list", dict := none, data := .seq items n, slots := #[] } ∧ (∀ y, y ∈ items → EqAt A.in1 s y x (e y)) ∧ R (.ok (.ret .none)) { s with heap := s.heap.update l (Obj.mapSeq fun xs => xs.eraseIdxIfInBounds j) }) := by
  intro prog w A R s h
  obtain ⟨hp, g, d, tk, os⟩ := s; obtain ⟨hl, he, h⟩ := h
  wp_walk using wpAny_loadPart' hl
  exact ⟨plainId_quiet plain_remove_loop _, codeAny_builtin entry_remove_loop (by
    rw [Around.under_plainId plain_remove_loop _]
    exact rem_loop l items n x e j hj hit _ hs1 0 rfl (Nat.zero_le _) (fun m hm _ h2 => hno m hm h2) prog w A R _ ⟨hl, he, h⟩)⟩
theorem rem_loop_none (l : Addr) (items : Array Value) (n : Nat) (x : Value) (e : Value → Bool) (hno : ∀ m (hm : m < items.size), e items[m] = false) (k : Nat) :
    ∀ i : Nat, items.size - i = k → Meets (Builtin.«list.remove.loop» ⟨[.ref l, x, rawInt i], []⟩)
      (fun A R s => s.heap.get? l = some { cls := .type "list", dict := none, data := .seq items n, slots := #[] } ∧ (∀ y, y ∈ items → EqAt A.in1 s y x (e y)) ∧ raisesNew "ValueError" A R s) := by
  induction k with
  | zero =>
    intro i hk prog w A R s h
    obtain ⟨hp, g, d, tk, os⟩ := s; obtain ⟨hl, he, h⟩ := h
    wp_walk using wpAny_loadPart' hl
    have hi : items[((i : Nat) : Int).toNat]? = none := by simp; omega
    rw [hi]
    wp_walk
    exact_raiseError plainExc_ValueError h.1 h.2
  | succ k ih =>
    intro i hk prog w A R s h
    obtain ⟨hp, g, d, tk, os⟩ := s; obtain ⟨hl, he, h⟩ := h
    have hlt : i < items.size := by omega
    wp_walk using wpAny_loadPart' hl
    have hi : items[((i : Nat) : Int).toNat]? = some items[i] := by simp [hlt]
    have hc : ((i : Int) + 1) = ((i + 1 : Nat) : Int) := by push_cast; rfl
    rw [hi]
    refine wpAny_bind (he _ (Array.getElem_mem hlt) prog w _ _ ?_)
    rw [hno i hlt]
    wp_walk
    rw [hc]
    exact ⟨plainId_quiet plain_remove_loop _, codeAny_builtin entry_remove_loop (by
      rw [Around.under_plainId plain_remove_loop _]
      exact ih (i + 1) (by omega) prog w A R _ ⟨hl, he, h⟩)⟩
theorem rem_none (l : Addr) (items : Array Value) (n : Nat) (x : Value) (e : Value → Bool) (hno : ∀ m (hm : m < items.size), e items[m] = false) :
    Meets (Builtin.«list.remove» ⟨[.ref l, x], []⟩)
      (fun A R s => s.heap.get? l = some { cls := .type "list", dict := none, data := .seq items n, slots := #[] } ∧ (∀ y, y ∈ items → EqAt A.in1 s y x (e y)) ∧ raisesNew "ValueError" A R s) := by
  intro prog w A R s h
  obtain ⟨hp, g, d, tk, os⟩ := s; obtain ⟨hl, he, h⟩ := h
  wp_walk using wpAny_loadPart' hl
  exact ⟨plainId_quiet plain_remove_loop _, codeAny_builtin entry_remove_loop (by
    rw [Around.under_plainId plain_remove_loop _]
    exact rem_loop_none l items n x e hno _ 0 rfl prog w A R _ ⟨hl, he, h⟩)⟩
open Classical in
/-- is this value a pair like q -/
noncomputable def likeP (h : Heap) (q : Int × Int) (y : Value) : Bool := decide (∃ b t u, y = .ref b ∧ IsTup h b (pairA q.1 q.2 t u))
open Classical in
theorem like_eq {h : Heap} {p q : Int × Int} {b : Addr} {t u : Tok} (hT : IsTup h b (pairA p.1 p.2 t u)) : likeP h q (.ref b) = @decide (p = q) (instDecidableEqProd p q) := by
  unfold likeP
  by_cases hpq : p = q
  · subst hpq
    rw [decide_eq_true rfl]
    exact decide_eq_true ⟨b, t, u, rfl, hT⟩
  · rw [decide_eq_false hpq]
    refine decide_eq_false ?_
    rintro ⟨b', t', u', e, hT'⟩
    cases e
    have e := IsTup.inj hT hT'
    have := congrArg Array.toList e
    simp at this
    exact hpq (Prod.ext this.1.1 this.2.1)
section
variable {prog : Program} {w : World} {A : Around} {E : Value → Shared → Prop} {s : Shared} {h₀ : Heap} {L D a : Addr} {m : Str → Option Value} {news news' : List (Addr × Obj)} {vs : List Value} {n : Nat} {qs : List (Int × Int)} {q : Int × Int} {t u : Tok} {Q : Value → Shared → Prop}
theorem like_items (F : Fr h₀ L s.heap m) (hP : PairsAre h₀ vs qs) (hT : IsTup h₀ a (pairA q.1 q.2 t u)) (hu : A.units + 64 < cLine) : ∀ y, y ∈ vs.toArray → EqAt A.in1 s y (.ref a) (likeP s.heap q y) := by
  intro y hy
  obtain ⟨i, hi⟩ := List.mem_iff_getElem?.mp (by simpa using hy)
  have hiq : i < qs.length := by rw [← hP.len]; exact (List.getElem?_eq_some_iff.mp hi).1
  obtain ⟨b, t', u', e, hb⟩ := hP.get i qs[i] (List.getElem?_eq_getElem hiq)
  rw [hi] at e
  rw [Option.some.inj e]
  have hb' := IsTup.keeps hb F.keep
  rw [like_eq (p := qs[i]) hb']
  exact eqAt_pair (p := qs[i]) hb' (IsTup.keeps hT F.keep) (by have := units_in1 A; omega)
theorem like_at (F : Fr h₀ L s.heap m) (hP : PairsAre h₀ vs qs) {i : Nat} (hi : i < vs.toArray.size) : ∃ p, qs[i]? = some p ∧ likeP s.heap q vs.toArray[i] = decide (p = q) := by
  have hiv : i < vs.length := by simpa using hi
  have hiq : i < qs.length := by rw [← hP.len]; exact hiv
  obtain ⟨b, t', u', e, hb⟩ := hP.get i qs[i] (List.getElem?_eq_getElem hiq)
  refine ⟨qs[i], List.getElem?_eq_getElem hiq, ?_⟩
  have e2 : vs.toArray[i] = .ref b := by
    rw [List.getElem?_eq_getElem hiv] at e
    simpa using Option.some.inj e
  rw [e2]
  exact like_eq (p := qs[i]) (IsTup.keeps hb F.keep)
theorem rem_pairK (F : Fr h₀ L s.heap m) (N : News h₀ L s.heap news) (hP : PairsAre h₀ vs qs) (hT : IsTup h₀ a (pairA q.1 q.2 t u)) (j : Nat) (hj : qs[j]? = some q) (hno : ∀ i, i < j → qs[i]? ≠ some q)
    (U : Upd D (listOf vs.toArray n) (listOf (vs.eraseIdx j).toArray (n + 1)) news news') (hz : vs.length ≤ 1000) (hu : A.units + 64 < cLine) (h : ∀ h', Fr h₀ L h' m → News h₀ L h' news' → Q .none { s with heap := h' }) :
    wpAny (model prog w) A (call (.builtin "list.remove") [.ref D, .ref a]) Q E s := by
  obtain ⟨pre, post, rfl, rfl, a', b'⟩ := U.split
  have z := N (D, listOf vs.toArray n) (List.mem_append.mpr (.inr (.head _)))
  have hjl : j < vs.length := by rw [hP.len]; exact (List.getElem?_eq_some_iff.mp hj).1
  refine call_meets PySem.F.slot_list_remove ⟨_, z.1, rfl⟩ PySem.F.entry_list_remove (PySem.F.args_list_remove_2 _ _)
    (rem_hit D vs.toArray n (.ref a) (likeP s.heap q) j (by simpa using hjl) ?_ (fun i hi hlt => ?_) (by rw [sizeLine_eq, List.size_toArray]; omega))
    ⟨z.1, like_items F hP hT hu, h _ (F.change (Heap.SameBut.update ..) z.2.1 z.2.2) (ki_turn _ N a' b' ?_ ?_)⟩
  · obtain ⟨p, e1, e2⟩ := like_at (q := q) F hP (i := j) (by simpa using hjl)
    rw [e2]
    rw [hj] at e1
    exact decide_eq_true (Option.some.inj e1).symm
  · obtain ⟨p, e1, e2⟩ := like_at (q := q) F hP (i := i) hi
    rw [e2]
    exact decide_eq_false fun e => hno i hlt (by rw [e1, e])
  · show vs.toArray.eraseIdxIfInBounds j = (vs.eraseIdx j).toArray
    apply Array.toList_inj.mp
    simp [Array.toList_eraseIdxIfInBounds]
  · have : (vs.eraseIdx j).toArray.size ≠ vs.toArray.size := by
      rw [List.size_toArray, List.size_toArray, List.length_eraseIdx_of_lt hjl]; omega
    rw [if_neg (by simpa using this)]
theorem rem_pairN (hh : A.handled = none) (F : Fr h₀ L s.heap m) (N : News h₀ L s.heap news) (hP : PairsAre h₀ vs qs) (hT : IsTup h₀ a (pairA q.1 q.2 t u)) (hno : ∀ i : Nat, qs[i]? ≠ some q) (hD : (D, listOf vs.toArray n) ∈ news) (hu : A.units + 64 < cLine)
    (hE : ∀ h' tk e, Heap.NewExc s.heap h' e "ValueError" → E (.ref e) { s with heap := h', toks := tk }) :
    wpAny (model prog w) A (call (.builtin "list.remove") [.ref D, .ref a]) Q E s := by
  have z := N _ hD
  refine call_meets PySem.F.slot_list_remove ⟨_, z.1, rfl⟩ PySem.F.entry_list_remove (PySem.F.args_list_remove_2 _ _)
    (rem_none D vs.toArray n (.ref a) (likeP s.heap q) (fun i hi => ?_)) ⟨z.1, like_items F hP hT hu, hh, hE⟩
  obtain ⟨p, e1, e2⟩ := like_at (q := q) F hP (i := i) hi
  rw [e2]
  exact decide_eq_false fun e => hno i (by rw [e1, e])
end
end Mine

end QRem
section QUld
example : True := by
  w_top off
  trivial
open PySem PySem.W PyProof.Rows PySem.Calls PySem.Spec
set_option Elab.async false
set_option maxRecDepth 100000
set_option maxHeartbeats 8000000
set_option pp.deepTerms false
set_option pp.deepTerms.threshold 4
set_option linter.unusedVariables false
namespace Mine
example : (fun (_ : OpenLaw) (_ : PySem.Params → Frag) => True) PySem.Challenge.rw_qh0117_01 Mine.hd.heap_1 := by
  k_fill
  trivial
/-- the places from t on at which the two part -/
def dropD (xs ys : List Int) (t : Nat) : List Nat := (List.range' t (xs.length - t)).filter fun k => xs.getD k 0 != ys.getD k 0
def leftP (xs ys : List Int) (t : Nat) : List (Int × Int) := pairsOf ys (List.range t) ++ pairsOf ys (dropD xs ys t)
theorem dropD_end (xs ys : List Int) : dropD xs ys xs.length = [] := by simp [dropD]
theorem dropD_all (xs ys : List Int) : dropD xs ys 0 = diffP xs ys xs.length := by simp [dropD, diffP, List.range_eq_range']
theorem dropD_yes {xs ys : List Int} {t : Nat} (ht : t < xs.length) (h : xs.getD t 0 ≠ ys.getD t 0) : dropD xs ys t = t :: dropD xs ys (t + 1) := by
  unfold dropD
  rw [show xs.length - t = xs.length - (t + 1) + 1 by omega, List.range'_succ, List.filter_cons]
  have : (xs.getD t 0 != ys.getD t 0) = true := by simpa using h
  rw [this]; rfl
theorem dropD_no {xs ys : List Int} {t : Nat} (ht : t < xs.length) (h : xs.getD t 0 = ys.getD t 0) : dropD xs ys t = dropD xs ys (t + 1) := by
  unfold dropD
  rw [show xs.length - t = xs.length - (t + 1) + 1 by omega, List.range'_succ, List.filter_cons]
  have : (xs.getD t 0 != ys.getD t 0) = false := by simpa using h
  rw [this]; rfl
theorem dropD_ge {xs ys : List Int} {t k : Nat} (h : k ∈ dropD xs ys t) : t ≤ k := by
  unfold dropD at h
  rw [List.mem_filter] at h
  have := List.mem_range'.mp h.1
  omega
theorem pairs_range_succ (ys : List Int) (t : Nat) : pairsOf ys (List.range (t + 1)) = pairsOf ys (List.range t) ++ [((t : Int), ys.getD t 0)] := by
  simp [pairsOf, List.range_succ]
theorem leftP_mem {xs ys : List Int} {t i : Nat} {p : Int × Int} (h : (leftP xs ys (t + 1))[i]? = some p) : (i < t → p.1 < (t : Int)) ∧ (i = t → p = ((t : Int), ys.getD t 0)) ∧ (t < i → (t : Int) < p.1) := by
  unfold leftP at h
  rw [pairs_range_succ] at h
  have hl : (pairsOf ys (List.range t)).length = t := by simp [pairsOf]
  refine ⟨fun hi => ?_, fun hi => ?_, fun hi => ?_⟩
  · rw [List.append_assoc, List.getElem?_append_left (by omega)] at h
    simp only [pairsOf, List.getElem?_map, List.getElem?_range hi, Option.map_some] at h
    rw [← Option.some.inj h]
    show (i : Int) < t
    omega
  · subst hi
    rw [List.append_assoc, List.getElem?_append_right (by omega), hl] at h
    simpa using h.symm
  · rw [List.getElem?_append_right (by simp [hl]; omega)] at h
    have hm := List.mem_of_getElem? h
    obtain ⟨k, hk, rfl⟩ := List.mem_map.mp hm
    have := dropD_ge hk
    show (t : Int) < (k : Int)
    omega
theorem left_hit {xs ys : List Int} {t : Nat} (h : xs.getD t 0 = ys.getD t 0) : (leftP xs ys (t + 1))[t]? = some ((t : Int), xs.getD t 0) ∧ ∀ i, i < t → (leftP xs ys (t + 1))[i]? ≠ some ((t : Int), xs.getD t 0) := by
  refine ⟨?_, fun i hi e => ?_⟩
  · unfold leftP
    rw [pairs_range_succ, List.append_assoc, List.getElem?_append_right (by simp [pairsOf])]
    rw [h]
    simp [pairsOf]
  · have := (leftP_mem e).1 hi
    simp at this
theorem left_none {xs ys : List Int} {t : Nat} (h : xs.getD t 0 ≠ ys.getD t 0) : ∀ i : Nat, (leftP xs ys (t + 1))[i]? ≠ some ((t : Int), xs.getD t 0) := by
  intro i e
  obtain ⟨h1, h2, h3⟩ := leftP_mem e
  rcases Nat.lt_trichotomy i t with hi | hi | hi
  · have := h1 hi; simp at this
  · have := h2 hi
    exact h (Prod.mk.inj this).2
  · have := h3 hi; simp at this
theorem left_erase {xs ys : List Int} {t : Nat} (ht : t < xs.length) (h : xs.getD t 0 = ys.getD t 0) : (leftP xs ys (t + 1)).eraseIdx t = leftP xs ys t := by
  unfold leftP
  have hl : (pairsOf ys (List.range t)).length = t := by simp [pairsOf]
  rw [pairs_range_succ, List.append_assoc, List.eraseIdx_append_of_length_le (by omega), hl, dropD_no ht h]
  simp
theorem left_keep {xs ys : List Int} {t : Nat} (ht : t < xs.length) (h : xs.getD t 0 ≠ ys.getD t 0) : leftP xs ys (t + 1) = leftP xs ys t := by
  unfold leftP
  rw [pairs_range_succ, List.append_assoc, dropD_yes ht h]
  rfl
theorem left_start (xs ys : List Int) (h : xs.length = ys.length) : leftP xs ys xs.length = enumP ys := by
  unfold leftP enumP
  rw [dropD_end, h]; simp [pairsOf]
theorem PairsAre.erase {h : Heap} {vs : List Value} {ps : List (Int × Int)} (P : PairsAre h vs ps) (j : Nat) : PairsAre h (vs.eraseIdx j) (ps.eraseIdx j) := by
  refine ⟨by rw [List.length_eraseIdx, List.length_eraseIdx, P.len], fun i p hp => ?_⟩
  rw [List.getElem?_eraseIdx] at hp
  by_cases hij : i < j
  · rw [if_pos hij] at hp
    obtain ⟨a, t, u, e, hT⟩ := P.get i p hp
    exact ⟨a, t, u, by rw [List.getElem?_eraseIdx, if_pos hij]; exact e, hT⟩
  · rw [if_neg hij] at hp
    obtain ⟨a, t, u, e, hT⟩ := P.get (i + 1) p hp
    exact ⟨a, t, u, by rw [List.getElem?_eraseIdx, if_neg hij]; exact e, hT⟩
section
variable {prog : Program} {w : World} {A : Around} {E : Value → Shared → Prop} {s : Shared} {h₀ : Heap} {L D : Addr} {m : Str → Option Value} {news news' : List (Addr × Obj)} {n : Nat}
theorem truthy_end {a : Addr} {Q : Bool → Shared → Prop} (N : News h₀ L s.heap news) (hm : (a, listOf ([] : List Value).toArray n) ∈ news) (h : Q false { s with toks := s.toks + 1 + 1 }) : wpAny (model prog w) A (truthy (.ref a)) Q E s :=
  kgr_truthy N hm rfl rfl (by simp) h
theorem truthy_more {a : Addr} {vs : List Value} {x : Value} {Q : Bool → Shared → Prop} (N : News h₀ L s.heap news) (hm : (a, listOf (vs ++ [x]).toArray n) ∈ news) (hz : vs.length ≤ 1000) (h : Q true { s with toks := s.toks + 1 + 1 }) : wpAny (model prog w) A (truthy (.ref a)) Q E s :=
  kgr_truthy N hm rfl rfl (by simp; omega) (by have e : (!(vs ++ [x]).isEmpty) = true := by cases vs <;> rfl
                                               rw [e]; exact h)
theorem pop_last {vs : List Value} {y : Value} {Q : Value → Shared → Prop} (F : Fr h₀ L s.heap m) (N : News h₀ L s.heap news) (U : Upd D (listOf (vs ++ [y]).toArray n) (listOf vs.toArray (n + 1)) news news') (hz : vs.length ≤ 1000)
    (h : ∀ h', Fr h₀ L h' m → News h₀ L h' news' → Q y { s with heap := h' }) : wpAny (model prog w) A (call (.builtin "list.pop") [.ref D]) Q E s :=
  kl_pop F N (p := vs) (y := y) (by simpa using kpa_last y vs) U (by rw [sizeLine_eq]; simp; omega) h
end
local macro_rules | `(tactic| walk_at "truthy ref") => `(tactic| ((with_reducible show wpAny _ _ (truthy (Value.ref _)) _ _ _); first | (refine truthy_end (by k_asm) (by k_mem) ?_) | (refine truthy_more (by k_asm) (by k_mem) (by omega) ?_)))
local macro_rules | `(tactic| walk_at "call builtin:list.pop") => `(tactic| (k_here; (with_reducible show wpAny _ _ (call (Value.builtin _) [Value.ref _]) _ _ _); k_dflt (refine' pop_last ?k1 ?k2 ?k3 ?z ?_; (case k1 => k_asm); (case k2 => k_asm); (case k3 => k_upd); (case z => omega); k_whole); intro h' F' N'; (try dsimp only)))
local macro_rules | `(tactic| walk_at "call builtin:list.append") => `(tactic| (k_here; (with_reducible show wpAny _ _ (call (Value.builtin _) [Value.ref _, _]) _ _ _); k_dflt (refine' append_K ?k1 ?k2 ?k3 ?_ ?z; (case k1 => k_asm); (case k2 => k_asm); (case k3 => k_upd); (case z => (simp only [List.size_toArray, PySem.sizeLine_eq]; omega)); k_whole); intro h' F' N'; (try simp only [List.push_toArray] at N'); (try dsimp only)))
local macro_rules | `(tactic| walk_at "call builtin:list.remove") => `(tactic| (k_here; (with_reducible show wpAny _ _ (call (Value.builtin _) [Value.ref _, Value.ref _]) _ _ _); k_dflt (first
  | (refine' rem_pairK ?F ?N ?P ?T _ ?j ?no ?U ?z ?u ?_; (case P => assumption); (case j => assumption); (case no => assumption); (case F => k_asm); (case N => k_asm); (case T => assumption); (case U => k_upd); (case z => omega); (case u => ktr_units); k_whole; intro h' F' N'; (try dsimp only))
  | (refine' rem_pairN ?H ?F ?N ?P ?T ?no ?D ?u ?_; (case P => assumption); (case no => assumption); (case H => rfl); (case F => k_asm); (case N => k_asm); (case T => assumption); (case D => k_mem); (case u => ktr_units); k_whole; intro h' tk' e' hx'; (try dsimp only)))))
local macro_rules | `(tactic| walk_at "getMethod ref") => `(tactic| (first
  | ((with_reducible show wpAny _ _ (getMethod (Value.ref _) (PySem.Str.ofString "pop") _) _ _ _); k_dflt (refine' kf_method ?N ?m PySem.F.slot_list_pop PySem.F.type_list_pop ?_; (case N => k_asm); (case m => k_mem)))
  | ((with_reducible show wpAny _ _ (getMethod (Value.ref _) (PySem.Str.ofString "remove") _) _ _ _); k_dflt (refine' kf_method ?N ?m PySem.F.slot_list_remove PySem.F.type_list_remove ?_; (case N => k_asm); (case m => k_mem)))
  | ((with_reducible show wpAny _ _ (getMethod (Value.ref _) (PySem.Str.ofString "append") _) _ _ _); k_dflt (refine' kf_method ?N ?m PySem.F.slot_list_append PySem.F.type_list_append ?_; (case N => k_asm); (case m => k_mem)))))
local macro_rules | `(tactic| walk_at "handleBy") => `(tactic| ((with_reducible rename TT.HeldNA _ _ _ _ _ _ _ _ => ttN); (have ttF := HeldAt.fr (TT.HeldNA.held ttN)); (refine' clause_hitW (T := "ValueError") ttN PySem.F.isExc_ValueError PySem.F.notTuple_ValueError ?hs ?hn ?_ ?hE; (case hs => (rw [isSubtype_type]; kernel_rfl)); (case hE => passes_own); (case hn => (intro q9 hq9; walk1; exact hq9)); clear ttF ttN; (try (with_reducible rename HeldAt _ _ _ _ _ _ _ => ttH; clear ttH)); intro h' F' N')))
variable {prog : Program} {w : World} {p : Program} {loose : List Str} {mean : ExcName → Option Value} {mg mb : Str → Option Value}
theorem c_uld {le la : Addr} {ve va : List Value} {ne na : Nat} {xs ys : List Int} (dp un : Nat) (gd : Option (List Code)) (cn : Str) (cs : Scope) (a : Addr) (ccd : Value) (cl : List (Str × Addr)) (h₀ : Heap) (L : Addr) (m : Str → Option Value) (s : Shared) (Q E : Value → Shared → Prop)
    (news rest : List (Addr × Obj))
    (F : Fr h₀ L s.heap m) (X : (Mine.hd.heap_1 w.params).In h₀) (N : News h₀ L s.heap news) (T : Top p loose mean mg mb h₀) (hk : cs.kind = .function)
    (hle : (le, listOf ve.toArray ne) ∈ news) (hla : (la, listOf va.toArray na) ∈ news) (hlea : @Ne Nat le la) (hPe : PairsAre s.heap ve (enumP xs)) (hPa : PairsAre s.heap va (enumP ys)) (hxy : xs.length = ys.length) (hx1 : xs.length ≤ 40)
    (hr : ∀ q ∈ rest, q ∈ news) (hr1 : ∀ q ∈ rest, @Ne Nat q.1 le) (hr2 : ∀ q ∈ rest, @Ne Nat q.1 la)
    (hd : dp + 1 < recursionLimit) (hu : un + 160 < cLine)
    (hret : ∀ (t lm : Addr) (vm vl : List Value) (nm nl : Nat) (h' : Heap) (tk' : Nat), Fr h₀ L h' m → News h₀ L h' ((t, ({ cls := .type "tuple", data := .seq [Value.ref lm, Value.ref la].toArray } : Obj)) :: (la, listOf vl.toArray nl) :: (lm, listOf vm.toArray nm) :: rest) →
       PairsAre h' vm (pairsOf xs (diffP xs ys xs.length)).reverse → PairsAre h' vl (pairsOf ys (diffP xs ys xs.length)) → Q (.ref t) { s with heap := h', toks := tk' }) :
      wpAny (model prog w) (ktrTop dp un gd cn cs L a ccd cl []) (call (.ref 35) [.ref le, .ref la]) Q E s := by
  k_with_none
  refine wpAny_call ?_
  have hNe := N _ hle
  have hNa := N _ hla
  k_dflt (refine' enterT [(le, listOf ve.toArray ne), (la, listOf va.toArray na)] ?kX ?k2 ?k3 ?k4 ?k5 ?kA ?kF ?kK ?k6 ?k7 ?k8 ?k9 ?kB ?_ ?c2 ?c3 ?c4 ?c5; (case kX => (intro q hq; rcases List.mem_cons.mp hq with hq | hq; exact hq ▸ hle; exact (List.mem_singleton.mp hq) ▸ hla)); (case kA => exact rfl); (case kF => exact rfl); (case kK => assumption); (case k2 => k_asm); (case k3 => k_asm); (case k4 => k_asm); (case k5 => k_asm); (case k6 => k_is); (case k7 => k_is); (case k8 => ktr_room); (case k9 => first | exact BindsTo.of_eq rfl | exact binds_K (by k_in) rfl (by k_is) rfl rfl rfl); (case c5 => decide); (case kB => exact locs rfl); (case c2 => exact rfl); (case c3 => exact rfl); (case c4 => exact rfl); k_whole; intro oL' h' B' tiC' tiF' G' hkB' F' N' hex' X' T'; (try dsimp only); (try k_fold))
  repeat' ((fail_if_success (with_reducible show wpAny _ _ (exec (Stmt.While _ _ _ _) _) _ _ _)); first | (k_unfold; (try dsimp only)) | (k_end; wrow_close) | walk1 | (dsimp only; walk1) | (leave1; walk_say "STEP leave1"; try dsimp only) | fail "no step")
  rename Fr _ _ _ _ => lF
  rename News _ _ _ _ => lN
  rename_i lm _ l1 hh
  simp only [List.cons_append, List.nil_append] at lN
  have lN2 : News B' s.heap.objs.size hh [(lm, listOf [].toArray 0), (le, listOf ve.toArray ne), (la, listOf va.toArray na), (L, { oL' with slots := oL'.slots })] := lN
  have hq1 : @Ne Nat lm le := Nat.ne_of_gt (l1 (le, listOf ve.toArray ne) (by simp))
  have hq2 : @Ne Nat lm la := Nat.ne_of_gt (l1 (la, listOf va.toArray na) (by simp))
  have hq3 : @Ne Nat lm L := Nat.ne_of_gt (l1 (L, oL') (by simp))
  have hq4 : @Ne Nat le L := hNe.2.1
  have hq5 : @Ne Nat la L := hNa.2.1
  have hex : ∀ q ∈ [(le, listOf ve.toArray ne), (la, listOf va.toArray na)], s.heap.get? q.1 = some q.2 ∧ q.2.cls = .type "list" := by
    intro q hq
    rcases List.mem_cons.mp hq with rfl | hq
    · exact ⟨hNe.1, rfl⟩
    · rw [List.mem_singleton.mp hq]; exact ⟨hNa.1, rfl⟩
  have hPe' : PairsAre B' ve (enumP xs) := G'.pairs F hex hPe
  have hPa' : PairsAre B' va (enumP ys) := G'.pairs F hex hPa
  have hlE : ve.length = xs.length := by rw [hPe.len, enum_len]
  have tiC2 := tiC'
  have hkB2 := hkB'
  clear lN hex' hPe hPa l1
  refine While_inv2 (fun n m nx => ∃ (vm vl : List Value) (nm ne' na' : Nat) (sl : Array (Option Value)), nx = [(lm, listOf vm.toArray nm), (le, listOf (ve.take n).toArray ne'), (la, listOf vl.toArray na'), (L, { oL' with slots := sl })] ∧ n ≤ xs.length ∧
    PairsAre B' vm (pairsOf xs (dropD xs ys n)).reverse ∧ PairsAre B' vl (leftP xs ys n) ∧ m (Str.ofString "missing") = some (.ref lm) ∧ m (Str.ofString "expected") = some (.ref le) ∧ m (Str.ofString "actual") = some (.ref la)) (n₀ := xs.length) lF lN2
    ⟨[], va, 0, ne, na, oL'.slots, by rw [← hlE, List.take_length], Nat.le_refl _, by rw [dropD_end]; exact PairsAre.nil, by rw [left_start _ _ hxy]; exact hPa', rfl, rfl, rfl⟩ ?_
  rintro n m₁ nx h tk F₁ N₁ ⟨vm, vl, nm, ne', na', sl, rfl, hn, hPm, hPl, m1, m2, m3⟩
  replace F₁ := sayAll [(Str.ofString "missing", .ref lm), (Str.ofString "expected", .ref le), (Str.ofString "actual", .ref la)] F₁
    (List.forall_mem_cons.mpr ⟨m1, List.forall_mem_cons.mpr ⟨m2, List.forall_mem_cons.mpr ⟨m3, fun _ h => nomatch h⟩⟩⟩)
  dsimp only [kstB] at F₁
  have tiF3 : TI.Frs [envX cn cs L a ccd cl] [(L, { oL' with slots := sl })] := tiF'
  clear tiF' lF lN2
  have hmm := hPm.len
  have hml := hPl.len
  have hnm : (pairsOf xs (dropD xs ys n)).reverse.length ≤ xs.length := by
    rw [List.length_reverse, pairsOf, List.length_map, dropD]
    have := List.length_filter_le (fun k => xs.getD k 0 != ys.getD k 0) (List.range' n (xs.length - n))
    rw [List.length_range'] at this
    omega
  have hnl : (leftP xs ys n).length ≤ 2 * xs.length := by
    rw [leftP, List.length_append, pairsOf, pairsOf, List.length_map, List.length_map, List.length_range, dropD]
    have := List.length_filter_le (fun k => xs.getD k 0 != ys.getD k 0) (List.range' n (xs.length - n))
    rw [List.length_range'] at this
    omega
  cases n with
  | zero =>
    rw [List.take_zero] at N₁
    rw [dropD_all] at hPm
    k_steps
    rename Fr _ _ _ _ => qF
    rename News _ _ _ _ => qN
    obtain ⟨rF, rN⟩ := leaveT (new := [_, _, _, _]) tiC' hkB' qF qN (by simp [TI.notDict])
    have c1 := rN _ (.head _)
    have c2 := rN _ (.tail _ (.tail _ (.tail _ (.head _))))
    have c3 := rN _ (.tail _ (.head _))
    refine hret _ _ _ _ _ _ _ _ rF (news3 c1 c2 c3 (leaveOld (cb_drop N hr) G' qF (fun q hq hm => ?_))) (PairsAre.keeps hPm qF.keep) (PairsAre.keeps ?_ qF.keep)
    · rcases List.mem_cons.mp hm with e | hm
      · exact hr1 q hq e
      · exact hr2 q hq (List.mem_singleton.mp hm)
    · have e : leftP xs ys 0 = pairsOf ys (diffP xs ys xs.length) := by unfold leftP; rw [dropD_all]; rfl
      rw [← e]; exact hPl
  | succ t =>
    obtain ⟨ai, ti, ui, eI, hT⟩ := hPe'.get t _ (enum_get (show t < xs.length by omega))
    have e3 : ve.take (t + 1) = ve.take t ++ [.ref ai] := by rw [List.take_add_one, eI]; rfl
    rw [e3] at N₁
    have hzt : (ve.take t).length ≤ 40 := by rw [List.length_take]; omega
    by_cases hc : xs.getD t 0 = ys.getD t 0
    · obtain ⟨hj, hno⟩ := left_hit (t := t) hc
      k_steps
      rename Fr _ _ _ _ => qF
      rename News _ _ _ _ => qN
      refine ⟨_, _, _, _, t, rfl, qF, qN, Nat.lt_succ_self _, _, _, _, _, _, _, rfl, by omega, ?_, ?_, rfl, rfl, rfl⟩
      · rw [dropD_no (by omega) hc]; exact hPm
      · rw [← left_erase (by omega) hc]; exact hPl.erase t
    · have hno := left_none (t := t) hc
      k_steps
      rename Fr _ _ _ _ => qF
      rename News _ _ _ _ => qN
      refine ⟨_, _, _, _, t, rfl, qF, qN, Nat.lt_succ_self _, _, _, _, _, _, _, rfl, by omega, ?_, ?_, rfl, rfl, rfl⟩
      · rw [dropD_yes (by omega) hc]
        have e : (pairsOf xs (t :: dropD xs ys (t + 1))).reverse = (pairsOf xs (dropD xs ys (t + 1))).reverse ++ [((t : Int), xs.getD t 0)] := by simp [pairsOf]
        rw [e]
        exact PairsAre.snoc hPm hT
      · rw [← left_keep (by omega) hc]; exact hPl
end Mine

end QUld
section QOrd
example : True := by
  w_top off
  trivial
open PySem PySem.W PyProof.Rows PySem.Calls PySem.Spec
set_option Elab.async false
set_option maxRecDepth 100000
set_option maxHeartbeats 8000000
set_option linter.unusedVariables false
namespace Mine
section
variable {prog : Program} {w : World} {A : Around} {E : Value → Shared → Prop} {s : Shared} {b : Array UInt8} {t : Tok} {h₀ : Heap} {L : Addr} {m : Str → Option Value} {news : List (Addr × Obj)}
theorem en_listO {Q : Value → Shared → Prop} {e it : Addr} {ks : List Int} (hh : A.handled = none) (F : Fr h₀ L s.heap m) (N : News h₀ L s.heap ((e, enObj it) :: (it, biObj b t) :: news)) (hlt : it < e ∧ ∀ q ∈ news, q.1 < it)
    (hb : KBw.bInts b = ks) (hn : ks.length ≤ 40)
    (h : ∀ B vs c tups h' tk, Fr h₀ L h' m → News h₀ L h' ((B, listOf vs.toArray c) :: (tups ++ news)) → PairsIn tups vs (enumP ks) → (∀ q ∈ news, @LT.lt Nat _ q.1 B) → Q (.ref B) { s with heap := h', toks := tk }) :
    wpAny (model prog w) A (call (.type "list") [.ref e]) Q E s := by
  have hbs : b.size = ks.length := by rw [← hb, KBw.ints_length]
  have ge : s.heap.get? e = some (enObj it) := (N _ (.head _)).1
  have gi : s.heap.get? it = some (biObj b t) := (N _ (.tail _ (.head _))).1
  have hz : b.size ≤ sizeLine := by rw [sizeLine_eq]; omega
  have n0 := (N _ (.head _)).2
  have n1 := (N _ (.tail _ (.head _))).2
  refine en_list (b := b) (t := t) hh (Nat.ne_of_gt hlt.1) ge ⟨_, gi, rfl, rfl⟩ hz fun h' tk acc c as hk hS hl hG hacc => ?_
  have gk : ∀ c o, h₀.get? c = some o → h'.get? c = some o := fun c o y => hk c o (fun q => by rw [q, n0.2] at y; cases y) (fun q => by rw [q, n1.2] at y; cases y) (F.keep c o y)
  have F' : Fr h₀ L h' m := by
    obtain ⟨oL, es, ep, hL, r⟩ := F.ns
    exact ⟨⟨oL, es, ep, hk L _ (Ne.symm n0.1) (Ne.symm n1.1) hL, r⟩, gk, F.above⟩
  have hfr := fun a (ha : s.heap.objs.size ≤ a) => kdx_fresh F ha
  have ho : (acc : Array Value) = (as.map Value.ref).toArray := by rw [← hacc]
  subst ho
  refine h s.heap.objs.size (as.map Value.ref) c (as.map fun a => (a, (h'.get? a).getD (enObj it))) h' tk F' ?_ ?_ (fun q hq => Heap.lt_size (N q (.tail _ (.tail _ hq))).1)
  · intro q hq
    rcases List.mem_cons.mp hq with rfl | hq
    · exact ⟨hS, (hfr _ (Nat.le_refl _)).1, (hfr _ (Nat.le_refl _)).2⟩
    · rcases List.mem_append.mp hq with hq | hq
      · obtain ⟨a, ha, rfl⟩ := List.mem_map.mp hq
        obtain ⟨j, hj⟩ := List.mem_iff_getElem?.mp ha
        obtain ⟨_, _, _, _, e2⟩ := hG.pairs j a hj
        have hla := Nat.le_of_lt (hG.above a ha)
        refine ⟨?_, (hfr a hla).1, (hfr a hla).2⟩
        show h'.get? a = some ((h'.get? a).getD _)
        rw [e2]; rfl
      · have y := N q (.tail _ (.tail _ hq))
        have l1 := hlt.2 q hq
        have l2 := hlt.1
        exact ⟨hk q.1 q.2 (Nat.ne_of_lt (Nat.lt_trans l1 l2)) (Nat.ne_of_lt l1) y.1, y.2⟩
  · refine ⟨by rw [List.length_map, enumP, pairsOf, List.length_map, List.length_range, hl, hbs], fun i p hp => ?_⟩
    have hi : i < ks.length := by
      have := (List.getElem?_eq_some_iff.mp hp).1
      simpa [enumP, pairsOf] using this
    have hia : i < as.length := by rw [hl, hbs]; exact hi
    obtain ⟨c', t', u', e1, e2⟩ := hG.pairs i as[i] (List.getElem?_eq_getElem hia)
    have e3 : ks[i]? = some (c'.toNat : Int) := by rw [← hb]; exact KBw.ints_get e1
    have e4 : p = ((i : Int), (c'.toNat : Int)) := by
      simp only [enumP, pairsOf, List.getElem?_map, List.getElem?_range hi, Option.map_some] at hp
      rw [← Option.some.inj hp, List.getD_eq_getElem?_getD, e3]; rfl
    subst e4
    refine ⟨as[i], t', u', by simp [hia], ?_⟩
    refine List.mem_map.mpr ⟨as[i], List.getElem_mem hia, ?_⟩
    rw [e2]; rfl
end
theorem news_join {h₀ h : Heap} {L : Addr} {a b : List (Addr × Obj)} (x : News h₀ L h a) (y : News h₀ L h b) : News h₀ L h (a ++ b) := fun q hq =>
  (List.mem_append.mp hq).elim (x q) (y q)
theorem PairsAre.rev {h : Heap} {vs : List Value} {ps : List (Int × Int)} (P : PairsAre h vs ps) : PairsAre h vs.reverse ps.reverse := by
  refine ⟨by rw [List.length_reverse, List.length_reverse, P.len], fun i p hp => ?_⟩
  have hi : i < ps.length := by
    have := (List.getElem?_eq_some_iff.mp hp).1
    rwa [List.length_reverse] at this
  rw [List.getElem?_reverse hi] at hp
  rw [List.getElem?_reverse (by rw [P.len]; exact hi), P.len]
  exact P.get _ p hp
/-- wherever the base's objects and these stand, the items are these pairs -/
def PairsOn (h₀ : Heap) (T : List (Addr × Obj)) (vs : List Value) (ps : List (Int × Int)) : Prop :=
  ∀ h', (∀ b o, h₀.get? b = some o → h'.get? b = some o) → (∀ q ∈ T, h'.get? q.1 = some q.2) → PairsAre h' vs ps
theorem PairsOn.are {h₀ h : Heap} {L : Addr} {m : Str → Option Value} {T news : List (Addr × Obj)} {vs : List Value} {ps : List (Int × Int)} (P : PairsOn h₀ T vs ps) (F : Fr h₀ L h m) (N : News h₀ L h news) (sub : ∀ q ∈ T, q ∈ news) : PairsAre h vs ps :=
  P h F.keep fun q hq => (N q (sub q hq)).1
theorem PairsIn.on {h₀ : Heap} {T : List (Addr × Obj)} {vs : List Value} {ps : List (Int × Int)} (P : PairsIn T vs ps) : PairsOn h₀ T vs ps := fun h' _ hT =>
  ⟨P.len, fun i p hp => let ⟨a, t, u, e, hm⟩ := P.get i p hp; ⟨a, t, u, e, ⟨_, hT _ hm, rfl, _, rfl⟩⟩⟩
theorem PairsAre.on {h₀ h : Heap} {L : Addr} {m : Str → Option Value} {vs : List Value} {ps : List (Int × Int)} (P : PairsAre h vs ps) (F : Fr h₀ L h m) :
    ∃ T, News h₀ L h T ∧ PairsOn h₀ T vs ps := by
  classical
  let f : Value → Option (Addr × Obj) := fun v => match v with
    | Value.ref a => (match h.get? a, h₀.get? a with
      | some o, none => if @Ne Nat a L then some (a, o) else none
      | _, _ => none)
    | _ => none
  have hf : ∀ v q, f v = some q → h.get? q.1 = some q.2 ∧ (@Ne Nat q.1 L) ∧ h₀.get? q.1 = none := by
    intro v q e
    cases v with
    | ref a =>
      dsimp only [f] at e
      cases h1 : h.get? a with
      | none => rw [h1] at e; cases e
      | some o =>
        cases h2 : h₀.get? a with
        | some o' => rw [h1, h2] at e; cases e
        | none =>
          rw [h1, h2] at e
          dsimp only at e
          by_cases hc : @Ne Nat a L
          · rw [if_pos hc] at e
            cases e
            exact ⟨h1, hc, h2⟩
          · rw [if_neg hc] at e; cases e
    | _ => cases e
  have hin : ∀ a o, h.get? a = some o → (@Ne Nat a L) → h₀.get? a = none → f (Value.ref a) = some (a, o) := by
    intro a o h1 hc h2
    dsimp only [f]
    rw [h1, h2]
    dsimp only
    rw [if_pos hc]
  refine ⟨vs.filterMap f, fun q hq => ?_, fun h' hk hTs => ⟨P.len, fun i p hp => ?_⟩⟩
  · obtain ⟨v, hv, e⟩ := List.mem_filterMap.mp hq
    exact hf v q e
  · obtain ⟨a, t, u, e, hTu⟩ := P.get i p hp
    have hne : @Ne Nat a L := tup_ne_frame F hTu
    obtain ⟨o, ho, hc, n, hd⟩ := hTu
    refine ⟨a, t, u, e, ?_⟩
    cases h2 : h₀.get? a with
    | some o' =>
      have z := F.keep a o' h2
      rw [ho] at z
      cases z
      exact ⟨o, hk a o h2, hc, n, hd⟩
    | none => exact ⟨o, hTs _ (List.mem_filterMap.mpr ⟨_, List.mem_of_getElem? e, hin a o ho hne h2⟩), hc, n, hd⟩
end Mine

end QOrd
section QZip
example : True := by
  w_top off
  trivial
open PySem PySem.W PyProof.Rows PySem.Calls PySem.Spec
set_option Elab.async false
set_option maxRecDepth 100000
set_option maxHeartbeats 8000000
set_option linter.unusedVariables false
namespace Mine
def bytesK : ItemKind (List Int) := ⟨fun ks v => ∃ b t, v = Value.bytes b t ∧ KBw.bInts b = ks, fun v => match v with | .bytes b _ => some (KBw.bInts b) | _ => none, fun a v h => by obtain ⟨b, t, rfl, rfl⟩ := h; rfl⟩
theorem BytesAre.areOf {vs : List Value} {kss : List (List Int)} (h : BytesAre vs kss) : AreOf bytesK vs kss := by
  induction h with
  | nil => exact .nil
  | cons hb h ih => exact .cons ⟨_, _, rfl, hb⟩ ih
theorem bytes_ne_ints {h₀ h : Heap} {L a b : Addr} {all : List (Addr × Obj)} {vs ws : List Value} {n k : Nat} {kss : List (List Int)} {ns : List Int} (N : News h₀ L h all) (m1 : (a, listOf vs.toArray n) ∈ all) (m2 : (b, listOf ws.toArray k) ∈ all)
    (hv : IntsAre vs ns) (hw : BytesAre ws kss) (hn : 0 < ns.length) : @Ne Nat a b := by
  intro e
  have y1 := (N _ m1).1
  have y2 := (N _ m2).1
  dsimp only at y1 y2
  rw [show a = b from e, y2] at y1
  have e1 := congrArg Obj.data (Option.some.inj y1)
  have e2 : ws.toArray = vs.toArray := by
    have z : Data.seq ws.toArray k = Data.seq vs.toArray n := e1
    injection z
  have e3 : ws = vs := by simpa using e2
  subst e3
  cases hv with
  | nil => simp at hn
  | cons _ _ _ => cases hw
section
variable {prog : Program} {w : World} {A : Around} {E : Value → Shared → Prop} {s : Shared} {h₀ : Heap} {L : Addr} {m : Str → Option Value} {news all : List (Addr × Obj)}
theorem call_zip_news {α₁ α₂ : Type} {K₁ : ItemKind α₁} {K₂ : ItemKind α₂} {as : List α₁} {bs : List α₂} {l1 l2 : Addr} {vs₁ vs₂ : List Value} {n1 n2 : Nat} {Q : Value → Shared → Prop} (hh : A.handled = none)
    (F : Fr h₀ L s.heap m) (N : News h₀ L s.heap all) (m1 : (l1, listOf vs₁.toArray n1) ∈ all) (m2 : (l2, listOf vs₂.toArray n2) ∈ all) (hi1 : AreOf K₁ vs₁ as) (hi2 : AreOf K₂ vs₂ bs)
    (sub : ∀ q ∈ news, q ∈ all) (d1 : ∀ q ∈ news, @Ne Nat q.1 l1) (d2 : ∀ q ∈ news, @Ne Nat q.1 l2)
    (h : ∀ h' e, Fr h₀ L h' m → News h₀ L h' news → PairSrc2L prog w A E h₀ L K₁ K₂ as bs (.ref e) { s with heap := h' } m news → Q (.ref e) { s with heap := h' }) :
    wpAny (model prog w) A (call (.type "zip") [.ref l1, .ref l2]) Q E s := by
  have hls1 : s.heap.IsList l1 vs₁.toArray := News.isList N m1
  have hls2 : s.heap.IsList l2 vs₂.toArray := News.isList N m2
  have a1 : l1 < s.heap.objs.size := Heap.lt_size (N _ m1).1
  have a2 : l2 < s.heap.objs.size := Heap.lt_size (N _ m2).1
  have hLs : L < s.heap.objs.size := F.ns.lt
  have hab : h₀.objs.size ≤ L := F.above
  refine call_zip_2 hls1 hls2 fun h' hz hTI hTO hit1 hit2 hsz hk => ?_
  have F' : Fr h₀ L h' m := ⟨F.ns.keeps hk, fun b o e => hk b o (F.keep b o e), F.above⟩
  have N' : News h₀ L h' news := fun p hp => ⟨hk _ _ (N p (sub p hp)).1, (N p (sub p hp)).2⟩
  refine h h' _ F' N' fun env hL => ?_
  subst hL
  have hnews : ∀ q ∈ news, q.1 < s.heap.objs.size ∧ h₀.get? q.1 = none := fun q hq => ⟨Heap.lt_size (N q (sub q hq)).1, (N q (sub q hq)).2.2⟩
  refine zipSrc hh (zipApart_new a1 a2) ⟨hz, hTI, ⟨_, _, hTO⟩, hit1, hit2, hls1.at fun o e => hk l1 o e, hls2.at fun o e => hk l2 o e⟩ hi1 hi2 ?_ ?_ ?_ ?_ F' N'
  · intro hm
    simp only [List.mem_cons, List.not_mem_nil, or_false] at hm
    have up : ∀ k, env.locals ≠ s.heap.objs.size + k := fun k e => Nat.ne_of_lt (Nat.lt_of_lt_of_le hLs (Nat.le_add_right _ k)) e
    rcases hm with e | e | e | e | e | e | e
    · exact up 4 e
    · exact up 2 e
    · exact up 3 e
    · exact up 0 e
    · exact up 1 e
    · exact (N _ m1).2.1 e.symm
    · exact (N _ m2).2.1 e.symm
  · intro b hb
    simp only [List.mem_cons, List.not_mem_nil, or_false] at hb
    have nw : ∀ k, h₀.get? (s.heap.objs.size + k) = none := fun k => Heap.get?_none_of_le (Nat.le_trans hab (Nat.le_trans (Nat.le_of_lt hLs) (Nat.le_add_right _ k)))
    rcases hb with rfl | rfl | rfl | rfl
    · exact nw 4
    · exact nw 3
    · exact nw 0
    · exact nw 1
  · intro p hp hm
    have hq1 := (hnews p hp).1
    simp only [List.mem_cons, List.not_mem_nil, or_false] at hm
    have dn : ∀ k, p.1 ≠ s.heap.objs.size + k := fun k e => Nat.ne_of_lt (Nat.lt_of_lt_of_le hq1 (Nat.le_add_right _ k)) e
    rcases hm with e | e | e | e
    · exact dn 4 e
    · exact dn 3 e
    · exact dn 0 e
    · exact dn 1 e
  · intro b hb q hq e
    obtain ⟨hq1, hq0⟩ := hnews q hq
    simp only [List.mem_cons, List.not_mem_nil, or_false] at hb
    have gt : ∀ k, s.heap.objs.size + k ≠ q.1 := fun k e => Nat.ne_of_gt (Nat.lt_of_lt_of_le hq1 (Nat.le_add_right _ k)) e
    rcases hb with rfl | rfl | rfl | rfl | rfl | rfl | rfl
    · exact gt 4 e
    · exact gt 2 e
    · exact gt 3 e
    · exact gt 0 e
    · exact gt 1 e
    · exact d1 q hq e.symm
    · exact d2 q hq e.symm
end
/-- the texts and their borders, by place -/
theorem text_at {xs ys : List Int} {D : List Nat} {as : List (List Int)} {bs : List Int} (hA : as = (0 :: D.map (· + 1)).map (mixAt xs ys)) (hB : bs = [0] ++ (D.map fun k : Nat => (k : Int)).map fun k => 6 * k + 6) {i : Nat} {a : List Int} {b : Int}
    (ha : as[i]? = some a) (hb : bs[i]? = some b) : ∃ t : Nat, (t = 0 ∨ ∃ k ∈ D, t = k + 1) ∧ a = mixAt xs ys t ∧ b = 6 * (t : Int) := by
  have hB' : bs = (0 :: D.map (· + 1)).map fun t : Nat => 6 * (t : Int) := by
    rw [hB, List.map_map, List.map_cons, List.map_map]
    rfl
  rw [hA, List.getElem?_map] at ha
  rw [hB', List.getElem?_map] at hb
  cases h : (0 :: D.map (· + 1))[i]? with
  | none => rw [h] at ha; cases ha
  | some t =>
    rw [h] at ha hb
    refine ⟨t, ?_, (Option.some.inj ha).symm, (Option.some.inj hb).symm⟩
    rcases List.mem_cons.mp (List.mem_of_getElem? h) with e | e
    · exact .inl e
    · obtain ⟨k, hk, e⟩ := List.mem_map.mp e
      exact .inr ⟨k, hk, e.symm⟩
end Mine

end QZip
section QLaw
example : True := by
  w_top off
  trivial
open PySem PySem.W PyProof.Rows PySem.Calls PySem.Spec
set_option Elab.async false
set_option maxRecDepth 100000
set_option maxHeartbeats 8000000
set_option pp.deepTerms false
set_option pp.deepTerms.threshold 4
set_option linter.unusedVariables false
namespace Mine
local macro_rules | `(tactic| k_qdec) => `(tactic| decide +kernel)
example : (fun (_ : OpenLaw) (_ : PySem.Params → Frag) => True) PySem.Challenge.rw_qh0117_01 Mine.hd.heap_1 := by
  k_fill
  trivial
theorem cells_in (l : List Int) : ∀ v ∈ l.map (fun k' => k'.fmod (10 ^ Int.toNat 6)), 0 ≤ v ∧ v < 1000000 := by
  intro v hv
  obtain ⟨k, _, rfl⟩ := List.mem_map.mp hv
  exact ⟨Int.fmod_nonneg_of_pos _ (by decide), Int.fmod_lt_of_pos _ (by decide)⟩
theorem cells_len (l : List Int) : ((l.take 9).map (fun k' => k'.fmod (10 ^ Int.toNat 6))).length ≤ 9 := by
  rw [List.length_map, List.length_take]; omega
local macro_rules | `(tactic| walk_at "eval Name") => `(tactic| ((with_reducible show wpAny _ _ (eval (PySem.Expr.Name (PySem.Str.ofString "before") _) _) _ _ _); k_dflt (first
  | (refine' nameX_C ?N7 ?c7 ?m7 ?d7 ?_; (case N7 => k_asm); (case c7 => exact rfl); (case m7 => k_mem); (case d7 => assumption))
  | (refine' nameX_F ?N7 ?c7 ?m7 ?d7 ?_; (case N7 => k_asm); (case c7 => exact rfl); (case m7 => k_mem); (case d7 => assumption)))))
local macro_rules | `(tactic| walk_at "eval Name") => `(tactic| ((with_reducible show wpAny _ _ (eval (PySem.Expr.Name (PySem.Str.ofString "after") _) _) _ _ _); k_dflt (first
  | (refine' nameX_C ?N7 ?c7 ?m7 ?d7 ?_; (case N7 => k_asm); (case c7 => exact rfl); (case m7 => k_mem); (case d7 => assumption))
  | (refine' nameX_F ?N7 ?c7 ?m7 ?d7 ?_; (case N7 => k_asm); (case c7 => exact rfl); (case m7 => k_mem); (case d7 => assumption)))))
section
variable {prog : Program} {w : World} {A : Around} {E : Value → Shared → Prop} {s : Shared} {a b : Int} {t u : Tok} {Q : Value → Shared → Prop}
theorem ne_yes (e : a ≠ b) (h : Q (.bool true) s) : wpAny (model prog w) A (compareOp .NotEq (.int a t) (.int b u)) Q E s := PyProof.Rows.ne_int (by rw [show (a != b) = true by simpa using e]; exact h)
theorem ne_no (e : a = b) (h : Q (.bool false) s) : wpAny (model prog w) A (compareOp .NotEq (.int a t) (.int b u)) Q E s := PyProof.Rows.ne_int (by rw [show (a != b) = false by simpa using e]; exact h)
theorem item_intK {value slice : PySem.Expr} {l L : Addr} {h₀ : Heap} {news : List (Addr × Obj)} {vs : List Value} {ns : List Int} {k : Int} {n : Nat} (N : News h₀ L s.heap news) (hm : (l, listOf vs.toArray n) ∈ news) (hi : IntsAre vs ns)
    (h0 : 0 ≤ k) (h1 : k < (ns.length : Int)) (hz : ns.length ≤ 1000) (h : ∀ t, Q (.int (ns.getD k.toNat 0) t) s)
    (hs : subscripted slice false (.ref l) (.int k u) = operate [.ref l, .int k u] (getItem (.ref l) (.int k u)) := by with_unfolding_all rfl) (hg : ∀ r, letTemporaryGo value (.ref l) r = pure () := by intro _; with_unfolding_all rfl) :
    wpAny (model prog w) A (subscriptTail value slice (.ref l) (.int k u)) Q E s := item_list_ints (News.isList N hm) hi h0 h1 (by omega) h hs hg
end
local macro_rules | `(tactic| walk_at "compareOp NotEq int int") => `(tactic| (first | refine ne_yes (by assumption) ?_ | refine ne_no (by assumption) ?_))
local macro_rules | `(tactic| walk_at "subscriptTail Name Name ref int") => `(tactic| ((with_reducible show wpAny _ _ (subscriptTail _ _ (Value.ref _) (Value.int _ _)) _ _ _); (refine' item_intK ?N ?m ?i ?h0 ?h1 ?z ?_; (case N => k_asm); (case m => k_mem); (case i => assumption); (case h0 => omega); (case h1 => omega); (case z => omega)); intro t9))
local macro_rules | `(tactic| walk_at "one step") => `(tactic| (first | (k_unfold; (try dsimp only)) | (k_end; wrow_close) | walk1 | (dsimp only; walk1) | (leave1; walk_say "STEP leave1"; try dsimp only) | fail "no step"))
theorem ne_seq_cell {h₀ h : Heap} {L a b : Addr} {news : List (Addr × Obj)} {o o' : Obj} {xs : Array Value} {n : Nat} {v : Option Value} (N : News h₀ L h news) (h1 : (a, o) ∈ news) (e1 : o.data = .seq xs n) (h2 : (b, o') ∈ news) (e2 : o'.data = .cell v) : @Ne Nat a b := by
  intro e
  have y1 := (N _ h1).1
  have y2 := (N _ h2).1
  dsimp only at y1 y2
  rw [show a = b from e, y2] at y1
  rw [← Option.some.inj y1, e2] at e1
  cases e1
theorem fold_places (fo fx : List Int) (n : Nat) : (rangeKs 0 n).foldl (fun l k => if fo.getD k.toNat 0 = fx.getD k.toNat 0 then l else l ++ [k]) [] = (diffP fo fx n).map (fun k : Nat => (k : Int)) := by
  induction n with
  | zero => rfl
  | succ n ih =>
    have e : rangeKs 0 (n + 1) = rangeKs 0 n ++ [(n : Int)] := by
      unfold rangeKs; rw [List.range_succ, List.map_append, List.map_cons, List.map_nil, Int.zero_add]
    rw [e, List.foldl_append, ih, List.foldl_cons, List.foldl_nil, Int.toNat_natCast]
    by_cases h : fo.getD n 0 = fx.getD n 0
    · rw [if_pos h, diffP_no h]
    · rw [if_neg h, diffP_yes h, List.map_append]; rfl
theorem newer {R N2 : List (Addr × Obj)} {B : Addr} (o : ∀ q ∈ N2, @LT.lt Nat _ q.1 B) (sub : ∀ q ∈ R, q ∈ N2) : ∀ q ∈ R, @Ne Nat q.1 B := fun q hq => Nat.ne_of_lt (o q (sub q hq))
theorem bytes_rev {vs : List Value} {kss : List (List Int)} (h : BytesAre vs kss) : BytesAre vs.reverse kss.reverse := by
  induction h with
  | nil => exact .nil
  | cons hb h ih => rw [List.reverse_cons, List.reverse_cons]; exact ih.append (.cons hb .nil)
theorem ne_self_bytes {prog : Program} {w : World} {A : Around} {E : Value → Shared → Prop} {s : Shared} {b c : Array UInt8} {t u : Tok} {Q : Value → Shared → Prop} (e : KBw.bInts b = KBw.bInts c) (h : Q (.bool false) s) :
    wpAny (model prog w) A (compareOp .NotEq (.bytes b t) (.bytes c u)) Q E s := by
  have e2 := bytes_eq e
  subst e2
  refine PySem.W.ne_bytes ?_
  rw [bne_self_eq_false]
  exact h
theorem law_holds : PySem.Challenge.rw_qh0117_01.Holds := by
  k_with_none
  refine hd ?_
  k_go0
  all_goals (try k_fold)
  rename_i w12 s0 s1 mg mb zG zY fa zo zpm zdoc zho zhg zKX zX zV zGL zT zB zTE zTW w11 w10 zM w9 w8 zhcd w7 zhs zhlay0 zhL1 zhr1 zhl2 w6 w5 w4 w3 w2 zhL zra zw1 zr0 zhI zhr zhc1 zhc zK0 zhD h1 tk1 F0 oA oB hdA hdB N0 X0
  try clear X0
  try clear zhD
  try clear zr0
  try clear zw1
  try clear zra
  try clear zhr1
  try clear zhl2
  try clear zhL1
  try clear zhlay0
  try clear zhs
  try clear zhcd
  try clear zM
  try clear zTW
  try clear zTE
  try clear zB
  try clear zGL
  try clear zV
  try clear zX
  try clear zY
  try clear zG
  (repeat' ((fail_if_success (with_reducible show wpAny _ _ (call (Value.ref _) _ _) _ _ _)); walk_at "one step"))
  rename Fr _ _ _ _ => F1
  rename News _ _ _ _ => N1
  rename List Value => ys1
  rename IntsAre ys1 _ => hI1
  k_dflt (refine' c_rows _ _ _ _ _ _ _ _ _ _ _ _ _ _ _ _ _ _ ?k1 F1 ?k3 N1 ?k5 ?kK ?h1 hI1 ?h2 ?h3 ?kd ?ku ?_; (case k1 => k_asm); (case k3 => k_asm); (case k5 => k_asm); (case kK => rfl); (case h1 => exact News.isList N1 (.head _)); (case h2 => exact cells_len _); (case h3 => exact cells_in _); (case kd => ktr_room); (case ku => ktr_units))
  intro t2 lo lf vo vf no nf os fs h2 tk2 F2 N2 hio hif hlo hlf hOo hOf
  have hl12 : os.length ≤ 12 := by rw [hlo]; have := cells_len; exact Nat.add_le_add_right (this _) 3
  have hl3 : 3 ≤ os.length := by omega
  have hlof : os.length = fs.length := by omega
  have a1 := ne_seq_cell N2 (a := lo) (b := _) (o' := oA) (by k_mem) rfl (by k_mem) hdA
  have a2 := ne_seq_cell N2 (a := lo) (b := _) (o' := oB) (by k_mem) rfl (by k_mem) hdB
  have a3 := ne_seq_cell N2 (a := lf) (b := _) (o' := oA) (by k_mem) rfl (by k_mem) hdA
  have a4 := ne_seq_cell N2 (a := lf) (b := _) (o' := oB) (by k_mem) rfl (by k_mem) hdB
  have N2' : News _ _ h2 [(t2, ({ cls := .type "tuple", data := .seq [Value.ref lo, Value.ref lf].toArray } : Obj)), (lf, listOf vf.toArray nf), (lo, listOf vo.toArray no), (_, oA), (_, oB)] := cb_drop N2 (by kcj_all)
  clear hI1 hlo hlf N1 F1 N2
  (repeat' ((fail_if_success (with_reducible show wpAny _ _ (call (Value.ref _) _ _) _ _ _)); walk_at "one step"))
  rename Fr _ _ _ _ => F3
  rename News _ _ _ _ => N3
  k_dflt (refine' c_fig _ _ _ _ _ _ _ _ _ _ _ _ _ _ _ _ _ _ ?k1 F3 ?k3 N3 ?k5 ?kK ?h1 hio ?h2 hOo ?kd ?ku ?_; (case k1 => k_asm); (case k3 => k_asm); (case k5 => k_asm); (case kK => rfl); (case h1 => exact News.isList N3 (by k_mem)); (case h2 => exact hl12); (case kd => ktr_room); (case ku => ktr_units))
  intro lb vb nb h4 tk4 F4 N4 hib
  rw [figs_eq os hOo] at hib
  obtain ⟨fo, hfo⟩ : ∃ fo, fo = figR os := ⟨_, rfl⟩
  rw [← hfo] at hib
  have N4' : News _ _ h4 [(lb, listOf vb.toArray nb), (lf, listOf vf.toArray nf), (lo, listOf vo.toArray no), (_, oA), (_, oB)] := cb_drop N4 (by kcj_all)
  clear F3 N3 N4
  (repeat' ((fail_if_success (with_reducible show wpAny _ _ (call (Value.ref _) _ _) _ _ _)); walk_at "one step"))
  rename Fr _ _ _ _ => F5
  rename News _ _ _ _ => N5
  k_dflt (refine' c_fig _ _ _ _ _ _ _ _ _ _ _ _ _ _ _ _ _ _ ?k1 F5 ?k3 N5 ?k5 ?kK ?h1 hif ?h2 hOf ?kd ?ku ?_; (case k1 => k_asm); (case k3 => k_asm); (case k5 => k_asm); (case kK => rfl); (case h1 => exact News.isList N5 (by k_mem)); (case h2 => omega); (case kd => ktr_room); (case ku => ktr_units))
  intro lx vx nx h6 tk6 F6 N6 hix
  rw [figs_eq fs hOf] at hix
  obtain ⟨fx, hfx⟩ : ∃ fx, fx = figR fs := ⟨_, rfl⟩
  rw [← hfx] at hix
  have hfo16 : fo.length ≤ 16 := by rw [hfo, fig_len]; omega
  have hfox : fo.length = fx.length := by rw [hfo, hfx]; exact fig_len2 hlof
  have a5 := ne_seq_cell N6 (a := lb) (b := _) (o' := oA) (by k_mem) rfl (by k_mem) hdA
  have a6 := ne_seq_cell N6 (a := lb) (b := _) (o' := oB) (by k_mem) rfl (by k_mem) hdB
  have a7 := ne_seq_cell N6 (a := lx) (b := _) (o' := oA) (by k_mem) rfl (by k_mem) hdA
  have a8 := ne_seq_cell N6 (a := lx) (b := _) (o' := oB) (by k_mem) rfl (by k_mem) hdB
  clear F5 N5
  (repeat' ((fail_if_success (with_reducible show wpAny _ _ (exec (Stmt.Assign _ (PySem.Expr.ListComp _ _ _ _) _) _) _ _ _)); walk_at "one step"))
  rename Fr _ _ _ _ => F7
  rename News _ _ _ _ => N7
  rename_i D7 _ _ _ _ oB2 dB2 h7 oA2 dA2
  have N7' : News _ _ h7 [(lx, listOf vx.toArray nx), (lb, listOf vb.toArray nb), (lf, listOf vf.toArray nf), (lo, listOf vo.toArray no), (_, oA2), (_, oB2)] := cb_drop N7 (by kcj_all)
  clear N7 hdA hdB
  k_dflt (refine LCt.Assign_ListComp_T (F₀ := by k_asm) (by rfl) (by with_unfolding_all rfl) (by with_unfolding_all rfl) (by decide) (by rfl) (by decide) (by rfl) (by rfl) (by rfl) ?_)
  (repeat' ((fail_if_success (with_reducible show LCt.CompSrcT _ _ _ _ _ _ _ _ _ _ _ _ _ _ _)); walk_at "one step"))
  refine LCt.CompSrcT.range (by rfl) (by k_asm) (by k_asm) (by assumption) (by first | decide | exact small_one (by omega) (by omega) (by omega) (by omega)) (by first | exact rangeSize_nat _ _ | rfl) (by rw [PySem.sizeLine_eq]; omega) ?_
  intro g7
  refine kci_range (fun l k => if fo.getD k.toNat 0 = fx.getD k.toNat 0 then l else l ++ [k]) (fun k' t' I' oI' C' oC' D' m' ys' l' h' tk' E' hlo' hhi' hI' hC' hx' F' N' off' ne' => ?_) ?_ ?_
  · intro hMark'
    have off0 := off'
    simp only [LCg.Off3, and_true] at off'
    by_cases hc : fo.getD k'.toNat 0 = fx.getD k'.toNat 0
    · iterate 12 walk1
      exact LCg.CompEnd.intro F' N' _ (fun p hp => hp) off0 trivial (kci_no (if_pos hc) rfl)
    · iterate 13 walk1
      exact LCg.CompEnd.intro F' N' _ (fun p hp => hp) off0 trivial (kci_el (if_neg hc) rfl rfl)
  · intro ys8 hI8 hl8 D8 h8 tk8 F8 N8 off8
    rw [show ((fo.length : Int) - 0).toNat = fo.length by omega, fold_places] at hI8
    obtain ⟨ps, hps⟩ : ∃ ps, ps = (diffP fo fx fo.length).map (fun k : Nat => (k : Int)) := ⟨_, rfl⟩
    rw [← hps] at hI8
    have hps16 : ps.length ≤ 16 := by rw [hps, List.length_map]; exact Nat.le_trans (diffP_len _ _ _) hfo16
    have hpsin : ∀ k ∈ ps, 0 ≤ k ∧ k < fo.length := by
      rw [hps]; intro k hk
      obtain ⟨j, hj, rfl⟩ := List.mem_map.mp hk
      have := (mem_diffP hj).1
      omega
    clear off8 hl8
    (repeat' ((fail_if_success (with_reducible show wpAny _ _ (call (Value.type _) [Value.ref _] _) _ _ _)); walk_at "one step"))
    refine KBa.make_K F8 N8 rfl (News.isList N8 (by k_mem)) hio (show KBa.In os from hOo) (by omega) ?_
    intro hA tA kA FA NA hIA
    clear F8 N8
    (repeat' ((fail_if_success (with_reducible show wpAny _ _ (call (Value.ref _) _ _) _ _ _)); walk_at "one step"))
    rename Fr _ _ _ _ => F9
    rename News _ _ _ _ => N9
    k_dflt (refine' c_b64e _ _ _ _ _ _ _ _ _ _ _ _ _ _ _ _ _ _ ?k1 F9 ?k3 N9 ?k5 ?kK (KBa.ints_make hIA) ?h2 ?kd ?ku ?_; (case k1 => k_asm); (case k3 => k_asm); (case k5 => k_asm); (case kK => rfl); (case h2 => omega); (case kd => ktr_room); (case ku => ktr_units))
    intro txs hxs kxs Fxs Nxs hIxs hlxs
    have hbxs := KBa.ints_make hIxs
    revert hbxs
    generalize byteArr (enc os) = bxs
    intro hbxs
    obtain ⟨xs, hexs⟩ : ∃ xs, xs = enc os := ⟨_, rfl⟩
    rw [← hexs] at hbxs hlxs
    clear hIxs F9 N9
    (repeat' ((fail_if_success (with_reducible show wpAny _ _ (call (Value.type _) _ _) _ _ _)); walk_at "one step"))
    rename Fr _ _ _ _ => F10
    rename News _ _ _ _ => N10
    refine KBa.make_K F10 N10 rfl (News.isList N10 (by k_mem)) hif (show KBa.In fs from hOf) (by omega) ?_
    intro hB tB kB FB NB hIB
    clear F10 N10
    (repeat' ((fail_if_success (with_reducible show wpAny _ _ (call (Value.ref _) _ _) _ _ _)); walk_at "one step"))
    rename Fr _ _ _ _ => F11
    rename News _ _ _ _ => N11
    k_dflt (refine' c_b64e _ _ _ _ _ _ _ _ _ _ _ _ _ _ _ _ _ _ ?k1 F11 ?k3 N11 ?k5 ?kK (KBa.ints_make hIB) ?h2 ?kd ?ku ?_; (case k1 => k_asm); (case k3 => k_asm); (case k5 => k_asm); (case kK => rfl); (case h2 => omega); (case kd => ktr_room); (case ku => ktr_units))
    intro tys hys kys Fys Nys hIys hlys
    have hbys := KBa.ints_make hIys
    revert hbys
    generalize byteArr (enc fs) = bys
    intro hbys
    obtain ⟨ys, heys⟩ : ∃ ys, ys = enc fs := ⟨_, rfl⟩
    rw [← heys] at hbys hlys
    clear hIys F11 N11
    (repeat' ((fail_if_success (with_reducible show wpAny _ _ (call (Value.type _) _ _) _ _ _)); walk_at "one step"))
    rename Fr _ _ _ _ => F12
    rename News _ _ _ _ => N12
    refine en_callK F12 N12 ?_
    intro e1 i1 h13 F13 N13 lt13
    clear F12 N12
    (repeat' ((fail_if_success (with_reducible show wpAny _ _ (call (Value.type _) _ _) _ _ _)); walk_at "one step"))
    refine en_listO rfl F13 N13 lt13 hbxs hlxs ?_
    intro B1 v1 c1 tu1 h14 k14 F14 N14 P1 o14
    clear F13 N13
    have N14' : News _ _ h14 ((B1, listOf v1.toArray c1) :: (D8, LCg.lst ys8) :: (lx, listOf vx.toArray nx) :: (lb, listOf vb.toArray nb) :: (lf, listOf vf.toArray nf) :: (lo, listOf vo.toArray no) :: (_, oA2) :: (_, oB2) :: tu1) := cb_drop N14 (by kcf_all)
    (repeat' ((fail_if_success (with_reducible show wpAny _ _ (call (Value.type _) _ _) _ _ _)); walk_at "one step"))
    have hxy : xs.length = ys.length := by rw [hexs, heys]; exact enc_len2 hOo hOf hlof
    have hx0 : 0 < xs.length := by rw [hexs, enc_len hOo, fig_len]; omega
    -- ∈ ((B1, listOf v1.toArray c1) :: (D8, LCg.lst ys8) :: (lx, listOf vx.toArray nx) :: (lb, listOf vb.toArray nb) :: (lf, listOf vf.toArray nf) :: (lo, listOf vo.toArray no) :: (_, oA2) :: (_, oB2) :: tu1 : List (Addr × Obj)), True := fun _ _ => trivial
    refine en_callK F14 N14' ?_
    intro e2 i2 h16 F16 N16 lt16
    clear F14 N14'
    (repeat' ((fail_if_success (with_reducible show wpAny _ _ (call (Value.type _) _ _) _ _ _)); walk_at "one step"))
    refine en_listO rfl F16 N16 lt16 hbys hlys ?_
    intro B2 v2 c2 tu2 h17 k17 F17 N17 P2 o17
    clear F16 N16
    have N17' : News _ _ h17 ((B2, listOf v2.toArray c2) :: (B1, listOf v1.toArray c1) :: (D8, LCg.lst ys8) :: (lx, listOf vx.toArray nx) :: (lb, listOf vb.toArray nb) :: (lf, listOf vf.toArray nf) :: (lo, listOf vo.toArray no) :: (_, oA2) :: (_, oB2) :: (tu1 ++ tu2)) := cb_drop N17 (by kcf_all)
    clear N17
    (repeat' ((fail_if_success (with_reducible show wpAny _ _ (call (Value.ref _) _ _) _ _ _)); walk_at "one step"))
    rename Fr _ _ _ _ => F18
    rename News _ _ _ _ => N18
    k_dflt (refine' c_sld _ _ _ _ _ _ _ _ _ _ _ _ _ _ _ F18 ?k3 N18 ?k5 ?kK (News.isList N18 (by k_mem)) (News.isList N18 (by k_mem)) (P1.on.are F18 N18 (fun q hq => by kcf_m)) (P2.on.are F18 N18 (fun q hq => by kcf_m)) hxy hx0 hlxs ?kd ?ku ?_; (case k3 => k_asm); (case k5 => k_asm); (case kK => rfl); (case kd => ktr_room); (case ku => ktr_units))
    intro t19 lm lu vm vu nm nu h19 k19 F19 N19 Pm Pu
    obtain ⟨Tm, NTm, Qm⟩ := Pm.on F19
    obtain ⟨Tu, NTu, Qu⟩ := Pu.on F19
    have hDD : diffP xs ys xs.length = placesN os fs := by rw [hexs, heys]; exact places_enc hOo hOf hlof
    rw [hDD] at Qm Qu
    obtain ⟨pm, hpm⟩ : ∃ pm, pm = pairsOf xs (placesN os fs) := ⟨_, rfl⟩
    obtain ⟨pu, hpu⟩ : ∃ pu, pu = pairsOf ys (placesN os fs) := ⟨_, rfl⟩
    rw [← hpm] at Qm
    rw [← hpu] at Qu
    have N19' : News _ _ h19 ((t19, ({ cls := .type "tuple", data := .seq [Value.ref lm, Value.ref lu].toArray } : Obj)) :: (lu, listOf vu.toArray nu) :: (lm, listOf vm.toArray nm) :: (D8, LCg.lst ys8) :: (lx, listOf vx.toArray nx) :: (lb, listOf vb.toArray nb) :: (lf, listOf vf.toArray nf) :: (lo, listOf vo.toArray no) :: (_, oA2) :: (_, oB2) :: (Tm ++ Tu)) := cb_drop (news_join N19 (news_join NTm NTu)) (by kcf_all)
    clear F18 N18 N19 NTm NTu Pm Pu P1 P2
    (repeat' ((fail_if_success (with_reducible show wpAny _ _ (call (Value.ref _) _ _) _ _ _)); walk_at "one step"))
    have hFo : Fig fo := by rw [hfo]; exact fig_in os hOo
    have hFx : Fig fx := by rw [hfx]; exact fig_in fs hOf
    have hpsD : ps = (placesN os fs).map (fun k : Nat => (k : Int)) := by rw [hps, hfo, hfx]; rfl
    have hpm' : pm = ps.map fun k => (k, b64c (fo.getD k.toNat 0)) := by
      rw [hpm, hpsD, hfo, hexs]; exact pairs_figs hOo (fun k hk => places_lt hk)
    have hpu' : pu = ps.map fun k => (k, b64c (fx.getD k.toNat 0)) := by
      rw [hpu, hpsD, hfx, heys]; exact pairs_figs hOf (fun k hk => by rw [← fig_len2 hlof]; exact places_lt hk)
    rename Fr _ _ _ _ => F20
    rename News _ _ _ _ => N20
    k_dflt (refine' c_pairs _ _ _ _ _ _ _ _ _ _ _ _ _ _ _ _ _ _ ?k1 F20 ?k3 N20 ?k5 ?kK (News.isList N20 (by k_mem)) hib (News.isList N20 (by k_mem)) hI8 (by omega) hFo hpsin hps16 ?kd ?ku ?_; (case k1 => k_asm); (case k3 => k_asm); (case k5 => k_asm); (case kK => rfl); (case kd => ktr_room); (case ku => ktr_units))
    intro l21 v21 n21 w21 h21 k21 F21 N21 P21
    rw [← hpm'] at P21
    (repeat' ((fail_if_success (with_reducible show wpAny _ _ (compareOp _ _ _) _ _ _)); walk_at "one step"))
    rename Fr _ _ _ _ => F21
    rename News _ _ _ _ => N21
    refine ne_pairs (News.isList N21 (by kcf_m)) (News.isList N21 (by kcf_m)) (Qm.are F21 N21 (fun q hq => by kcf_m)) (P21.on.are F21 N21 (fun q hq => by kcf_m)) (by ktr_units) ?_
    have N21' : News _ _ h21 ((lu, listOf vu.toArray nu) :: (lm, listOf vm.toArray nm) :: (D8, LCg.lst ys8) :: (lx, listOf vx.toArray nx) :: (lb, listOf vb.toArray nb) :: (lf, listOf vf.toArray nf) :: (lo, listOf vo.toArray no) :: (_, oA2) :: (_, oB2) :: (Tm ++ Tu)) := cb_drop N21 (by kcf_all)
    clear F20 N20 N21 P21
    (repeat' ((fail_if_success (with_reducible show wpAny _ _ (call (Value.ref _) _ _) _ _ _)); walk_at "one step"))
    rename Fr _ _ _ _ => F22
    rename News _ _ _ _ => N22
    k_dflt (refine' c_pairs _ _ _ _ _ _ _ _ _ _ _ _ _ _ _ _ _ _ ?k1 F22 ?k3 N22 ?k5 ?kK (News.isList N22 (by k_mem)) hix (News.isList N22 (by k_mem)) hI8 (by omega) hFx (by rw [← hfox]; exact hpsin) hps16 ?kd ?ku ?_; (case k1 => k_asm); (case k3 => k_asm); (case k5 => k_asm); (case kK => rfl); (case kd => ktr_room); (case ku => ktr_units))
    intro l23 v23 n23 w23 h23 k23 F23 N23 P23
    rw [← hpu'] at P23
    (repeat' ((fail_if_success (with_reducible show wpAny _ _ (compareOp _ _ _) _ _ _)); walk_at "one step"))
    rename Fr _ _ _ _ => F23
    rename News _ _ _ _ => N23
    refine ne_pairs (News.isList N23 (by kcf_m)) (News.isList N23 (by kcf_m)) (Qu.are F23 N23 (fun q hq => by kcf_m)) (P23.on.are F23 N23 (fun q hq => by kcf_m)) (by ktr_units) ?_
    have N23' : News _ _ h23 ((lu, listOf vu.toArray nu) :: (lm, listOf vm.toArray nm) :: (D8, LCg.lst ys8) :: (lx, listOf vx.toArray nx) :: (lb, listOf vb.toArray nb) :: (lf, listOf vf.toArray nf) :: (lo, listOf vo.toArray no) :: (_, oA2) :: (_, oB2) :: (Tm ++ Tu)) := cb_drop N23 (by kcf_all)
    clear F22 N22 N23 P23
    (repeat' ((fail_if_success (with_reducible show wpAny _ _ (call (Value.type _) _ _) _ _ _)); walk_at "one step"))
    refine en_callK F23 N23' ?_
    intro e3 i3 h24 F24 N24 lt24
    clear F23 N23'
    (repeat' ((fail_if_success (with_reducible show wpAny _ _ (call (Value.type _) _ _) _ _ _)); walk_at "one step"))
    refine en_listO rfl F24 N24 lt24 hbxs hlxs ?_
    intro B3 v3 c3 tu3 h25 k25 F25 N25 P3 o25
    clear F24 N24 lt24
    have N25' : News _ _ h25 ((B3, listOf v3.toArray c3) :: (lu, listOf vu.toArray nu) :: (lm, listOf vm.toArray nm) :: (D8, LCg.lst ys8) :: (lx, listOf vx.toArray nx) :: (lb, listOf vb.toArray nb) :: (lf, listOf vf.toArray nf) :: (lo, listOf vo.toArray no) :: (_, oA2) :: (_, oB2) :: (tu3 ++ (Tm ++ Tu))) := cb_drop N25 (by kcf_all)
    clear N25
    (repeat' ((fail_if_success (with_reducible show wpAny _ _ (call (Value.type _) _ _) _ _ _)); walk_at "one step"))
    rename Fr _ _ _ _ => F26
    rename News _ _ _ _ => N26
    refine en_callK F26 N26 ?_
    intro e4 i4 h26 F27 N27 lt27
    clear F26 N26
    (repeat' ((fail_if_success (with_reducible show wpAny _ _ (call (Value.type _) _ _) _ _ _)); walk_at "one step"))
    refine en_listO rfl F27 N27 lt27 hbys hlys ?_
    intro B4 v4 c4 tu4 h28 k28 F28 N28 P4 o28
    clear F27 N27 lt27
    have N28' : News _ _ h28 ((B4, listOf v4.toArray c4) :: (B3, listOf v3.toArray c3) :: (lu, listOf vu.toArray nu) :: (lm, listOf vm.toArray nm) :: (D8, LCg.lst ys8) :: (lx, listOf vx.toArray nx) :: (lb, listOf vb.toArray nb) :: (lf, listOf vf.toArray nf) :: (lo, listOf vo.toArray no) :: (_, oA2) :: (_, oB2) :: (tu4 ++ (tu3 ++ (Tm ++ Tu)))) := cb_drop N28 (by kcf_all)
    have hne34 : @Ne Nat B3 B4 := Nat.ne_of_lt (o28 _ (by kcf_m))
    clear N28
    (repeat' ((fail_if_success (with_reducible show wpAny _ _ (call (Value.ref _) _ _) _ _ _)); walk_at "one step"))
    rename Fr _ _ _ _ => F29
    rename News _ _ _ _ => N29
    k_dflt (refine' c_uld _ _ _ _ _ _ _ _ _ _ _ _ _ _ _ _ F29 ?k3 N29 ?k5 ?kK ?hle ?hla hne34 (P3.on.are F29 N29 (fun q hq => by kcf_m)) (P4.on.are F29 N29 (fun q hq => by kcf_m)) hxy hlxs ?hr (fun q hq => Nat.ne_of_lt (o25 q hq)) (newer o28 ?hs2) ?kd ?ku ?_; (case k3 => k_asm); (case k5 => k_asm); (case kK => rfl); (case hle => kcf_m); (case hla => kcf_m); (case hr => kcf_all); (case hs2 => kcf_all); (case kd => ktr_room); (case ku => ktr_units))
    intro t30 ll vl vc nl nc h30 k30 F30 N30 Pl Pc
    obtain ⟨Tl, NTl, Ql⟩ := Pl.on F30
    obtain ⟨Tc, NTc, Qc⟩ := Pc.on F30
    rw [hDD] at Ql Qc
    rw [← hpm] at Ql
    rw [← hpu] at Qc
    have N30' : News _ _ h30 ((t30, ({ cls := .type "tuple", data := .seq [Value.ref ll, Value.ref B4].toArray } : Obj)) :: (B4, listOf vc.toArray nc) :: (ll, listOf vl.toArray nl) :: (lu, listOf vu.toArray nu) :: (lm, listOf vm.toArray nm) :: (D8, LCg.lst ys8) :: (lx, listOf vx.toArray nx) :: (lb, listOf vb.toArray nb) :: (lf, listOf vf.toArray nf) :: (lo, listOf vo.toArray no) :: (_, oA2) :: (_, oB2) :: (Tl ++ (Tc ++ (Tm ++ Tu)))) := cb_drop (news_join N30 (news_join NTl NTc)) (by kcf_all)
    clear F29 N29 N30 NTl NTc Pl Pc P3 P4
    (repeat' ((fail_if_success (with_reducible show wpAny _ _ (subscriptTail _ _ (Value.ref _) (Value.ref _)) _ _ _)); walk_at "one step"))
    rename Fr _ _ _ _ => F31
    rename News _ _ _ _ => N31
    have hlD : (placesN os fs).length ≤ 16 := by
      have e : ps.length = (placesN os fs).length := by rw [hpsD, List.length_map]
      omega
    have hmlen : vm.length ≤ 16 := by
      have e := (Qm.are F31 N31 (fun q hq => by kcf_m)).len
      rw [hpm, pairsOf, List.length_map] at e
      omega
    refine krv_lit (zs := vm.reverse) F31 N31 (News.isList N31 (by k_mem)) (IsPart.int _ _) rfl ?_ (by with_unfolding_all rfl) (by intro _; with_unfolding_all rfl) (by rw [PySem.sizeLine_eq, List.size_toArray]; omega)
    intro l32 h32 F32 N32 _
    clear F31 N31
    (repeat' ((fail_if_success (with_reducible show wpAny _ _ (compareOp _ _ _) _ _ _)); walk_at "one step"))
    refine ne_pairs (News.isList N32 (by kcf_m)) (News.isList N32 (by kcf_m)) (Ql.are F32 N32 (fun q hq => by kcf_m)) ((Qm.are F32 N32 (fun q hq => by kcf_m)).rev) (by ktr_units) ?_
    have N32' : News _ _ h32 ((B4, listOf vc.toArray nc) :: (ll, listOf vl.toArray nl) :: (lu, listOf vu.toArray nu) :: (lm, listOf vm.toArray nm) :: (D8, LCg.lst ys8) :: (lx, listOf vx.toArray nx) :: (lb, listOf vb.toArray nb) :: (lf, listOf vf.toArray nf) :: (lo, listOf vo.toArray no) :: (_, oA2) :: (_, oB2) :: (Tl ++ (Tc ++ (Tm ++ Tu)))) := cb_drop N32 (by kcf_all)
    clear N32
    (repeat' ((fail_if_success (with_reducible show wpAny _ _ (compareOp _ _ _) _ _ _)); walk_at "one step"))
    rename Fr _ _ _ _ => F33
    rename News _ _ _ _ => N33
    refine ne_pairs (News.isList N33 (by kcf_m)) (News.isList N33 (by kcf_m)) (Qc.are F33 N33 (fun q hq => by kcf_m)) (Qu.are F33 N33 (fun q hq => by kcf_m)) (by ktr_units) ?_
    (repeat' ((fail_if_success (with_reducible show wpAny _ _ (call (Value.ref _) _ _) _ _ _)); walk_at "one step"))
    rename Fr _ _ _ _ => F34
    rename News _ _ _ _ => N34
    have hxl : fo.length ≤ xs.length := by rw [hexs, enc_len hOo, hfo]; omega
    have hinu : ∀ p ∈ pu, 0 ≤ p.1 ∧ p.1 < (xs.length : Int) ∧ 0 ≤ p.2 ∧ p.2 < 256 := by
      rw [hpu']; intro p hp
      obtain ⟨k, hk, rfl⟩ := List.mem_map.mp hp
      have h1 := hpsin k hk
      have h2 := b64c_in (fx.getD k.toNat 0)
      exact ⟨h1.1, by omega, h2⟩
    have hinm : ∀ p ∈ pm.reverse, 0 ≤ p.1 ∧ p.1 < (ys.length : Int) ∧ 0 ≤ p.2 ∧ p.2 < 256 := by
      rw [hpm']; intro p hp
      obtain ⟨k, hk, rfl⟩ := List.mem_map.mp (List.mem_reverse.mp hp)
      have h1 := hpsin k hk
      have h2 := b64c_in (fo.getD k.toNat 0)
      exact ⟨h1.1, by omega, h2⟩
    have hpul : pu.length ≤ 16 := by rw [hpu', List.length_map]; exact hps16
    have hpml : pm.reverse.length ≤ 16 := by rw [List.length_reverse, hpm', List.length_map]; exact hps16
    have hmeet : textsOf ys pm.reverse = (textsOf xs pu).reverse := by rw [hpm, hpu, ← hDD]; exact texts_meet hxy
    k_dflt (refine' c_texts _ _ _ _ _ _ _ _ _ _ _ _ _ _ _ _ _ _ ?k1 F34 ?k3 N34 ?k5 ?kK hbxs hlxs (News.isList N34 (by k_mem)) (Qu.are F34 N34 (fun q hq => by kcf_m)) hinu ?hl ?kd ?ku ?_; (case k1 => k_asm); (case k3 => k_asm); (case k5 => k_asm); (case kK => rfl); (case hl => omega); (case kd => ktr_room); (case ku => ktr_units))
    intro lt vt nt h35 k35 F35 N35 hT
    have N35' : News _ _ h35 ((lt, listOf vt.toArray nt) :: (ll, listOf vl.toArray nl) :: (lu, listOf vu.toArray nu) :: (lm, listOf vm.toArray nm) :: (D8, LCg.lst ys8) :: (lx, listOf vx.toArray nx) :: (lb, listOf vb.toArray nb) :: (lf, listOf vf.toArray nf) :: (lo, listOf vo.toArray no) :: (_, oA2) :: (_, oB2) :: (Tl ++ (Tc ++ (Tm ++ Tu)))) := cb_drop N35 (by kcf_all)
    clear F34 N34 N35
    (repeat' ((fail_if_success (with_reducible show wpAny _ _ (call (Value.ref _) _ _) _ _ _)); walk_at "one step"))
    rename Fr _ _ _ _ => F36
    rename News _ _ _ _ => N36
    k_dflt (refine' c_texts _ _ _ _ _ _ _ _ _ _ _ _ _ _ _ _ _ _ ?k1 F36 ?k3 N36 ?k5 ?kK hbys hlys (News.isList N36 (by k_mem)) (Ql.are F36 N36 (fun q hq => by kcf_m)) hinm ?hl ?kd ?ku ?_; (case k1 => k_asm); (case k3 => k_asm); (case k5 => k_asm); (case kK => rfl); (case hl => omega); (case kd => ktr_room); (case ku => ktr_units))
    intro l37 v37 n37 h37 k37 F37 N37 hT37
    clear F36 N36
    (repeat' ((fail_if_success (with_reducible show wpAny _ _ (subscriptTail _ _ (Value.ref _) (Value.ref _)) _ _ _)); walk_at "one step"))
    rename Fr _ _ _ _ => F38
    rename News _ _ _ _ => N38
    have htl : vt.length ≤ 17 := by
      rw [hT.length]; unfold textsOf; rw [List.length_map, List.length_range]; omega
    refine krv_lit (zs := vt.reverse) F38 N38 (News.isList N38 (by k_mem)) (IsPart.int _ _) rfl ?_ (by with_unfolding_all rfl) (by intro _; with_unfolding_all rfl) (by rw [PySem.sizeLine_eq, List.size_toArray]; omega)
    intro l39 h39 F39 N39 _
    clear F38 N38
    (repeat' ((fail_if_success (with_reducible show wpAny _ _ (compareOp _ _ _) _ _ _)); walk_at "one step"))
    refine ne_bytes (News.isList N39 (by kcf_m)) (News.isList N39 (by kcf_m)) (hmeet ▸ hT37) (bytes_rev hT) (by ktr_units) ?_
    have N39' : News _ _ h39 ((lt, listOf vt.toArray nt) :: (D8, LCg.lst ys8) :: (lx, listOf vx.toArray nx) :: (lb, listOf vb.toArray nb) :: (lf, listOf vf.toArray nf) :: (lo, listOf vo.toArray no) :: (_, oA2) :: (_, oB2) :: ([] : List (Addr × Obj))) := cb_drop N39 (by kcf_all)
    clear N39
    (repeat' ((fail_if_success (with_reducible show wpAny _ _ (eval (PySem.Expr.ListComp _ _ _ _) _) _ _ _)); walk_at "one step"))
    have hy8 : ys8.length ≤ 16 := by rw [hI8.length]; exact hps16
    k_dflt (refine LCg.ListComp_U (F₀ := by k_asm) (by with_unfolding_all rfl) (by decide) (by rfl) (by decide) (by rfl) ?_)
    (repeat' ((fail_if_success (with_reducible show LCg.CompSrc _ _ _ _ _ _ _ _ _ _ _ _ _ _)); walk_at "one step"))
    rename Fr _ _ _ _ => F40
    rename News _ _ _ _ => N40
    refine LCg.CompSrc.ledger (by rfl) F40 N40 (show (D8, LCg.lst ys8) ∈ _ by kcf_m) (by rw [PySem.sizeLine_eq, List.size_toArray]; omega) ?_
    intro g40
    refine kcf_list (fun k => 6 * k + 6) hI8 (fun k' t' I' oI' C' oC' D' m' ys' h' tk' E' hk' hC' hx' F' N' off' ne' => ?_) ?_
    · intro hMark'
      have off0 := off'
      simp only [LCg.Off3, and_true] at off'
      have hb := hpsin k' hk'
      iterate 7 walk1
      exact LCg.CompEnd.intro F' N' _ (fun p hp => hp) off0 (Or.inr ⟨_, (show (D8, LCg.lst ys8) ∈ _ by kcf_m), rfl, _, rfl⟩) (kcf_el rfl rfl rfl)
    · intro ys41 hI41 D41 h41 k41 F41 N41 off41
      walk1
      rename_i D42 w42 h42 F42 N42 hI42 l42
      obtain ⟨_, _, l42t, _, _, _, l42f, l42o, _⟩ := l42
      have N42' : News _ _ h42 ((D42, listOf w42.toArray 0) :: (lt, listOf vt.toArray nt) :: (lf, listOf vf.toArray nf) :: (lo, listOf vo.toArray no) :: []) := cb_drop N42 (by kcf_all)
      clear N42
      (repeat' ((fail_if_success (with_reducible show wpAny _ _ (call (Value.type _) _ _) _ _ _)); walk_at "one step"))
      rename Fr _ _ _ _ => F43
      rename News _ _ _ _ => N43
      have hf1 : @Ne Nat lf lt := bytes_ne_ints N43 (show (lf, listOf vf.toArray nf) ∈ _ by kcf_m) (show (lt, listOf vt.toArray nt) ∈ _ by kcf_m) hif hT (by omega)
      have ho1 : @Ne Nat lo lt := bytes_ne_ints N43 (show (lo, listOf vo.toArray no) ∈ _ by kcf_m) (show (lt, listOf vt.toArray nt) ∈ _ by kcf_m) hio hT (by omega)
      have hA : textsOf xs pu = (0 :: (placesN os fs).map (· + 1)).map (mixAt xs ys) := by rw [hpu, ← hDD]; exact texts_mix hxy
      have hB : ([0] ++ ps.map fun k => 6 * k + 6) = [0] ++ ((placesN os fs).map fun k : Nat => (k : Int)).map fun k => 6 * k + 6 := by rw [hpsD]
      refine call_zip_news (news := [(lf, listOf vf.toArray nf), (lo, listOf vo.toArray no)]) rfl F43 N43 (.tail _ (.head _)) (.head _) hT.areOf hI42.areOf (by kcf_all) (List.forall_mem_cons.mpr ⟨hf1, List.forall_mem_cons.mpr ⟨ho1, List.forall_mem_nil _⟩⟩) (List.forall_mem_cons.mpr ⟨Nat.ne_of_lt l42f, List.forall_mem_cons.mpr ⟨Nat.ne_of_lt l42o, List.forall_mem_nil _⟩⟩) ?_
      intro h44 e44 F44 N44 S44
      refine S44 _ rfl _ _ _ _ (fun i m nx => nx = [(lf, listOf vf.toArray nf), (lo, listOf vo.toArray no)] ∧ m (Str.ofString "old") = some (.ref lo) ∧ m (Str.ofString "fresh") = some (.ref lf)) ⟨rfl, rfl, rfl⟩ ?_ ?_
      · intro i a b va vb m₁ news₁ s₁ own hs₁ ha hb ka kb hJ hmap hsub F₁ N₁
        obtain ⟨hh, tk, rfl⟩ := hs₁
        obtain ⟨rfl, mo, mf⟩ := hJ
        obtain ⟨bb, tb, rfl, hbb⟩ := ka
        obtain ⟨td, rfl⟩ := ItemKind.int_is kb
        obtain ⟨t, ht, rfl, rfl⟩ := text_at hA hB ha hb
        have htl' : t ≤ (figR os).length := by
          rcases ht with rfl | ⟨k, hk, rfl⟩
          · omega
          · exact places_lt hk
        have htl'' : t ≤ 16 := by rw [hfo] at hfo16; omega
        dsimp only at F₁ N₁
        replace F₁ := sayAll [(Str.ofString "old", .ref lo), (Str.ofString "fresh", .ref lf)] F₁ (List.forall_mem_cons.mpr ⟨mo, List.forall_mem_cons.mpr ⟨mf, List.forall_mem_nil _⟩⟩)
        dsimp only [kstB] at F₁
        have N₁' : News _ _ hh ((lf, listOf vf.toArray nf) :: (lo, listOf vo.toArray no) :: own) := cb_drop N₁ (by kcf_all)
        clear N₁ mo mf ha hb hmap F43 N43 F44 N44 S44
        have hgs : KBw.bInts bb = (mixAt fo fx t).map b64c ++ List.replicate (padR os) 61 := by rw [hbb, hexs, heys, text_figs hOo hOf hlof htl', hfo, hfx]
        have hdec : dec (mixAt fo fx t) = torn os fs (6 * (t : Int)) := by rw [hfo, hfx]; exact text_dec hOo hOf hlof htl'
        have hpad : padOk (mixAt fo fx t).length (padR os) := by rw [hfo, hfx]; exact text_pad hlof t
        have hml : (mixAt fo fx t).length ≤ 16 := by rw [mix_len hfox]; exact hfo16
        (repeat' ((fail_if_success (with_reducible show wpAny _ _ (call (Value.ref _) _ _) _ _ _)); walk_at "one step"))
        rename Fr _ _ _ _ => F45
        rename News _ _ _ _ => N45
        k_dflt (refine' c_b64d _ _ _ _ _ _ _ _ _ _ _ _ _ _ _ _ _ _ ?k1 F45 ?k3 N45 ?k5 ?kK hgs (fig_mix hFo hFx t) hpad hml ?kd ?ku ?_; (case k1 => k_asm); (case k3 => k_asm); (case k5 => k_asm); (case kK => rfl); (case kd => ktr_room); (case ku => ktr_units))
        rw [hdec]
        intro t46 h46 k46 F46 N46 hI46
        have hb46 := KBa.ints_make hI46
        revert hb46
        generalize byteArr (torn os fs (6 * (t : Int))) = br
        intro hb46
        clear F45 N45
        (repeat' ((fail_if_success (with_reducible show wpAny _ _ (call (Value.ref _) _ _) _ _ _)); walk_at "one step"))
        rename Fr _ _ _ _ => F47
        rename News _ _ _ _ => N47
        k_dflt (refine' c_torn _ _ _ _ _ _ _ _ _ _ _ _ _ _ _ _ _ _ ?k1 F47 ?k3 N47 ?k5 ?kK (News.isList N47 (by k_mem)) hio (News.isList N47 (by k_mem)) hif ?hl ?hlen hOo hOf ?b0 ?b1 ?kd ?ku ?_; (case k1 => k_asm); (case k3 => k_asm); (case k5 => k_asm); (case kK => rfl); (case hl => omega); (case hlen => omega); (case b0 => omega); (case b1 => omega); (case kd => ktr_room); (case ku => ktr_units))
        intro t48 h48 k48 F48 N48 hI48
        have hb48 := KBa.ints_make hI48
        revert hb48
        generalize byteArr (torn os fs (6 * (t : Int))) = cr
        intro hb48
        clear F47 N47
        (repeat' ((fail_if_success (with_reducible show wpAny _ _ (compareOp _ _ _) _ _ _)); walk_at "one step"))
        refine ne_self_bytes (hb46.trans hb48.symm) ?_
        (repeat' ((fail_if_success (with_reducible show wpAny _ _ (call (Value.ref _) _ _) _ _ _)); walk_at "one step"))
        rename Fr _ _ _ _ => F49
        rename News _ _ _ _ => N49
        k_dflt (refine' c_b64e _ _ _ _ _ _ _ _ _ _ _ _ _ _ _ _ _ _ ?k1 F49 ?k3 N49 ?k5 ?kK hb46 ?h2 ?kd ?ku ?_; (case k1 => k_asm); (case k3 => k_asm); (case k5 => k_asm); (case kK => rfl); (case h2 => (rw [torn_len]; exact hl12)); (case kd => ktr_room); (case ku => ktr_units))
        intro t50 h50 k50 F50 N50 hI50 hl50
        have hb50 := KBa.ints_make hI50
        revert hb50
        generalize byteArr (enc (torn os fs (6 * (t : Int)))) = er
        intro hb50
        clear F49 N49
        (repeat' ((fail_if_success (with_reducible show wpAny _ _ (compareOp _ _ _) _ _ _)); walk_at "one step"))
        refine ne_self_bytes (by rw [hb50, hbb, hexs, heys]; exact text_enc hOo hOf hlof htl') ?_
        rename Fr _ _ _ _ => F51
        rename News _ _ _ _ => N51
        have N51' : News _ _ h50 (own ++ [(lf, listOf vf.toArray nf), (lo, listOf vo.toArray no)]) := cb_drop N51 (by kcf_all)
        (repeat' ((fail_if_success (with_reducible show LoopStep3 _ _ _ _ _ _ _ _ _ _)); walk_at "one step"))
        exact LoopStep2.intro F51 N51' rfl ⟨rfl, rfl, rfl⟩
      · intro h' tk m' news' F' N' hmap' hJ'
        clear F43 N43 F44 N44 S44
        k_steps
  · intro l k
    dsimp only
    split <;> simp
end Mine

end QLaw
end Common
theorem PySem.Challenge.cw_qh0117_01_holds : PySem.Challenge.rw_qh0117_01.Holds :=
  Mine.law_holds
