import PyProof.Rows.All
import Wide.All
import OpenK.AllK
import Wide.FinOn
import PySem.Challenge.RW_ji0010_02
open PySem PySem.W PyProof.Rows PySem.Calls
set_option Elab.async false
set_option maxRecDepth 100000
namespace Mine
section
section
variable {tb : String → Option Builtin} {p : Program} {w : World} {n₀ : Nat} {ann : Option Value}
def goOne (st : SharedT → Thread → Option (SharedT × Thread)) (ok : Thread → Bool) (x : SharedT × Thread) : Option (SharedT × Thread) :=
  match through x.2 with
  | true => some x
  | false => match ok x.2 with
    | true => st x.1 x.2
    | false => none
noncomputable def goPow (st : SharedT → Thread → Option (SharedT × Thread)) (ok : Thread → Bool) (k : Nat) : SharedT × Thread → Option (SharedT × Thread) :=
  @Nat.rec (fun _ => SharedT × Thread → Option (SharedT × Thread)) (goOne st ok)
    (fun _ ih x => @Option.rec (SharedT × Thread) (fun _ => Option (SharedT × Thread)) none (fun y => ih y) (ih x)) k

theorem goOne_spec {x y : SharedT × Thread} (h : goOne (stepT (denote tb) p w) (stepOk n₀ ann) x = some y) {N : Nat} {r : Shared}
    (k : topRun tb p w n₀ ann N y.1.abs y.2 = some r) : topRun tb p w n₀ ann (N + 1) x.1.abs x.2 = some r := by
  unfold goOne at h
  unfold topRun
  cases ht : through x.2 with
  | true =>
    rw [ht] at h
    cases h
    cases N with
    | zero => simp [topRun] at k
    | succ N => unfold topRun at k; rw [ht] at k; exact k
  | false =>
    rw [ht] at h
    cases hk : stepOk n₀ ann x.2 with
    | false => rw [hk] at h; cases h
    | true =>
      rw [hk] at h
      dsimp only at h ⊢
      rw [stepT_spec (t' := y.2) (s' := y.1) h]
      exact k
theorem goPow_spec : ∀ (k : Nat) {x y : SharedT × Thread}, goPow (stepT (denote tb) p w) (stepOk n₀ ann) k x = some y → ∀ {N : Nat} {r : Shared},
    topRun tb p w n₀ ann N y.1.abs y.2 = some r → topRun tb p w n₀ ann (N + 2 ^ k) x.1.abs x.2 = some r
  | 0, x, y, h, N, r, e => goOne_spec h e
  | k + 1, x, y, h, N, r, e => by
    have h' : @Option.rec (SharedT × Thread) (fun _ => Option (SharedT × Thread)) none (fun y => goPow (stepT (denote tb) p w) (stepOk n₀ ann) k y) (goPow (stepT (denote tb) p w) (stepOk n₀ ann) k x) = some y := h
    cases q : goPow (stepT (denote tb) p w) (stepOk n₀ ann) k x with
    | none => rw [q] at h'; cases h'
    | some z =>
      rw [q] at h'
      have := goPow_spec k q (goPow_spec k h' e)
      rw [show N + 2 ^ (k + 1) = N + 2 ^ k + 2 ^ k by rw [Nat.pow_succ]; omega]
      exact this
end

theorem left_of_T {p q : Program} {loose : List Str} {Xt : Shared → Bool} {α : Type} {Yf : Shared → α} {Ya : World → α} {N : Nat} {m₀ : Nat} {ann : Option Value} {k n : Nat} {B : Params → BT} {life : Life}
    (e : opening p = plainProg p.main.scope.names) (hN : Nat.ble 600 N = true) (f : ∀ s, fenceModules? p s = some s)
    (hB : ∀ P, boot_heap P = absHeap (B P) n life)
    (size : ∀ P, ((boot_heap P).isNs mainGlobals, (boot_heap P).objs.size, (boot_heap P).nsMap mainGlobals "__annotations__") = (true, m₀, ann))
    (le : Nat.ble (2 ^ k + 1) N = true)
    (run : ∀ (w : World) (os : OsState), (goPow (stepT (denote treeTable) p w) (stepOk m₀ ann) k (⟨B w.params, n, life, #[], boot_drawn, boot_toks, os⟩, topStub p)).map (fun y =>
        (through y.2, (staticsOk (importedModules p.main.body) (boot_heap w.params) y.1.abs.heap && namesBound p y.1.abs.heap && gensDone y.1.abs && laidKept (boot_heap w.params) y.1.abs.heap),
          openSeen q loose (importedModules p.main.body) Xt true y.1.abs, Yf y.1.abs)) = some (true, true, openGood q loose, Ya w)) : LeftO p q loose Xt Yf Ya N := fun w => by
  obtain ⟨⟨h, gs, d, t, os⟩, e1, e2⟩ := Option.map_eq_some_iff.mp (boot_open e hN f w)
  obtain ⟨rfl, rfl, rfl, rfl⟩ : h = boot_heap w.params ∧ gs = Array.mk [] ∧ d = boot_drawn ∧ t = boot_toks := by simpa using e2
  obtain ⟨z1, z2, z3⟩ : _ ∧ _ ∧ _ := by simpa only [Prod.mk.injEq] using size w.params
  obtain ⟨y, r1, r2⟩ := Option.map_eq_some_iff.mp (run w os)
  obtain ⟨l1, l2, l3, l4⟩ : _ ∧ _ ∧ _ ∧ _ := by simpa only [Prod.mk.injEq] using r2
  have t1 : topRun treeTable p w m₀ ann 1 y.1.abs y.2 = some y.1.abs := by unfold topRun; rw [l1]
  have r := topRun_mono (N - (2 ^ k + 1)) _ _ _ _ (goPow_spec k r1 t1)
  rw [show 1 + 2 ^ k + (N - (2 ^ k + 1)) = N by have := Nat.le_of_ble_eq_true le; omega] at r
  have r' : topRun treeTable p w m₀ ann N ⟨boot_heap w.params, Array.mk [], boot_drawn, boot_toks, os⟩ (topStub p) = some y.1.abs := by
    rw [hB w.params]; exact r
  have t : topFrom treeTable p w N ⟨boot_heap w.params, Array.mk [], boot_drawn, boot_toks, os⟩ = some y.1.abs := by
    unfold topFrom
    dsimp only
    rw [z1, z2, z3, r']
    show (match staticsOk (importedModules p.main.body) (boot_heap w.params) y.1.abs.heap && namesBound p y.1.abs.heap && gensDone y.1.abs && laidKept (boot_heap w.params) y.1.abs.heap with | true => _ | false => _) = _
    rw [l2]
  unfold openEnds
  rw [e1]
  show (topFrom treeTable p w N _).map _ = _
  rw [t]
  exact congrArg some (Prod.ext l3 l4)

def treeOf (l : List Obj) (n : Nat) : BT := (List.range n).foldl (fun t i => t.ins i (l.getD i default)) .nil
end
end Mine
namespace Mine
def vw : Program := view PySem.Challenge.pw_ji0010_02 [0, 2, 3, 5, 7, 8, 9, 11, 12]
noncomputable def bootT (P : Params) : BT := Mine.treeOf (boot_heap P).objs.toList 11
theorem hB (P : Params) : boot_heap P = absHeap (bootT P) 11 {} := by kernel_rfl
theorem hsize (P : Params) : ((boot_heap P).isNs mainGlobals, (boot_heap P).objs.size, (boot_heap P).nsMap mainGlobals "__annotations__") = (true, 11, some (Value.ref 6)) := by kernel_rfl
theorem hopen : opening PySem.Challenge.pw_ji0010_02 = plainProg PySem.Challenge.pw_ji0010_02.main.scope.names := by kernel_rfl
theorem hfence (s : Shared) : fenceModules? PySem.Challenge.pw_ji0010_02 s = some s := by kernel_rfl
theorem htw (w : World) : stepT (denote treeTable) PySem.Challenge.pw_ji0010_02 w = PySem.W.Fast.tw10156331382660048174 (PySem.W.Fast.tw11892475500146522536 PySem.W.Fast.tw14364793385576792824) PySem.Challenge.pw_ji0010_02 w := by
  rw [PySem.W.Fast.te10156331382660048174, PySem.W.Fast.te11892475500146522536, PySem.W.Fast.te14364793385576792824]
theorem htk : stepOk 11 (some (Value.ref 6)) = PySem.W.Fast.tw6613529449190102663 11 (some (Value.ref 6)) := by rw [PySem.W.Fast.te6613529449190102663]
theorem hleft {α : Type} (Yf : Shared → α) (Ya : World → α)
    (run : ∀ (w : World) (os : OsState), (Mine.goPow (PySem.W.Fast.tw10156331382660048174 (PySem.W.Fast.tw11892475500146522536 PySem.W.Fast.tw14364793385576792824) PySem.Challenge.pw_ji0010_02 w) (PySem.W.Fast.tw6613529449190102663 11 (some (Value.ref 6))) 12 (⟨bootT w.params, 11, {}, #[], boot_drawn, boot_toks, os⟩, topStub PySem.Challenge.pw_ji0010_02)).map (fun y =>
        (through y.2, (staticsOk (importedModules PySem.Challenge.pw_ji0010_02.main.body) (boot_heap w.params) y.1.abs.heap && namesBound PySem.Challenge.pw_ji0010_02 y.1.abs.heap && gensDone y.1.abs && laidKept (boot_heap w.params) y.1.abs.heap),
          openSeen vw [PySem.Str.ofString "PolynomialRing", PySem.Str.ofString "Polynomial"] (importedModules PySem.Challenge.pw_ji0010_02.main.body) (fun s => xlAt vw [] s && recOk (RowW.records (OpenRow.toRowW PySem.Challenge.rw_ji0010_02.row)) s) true y.1.abs, Yf y.1.abs)) = some (true, true, openGood vw [PySem.Str.ofString "PolynomialRing", PySem.Str.ofString "Polynomial"], Ya w)) :
    LeftO PySem.Challenge.pw_ji0010_02 vw [PySem.Str.ofString "PolynomialRing", PySem.Str.ofString "Polynomial"] (fun s => xlAt vw [] s && recOk (RowW.records (OpenRow.toRowW PySem.Challenge.rw_ji0010_02.row)) s) Yf Ya 7962 :=
  Mine.left_of_T (k := 12) hopen (by decide) hfence hB hsize (by decide) (fun w os => by rw [htw, htk]; exact run w os)
local macro_rules | `(tactic| o_head $H) => `(tactic| (
  refine holds_open (q := vw) (loose := [PySem.Str.ofString "PolynomialRing", PySem.Str.ofString "Polynomial"]) (Xt := fun s => xlAt vw [] s && recOk (RowW.records (OpenRow.toRowW PySem.Challenge.rw_ji0010_02.row)) s) (XP := XL vw []) (Yf := Hook.obs $H) (Ya := Hook.val $H) (YP := Hook.says $H) (N := 7962) ?hl (Hook.of $H) (Hook.keeps $H) (fun s e => xl_of s (Bool.and_eq_true_iff.mp e).1) XL.keeps (by rfl) (by rfl) (by rfl) (fun s e => recFacts_of (Bool.and_eq_true_iff.mp e).2) (by rfl) (by first | assumption | decide +kernel) (by decide +kernel) ⟨rfl, rfl, rfl, rfl, rfl, by decide +kernel⟩ ?hw ?hc
  (case hl => exact hleft _ _ (fun w os => by kernel_rfl))))
set_option maxHeartbeats 8000000 in
open_top hd for PySem.Challenge.rw_ji0010_02
end Mine
namespace Mine
section
/-- the end of a call that changes nothing that stood -/
def PureLeave (g : Heap) (R : Result → Shared → Prop) (v : Value) (s' : Shared) : Prop :=
  ∃ L' m', Fr g L' s'.heap m' ∧ ((∀ b o, g.get? b = some o → s'.heap.get? b = some o) → R (.ok (.ret v)) s')
theorem PureLeave.mk' {g : Heap} {R : Result → Shared → Prop} {v : Value} {s' : Shared} {L' : Addr} {m' : Str → Option Value} (F : Fr g L' s'.heap m') (k : (∀ b o, g.get? b = some o → s'.heap.get? b = some o) → R (.ok (.ret v)) s') : PureLeave g R v s' := ⟨L', m', F, k⟩

section
variable {prog : Program} {w : World} {A₀ A : Around} {s : Shared} {base h₀ : Heap} {outer : List Env} {L : Addr} {m : Str → Option Value} {env : Env} {K : Frag}
  {R : Result → Shared → Prop} {name qual : Str} {params : Arguments} {body : List Stmt} {scope : Scope} {dV kV doc pm cdv ct oc : Value} {an od : Option Addr} {osl : Array (Option Value)} {f : Addr} {args : Args} {binds : List (Str × Value)}
  {p : Program} {loose : List Str} {mean : ExcName → Option Value} {mg mb : Str → Option Value}
theorem code_pure (B : Below A₀ base outer h₀) (F : Fr h₀ L s.heap m) (X₀ : K.In h₀) (T : Top p loose mean mg mb h₀) (hA : A.frames = some (env :: outer)) (hf : env.frame = some L) (hke : env.scope.kind = .function)
    (ho : K.lookup f = some ⟨oc, od, .func (fnOf name qual params body scope dV kV doc pm an cdv ct), osl⟩) (hcd : codeIn K cdv qual = true) (hroom : A.depth < recursionLimit)
    (hbind : BindsTo s (fnOf name qual params body scope dV kV doc pm an cdv ct) args binds) (hloc : ∀ y ∈ binds, scope.names.lookup y.1 = some .local)
    (h : ∀ g L' h₁, g = s.heap → Fr g L' h₁ (fun y => binds.reverse.lookup y) → News g L' h₁ [] → Below A base (env :: outer) g → K.In g → Top p loose mean mg mb g →
      wpAny (model prog w) (A.deeper (envOf qual scope L' f cdv)) (execs body (envOf qual scope L' f cdv))
        (fun fl s' => PureLeave g R (match fl with | .ret v => v | _ => .none) s')
        (fun e s' => wpAny (model prog w) (A.deeper (envOf qual scope L' f cdv)) (leaving (envOf qual scope L' f cdv) e) (fun _ s'' => R (.error e) s'') (fun e' s'' => R (.error e') s'') s')
        { s with heap := h₁, toks := s.toks + binds.length })
    (hco : scope.isCoroutine = false) (hgen : scope.isGenerator = false) (hk : scope.kind = .function)
    (hcell : ∀ x ∈ scope.names, x.2 ≠ .cell) : codeAny (model prog w) A (.call (.ref f) args) R s := by
  obtain ⟨FG, BG, st, lv⟩ := groundX (R := R) B F (News.nil (h₀ := h₀) (L := L) (h := s.heap)) hA hf hke
  have X := X₀.keeps F.keep
  refine codeAny_call_def (fd := fnOf name qual params body scope dV kV doc pm an cdv ct) (body := body) (binds := binds) hroom (X _ _ ho) rfl (T.nolimit.keeps F.keep) (codeRec_of X hcd) rfl hbind hcell hloc (fun h₁ hns hk₁ => ?_) hco hgen hk
  refine wpAny_mono (h s.heap s.heap.objs.size h₁ rfl ⟨hns, fun b o e => hk₁ b o e, Nat.le_refl _⟩ News.nil BG X (T.keeps st)) (fun fl s' hl => ?_) fun _ _ y => y
  obtain ⟨L', m', F', k⟩ := hl
  exact k F'.keep
end
end
end Mine
namespace Mine
section
/-- the number that octets tell, the least one first -/
def leI : List Int → Int
  | [] => 0
  | d :: r => d + 256 * leI r
theorem value_snoc (l : List Int) (d : Int) : KFB.value (l ++ [d]) = KFB.value l * 256 + d := by
  unfold KFB.value
  rw [List.foldl_append]; rfl
theorem value_rev : ∀ l : List Int, KFB.value l.reverse = leI l
  | [] => rfl
  | d :: r => by
    rw [List.reverse_cons, value_snoc, value_rev r]
    show leI r * 256 + d = d + 256 * leI r
    omega

section
open Builtin
variable {prog : Program} {w : World} {M : Model} {A : Around} {E : Value → Shared → Prop} {s : Shared} {h₀ : Heap} {L : Addr} {news : List (Addr × Obj)}
theorem grown_big {n : Nat} {Q : Value → Shared → Prop} (hn : n < 2 ^ 40000) (h : Q (.int (n : Int) s.toks) { s with toks := s.toks + 1 }) : wpAny M A (mkIntGrown (n : Int)) Q E s := by
  unfold mkIntGrown
  have hl : ¬ ((n : Int).natAbs.log2 ≥ bitsLine) := by
    rw [Int.natAbs_natCast]
    have hb : bitsLine = 134217728 := by decide
    by_cases hz : n = 0
    · subst hz
      rw [hb]
      decide
    · have h1 := (Nat.log2_lt hz).mpr hn
      omega
  rw [if_neg hl]
  exact wpAny_mkInt h
theorem fb_tree {b : Array UInt8} {t u : Tok} {P : Fin → Shared → Prop} (hl : b.size ≤ 4096) (h : P (.done (.ret (.int (leI (KBw.bInts b)) s.toks))) { s with toks := s.toks + 1 }) :
    wpAny M A (Builtin.«int.from_bytes» ⟨[.type "int", .bytes b t, .str (PySem.Str.ofString "little") u], []⟩) P E s := by
  have hv : ((b.toList.reverse.foldl (fun (acc : Nat) (b : UInt8) => acc * 256 + b.toNat) 0 : Nat) : Int) = leI (KBw.bInts b) := by
    rw [KFB.fold_cast, List.map_reverse, ← value_rev]
    rfl
  have hn : b.toList.reverse.foldl (fun (acc : Nat) (b : UInt8) => acc * 256 + b.toNat) 0 < 2 ^ 40000 := by
    have h1 := KFB.fold_lt b.toList.reverse 0
    rw [Nat.zero_add, Nat.one_mul, List.length_reverse, Array.length_toList] at h1
    have e : (256 : Nat) = 2 ^ 8 := by decide
    rw [e, ← Nat.pow_mul] at h1
    exact Nat.lt_of_lt_of_le h1 (Nat.pow_le_pow_right (by decide) (by omega))
  unfold Builtin.«int.from_bytes»
  refine wpAny_bind (wpAny_of_eq (a := true) KFB.type_int ?_)
  refine KFB.if_not rfl ?_
  refine wpAny_bind (wpAny_of_eq (a := true) PySem.F.conv_sub_int ?_)
  refine KFB.if_not rfl ?_
  refine wpAny_bind (wpAny_of_eq (a := [some (.bytes b t), some (.str (PySem.Str.ofString "little") u), none]) (by kernel_rfl) ?_)
  refine wpAny_bind (wpAny_of_eq (a := PySem.Str.ofString "little") (by kernel_rfl) ?_)
  refine wpAny_bind (wpAny_of_eq (a := false) rfl ?_)
  refine wpAny_bind (wpAny_of_eq (a := true) (by kernel_rfl) ?_)
  refine wpAny_bind (wpAny_of_eq (a := b) rfl ?_)
  show wpAny _ _ (mkIntGrown (b.toList.reverse.foldl (fun (acc : Int) (b : UInt8) => acc * 256 + (b.toNat : Int)) ((0 : Nat) : Int)) >>= fun v => _) _ _ _
  rw [KFB.foldI_eq]
  refine wpAny_bind (grown_big hn ?_)
  rw [hv]
  refine KFB.if_so (by decide +kernel) ?_
  exact wpAny_bind (wpAny_pure (wpAny_pure h))
theorem fb_call {x : Addr} {b : Array UInt8} {t u : Tok} {ks : List Int} {Q : Value → Shared → Prop} (N : News h₀ L s.heap news) (hm : (x, KFB.bound) ∈ news) (hb : KBw.bInts b = ks) (hl : ks.length ≤ 4096)
    (h : ∀ t' k, Q (.int (leI ks) t') { s with toks := k }) : wpAny (model prog w) A (call (.ref x) [.bytes b t, .str (PySem.Str.ofString "little") u]) Q E s := by
  subst hb
  exact KFB.call_of (KFB.at_of N hm) (fun z => fb_tree (by rw [← KBw.ints_length]; exact hl) z) (h _ _)

open PySem.Builtin.Int (intBits) in
theorem tb_little {x : Int} {k : Nat} {t u v : Tok} {Q : Value → Shared → Prop} (hk : k ≤ 4096) (h0 : 0 ≤ x) (h1 : x < 256 ^ k) (h : ∀ (b : Array UInt8) t' k', KBw.bInts b = KTBy.little k x → Q (.bytes b t') { s with toks := k' }) :
    wpAny (model prog w) A (call (.builtin "int.to_bytes") [.int x t, .int (k : Int) u, .str (PySem.Str.ofString "little") v]) Q E s := by
  refine wpAny_call_entry KTBy.slot (typeIs_int s x t) KTBy.entry ?_ (KTBy.args _ _ _)
  have hb := KTBy.bits_le rfl h0 h1
  show wpAny _ _ (Builtin.Int.intOfSelf (.int x t) >>= fun y => _) _ _ s
  refine wpAny_bind (wpAny_of_eq (a := x) rfl ?_)
  show wpAny _ _ (Builtin.Int.intBindNamed "to_bytes" ["length", "byteorder", "signed"] 0 2 [.int (k : Int) u, .str (PySem.Str.ofString "little") v] [] >>= fun l => _) _ _ s
  refine wpAny_bind (wpAny_of_eq (a := [some (.int (k : Int) u), some (.str (PySem.Str.ofString "little") v), none]) (by kernel_rfl) ?_)
  show wpAny _ _ (Builtin.Int.intIndex "int.to_bytes" (.int (k : Int) u) >>= fun n => _) _ _ s
  refine wpAny_bind (wpAny_of_eq (a := (k : Int)) rfl ?_)
  refine KTBy.if_not (by show (decide ((k : Int) < -(2 ^ 63 : Int)) || decide ((k : Int) ≥ 2 ^ 63)) = false; rw [decide_eq_false (show ¬ ((k : Int) < -(2 ^ 63 : Int)) by omega), decide_eq_false (show ¬ ((k : Int) ≥ 2 ^ 63) by omega)]; rfl) ?_
  refine wpAny_bind (wpAny_of_eq (a := PySem.Str.ofString "little") (by kernel_rfl) ?_)
  refine wpAny_bind (wpAny_of_eq (a := false) rfl ?_)
  refine wpAny_bind (wpAny_of_eq (a := true) (by kernel_rfl) ?_)
  refine wpAny_ite_false (decide_eq_false (show ¬ ((k : Int) < 0) by omega)) ?_
  refine wpAny_ite_false (decide_eq_false (show ¬ ((k : Int) > 2 ^ 63 - 1 - 33) by omega)) ?_
  refine wpAny_ite_false (decide_eq_false (show ¬ ((k : Int) > (sizeLine : Int)) by rw [sizeLine_eq]; omega)) ?_
  refine KTBy.if_not (by show (decide (x < 0) && !false) = false; rw [decide_eq_false (show ¬ x < 0 by omega)]; rfl) ?_
  refine KTBy.if_not (by show (_ && decide ((intBits x : Int) > 8 * (k : Int))) = false; rw [decide_eq_false (show ¬ ((intBits x : Int) > 8 * (k : Int)) by omega), Bool.and_false]) ?_
  refine wpAny_bind (wpAny_mkBytes (wpAny_pure ⟨_, rfl, h _ _ _ ?_⟩) (by show (KTBy.low x (Int.toNat (k : Int))).length ≤ sizeLine; rw [KTBy.low_length, Int.toNat_natCast, sizeLine_eq]; omega))
  show (List.map (fun c : UInt8 => ((c.toNat : Nat) : Int)) (KTBy.low x (Int.toNat (k : Int)))) = KTBy.little k x
  rw [Int.toNat_natCast, KTBy.low_ints h0 h1, ← KTBy.little_eq]
end
end
end Mine
namespace Mine
section
/-! the numbers that the stream's maker writes, as closed names -/
@[irreducible] def ris : Int := leI (List.map (fun k' => (37 * k' + 11).fmod 256) (rangeKs 0 ((32 : Int) - 0).toNat))
@[irreducible] def rep02 : Int := ((256 : Int) ^ Int.toNat 696 - 1).fdiv ((256 : Int) ^ Int.toNat 29 - 1)
@[irreducible] def hb02 : Int := ((256 : Int) ^ Int.toNat 696 - 1).fdiv 16777215
theorem ris_bits : Builtin.Int.intBits ris ≤ 64 * 5 := by decide +kernel
theorem rep02_bits : Builtin.Int.intBits rep02 ≤ 64 * 100 := by decide +kernel
theorem hb02_bits : Builtin.Int.intBits hb02 ≤ 64 * 100 := by decide +kernel
theorem held02_pos : (0 : Int) ≤ 7864319 * hb02 := by decide +kernel
theorem held02_lt : (7864319 : Int) * hb02 < 256 ^ 696 := by decide +kernel

section
variable {prog : Program} {w : World} {A : Around} {E : Value → Shared → Prop} {s : Shared} {env : Env} {Q : Value → Shared → Prop}
theorem const_int {i : Int} {k : Nat} {pos : Pos} (h : ∀ t k, Q (.int i t) { s with toks := k }) : wpAny (model prog w) A (eval (.Constant (.int i) k pos) env) Q E s := wpAny_Constant_int (h _ _)
theorem pow_lit {a n : Int} {k1 k2 : Nat} {p1 p2 p3 : Pos} (hn : 0 ≤ n) (hn2 : n ≤ 1000000) (ha : a.natAbs < 2 ^ 64) (h : ∀ t k, Q (.int (a ^ n.toNat) t) { s with toks := k }) :
    wpAny (model prog w) A (eval (.BinOp (.Constant (.int a) k1 p1) .Pow (.Constant (.int n) k2 p2) p3) env) Q E s :=
  wpAny_BinOp (const_int fun _ _ => const_int fun _ _ => pow_int_small hn hn2 ha (h _ _))
theorem pow1_lit {a n : Int} {k1 k2 k3 : Nat} {p1 p2 p3 p4 p5 : Pos} (hn : 0 ≤ n) (hn2 : n ≤ 1000000) (ha : a.natAbs < 2 ^ 64) (h : ∀ t k, Q (.int (a ^ n.toNat - 1) t) { s with toks := k }) :
    wpAny (model prog w) A (eval (.BinOp (.BinOp (.Constant (.int a) k1 p1) .Pow (.Constant (.int n) k2 p2) p3) .Sub (.Constant (.int 1) k3 p4) p5) env) Q E s :=
  wpAny_BinOp (pow_lit hn hn2 ha fun _ _ => const_int fun _ _ => sub_int (h _ _))
theorem rep_lit {a n b c z : Int} {k1 k2 k3 k4 k5 k6 : Nat} {p1 p2 p3 p4 p5 p6 p7 p8 p9 p10 p11 : Pos} (hn : 0 ≤ n) (hn2 : n ≤ 1000000) (ha : a.natAbs < 2 ^ 64) (hc : 0 ≤ c) (hc2 : c ≤ 1000000) (hb : b.natAbs < 2 ^ 64)
    (h0 : b ^ c.toNat - 1 ≠ 0) (hp : Builtin.divisionGoesByPylong (a ^ n.toNat - 1) (b ^ c.toNat - 1) = false) (hz : (a ^ n.toNat - 1).fdiv (b ^ c.toNat - 1) = z) (h : ∀ t k, Q (.int z t) { s with toks := k }) :
    wpAny (model prog w) A (eval (.BinOp (.BinOp (.BinOp (.Constant (.int a) k1 p1) .Pow (.Constant (.int n) k2 p2) p3) .Sub (.Constant (.int 1) k3 p4) p5) .FloorDiv (.BinOp (.BinOp (.Constant (.int b) k4 p6) .Pow (.Constant (.int c) k5 p7) p8) .Sub (.Constant (.int 1) k6 p9) p10) p11) env) Q E s := by
  subst hz
  exact wpAny_BinOp (pow1_lit hn hn2 ha fun _ _ => pow1_lit hc hc2 hb fun _ _ => floordiv_int h0 (h _ _) (.inl hp))
theorem held_lit {a n c z : Int} {k1 k2 k3 k4 : Nat} {p1 p2 p3 p4 p5 p6 p7 : Pos} (hn : 0 ≤ n) (hn2 : n ≤ 1000000) (ha : a.natAbs < 2 ^ 64)
    (h0 : c ≠ 0) (hp : Builtin.divisionGoesByPylong (a ^ n.toNat - 1) c = false) (hz : (a ^ n.toNat - 1).fdiv c = z) (h : ∀ t k, Q (.int z t) { s with toks := k }) :
    wpAny (model prog w) A (eval (.BinOp (.BinOp (.BinOp (.Constant (.int a) k1 p1) .Pow (.Constant (.int n) k2 p2) p3) .Sub (.Constant (.int 1) k3 p4) p5) .FloorDiv (.Constant (.int c) k4 p6) p7) env) Q E s := by
  subst hz
  exact wpAny_BinOp (pow1_lit hn hn2 ha fun _ _ => const_int fun _ _ => floordiv_int h0 (h _ _) (.inl hp))
theorem rep02_lit {k1 k2 k3 k4 k5 k6 : Nat} {p1 p2 p3 p4 p5 p6 p7 p8 p9 p10 p11 : Pos} (h : ∀ t k, Q (.int rep02 t) { s with toks := k }) :
    wpAny (model prog w) A (eval (.BinOp (.BinOp (.BinOp (.Constant (.int 256) k1 p1) .Pow (.Constant (.int 696) k2 p2) p3) .Sub (.Constant (.int 1) k3 p4) p5) .FloorDiv (.BinOp (.BinOp (.Constant (.int 256) k4 p6) .Pow (.Constant (.int 29) k5 p7) p8) .Sub (.Constant (.int 1) k6 p9) p10) p11) env) Q E s :=
  rep_lit (by decide) (by decide) (by decide) (by decide) (by decide) (by decide) (by decide +kernel) (by first | decide +kernel | exact PyProof.noPylong_of_log2 (by decide +kernel)) (by unfold rep02; rfl) h
theorem hb02_lit {k1 k2 k3 k4 : Nat} {p1 p2 p3 p4 p5 p6 p7 : Pos} (h : ∀ t k, Q (.int hb02 t) { s with toks := k }) :
    wpAny (model prog w) A (eval (.BinOp (.BinOp (.BinOp (.Constant (.int 256) k1 p1) .Pow (.Constant (.int 696) k2 p2) p3) .Sub (.Constant (.int 1) k3 p4) p5) .FloorDiv (.Constant (.int 16777215) k4 p6) p7) env) Q E s :=
  held_lit (by decide) (by decide) (by decide) (by decide) (by first | decide +kernel | exact PyProof.noPylong_of_log2 (by decide +kernel)) (by unfold hb02; rfl) h
theorem mul_ok {a b : Int} {t u : Tok} (ha : Builtin.Int.intBits a ≤ 20000) (hb : Builtin.Int.intBits b ≤ 20000) (h : ∀ t k, Q (.int (a * b) t) { s with toks := k }) : wpAny (model prog w) A (binaryOp .Mult (.int a t) (.int b u)) Q E s :=
  mul_int (h _ _) (IntMulOk.of_le ha hb (by decide))
end
/-! the stream -/
def mixOf (sd : List Int) : Int := sd.foldl (fun m o => m * 257 + o) 1
def firstOf (ns : List Int) : Int := ns.getD 1 5
def row02 (ns sd : List Int) : Int := firstOf ns + ris * (2 * (mixOf sd).fmod 65521 + 1) * rep02
def x02 (ns sd : List Int) : Int := Builtin.bitAnd (row02 ns sd) (7864319 * hb02)
def str02 (ns sd : List Int) : List Int := KTBy.little 696 (x02 ns sd)
theorem x02_pos (ns sd : List Int) : 0 ≤ x02 ns sd := (bitAnd_range _ held02_pos).1
theorem x02_lt (ns sd : List Int) : x02 ns sd < 256 ^ 696 := Int.lt_of_le_of_lt (bitAnd_range _ held02_pos).2 held02_lt
theorem str02_len (ns sd : List Int) : (str02 ns sd).length = 696 := KTBy.little_length _ _
theorem small_bits {x : Int} (h1 : -100000000 < x) (h2 : x < 100000000) : Builtin.Int.intBits x ≤ 64 := intBits_le_64 (by omega) (by omega)
theorem pre_bits (x : Int) : Builtin.Int.intBits (ris * (2 * x.fmod 65521 + 1)) ≤ 20000 := by
  have h1 := Int.fmod_nonneg_of_pos x (by decide : (0 : Int) < 65521)
  have h2 := Int.fmod_lt_of_pos x (by decide : (0 : Int) < 65521)
  exact Nat.le_trans (intBits_mul_le ris_bits (small_bits (x := 2 * x.fmod 65521 + 1) (by omega) (by omega))) (by decide)
end
end Mine
namespace Mine
section
/-! digits of a masked number -/
theorem and_digit_le (h z k : Nat) : (h &&& z) / 2 ^ k % 256 ≤ h / 2 ^ k % 256 := by
  rw [Nat.and_div_two_pow, show (256 : Nat) = 2 ^ 8 from rfl, Nat.and_mod_two_pow]
  exact Nat.and_le_left
theorem sub_and_digit_le (h z k : Nat) : (h - (h &&& z)) / 2 ^ k % 256 ≤ h / 2 ^ k % 256 := by
  have hc : (h &&& z) ≤ h := Nat.and_le_left
  have hm : (h &&& z) % 2 ^ k ≤ h % 2 ^ k := by rw [Nat.and_mod_two_pow]; exact Nat.and_le_left
  have hd : (h &&& z) / 2 ^ k = (h / 2 ^ k) &&& (z / 2 ^ k) := Nat.and_div_two_pow
  have e : (h - (h &&& z)) / 2 ^ k = h / 2 ^ k - (h &&& z) / 2 ^ k := by
    have hp : 0 < 2 ^ k := Nat.two_pow_pos k
    have h1 := Nat.div_add_mod h (2 ^ k)
    have h2 := Nat.div_add_mod (h &&& z) (2 ^ k)
    have hle : (h &&& z) / 2 ^ k ≤ h / 2 ^ k := Nat.div_le_div_right hc
    have h3 : h - (h &&& z) = 2 ^ k * (h / 2 ^ k - (h &&& z) / 2 ^ k) + (h % 2 ^ k - (h &&& z) % 2 ^ k) := by
      rw [Nat.mul_sub]
      have := Nat.mul_le_mul_left (2 ^ k) hle
      omega
    have h4 : h % 2 ^ k - (h &&& z) % 2 ^ k < 2 ^ k := Nat.lt_of_le_of_lt (Nat.sub_le _ _) (Nat.mod_lt h hp)
    rw [h3, Nat.mul_add_div hp, Nat.div_eq_of_lt h4, Nat.add_zero]
  rw [e, hd]
  generalize h / 2 ^ k = a
  generalize z / 2 ^ k = b
  have c1 : (a &&& b) ≤ a := Nat.and_le_left
  have c2 : (a &&& b) % 256 ≤ a % 256 := by
    rw [show (256 : Nat) = 2 ^ 8 from rfl, Nat.and_mod_two_pow]; exact Nat.and_le_left
  omega
theorem bitAnd_digit (r : Int) (h k : Nat) : Builtin.bitAnd r (h : Int) / 2 ^ k % 256 ≤ (h : Int) / 2 ^ k % 256 := by
  have p2 : ((2 : Int) ^ k) = ((2 ^ k : Nat) : Int) := by rw [Int.natCast_pow]; rfl
  rw [p2]
  unfold Builtin.bitAnd
  have hh : decide ((0 : Int) ≤ (h : Int)) = true := by simp
  rw [hh]
  by_cases hr : 0 ≤ r
  · rw [decide_eq_true hr]
    show ((r.toNat &&& (h : Int).toNat : Nat) : Int) / _ % 256 ≤ _
    rw [Int.toNat_natCast, Nat.and_comm]
    have := and_digit_le h r.toNat k
    exact_mod_cast this
  · rw [decide_eq_false hr]
    show ((h : Int) - (((h : Int).toNat &&& (Builtin.bitNot r).toNat : Nat) : Int)) / _ % 256 ≤ _
    rw [Int.toNat_natCast]
    generalize (Builtin.bitNot r).toNat = z
    have hc : (h &&& z) ≤ h := Nat.and_le_left
    have := sub_and_digit_le h z k
    rw [← Int.natCast_sub hc]
    exact_mod_cast this
def heldN : Nat := (7864319 * hb02).toNat
theorem heldN_eq : (7864319 * hb02 : Int) = (heldN : Int) := (Int.toNat_of_nonneg held02_pos).symm
theorem heldN_dig : ∀ j : Nat, j < 232 → heldN / 2 ^ (8 * (3 * j + 2)) % 256 = 119 := by decide +kernel
theorem p256 (i : Nat) : (256 : Int) ^ i = 2 ^ (8 * i) := by
  rw [Int.pow_mul]; rfl
theorem str02_get (ns sd : List Int) (i : Nat) (hi : i < 696) : (str02 ns sd).getD i 0 = x02 ns sd / 2 ^ (8 * i) % 256 := by
  unfold str02
  rw [KTBy.little_eq, ← p256]
  simp [List.getD, hi]
theorem str02_in (ns sd : List Int) (i : Nat) : 0 ≤ (str02 ns sd).getD i 0 ∧ (str02 ns sd).getD i 0 < 256 := by
  by_cases hi : i < 696
  · rw [str02_get _ _ i hi]
    omega
  · rw [List.getD_eq_getElem?_getD, List.getElem?_eq_none (by rw [str02_len]; omega)]
    decide
theorem str02_mask (ns sd : List Int) (j : Nat) (hj : j < 232) : (str02 ns sd).getD (3 * j + 2) 0 ≤ 119 := by
  rw [str02_get _ _ _ (by omega)]
  unfold x02
  rw [heldN_eq]
  refine Int.le_trans (bitAnd_digit _ _ _) ?_
  have h := heldN_dig j hj
  have p2 : ((2 : Int) ^ (8 * (3 * j + 2))) = ((2 ^ (8 * (3 * j + 2)) : Nat) : Int) := by rw [Int.natCast_pow]; rfl
  rw [p2]
  have h2 : ((heldN / 2 ^ (8 * (3 * j + 2)) % 256 : Nat) : Int) = ((119 : Nat) : Int) := congrArg _ h
  rw [Int.natCast_emod, Int.natCast_ediv] at h2
  exact Int.le_of_eq h2

/-! what sampling in the ball comes to -/
def seedOf (ns : List Int) : List Int := List.map (fun k' => k'.fmod 256) (List.take (min 14 ns.length - 2) (List.drop 2 ns))
def octs (ns : List Int) : List Int := str02 ns (seedOf ns)
def nextAt (os : List Int) (i : Int) (a : Nat) : Nat := if os.getD a 0 ≤ i then a else if os.getD (a + 1) 0 ≤ i then a + 1 else a + 2
theorem nextAt_ge (os : List Int) (i : Int) (a : Nat) : a ≤ nextAt os i a ∧ nextAt os i a ≤ a + 2 := by
  unfold nextAt; (repeat' split) <;> omega
theorem nextAt_low (os : List Int) (i : Int) (a p : Nat) (h1 : a ≤ p) (h2 : p < nextAt os i a) : i < os.getD p 0 := by
  unfold nextAt at h2
  split at h2
  · omega
  · split at h2
    · have : p = a := by omega
      subst this; omega
    · have : p = a ∨ p = a + 1 := by omega
      rcases this with rfl | rfl <;> omega
theorem nextAt_hit (ns : List Int) (i : Int) (a : Nat) (hi : 119 ≤ i) (ha : a ≤ 690) : (octs ns).getD (nextAt (octs ns) i a) 0 ≤ i := by
  unfold nextAt
  split
  · assumption
  · split
    · assumption
    · rename_i h1 h2
      have m : a % 3 = 0 ∨ a % 3 = 1 ∨ a % 3 = 2 := by omega
      rcases m with m | m | m
      · have := str02_mask ns (seedOf ns) (a / 3) (by omega)
        rw [show 3 * (a / 3) + 2 = a + 2 by omega] at this
        exact Int.le_trans this hi
      · have := str02_mask ns (seedOf ns) (a / 3) (by omega)
        rw [show 3 * (a / 3) + 2 = a + 1 by omega] at this
        exact absurd (Int.le_trans this hi) h2
      · have := str02_mask ns (seedOf ns) (a / 3) (by omega)
        rw [show 3 * (a / 3) + 2 = a by omega] at this
        exact absurd (Int.le_trans this hi) h1
/-- one turn: where the stream stands, the signs left, the numbers -/
def ballStep (os : List Int) (st : Nat × Int × List Int) (i : Int) : Nat × Int × List Int :=
  (nextAt os i st.1 + 1, st.2.1 / 2, (st.2.2.set i.toNat (st.2.2.getD (os.getD (nextAt os i st.1) 0).toNat 0)).set (os.getD (nextAt os i st.1) 0).toNat (1 - 2 * (st.2.1 % 2)))
def ballAt (ns : List Int) (is : List Int) : Nat × Int × List Int := is.foldl (ballStep (octs ns)) (8, leI ((octs ns).take 8), List.replicate 256 0)
theorem ballAt_snoc (ns is : List Int) (i : Int) : ballAt ns (is ++ [i]) = ballStep (octs ns) (ballAt ns is) i := by
  unfold ballAt; rw [List.foldl_append]; rfl
theorem ball_len (os : List Int) : ∀ (is : List Int) (st : Nat × Int × List Int), st.2.2.length = 256 → (is.foldl (ballStep os) st).2.2.length = 256
  | [], _, h => h
  | i :: r, st, h => by
    rw [List.foldl_cons]
    exact ball_len os r _ (by simp only [ballStep, List.length_set, h])
theorem ballAt_len (ns is : List Int) : (ballAt ns is).2.2.length = 256 := ball_len _ _ _ (by simp)
theorem ball_at (os : List Int) : ∀ (is : List Int) (st : Nat × Int × List Int), st.1 ≤ (is.foldl (ballStep os) st).1 ∧ (is.foldl (ballStep os) st).1 ≤ st.1 + 3 * is.length
  | [], st => by simp
  | i :: r, st => by
    rw [List.foldl_cons, List.length_cons]
    have h1 := ball_at os r (ballStep os st i)
    have h2 := nextAt_ge os i st.1
    have h3 : (ballStep os st i).1 = nextAt os i st.1 + 1 := rfl
    omega
theorem ballAt_at (ns is : List Int) : 8 ≤ (ballAt ns is).1 ∧ (ballAt ns is).1 ≤ 8 + 3 * is.length := ball_at (octs ns) is (8, leI ((octs ns).take 8), List.replicate 256 0)
/-! one octet read out of the buffer -/
theorem picked_one {b : Array UInt8} {os : List Int} {n : Nat} {a : Int} (hb : KBw.bInts b = os.take n) (h0 : 0 ≤ a) (h1 : a < (n : Int)) (hn : n ≤ os.length) :
    KBw.bInts (KBy.picked b (some a) (some (a + 1))) = [os.getD a.toNat 0] := by
  rw [KBc.ints_picked hb (some a) (some (a + 1))]
  obtain ⟨k, rfl⟩ := Int.eq_ofNat_of_zero_le h0
  have hk : k < n := by omega
  have hl : (os.take n).length = n := by rw [List.length_take]; omega
  rw [hl]
  show ((os.take n).drop (clipAt n (k : Int))).take (clipAt n ((k : Int) + 1) - clipAt n (k : Int)) = _
  have e1 : clipAt n (k : Int) = k := by rw [clipAt_nat]; omega
  have e2 : clipAt n ((k : Int) + 1) = k + 1 := by
    have := clipAt_nat n (k + 1)
    rw [show ((k + 1 : Nat) : Int) = (k : Int) + 1 from rfl] at this
    rw [this]; omega
  rw [e1, e2, Nat.add_sub_cancel_left, Int.toNat_natCast, List.drop_take, List.take_take]
  have hko : k < os.length := by omega
  rw [List.drop_eq_getElem_cons hko]
  have hm : min 1 (n - k) = 1 := by omega
  rw [hm, List.take_succ_cons, List.take_zero]
  simp [List.getD, hko]
section
variable {prog : Program} {w : World} {A : Around} {E : Value → Shared → Prop} {s : Shared} {value slice : PySem.Expr} {Q : Value → Shared → Prop}
theorem item_read {b : Array UInt8} {os : List Int} {n : Nat} {a : Int} {t ui : Tok} (hb : KBw.bInts b = os.take n) (h0 : 0 ≤ a) (h1 : a < (n : Int)) (hn : n ≤ os.length)
    (h : ∀ t' k, 0 ≤ os.getD a.toNat 0 → os.getD a.toNat 0 < 256 → Q (.int (os.getD a.toNat 0) t') { s with toks := k })
    (hs : subscripted slice false (.bytes (KBy.picked b (some a) (some (a + 1))) t) (.int 0 ui) = operate [.bytes (KBy.picked b (some a) (some (a + 1))) t, .int 0 ui] (getItem (.bytes (KBy.picked b (some a) (some (a + 1))) t) (.int 0 ui)) := by with_unfolding_all rfl)
    (ht : ∀ r, letTemporaryGo value (.bytes (KBy.picked b (some a) (some (a + 1))) t) r = pure () := by intro _; with_unfolding_all rfl) :
    wpAny (model prog w) A (subscriptTail value slice (.bytes (KBy.picked b (some a) (some (a + 1))) t) (.int 0 ui)) Q E s :=
  KBw.item_K (picked_one hb h0 h1 hn) (by show 1 ≤ _; decide) (by decide) (by show (0 : Int) < ((1 : Nat) : Int); decide) (fun t' k a b => h t' k a b) hs ht
end
theorem oct_of {b : Array UInt8} {ns : List Int} (h : KBw.bInts b = List.take (5 * 136 : Int).toNat (str02 ns (List.map (fun k' => k'.fmod 256) (List.take (min 14 ns.length - 2) (List.drop 2 ns))))) : KBw.bInts b = (octs ns).take 680 := h
theorem octs_len (ns : List Int) : (octs ns).length = 696 := str02_len _ _
/-! the word of the main loop -/
structure BallEq (ns pre cs : List Int) (sg at_ : Int) : Prop where
  e1 : at_ = ((ballAt ns pre).1 : Int)
  e2 : sg = (ballAt ns pre).2.1
  e3 : cs = (ballAt ns pre).2.2
theorem leI_nonneg : ∀ l : List Int, (∀ x ∈ l, 0 ≤ x) → 0 ≤ leI l
  | [], _ => by decide
  | d :: r, h => by
    have h1 := h d (.head _)
    have h2 := leI_nonneg r fun x hx => h x (.tail _ hx)
    show 0 ≤ d + 256 * leI r
    omega
theorem octs_nonneg (ns : List Int) : ∀ x ∈ octs ns, 0 ≤ x := by
  intro x hx
  obtain ⟨i, hi, rfl⟩ := List.getElem_of_mem hx
  have := (str02_in ns (seedOf ns) i).1
  rw [List.getD_eq_getElem?_getD, List.getElem?_eq_getElem (show i < (str02 ns (seedOf ns)).length from hi)] at this
  exact this
theorem sign_form (os : List Int) (h : os.length = 696) :
    List.take (clipAt (List.take (5 * 136 : Int).toNat os).length (0 + 8) - clipAt (List.take (5 * 136 : Int).toNat os).length 0) (List.drop (clipAt (List.take (5 * 136 : Int).toNat os).length 0) (List.take (5 * 136 : Int).toNat os)) = os.take 8 := by
  have e : (5 * 136 : Int).toNat = 680 := by decide
  have hl : (List.take 680 os).length = 680 := by rw [List.length_take]; omega
  rw [e, hl]
  have e1 : clipAt 680 ((0 : Int) + 8) = 8 := by decide
  have e2 : clipAt 680 0 = 0 := by decide
  rw [e1, e2, List.drop_zero, Nat.sub_zero, List.take_take]
  rfl
theorem ball_start (ns : List Int) : (List.map (fun _ : Int => (0 : Int)) (rangeKs 0 ((256 : Int) - 0).toNat)).length = 256 ∧
    0 ≤ leI (List.take (clipAt (List.take (5 * 136 : Int).toNat (octs ns)).length (0 + 8) - clipAt (List.take (5 * 136 : Int).toNat (octs ns)).length 0) (List.drop (clipAt (List.take (5 * 136 : Int).toNat (octs ns)).length 0) (List.take (5 * 136 : Int).toNat (octs ns)))) ∧
    (8 : Int) ≤ 0 + 8 ∧ (0 : Int) + 8 ≤ 8 + 3 * (([] : List Int).length : Int) ∧
    BallEq ns [] (List.map (fun _ : Int => (0 : Int)) (rangeKs 0 ((256 : Int) - 0).toNat)) (leI (List.take (clipAt (List.take (5 * 136 : Int).toNat (octs ns)).length (0 + 8) - clipAt (List.take (5 * 136 : Int).toNat (octs ns)).length 0) (List.drop (clipAt (List.take (5 * 136 : Int).toNat (octs ns)).length 0) (List.take (5 * 136 : Int).toNat (octs ns))))) (0 + 8) := by
  rw [sign_form _ (octs_len ns)]
  refine ⟨by rw [List.length_map, rangeKs_length]; decide, leI_nonneg _ fun x hx => octs_nonneg ns x (List.mem_of_mem_take hx), by decide, by decide, ⟨rfl, rfl, ?_⟩⟩
  show _ = List.replicate 256 0
  rw [List.map_const', rangeKs_length]
  rfl
theorem at_next {ns : List Int} {i a0 a : Int} (h0 : 0 ≤ a0) (g1 : a0 ≤ a) (g2 : a ≤ a0 + 2) (g3 : ∀ p : Nat, a0.toNat ≤ p → p < a.toNat → i < (octs ns).getD p 0) (hj : (octs ns).getD a.toNat 0 ≤ i) : a.toNat = nextAt (octs ns) i a0.toNat := by
  have b1 := nextAt_ge (octs ns) i a0.toNat
  by_cases c1 : a.toNat < nextAt (octs ns) i a0.toNat
  · have := nextAt_low (octs ns) i a0.toNat a.toNat (by omega) c1
    omega
  · by_cases c2 : nextAt (octs ns) i a0.toNat < a.toNat
    · have h1 := g3 _ b1.1 c2
      unfold nextAt at h1 c2
      split at h1
      · omega
      · split at h1
        · omega
        · rename_i u v
          simp only [u, v, if_false] at c2
          omega
    · omega
theorem ball_turn {ns pre cs : List Int} {sg a0 a i : Int} (he : BallEq ns pre cs sg a0) (hl : cs.length = 256) (h0 : 0 ≤ sg) (ha : 8 ≤ a0) (hb : a0 ≤ 8 + 3 * (pre.length : Int))
    (g1 : a0 ≤ a) (g2 : a ≤ a0 + 2) (g3 : ∀ p : Nat, a0.toNat ≤ p → p < a.toNat → i < (octs ns).getD p 0) (hj : (octs ns).getD a.toNat 0 ≤ i) :
    ((cs.set i.toNat (cs.getD ((octs ns).getD a.toNat 0).toNat 0)).set ((octs ns).getD a.toNat 0).toNat (1 - 2 * Builtin.bitAnd sg 1)).length = 256 ∧ 0 ≤ sg.fdiv (2 ^ Int.toNat 1) ∧ 8 ≤ a + 1 ∧ a + 1 ≤ 8 + 3 * ((pre ++ [i]).length : Int) ∧
    BallEq ns (pre ++ [i]) ((cs.set i.toNat (cs.getD ((octs ns).getD a.toNat 0).toNat 0)).set ((octs ns).getD a.toNat 0).toNat (1 - 2 * Builtin.bitAnd sg 1)) (sg.fdiv (2 ^ Int.toNat 1)) (a + 1) := by
  have en := at_next (by omega) g1 g2 g3 hj
  obtain ⟨e1, e2, e3⟩ := he
  have ea : a0.toNat = (ballAt ns pre).1 := by omega
  have ed : sg.fdiv (2 ^ Int.toNat 1) = sg / 2 := by
    show sg.fdiv 2 = _
    exact Int.fdiv_eq_ediv_of_nonneg _ (by decide)
  refine ⟨by rw [List.length_set, List.length_set, hl], by rw [ed]; omega, by omega, by rw [List.length_append, List.length_singleton]; omega, ⟨?_, ?_, ?_⟩⟩
  · rw [ballAt_snoc]
    show _ = ((nextAt (octs ns) i (ballAt ns pre).1 + 1 : Nat) : Int)
    rw [← ea, ← en]; omega
  · rw [ballAt_snoc, ed, e2]; rfl
  · rw [ballAt_snoc, en, ea, bitAnd_m1, e2, e3]; rfl
theorem scan_turn {ns : List Int} {i a0 a : Int} (h0 : 0 ≤ a0) (h1 : a0 ≤ 680) (hi : 119 ≤ i) (g1 : a0 ≤ a) (g2 : a ≤ a0 + 2) (g3 : ∀ p : Nat, a0.toNat ≤ p → p < a.toNat → i < (octs ns).getD p 0) (hn : ¬ (octs ns).getD a.toNat 0 ≤ i) :
    a0 ≤ a + 1 ∧ a + 1 ≤ a0 + 2 ∧ ∀ p : Nat, a0.toNat ≤ p → p < (a + 1).toNat → i < (octs ns).getD p 0 := by
  have low : ∀ p : Nat, a0.toNat ≤ p → p < (a + 1).toNat → i < (octs ns).getD p 0 := by
    intro p hp1 hp2
    by_cases c : p < a.toNat
    · exact g3 p hp1 c
    · have : p = a.toNat := by omega
      subst this; omega
  refine ⟨by omega, ?_, low⟩
  have hh := nextAt_hit ns i a0.toNat hi (by omega)
  have b1 := nextAt_ge (octs ns) i a0.toNat
  by_cases c : (a + 1) ≤ a0 + 2
  · exact c
  · have := low (nextAt (octs ns) i a0.toNat) b1.1 (by omega)
    omega
theorem scan_start {ns : List Int} {i a0 : Int} : a0 ≤ a0 ∧ a0 ≤ a0 + 2 ∧ ∀ p : Nat, a0.toNat ≤ p → p < a0.toNat → i < (octs ns).getD p 0 :=
  ⟨Int.le_refl _, by omega, fun _ h1 h2 => absurd h2 (Nat.not_lt.mpr h1)⟩
end
end Mine
namespace Mine
section
theorem look_put (c : List (Int × Int)) (k v x d : Int) : kdfLook (kdfPut c k v) x d = if x = k then v else kdfLook c x d := kpr_look_put c k v x d
theorem has_put_or {c : List (Int × Int)} {k v x : Int} (h : kdfHas (kdfPut c k v) x = true) : x = k ∨ kdfHas c x = true := by
  unfold kdfPut at h
  split at h
  · right
    unfold kdfHas at h ⊢
    rw [List.any_eq_true] at h ⊢
    obtain ⟨q, hq, e⟩ := h
    obtain ⟨p, hp, rfl⟩ := List.mem_map.mp hq
    refine ⟨p, hp, ?_⟩
    split at e <;> exact e
  · unfold kdfHas at h ⊢
    rw [List.any_append, Bool.or_eq_true] at h
    rcases h with h | h
    · exact .inr h
    · left
      simp only [List.any_cons, List.any_nil, Bool.or_false, decide_eq_true_eq] at h
      exact h.symm
theorem look_none {c : List (Int × Int)} {k : Int} (h : kdfHas c k = false) (d : Int) : kdfLook c k d = d := kpr_look_none h d

/-- the dict of the signs that are laid, against the numbers -/
structure DictOk (tau : Int) (ns pre : List Int) (c : List (Int × Int)) : Prop where
  look : ∀ k : Nat, k < 256 → kdfLook c (k : Int) 0 = (ballAt ns pre).2.2.getD k 0
  has : ∀ k : Int, kdfHas c k = true → k < 256 - tau + (pre.length : Int)
theorem getD_set (l : List Int) (i : Nat) (v : Int) (k : Nat) (hi : i < l.length) : (l.set i v).getD k 0 = if k = i then v else l.getD k 0 := by
  rw [List.getD_eq_getElem?_getD, List.getElem?_set]
  by_cases h : i = k
  · subst h; simp [hi]
  · simp only [h, if_false]
    rw [if_neg (fun e => h e.symm), List.getD_eq_getElem?_getD]
theorem ball_dict {tau : Int} {ns pre : List Int} {c : List (Int × Int)} {i q sg : Int} (D : DictOk tau ns pre c) (hi : i = 256 - tau + (pre.length : Int)) (hi2 : i < 256) (ht : tau ≤ 60) (h0 : 0 ≤ q) (hq : q ≤ i)
    (hqe : (octs ns).getD (nextAt (octs ns) i (ballAt ns pre).1) 0 = q) (hs : sg = (ballAt ns pre).2.1) :
    DictOk tau ns (pre ++ [i]) (kdfPut (if kdfHas c q = true then kdfPut c i (kdfLook c q 0) else c) q (1 - 2 * (sg % 2))) := by
  obtain ⟨qn, rfl⟩ := Int.eq_ofNat_of_zero_le h0
  have hin : i = ((i.toNat : Nat) : Int) := by omega
  have hl := ballAt_len ns pre
  refine ⟨fun k hk => ?_, fun k hk => ?_⟩
  · rw [ballAt_snoc]
    show _ = (((ballAt ns pre).2.2.set i.toNat ((ballAt ns pre).2.2.getD ((octs ns).getD (nextAt (octs ns) i (ballAt ns pre).1) 0).toNat 0)).set ((octs ns).getD (nextAt (octs ns) i (ballAt ns pre).1) 0).toNat (1 - 2 * ((ballAt ns pre).2.1 % 2))).getD k 0
    rw [hqe, Int.toNat_natCast, getD_set _ _ _ _ (by rw [List.length_set, hl]; omega), look_put, ← hs]
    by_cases e : k = qn
    · subst e; simp
    · rw [if_neg (by omega), if_neg e, getD_set _ _ _ _ (by rw [hl]; omega)]
      cases hc : kdfHas c (qn : Int) with
      | true =>
        rw [if_pos rfl, look_put]
        by_cases e2 : k = i.toNat
        · rw [if_pos (by omega), if_pos e2]
          exact D.look qn (by omega)
        · rw [if_neg (by omega), if_neg e2]
          exact D.look k hk
      | false =>
        rw [if_neg (by simp)]
        by_cases e2 : k = i.toNat
        · rw [if_pos e2, ← D.look qn (by omega), look_none hc]
          refine look_none ?_ 0
          cases h : kdfHas c (k : Int) with
          | false => rfl
          | true => have := D.has _ h; omega
        · rw [if_neg e2]
          exact D.look k hk
  · rw [List.length_append, List.length_singleton]
    rcases has_put_or hk with rfl | hk
    · omega
    · split at hk
      · rcases has_put_or hk with rfl | hk
        · omega
        · have := D.has k hk; omega
      · have := D.has k hk; omega
theorem dict_start (tau : Int) (ns : List Int) : DictOk tau ns [] [] := by
  refine ⟨fun k hk => ?_, fun k h => ?_⟩
  · show (0 : Int) = (List.replicate 256 (0 : Int)).getD k 0
    rw [List.getD_eq_getElem?_getD, List.getElem?_replicate, if_pos hk]; rfl
  · cases h
/-- the last row -/
theorem ball_last {tau : Int} {ns pre : List Int} {c : List (Int × Int)} {cs : List Int} (D : DictOk tau ns pre c) (e : cs = (ballAt ns pre).2.2) :
    cs = List.map (fun k => if kdfHas c k = true then kdfLook c k 0 else 0) (rangeKs 0 256) := by
  subst e
  refine List.ext_getElem (by rw [ballAt_len, List.length_map, rangeKs_length]) fun k h1 h2 => ?_
  have hk : k < 256 := by rw [ballAt_len] at h1; exact h1
  have d := D.look k hk
  rw [List.getD_eq_getElem?_getD, List.getElem?_eq_getElem h1] at d
  have er : (rangeKs 0 256)[k]'(by rw [rangeKs_length]; exact hk) = (k : Int) := by simp [rangeKs]
  rw [List.getElem_map, er]
  cases h : kdfHas c (k : Int) with
  | true => simpa using d.symm
  | false => rw [look_none h] at d; simpa using d.symm
section
variable {prog : Program} {w : World} {A : Around} {E : Value → Shared → Prop} {s : Shared} {value slice : PySem.Expr} {Q : Value → Shared → Prop}
theorem item_at {b : Array UInt8} {os : List Int} {n : Nat} {a : Int} {t ui : Tok} (hb : KBw.bInts b = os.take n) (h0 : 0 ≤ a) (h1 : a < (n : Int)) (hn : n ≤ os.length) (hz : n ≤ 100000)
    (h : ∀ t' k, 0 ≤ os.getD a.toNat 0 → os.getD a.toNat 0 < 256 → Q (.int (os.getD a.toNat 0) t') { s with toks := k })
    (hs : subscripted slice false (.bytes b t) (.int a ui) = operate [.bytes b t, .int a ui] (getItem (.bytes b t) (.int a ui)) := by with_unfolding_all rfl)
    (ht : ∀ r, letTemporaryGo value (.bytes b t) r = pure () := by intro _; with_unfolding_all rfl) :
    wpAny (model prog w) A (subscriptTail value slice (.bytes b t) (.int a ui)) Q E s := by
  have hl : (os.take n).length = n := by rw [List.length_take]; omega
  have e : (os.take n).getD a.toNat 0 = os.getD a.toNat 0 := by
    rw [List.getD_eq_getElem?_getD, List.getElem?_take, if_pos (by omega), List.getD_eq_getElem?_getD]
  exact KBw.item_K hb (by rw [hl]; omega) h0 (by rw [hl]; exact h1) (fun t' k a b => by rw [e] at a b ⊢; exact h t' k a b) hs ht
end
theorem oct200_of {b : Array UInt8} {ns : List Int} (h : KBw.bInts b = List.take (Int.toNat 200) (str02 ns (List.map (fun k' => k'.fmod 256) (List.take (min 14 ns.length - 2) (List.drop 2 ns))))) : KBw.bInts b = (octs ns).take 200 := h
/-- the word of the law's loop -/
structure DictEq (tau : Int) (ns pre : List Int) (c : List (Int × Int)) (sg at_ : Int) : Prop where
  e1 : at_ = ((ballAt ns pre).1 : Int)
  e2 : sg = (ballAt ns pre).2.1
  ok : DictOk tau ns pre c
theorem sign8 (ns : List Int) : List.take (clipAt (List.take (Int.toNat 200) (octs ns)).length 8) (List.take (Int.toNat 200) (octs ns)) = (octs ns).take 8 := by
  have hl : (List.take (Int.toNat 200) (octs ns)).length = 200 := by rw [List.length_take, octs_len]; decide
  rw [hl]
  have e1 : clipAt 200 8 = 8 := by decide
  rw [e1, List.take_take]
  rfl
theorem ditto_start (tau : Int) (ns : List Int) : 0 ≤ leI (List.take (clipAt (List.take (Int.toNat 200) (octs ns)).length 8) (List.take (Int.toNat 200) (octs ns))) ∧ (8 : Int) ≤ 8 ∧ (8 : Int) ≤ 8 + 3 * (([] : List Int).length : Int) ∧ ([] : List (Int × Int)).length ≤ 2 * ([] : List Int).length ∧
    DictEq tau ns [] [] (leI (List.take (clipAt (List.take (Int.toNat 200) (octs ns)).length 8) (List.take (Int.toNat 200) (octs ns)))) 8 := by
  rw [sign8]
  exact ⟨leI_nonneg _ fun x hx => octs_nonneg ns x (List.mem_of_mem_take hx), by decide, by decide, Nat.le_refl _, ⟨rfl, rfl, dict_start tau ns⟩⟩
theorem dict_turn {tau : Int} {ns pre : List Int} {c c' : List (Int × Int)} {sg sg' a0 a i b : Int} (he : DictEq tau ns pre c sg a0) (hz : c.length ≤ 2 * pre.length) (h0 : 0 ≤ sg) (ha : 8 ≤ a0) (hb : a0 ≤ 8 + 3 * (pre.length : Int))
    (hi : i = 256 - tau + (pre.length : Int)) (hi2 : i < 256) (ht : tau ≤ 60)
    (g1 : a0 ≤ a) (g2 : a ≤ a0 + 2) (g3 : ∀ p : Nat, a0.toNat ≤ p → p < a.toNat → i < (octs ns).getD p 0) (hj : (octs ns).getD a.toNat 0 ≤ i) (hj0 : 0 ≤ (octs ns).getD a.toNat 0)
    (hs : sg' = sg / 2) (hbit : b = 1 - 2 * (sg % 2))
    (hc : c' = kdfPut (if kdfHas c ((octs ns).getD a.toNat 0) = true then kdfPut c i (kdfLook c ((octs ns).getD a.toNat 0) 0) else c) ((octs ns).getD a.toNat 0) b) :
    0 ≤ sg' ∧ 8 ≤ a + 1 ∧ a + 1 ≤ 8 + 3 * ((pre ++ [i]).length : Int) ∧ c'.length ≤ 2 * (pre ++ [i]).length ∧ DictEq tau ns (pre ++ [i]) c' sg' (a + 1) := by
  have en := at_next (by omega) g1 g2 g3 hj
  obtain ⟨e1, e2, D⟩ := he
  have ea : a0.toNat = (ballAt ns pre).1 := by omega
  subst hs hbit
  refine ⟨by omega, by omega, by rw [List.length_append, List.length_singleton]; omega, ?_, ⟨?_, ?_, ?_⟩⟩
  · rw [hc, List.length_append, List.length_singleton]
    split
    · have h1 := kdfPut_len c i (kdfLook c ((octs ns).getD a.toNat 0) 0)
      have h2 := kdfPut_len (kdfPut c i (kdfLook c ((octs ns).getD a.toNat 0) 0)) ((octs ns).getD a.toNat 0) (1 - 2 * (sg % 2))
      omega
    · have h2 := kdfPut_len c ((octs ns).getD a.toNat 0) (1 - 2 * (sg % 2))
      omega
  · rw [ballAt_snoc]
    show _ = ((nextAt (octs ns) i (ballAt ns pre).1 + 1 : Nat) : Int)
    rw [← ea, ← en]; omega
  · rw [ballAt_snoc, e2]; rfl
  · rw [hc]
    exact ball_dict D hi hi2 ht hj0 hj (by rw [← ea, ← en]) e2
theorem dict_turn_yes {tau : Int} {ns pre : List Int} {c : List (Int × Int)} {sg a0 a i : Int} (he : DictEq tau ns pre c sg a0) (hz : c.length ≤ 2 * pre.length) (h0 : 0 ≤ sg) (ha : 8 ≤ a0) (hb : a0 ≤ 8 + 3 * (pre.length : Int))
    (hi : i = 256 - tau + (pre.length : Int)) (hi2 : i < 256) (ht : tau ≤ 60)
    (g1 : a0 ≤ a) (g2 : a ≤ a0 + 2) (g3 : ∀ p : Nat, a0.toNat ≤ p → p < a.toNat → i < (octs ns).getD p 0) (hj : (octs ns).getD a.toNat 0 ≤ i) (hj0 : 0 ≤ (octs ns).getD a.toNat 0)
    (hy : kdfHas c ((octs ns).getD a.toNat 0) = true) :
    0 ≤ sg.fdiv 2 ∧ 8 ≤ a + 1 ∧ a + 1 ≤ 8 + 3 * ((pre ++ [i]).length : Int) ∧ (kdfPut (kdfPut c i (kdfLook c ((octs ns).getD a.toNat 0) 0)) ((octs ns).getD a.toNat 0) (1 - 2 * sg.fmod 2)).length ≤ 2 * (pre ++ [i]).length ∧
    DictEq tau ns (pre ++ [i]) (kdfPut (kdfPut c i (kdfLook c ((octs ns).getD a.toNat 0) 0)) ((octs ns).getD a.toNat 0) (1 - 2 * sg.fmod 2)) (sg.fdiv 2) (a + 1) :=
  dict_turn (b := 1 - 2 * sg.fmod 2) he hz h0 ha hb hi hi2 ht g1 g2 g3 hj hj0 (Int.fdiv_eq_ediv_of_nonneg _ (by decide)) (by rw [Int.fmod_eq_emod_of_nonneg _ (by decide)]) (by rw [if_pos hy])
theorem dict_turn_no {tau : Int} {ns pre : List Int} {c : List (Int × Int)} {sg a0 a i : Int} (he : DictEq tau ns pre c sg a0) (hz : c.length ≤ 2 * pre.length) (h0 : 0 ≤ sg) (ha : 8 ≤ a0) (hb : a0 ≤ 8 + 3 * (pre.length : Int))
    (hi : i = 256 - tau + (pre.length : Int)) (hi2 : i < 256) (ht : tau ≤ 60)
    (g1 : a0 ≤ a) (g2 : a ≤ a0 + 2) (g3 : ∀ p : Nat, a0.toNat ≤ p → p < a.toNat → i < (octs ns).getD p 0) (hj : (octs ns).getD a.toNat 0 ≤ i) (hj0 : 0 ≤ (octs ns).getD a.toNat 0)
    (hy : kdfHas c ((octs ns).getD a.toNat 0) = false) :
    0 ≤ sg.fdiv 2 ∧ 8 ≤ a + 1 ∧ a + 1 ≤ 8 + 3 * ((pre ++ [i]).length : Int) ∧ (kdfPut c ((octs ns).getD a.toNat 0) (1 - 2 * sg.fmod 2)).length ≤ 2 * (pre ++ [i]).length ∧
    DictEq tau ns (pre ++ [i]) (kdfPut c ((octs ns).getD a.toNat 0) (1 - 2 * sg.fmod 2)) (sg.fdiv 2) (a + 1) :=
  dict_turn (b := 1 - 2 * sg.fmod 2) he hz h0 ha hb hi hi2 ht g1 g2 g3 hj hj0 (Int.fdiv_eq_ediv_of_nonneg _ (by decide)) (by rw [Int.fmod_eq_emod_of_nonneg _ (by decide)]) (by rw [if_neg (by rw [hy]; exact Bool.false_ne_true)])
theorem newsTail {h₀ h : Heap} {L : Addr} {p : Addr × PySem.Obj} {r : List (Addr × PySem.Obj)} (N : News h₀ L h (p :: r)) : News h₀ L h r := fun q hq => N q (.tail _ hq)
theorem last_eq {c : List (Int × Int)} {tau : Int} {ns pre cs : List Int} {sg a : Int} (E : DictEq tau ns pre c sg a) (e : cs = (ballAt ns pre).2.2) :
    cs = List.map (fun k' => if kdfHas c k' = true then kdfLook c k' 0 else if kdfHas c k' = false then 0 else k') (rangeKs 0 ((256 : Int) - 0).toNat) := by
  rw [ball_last E.ok e]
  refine List.map_congr_left fun k _ => ?_
  cases kdfHas c k <;> simp
end
end Mine
namespace Mine
section
open PySem.NumText
/-! br's text: bin, the cut, zfill, turned round -/
def revText (x : PySem.Str) : PySem.Str := ⟨((slicePicked x none none (some (-1, 0))).filterMap (x.cps[·]?)).toArray⟩
@[irreducible] def tx1 (i : Int) : PySem.Str := ⟨([48, 98] ++ (Nat.toDigits 2 i.natAbs).map Char.toNat).toArray⟩
theorem tx1_eq {i : Int} (h : 0 ≤ i) : baseText "0b" 2 i = tx1 i := by
  have e : (baseText "0b" 2 i).cps.toList = (tx1 i).cps.toList := by
    rw [baseText_nonneg h]
    unfold tx1
    rw [Str.cps_append, Str.cps_append, Array.toList_append, Array.toList_append, signs_ofString, signs_ofString, signs_ofString]
    have e0 : ("0b" : String).toList = ['0', 'b'] := by decide
    simp [String.toList_ofList, e0]
  have e2 : (baseText "0b" 2 i).cps = (tx1 i).cps := Array.ext' e
  exact Str.ext' e2
@[irreducible] def tx2 (i : Int) : PySem.Str := Txt.slice (tx1 i) (some 2) none
@[irreducible] def tx3 (i : Int) : PySem.Str := Txt.zfill (tx2 i) 8
@[irreducible] def tx4 (i : Int) : PySem.Str := revText (tx3 i)
noncomputable def numVal (x : int_private% "Numeral") : Int := (int_private% "Numeral.rec") (motive := fun _ => Int) (-1) (fun _ => -1) (-1) (fun i => i) x
theorem num_is (x : int_private% "Numeral") (h : 0 ≤ numVal x) : x = (int_private% "Numeral.value") (numVal x) := by
  cases x with
  | invalid => exact absurd h (by show ¬ (0 ≤ (-1 : Int)); decide)
  | tooLong d => exact absurd h (by show ¬ (0 ≤ (-1 : Int)); decide)
  | byTheLibrary => exact absurd h (by show ¬ (0 ≤ (-1 : Int)); decide)
  | value i => rfl
noncomputable def brv (i : Int) : Int := numVal ((int_private% "readNumeral") 0 2 ((tx4 i).cps.toList.takeWhile (· != 0)))
def bits8 (n : Nat) : List Nat := [48 + n % 2, 48 + n / 2 % 2, 48 + n / 4 % 2, 48 + n / 8 % 2, 48 + n / 16 % 2, 48 + n / 32 % 2, 48 + n / 64 % 2, 48 + n / 128 % 2]
theorem tx4_all : ∀ n : Nat, n < 256 → (tx4 (n : Int)).cps.toList = bits8 n := by decide +kernel
noncomputable def bitChk (n : Nat) : Bool := (bits8 n).all (· < 128) && (((bits8 n).takeWhile (· != 0)).length == (bits8 n).length) && decide (0 ≤ numVal ((int_private% "readNumeral") 0 2 ((bits8 n).takeWhile (· != 0)))) && decide (numVal ((int_private% "readNumeral") 0 2 ((bits8 n).takeWhile (· != 0))) < 256)
theorem bit_all : ∀ n : Nat, n < 256 → bitChk n = true := by decide +kernel
end
end Mine
namespace Mine
section
open PySem.NumText
structure Hid2 (p : Prop) : Prop where
  out : p
theorem wp_text2 {M : Model} {A : Around} {E : Value → Shared → Prop} {s : Shared} {Q : Value → Shared → Prop} {v : Value} {text : List Nat} {n : Int}
    (hs : (text.takeWhile (· != 0)).length ≤ 640) (hr : (int_private% "readNumeral") 0 2 (text.takeWhile (· != 0)) = (int_private% "Numeral.value") n)
    (ha : ((text.takeWhile (· != 0)).length == text.length) = true) (h : Q (.int n s.toks) { s with toks := s.toks + 1 }) :
    wpAny M A ((int_private% "intFromText") v text 2) Q E s := by
  obtain ⟨hp, g, d, tk, os⟩ := s
  repeat (any_goals (first
    | assumption
    | (with_reducible refine wpAny_ite_true (decide_eq_true hs) ?_)
    | (with_reducible refine wpAny_ite_true (decide_eq_true ha) ?_)
    | wp_step))
  all_goals (try rw [hr])
  all_goals (try dsimp only)
  repeat (any_goals (first
    | assumption
    | (with_reducible refine wpAny_ite_true (decide_eq_true hs) ?_)
    | (with_reducible refine wpAny_ite_true (decide_eq_true ha) ?_)
    | wp_step))
set_option maxHeartbeats 4000000 in
theorem gives_text2 {x : PySem.Str} {u v : Tok} {n : Int} (h8 : x.cps.all (· < 128) = true) (hs : (x.cps.toList.takeWhile (· != 0)).length ≤ 640) (hr : (int_private% "readNumeral") 0 2 (x.cps.toList.takeWhile (· != 0)) = (int_private% "Numeral.value") n)
    (ha : ((x.cps.toList.takeWhile (· != 0)).length == x.cps.toList.length) = true) : Gives (Builtin.«int.__new__» ⟨[.type "int", .str x u, .int 2 v], []⟩) (.int n) :=
  .of_wp fun M A E s Q h => by
    obtain ⟨hp, g, d, tk, os⟩ := s
    have f1 := F.conv_sub_int
    have f2 := F.madeHere_int
    have ft : (if x.cps.all (· < 128) then x.cps.toList else Unicode.numberText x.cps.toList) = x.cps.toList := by rw [if_pos h8]
    have hk := Hid2.mk (And.intro hs (And.intro hr ha))
    clear hs hr ha
    repeat (any_goals (first
      | assumption
      | ((with_reducible show wpAny _ _ ((int_private% "intFromText") _ _ _) _ _ _); (try rw [ft]); refine wp_text2 hk.out.1 hk.out.2.1 hk.out.2.2 ?_)
      | wp_step))
    all_goals first | exact ⟨_, rfl, h⟩ | skip
theorem typeCall_int2 (a b : Value) : checkTypeCall "int" ⟨[a, b], []⟩ = pure () := by kernel_rfl
theorem newCall_int2 (a b : Value) : checkBuiltinCall "int.__new__" ⟨[.type "int", a, b], []⟩ = pure () := by kernel_rfl
theorem args_init3 (a b c : Value) : argsOk "object.__init__" ⟨[a, b, c], []⟩ := by unfold argsOk; kernel_rfl
@[irreducible] noncomputable def brVal (i : Int) : Int := numVal ((int_private% "readNumeral") 0 2 ((tx4 i).cps.toList.takeWhile (· != 0)))
theorem tx4_ok {i : Int} (h0 : 0 ≤ i) (h1 : i < 256) : ∃ n : Int, (n = brVal i ∧ 0 ≤ n ∧ n < 256) ∧ (tx4 i).cps.all (· < 128) = true ∧ ((tx4 i).cps.toList.takeWhile (· != 0)).length ≤ 640 ∧ (int_private% "readNumeral") 0 2 ((tx4 i).cps.toList.takeWhile (· != 0)) = (int_private% "Numeral.value") n ∧ (((tx4 i).cps.toList.takeWhile (· != 0)).length == (tx4 i).cps.toList.length) = true := by
  obtain ⟨k, rfl⟩ := Int.eq_ofNat_of_zero_le h0
  have hk : k < 256 := by omega
  have e := tx4_all k hk
  have c := bit_all k hk
  unfold bitChk at c
  rw [← e] at c
  simp only [Bool.and_eq_true, decide_eq_true_eq] at c
  obtain ⟨⟨⟨c1, c2⟩, c3⟩, c4⟩ := c
  refine ⟨brVal _, ⟨rfl, ?_, ?_⟩, ?_, ?_, (by unfold brVal; exact num_is _ c3), c2⟩
  · unfold brVal; exact c3
  · unfold brVal; exact c4
  · rw [← Array.all_toList]; exact c1
  · rw [beq_iff_eq.mp c2, e]
    show 8 ≤ _
    decide
section
variable {prog : Program} {w : World} {A : Around} {E : Value → Shared → Prop} {s : Shared} {i : Int} {t u : Tok} {h₀ : Heap} {L : Addr} {m : PySem.Str → Option Value} {news : List (Addr × Obj)} {Q : Value → Shared → Prop} {x : PySem.Str}
theorem bin_byte (h0 : 0 ≤ i) (h1 : i < 256) (h : ∀ t' k, Q (.str (tx1 i) t') { s with toks := k }) : wpAny (model prog w) A (call (.builtin "bin") [.int (Builtin.bitAnd i (2 ^ Int.toNat 8 - 1)) t]) Q E s := by
  have e : Builtin.bitAnd i (2 ^ Int.toNat 8 - 1) = i := by
    show Builtin.bitAnd i 255 = i
    rw [bitAnd_m8]
    omega
  rw [e]
  refine P.bin_of_int (by rw [tx1_eq h0]; exact h _ _) ?_
  have h2 := (baseText_length "0b" 2 i).2
  have h3 : (PySem.Str.ofString "0b").length = 2 := by decide +kernel
  rw [sizeLine_eq]
  omega
theorem tx1_short (h0 : 0 ≤ i) (h1 : i < 256) : (tx1 i).length ≤ sizeLine := by
  rw [← tx1_eq h0, sizeLine_eq]
  have h2 := (baseText_length "0b" 2 i).2
  have h3 : (PySem.Str.ofString "0b").length = 2 := by decide +kernel
  omega
theorem cut2 {value slice : PySem.Expr} {u2 : Tok} (h0 : 0 ≤ i) (h1 : i < 256) (hF : Fr h₀ L s.heap m) (hN : News h₀ L s.heap news) (h : ∀ h' t' k, Fr h₀ L h' m → News h₀ L h' news → Q (.str (tx2 i) t') { s with heap := h', toks := k })
    (hs : subscripted slice false (.str (tx1 i) t) (.ref s.heap.objs.size) = operate [.ref s.heap.objs.size, .str (tx1 i) t] (getItem (.str (tx1 i) t) (.ref s.heap.objs.size)) := by with_unfolding_all rfl)
    (ht : ∀ r, letTemporaryGo value (.str (tx1 i) t) r = pure () := by intro _; with_unfolding_all rfl) :
    wpAny (model prog w) A (subscriptTail value slice (.str (tx1 i) t) (.ref s.heap.objs.size)) Q E { s with heap := s.heap.push { cls := .type "slice", data := .fields #[.int 2 u2, .none, .none] } } :=
  slice_strN_sn hF hN (by unfold tx2 at h; exact h) hs ht (tx1_short h0 h1)
theorem fill8 (h : ∀ t' k, Q (.str (tx3 i) t') { s with toks := k }) : wpAny (model prog w) A (call (.builtin "str.zfill") [.str (tx2 i) t, .int 8 u]) Q E s :=
  KXw.zfill (by unfold tx3; rfl) (by decide +kernel) h
theorem rev_slice {value slice : PySem.Expr} {u2 : Tok} (h0 : 0 ≤ i) (h1 : i < 256) (hF : Fr h₀ L s.heap m) (hN : News h₀ L s.heap news) (h : ∀ h' t' k, Fr h₀ L h' m → News h₀ L h' news → Q (.str (tx4 i) t') { s with heap := h', toks := k })
    (hs : subscripted slice false (.str (tx3 i) t) (.ref s.heap.objs.size) = operate [.ref s.heap.objs.size, .str (tx3 i) t] (getItem (.str (tx3 i) t) (.ref s.heap.objs.size)) := by with_unfolding_all rfl)
    (ht : ∀ r, letTemporaryGo value (.str (tx3 i) t) r = pure () := by intro _; with_unfolding_all rfl) :
    wpAny (model prog w) A (subscriptTail value slice (.str (tx3 i) t) (.ref s.heap.objs.size)) Q E { s with heap := s.heap.push { cls := .type "slice", data := .fields #[.none, .none, .int (-1) u2] } } := by
  refine tail_of_ItemOn ⟨"str", _, PySem.F.slot_str_getitem.lookup, typeIs_str _ _ _, wpAny_getItem_str_slice (l := none) (u := none) (st := some (-1, u2)) ⟨_, Heap.get?_push_size _ rfl, rfl, rfl⟩ rfl ?_⟩ hs ht
  have e : sliceMade (tx3 i) t none none (some (-1, u2)) = .str (tx4 i) := by
    unfold tx4 revText
    rfl
  rw [e]
  have hl : (tx4 i).length ≤ sizeLine := by
    obtain ⟨k, rfl⟩ := Int.eq_ofNat_of_zero_le h0
    have e := tx4_all k (by omega)
    show (tx4 _).cps.size ≤ sizeLine
    rw [← Array.length_toList, e, sizeLine_eq]
    show 8 ≤ _
    decide
  exact ⟨hl, h _ _ _ (hF.push _) (News.pushKeep hN _)⟩
theorem int2 (h0 : 0 ≤ i) (h1 : i < 256) (h : ∀ t' k, 0 ≤ brVal i → brVal i < 256 → Q (.int (brVal i) t') { s with toks := k }) : wpAny (model prog w) A (call (.type "int") [.str (tx4 i) t, .int 2 u]) Q E s := by
  obtain ⟨_, ⟨rfl, hn⟩, a1, a2, a3, a4⟩ := tx4_ok h0 h1
  exact callType_new F.called_int F.newNe_int (typeCall_int2 _ _) (newCall_int2 _ _) (fun obj => args_init3 obj _ _) F.entry_int_new (gives_text2 a1 a2 a3 a4).meets (show (Made.int (brVal i)).post _ s from ⟨rfl, h _ _ hn.1 hn.2⟩)
end
end
end Mine
namespace Mine
section
theorem pw_slot_pos {y : Int} (hy : 0 ≤ y) (t u v : Tok) : Gives (Builtin.«int.__pow__» ⟨[.int 1753 t, .int y u, .int 8380417 v], []⟩) (.int ((Builtin.powMod 1753 y.natAbs 8380417 : Nat) : Int)) :=
  .of_wp fun M A E s Q h => by
    obtain ⟨hp, g, d, tk, os⟩ := s
    have hn : ¬ (y < 0) := by omega
    generalize hz : Builtin.powMod 1753 y.natAbs 8380417 = z at h
    repeat (any_goals (first
      | assumption
      | (with_reducible refine wpAny_ite_false (decide_eq_false hn) ?_)
      | wp_step))
    have e : (if (decide ((8380417 : Int) < 0) && ((Builtin.powMod (1753 % ((Int.natAbs 8380417 : Nat) : Int)).toNat y.natAbs (Int.natAbs 8380417) : Nat) : Int) != 0) = true then
        ((Builtin.powMod (1753 % ((Int.natAbs 8380417 : Nat) : Int)).toNat y.natAbs (Int.natAbs 8380417) : Nat) : Int) - ((Int.natAbs 8380417 : Nat) : Int) else ((Builtin.powMod (1753 % ((Int.natAbs 8380417 : Nat) : Int)).toNat y.natAbs (Int.natAbs 8380417) : Nat) : Int)) = (z : Int) := by
      rw [if_neg (by rw [show decide ((8380417 : Int) < 0) = false from rfl]; exact Bool.false_ne_true), ← hz]
      rfl
    rw [e]
    exact ⟨_, rfl, h⟩
theorem pw_slot_inv (t u v : Tok) : Gives (Builtin.«int.__pow__» ⟨[.int 256 t, .int (-1) u, .int 8380417 v], []⟩) (.int 8347681) :=
  .of_wp fun M A E s Q h => by
    obtain ⟨hp, g, d, tk, os⟩ := s
    have e1 : Builtin.roomForPylong 256 ((Int.natAbs 8380417 : Nat) : Int) = pure () := by kernel_rfl
    have e2 : Builtin.roomForPylongsInverse (Int.natAbs 8380417) = pure () := by kernel_rfl
    have e3 : Builtin.euclid (2 * Builtin.Int.intBits 8380417 + 2) ((Int.natAbs 8380417 : Nat) : Int) (((256 % ((Int.natAbs 8380417 : Nat) : Int)).toNat : Nat) : Int) 0 1 = some (1, -32736) := by decide +kernel
    repeat (any_goals (first
      | assumption
      | (with_reducible refine wpAny_of_eq (by exact e1) ?_)
      | (with_reducible refine wpAny_of_eq (by exact e2) ?_)
      | (rw [e3])
      | wp_step))
    have h' : Q (.int 8347681 tk) { heap := hp, gens := g, drawn := d, toks := tk + 1, os := os } := h
    refine ⟨_, rfl, ?_⟩
    refine Eq.mpr (congrArg (fun z : Int => Q (Value.int z tk) _) ?_) h'
    decide +kernel
theorem slot_pow : PySem.Slot "int" (PySem.Str.ofString "__pow__") "int.__pow__" :=
  .of (owner := "int") (n := "__pow__") (by rw [typeLookup_type, builtinLookup_eq_fast]; kernel_rfl) (by decide +kernel) (by decide +kernel) (by decide +kernel)
    (by first | exact .inl (by decide +kernel) | exact .inr (by decide +kernel)) (by rw [isSubtype_type]; kernel_rfl)
theorem entry_pow : entryFor table "pow" = some Builtin.«pow» := entryFor_of_tree (by kernel_rfl)
theorem kind_pow : builtinKind "pow" = none := by decide +kernel
theorem plain_pow : plainId "pow" = true := by decide +kernel
theorem args_pow3 (a b c : Value) : argsOk "pow" ⟨[a, b, c], []⟩ := by unfold argsOk; kernel_rfl
theorem args_slot3 (a b c : Value) : argsOk "int.__pow__" ⟨[a, b, c], []⟩ := by unfold argsOk; kernel_rfl
section
variable {prog : Program} {w : World} {A : Around} {E : Value → Shared → Prop} {s : Shared} {x y m z : Int} {t u v : Tok} {Q : Value → Shared → Prop}
theorem pow3 (g : Gives (Builtin.«int.__pow__» ⟨[.int x t, .int y u, .int m v], []⟩) (.int z)) (h : ∀ t' k, Q (.int z t') { s with toks := k }) : wpAny (model prog w) A (call (.builtin "pow") [.int x t, .int y u, .int m v]) Q E s := by
  refine call_function_entry kind_pow plain_pow entry_pow (args_pow3 _ _ _) ?_
  unfold Builtin.«pow»
  refine wpAny_bind (wpAny_of_eq (a := [some (.int x t), some (.int y u), some (.int m v)]) (by kernel_rfl) ?_)
  refine wpAny_bind (wpAny_rule ?_)
  refine wpAny_bind (wpAny_typeOf (typeIs_int s x t) ?_)
  refine wpAny_bind (wpAny_of_eq slot_pow.lookup ?_)
  dsimp only
  refine wpAny_bind ?_
  have step : ∀ {QQ : Option Value → Shared → Prop}, wpAny (model prog w) A.in1 (call (.builtin "int.__pow__") [.int x t, .int y u, .int m v]) (fun v => QQ (some v)) E s → wpAny (model prog w) A.in1 (callSpecial? (.int x t) (PySem.Str.ofString "__pow__") [.int y u, .int m v]) QQ E s := fun {QQ} hc =>
    @wpAny_callSpecial?_slot (model prog w) A.in1 E s (.int x t) "int" (PySem.Str.ofString "__pow__") "int.__pow__" [.int y u, .int m v] [] QQ (typeIs_int s x t) slot_pow hc
  refine step ?_
  refine wpAny_mono (Q := fun r s' => r = .int z s.toks ∧ s' = { s with toks := s.toks + 1 }) (E := E) (call_gives slot_pow (typeIs_int s x t) PySem.F.entry_int_pow (args_slot3 _ _ _) g (And.intro rfl rfl)) ?_ fun _ _ e => e
  rintro r s' ⟨rfl, rfl⟩
  dsimp only
  refine wpAny_ite_true (by rfl) ?_
  exact wpAny_pure ⟨_, rfl, h _ _⟩
end
end
end Mine
namespace Mine
section
theorem fb_ris {prog : Program} {w : World} {A : Around} {E : Value → Shared → Prop} {s : Shared} {h₀ : Heap} {L : Addr} {news : List (Addr × Obj)} {x : Addr} {b : Array UInt8} {t u : Tok} {Q : Value → Shared → Prop} (N : News h₀ L s.heap news) (hm : (x, KFB.bound) ∈ news)
    (hb : KBw.bInts b = List.map (fun k' => (37 * k' + 11).fmod 256) (rangeKs 0 ((32 : Int) - 0).toNat))
    (h : ∀ t' k, Q (.int ris t') { s with toks := k }) : wpAny (model prog w) A (call (.ref x) [.bytes b t, .str (PySem.Str.ofString "little") u]) Q E s :=
  fb_call N hm hb (by simp only [List.length_map, rangeKs_length]; decide) (by unfold ris at h; exact h)
def MergeTo (x : Int) (s : Shared) (v : Value) (s' : Shared) : Prop := ∃ t k, v = .int x t ∧ s' = { s with toks := k }
theorem mergeIf {M : Model} {A : Around} {E : Value → Shared → Prop} {s : Shared} {env : Env} {test body orelse : PySem.Expr} {pos : Pos} {Q : Value → Shared → Prop} (x : Int)
    (h : wpAny M A (isTrue test env (eval test env)) (fun c s₂ => if c then wpAny M A (eval body env) (MergeTo x s) E s₂ else wpAny M A (eval orelse env) (MergeTo x s) E s₂) E s)
    (hq : ∀ t k, Q (.int x t) { s with toks := k }) : wpAny M A (eval (.IfExp test body orelse pos) env) Q E s :=
  wpAny_mono (IfExp_ h) (fun _ _ ⟨t, k, e, e'⟩ => by subst e e'; exact hq t k) fun _ _ x => x
theorem mergeIfL {M : Model} {A : Around} {E : Value → Shared → Prop} {s : Shared} {env : Env} {test body orelse : PySem.Expr} {pos : Pos} {Q : Value → Shared → Prop} {vs : List Value} {ns : List Int} (_hi : IntsAre vs ns) (f : List Int → Int)
    (h : wpAny M A (isTrue test env (eval test env)) (fun c s₂ => if c then wpAny M A (eval body env) (MergeTo (f ns) s) E s₂ else wpAny M A (eval orelse env) (MergeTo (f ns) s) E s₂) E s)
    (hq : ∀ t k, Q (.int (f ns) t) { s with toks := k }) : wpAny M A (eval (.IfExp test body orelse pos) env) Q E s := mergeIf (f ns) h hq
theorem MergeTo.mk' {x y : Int} {s : Shared} {t : Tok} {k : Nat} (e : y = x) : MergeTo x s (.int y t) { s with toks := k } := ⟨t, k, by rw [e], rfl⟩
theorem first_in {ns : List Int} (h : (1 : Int) < (ns.length : Int)) : ns.getD (Int.toNat 1) 0 = firstOf ns := by
  unfold firstOf
  have h1 : 1 < ns.length := by omega
  show ns.getD 1 0 = ns.getD 1 5
  simp [List.getD, h1]
theorem first_out {ns : List Int} (h : ¬ (1 : Int) < (ns.length : Int)) : 5 = firstOf ns := by
  unfold firstOf
  have h1 : ns.length ≤ 1 := by omega
  simp [List.getD, h1]
local macro_rules | `(tactic| walk_at "call ref") => `(tactic| (k_here; (with_reducible show wpAny _ _ (call (Value.ref _) [Value.bytes _ _, Value.str (Str.ofString "little") _]) _ _ _); kfb_any; k_dflt (refine fb_ris (by k_asm) (by k_mem) (by kba_ints2) ?_); intro _ _))
local macro_rules | `(tactic| walk_at "eval BinOp") => `(tactic| (k_here; (with_reducible refine rep02_lit ?_); intro _ _))
local macro_rules | `(tactic| walk_at "eval BinOp") => `(tactic| (k_here; (with_reducible refine hb02_lit ?_); intro _ _))
local macro_rules | `(tactic| walk_at "binaryOp Mult int int") => `(tactic| (k_here; (with_reducible show wpAny _ _ (binaryOp Operator.Mult (Value.int _ _) (Value.int rep02 _)) _ _ _); k_dflt (refine mul_ok (b := rep02) (pre_bits _) (Nat.le_trans rep02_bits (by decide)) ?_); intro _ _))
local macro_rules | `(tactic| walk_at "binaryOp Mult int int") => `(tactic| (k_here; (with_reducible show wpAny _ _ (binaryOp Operator.Mult (Value.int _ _) (Value.int hb02 _)) _ _ _); k_dflt (refine mul_ok (b := hb02) (by decide) (Nat.le_trans hb02_bits (by decide)) ?_); intro _ _))
theorem tb02 {prog : Program} {w : World} {A : Around} {E : Value → Shared → Prop} {s : Shared} {ns sd : List Int} {m x : Int} {t u v : Tok} {Q : Value → Shared → Prop} (hm : m = List.foldl (fun m o => m * 257 + o) 1 sd) (hx : x = Builtin.bitAnd (firstOf ns + ris * (2 * m.fmod 65521 + 1) * rep02) (7864319 * hb02))
    (h : ∀ (b : Array UInt8) t' k', KBw.bInts b = str02 ns sd → (str02 ns sd).length = 696 → Q (.bytes b t') { s with toks := k' }) :
    wpAny (model prog w) A (call (.builtin "int.to_bytes") [.int x t, .int 696 u, .str (PySem.Str.ofString "little") v]) Q E s := by
  have e : x = x02 ns sd := by rw [hx, hm]; rfl
  subst e
  exact tb_little (k := 696) (by decide) (x02_pos _ _) (x02_lt _ _) fun b t' k' hb => h b t' k' hb (str02_len _ _)
local macro_rules | `(tactic| walk_at "call builtin:int.to_bytes") => `(tactic| (k_here; k_dflt (refine tb02 (by assumption) rfl ?_); intro b5 t5 k5 hTb hTl; walk_say "TB02"))
local macro_rules | `(tactic| walk_at "eval IfExp") => `(tactic| (k_here; (rename IntsAre _ _ => hIa); k_dflt (refine mergeIfL hIa firstOf ?_ ?_); rotate_left; intro _ _; rotate_left))
local macro_rules | `(tactic| walk_at "MergeTo") => `(tactic| (with_unfolding_all first | exact MergeTo.mk' (first_in (by assumption)) | exact MergeTo.mk' (first_out (by assumption))))
set_option maxHeartbeats 1000000 in
theorem stream_call {w : World} {p : Program} {loose : List Str} {mean : ExcName → Option Value} {mg mb : Str → Option Value} {dp un : Nat} {gd : Option (List Code)} {cn : Str} {cs : Scope} {a : Addr} {ccd : Value} {cl : List (Str × Addr)} {outer : List Env} {A₀ : Around} {base h₀ : Heap} {L : Addr} {m : Str → Option Value} {s : Shared} {Q E : Value → Shared → Prop}
    {l : Addr} {vs : List Value} {ns : List Int} {sb : Array UInt8} {st : Tok} {sd : List Int} {many : Int} {mt : Tok}
    (B : Below A₀ base outer h₀) (F : Fr h₀ L s.heap m) (X : (Mine.hd.heap_39 w.params).In h₀) (T : Top p loose mean mg mb h₀) (hk : cs.kind = .function)
    (hl : base.IsList l vs.toArray) (hi : IntsAre vs ns) (hn : ns.length ≤ 63) (hsb : KBw.bInts sb = sd) (hsd : sd.length ≤ 64) (hm0 : 0 ≤ many) (hm1 : many ≤ 696)
    (hd : dp + 1 < recursionLimit)
    (ret : ∀ b t h' tk', KBw.bInts b = (str02 ns sd).take many.toNat → (∀ b o, s.heap.get? b = some o → h'.get? b = some o) → Q (.bytes b t) { s with heap := h', toks := tk' }) :
    wpAny (model PySem.Challenge.rw_ji0010_02.row.prog w) (ktrTop dp un gd cn cs L a ccd cl outer) (call (.ref 597) [.ref l, .bytes sb st, .int many mt]) Q E s := by
  revert X; k_fill; intro X
  refine wpAny_call ?_
  k_dflt (refine' code_pure ?k1 ?k2 ?k3 ?k5 ?kA ?kF ?kK ?k6 ?k7 ?k8 ?k9 ?kB ?_ ?c2 ?c3 ?c4 ?c5; (case kA => exact rfl); (case kF => exact rfl); (case kK => assumption); (case k1 => k_asm); (case k2 => k_asm); (case k3 => k_asm); (case k5 => k_asm); (case k6 => k_is); (case k7 => k_is); (case k8 => ktr_room); (case k9 => exact BindsTo.of_eq rfl); (case c5 => decide); (case kB => exact locs rfl); (case c2 => exact rfl); (case c3 => exact rfl); (case c4 => exact rfl); k_whole; intro g' L' h' hg' F' N' B' X' T'; (try dsimp only); (try k_lift B'))
  clear F T X
  k_fold
  k_with "pyIter bytes" => k_state (fun pre mix => 0 ≤ mix ∧ mix = pre.foldl (fun m o => m * 257 + o) 1 ∧ mix < 257 ^ (pre.length + 1)) "mix"
  k_steps
  subst hg'
  refine PureLeave.mk' (by assumption) fun keep => ret _ _ _ _ ?_ keep
  rw [KBc.ints_picked (by assumption) none (some many), str02_len]
  show ((str02 ns sd).drop 0).take (clipAt 696 many - 0) = _
  have e : clipAt 696 many = many.toNat := by
    obtain ⟨n, rfl⟩ := Int.eq_ofNat_of_zero_le hm0
    rw [clipAt_nat]
    omega
  rw [e, List.drop_zero, Nat.sub_zero]
end
end Mine
namespace Mine
section
local macro_rules | `(tactic| walk_at "call builtin:bin") => `(tactic| (k_here; k_dflt (refine bin_byte (by assumption) (by assumption) ?_); intro _ _))
local macro_rules | `(tactic| walk_at "subscriptTail") => `(tactic| (k_here; (with_reducible show wpAny _ _ (subscriptTail _ (Expr.Slice _ _ _ _) (Value.str (tx1 _) _) (Value.ref _)) _ _ _); (with_reducible rename Fr _ _ _ _ => F'); (with_reducible rename News _ _ _ _ => N'); (refine cut2 (s := ⟨_, _, _, _, _⟩) (by assumption) (by assumption) F' N' ?_); intro _ _ _ _ _))
local macro_rules | `(tactic| walk_at "subscriptTail") => `(tactic| (k_here; (with_reducible show wpAny _ _ (subscriptTail _ (Expr.Slice _ _ _ _) (Value.str (tx3 _) _) (Value.ref _)) _ _ _); (with_reducible rename Fr _ _ _ _ => F'); (with_reducible rename News _ _ _ _ => N'); (refine rev_slice (s := ⟨_, _, _, _, _⟩) (by assumption) (by assumption) F' N' ?_); intro _ _ _ _ _))
local macro_rules | `(tactic| walk_at "call builtin:str.zfill") => `(tactic| (k_here; k_dflt (refine fill8 ?_); intro _ _))
local macro_rules | `(tactic| walk_at "call type:int") => `(tactic| (k_here; (with_reducible show wpAny _ _ (call (Value.type "int") [Value.str (tx4 _) _, _]) _ _ _); k_dflt (refine int2 (by assumption) (by assumption) ?_); intro _ _ _ _))
set_option maxHeartbeats 1000000 in
theorem br_call {w : World} {p : Program} {loose : List Str} {mean : ExcName → Option Value} {mg mb : Str → Option Value} {dp un : Nat} {gd : Option (List Code)} {cn : Str} {cs : Scope} {a : Addr} {ccd : Value} {cl : List (Str × Addr)} {outer : List Env} {A₀ : Around} {base h₀ : Heap} {L : Addr} {m : Str → Option Value} {s : Shared} {Q E : Value → Shared → Prop}
    {i : Int} {it mt : Tok}
    (B : Below A₀ base outer h₀) (F : Fr h₀ L s.heap m) (X : (Mine.hd.heap_39 w.params).In h₀) (T : Top p loose mean mg mb h₀) (hk : cs.kind = .function)
    (hi0 : 0 ≤ i) (hi1 : i < 256)
    (hd : dp + 1 < recursionLimit)
    (ret : ∀ t h' tk', 0 ≤ brVal i → brVal i < 256 → (∀ b o, s.heap.get? b = some o → h'.get? b = some o) → Q (.int (brVal i) t) { s with heap := h', toks := tk' }) :
    wpAny (model PySem.Challenge.rw_ji0010_02.row.prog w) (ktrTop dp un gd cn cs L a ccd cl outer) (call (.ref 301) [.int i it, .int 8 mt]) Q E s := by
  revert X; k_fill; intro X
  refine wpAny_call ?_
  k_dflt (refine' code_pure ?k1 ?k2 ?k3 ?k5 ?kA ?kF ?kK ?k6 ?k7 ?k8 ?k9 ?kB ?_ ?c2 ?c3 ?c4 ?c5; (case kA => exact rfl); (case kF => exact rfl); (case kK => assumption); (case k1 => k_asm); (case k2 => k_asm); (case k3 => k_asm); (case k5 => k_asm); (case k6 => k_is); (case k7 => k_is); (case k8 => ktr_room); (case k9 => exact BindsTo.of_eq rfl); (case c5 => decide); (case kB => exact locs rfl); (case c2 => exact rfl); (case c3 => exact rfl); (case c4 => exact rfl); k_whole; intro g' L' h' hg' F' N' B' X' T'; (try dsimp only); (try k_lift B'))
  clear F T X
  k_fold
  k_steps
  subst hg'
  exact PureLeave.mk' (by assumption) fun keep => ret _ _ _ (by assumption) (by assumption) keep
end
end Mine
namespace Mine
section
/-- what the called def stands on: all of the caller's heap but the ledger's objects -/
def Stood (h g : Heap) (adr : List Addr) : Prop := ∀ b o, h.get? b = some o → b ∉ adr → g.get? b = some o
theorem fresh_of {h g h' : Heap} {L cl : Addr} {o : Obj} {adr : List Addr} {n : List (Addr × Obj)} (GS : Stood h g adr) (N : News g L h' n) (hm : (cl, o) ∈ n) : ∀ b o, h.get? b = some o → b ∉ adr → @Ne Nat b cl := by
  intro b o' e nb eq
  have h1 := GS b o' e nb
  have h2 := (N _ hm).2.2
  have eq' : b = cl := eq
  rw [eq'] at h1
  rw [h1] at h2
  cases h2
section
variable {prog : Program} {w : World} {A₀ A : Around} {s : Shared} {base h₀ : Heap} {outer : List Env} {L : Addr} {m : PySem.Str → Option Value} {env : Env} {news : List (Addr × Obj)} {K : Frag}
  {R : Result → Shared → Prop} {name qual : PySem.Str} {params : Arguments} {body : List Stmt} {scope : Scope} {dV kV doc pm cdv ct oc : Value} {an od : Option Addr} {osl : Array (Option Value)} {f : Addr} {args : Args} {binds : List (PySem.Str × Value)}
  {p : Program} {loose : List PySem.Str} {mean : ExcName → Option Value} {mg mb : PySem.Str → Option Value}
theorem eff_cells (B : Below A₀ base outer h₀) (F : Fr h₀ L s.heap m) (X₀ : K.In h₀) (N : News h₀ L s.heap news) (T : Top p loose mean mg mb h₀) (hA : A.frames = some (env :: outer)) (hf : env.frame = some L) (hke : env.scope.kind = .function)
    (ho : K.lookup f = some ⟨oc, od, .func (fnOf name qual params body scope dV kV doc pm an cdv ct), osl⟩) (hcd : codeIn K cdv qual = true) (hroom : A.depth < recursionLimit)
    (hbind : BindsTo s (fnOf name qual params body scope dV kV doc pm an cdv ct) args binds) (hkind : (binds.all fun y => scope.names.lookup y.1 == some .local || scope.names.lookup y.1 == some .cell) = true)
    (hnd : ((cellsFrom 0 scope.names []).map (·.1)).Nodup)
    (h : ∀ g L' h₁ tk cells, Stood s.heap g (news.map (·.1)) → Fr g L' h₁ (bindL (envOfC qual scope L' f cdv).kindOf binds fun _ => none) → News g L' h₁ (cells ++ news) →
      CellsAre (bindC (envOfC qual scope L' f cdv).kindOf binds fun _ => none) (cellsFrom (L' + 1) scope.names []) cells → Below A base (env :: outer) g → K.In g → Top p loose mean mg mb g → (∀ p ∈ news, p.1 < L') →
      wpAny (model prog w) (A.deeper (envOfC qual scope L' f cdv)) (execs body (envOfC qual scope L' f cdv))
        (fun fl s' => LeaveK h₀ L m g R (match fl with | .ret v => v | _ => .none) s')
        (fun e s' => wpAny (model prog w) (A.deeper (envOfC qual scope L' f cdv)) (leaving (envOfC qual scope L' f cdv) e) (fun _ s'' => R (.error e) s'') (fun e' s'' => R (.error e') s'') s')
        { s with heap := h₁, toks := tk })
    (hco : scope.isCoroutine = false) (hgen : scope.isGenerator = false) (hk : scope.kind = .function) : codeAny (model prog w) A (.call (.ref f) args) R s := by
  obtain ⟨FG, BG, st, lv⟩ := groundX (R := R) B F N hA hf hke
  have Xg : K.In (hideAll s.heap (news.map (·.1))) := X₀.keeps st
  have Tg : Top p loose mean mg mb (hideAll s.heap (news.map (·.1))) := T.keeps st
  have XF := X₀.keeps F.keep
  refine codeAny_call_function hroom (XF _ _ ho) rfl hco hgen rfl (codeRec_of XF hcd) (hbind _ _ _ _ ?_)
  refine wpAny_newFunctionEnv_cells hk (kindsX hkind _) fun env' he s' x => ?_
  subst he
  refine ⟨(T.nolimit.keeps F.keep).keeps x.toInCall.keep, codeAny_func ?_⟩
  obtain ⟨h₁, tk, rfl, _⟩ := x.done
  have kept := x.toInCall.keep
  have nd : ((cellsFrom (s.heap.objs.size + 1) scope.names []).map (·.1)).Nodup := cellsFrom_names scope.names 0 (s.heap.objs.size + 1) [] [] rfl ▸ hnd
  obtain ⟨cells, NC, Y⟩ := Cl.news (h₀ := s.heap) (Nat.le_refl _) fun n c hm => ⟨x.cell n c (lookup_of_mem_nodup nd hm), x.above n c hm⟩
  have lows : ∀ p ∈ news, p.1 < s.heap.objs.size := fun p hp => Heap.lt_size (N p hp).1
  refine wpAny_mono (h (hideAll s.heap (news.map (·.1))) s.heap.objs.size h₁ tk cells (fun b o e n => hideAll_get _ e n) ⟨x.toInCall.ns, fun b o e => kept b o (of_hideAll _ e), Nat.le_of_eq (hideAll_size _ _)⟩ ?_ Y BG Xg Tg lows) (fun fl s' hl => lv _ _ hl) fun _ _ y => y
  intro q hq
  rcases List.mem_append.mp hq with hq | hq
  · have hc := NC q hq
    refine ⟨hc.1, hc.2.1, ?_⟩
    cases e : (hideAll s.heap (news.map (·.1))).get? q.1 with
    | none => rfl
    | some o =>
      have e2 := of_hideAll _ e
      rw [hc.2.2] at e2
      cases e2
  · exact ⟨kept _ _ (N q hq).1, Nat.ne_of_lt (lows q hq), hideAll_none _ (List.mem_map_of_mem hq)⟩
theorem eff_plain (B : Below A₀ base outer h₀) (F : Fr h₀ L s.heap m) (X₀ : K.In h₀) (N : News h₀ L s.heap news) (T : Top p loose mean mg mb h₀) (hA : A.frames = some (env :: outer)) (hf : env.frame = some L) (hke : env.scope.kind = .function)
    (ho : K.lookup f = some ⟨oc, od, .func (fnOf name qual params body scope dV kV doc pm an cdv ct), osl⟩) (hcd : codeIn K cdv qual = true) (hroom : A.depth < recursionLimit)
    (hbind : BindsTo s (fnOf name qual params body scope dV kV doc pm an cdv ct) args binds) (hloc : ∀ y ∈ binds, scope.names.lookup y.1 = some .local)
    (h : ∀ g L' h₁, Stood s.heap g (news.map (·.1)) → Fr g L' h₁ (fun y => binds.reverse.lookup y) → News g L' h₁ news → Below A base (env :: outer) g → K.In g → Top p loose mean mg mb g → (∀ p ∈ news, p.1 < L') →
      wpAny (model prog w) (A.deeper (envOf qual scope L' f cdv)) (execs body (envOf qual scope L' f cdv))
        (fun fl s' => LeaveK h₀ L m g R (match fl with | .ret v => v | _ => .none) s')
        (fun e s' => wpAny (model prog w) (A.deeper (envOf qual scope L' f cdv)) (leaving (envOf qual scope L' f cdv) e) (fun _ s'' => R (.error e) s'') (fun e' s'' => R (.error e') s'') s')
        { s with heap := h₁, toks := s.toks + binds.length })
    (hco : scope.isCoroutine = false) (hgen : scope.isGenerator = false) (hk : scope.kind = .function)
    (hcell : ∀ x ∈ scope.names, x.2 ≠ .cell) : codeAny (model prog w) A (.call (.ref f) args) R s := by
  obtain ⟨FG, BG, st, lv⟩ := groundX (R := R) B F N hA hf hke
  have Xg : K.In (hideAll s.heap (news.map (·.1))) := X₀.keeps st
  have Tg : Top p loose mean mg mb (hideAll s.heap (news.map (·.1))) := T.keeps st
  have XF := X₀.keeps F.keep
  have lows : ∀ p ∈ news, p.1 < s.heap.objs.size := fun p hp => Heap.lt_size (N p hp).1
  refine codeAny_call_def (fd := fnOf name qual params body scope dV kV doc pm an cdv ct) (body := body) (binds := binds) hroom (XF _ _ ho) rfl (T.nolimit.keeps F.keep) (codeRec_of XF hcd) rfl hbind hcell hloc (fun h₁ hns hk₁ => ?_) hco hgen hk
  refine wpAny_mono (h (hideAll s.heap (news.map (·.1))) s.heap.objs.size h₁ (fun b o e n => hideAll_get _ e n) ⟨hns, fun b o e => hk₁ b o (of_hideAll _ e), Nat.le_of_eq (hideAll_size _ _)⟩ (fun q hq => ⟨hk₁ _ _ (N q hq).1, Nat.ne_of_lt (lows q hq), hideAll_none _ (List.mem_map_of_mem hq)⟩) BG Xg Tg lows) (fun fl s' hl => lv _ _ hl) fun _ _ y => y
end
end
end Mine
namespace Mine
section
section
variable {w : World} {p : Program} {loose : List Str} {mean : ExcName → Option Value} {mg mb : Str → Option Value} {dp un : Nat} {gd : Option (List Code)} {cn : Str} {cs : Scope} {a : Addr} {ccd : Value} {cl : List (Str × Addr)} {outer : List Env} {A₀ : Around} {base h₀ : Heap} {L : Addr} {m : Str → Option Value} {s : Shared} {Q E : Value → Shared → Prop}
theorem stream_callN {l : Addr} {vs : List Value} {ns : List Int} {sb : Array UInt8} {st : Tok} {sd : List Int} {many : Int} {mt : Tok} {news : List (Addr × Obj)}
    (B : Below A₀ base outer h₀) (F : Fr h₀ L s.heap m) (X : (Mine.hd.heap_39 w.params).In h₀) (N : News h₀ L s.heap news) (T : Top p loose mean mg mb h₀) (hk : cs.kind = .function)
    (hl : base.IsList l vs.toArray) (hi : IntsAre vs ns) (hn : ns.length ≤ 63) (hsb : KBw.bInts sb = sd) (hsd : sd.length ≤ 64) (hm0 : 0 ≤ many) (hm1 : many ≤ 696)
    (hd : dp + 1 < recursionLimit)
    (ret : ∀ b t h' tk', KBw.bInts b = (str02 ns sd).take many.toNat → Fr h₀ L h' m → News h₀ L h' news → Q (.bytes b t) { s with heap := h', toks := tk' }) :
    wpAny (model PySem.Challenge.rw_ji0010_02.row.prog w) (ktrTop dp un gd cn cs L a ccd cl outer) (call (.ref 597) [.ref l, .bytes sb st, .int many mt]) Q E s :=
  stream_call B F X T hk hl hi hn hsb hsd hm0 hm1 hd fun b t h' tk' hb keep => ret b t h' tk' hb (F.keeps keep) fun q hq => ⟨keep _ _ (N q hq).1, (N q hq).2⟩
theorem br_callN {i : Int} {it mt : Tok} {news : List (Addr × Obj)}
    (B : Below A₀ base outer h₀) (F : Fr h₀ L s.heap m) (X : (Mine.hd.heap_39 w.params).In h₀) (N : News h₀ L s.heap news) (T : Top p loose mean mg mb h₀) (hk : cs.kind = .function)
    (hi0 : 0 ≤ i) (hi1 : i < 256)
    (hd : dp + 1 < recursionLimit)
    (ret : ∀ t h' tk', 0 ≤ brVal i → brVal i < 256 → Fr h₀ L h' m → News h₀ L h' news → Q (.int (brVal i) t) { s with heap := h', toks := tk' }) :
    wpAny (model PySem.Challenge.rw_ji0010_02.row.prog w) (ktrTop dp un gd cn cs L a ccd cl outer) (call (.ref 301) [.int i it, .int 8 mt]) Q E s :=
  br_call B F X T hk hi0 hi1 hd fun t h' tk' h1 h2 keep => ret t h' tk' h1 h2 (F.keeps keep) fun q hq => ⟨keep _ _ (N q hq).1, (N q hq).2⟩
end
def tauOf (ns : List Int) : Int := if ns = [] then 39 else (ns.getD 0 0).fmod 61
theorem tau_range (ns : List Int) : 0 ≤ tauOf ns ∧ tauOf ns ≤ 60 := by
  unfold tauOf
  split
  · decide
  · have h1 := Int.fmod_nonneg_of_pos (ns.getD 0 0) (by decide : (0 : Int) < 61)
    have h2 := Int.fmod_lt_of_pos (ns.getD 0 0) (by decide : (0 : Int) < 61)
    omega
theorem tau_in {ns : List Int} (h : 0 < ns.length) : (ns.getD (Int.toNat 0) 0).fmod 61 = tauOf ns := by
  unfold tauOf
  rw [if_neg (by intro e; rw [e] at h; exact absurd h (by decide))]
  rfl
theorem tau_out {ns : List Int} (h : ¬ 0 < ns.length) : 39 = tauOf ns := by
  unfold tauOf
  rw [if_pos (List.eq_nil_of_length_eq_zero (by omega))]
def EndTrue (g : Heap) (L : Addr) (s : Shared) (f : Flow) (s' : Shared) : Prop :=
  ∃ h' tk m' news' ps1 ps2, f = .ret (.bool true) ∧ s' = { s with heap := h', toks := tk } ∧ Fr g L h' m' ∧ News g L h' news' ∧ (306, tabObj ps1) ∈ news' ∧ (599, tabObj ps2) ∈ news'
theorem endTrue_of {M : Model} {A : Around} {t : Sem Flow} {Q : Flow → Shared → Prop} {E : Value → Shared → Prop} {s : Shared} {g : Heap} {L : Addr} {m : Str → Option Value} (_F : Fr g L s.heap m)
    (h : wpAny M A t (EndTrue g L s) (fun _ _ => False) s) (fin : ∀ f s', EndTrue g L s f s' → Q f s') : wpAny M A t Q E s := wpAny_mono h fin fun _ _ h => h.elim
theorem lk_use {K : Frag} {a : Addr} {o o' : Obj} (h : K.lookup a = some o) (h' : K.lookup a = some o') : o = o' := Option.some.inj (h.symm.trans h')
theorem def_use {l : List Stmt} {i : Nat} {a b : Stmt} (h : l[i]? = some a) (h' : l[i]? = some b) : b = a := Option.some.inj (h'.symm.trans h)
theorem news4 {g : Heap} {L : Addr} {h : Heap} {n : List (Addr × PySem.Obj)} {a b c d : Addr × PySem.Obj} (N : News g L h n) (ha : a ∈ n) (hb : b ∈ n) (hc : c ∈ n) (hd : d ∈ n) : News g L h [a, b, c, d] := by
  intro q hq
  simp only [List.mem_cons, List.not_mem_nil, or_false] at hq
  rcases hq with rfl | rfl | rfl | rfl
  · exact N _ ha
  · exact N _ hb
  · exact N _ hc
  · exact N _ hd
theorem news5 {g : Heap} {L : Addr} {h : Heap} {n : List (Addr × PySem.Obj)} {a b c d e : Addr × PySem.Obj} (N : News g L h n) (ha : a ∈ n) (hb : b ∈ n) (hc : c ∈ n) (hd : d ∈ n) (he : e ∈ n) : News g L h [a, b, c, d, e] := by
  intro q hq
  simp only [List.mem_cons, List.not_mem_nil, or_false] at hq
  rcases hq with rfl | rfl | rfl | rfl | rfl
  · exact N _ ha
  · exact N _ hb
  · exact N _ hc
  · exact N _ hd
  · exact N _ he
end
end Mine
namespace Mine
section
local macro_rules | `(tactic| walk_at "call ref") => `(tactic| (k_here; (with_reducible show wpAny _ _ (call (Value.ref 301) _) _ _ _); k_dflt (refine' br_callN ?k1 ?k2 ?k3 ?k4 ?k5 ?k6 ?i0 ?i1 ?kd ?_; (case k1 => k_asm); (case k2 => k_asm); (case k3 => k_asm); (case k4 => k_asm); (case k5 => k_asm); (case k6 => first | exact rfl | assumption); (case i0 => first | assumption | omega); (case i1 => first | assumption | omega); (case kd => ktr_room)); intro t' h' k' hv0 hv1 F' N'))
local macro_rules | `(tactic| walk_at "call ref") => `(tactic| (k_here; (with_reducible show wpAny _ _ (call (Value.ref 597) _) _ _ _); k_dflt (refine' stream_callN ?k1 ?k2 ?k3 ?k4 ?k5 ?k6 ?kl ?ki ?kz ?kb ?ks ?i0 ?i1 ?kd ?_; (case k1 => k_asm); (case k2 => k_asm); (case k3 => k_asm); (case k4 => k_asm); (case k5 => k_asm); (case k6 => first | exact rfl | assumption); (case kl => k_asm); (case ki => assumption); (case kz => assumption); (case kb => kba_ints2); (case ks => first | assumption | (simp only [List.length_map, List.length_take, List.length_drop]; omega)); (case i0 => first | decide | omega); (case i1 => first | decide | omega); (case kd => ktr_room)); intro b5 t5 h5 k5 hb5 F' N'))
local macro_rules | `(tactic| walk_at "call ref") => `(tactic| (k_here; (with_reducible show wpAny _ _ (call (Value.ref _) [Value.bytes _ _, Value.str (Str.ofString "little") _]) _ _ _); kfb_any; k_dflt (refine fb_call (by k_asm) (by k_mem) (by kba_ints2) ?fbz ?_); (case fbz => (simp only [List.length_take, List.length_drop, List.length_map, str02_len]; omega)); intro _ _))
local macro_rules | `(tactic| walk_at "call builtin:pow") => `(tactic| (k_here; (with_reducible show wpAny _ _ (call (Value.builtin "pow") [Value.int _ _, Value.int (brVal _) _, Value.int _ _]) _ _ _); k_dflt (refine pow3 (pw_slot_pos (by assumption) _ _ _) ?_); intro _ _))
local macro_rules | `(tactic| walk_at "call builtin:pow") => `(tactic| (k_here; (with_reducible show wpAny _ _ (call (Value.builtin "pow") [Value.int 256 _, Value.int _ _, Value.int _ _]) _ _ _); k_dflt (refine pow3 (pw_slot_inv _ _ _) ?_); intro _ _))
local macro_rules | `(tactic| walk_at "eval IfExp") => `(tactic| (k_here; (rename IntsAre _ _ => hIa); k_dflt (refine mergeIfL hIa tauOf ?_ ?_); rotate_left; intro _ _; rotate_left))
local macro_rules | `(tactic| walk_at "MergeTo") => `(tactic| (with_unfolding_all first | exact MergeTo.mk' (tau_in (by first | omega | (simp_all; omega))) | exact MergeTo.mk' (tau_out (by first | omega | (simp_all; omega)))))
local macro_rules | `(tactic| walk_at "subscriptTail") => `(tactic| (k_here; (with_reducible show wpAny _ _ (subscriptTail _ _ (Value.bytes (KBy.picked _ (some _) (some _)) _) (Value.int _ _)) _ _ _); k_dflt (refine item_read (n := 680) (by assumption) (by omega) (by omega) (by rw [octs_len]; decide) ?_); intro _ _ hj0 hj1))
local macro_rules | `(tactic| walk_at "WhlIf") => `(tactic| (refine WhlIf.no (decide_eq_false (by omega)) ?_))
set_option maxHeartbeats 4000000 in
theorem ball_call {w : World} {p : Program} {loose : List Str} {mean : ExcName → Option Value} {mg mb : Str → Option Value} {g : Heap} {L : Nat} {fa l : Addr} {s : Shared} {vs : List Value} {ns : List Int}
    {oc : Value} {od : Option Addr} {name qual : Str} {params : Arguments} {body : List Stmt} {scope : Scope} {dV kV doc pm ct : Value} {an : Option Addr} {osl : Array (Option Value)}
    (hlk : (Mine.hd.heap_39 w.params).lookup 602 = some ⟨oc, od, .func (fnOf name qual params body scope dV kV doc pm an (.ref 601) ct), osl⟩)
    {nm : Str} {prm : Arguments} {bd : List Stmt} {deco : List PySem.Expr} {rets : Option PySem.Expr} {tps : List TypeParam} {sc : Scope} {tsc : Option Scope} {bind : Str} {pos : Pos}
    (hdef : body[2]? = some (Stmt.FunctionDef nm prm bd deco rets tps sc tsc bind pos))
    {sx sd ring rd f c c1 z sy : Nat} {o1 oc1 : PySem.Obj} {cvs : Array Value} {qn : Str} {tq : Tok} {dc pm1 ct1 : Value} {t1 t2 t3 t4 t5 t6 t7 t8 t9 t10 t11 t12 t13 t14 t15 t16 : Tok} {m : Str → Option Value} {Q E : Value → Shared → Prop}
    {sb : Array UInt8} {u1 u2 : Tok} 
    (B : Below callerA g [] g) (X : (Mine.hd.heap_39 w.params).In g) (T : Top p loose mean mg mb g) (hl : g.IsList l vs.toArray) (hi : IntsAre vs ns) (hn : ns.length ≤ 63) (F : Fr g L s.heap m)
    (N : News g L s.heap [(sx, instObj 278 sd), (sd, dictOf [⟨PyData.keyHash w.params (PySem.Str.ofString "algorithm"), .str (PySem.Str.ofString "algorithm") t1, .ref f⟩, ⟨PyData.keyHash w.params (PySem.Str.ofString "block_length"), .str (PySem.Str.ofString "block_length") t3, .int 136 t2⟩, ⟨PyData.keyHash w.params (PySem.Str.ofString "buf"), .str (PySem.Str.ofString "buf") t5, .bytes #[] t4⟩, ⟨PyData.keyHash w.params (PySem.Str.ofString "len_buf"), .str (PySem.Str.ofString "len_buf") t7, .int 0 t6⟩] 4), (ring, instObj 390 rd), (rd, dictOf [⟨PyData.keyHash w.params (PySem.Str.ofString "q"), .str (PySem.Str.ofString "q") t9, .int 8380417 t8⟩, ⟨PyData.keyHash w.params (PySem.Str.ofString "n"), .str (PySem.Str.ofString "n") t11, .int 256 t10⟩, ⟨PyData.keyHash w.params (PySem.Str.ofString "shake128"), .str (PySem.Str.ofString "shake128") t12, .ref sy⟩, ⟨PyData.keyHash w.params (PySem.Str.ofString "shake256"), .str (PySem.Str.ofString "shake256") t13, .ref sx⟩, ⟨PyData.keyHash w.params (PySem.Str.ofString "ntt_zetas"), .str (PySem.Str.ofString "ntt_zetas") t14, .ref z⟩, ⟨PyData.keyHash w.params (PySem.Str.ofString "ntt_f"), .str (PySem.Str.ofString "ntt_f") t16, .int 8347681 t15⟩] 6), (f, fnMade nm qn prm bd sc [(PySem.Str.ofString "script", c1)] dc pm1 c ct1), (c, oc1), (c1, o1), (306, tabObj #[])])
    (hord : 306 < L ∧ L < c1 ∧ c1 < c ∧ c < f ∧ f < rd ∧ rd < ring ∧ ring < sd ∧ sd < sx)
    (hc1 : o1.data = .cell (some (.ref l))) (hoc : oc1.data = .fields cvs) (hcv : cvs[1]? = some (.str qn tq))
    (C1 : CodeHd g (308, 306).1 (308, 306).2)
    (hsb : KBw.bInts sb = List.map (fun k' => k'.fmod 256) (List.take (min 14 ns.length - 2) (List.drop 2 ns)))
    (ret : ∀ (told td cl : Nat) cvs cs ck h' tk' a1 a2 ps, Fr g L h' m → News g L h' [(told, instObj 526 td), (td, dictOf [⟨PyData.keyHash w.params (PySem.Str.ofString "parent"), .str (PySem.Str.ofString "parent") a1, .ref ring⟩, ⟨PyData.keyHash w.params (PySem.Str.ofString "coeffs"), .str (PySem.Str.ofString "coeffs") a2, .ref cl⟩] 2), (cl, PySem.W.listOf cvs.toArray ck), (c1, o1), (306, tabObj ps)] → IntsAre cvs cs → cs = (ballAt ns (rangeKs (256 - tauOf ns) (256 - (256 - tauOf ns)).toNat)).2.2 → (cl < td ∧ td < told ∧ sx < td ∧ (@Ne Nat 306 cl)) → (∀ b o, s.heap.get? b = some o → b ∉ [sx, sd, ring, rd, f, c, c1, 306] → @Ne Nat b cl) → (∀ b o, s.heap.get? b = some o → b ∉ [sx, sd, ring, rd, f, c, c1, 306] → h'.get? b = some o) → Q (.ref told) { s with heap := h', toks := tk' }) :
    wpAny (model PySem.Challenge.rw_ji0010_02.row.prog w) (callerA.deeper (envOfC qual scope L fa (.ref 601))) (call (.ref 309) [.ref ring, .bytes sb u1, .int (tauOf ns) u2]) Q E s := by
  revert X; k_fill; intro X
  refine' ((fun e => ?_) : (_ : PySem.Obj) = _ → _) (lk_use hlk ?lk)
  case lk => k_is
  cases e
  clear hlk
  refine' ((fun e => ?_) : (_ : Stmt) = _ → _) (def_use hdef ?lk2)
  case lk2 => exact rfl
  cases e
  clear hdef
  refine wpAny_call ?_
  k_dflt (refine' eff_plain ?k1 ?k2 ?k3 ?k4 ?k5 ?kA ?kF ?kK ?k6 ?k7 ?k8 ?k9 ?kB ?_ ?c2 ?c3 ?c4 ?c5; (case kA => exact rfl); (case kF => exact rfl); (case kK => exact rfl); (case k1 => k_asm); (case k2 => k_asm); (case k3 => k_asm); (case k4 => k_asm); (case k5 => k_asm); (case k6 => k_is); (case k7 => k_is); (case k8 => k_room); (case k9 => first | exact BindsTo.of_eq rfl | exact binds_K (by k_in) rfl (by k_is) rfl rfl rfl); (case c5 => decide); (case kB => exact locs rfl); (case c2 => exact rfl); (case c3 => exact rfl); (case c4 => exact rfl); k_whole; intro g0 L0 h0' GS0 F' N' B' X' T' l1; (try k_lt l1); (try dsimp only); (try k_lift B'); (try k_fold))
  repeat' ((fail_if_success (with_reducible show wpAny _ _ (exec (Stmt.For _ _ _ _ _) _) _ _ _)); (first | (k_unfold; (try dsimp only)) | (k_end; wrow_close) | walk1 | (dsimp only; walk1) | (leave1; walk_say "STEP leave1"; try dsimp only) | fail "no step"))
  obtain ⟨ht0, ht1⟩ := tau_range ns
  rename (KBw.bInts _ = List.take _ (str02 _ _)) => hb5
  have hoct := oct_of hb5
  k_with "state" => first | exact ball_start ns | exact ball_turn (by assumption) (by assumption) (by assumption) (by assumption) (by assumption) (by assumption) (by assumption) (by assumption) (by assumption) | exact scan_start | exact scan_turn (by omega) (by omega) (by omega) (by assumption) (by assumption) (by assumption) (by assumption)
  k_with "pyIter ref" => skip
  repeat' ((fail_if_success (with_reducible show wpAny _ _ (pyIter (Value.ref _)) _ _ _)); (first | (k_unfold; (try dsimp only)) | (k_end; wrow_close) | walk1 | (dsimp only; walk1) | (leave1; walk_say "STEP leave1"; try dsimp only) | fail "no step"))
  k_state (fun pre cs sg at_ => cs.length = 256 ∧ 0 ≤ sg ∧ 8 ≤ at_ ∧ at_ ≤ 8 + 3 * (pre.length : Int) ∧ BallEq ns pre cs sg at_) "coeffs" "sign_int" "xof.index"
  · repeat' ((fail_if_success (with_reducible show wpAny _ _ (exec (Stmt.While _ _ _ _) _) _ _ _)); (first | (k_unfold; (try dsimp only)) | (k_end; wrow_close) | walk1 | (dsimp only; walk1) | (leave1; walk_say "STEP leave1"; try dsimp only) | fail "no step"))
    k_while_given ["i", "xof.index!"] (fun i a0 script at_ => a0 ≤ at_ ∧ at_ ≤ a0 + 2 ∧ (∀ p : Nat, a0.toNat ≤ p → p < at_.toNat → i < (octs script).getD p 0)) (fun i a0 script at_ => (a0 + 3 - at_).toNat) "xof.index"
    k_steps
  · k_steps
    rename Fr g L _ _ => kFc
    rename News g L _ _ => kNc
    rename Fr g0 L0 _ _ => kF0
    rename News g0 L0 _ _ => kN0
    rename BallEq _ _ _ _ _ => hBE
    refine' ret _ _ _ _ _ _ _ _ _ _ _ kFc (news5 kNc ?m1 ?m2 ?m3 ?m6 ?m4) ?mi hBE.e3 ?mo (fresh_of GS0 kN0 ?m5) (fun b o e nb => kF0.keep b o (GS0 b o e nb))
    case m1 => k_mem
    case m2 => k_mem
    case m3 => k_mem
    case m4 => k_mem
    case m6 => k_mem
    case m5 => k_mem
    case mi => assumption
    case mo => omega
end
end Mine
namespace Mine
section
local macro_rules | `(tactic| walk_at "subscriptTail") => `(tactic| (k_here; (with_reducible show wpAny _ _ (subscriptTail _ _ (Value.bytes _ _) (Value.int _ _)) _ _ _); k_dflt (refine item_at (n := 200) (by assumption) (by omega) (by omega) (by rw [octs_len]; decide) (by decide) ?_); intro _ _ hj0 hj1))
local macro_rules | `(tactic| walk_at "setItem ref int") => `(tactic| (k_here; (rename (News _ _ _ ((Array.size _, _) :: _)) => nX); (replace nX := newsTail nX)))
theorem EndTrue.mk' {g : Heap} {L : Addr} {s : Shared} {h' : Heap} {tk : Nat} {m' : Str → Option Value} {news' : List (Addr × PySem.Obj)} {p1 p2 : Array Value} {b : Bool} (e : b = true) (F : Fr g L h' m') (N : News g L h' news') (m1 : (306, tabObj p1) ∈ news') (m2 : (599, tabObj p2) ∈ news') :
    EndTrue g L s (.ret (.bool b)) { s with heap := h', toks := tk } := ⟨h', tk, m', news', p1, p2, by rw [e], rfl, F, N, m1, m2⟩
set_option maxHeartbeats 4000000 in
theorem law_tail02 {w : World} {p : Program} {loose : List Str} {mean : ExcName → Option Value} {mg mb : Str → Option Value} {g : Heap} {L : Nat} {fa l : Addr} {s : Shared} {vs : List Value} {ns : List Int}
    {oc : Value} {od : Option Addr} {name qual : Str} {params : Arguments} {body : List Stmt} {scope : Scope} {dV kV doc pm ct : Value} {an : Option Addr} {osl : Array (Option Value)}
    (hlk : (Mine.hd.heap_39 w.params).lookup 602 = some ⟨oc, od, .func (fnOf name qual params body scope dV kV doc pm an (.ref 601) ct), osl⟩)
    {sts : List Stmt} (hst : sts = body.drop 7)
    {d td told cl : Nat} {ring : Addr} {o oC : Obj} {cs : List Int} {cvs : List Value} {ck : Nat} {t1 t2 tt ta ts tb : Tok} {p1 p2 : Array Value} {b : Array UInt8} {hd sd : Value} {sg : Int}
    (B : Below callerA g [] g) (X : (Mine.hd.heap_39 w.params).In g) (T : Top p loose mean mg mb g)
    (hl : g.IsList l vs.toArray) (hi : IntsAre vs ns)
    (F : Fr g L s.heap (fun y => if y = PySem.Str.ofString "at" then some (.int 8 ta) else if y = PySem.Str.ofString "signs" then some (.int sg ts) else if y = PySem.Str.ofString "octets" then some (.bytes b tb) else if y = PySem.Str.ofString "told" then some (.ref told) else if y = PySem.Str.ofString "ring" then some (.ref ring) else if y = PySem.Str.ofString "handed" then some hd else if y = PySem.Str.ofString "seed" then some sd else if y = PySem.Str.ofString "tau" then some (.int (tauOf ns) tt) else none))
    (N : News g L s.heap [(d, o), (L + 1 + 1, oC), (told, instObj 526 td), (td, dictOf [⟨PyData.keyHash w.params (PySem.Str.ofString "parent"), .str (PySem.Str.ofString "parent") t1, .ref ring⟩, ⟨PyData.keyHash w.params (PySem.Str.ofString "coeffs"), .str (PySem.Str.ofString "coeffs") t2, .ref cl⟩] 2), (cl, PySem.W.listOf cvs.toArray ck), (306, tabObj p1), (599, tabObj p2)])
    (hoc : oC.data = .cell (some (.ref d))) (lo : (d == sysModules) = false) (ho : Obj.IsDictOf (PySem.intKind PySem.Challenge.rw_ji0010_02.row.prog w) o []) (hfp : PyProof.V.FlatPairs PyData.int [] [])
    (q1 : L + 1 + 1 < d ∧ told < d ∧ td < d ∧ cl < d ∧ 306 < d ∧ 599 < d) (q2 : td < told ∧ cl < td ∧ 306 ≠ cl ∧ 599 ≠ cl ∧ L + 1 + 1 ≠ cl ∧ 306 < td ∧ 599 < td ∧ L + 1 + 1 < td ∧ 306 < L ∧ 599 < L)
    (hb : KBw.bInts b = (octs ns).take 200) (hsg : sg = leI (List.take (clipAt (List.take (Int.toNat 200) (octs ns)).length 8) (List.take (Int.toNat 200) (octs ns))))
    (hcv : IntsAre cvs cs) (hcs : cs = (ballAt ns (rangeKs (256 - tauOf ns) (256 - (256 - tauOf ns)).toNat)).2.2) :
    wpAny (model PySem.Challenge.rw_ji0010_02.row.prog w) (callerA.deeper (envOfC qual scope L fa (.ref 601))) (execs sts (envOfC qual scope L fa (.ref 601))) (EndTrue g L s) (fun _ _ => False) s := by
  subst hst
  revert X; k_fill; intro X
  refine' ((fun e => ?_) : (_ : Obj) = _ → _) (lk_use hlk ?lk)
  case lk => k_is
  cases e
  clear hlk
  obtain ⟨ht0, ht1⟩ := tau_range ns
  k_with "pyIter ref" => skip
  repeat' ((fail_if_success (with_reducible show wpAny _ _ (pyIter (Value.ref _)) _ _ _)); (first | (k_unfold; (try dsimp only)) | (k_end; wrow_close) | walk1 | (dsimp only; walk1)))
  rename Fr _ _ _ _ => lF'
  rename News _ _ _ _ => lN'
  rename IsRange _ _ _ _ _ _ _ _ => rgX
  subst hsg
  with_unfolding_all refine' kst_range (σ := PySem.Obj × List (Int × Value) × List (Int × Int) × Int × Nat × Int × Nat) (fun c => [(d, c.1), (L + 1 + 1, oC), (told, instObj 526 td), (td, dictOf [⟨PyData.keyHash w.params (PySem.Str.ofString "parent"), .str (PySem.Str.ofString "parent") t1, .ref ring⟩, ⟨PyData.keyHash w.params (PySem.Str.ofString "coeffs"), .str (PySem.Str.ofString "coeffs") t2, .ref cl⟩] 2), (cl, PySem.W.listOf cvs.toArray ck), (306, tabObj p1), (599, tabObj p2)]) (fun c => [(PySem.Str.ofString "at", .int c.2.2.2.1 c.2.2.2.2.1), (PySem.Str.ofString "signs", .int c.2.2.2.2.2.1 c.2.2.2.2.2.2)]) (fun c => Obj.IsDictOf (PySem.intKind PySem.Challenge.rw_ji0010_02.row.prog w) c.1 c.2.1 ∧ PyProof.V.FlatPairs PyData.int c.2.1 (kdfD c.2.2.1)) [PySem.Str.ofString "place", PySem.Str.ofString "bit"] (fun pre c => 0 ≤ c.2.2.2.2.2.1 ∧ 8 ≤ c.2.2.2.1 ∧ c.2.2.2.1 ≤ 8 + 3 * (pre.length : Int) ∧ c.2.2.1.length ≤ 2 * pre.length ∧ DictEq (tauOf ns) ns pre c.2.2.1 c.2.2.2.2.2.1 c.2.2.2.1) (o, [], [], 8, ta, _, ts) (by rfl) rgX (small_one (by omega) (by omega) (by omega) (by omega)) (rangeSize_nat _ _) lF' lN' ⟨ho, hfp⟩ ?kk (ditto_start _ _) ?_ ?_
  case kk => kst_all
  all_goals clear lF' lN'
  · rintro ⟨o1, kvs1, c1, at1, ta1, sg1, ts1⟩ pre k t u h tk own hk hlt hoff ⟨hd1, hf1⟩ ⟨hs0, ha0, ha1, hc1, hE⟩ F1 N1
    dsimp only [kstB] at F1
    dsimp only at N1 hd1 hf1 hs0 ha0 ha1 hc1 hE hoff ⊢
    simp only [List.cons_append, List.nil_append] at N1
    have kMark : KstMark := kstMark
    try k_fold
    repeat' ((fail_if_success (with_reducible show wpAny _ _ (exec (Stmt.While _ _ _ _) _) _ _ _)); (first | (k_unfold; (try dsimp only)) | (k_end; wrow_close) | walk1 | (dsimp only; walk1) | (leave1; walk_say "STEP leave1"; try dsimp only) | fail "no step"))
    k_with "state" => first | exact scan_start | exact scan_turn (by omega) (by omega) (by omega) (by assumption) (by assumption) (by assumption) (by omega) | exact dict_turn_yes (by assumption) (by assumption) (by assumption) (by assumption) (by assumption) (by omega) (by omega) (by assumption) (by assumption) (by assumption) (by assumption) (by omega) (by assumption) (by assumption) | exact dict_turn_no (by assumption) (by assumption) (by assumption) (by assumption) (by assumption) (by omega) (by omega) (by assumption) (by assumption) (by assumption) (by assumption) (by omega) (by assumption) (by first | assumption | simp_all)
    k_while_given ["i", "at!"] (fun i a0 script at_ => a0 ≤ at_ ∧ at_ ≤ a0 + 2 ∧ (∀ p : Nat, a0.toNat ≤ p → p < at_.toNat → i < (octs script).getD p 0)) (fun i a0 script at_ => (a0 + 3 - at_).toNat) "at"
    k_steps
  · rintro ⟨o1, kvs1, c1, at1, ta1, sg1, ts1⟩ u h tk ⟨hd1, hf1⟩ ⟨hs0, ha0, ha1, hc1, hE⟩ F1 N1
    dsimp only [kstB] at F1
    dsimp only at N1 hd1 hf1 hs0 ha0 ha1 hc1 hE ⊢
    have kMark : KstMark := kstMark
    try k_fold
    k_steps
    rename Fr _ _ _ _ => lF'
    rename News _ _ _ _ => lN'
    exact EndTrue.mk' (decide_eq_true (last_eq hE hcs)) lF' lN' (by k_mem) (by k_mem)
end
end Mine
namespace Mine
section
/-! the ledger around a contract -/
theorem newsNil {g h : Heap} {L : Addr} : News g L h [] := fun _ hp => nomatch hp
theorem newsC {g h : Heap} {L : Addr} {p : Addr × PySem.Obj} {n : List (Addr × PySem.Obj)} (hp : h.get? p.1 = some p.2 ∧ p.1 ≠ L ∧ g.get? p.1 = none) (N : News g L h n) : News g L h (p :: n) := by
  intro q hq
  rcases List.mem_cons.mp hq with rfl | hq
  · exact hp
  · exact N q hq
theorem newsAt {g h : Heap} {L a : Addr} {o : PySem.Obj} {n : List (Addr × PySem.Obj)} (N : News g L h n) (hm : (a, o) ∈ n) : h.get? (a, o).1 = some (a, o).2 ∧ (a, o).1 ≠ L ∧ g.get? (a, o).1 = none := N _ hm
theorem news8 {g h : Heap} {L : Addr} {sx sd ring rd f c c1 T : Addr × PySem.Obj} {n : List (Addr × PySem.Obj)} (N : News g L h n) (h3 : ring ∈ n) (h4 : rd ∈ n) (h1 : sx ∈ n) (h2 : sd ∈ n) (h5 : f ∈ n) (h6 : c ∈ n) (h7 : c1 ∈ n) (h8 : T ∈ n) :
    News g L h [sx, sd, ring, rd, f, c, c1, T] := newsC (N _ h1) (newsC (N _ h2) (newsC (N _ h3) (newsC (N _ h4) (newsC (N _ h5) (newsC (N _ h6) (newsC (N _ h7) (newsC (N _ h8) newsNil)))))))
theorem news9 {g h : Heap} {L : Addr} {sx sd ring rd f c c3 c1 T : Addr × PySem.Obj} {n : List (Addr × PySem.Obj)} (N : News g L h n) (h3 : ring ∈ n) (h4 : rd ∈ n) (h1 : sx ∈ n) (h2 : sd ∈ n) (h5 : f ∈ n) (h6 : c ∈ n) (h9 : c3 ∈ n) (h7 : c1 ∈ n) (h8 : T ∈ n) :
    News g L h [sx, sd, ring, rd, f, c, c3, c1, T] := newsC (N _ h1) (newsC (N _ h2) (newsC (N _ h3) (newsC (N _ h4) (newsC (N _ h5) (newsC (N _ h6) (newsC (N _ h9) (newsC (N _ h7) (newsC (N _ h8) newsNil))))))))
theorem notinC {a b : Addr} {l : List Addr} (h : @Ne Nat a b) (hl : a ∉ l) : a ∉ b :: l := fun hm => (List.mem_cons.mp hm).elim (fun e => h e) hl
theorem keep8 {g h h' : Heap} {L a b1 b2 b3 b4 b5 b6 b7 b8 : Addr} {o : PySem.Obj} {n : List (Addr × PySem.Obj)} (N : News g L h n) (hm : (a, o) ∈ n) (keep : ∀ b o, h.get? b = some o → b ∉ [b1, b2, b3, b4, b5, b6, b7, b8] → h'.get? b = some o)
    (hne : (@Ne Nat a b1) ∧ (@Ne Nat a b2) ∧ (@Ne Nat a b3) ∧ (@Ne Nat a b4) ∧ (@Ne Nat a b5) ∧ (@Ne Nat a b6) ∧ (@Ne Nat a b7) ∧ (@Ne Nat a b8)) : h'.get? (a, o).1 = some (a, o).2 ∧ (a, o).1 ≠ L ∧ g.get? (a, o).1 = none := by
  obtain ⟨e1, e2, e3, e4, e5, e6, e7, e8⟩ := hne
  exact ⟨keep a o (N _ hm).1 (notinC e1 (notinC e2 (notinC e3 (notinC e4 (notinC e5 (notinC e6 (notinC e7 (notinC e8 (fun h => nomatch h)))))))) ), (N _ hm).2⟩
theorem keep9 {g h h' : Heap} {L a b1 b2 b3 b4 b5 b6 b7 b8 b9 : Addr} {o : PySem.Obj} {n : List (Addr × PySem.Obj)} (N : News g L h n) (hm : (a, o) ∈ n) (keep : ∀ b o, h.get? b = some o → b ∉ [b1, b2, b3, b4, b5, b6, b7, b8, b9] → h'.get? b = some o)
    (hne : (@Ne Nat a b1) ∧ (@Ne Nat a b2) ∧ (@Ne Nat a b3) ∧ (@Ne Nat a b4) ∧ (@Ne Nat a b5) ∧ (@Ne Nat a b6) ∧ (@Ne Nat a b7) ∧ (@Ne Nat a b8) ∧ (@Ne Nat a b9)) : h'.get? (a, o).1 = some (a, o).2 ∧ (a, o).1 ≠ L ∧ g.get? (a, o).1 = none := by
  obtain ⟨e1, e2, e3, e4, e5, e6, e7, e8, e9⟩ := hne
  exact ⟨keep a o (N _ hm).1 (notinC e1 (notinC e2 (notinC e3 (notinC e4 (notinC e5 (notinC e6 (notinC e7 (notinC e8 (notinC e9 (fun h => nomatch h)))))))) ) ), (N _ hm).2⟩
theorem fresh8 {g h : Heap} {L a cl b1 b2 b3 b4 b5 b6 b7 b8 : Addr} {o : PySem.Obj} {n : List (Addr × PySem.Obj)} (N : News g L h n) (hm : (a, o) ∈ n) (fr : ∀ b o, h.get? b = some o → b ∉ [b1, b2, b3, b4, b5, b6, b7, b8] → @Ne Nat b cl)
    (hne : (@Ne Nat a b1) ∧ (@Ne Nat a b2) ∧ (@Ne Nat a b3) ∧ (@Ne Nat a b4) ∧ (@Ne Nat a b5) ∧ (@Ne Nat a b6) ∧ (@Ne Nat a b7) ∧ (@Ne Nat a b8)) : @Ne Nat a cl := by
  obtain ⟨e1, e2, e3, e4, e5, e6, e7, e8⟩ := hne
  exact fr a o (N _ hm).1 (notinC e1 (notinC e2 (notinC e3 (notinC e4 (notinC e5 (notinC e6 (notinC e7 (notinC e8 (fun h => nomatch h)))))))))
theorem newsTail9 {g h : Heap} {L : Addr} {p : Addr × PySem.Obj} {n : List (Addr × PySem.Obj)} (N : News g L h (p :: n)) : News g L h n := fun q hq => N q (.tail _ hq)
theorem news6 {g : Heap} {L : Addr} {h : Heap} {n : List (Addr × PySem.Obj)} {a b c d e f : Addr × PySem.Obj} (N : News g L h n) (ha : a ∈ n) (hb : b ∈ n) (hc : c ∈ n) (hd : d ∈ n) (he : e ∈ n) (hf : f ∈ n) : News g L h [a, b, c, d, e, f] :=
  newsC (N _ ha) (newsC (N _ hb) (newsC (N _ hc) (newsC (N _ hd) (newsC (N _ he) (newsC (N _ hf) newsNil)))))
theorem news5' {g : Heap} {L : Addr} {h : Heap} {n : List (Addr × PySem.Obj)} {a b c d e : Addr × PySem.Obj} (N : News g L h n) (ha : a ∈ n) (hb : b ∈ n) (hc : c ∈ n) (hd : d ∈ n) (he : e ∈ n) : News g L h [a, b, c, d, e] :=
  newsC (N _ ha) (newsC (N _ hb) (newsC (N _ hc) (newsC (N _ hd) (newsC (N _ he) newsNil))))
end
end Mine
namespace Mine
section
theorem news7 {g : Heap} {L : Addr} {h : Heap} {n : List (Addr × PySem.Obj)} {a b c d e f i : Addr × PySem.Obj} (N : News g L h n) (ha : a ∈ n) (hb : b ∈ n) (hc : c ∈ n) (hd : d ∈ n) (he : e ∈ n) (hf : f ∈ n) (hi : i ∈ n) : News g L h [a, b, c, d, e, f, i] := by
  intro q hq
  simp only [List.mem_cons, List.not_mem_nil, or_false] at hq
  rcases hq with rfl | rfl | rfl | rfl | rfl | rfl | rfl
  · exact N _ ha
  · exact N _ hb
  · exact N _ hc
  · exact N _ hd
  · exact N _ he
  · exact N _ hf
  · exact N _ hi
theorem endTrue_shift {M : Model} {A : Around} {t : Sem Flow} {s : Shared} {g h1 : Heap} {L : Addr} {k1 : Nat}
    (h : wpAny M A t (EndTrue g L { s with heap := h1, toks := k1 }) (fun _ _ => False) { s with heap := h1, toks := k1 }) : wpAny M A t (EndTrue g L s) (fun _ _ => False) { s with heap := h1, toks := k1 } :=
  wpAny_mono h (fun _ _ x => x) fun _ _ x => x
local macro_rules | `(tactic| walk_at "call ref") => `(tactic| (k_here; (with_reducible show wpAny _ _ (call (Value.ref 301) _) _ _ _); k_dflt (refine' br_callN ?k1 ?k2 ?k3 ?k4 ?k5 ?k6 ?i0 ?i1 ?kd ?_; (case k1 => k_asm); (case k2 => k_asm); (case k3 => k_asm); (case k4 => k_asm); (case k5 => k_asm); (case k6 => first | exact rfl | assumption); (case i0 => first | assumption | omega); (case i1 => first | assumption | omega); (case kd => ktr_room)); intro t' h' k' hv0 hv1 F' N'))
local macro_rules | `(tactic| walk_at "call ref") => `(tactic| (k_here; (with_reducible show wpAny _ _ (call (Value.ref 597) _) _ _ _); k_dflt (refine' stream_callN ?k1 ?k2 ?k3 ?k4 ?k5 ?k6 ?kl ?ki ?kz ?kb ?ks ?i0 ?i1 ?kd ?_; (case k1 => k_asm); (case k2 => k_asm); (case k3 => k_asm); (case k4 => k_asm); (case k5 => k_asm); (case k6 => first | exact rfl | assumption); (case kl => k_asm); (case ki => assumption); (case kz => assumption); (case kb => kba_ints2); (case ks => first | assumption | (simp only [List.length_map, List.length_take, List.length_drop]; omega)); (case i0 => first | decide | omega); (case i1 => first | decide | omega); (case kd => ktr_room)); intro b5 t5 h5 k5 hb5 F' N'))
local macro_rules | `(tactic| walk_at "call ref") => `(tactic| (k_here; (with_reducible show wpAny _ _ (call (Value.ref _) [Value.bytes _ _, Value.str (Str.ofString "little") _]) _ _ _); kfb_any; k_dflt (refine fb_call (by k_asm) (by k_mem) (by kba_ints2) ?fbz ?_); (case fbz => (simp only [List.length_take, List.length_drop, List.length_map, str02_len]; omega)); intro _ _))
local macro_rules | `(tactic| walk_at "call builtin:pow") => `(tactic| (k_here; (with_reducible show wpAny _ _ (call (Value.builtin "pow") [Value.int _ _, Value.int (brVal _) _, Value.int _ _]) _ _ _); k_dflt (refine pow3 (pw_slot_pos (by assumption) _ _ _) ?_); intro _ _))
local macro_rules | `(tactic| walk_at "call builtin:pow") => `(tactic| (k_here; (with_reducible show wpAny _ _ (call (Value.builtin "pow") [Value.int 256 _, Value.int _ _, Value.int _ _]) _ _ _); k_dflt (refine pow3 (pw_slot_inv _ _ _) ?_); intro _ _))
local macro_rules | `(tactic| walk_at "eval IfExp") => `(tactic| (k_here; (rename IntsAre _ _ => hIa); k_dflt (refine mergeIfL hIa tauOf ?_ ?_); rotate_left; intro _ _; rotate_left))
local macro_rules | `(tactic| walk_at "MergeTo") => `(tactic| (with_unfolding_all first | exact MergeTo.mk' (tau_in (by first | omega | (simp_all; omega))) | exact MergeTo.mk' (tau_out (by first | omega | (simp_all; omega)))))
set_option maxHeartbeats 12000000 in
theorem law_body02 {w : World} {p : Program} {loose : List Str} {mean : ExcName → Option Value} {mg mb : Str → Option Value} {g : Heap} {L : Nat} {fa l : Addr} {s : Shared} {oL oS : Obj} {vs : List Value} {ns : List Int}
    {oc : Value} {od : Option Addr} {name qual : Str} {params : Arguments} {body : List Stmt} {scope : Scope} {dV kV doc pm ct : Value} {an : Option Addr} {osl : Array (Option Value)}
    (hlk : (Mine.hd.heap_39 w.params).lookup 602 = some ⟨oc, od, .func (fnOf name qual params body scope dV kV doc pm an (.ref 601) ct), osl⟩)
    (B : Below callerA g [] g) (X : (Mine.hd.heap_39 w.params).In g) (T : Top p loose mean mg mb g) (F : Fr g L s.heap (fun _ => none)) (N : News g L s.heap [(L + 1 + 1, oL), (L + 1, oS), (306, tabObj #[]), (599, tabObj #[])])
    (hcl : oL.data = .cell none) (hcs : oS.data = .cell (some (.ref l))) (lo : 306 < L ∧ 599 < L) (C1 : CodeHd g (308, 306).1 (308, 306).2) (C2 : CodeHd g (601, 599).1 (601, 599).2) (hl : g.IsList l vs.toArray) (hi : IntsAre vs ns) (hn : ns.length ≤ 63) :
    wpAny (model PySem.Challenge.rw_ji0010_02.row.prog w) (callerA.deeper (envOfC qual scope L fa (.ref 601))) (execs body (envOfC qual scope L fa (.ref 601))) (EndTrue g L s) (fun _ _ => False) s := by
  revert X; k_fill; intro X
  refine' ((fun e => ?_) : (_ : Obj) = _ → _) (lk_use hlk ?lk)
  case lk => k_is
  cases e
  clear hlk
  repeat' ((fail_if_success (with_reducible show wpAny _ _ (call (Value.ref 309) _) _ _ _)); (first | (k_unfold; (try dsimp only)) | (k_end; wrow_close) | walk1 | (dsimp only; walk1) | (leave1; walk_say "STEP leave1"; try dsimp only) | fail "no step"))
  rename Fr _ _ _ _ => lF
  rename News _ _ _ _ => lN
  refine' ball_call (hlk := ?lk) (hdef := ?df) ?aB ?aX ?aT ?al ?ai ?an ?aF (news8 ?aN ?m3 ?m4 ?m1 ?m2 ?m5 ?m6 ?m7 ?m8) ?hord ?hc1 ?hoc ?hcv ?C1 ?hsb ?ret
  case lk => k_is
  case df => exact rfl
  case aF => exact lF
  case aN => exact lN
  case aB => assumption
  case aX => assumption
  case aT => assumption
  case m3 => k_mem
  case m4 => k_mem
  case m1 => k_mem
  case m2 => k_mem
  case m5 => k_mem
  case m6 => k_mem
  case m7 => k_mem
  case m8 => k_mem
  case hord => omega
  case hc1 => assumption
  case al => assumption
  case ai => assumption
  case an => assumption
  case hoc => assumption
  case hcv => assumption
  case C1 => assumption
  case hsb => kba_ints2
  case ret =>
    intro told td cl cvs cs ck h5 tk5 a1 a2 ps F5 N5 hI5 hc5 ho5 fr5 keep5
    have e5a := fresh8 (a := L + 1 + 1) lN (by k_mem) fr5 (by omega)
    have e5b := fresh8 (a := 599) lN (by k_mem) fr5 (by omega)
    clear fr5
    have N6 := newsC (N5 _ (.head _)) (newsC (N5 _ (.tail _ (.head _))) (newsC (N5 _ (.tail _ (.tail _ (.head _)))) (newsC (N5 _ (.tail _ (.tail _ (.tail _ (.head _))))) (newsC (N5 _ (.tail _ (.tail _ (.tail _ (.tail _ (.head _)))))) (newsC (keep8 (a := L + 1 + 1) lN (by k_mem) keep5 (by omega)) (newsC (keep8 (a := 599) lN (by k_mem) keep5 (by omega)) newsNil))))))
    clear lF lN N5 keep5
    dsimp only at F5 N6 ⊢
    repeat' ((fail_if_success (with_reducible show wpAny _ _ (execs (Stmt.For _ _ _ _ _ :: _) _) _ _ _)); (first | (k_unfold; (try dsimp only)) | (k_end; wrow_close) | walk1 | (dsimp only; walk1) | (leave1; walk_say "STEP leave1"; try dsimp only) | fail "no step"))
    rename Fr _ _ _ _ => lF'
    rename News _ _ _ _ => lN'
    try dsimp only at lF' lN' ⊢
    refine endTrue_shift ?_
    refine' law_tail02 ?lk2 ?hst (by assumption) (by assumption) (by assumption) (by assumption) (by assumption) ?F ?N ?oc ?lo ?ho ?hf ?q1 ?q2 ?hb ?hs ?hv ?hc
    case lk2 => k_is
    case hst => exact rfl
    case F => exact lF'
    case oc => assumption
    case lo => assumption
    case ho => assumption
    case hf => assumption
    case hb => exact oct200_of (by assumption)
    case hs => exact rfl
    case hv => exact hI5
    case hc => exact hc5
    case N => exact news7 lN' (by k_mem) (by k_mem) (by k_mem) (by k_mem) (by k_mem) (by k_mem) (by k_mem)
    case q1 => omega
    case q2 => omega
end
end Mine
set_option maxHeartbeats 4000000 in
theorem PySem.Challenge.cw_ji0010_02_holds : PySem.Challenge.rw_ji0010_02.Holds := by
  refine Mine.hd ?_
  k_go0
  rename CellsAre _ _ _ => hC
  clear hC
  rename Fr _ _ _ _ => F'
  rename News _ _ _ _ => N'
  dsimp only at F' N' ⊢
  refine Mine.endTrue_of F' ?goal ?fin
  case fin =>
    clear F' N'
    rintro f s' ⟨h', tk, m', news', ps1, ps2, rfl, rfl, F', N', m1, m2⟩
    dsimp only
    refine ⟨?_, ?_⟩
    · wrow_close
    · exact ⟨GrownAt.of N' m1, GrownAt.of N' m2, True.intro⟩
  case goal =>
    rename Below _ _ _ _ => K'
    rename Frag.In _ _ => X'
    rename Heap.IsList _ _ _ => hl'
    rename IntsAre _ _ => hi'
    exact Mine.law_body02 (by k_is) K' X' (by assumption) F' N' (by assumption) (by assumption) (by assumption) (by assumption) (by assumption) (by assumption) hi' (by omega)
