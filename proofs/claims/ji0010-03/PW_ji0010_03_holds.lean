import PyProof.Rows.All
import Wide.All
import OpenK.AllK
import Wide.FinOn
import PySem.Challenge.RW_ji0010_03
open PySem PySem.W PyProof.Rows PySem.Calls
set_option Elab.async false
set_option maxRecDepth 100000
set_option compiler.extract_closed false
namespace Mine
section
section
variable {tb : String → Option Builtin} {p : Program} {w : World} {n₀ : Nat} {ann : Option Value}
def goOne (st : SharedT → Thread → Option (SharedT × Thread)) (ok : Thread → Bool) (x : SharedT × Thread) : Option (SharedT × Thread) :=
  match through x.2 with
  | true => some x
  | false => match ok x.2 with
    | true => st x.1 x.2
    | false => none
noncomputable def goPow (st : SharedT → Thread → Option (SharedT × Thread)) (ok : Thread → Bool) (k : Nat) : SharedT × Thread → Option (SharedT × Thread) :=
  @Nat.rec (fun _ => SharedT × Thread → Option (SharedT × Thread)) (goOne st ok)
    (fun _ ih x => @Option.rec (SharedT × Thread) (fun _ => Option (SharedT × Thread)) none (fun y => ih y) (ih x)) k

theorem goOne_spec {x y : SharedT × Thread} (h : goOne (stepT (denote tb) p w) (stepOk n₀ ann) x = some y) {N : Nat} {r : Shared}
    (k : topRun tb p w n₀ ann N y.1.abs y.2 = some r) : topRun tb p w n₀ ann (N + 1) x.1.abs x.2 = some r := by
  unfold goOne at h
  unfold topRun
  cases ht : through x.2 with
  | true =>
    rw [ht] at h
    cases h
    cases N with
    | zero => simp [topRun] at k
    | succ N => unfold topRun at k; rw [ht] at k; exact k
  | false =>
    rw [ht] at h
    cases hk : stepOk n₀ ann x.2 with
    | false => rw [hk] at h; cases h
    | true =>
      rw [hk] at h
      dsimp only at h ⊢
      rw [stepT_spec (t' := y.2) (s' := y.1) h]
      exact k
theorem goPow_spec : ∀ (k : Nat) {x y : SharedT × Thread}, goPow (stepT (denote tb) p w) (stepOk n₀ ann) k x = some y → ∀ {N : Nat} {r : Shared},
    topRun tb p w n₀ ann N y.1.abs y.2 = some r → topRun tb p w n₀ ann (N + 2 ^ k) x.1.abs x.2 = some r
  | 0, x, y, h, N, r, e => goOne_spec h e
  | k + 1, x, y, h, N, r, e => by
    have h' : @Option.rec (SharedT × Thread) (fun _ => Option (SharedT × Thread)) none (fun y => goPow (stepT (denote tb) p w) (stepOk n₀ ann) k y) (goPow (stepT (denote tb) p w) (stepOk n₀ ann) k x) = some y := h
    cases q : goPow (stepT (denote tb) p w) (stepOk n₀ ann) k x with
    | none => rw [q] at h'; cases h'
    | some z =>
      rw [q] at h'
      have := goPow_spec k q (goPow_spec k h' e)
      rw [show N + 2 ^ (k + 1) = N + 2 ^ k + 2 ^ k by rw [Nat.pow_succ]; omega]
      exact this
end

theorem left_of_T {p q : Program} {loose : List Str} {Xt : Shared → Bool} {α : Type} {Yf : Shared → α} {Ya : World → α} {N : Nat} {m₀ : Nat} {ann : Option Value} {k n : Nat} {B : Params → BT} {life : Life}
    (e : opening p = plainProg p.main.scope.names) (hN : Nat.ble 600 N = true) (f : ∀ s, fenceModules? p s = some s)
    (hB : ∀ P, boot_heap P = absHeap (B P) n life)
    (size : ∀ P, ((boot_heap P).isNs mainGlobals, (boot_heap P).objs.size, (boot_heap P).nsMap mainGlobals "__annotations__") = (true, m₀, ann))
    (le : Nat.ble (2 ^ k + 1) N = true)
    (run : ∀ (w : World) (os : OsState), (goPow (stepT (denote treeTable) p w) (stepOk m₀ ann) k (⟨B w.params, n, life, #[], boot_drawn, boot_toks, os⟩, topStub p)).map (fun y =>
        (through y.2, (staticsOk (importedModules p.main.body) (boot_heap w.params) y.1.abs.heap && namesBound p y.1.abs.heap && gensDone y.1.abs && laidKept (boot_heap w.params) y.1.abs.heap),
          openSeen q loose (importedModules p.main.body) Xt true y.1.abs, Yf y.1.abs)) = some (true, true, openGood q loose, Ya w)) : LeftO p q loose Xt Yf Ya N := fun w => by
  obtain ⟨⟨h, gs, d, t, os⟩, e1, e2⟩ := Option.map_eq_some_iff.mp (boot_open e hN f w)
  obtain ⟨rfl, rfl, rfl, rfl⟩ : h = boot_heap w.params ∧ gs = Array.mk [] ∧ d = boot_drawn ∧ t = boot_toks := by simpa using e2
  obtain ⟨z1, z2, z3⟩ : _ ∧ _ ∧ _ := by simpa only [Prod.mk.injEq] using size w.params
  obtain ⟨y, r1, r2⟩ := Option.map_eq_some_iff.mp (run w os)
  obtain ⟨l1, l2, l3, l4⟩ : _ ∧ _ ∧ _ ∧ _ := by simpa only [Prod.mk.injEq] using r2
  have t1 : topRun treeTable p w m₀ ann 1 y.1.abs y.2 = some y.1.abs := by unfold topRun; rw [l1]
  have r := topRun_mono (N - (2 ^ k + 1)) _ _ _ _ (goPow_spec k r1 t1)
  rw [show 1 + 2 ^ k + (N - (2 ^ k + 1)) = N by have := Nat.le_of_ble_eq_true le; omega] at r
  have r' : topRun treeTable p w m₀ ann N ⟨boot_heap w.params, Array.mk [], boot_drawn, boot_toks, os⟩ (topStub p) = some y.1.abs := by
    rw [hB w.params]; exact r
  have t : topFrom treeTable p w N ⟨boot_heap w.params, Array.mk [], boot_drawn, boot_toks, os⟩ = some y.1.abs := by
    unfold topFrom
    dsimp only
    rw [z1, z2, z3, r']
    show (match staticsOk (importedModules p.main.body) (boot_heap w.params) y.1.abs.heap && namesBound p y.1.abs.heap && gensDone y.1.abs && laidKept (boot_heap w.params) y.1.abs.heap with | true => _ | false => _) = _
    rw [l2]
  unfold openEnds
  rw [e1]
  show (topFrom treeTable p w N _).map _ = _
  rw [t]
  exact congrArg some (Prod.ext l3 l4)

def treeOf (l : List Obj) (n : Nat) : BT := (List.range n).foldl (fun t i => t.ins i (l.getD i default)) .nil
end
end Mine
namespace Mine3
def vw : Program := view PySem.Challenge.pw_ji0010_03 [0, 2, 3, 5, 7, 8, 9, 11, 12, 13, 14, 15, 16]
noncomputable def bootT (P : Params) : BT := Mine.treeOf (boot_heap P).objs.toList 11
theorem hB (P : Params) : boot_heap P = absHeap (bootT P) 11 {} := by kernel_rfl
theorem hsize (P : Params) : ((boot_heap P).isNs mainGlobals, (boot_heap P).objs.size, (boot_heap P).nsMap mainGlobals "__annotations__") = (true, 11, some (Value.ref 6)) := by kernel_rfl
theorem hopen : opening PySem.Challenge.pw_ji0010_03 = plainProg PySem.Challenge.pw_ji0010_03.main.scope.names := by kernel_rfl
theorem hfence (s : Shared) : fenceModules? PySem.Challenge.pw_ji0010_03 s = some s := by kernel_rfl
theorem htw (w : World) : stepT (denote treeTable) PySem.Challenge.pw_ji0010_03 w = PySem.W.Fast.tw10156331382660048174 (PySem.W.Fast.tw11892475500146522536 PySem.W.Fast.tw14364793385576792824) PySem.Challenge.pw_ji0010_03 w := by
  rw [PySem.W.Fast.te10156331382660048174, PySem.W.Fast.te11892475500146522536, PySem.W.Fast.te14364793385576792824]
theorem htk : stepOk 11 (some (Value.ref 6)) = PySem.W.Fast.tw6613529449190102663 11 (some (Value.ref 6)) := by rw [PySem.W.Fast.te6613529449190102663]
theorem hleft {α : Type} (Yf : Shared → α) (Ya : World → α)
    (run : ∀ (w : World) (os : OsState), (Mine.goPow (PySem.W.Fast.tw10156331382660048174 (PySem.W.Fast.tw11892475500146522536 PySem.W.Fast.tw14364793385576792824) PySem.Challenge.pw_ji0010_03 w) (PySem.W.Fast.tw6613529449190102663 11 (some (Value.ref 6))) 12 (⟨bootT w.params, 11, {}, #[], boot_drawn, boot_toks, os⟩, topStub PySem.Challenge.pw_ji0010_03)).map (fun y =>
        (through y.2, (staticsOk (importedModules PySem.Challenge.pw_ji0010_03.main.body) (boot_heap w.params) y.1.abs.heap && namesBound PySem.Challenge.pw_ji0010_03 y.1.abs.heap && gensDone y.1.abs && laidKept (boot_heap w.params) y.1.abs.heap),
          openSeen vw [PySem.Str.ofString "PolynomialRing", PySem.Str.ofString "Polynomial", PySem.Str.ofString "_law_near"] (importedModules PySem.Challenge.pw_ji0010_03.main.body) (fun s => xlAt vw [] s && recOk (RowW.records (OpenRow.toRowW PySem.Challenge.rw_ji0010_03.row)) s) true y.1.abs, Yf y.1.abs)) = some (true, true, openGood vw [PySem.Str.ofString "PolynomialRing", PySem.Str.ofString "Polynomial", PySem.Str.ofString "_law_near"], Ya w)) :
    LeftO PySem.Challenge.pw_ji0010_03 vw [PySem.Str.ofString "PolynomialRing", PySem.Str.ofString "Polynomial", PySem.Str.ofString "_law_near"] (fun s => xlAt vw [] s && recOk (RowW.records (OpenRow.toRowW PySem.Challenge.rw_ji0010_03.row)) s) Yf Ya 8166 :=
  Mine.left_of_T (k := 12) hopen (by decide) hfence hB hsize (by decide) (fun w os => by rw [htw, htk]; exact run w os)
local macro_rules | `(tactic| o_head $H) => `(tactic| (
  refine holds_open (q := vw) (loose := [PySem.Str.ofString "PolynomialRing", PySem.Str.ofString "Polynomial", PySem.Str.ofString "_law_near"]) (Xt := fun s => xlAt vw [] s && recOk (RowW.records (OpenRow.toRowW PySem.Challenge.rw_ji0010_03.row)) s) (XP := XL vw []) (Yf := Hook.obs $H) (Ya := Hook.val $H) (YP := Hook.says $H) (N := 8166) ?hl (Hook.of $H) (Hook.keeps $H) (fun s e => xl_of s (Bool.and_eq_true_iff.mp e).1) XL.keeps (by rfl) (by rfl) (by rfl) (fun s e => recFacts_of (Bool.and_eq_true_iff.mp e).2) (by rfl) (by first | assumption | decide +kernel) (by decide +kernel) ⟨rfl, rfl, rfl, rfl, rfl, by decide +kernel⟩ ?hw ?hc
  (case hl => exact hleft _ _ (fun w os => by kernel_rfl))))
theorem hsaid : OpenLaw.wellSaid PySem.Challenge.rw_ji0010_03 = true := by kernel_rfl
local macro_rules | `(tactic| o_law) => `(tactic| refine holds_law hsaid fun said => ?_)
set_option maxHeartbeats 8000000 in
open_top hd for PySem.Challenge.rw_ji0010_03
end Mine3
namespace Mine
section
local macro_rules | `(tactic| walk_at "call ref") => `(tactic| k_extra "call ref")
local macro_rules | `(tactic| walk_at "eval BinOp") => `(tactic| k_extra "eval BinOp")
local macro_rules | `(tactic| walk_at "binaryOp Mult int int") => `(tactic| k_extra "binaryOp Mult int int")
local macro_rules | `(tactic| walk_at "call builtin:int.to_bytes") => `(tactic| k_extra "call builtin:int.to_bytes")
local macro_rules | `(tactic| walk_at "eval IfExp") => `(tactic| k_extra "eval IfExp")
local macro_rules | `(tactic| walk_at "MergeTo") => `(tactic| k_extra "MergeTo")
local macro_rules | `(tactic| walk_at "binaryOp Add bytes bytes") => `(tactic| k_extra "binaryOp Add bytes bytes")
local macro_rules | `(tactic| walk_at "subscriptTail") => `(tactic| k_extra "subscriptTail")
local macro_rules | `(tactic| walk_at "call builtin:bin") => `(tactic| k_extra "call builtin:bin")
local macro_rules | `(tactic| walk_at "call builtin:str.zfill") => `(tactic| k_extra "call builtin:str.zfill")
local macro_rules | `(tactic| walk_at "call type:int") => `(tactic| k_extra "call type:int")
local macro_rules | `(tactic| walk_at "call builtin:list.append") => `(tactic| k_extra "call builtin:list.append")
local macro_rules | `(tactic| walk_at "inplaceOp LShift int int") => `(tactic| k_extra "inplaceOp LShift int int")
local macro_rules | `(tactic| walk_at "inplaceOp BitOr int int") => `(tactic| k_extra "inplaceOp BitOr int int")
local macro_rules | `(tactic| walk_at "getMethod ref") => `(tactic| k_extra "getMethod ref")
local macro_rules | `(tactic| walk_at "setAttr ref") => `(tactic| k_extra "setAttr ref")
local macro_rules | `(tactic| walk_at "WhlIf") => `(tactic| k_extra "WhlIf")
local macro_rules | `(tactic| walk_at "call builtin:pow") => `(tactic| k_extra "call builtin:pow")
local macro_rules | `(tactic| walk_at "KswEnd") => `(tactic| k_extra "KswEnd")
local macro_rules | `(tactic| walk_at "callWith ref") => `(tactic| k_extra "callWith ref")
local macro_rules | `(tactic| walk_at "inplaceOp BitAnd int int") => `(tactic| k_extra "inplaceOp BitAnd int int")
local macro_rules | `(tactic| walk_at "execs cons") => `(tactic| k_extra "execs cons")
section
/-- the end of a call that changes nothing that stood -/
def PureLeave (g : Heap) (R : Result → Shared → Prop) (v : Value) (s' : Shared) : Prop :=
  ∃ L' m', Fr g L' s'.heap m' ∧ ((∀ b o, g.get? b = some o → s'.heap.get? b = some o) → R (.ok (.ret v)) s')
theorem PureLeave.mk' {g : Heap} {R : Result → Shared → Prop} {v : Value} {s' : Shared} {L' : Addr} {m' : Str → Option Value} (F : Fr g L' s'.heap m') (k : (∀ b o, g.get? b = some o → s'.heap.get? b = some o) → R (.ok (.ret v)) s') : PureLeave g R v s' := ⟨L', m', F, k⟩

section
variable {prog : Program} {w : World} {A₀ A : Around} {s : Shared} {base h₀ : Heap} {outer : List Env} {L : Addr} {m : Str → Option Value} {env : Env} {K : Frag}
  {R : Result → Shared → Prop} {name qual : Str} {params : Arguments} {body : List Stmt} {scope : Scope} {dV kV doc pm cdv ct oc : Value} {an od : Option Addr} {osl : Array (Option Value)} {f : Addr} {args : Args} {binds : List (Str × Value)}
  {p : Program} {loose : List Str} {mean : ExcName → Option Value} {mg mb : Str → Option Value}
theorem code_pure (B : Below A₀ base outer h₀) (F : Fr h₀ L s.heap m) (X₀ : K.In h₀) (T : Top p loose mean mg mb h₀) (hA : A.frames = some (env :: outer)) (hf : env.frame = some L) (hke : env.scope.kind = .function)
    (ho : K.lookup f = some ⟨oc, od, .func (fnOf name qual params body scope dV kV doc pm an cdv ct), osl⟩) (hcd : codeIn K cdv qual = true) (hroom : A.depth < recursionLimit)
    (hbind : BindsTo s (fnOf name qual params body scope dV kV doc pm an cdv ct) args binds) (hloc : ∀ y ∈ binds, scope.names.lookup y.1 = some .local)
    (h : ∀ g L' h₁, g = s.heap → Fr g L' h₁ (fun y => binds.reverse.lookup y) → News g L' h₁ [] → Below A base (env :: outer) g → K.In g → Top p loose mean mg mb g →
      wpAny (model prog w) (A.deeper (envOf qual scope L' f cdv)) (execs body (envOf qual scope L' f cdv))
        (fun fl s' => PureLeave g R (match fl with | .ret v => v | _ => .none) s')
        (fun e s' => wpAny (model prog w) (A.deeper (envOf qual scope L' f cdv)) (leaving (envOf qual scope L' f cdv) e) (fun _ s'' => R (.error e) s'') (fun e' s'' => R (.error e') s'') s')
        { s with heap := h₁, toks := s.toks + binds.length })
    (hco : scope.isCoroutine = false) (hgen : scope.isGenerator = false) (hk : scope.kind = .function)
    (hcell : ∀ x ∈ scope.names, x.2 ≠ .cell) : codeAny (model prog w) A (.call (.ref f) args) R s := by
  obtain ⟨FG, BG, st, lv⟩ := groundX (R := R) B F (News.nil (h₀ := h₀) (L := L) (h := s.heap)) hA hf hke
  have X := X₀.keeps F.keep
  refine codeAny_call_def (fd := fnOf name qual params body scope dV kV doc pm an cdv ct) (body := body) (binds := binds) hroom (X _ _ ho) rfl (T.nolimit.keeps F.keep) (codeRec_of X hcd) rfl hbind hcell hloc (fun h₁ hns hk₁ => ?_) hco hgen hk
  refine wpAny_mono (h s.heap s.heap.objs.size h₁ rfl ⟨hns, fun b o e => hk₁ b o e, Nat.le_refl _⟩ News.nil BG X (T.keeps st)) (fun fl s' hl => ?_) fun _ _ y => y
  obtain ⟨L', m', F', k⟩ := hl
  exact k F'.keep
end
end
section
/-- the number that octets tell, the least one first -/
def leI : List Int → Int
  | [] => 0
  | d :: r => d + 256 * leI r
theorem value_snoc (l : List Int) (d : Int) : KFB.value (l ++ [d]) = KFB.value l * 256 + d := by
  unfold KFB.value
  rw [List.foldl_append]; rfl
theorem value_rev : ∀ l : List Int, KFB.value l.reverse = leI l
  | [] => rfl
  | d :: r => by
    rw [List.reverse_cons, value_snoc, value_rev r]
    show leI r * 256 + d = d + 256 * leI r
    omega

section
open Builtin
variable {prog : Program} {w : World} {M : Model} {A : Around} {E : Value → Shared → Prop} {s : Shared} {h₀ : Heap} {L : Addr} {news : List (Addr × Obj)}
theorem grown_big {n : Nat} {Q : Value → Shared → Prop} (hn : n < 2 ^ 40000) (h : Q (.int (n : Int) s.toks) { s with toks := s.toks + 1 }) : wpAny M A (mkIntGrown (n : Int)) Q E s := by
  unfold mkIntGrown
  have hl : ¬ ((n : Int).natAbs.log2 ≥ bitsLine) := by
    rw [Int.natAbs_natCast]
    have hb : bitsLine = 134217728 := by decide
    by_cases hz : n = 0
    · subst hz
      rw [hb]
      decide
    · have h1 := (Nat.log2_lt hz).mpr hn
      omega
  rw [if_neg hl]
  exact wpAny_mkInt h
theorem fb_tree {b : Array UInt8} {t u : Tok} {P : Fin → Shared → Prop} (hl : b.size ≤ 4096) (h : P (.done (.ret (.int (leI (KBw.bInts b)) s.toks))) { s with toks := s.toks + 1 }) :
    wpAny M A (Builtin.«int.from_bytes» ⟨[.type "int", .bytes b t, .str (PySem.Str.ofString "little") u], []⟩) P E s := by
  have hv : ((b.toList.reverse.foldl (fun (acc : Nat) (b : UInt8) => acc * 256 + b.toNat) 0 : Nat) : Int) = leI (KBw.bInts b) := by
    rw [KFB.fold_cast, List.map_reverse, ← value_rev]
    rfl
  have hn : b.toList.reverse.foldl (fun (acc : Nat) (b : UInt8) => acc * 256 + b.toNat) 0 < 2 ^ 40000 := by
    have h1 := KFB.fold_lt b.toList.reverse 0
    rw [Nat.zero_add, Nat.one_mul, List.length_reverse, Array.length_toList] at h1
    have e : (256 : Nat) = 2 ^ 8 := by decide
    rw [e, ← Nat.pow_mul] at h1
    exact Nat.lt_of_lt_of_le h1 (Nat.pow_le_pow_right (by decide) (by omega))
  unfold Builtin.«int.from_bytes»
  refine wpAny_bind (wpAny_of_eq (a := true) KFB.type_int ?_)
  refine KFB.if_not rfl ?_
  refine wpAny_bind (wpAny_of_eq (a := true) PySem.F.conv_sub_int ?_)
  refine KFB.if_not rfl ?_
  refine wpAny_bind (wpAny_of_eq (a := [some (.bytes b t), some (.str (PySem.Str.ofString "little") u), none]) (by kernel_rfl) ?_)
  refine wpAny_bind (wpAny_of_eq (a := PySem.Str.ofString "little") (by kernel_rfl) ?_)
  refine wpAny_bind (wpAny_of_eq (a := false) rfl ?_)
  refine wpAny_bind (wpAny_of_eq (a := true) (by kernel_rfl) ?_)
  refine wpAny_bind (wpAny_of_eq (a := b) rfl ?_)
  show wpAny _ _ (mkIntGrown (b.toList.reverse.foldl (fun (acc : Int) (b : UInt8) => acc * 256 + (b.toNat : Int)) ((0 : Nat) : Int)) >>= fun v => _) _ _ _
  rw [KFB.foldI_eq]
  refine wpAny_bind (grown_big hn ?_)
  rw [hv]
  refine KFB.if_so (by decide +kernel) ?_
  exact wpAny_bind (wpAny_pure (wpAny_pure h))
theorem fb_call {x : Addr} {b : Array UInt8} {t u : Tok} {ks : List Int} {Q : Value → Shared → Prop} (N : News h₀ L s.heap news) (hm : (x, KFB.bound) ∈ news) (hb : KBw.bInts b = ks) (hl : ks.length ≤ 4096)
    (h : ∀ t' k, Q (.int (leI ks) t') { s with toks := k }) : wpAny (model prog w) A (call (.ref x) [.bytes b t, .str (PySem.Str.ofString "little") u]) Q E s := by
  subst hb
  exact KFB.call_of (KFB.at_of N hm) (fun z => fb_tree (by rw [← KBw.ints_length]; exact hl) z) (h _ _)

open PySem.Builtin.Int (intBits) in
theorem tb_little {x : Int} {k : Nat} {t u v : Tok} {Q : Value → Shared → Prop} (hk : k ≤ 4096) (h0 : 0 ≤ x) (h1 : x < 256 ^ k) (h : ∀ (b : Array UInt8) t' k', KBw.bInts b = KTBy.little k x → Q (.bytes b t') { s with toks := k' }) :
    wpAny (model prog w) A (call (.builtin "int.to_bytes") [.int x t, .int (k : Int) u, .str (PySem.Str.ofString "little") v]) Q E s := by
  refine wpAny_call_entry KTBy.slot (typeIs_int s x t) KTBy.entry ?_ (KTBy.args _ _ _)
  have hb := KTBy.bits_le rfl h0 h1
  show wpAny _ _ (Builtin.Int.intOfSelf (.int x t) >>= fun y => _) _ _ s
  refine wpAny_bind (wpAny_of_eq (a := x) rfl ?_)
  show wpAny _ _ (Builtin.Int.intBindNamed "to_bytes" ["length", "byteorder", "signed"] 0 2 [.int (k : Int) u, .str (PySem.Str.ofString "little") v] [] >>= fun l => _) _ _ s
  refine wpAny_bind (wpAny_of_eq (a := [some (.int (k : Int) u), some (.str (PySem.Str.ofString "little") v), none]) (by kernel_rfl) ?_)
  show wpAny _ _ (Builtin.Int.intIndex "int.to_bytes" (.int (k : Int) u) >>= fun n => _) _ _ s
  refine wpAny_bind (wpAny_of_eq (a := (k : Int)) rfl ?_)
  refine KTBy.if_not (by show (decide ((k : Int) < -(2 ^ 63 : Int)) || decide ((k : Int) ≥ 2 ^ 63)) = false; rw [decide_eq_false (show ¬ ((k : Int) < -(2 ^ 63 : Int)) by omega), decide_eq_false (show ¬ ((k : Int) ≥ 2 ^ 63) by omega)]; rfl) ?_
  refine wpAny_bind (wpAny_of_eq (a := PySem.Str.ofString "little") (by kernel_rfl) ?_)
  refine wpAny_bind (wpAny_of_eq (a := false) rfl ?_)
  refine wpAny_bind (wpAny_of_eq (a := true) (by kernel_rfl) ?_)
  refine wpAny_ite_false (decide_eq_false (show ¬ ((k : Int) < 0) by omega)) ?_
  refine wpAny_ite_false (decide_eq_false (show ¬ ((k : Int) > 2 ^ 63 - 1 - 33) by omega)) ?_
  refine wpAny_ite_false (decide_eq_false (show ¬ ((k : Int) > (sizeLine : Int)) by rw [sizeLine_eq]; omega)) ?_
  refine KTBy.if_not (by show (decide (x < 0) && !false) = false; rw [decide_eq_false (show ¬ x < 0 by omega)]; rfl) ?_
  refine KTBy.if_not (by show (_ && decide ((intBits x : Int) > 8 * (k : Int))) = false; rw [decide_eq_false (show ¬ ((intBits x : Int) > 8 * (k : Int)) by omega), Bool.and_false]) ?_
  refine wpAny_bind (wpAny_mkBytes (wpAny_pure ⟨_, rfl, h _ _ _ ?_⟩) (by show (KTBy.low x (Int.toNat (k : Int))).length ≤ sizeLine; rw [KTBy.low_length, Int.toNat_natCast, sizeLine_eq]; omega))
  show (List.map (fun c : UInt8 => ((c.toNat : Nat) : Int)) (KTBy.low x (Int.toNat (k : Int)))) = KTBy.little k x
  rw [Int.toNat_natCast, KTBy.low_ints h0 h1, ← KTBy.little_eq]
end
end
section
open PySem.NumText
/-! br's text: bin, the cut, zfill, turned round -/
def revText (x : PySem.Str) : PySem.Str := ⟨((slicePicked x none none (some (-1, 0))).filterMap (x.cps[·]?)).toArray⟩
@[irreducible] def tx1 (i : Int) : PySem.Str := ⟨([48, 98] ++ (Nat.toDigits 2 i.natAbs).map Char.toNat).toArray⟩
theorem tx1_eq {i : Int} (h : 0 ≤ i) : baseText "0b" 2 i = tx1 i := by
  have e : (baseText "0b" 2 i).cps.toList = (tx1 i).cps.toList := by
    rw [baseText_nonneg h]
    unfold tx1
    rw [Str.cps_append, Str.cps_append, Array.toList_append, Array.toList_append, signs_ofString, signs_ofString, signs_ofString]
    have e0 : ("0b" : String).toList = ['0', 'b'] := by decide
    simp [String.toList_ofList, e0]
  have e2 : (baseText "0b" 2 i).cps = (tx1 i).cps := Array.ext' e
  exact Str.ext' e2
@[irreducible] def tx2 (i : Int) : PySem.Str := Txt.slice (tx1 i) (some 2) none
@[irreducible] def tx3 (i : Int) : PySem.Str := Txt.zfill (tx2 i) 8
@[irreducible] def tx4 (i : Int) : PySem.Str := revText (tx3 i)
noncomputable def numVal (x : int_private% "Numeral") : Int := (int_private% "Numeral.rec") (motive := fun _ => Int) (-1) (fun _ => -1) (-1) (fun i => i) x
theorem num_is (x : int_private% "Numeral") (h : 0 ≤ numVal x) : x = (int_private% "Numeral.value") (numVal x) := by
  cases x with
  | invalid => exact absurd h (by show ¬ (0 ≤ (-1 : Int)); decide)
  | tooLong d => exact absurd h (by show ¬ (0 ≤ (-1 : Int)); decide)
  | byTheLibrary => exact absurd h (by show ¬ (0 ≤ (-1 : Int)); decide)
  | value i => rfl
noncomputable def brv (i : Int) : Int := numVal ((int_private% "readNumeral") 0 2 ((tx4 i).cps.toList.takeWhile (· != 0)))
def bits8 (n : Nat) : List Nat := [48 + n % 2, 48 + n / 2 % 2, 48 + n / 4 % 2, 48 + n / 8 % 2, 48 + n / 16 % 2, 48 + n / 32 % 2, 48 + n / 64 % 2, 48 + n / 128 % 2]
theorem tx4_all : ∀ n : Nat, n < 256 → (tx4 (n : Int)).cps.toList = bits8 n := by decide +kernel
noncomputable def bitChk (n : Nat) : Bool := (bits8 n).all (· < 128) && (((bits8 n).takeWhile (· != 0)).length == (bits8 n).length) && decide (0 ≤ numVal ((int_private% "readNumeral") 0 2 ((bits8 n).takeWhile (· != 0)))) && decide (numVal ((int_private% "readNumeral") 0 2 ((bits8 n).takeWhile (· != 0))) < 256)
theorem bit_all : ∀ n : Nat, n < 256 → bitChk n = true := by decide +kernel
end
section
open PySem.NumText
structure Hid2 (p : Prop) : Prop where
  out : p
theorem wp_text2 {M : Model} {A : Around} {E : Value → Shared → Prop} {s : Shared} {Q : Value → Shared → Prop} {v : Value} {text : List Nat} {n : Int}
    (hs : (text.takeWhile (· != 0)).length ≤ 640) (hr : (int_private% "readNumeral") 0 2 (text.takeWhile (· != 0)) = (int_private% "Numeral.value") n)
    (ha : ((text.takeWhile (· != 0)).length == text.length) = true) (h : Q (.int n s.toks) { s with toks := s.toks + 1 }) :
    wpAny M A ((int_private% "intFromText") v text 2) Q E s := by
  obtain ⟨hp, g, d, tk, os⟩ := s
  repeat (any_goals (first
    | assumption
    | (with_reducible refine wpAny_ite_true (decide_eq_true hs) ?_)
    | (with_reducible refine wpAny_ite_true (decide_eq_true ha) ?_)
    | wp_step))
  all_goals (try rw [hr])
  all_goals (try dsimp only)
  repeat (any_goals (first
    | assumption
    | (with_reducible refine wpAny_ite_true (decide_eq_true hs) ?_)
    | (with_reducible refine wpAny_ite_true (decide_eq_true ha) ?_)
    | wp_step))
set_option maxHeartbeats 4000000 in
theorem gives_text2 {x : PySem.Str} {u v : Tok} {n : Int} (h8 : x.cps.all (· < 128) = true) (hs : (x.cps.toList.takeWhile (· != 0)).length ≤ 640) (hr : (int_private% "readNumeral") 0 2 (x.cps.toList.takeWhile (· != 0)) = (int_private% "Numeral.value") n)
    (ha : ((x.cps.toList.takeWhile (· != 0)).length == x.cps.toList.length) = true) : Gives (Builtin.«int.__new__» ⟨[.type "int", .str x u, .int 2 v], []⟩) (.int n) :=
  .of_wp fun M A E s Q h => by
    obtain ⟨hp, g, d, tk, os⟩ := s
    have f1 := F.conv_sub_int
    have f2 := F.madeHere_int
    have ft : (if x.cps.all (· < 128) then x.cps.toList else Unicode.numberText x.cps.toList) = x.cps.toList := by rw [if_pos h8]
    have hk := Hid2.mk (And.intro hs (And.intro hr ha))
    clear hs hr ha
    repeat (any_goals (first
      | assumption
      | ((with_reducible show wpAny _ _ ((int_private% "intFromText") _ _ _) _ _ _); (try rw [ft]); refine wp_text2 hk.out.1 hk.out.2.1 hk.out.2.2 ?_)
      | wp_step))
    all_goals first | exact ⟨_, rfl, h⟩ | skip
theorem typeCall_int2 (a b : Value) : checkTypeCall "int" ⟨[a, b], []⟩ = pure () := by kernel_rfl
theorem newCall_int2 (a b : Value) : checkBuiltinCall "int.__new__" ⟨[.type "int", a, b], []⟩ = pure () := by kernel_rfl
theorem args_init3 (a b c : Value) : argsOk "object.__init__" ⟨[a, b, c], []⟩ := by unfold argsOk; kernel_rfl
@[irreducible] noncomputable def brVal (i : Int) : Int := numVal ((int_private% "readNumeral") 0 2 ((tx4 i).cps.toList.takeWhile (· != 0)))
theorem tx4_ok {i : Int} (h0 : 0 ≤ i) (h1 : i < 256) : ∃ n : Int, (n = brVal i ∧ 0 ≤ n ∧ n < 256) ∧ (tx4 i).cps.all (· < 128) = true ∧ ((tx4 i).cps.toList.takeWhile (· != 0)).length ≤ 640 ∧ (int_private% "readNumeral") 0 2 ((tx4 i).cps.toList.takeWhile (· != 0)) = (int_private% "Numeral.value") n ∧ (((tx4 i).cps.toList.takeWhile (· != 0)).length == (tx4 i).cps.toList.length) = true := by
  obtain ⟨k, rfl⟩ := Int.eq_ofNat_of_zero_le h0
  have hk : k < 256 := by omega
  have e := tx4_all k hk
  have c := bit_all k hk
  unfold bitChk at c
  rw [← e] at c
  simp only [Bool.and_eq_true, decide_eq_true_eq] at c
  obtain ⟨⟨⟨c1, c2⟩, c3⟩, c4⟩ := c
  refine ⟨brVal _, ⟨rfl, ?_, ?_⟩, ?_, ?_, (by unfold brVal; exact num_is _ c3), c2⟩
  · unfold brVal; exact c3
  · unfold brVal; exact c4
  · rw [← Array.all_toList]; exact c1
  · rw [beq_iff_eq.mp c2, e]
    show 8 ≤ _
    decide
section
variable {prog : Program} {w : World} {A : Around} {E : Value → Shared → Prop} {s : Shared} {i : Int} {t u : Tok} {h₀ : Heap} {L : Addr} {m : PySem.Str → Option Value} {news : List (Addr × Obj)} {Q : Value → Shared → Prop} {x : PySem.Str}
theorem bin_byte (h0 : 0 ≤ i) (h1 : i < 256) (h : ∀ t' k, Q (.str (tx1 i) t') { s with toks := k }) : wpAny (model prog w) A (call (.builtin "bin") [.int (Builtin.bitAnd i (2 ^ Int.toNat 8 - 1)) t]) Q E s := by
  have e : Builtin.bitAnd i (2 ^ Int.toNat 8 - 1) = i := by
    show Builtin.bitAnd i 255 = i
    rw [bitAnd_m8]
    omega
  rw [e]
  refine P.bin_of_int (by rw [tx1_eq h0]; exact h _ _) ?_
  have h2 := (baseText_length "0b" 2 i).2
  have h3 : (PySem.Str.ofString "0b").length = 2 := by decide +kernel
  rw [sizeLine_eq]
  omega
theorem tx1_short (h0 : 0 ≤ i) (h1 : i < 256) : (tx1 i).length ≤ sizeLine := by
  rw [← tx1_eq h0, sizeLine_eq]
  have h2 := (baseText_length "0b" 2 i).2
  have h3 : (PySem.Str.ofString "0b").length = 2 := by decide +kernel
  omega
theorem cut2 {value slice : PySem.Expr} {u2 : Tok} (h0 : 0 ≤ i) (h1 : i < 256) (hF : Fr h₀ L s.heap m) (hN : News h₀ L s.heap news) (h : ∀ h' t' k, Fr h₀ L h' m → News h₀ L h' news → Q (.str (tx2 i) t') { s with heap := h', toks := k })
    (hs : subscripted slice false (.str (tx1 i) t) (.ref s.heap.objs.size) = operate [.ref s.heap.objs.size, .str (tx1 i) t] (getItem (.str (tx1 i) t) (.ref s.heap.objs.size)) := by with_unfolding_all rfl)
    (ht : ∀ r, letTemporaryGo value (.str (tx1 i) t) r = pure () := by intro _; with_unfolding_all rfl) :
    wpAny (model prog w) A (subscriptTail value slice (.str (tx1 i) t) (.ref s.heap.objs.size)) Q E { s with heap := s.heap.push { cls := .type "slice", data := .fields #[.int 2 u2, .none, .none] } } :=
  slice_strN_sn hF hN (by unfold tx2 at h; exact h) hs ht (tx1_short h0 h1)
theorem fill8 (h : ∀ t' k, Q (.str (tx3 i) t') { s with toks := k }) : wpAny (model prog w) A (call (.builtin "str.zfill") [.str (tx2 i) t, .int 8 u]) Q E s :=
  KXw.zfill (by unfold tx3; rfl) (by decide +kernel) h
theorem rev_slice {value slice : PySem.Expr} {u2 : Tok} (h0 : 0 ≤ i) (h1 : i < 256) (hF : Fr h₀ L s.heap m) (hN : News h₀ L s.heap news) (h : ∀ h' t' k, Fr h₀ L h' m → News h₀ L h' news → Q (.str (tx4 i) t') { s with heap := h', toks := k })
    (hs : subscripted slice false (.str (tx3 i) t) (.ref s.heap.objs.size) = operate [.ref s.heap.objs.size, .str (tx3 i) t] (getItem (.str (tx3 i) t) (.ref s.heap.objs.size)) := by with_unfolding_all rfl)
    (ht : ∀ r, letTemporaryGo value (.str (tx3 i) t) r = pure () := by intro _; with_unfolding_all rfl) :
    wpAny (model prog w) A (subscriptTail value slice (.str (tx3 i) t) (.ref s.heap.objs.size)) Q E { s with heap := s.heap.push { cls := .type "slice", data := .fields #[.none, .none, .int (-1) u2] } } := by
  refine tail_of_ItemOn ⟨"str", _, PySem.F.slot_str_getitem.lookup, typeIs_str _ _ _, wpAny_getItem_str_slice (l := none) (u := none) (st := some (-1, u2)) ⟨_, Heap.get?_push_size _ rfl, rfl, rfl⟩ rfl ?_⟩ hs ht
  have e : sliceMade (tx3 i) t none none (some (-1, u2)) = .str (tx4 i) := by
    unfold tx4 revText
    rfl
  rw [e]
  have hl : (tx4 i).length ≤ sizeLine := by
    obtain ⟨k, rfl⟩ := Int.eq_ofNat_of_zero_le h0
    have e := tx4_all k (by omega)
    show (tx4 _).cps.size ≤ sizeLine
    rw [← Array.length_toList, e, sizeLine_eq]
    show 8 ≤ _
    decide
  exact ⟨hl, h _ _ _ (hF.push _) (News.pushKeep hN _)⟩
theorem int2 (h0 : 0 ≤ i) (h1 : i < 256) (h : ∀ t' k, 0 ≤ brVal i → brVal i < 256 → Q (.int (brVal i) t') { s with toks := k }) : wpAny (model prog w) A (call (.type "int") [.str (tx4 i) t, .int 2 u]) Q E s := by
  obtain ⟨_, ⟨rfl, hn⟩, a1, a2, a3, a4⟩ := tx4_ok h0 h1
  exact callType_new F.called_int F.newNe_int (typeCall_int2 _ _) (newCall_int2 _ _) (fun obj => args_init3 obj _ _) F.entry_int_new (gives_text2 a1 a2 a3 a4).meets (show (Made.int (brVal i)).post _ s from ⟨rfl, h _ _ hn.1 hn.2⟩)
end
end
section
theorem pw_slot_pos {y : Int} (hy : 0 ≤ y) (t u v : Tok) : Gives (Builtin.«int.__pow__» ⟨[.int 1753 t, .int y u, .int 8380417 v], []⟩) (.int ((Builtin.powMod 1753 y.natAbs 8380417 : Nat) : Int)) :=
  .of_wp fun M A E s Q h => by
    obtain ⟨hp, g, d, tk, os⟩ := s
    have hn : ¬ (y < 0) := by omega
    generalize hz : Builtin.powMod 1753 y.natAbs 8380417 = z at h
    repeat (any_goals (first
      | assumption
      | (with_reducible refine wpAny_ite_false (decide_eq_false hn) ?_)
      | wp_step))
    have e : (if (decide ((8380417 : Int) < 0) && ((Builtin.powMod (1753 % ((Int.natAbs 8380417 : Nat) : Int)).toNat y.natAbs (Int.natAbs 8380417) : Nat) : Int) != 0) = true then
        ((Builtin.powMod (1753 % ((Int.natAbs 8380417 : Nat) : Int)).toNat y.natAbs (Int.natAbs 8380417) : Nat) : Int) - ((Int.natAbs 8380417 : Nat) : Int) else ((Builtin.powMod (1753 % ((Int.natAbs 8380417 : Nat) : Int)).toNat y.natAbs (Int.natAbs 8380417) : Nat) : Int)) = (z : Int) := by
      rw [if_neg (by rw [show decide ((8380417 : Int) < 0) = false from rfl]; exact Bool.false_ne_true), ← hz]
      rfl
    rw [e]
    exact ⟨_, rfl, h⟩
theorem pw_slot_inv (t u v : Tok) : Gives (Builtin.«int.__pow__» ⟨[.int 256 t, .int (-1) u, .int 8380417 v], []⟩) (.int 8347681) :=
  .of_wp fun M A E s Q h => by
    obtain ⟨hp, g, d, tk, os⟩ := s
    have e1 : Builtin.roomForPylong 256 ((Int.natAbs 8380417 : Nat) : Int) = pure () := by kernel_rfl
    have e2 : Builtin.roomForPylongsInverse (Int.natAbs 8380417) = pure () := by kernel_rfl
    have e3 : Builtin.euclid (2 * Builtin.Int.intBits 8380417 + 2) ((Int.natAbs 8380417 : Nat) : Int) (((256 % ((Int.natAbs 8380417 : Nat) : Int)).toNat : Nat) : Int) 0 1 = some (1, -32736) := by decide +kernel
    repeat (any_goals (first
      | assumption
      | (with_reducible refine wpAny_of_eq (by exact e1) ?_)
      | (with_reducible refine wpAny_of_eq (by exact e2) ?_)
      | (rw [e3])
      | wp_step))
    have h' : Q (.int 8347681 tk) { heap := hp, gens := g, drawn := d, toks := tk + 1, os := os } := h
    refine ⟨_, rfl, ?_⟩
    refine Eq.mpr (congrArg (fun z : Int => Q (Value.int z tk) _) ?_) h'
    decide +kernel
theorem slot_pow : PySem.Slot "int" (PySem.Str.ofString "__pow__") "int.__pow__" :=
  .of (owner := "int") (n := "__pow__") (by rw [typeLookup_type, builtinLookup_eq_fast]; kernel_rfl) (by decide +kernel) (by decide +kernel) (by decide +kernel)
    (by first | exact .inl (by decide +kernel) | exact .inr (by decide +kernel)) (by rw [isSubtype_type]; kernel_rfl)
theorem entry_pow : entryFor table "pow" = some Builtin.«pow» := entryFor_of_tree (by kernel_rfl)
theorem kind_pow : builtinKind "pow" = none := by decide +kernel
theorem plain_pow : plainId "pow" = true := by decide +kernel
theorem args_pow3 (a b c : Value) : argsOk "pow" ⟨[a, b, c], []⟩ := by unfold argsOk; kernel_rfl
theorem args_slot3 (a b c : Value) : argsOk "int.__pow__" ⟨[a, b, c], []⟩ := by unfold argsOk; kernel_rfl
section
variable {prog : Program} {w : World} {A : Around} {E : Value → Shared → Prop} {s : Shared} {x y m z : Int} {t u v : Tok} {Q : Value → Shared → Prop}
theorem pow3 (g : Gives (Builtin.«int.__pow__» ⟨[.int x t, .int y u, .int m v], []⟩) (.int z)) (h : ∀ t' k, Q (.int z t') { s with toks := k }) : wpAny (model prog w) A (call (.builtin "pow") [.int x t, .int y u, .int m v]) Q E s := by
  refine call_function_entry kind_pow plain_pow entry_pow (args_pow3 _ _ _) ?_
  unfold Builtin.«pow»
  refine wpAny_bind (wpAny_of_eq (a := [some (.int x t), some (.int y u), some (.int m v)]) (by kernel_rfl) ?_)
  refine wpAny_bind (wpAny_rule ?_)
  refine wpAny_bind (wpAny_typeOf (typeIs_int s x t) ?_)
  refine wpAny_bind (wpAny_of_eq slot_pow.lookup ?_)
  dsimp only
  refine wpAny_bind ?_
  have step : ∀ {QQ : Option Value → Shared → Prop}, wpAny (model prog w) A.in1 (call (.builtin "int.__pow__") [.int x t, .int y u, .int m v]) (fun v => QQ (some v)) E s → wpAny (model prog w) A.in1 (callSpecial? (.int x t) (PySem.Str.ofString "__pow__") [.int y u, .int m v]) QQ E s := fun {QQ} hc =>
    @wpAny_callSpecial?_slot (model prog w) A.in1 E s (.int x t) "int" (PySem.Str.ofString "__pow__") "int.__pow__" [.int y u, .int m v] [] QQ (typeIs_int s x t) slot_pow hc
  refine step ?_
  refine wpAny_mono (Q := fun r s' => r = .int z s.toks ∧ s' = { s with toks := s.toks + 1 }) (E := E) (call_gives slot_pow (typeIs_int s x t) PySem.F.entry_int_pow (args_slot3 _ _ _) g (And.intro rfl rfl)) ?_ fun _ _ e => e
  rintro r s' ⟨rfl, rfl⟩
  dsimp only
  refine wpAny_ite_true (by rfl) ?_
  exact wpAny_pure ⟨_, rfl, h _ _⟩
end
end
section
/-! the numbers that the stream's maker writes, as closed names -/
@[irreducible] def ris : Int := leI (List.map (fun k' => (37 * k' + 11).fmod 256) (rangeKs 0 ((32 : Int) - 0).toNat))
@[irreducible] def rep03 : Int := ((256 : Int) ^ Int.toNat 1682 - 1).fdiv ((256 : Int) ^ Int.toNat 29 - 1)
@[irreducible] def hb03 : Int := ((256 : Int) ^ Int.toNat 1728 - 1).fdiv ((256 : Int) ^ Int.toNat 6 - 1)
theorem ris_bits : Builtin.Int.intBits ris ≤ 64 * 5 := by decide +kernel
theorem rep03_bits : Builtin.Int.intBits rep03 ≤ 64 * 220 := by decide +kernel
theorem hb03_bits : Builtin.Int.intBits hb03 ≤ 64 * 220 := by decide +kernel
theorem hb03_pos : (0 : Int) ≤ hb03 := by decide +kernel
theorem hb03_top : (281474976710655 : Int) * hb03 < 256 ^ 1728 := by decide +kernel

section
variable {prog : Program} {w : World} {A : Around} {E : Value → Shared → Prop} {s : Shared} {env : Env} {Q : Value → Shared → Prop}
theorem const_int {i : Int} {k : Nat} {pos : Pos} (h : ∀ t k, Q (.int i t) { s with toks := k }) : wpAny (model prog w) A (eval (.Constant (.int i) k pos) env) Q E s := wpAny_Constant_int (h _ _)
theorem pow_lit {a n : Int} {k1 k2 : Nat} {p1 p2 p3 : Pos} (hn : 0 ≤ n) (hn2 : n ≤ 1000000) (ha : a.natAbs < 2 ^ 64) (h : ∀ t k, Q (.int (a ^ n.toNat) t) { s with toks := k }) :
    wpAny (model prog w) A (eval (.BinOp (.Constant (.int a) k1 p1) .Pow (.Constant (.int n) k2 p2) p3) env) Q E s :=
  wpAny_BinOp (const_int fun _ _ => const_int fun _ _ => pow_int_small hn hn2 ha (h _ _))
theorem pow1_lit {a n : Int} {k1 k2 k3 : Nat} {p1 p2 p3 p4 p5 : Pos} (hn : 0 ≤ n) (hn2 : n ≤ 1000000) (ha : a.natAbs < 2 ^ 64) (h : ∀ t k, Q (.int (a ^ n.toNat - 1) t) { s with toks := k }) :
    wpAny (model prog w) A (eval (.BinOp (.BinOp (.Constant (.int a) k1 p1) .Pow (.Constant (.int n) k2 p2) p3) .Sub (.Constant (.int 1) k3 p4) p5) env) Q E s :=
  wpAny_BinOp (pow_lit hn hn2 ha fun _ _ => const_int fun _ _ => sub_int (h _ _))
theorem rep_lit {a n b c z : Int} {k1 k2 k3 k4 k5 k6 : Nat} {p1 p2 p3 p4 p5 p6 p7 p8 p9 p10 p11 : Pos} (hn : 0 ≤ n) (hn2 : n ≤ 1000000) (ha : a.natAbs < 2 ^ 64) (hc : 0 ≤ c) (hc2 : c ≤ 1000000) (hb : b.natAbs < 2 ^ 64)
    (h0 : b ^ c.toNat - 1 ≠ 0) (hp : Builtin.divisionGoesByPylong (a ^ n.toNat - 1) (b ^ c.toNat - 1) = false) (hz : (a ^ n.toNat - 1).fdiv (b ^ c.toNat - 1) = z) (h : ∀ t k, Q (.int z t) { s with toks := k }) :
    wpAny (model prog w) A (eval (.BinOp (.BinOp (.BinOp (.Constant (.int a) k1 p1) .Pow (.Constant (.int n) k2 p2) p3) .Sub (.Constant (.int 1) k3 p4) p5) .FloorDiv (.BinOp (.BinOp (.Constant (.int b) k4 p6) .Pow (.Constant (.int c) k5 p7) p8) .Sub (.Constant (.int 1) k6 p9) p10) p11) env) Q E s := by
  subst hz
  exact wpAny_BinOp (pow1_lit hn hn2 ha fun _ _ => pow1_lit hc hc2 hb fun _ _ => floordiv_int h0 (h _ _) (.inl hp))
theorem held_lit {a n c z : Int} {k1 k2 k3 k4 : Nat} {p1 p2 p3 p4 p5 p6 p7 : Pos} (hn : 0 ≤ n) (hn2 : n ≤ 1000000) (ha : a.natAbs < 2 ^ 64)
    (h0 : c ≠ 0) (hp : Builtin.divisionGoesByPylong (a ^ n.toNat - 1) c = false) (hz : (a ^ n.toNat - 1).fdiv c = z) (h : ∀ t k, Q (.int z t) { s with toks := k }) :
    wpAny (model prog w) A (eval (.BinOp (.BinOp (.BinOp (.Constant (.int a) k1 p1) .Pow (.Constant (.int n) k2 p2) p3) .Sub (.Constant (.int 1) k3 p4) p5) .FloorDiv (.Constant (.int c) k4 p6) p7) env) Q E s := by
  subst hz
  exact wpAny_BinOp (pow1_lit hn hn2 ha fun _ _ => const_int fun _ _ => floordiv_int h0 (h _ _) (.inl hp))
theorem rep03_lit {k1 k2 k3 k4 k5 k6 : Nat} {p1 p2 p3 p4 p5 p6 p7 p8 p9 p10 p11 : Pos} (h : ∀ t k, Q (.int rep03 t) { s with toks := k }) :
    wpAny (model prog w) A (eval (.BinOp (.BinOp (.BinOp (.Constant (.int 256) k1 p1) .Pow (.Constant (.int 1682) k2 p2) p3) .Sub (.Constant (.int 1) k3 p4) p5) .FloorDiv (.BinOp (.BinOp (.Constant (.int 256) k4 p6) .Pow (.Constant (.int 29) k5 p7) p8) .Sub (.Constant (.int 1) k6 p9) p10) p11) env) Q E s :=
  rep_lit (by decide) (by decide) (by decide) (by decide) (by decide) (by decide) (by decide +kernel) (by first | decide +kernel | exact PyProof.noPylong_of_log2 (by decide +kernel)) (by unfold rep03; rfl) h
theorem hb03_lit {k1 k2 k3 k4 k5 k6 : Nat} {p1 p2 p3 p4 p5 p6 p7 p8 p9 p10 p11 : Pos} (h : ∀ t k, Q (.int hb03 t) { s with toks := k }) :
    wpAny (model prog w) A (eval (.BinOp (.BinOp (.BinOp (.Constant (.int 256) k1 p1) .Pow (.Constant (.int 1728) k2 p2) p3) .Sub (.Constant (.int 1) k3 p4) p5) .FloorDiv (.BinOp (.BinOp (.Constant (.int 256) k4 p6) .Pow (.Constant (.int 6) k5 p7) p8) .Sub (.Constant (.int 1) k6 p9) p10) p11) env) Q E s :=
  rep_lit (by decide) (by decide) (by decide) (by decide) (by decide) (by decide) (by decide +kernel) (by first | decide +kernel | exact PyProof.noPylong_of_log2 (by decide +kernel)) (by unfold hb03; rfl) h
theorem mul_ok {a b : Int} {t u : Tok} (ha : Builtin.Int.intBits a ≤ 20000) (hb : Builtin.Int.intBits b ≤ 20000) (h : ∀ t k, Q (.int (a * b) t) { s with toks := k }) : wpAny (model prog w) A (binaryOp .Mult (.int a t) (.int b u)) Q E s :=
  mul_int (h _ _) (IntMulOk.of_le ha hb (by decide))
end
/-! the stream -/
def mixOf (sd : List Int) : Int := sd.foldl (fun m o => m * 257 + o) 1
def firstOf (ns : List Int) : Int := ns.getD 1 5
def row03 (ns sd : List Int) : Int := firstOf ns + ris * (2 * (mixOf sd).fmod 65521 + 1) * rep03
def x03 (ns sd : List Int) (low : Int) : Int := Builtin.bitAnd (row03 ns sd) (low * hb03)
theorem held03_pos {low : Int} (h : 0 ≤ low) : 0 ≤ low * hb03 := Int.mul_nonneg h hb03_pos
theorem held03_lt {low : Int} (h : low ≤ 281474976710655) : low * hb03 < 256 ^ 1728 :=
  Int.lt_of_le_of_lt (Int.mul_le_mul_of_nonneg_right h hb03_pos) hb03_top
theorem x03_pos (ns sd : List Int) {low : Int} (h : 0 ≤ low) : 0 ≤ x03 ns sd low := (bitAnd_range _ (held03_pos h)).1
theorem x03_lt (ns sd : List Int) {low : Int} (h : 0 ≤ low) (h2 : low ≤ 281474976710655) : x03 ns sd low < 256 ^ 1728 := Int.lt_of_le_of_lt (bitAnd_range _ (held03_pos h)).2 (held03_lt h2)
def nearL : List Int := [8380416, 8380417, 8380418, 8388607, 16777215, 16769024, 0, 8388608]
def nearOf (n : Int) : List Int := KTBy.little 3 (nearL.getD (n.fmod 8).toNat 0)
def aheadOf (ns : List Int) : List Int := ns.flatMap nearOf
def body03 (ns sd : List Int) (low : Int) : List Int := KTBy.little 1728 (x03 ns sd low)
def str03 (ns sd : List Int) (low : Int) : List Int := (if low = 131941395333119 then aheadOf (List.take (min 13 ns.length - 5) (List.drop 5 ns)) else []) ++ body03 ns sd low
theorem body03_len (ns sd : List Int) (low : Int) : (body03 ns sd low).length = 1728 := KTBy.little_length _ _
theorem nearOf_len (n : Int) : (nearOf n).length = 3 := KTBy.little_length _ _
theorem aheadOf_len : ∀ ns : List Int, (aheadOf ns).length = 3 * ns.length
  | [] => rfl
  | n :: r => by
    have h : aheadOf (n :: r) = nearOf n ++ aheadOf r := by simp [aheadOf]
    rw [h, List.length_append, nearOf_len, aheadOf_len r, List.length_cons]
    omega
theorem str03_len (ns sd : List Int) (low : Int) : 1728 ≤ (str03 ns sd low).length ∧ (str03 ns sd low).length ≤ 1752 := by
  unfold str03
  rw [List.length_append, body03_len]
  split
  · rw [aheadOf_len, List.length_take, List.length_drop]
    omega
  · exact ⟨by simp, by simp⟩
theorem small_bits {x : Int} (h1 : -100000000 < x) (h2 : x < 100000000) : Builtin.Int.intBits x ≤ 64 := intBits_le_64 (by omega) (by omega)
theorem low_bits {x : Int} (h1 : 0 ≤ x) (h2 : x ≤ 281474976710655) : Builtin.Int.intBits x ≤ 20000 := Nat.le_trans (intBits_le_64 (by omega) (by omega)) (by decide)
theorem pre_bits (x : Int) : Builtin.Int.intBits (ris * (2 * x.fmod 65521 + 1)) ≤ 20000 := by
  have h1 := Int.fmod_nonneg_of_pos x (by decide : (0 : Int) < 65521)
  have h2 := Int.fmod_lt_of_pos x (by decide : (0 : Int) < 65521)
  exact Nat.le_trans (intBits_mul_le ris_bits (small_bits (x := 2 * x.fmod 65521 + 1) (by omega) (by omega))) (by decide)
end
section
/-! digits of a masked number -/
theorem and_digit_le (h z k : Nat) : (h &&& z) / 2 ^ k % 256 ≤ h / 2 ^ k % 256 := by
  rw [Nat.and_div_two_pow, show (256 : Nat) = 2 ^ 8 from rfl, Nat.and_mod_two_pow]
  exact Nat.and_le_left
theorem sub_and_digit_le (h z k : Nat) : (h - (h &&& z)) / 2 ^ k % 256 ≤ h / 2 ^ k % 256 := by
  have hc : (h &&& z) ≤ h := Nat.and_le_left
  have hm : (h &&& z) % 2 ^ k ≤ h % 2 ^ k := by rw [Nat.and_mod_two_pow]; exact Nat.and_le_left
  have hd : (h &&& z) / 2 ^ k = (h / 2 ^ k) &&& (z / 2 ^ k) := Nat.and_div_two_pow
  have e : (h - (h &&& z)) / 2 ^ k = h / 2 ^ k - (h &&& z) / 2 ^ k := by
    have hp : 0 < 2 ^ k := Nat.two_pow_pos k
    have h1 := Nat.div_add_mod h (2 ^ k)
    have h2 := Nat.div_add_mod (h &&& z) (2 ^ k)
    have hle : (h &&& z) / 2 ^ k ≤ h / 2 ^ k := Nat.div_le_div_right hc
    have h3 : h - (h &&& z) = 2 ^ k * (h / 2 ^ k - (h &&& z) / 2 ^ k) + (h % 2 ^ k - (h &&& z) % 2 ^ k) := by
      rw [Nat.mul_sub]
      have := Nat.mul_le_mul_left (2 ^ k) hle
      omega
    have h4 : h % 2 ^ k - (h &&& z) % 2 ^ k < 2 ^ k := Nat.lt_of_le_of_lt (Nat.sub_le _ _) (Nat.mod_lt h hp)
    rw [h3, Nat.mul_add_div hp, Nat.div_eq_of_lt h4, Nat.add_zero]
  rw [e, hd]
  generalize h / 2 ^ k = a
  generalize z / 2 ^ k = b
  have c1 : (a &&& b) ≤ a := Nat.and_le_left
  have c2 : (a &&& b) % 256 ≤ a % 256 := by
    rw [show (256 : Nat) = 2 ^ 8 from rfl, Nat.and_mod_two_pow]; exact Nat.and_le_left
  omega
theorem bitAnd_digit (r : Int) (h k : Nat) : Builtin.bitAnd r (h : Int) / 2 ^ k % 256 ≤ (h : Int) / 2 ^ k % 256 := by
  have p2 : ((2 : Int) ^ k) = ((2 ^ k : Nat) : Int) := by rw [Int.natCast_pow]; rfl
  rw [p2]
  unfold Builtin.bitAnd
  have hh : decide ((0 : Int) ≤ (h : Int)) = true := by simp
  rw [hh]
  by_cases hr : 0 ≤ r
  · rw [decide_eq_true hr]
    show ((r.toNat &&& (h : Int).toNat : Nat) : Int) / _ % 256 ≤ _
    rw [Int.toNat_natCast, Nat.and_comm]
    have := and_digit_le h r.toNat k
    exact_mod_cast this
  · rw [decide_eq_false hr]
    show ((h : Int) - (((h : Int).toNat &&& (Builtin.bitNot r).toNat : Nat) : Int)) / _ % 256 ≤ _
    rw [Int.toNat_natCast]
    generalize (Builtin.bitNot r).toNat = z
    have hc : (h &&& z) ≤ h := Nat.and_le_left
    have := sub_and_digit_le h z k
    rw [← Int.natCast_sub hc]
    exact_mod_cast this
theorem p256 (i : Nat) : (256 : Int) ^ i = 2 ^ (8 * i) := by
  rw [Int.pow_mul]; rfl

/-! the streams' octets -/
abbrev lowA : Int := 131941395333119
abbrev lowB : Int := 131941386420223
abbrev lowC : Int := 281474976710655
def heldA : Nat := (131941395333119 * hb03).toNat
def heldB : Nat := (131941386420223 * hb03).toNat
theorem heldA_eq : (131941395333119 * hb03 : Int) = (heldA : Int) := (Int.toNat_of_nonneg (held03_pos (by decide))).symm
theorem heldB_eq : (131941386420223 * hb03 : Int) = (heldB : Int) := (Int.toNat_of_nonneg (held03_pos (by decide))).symm
theorem heldA_dig : ∀ j : Nat, j < 288 → heldA / 2 ^ (8 * (6 * j + 5)) % 256 = 119 := by decide +kernel
theorem heldB_dig : ∀ j : Nat, j < 576 → heldB / 2 ^ (8 * (3 * j + 2)) % 256 = 119 := by decide +kernel
theorem body03_get (ns sd : List Int) (low : Int) (i : Nat) (hi : i < 1728) : (body03 ns sd low).getD i 0 = x03 ns sd low / 2 ^ (8 * i) % 256 := by
  unfold body03
  rw [KTBy.little_eq, ← p256]
  simp [List.getD, hi]
theorem little_in (n : Nat) (x : Int) : ∀ y ∈ KTBy.little n x, 0 ≤ y ∧ y < 256 := by
  intro y hy
  rw [KTBy.little_eq] at hy
  obtain ⟨i, _, rfl⟩ := List.mem_map.mp hy
  omega
theorem body03_maskA (ns sd : List Int) (j : Nat) (hj : j < 288) : (body03 ns sd lowA).getD (6 * j + 5) 0 ≤ 119 := by
  rw [body03_get _ _ _ _ (by omega)]
  unfold x03
  rw [heldA_eq]
  refine Int.le_trans (bitAnd_digit _ _ _) ?_
  have h := heldA_dig j hj
  have p2 : ((2 : Int) ^ (8 * (6 * j + 5))) = ((2 ^ (8 * (6 * j + 5)) : Nat) : Int) := by rw [Int.natCast_pow]; rfl
  rw [p2]
  have h2 : ((heldA / 2 ^ (8 * (6 * j + 5)) % 256 : Nat) : Int) = ((119 : Nat) : Int) := congrArg _ h
  rw [Int.natCast_emod, Int.natCast_ediv] at h2
  exact Int.le_of_eq h2
theorem and_digit_and (h z k : Nat) : (h &&& z) / 2 ^ k % 256 = (h / 2 ^ k % 256) &&& (z / 2 ^ k % 256) := by
  rw [Nat.and_div_two_pow, show (256 : Nat) = 2 ^ 8 from rfl, Nat.and_mod_two_pow]
theorem and119 : ∀ a : Nat, a < 256 → ((119 &&& a) % 16 ≤ 7 ∧ (119 &&& a) / 16 ≤ 7) := by decide +kernel
theorem sub119 : ∀ a : Nat, a < 256 → ((119 - (119 &&& a)) % 16 ≤ 7 ∧ (119 - (119 &&& a)) / 16 ≤ 7) := by decide +kernel
theorem sub_and_digit (h z k : Nat) : (h - (h &&& z)) / 2 ^ k % 256 = (h / 2 ^ k % 256) - ((h / 2 ^ k % 256) &&& (z / 2 ^ k % 256)) := by
  have hc : (h &&& z) ≤ h := Nat.and_le_left
  have hm : (h &&& z) % 2 ^ k ≤ h % 2 ^ k := by rw [Nat.and_mod_two_pow]; exact Nat.and_le_left
  have hd : (h &&& z) / 2 ^ k = (h / 2 ^ k) &&& (z / 2 ^ k) := Nat.and_div_two_pow
  have e : (h - (h &&& z)) / 2 ^ k = h / 2 ^ k - (h &&& z) / 2 ^ k := by
    have hp : 0 < 2 ^ k := Nat.two_pow_pos k
    have h1 := Nat.div_add_mod h (2 ^ k)
    have h2 := Nat.div_add_mod (h &&& z) (2 ^ k)
    have hle : (h &&& z) / 2 ^ k ≤ h / 2 ^ k := Nat.div_le_div_right hc
    have h3 : h - (h &&& z) = 2 ^ k * (h / 2 ^ k - (h &&& z) / 2 ^ k) + (h % 2 ^ k - (h &&& z) % 2 ^ k) := by
      rw [Nat.mul_sub]
      have := Nat.mul_le_mul_left (2 ^ k) hle
      omega
    have h4 : h % 2 ^ k - (h &&& z) % 2 ^ k < 2 ^ k := Nat.lt_of_le_of_lt (Nat.sub_le _ _) (Nat.mod_lt h hp)
    rw [h3, Nat.mul_add_div hp, Nat.div_eq_of_lt h4, Nat.add_zero]
  rw [e, hd]
  generalize h / 2 ^ k = a
  generalize z / 2 ^ k = b
  have e2 : (a &&& b) % 256 = (a % 256) &&& (b % 256) := by
    rw [show (256 : Nat) = 2 ^ 8 from rfl, Nat.and_mod_two_pow]
  have c1 : (a &&& b) ≤ a := Nat.and_le_left
  have c2 : (a &&& b) % 256 ≤ a % 256 := by rw [e2]; exact Nat.and_le_left
  rw [← e2]
  omega
theorem bitAnd_119 (r : Int) (h k : Nat) (hh : h / 2 ^ k % 256 = 119) : (Builtin.bitAnd r (h : Int) / 2 ^ k % 256) % 16 ≤ 7 ∧ (Builtin.bitAnd r (h : Int) / 2 ^ k % 256) / 16 ≤ 7 := by
  have p2 : ((2 : Int) ^ k) = ((2 ^ k : Nat) : Int) := by rw [Int.natCast_pow]; rfl
  rw [p2]
  unfold Builtin.bitAnd
  have hd : decide ((0 : Int) ≤ (h : Int)) = true := by simp
  rw [hd]
  by_cases hr : 0 ≤ r
  · rw [decide_eq_true hr]
    show (((r.toNat &&& (h : Int).toNat : Nat) : Int) / _ % 256) % 16 ≤ 7 ∧ (((r.toNat &&& (h : Int).toNat : Nat) : Int) / _ % 256) / 16 ≤ 7
    rw [Int.toNat_natCast, Nat.and_comm]
    have e := and_digit_and h r.toNat k
    rw [hh] at e
    have a := and119 (r.toNat / 2 ^ k % 256) (Nat.mod_lt _ (by decide))
    rw [← e] at a
    exact ⟨by exact_mod_cast a.1, by exact_mod_cast a.2⟩
  · rw [decide_eq_false hr]
    show (((h : Int) - (((h : Int).toNat &&& (Builtin.bitNot r).toNat : Nat) : Int)) / _ % 256) % 16 ≤ 7 ∧ (((h : Int) - (((h : Int).toNat &&& (Builtin.bitNot r).toNat : Nat) : Int)) / _ % 256) / 16 ≤ 7
    rw [Int.toNat_natCast]
    generalize (Builtin.bitNot r).toNat = z
    have hc : (h &&& z) ≤ h := Nat.and_le_left
    have e := sub_and_digit h z k
    rw [hh] at e
    have a := sub119 (z / 2 ^ k % 256) (Nat.mod_lt _ (by decide))
    rw [← e] at a
    rw [← Int.natCast_sub hc]
    exact ⟨by exact_mod_cast a.1, by exact_mod_cast a.2⟩
theorem body03_maskB (ns sd : List Int) (j : Nat) (hj : j < 576) : (body03 ns sd lowB).getD (3 * j + 2) 0 % 16 ≤ 7 ∧ (body03 ns sd lowB).getD (3 * j + 2) 0 / 16 ≤ 7 := by
  rw [body03_get _ _ _ _ (by omega)]
  unfold x03
  rw [heldB_eq]
  exact bitAnd_119 _ _ _ (heldB_dig j hj)
theorem str03_all (ns sd : List Int) (low : Int) : ∀ y ∈ str03 ns sd low, 0 ≤ y ∧ y < 256 := by
  intro y hy
  unfold str03 at hy
  rcases List.mem_append.mp hy with hy | hy
  · split at hy
    · obtain ⟨n, _, hn⟩ := List.mem_flatMap.mp hy
      exact little_in _ _ _ hn
    · exact absurd hy (by simp)
  · exact little_in _ _ _ hy
theorem getD_in {os : List Int} (h : ∀ y ∈ os, 0 ≤ y ∧ y < 256) (i : Nat) : 0 ≤ os.getD i 0 ∧ os.getD i 0 < 256 := by
  by_cases hi : i < os.length
  · have e : os.getD i 0 = os[i] := by simp [List.getD, hi]
    rw [e]
    exact h _ (List.getElem_mem hi)
  · rw [List.getD_eq_getElem?_getD, List.getElem?_eq_none (by omega)]
    decide
end
section
/-! kind 0: numbers of three octets -/
def thr (os : List Int) (p : Nat) : Int := os.getD (3 * p) 0 + 256 * os.getD (3 * p + 1) 0 + 65536 * (os.getD (3 * p + 2) 0).fmod 128
def TT (os : List Int) (p : Nat) : List Int := ((List.range p).map (thr os)).filter (fun x => decide (x < 8380417))
theorem TT_zero (os : List Int) : TT os 0 = [] := rfl
theorem TT_yes {os : List Int} {p : Nat} (h : thr os p < 8380417) : TT os (p + 1) = TT os p ++ [thr os p] := by
  unfold TT
  rw [List.range_succ, List.map_append, List.filter_append]
  simp [h]
theorem TT_no {os : List Int} {p : Nat} (h : ¬ thr os p < 8380417) : TT os (p + 1) = TT os p := by
  unfold TT
  rw [List.range_succ, List.map_append, List.filter_append]
  simp [h]
theorem TT_mono (os : List Int) (p : Nat) : ∀ d, ∃ r, TT os (p + d) = TT os p ++ r
  | 0 => ⟨[], by simp⟩
  | d + 1 => by
    obtain ⟨r, hr⟩ := TT_mono os p d
    by_cases h : thr os (p + d) < 8380417
    · exact ⟨r ++ [thr os (p + d)], by rw [← Nat.add_assoc, TT_yes h, hr, List.append_assoc]⟩
    · exact ⟨r, by rw [← Nat.add_assoc, TT_no h, hr]⟩
theorem TT_uniq {os : List Int} {p p' n : Nat} (h : (TT os p).length = n) (h' : (TT os p').length = n) : TT os p = TT os p' := by
  rcases Nat.le_total p p' with c | c
  · obtain ⟨r, hr⟩ := TT_mono os p (p' - p)
    rw [show p + (p' - p) = p' by omega] at hr
    have hl := congrArg List.length hr
    rw [List.length_append, h, h'] at hl
    have : r = [] := List.eq_nil_of_length_eq_zero (by omega)
    rw [hr, this, List.append_nil]
  · obtain ⟨r, hr⟩ := TT_mono os p' (p - p')
    rw [show p' + (p - p') = p by omega] at hr
    have hl := congrArg List.length hr
    rw [List.length_append, h, h'] at hl
    have : r = [] := List.eq_nil_of_length_eq_zero (by omega)
    rw [hr, this, List.append_nil]
/-- enough numbers come: of any stream that lets each second number pass -/
def Flows (os : List Int) : Prop := ∀ p : Nat, p ≤ 570 → p ≤ 9 + 2 * (TT os p).length
theorem flows_of {os : List Int} {ka : Nat} (hk : ka ≤ 8) (h : ∀ j, j < 288 → thr os (ka + 2 * j + 1) < 8380417) : Flows os := by
  have key : ∀ r : Nat, r ≤ 570 → r / 2 ≤ (TT os (ka + r)).length := by
    intro r
    induction r with
    | zero => intro _; omega
    | succ r ih =>
      intro hr
      have h1 := ih (by omega)
      by_cases c : thr os (ka + r) < 8380417
      · rw [← Nat.add_assoc, TT_yes c, List.length_append, List.length_singleton]
        omega
      · rw [← Nat.add_assoc, TT_no c]
        by_cases e : r % 2 = 1
        · have := h (r / 2) (by omega)
          rw [show ka + 2 * (r / 2) + 1 = ka + r by omega] at this
          exact absurd this c
        · omega
  intro p hp
  by_cases c : p ≤ ka
  · omega
  · have := key (p - ka) (by omega)
    rw [show ka + (p - ka) = p by omega] at this
    omega
theorem thr_lt {os : List Int} (ho : ∀ y ∈ os, 0 ≤ y ∧ y < 256) {p : Nat} (h : os.getD (3 * p + 2) 0 ≤ 119) : thr os p < 8380417 := by
  have h0 := getD_in ho (3 * p)
  have h1 := getD_in ho (3 * p + 1)
  have h2 := getD_in ho (3 * p + 2)
  unfold thr
  have e : (os.getD (3 * p + 2) 0).fmod 128 = os.getD (3 * p + 2) 0 := by
    rw [Int.fmod_eq_emod_of_nonneg _ (by decide)]
    omega
  rw [e]
  omega
theorem flowsA (ns sd : List Int) : Flows (str03 ns sd lowA) := by
  refine flows_of (ka := (List.take (min 13 ns.length - 5) (List.drop 5 ns)).length) (by rw [List.length_take, List.length_drop]; omega) fun j hj => thr_lt (str03_all _ _ _) ?_
  have hm := body03_maskA ns sd j hj
  unfold str03
  rw [if_pos rfl]
  have hl := aheadOf_len (List.take (min 13 ns.length - 5) (List.drop 5 ns))
  rw [List.getD_eq_getElem?_getD, List.getElem?_append_right (by omega), ← List.getD_eq_getElem?_getD]
  rw [show 3 * ((List.take (min 13 ns.length - 5) (List.drop 5 ns)).length + 2 * j + 1) + 2 - (aheadOf (List.take (min 13 ns.length - 5) (List.drop 5 ns))).length = 6 * j + 5 by omega]
  exact hm
def thrI (os : List Int) (a : Int) : Int := os.getD a.toNat 0 + 256 * os.getD (a + 1).toNat 0 + 65536 * (os.getD (a + 2).toNat 0).fmod 128
def ThrEq (os found : List Int) (a : Int) : Prop := ∃ p : Nat, a = 3 * (p : Int) ∧ found = TT os p
theorem thrI_eq {os : List Int} (p : Nat) : thrI os (3 * (p : Int)) = thr os p := by
  unfold thrI thr
  rw [show (3 * (p : Int)).toNat = 3 * p by omega, show (3 * (p : Int) + 1).toNat = 3 * p + 1 by omega, show (3 * (p : Int) + 2).toNat = 3 * p + 2 by omega]
theorem thr_start (os : List Int) : (0 : Int) ≤ 0 ∧ (0 : Int) ≤ 27 + 6 * (([] : List Int).length : Int) ∧ ([] : List Int).length ≤ 256 ∧ ThrEq os [] 0 := ⟨by decide, by decide, by decide, 0, rfl, rfl⟩
theorem thr_room {os found : List Int} {a : Int} (hf : Flows os) (h : ThrEq os found a) (ha : a ≤ 1710) : a ≤ 27 + 6 * (found.length : Int) := by
  obtain ⟨p, rfl, rfl⟩ := h
  have := hf p (by omega)
  omega
theorem thr_yes {os found : List Int} {a x : Int} (hf : Flows os) (h : ThrEq os found a) (ha : a ≤ 27 + 6 * (found.length : Int)) (h0 : 0 ≤ a) (hx : x = thrI os a) (hl : (found.length : Int) < 256) (hq : x < 8380417) :
    0 ≤ a + 3 ∧ a + 3 ≤ 27 + 6 * ((found ++ [x]).length : Int) ∧ (found ++ [x]).length ≤ 256 ∧ ThrEq os (found ++ [x]) (a + 3) := by
  have e : ThrEq os (found ++ [x]) (a + 3) := by
    obtain ⟨p, rfl, rfl⟩ := h
    rw [thrI_eq] at hx
    subst hx
    exact ⟨p + 1, by omega, (TT_yes hq).symm⟩
  refine ⟨by omega, thr_room hf e (by omega), ?_, e⟩
  rw [List.length_append, List.length_singleton]
  omega
theorem thr_no {os found : List Int} {a x : Int} (hf : Flows os) (h : ThrEq os found a) (ha : a ≤ 27 + 6 * (found.length : Int)) (h0 : 0 ≤ a) (hx : x = thrI os a) (hl : (found.length : Int) < 256) (hq : ¬ x < 8380417) :
    0 ≤ a + 3 ∧ a + 3 ≤ 27 + 6 * (found.length : Int) ∧ found.length ≤ 256 ∧ ThrEq os found (a + 3) := by
  have e : ThrEq os found (a + 3) := by
    obtain ⟨p, rfl, rfl⟩ := h
    rw [thrI_eq] at hx
    subst hx
    exact ⟨p + 1, by omega, (TT_no hq).symm⟩
  exact ⟨by omega, thr_room hf e (by omega), by omega, e⟩
theorem mask23 {os : List Int} (ho : ∀ y ∈ os, 0 ≤ y ∧ y < 256) (a b c : Nat) : (leI [os.getD a 0, os.getD b 0, os.getD c 0]).fmod 8388608 = os.getD a 0 + 256 * os.getD b 0 + 65536 * (os.getD c 0).fmod 128 := by
  have h0 := getD_in ho a
  have h1 := getD_in ho b
  have h2 := getD_in ho c
  show (os.getD a 0 + 256 * (os.getD b 0 + 256 * (os.getD c 0 + 256 * 0))).fmod 8388608 = _
  rw [Int.fmod_eq_emod_of_nonneg _ (by decide), Int.fmod_eq_emod_of_nonneg _ (by decide)]
  omega

/-! kinds 1 and 2: half octets -/
def half (eta h : Int) : List Int := if eta = 2 then (if h < 15 then [2 - h.fmod 5] else []) else (if h < 9 then [4 - h] else [])
def HH (eta o : Int) : List Int := half eta (o.fmod 16) ++ half eta (o.fdiv 16)
def Hs (eta : Int) (os : List Int) : List Int := os.flatMap (HH eta)
theorem Hs_snoc (eta : Int) (os : List Int) (o : Int) : Hs eta (os ++ [o]) = Hs eta os ++ HH eta o := by simp [Hs]
theorem half_len (eta h : Int) : (half eta h).length ≤ 1 := by
  unfold half; (repeat' split) <;> simp
theorem HH_len (eta o : Int) : (HH eta o).length ≤ 2 := by
  unfold HH
  have h1 := half_len eta (o.fmod 16)
  have h2 := half_len eta (o.fdiv 16)
  rw [List.length_append]
  omega
theorem Hs_len (eta : Int) : ∀ os : List Int, (Hs eta os).length ≤ 2 * os.length
  | [] => by simp [Hs]
  | o :: r => by
    have h : Hs eta (o :: r) = HH eta o ++ Hs eta r := by simp [Hs]
    have h1 := HH_len eta o
    have h2 := Hs_len eta r
    rw [h, List.length_append, List.length_cons]
    omega
theorem half_one {eta h : Int} (hh : h ≤ 7) : (half eta h).length = 1 := by
  unfold half
  split
  · rw [if_pos (by omega)]; rfl
  · rw [if_pos (by omega)]; rfl
theorem HH_two {eta o : Int} (h1 : o % 16 ≤ 7) (h2 : o / 16 ≤ 7) : (HH eta o).length = 2 := by
  unfold HH
  rw [List.length_append, half_one (by rw [Int.fmod_eq_emod_of_nonneg _ (by decide)]; exact h1), half_one (by rw [Int.fdiv_eq_ediv_of_nonneg _ (by decide)]; exact h2)]
def FlowsH (eta : Int) (os : List Int) : Prop := ∀ n : Nat, n ≤ 390 → 2 * (n / 3) ≤ (Hs eta (os.take n)).length
theorem take_snoc {os : List Int} {n : Nat} (h : n < os.length) : os.take (n + 1) = os.take n ++ [os.getD n 0] := by
  rw [List.take_add_one]
  simp [List.getD, h]
theorem flowsB (eta : Int) (ns sd : List Int) : FlowsH eta (str03 ns sd lowB) := by
  have hb : str03 ns sd lowB = body03 ns sd lowB := by
    unfold str03
    rw [if_neg (by decide), List.nil_append]
  rw [hb]
  intro n
  induction n with
  | zero => intro _; simp
  | succ n ih =>
    intro hn
    have h1 := ih (by omega)
    rw [take_snoc (by rw [body03_len]; omega), Hs_snoc, List.length_append]
    by_cases c : n % 3 = 2
    · have hm := body03_maskB ns sd (n / 3) (by omega)
      rw [show 3 * (n / 3) + 2 = n by omega] at hm
      rw [HH_two hm.1 hm.2]
      omega
    · omega
/-- what stands in the list of numbers -/
def Wd (l : List Int) : List Int := l.take 256 ++ List.replicate (256 - l.length) 0
theorem Wd_len (l : List Int) : (Wd l).length = 256 := by
  unfold Wd
  rw [List.length_append, List.length_take, List.length_replicate]
  omega
theorem Wd_push {l : List Int} {x : Int} (h : l.length < 256) : (Wd l).set l.length x = Wd (l ++ [x]) := by
  unfold Wd
  rw [List.take_of_length_le (by omega), List.take_of_length_le (by rw [List.length_append, List.length_singleton]; omega), List.length_append, List.length_singleton]
  rw [List.set_append_right _ _ (Nat.le_refl _), Nat.sub_self]
  rw [show 256 - l.length = (256 - (l.length + 1)) + 1 by omega, List.replicate_succ, List.set_cons_zero, List.append_assoc]
  rfl
theorem Wd_full {l r : List Int} (h : 256 ≤ l.length) : Wd (l ++ r) = Wd l := by
  unfold Wd
  rw [List.take_append_of_le_length h, List.length_append, show 256 - (l.length + r.length) = 0 by omega, show 256 - l.length = 0 by omega]
theorem Wd_done {l : List Int} (h : 256 ≤ l.length) : Wd l = l.take 256 := by
  unfold Wd
  rw [show 256 - l.length = 0 by omega]
  simp
/-- the state of the bounded sampling -/
structure BdEq (eta : Int) (os cs : List Int) (i a : Int) : Prop where
  e1 : i = ((min 256 (Hs eta (os.take a.toNat)).length : Nat) : Int)
  e2 : cs = Wd (Hs eta (os.take a.toNat))
theorem bd_room {eta : Int} {os cs : List Int} {i a : Int} (hf : FlowsH eta os) (h : BdEq eta os cs i a) (h0 : 0 ≤ a) (ha : a ≤ 390) (hi : i < 256) : a < 384 := by
  have h1 := hf a.toNat (by omega)
  have h2 := h.e1
  omega
theorem bd_done {eta : Int} {os cs : List Int} {i a : Int} (h : BdEq eta os cs i a) (h0 : 0 ≤ a) (ha : a ≤ 390) (hi : ¬ i < 256) (ho : 390 ≤ os.length) : cs = (Hs eta (os.take 390)).take 256 := by
  have h1 := h.e1
  have hl : 256 ≤ (Hs eta (os.take a.toNat)).length := by omega
  rw [h.e2, Wd_done hl]
  have e : os.take 390 = os.take a.toNat ++ (os.drop a.toNat).take (390 - a.toNat) := by
    rw [← List.take_add]
    congr 1
    omega
  rw [e]
  unfold Hs at hl ⊢
  rw [List.flatMap_append, List.take_append_of_le_length hl]
theorem half_yes2 {eta h : Int} (e : eta = 2) (c : h < 15) : [2 - h.fmod 5] = half eta h := by unfold half; rw [if_pos e, if_pos c]
theorem half_no2 {eta h : Int} (e : eta = 2) (c : ¬ h < 15) : [] = half eta h := by unfold half; rw [if_pos e, if_neg c]
theorem half_yes4 {eta h : Int} (e : eta = 4) (c : h < 9) : [4 - h] = half eta h := by unfold half; rw [if_neg (by omega), if_pos c]
theorem half_no4 {eta h : Int} (e : eta = 4) (c : ¬ h < 9) : [] = half eta h := by unfold half; rw [if_neg (by omega), if_neg c]
end
section
theorem fb_ris {prog : Program} {w : World} {A : Around} {E : Value → Shared → Prop} {s : Shared} {h₀ : Heap} {L : Addr} {news : List (Addr × Obj)} {x : Addr} {b : Array UInt8} {t u : Tok} {Q : Value → Shared → Prop} (N : News h₀ L s.heap news) (hm : (x, KFB.bound) ∈ news)
    (hb : KBw.bInts b = List.map (fun k' => (37 * k' + 11).fmod 256) (rangeKs 0 ((32 : Int) - 0).toNat))
    (h : ∀ t' k, Q (.int ris t') { s with toks := k }) : wpAny (model prog w) A (call (.ref x) [.bytes b t, .str (PySem.Str.ofString "little") u]) Q E s :=
  fb_call N hm hb (by simp only [List.length_map, rangeKs_length]; decide) (by unfold ris at h; exact h)
def MergeTo (x : Int) (s : Shared) (v : Value) (s' : Shared) : Prop := ∃ t k, v = .int x t ∧ s' = { s with toks := k }
theorem mergeIf {M : Model} {A : Around} {E : Value → Shared → Prop} {s : Shared} {env : Env} {test body orelse : PySem.Expr} {pos : Pos} {Q : Value → Shared → Prop} (x : Int)
    (h : wpAny M A (isTrue test env (eval test env)) (fun c s₂ => if c then wpAny M A (eval body env) (MergeTo x s) E s₂ else wpAny M A (eval orelse env) (MergeTo x s) E s₂) E s)
    (hq : ∀ t k, Q (.int x t) { s with toks := k }) : wpAny M A (eval (.IfExp test body orelse pos) env) Q E s :=
  wpAny_mono (IfExp_ h) (fun _ _ ⟨t, k, e, e'⟩ => by subst e e'; exact hq t k) fun _ _ x => x
theorem mergeIfL {M : Model} {A : Around} {E : Value → Shared → Prop} {s : Shared} {env : Env} {test body orelse : PySem.Expr} {pos : Pos} {Q : Value → Shared → Prop} {vs : List Value} {ns : List Int} (_hi : IntsAre vs ns) (f : List Int → Int)
    (h : wpAny M A (isTrue test env (eval test env)) (fun c s₂ => if c then wpAny M A (eval body env) (MergeTo (f ns) s) E s₂ else wpAny M A (eval orelse env) (MergeTo (f ns) s) E s₂) E s)
    (hq : ∀ t k, Q (.int (f ns) t) { s with toks := k }) : wpAny M A (eval (.IfExp test body orelse pos) env) Q E s := mergeIf (f ns) h hq
theorem MergeTo.mk' {x y : Int} {s : Shared} {t : Tok} {k : Nat} (e : y = x) : MergeTo x s (.int y t) { s with toks := k } := ⟨t, k, by rw [e], rfl⟩
theorem first_in {ns : List Int} (h : (1 : Int) < (ns.length : Int)) : ns.getD (Int.toNat 1) 0 = firstOf ns := by
  unfold firstOf
  have h1 : 1 < ns.length := by omega
  show ns.getD 1 0 = ns.getD 1 5
  simp [List.getD, h1]
theorem first_out {ns : List Int} (h : ¬ (1 : Int) < (ns.length : Int)) : 5 = firstOf ns := by
  unfold firstOf
  have h1 : ns.length ≤ 1 := by omega
  simp [List.getD, h1]
theorem tb03 {prog : Program} {w : World} {A : Around} {E : Value → Shared → Prop} {s : Shared} {ns sd : List Int} {low m x : Int} {t u v : Tok} {Q : Value → Shared → Prop} (hm : m = List.foldl (fun m o => m * 257 + o) 1 sd) (h0 : 0 ≤ low) (h1 : low ≤ 281474976710655) (hx : x = Builtin.bitAnd (firstOf ns + ris * (2 * m.fmod 65521 + 1) * rep03) (low * hb03))
    (h : ∀ (b : Array UInt8) t' k', KBw.bInts b = body03 ns sd low → (body03 ns sd low).length = 1728 → Q (.bytes b t') { s with toks := k' }) :
    wpAny (model prog w) A (call (.builtin "int.to_bytes") [.int x t, .int 1728 u, .str (PySem.Str.ofString "little") v]) Q E s := by
  have e : x = x03 ns sd low := by rw [hx, hm]; rfl
  subst e
  exact tb_little (k := 1728) (by decide) (x03_pos _ _ h0) (x03_lt _ _ h0 h1) fun b t' k' hb => h b t' k' hb (body03_len _ _ _)
theorem near_item {prog : Program} {w : World} {A : Around} {E : Value → Shared → Prop} {s : Shared} {K : Frag} {h₀ : Heap} {L a : Addr} {m : PySem.Str → Option Value} {n : Nat} {value slice : PySem.Expr} {l : List Value} {dd : Option Addr} {sl : Array (Option Value)} {k : Int} {u : Tok} {Q : Value → Shared → Prop} (F : Fr h₀ L s.heap m) (X₀ : K.In h₀)
    (hl : K.lookup a = some ⟨.type "list", dd, .seq l.toArray n, sl⟩) (hi : IntsAre l [8380416, 8380417, 8380418, 8388607, 16777215, 16769024, 0, 8388608]) (h : ∀ t, Q (.int (nearL.getD (k.fmod 8).toNat 0) t) s)
    (hs : subscripted slice false (.ref a) (.int (k.fmod 8) u) = operate [.ref a, .int (k.fmod 8) u] (getItem (.ref a) (.int (k.fmod 8) u)) := by with_unfolding_all rfl) :
    wpAny (model prog w) A (subscriptTail value slice (.ref a) (.int (k.fmod 8) u)) Q E s := by
  have h1 := Int.fmod_nonneg_of_pos k (by decide : (0 : Int) < 8)
  have h2 := Int.fmod_lt_of_pos k (by decide : (0 : Int) < 8)
  obtain ⟨t, hx⟩ := hi.get (k.fmod 8).toNat _ (ints_getD h1 h2)
  exact topList_K F X₀ hl h1 (by omega) hx (h t) hs
theorem near_range (n : Int) : 0 ≤ nearL.getD (n.fmod 8).toNat 0 ∧ nearL.getD (n.fmod 8).toNat 0 < 256 ^ 3 := by
  have h1 := Int.fmod_nonneg_of_pos n (by decide : (0 : Int) < 8)
  have h2 := Int.fmod_lt_of_pos n (by decide : (0 : Int) < 8)
  obtain ⟨k, e⟩ := Int.eq_ofNat_of_zero_le h1
  rw [e] at h2 ⊢
  have hk : k < 8 := by omega
  rw [Int.toNat_natCast]
  have key : ∀ k : Nat, k < 8 → 0 ≤ nearL.getD k 0 ∧ nearL.getD k 0 < 256 ^ 3 := by decide +kernel
  exact key k hk
theorem tb3 {prog : Program} {w : World} {A : Around} {E : Value → Shared → Prop} {s : Shared} {n x : Int} {t u v : Tok} {Q : Value → Shared → Prop} (hx : x = nearL.getD (n.fmod 8).toNat 0)
    (h : ∀ (b : Array UInt8) t' k', KBw.bInts b = nearOf n → (nearOf n).length = 3 → Q (.bytes b t') { s with toks := k' }) :
    wpAny (model prog w) A (call (.builtin "int.to_bytes") [.int x t, .int 3 u, .str (PySem.Str.ofString "little") v]) Q E s := by
  subst hx
  exact tb_little (k := 3) (by decide) (near_range n).1 (near_range n).2 fun b t' k' hb => h b t' k' hb (nearOf_len n)
theorem ahead_start : KBw.bInts #[] = aheadOf [] := rfl
theorem ahead_turn {b : Array UInt8} {pre : List Int} {n : Int} (h : KBw.bInts b = aheadOf pre ++ nearOf n) : KBw.bInts b = aheadOf (pre ++ [n]) := by
  rw [h]; simp [aheadOf]
theorem str_yes {b : Array UInt8} {ns sd : List Int} {low : Int} (e : low = 131941395333119) (h : KBw.bInts b = aheadOf (List.take (min 13 ns.length - 5) (List.drop 5 ns)) ++ body03 ns sd low) : KBw.bInts b = str03 ns sd low := by
  rw [h]; unfold str03; rw [if_pos e]
theorem str_no {b : Array UInt8} {ns sd : List Int} {low : Int} (e : ¬ low = 131941395333119) (h : KBw.bInts b = body03 ns sd low) : KBw.bInts b = str03 ns sd low := by
  rw [h]; unfold str03; rw [if_neg e, List.nil_append]
theorem stream_end {b : Array UInt8} {ns sd : List Int} {low many : Int} (h0 : 0 ≤ many) (h : KBw.bInts b = str03 ns sd low) : KBw.bInts (KBy.picked b none (some many)) = (str03 ns sd low).take many.toNat := by
  rw [KBc.ints_picked h none (some many)]
  show ((str03 ns sd low).drop 0).take (clipAt (str03 ns sd low).length many - 0) = _
  obtain ⟨n, rfl⟩ := Int.eq_ofNat_of_zero_le h0
  rw [clipAt_nat, List.drop_zero, Nat.sub_zero, Int.toNat_natCast]
  by_cases c : n ≤ (str03 ns sd low).length
  · rw [Nat.min_eq_left c]
  · rw [Nat.min_eq_right (by omega), List.take_length, List.take_of_length_le (by omega)]
set_option maxHeartbeats 4000000 in
theorem stream_call {w : World} {p : Program} {loose : List Str} {mean : ExcName → Option Value} {mg mb : Str → Option Value} {dp un : Nat} {gd : Option (List Code)} {cn : Str} {cs : Scope} {a : Addr} {ccd : Value} {cl : List (Str × Addr)} {outer : List Env} {A₀ : Around} {base h₀ : Heap} {L : Addr} {m : Str → Option Value} {s : Shared} {Q E : Value → Shared → Prop}
    {l : Addr} {vs : List Value} {ns : List Int} {sb : Array UInt8} {st : Tok} {sd : List Int} {many : Int} {mt : Tok} {low : Int} {lt : Tok}
    (B : Below A₀ base outer h₀) (F : Fr h₀ L s.heap m) (X : (Mine3.hd.heap_1 w.params).In h₀) (T : Top p loose mean mg mb h₀) (hk : cs.kind = .function)
    (hl : base.IsList l vs.toArray) (hi : IntsAre vs ns) (hn : ns.length ≤ 63) (hsb : KBw.bInts sb = sd) (hsd : sd.length ≤ 64) (hm0 : 0 ≤ many) (hm1 : many ≤ 1752) (hl0 : 0 ≤ low) (hl1 : low ≤ 281474976710655)
    (hd : dp + 1 < recursionLimit)
    (ret : ∀ b t h' tk', KBw.bInts b = (str03 ns sd low).take many.toNat → (∀ b o, s.heap.get? b = some o → h'.get? b = some o) → Q (.bytes b t) { s with heap := h', toks := tk' }) :
    wpAny (model PySem.Challenge.rw_ji0010_03.row.prog w) (ktrTop dp un gd cn cs L a ccd cl outer) (call (.ref 592) [.ref l, .bytes sb st, .int many mt, .int low lt]) Q E s := by
  revert X; k_fill; intro X; w_top off
  k_with_none
  k_with "call ref" => ((k_here; (with_reducible show wpAny _ _ (call (Value.ref _) [Value.bytes _ _, Value.str (Str.ofString "little") _]) _ _ _); kfb_any; k_dflt (refine fb_ris (by k_asm) (by k_mem) (by kba_ints2) ?_); intro _ _))
  k_with "eval BinOp" => ((k_here; (with_reducible refine rep03_lit ?_); intro _ _))
  k_with "eval BinOp" => ((k_here; (with_reducible refine hb03_lit ?_); intro _ _))
  k_with "binaryOp Mult int int" => ((k_here; (with_reducible show wpAny _ _ (binaryOp Operator.Mult (Value.int _ _) (Value.int rep03 _)) _ _ _); k_dflt (refine mul_ok (b := rep03) (pre_bits _) (Nat.le_trans rep03_bits (by decide)) ?_); intro _ _))
  k_with "binaryOp Mult int int" => ((k_here; (with_reducible show wpAny _ _ (binaryOp Operator.Mult (Value.int _ _) (Value.int hb03 _)) _ _ _); k_dflt (refine mul_ok (b := hb03) (low_bits (by omega) (by omega)) (Nat.le_trans hb03_bits (by decide)) ?_); intro _ _))
  k_with "call builtin:int.to_bytes" => ((k_here; (with_reducible show wpAny _ _ (call (Value.builtin "int.to_bytes") [Value.int _ _, Value.int 1728 _, _]) _ _ _); k_dflt (refine tb03 (by assumption) (by omega) (by omega) rfl ?_); intro _ _ _ _ _; walk_say "TB03"))
  k_with "call builtin:int.to_bytes" => ((k_here; (with_reducible show wpAny _ _ (call (Value.builtin "int.to_bytes") [Value.int _ _, Value.int 3 _, _]) _ _ _); k_dflt (refine tb3 rfl ?_); intro _ _ _ _ _; walk_say "TB3"))
  k_with "eval IfExp" => ((k_here; (rename IntsAre _ _ => hIa); k_dflt (refine mergeIfL hIa firstOf ?_ ?_); rotate_left; intro _ _; rotate_left))
  k_with "MergeTo" => ((with_unfolding_all first | exact MergeTo.mk' (first_in (by assumption)) | exact MergeTo.mk' (first_out (by assumption))))
  k_with "binaryOp Add bytes bytes" => ((k_here; (with_reducible show wpAny _ _ (binaryOp Operator.Add (Value.bytes _ _) (Value.bytes _ _)) _ _ _); (refine KBa.add_K (by assumption) (by assumption) (by (simp only [aheadOf_len, nearOf_len, body03_len]; omega)) ?_); intro _ _ _))
  k_with "subscriptTail" => ((k_here; (with_reducible show wpAny _ _ (subscriptTail _ (Expr.Slice _ _ none _) (Value.bytes (_ ++ _) _) (Value.ref _)) _ _ _); (with_reducible rename Fr _ _ _ _ => F'); (with_reducible rename News _ _ _ _ => N'); (refine KBc.slice_K (s := ⟨_, _, _, _, _⟩) F' N' (by assumption) (by constructor) (by constructor) (by (simp only [List.length_append, aheadOf_len, body03_len, List.length_take, List.length_drop]; omega)) ?_); intro _ _ _ _ _ _))
  k_with "subscriptTail" => ((k_here; (with_reducible show wpAny _ _ (subscriptTail _ _ (Value.ref 587) (Value.int (Int.fmod _ 8) _)) _ _ _); (refine near_item (by k_asm) (by k_asm) (by k_is) (by exact .cons _ _ (.cons _ _ (.cons _ _ (.cons _ _ (.cons _ _ (.cons _ _ (.cons _ _ (.cons _ _ .nil)))))))) ?_; k_whole); intro _))
  refine wpAny_call ?_
  k_dflt (refine' code_pure ?k1 ?k2 ?k3 ?k5 ?kA ?kF ?kK ?k6 ?k7 ?k8 ?k9 ?kB ?_ ?c2 ?c3 ?c4 ?c5; (case kA => exact rfl); (case kF => exact rfl); (case kK => assumption); (case k1 => k_asm); (case k2 => k_asm); (case k3 => k_asm); (case k5 => k_asm); (case k6 => k_is); (case k7 => k_is); (case k8 => ktr_room); (case k9 => exact BindsTo.of_eq rfl); (case c5 => decide); (case kB => exact locs rfl); (case c2 => exact rfl); (case c3 => exact rfl); (case c4 => exact rfl); k_whole; intro g' L' h' hg' F' N' B' X' T'; (try dsimp only); (try k_lift B'))
  clear F T X
  k_fold
  k_with "pyIter bytes" => k_state (fun pre mix => 0 ≤ mix ∧ mix = pre.foldl (fun m o => m * 257 + o) 1 ∧ mix < 257 ^ (pre.length + 1)) "mix"
  k_with "state" => first | exact ahead_start | exact ahead_turn (by assumption)
  k_with "pyIter ref" => k_state (fun pre ahead => KBw.bInts ahead = aheadOf pre) "ahead"
  k_steps
  all_goals subst hg'
  all_goals first
    | exact PureLeave.mk' (by assumption) fun keep => ret _ _ _ _ (stream_end hm0 (str_yes (by assumption) (by assumption))) keep
    | exact PureLeave.mk' (by assumption) fun keep => ret _ _ _ _ (stream_end hm0 (str_no (by assumption) (by assumption))) keep
end
section
set_option maxHeartbeats 1000000 in
theorem br_call {w : World} {p : Program} {loose : List Str} {mean : ExcName → Option Value} {mg mb : Str → Option Value} {dp un : Nat} {gd : Option (List Code)} {cn : Str} {cs : Scope} {a : Addr} {ccd : Value} {cl : List (Str × Addr)} {outer : List Env} {A₀ : Around} {base h₀ : Heap} {L : Addr} {m : Str → Option Value} {s : Shared} {Q E : Value → Shared → Prop}
    {i : Int} {it mt : Tok}
    (B : Below A₀ base outer h₀) (F : Fr h₀ L s.heap m) (X : (Mine3.hd.heap_1 w.params).In h₀) (T : Top p loose mean mg mb h₀) (hk : cs.kind = .function)
    (hi0 : 0 ≤ i) (hi1 : i < 256)
    (hd : dp + 1 < recursionLimit)
    (ret : ∀ t h' tk', 0 ≤ brVal i → brVal i < 256 → (∀ b o, s.heap.get? b = some o → h'.get? b = some o) → Q (.int (brVal i) t) { s with heap := h', toks := tk' }) :
    wpAny (model PySem.Challenge.rw_ji0010_03.row.prog w) (ktrTop dp un gd cn cs L a ccd cl outer) (call (.ref 301) [.int i it, .int 8 mt]) Q E s := by
  revert X; k_fill; intro X; w_top off
  k_with_none
  k_with "call builtin:bin" => ((k_here; k_dflt (refine bin_byte (by assumption) (by assumption) ?_); intro _ _))
  k_with "subscriptTail" => ((k_here; (with_reducible show wpAny _ _ (subscriptTail _ (Expr.Slice _ _ _ _) (Value.str (tx1 _) _) (Value.ref _)) _ _ _); (with_reducible rename Fr _ _ _ _ => F'); (with_reducible rename News _ _ _ _ => N'); (refine cut2 (s := ⟨_, _, _, _, _⟩) (by assumption) (by assumption) F' N' ?_); intro _ _ _ _ _))
  k_with "subscriptTail" => ((k_here; (with_reducible show wpAny _ _ (subscriptTail _ (Expr.Slice _ _ _ _) (Value.str (tx3 _) _) (Value.ref _)) _ _ _); (with_reducible rename Fr _ _ _ _ => F'); (with_reducible rename News _ _ _ _ => N'); (refine rev_slice (s := ⟨_, _, _, _, _⟩) (by assumption) (by assumption) F' N' ?_); intro _ _ _ _ _))
  k_with "call builtin:str.zfill" => ((k_here; k_dflt (refine fill8 ?_); intro _ _))
  k_with "call type:int" => ((k_here; (with_reducible show wpAny _ _ (call (Value.type "int") [Value.str (tx4 _) _, _]) _ _ _); k_dflt (refine int2 (by assumption) (by assumption) ?_); intro _ _ _ _))
  refine wpAny_call ?_
  k_dflt (refine' code_pure ?k1 ?k2 ?k3 ?k5 ?kA ?kF ?kK ?k6 ?k7 ?k8 ?k9 ?kB ?_ ?c2 ?c3 ?c4 ?c5; (case kA => exact rfl); (case kF => exact rfl); (case kK => assumption); (case k1 => k_asm); (case k2 => k_asm); (case k3 => k_asm); (case k5 => k_asm); (case k6 => k_is); (case k7 => k_is); (case k8 => ktr_room); (case k9 => exact BindsTo.of_eq rfl); (case c5 => decide); (case kB => exact locs rfl); (case c2 => exact rfl); (case c3 => exact rfl); (case c4 => exact rfl); k_whole; intro g' L' h' hg' F' N' B' X' T'; (try dsimp only); (try k_lift B'))
  clear F T X
  k_fold
  k_steps
  subst hg'
  exact PureLeave.mk' (by assumption) fun keep => ret _ _ _ (by assumption) (by assumption) keep
end
section
section
variable {prog : Program} {w : World} {A : Around} {E : Value → Shared → Prop} {s : Shared} {env : Env} {h₀ : Heap} {x : PySem.Str} {body : List Stmt} {Q : Flow → Shared → Prop}
/-- a loop whose iterator is one object, that stands written in the ledger of each turn -/
theorem loop_one {I : Addr} {n : Nat} {P : Nat → Value → Prop} {St : Nat → Heap → Prop} {m₀ : PySem.Str → Option Value} {news : List (Addr × Obj)} (J : Nat → (PySem.Str → Option Value) → List (Addr × Obj) → Prop)
    (W : Walks prog w A I [I] [I] n P St) (hobj : ∀ i h, St i h → ∃ o, h.get? I = some o) (hL : env.locals ≠ I) (hI : h₀.get? I = none) (hoff : ∀ p ∈ news, p.1 ≠ I) (hst : St 0 s.heap) (F : Fr h₀ env.locals s.heap m₀) (N : News h₀ env.locals s.heap news) (hj : J 0 m₀ news)
    (turn : ∀ i v m₁ news₁ h tk oI, i < n → P i v → news₁.map (·.1) = news.map (·.1) → J i m₁ news₁ → Fr h₀ env.locals h (fun y => if y = x then some v else m₁ y) → News h₀ env.locals h ((I, oI) :: news₁) →
      wpAny (model prog w) A (execs body env) (InvPostN h₀ env.locals (J (i + 1)) [(I, oI)] (news.map (·.1)) { s with heap := h, toks := tk } Q) E { s with heap := h, toks := tk })
    (done : ∀ m₁ news₁ h tk, J n m₁ news₁ → Fr h₀ env.locals h m₁ → News h₀ env.locals h news₁ → Q .next { s with heap := h, toks := tk }) :
    LoopAtV prog w A h₀ env x body Q E (.ref I) s := by
  let J' : Nat → (PySem.Str → Option Value) → List (Addr × Obj) → Prop := fun i m₁ news₁ => news₁.map (·.1) = news.map (·.1) ∧ J i m₁ news₁
  have wrI : ∀ p ∈ news, p.1 ∉ [I] := fun p hp hm => hoff p hp (List.mem_singleton.mp hm)
  refine ⟨I, [I], [I], n, P, St, m₀, news, J', rfl, W, fun hm => hL (List.mem_singleton.mp hm), fun b hb => (List.mem_singleton.mp hb) ▸ hI, wrI, hst, F, N, ⟨rfl, hj⟩, ?_, ?_⟩
  · rintro i v m₁ news₁ s₁ own ⟨hh', tk', rfl⟩ hin hP ⟨hadr, hJ⟩ hoff1 hown hget hall hSt F₁ N₁
    obtain ⟨oI, hoI⟩ := hobj _ _ hSt
    have hmem : (I, oI) ∈ own := hall I (List.mem_singleton.mpr rfl) hI oI hoI
    have hsub : ∀ p ∈ own, p = (I, oI) := by
      intro p hp
      have e1 : p.1 = I := List.mem_singleton.mp (hown p hp)
      have e2 := hget p hp
      rw [e1] at e2
      have e3 : p.2 = oI := Option.some.inj (e2.symm.trans hoI)
      exact Prod.ext e1 e3
    have N₂ : News h₀ env.locals hh' ((I, oI) :: news₁) := by
      intro p hp
      rcases List.mem_cons.mp hp with rfl | hp
      · exact N₁ _ (List.mem_append.mpr (.inl hmem))
      · exact N₁ p (List.mem_append.mpr (.inr hp))
    refine wpAny_mono (turn i v m₁ news₁ hh' tk' oI hin hP hadr hJ F₁ N₂) (fun f s₂ p => ?_) fun _ _ e => e
    have fin : InvEndN h₀ env.locals (J (i + 1)) [(I, oI)] (news.map (·.1)) { s with heap := hh', toks := tk' } s₂ → LoopStepU h₀ env.locals [I] own (J' (i + 1)) { s with heap := hh', toks := tk' } .next s₂ := by
      rintro ⟨h', tk, m', news', nx, e, F', N', hn, ho, ha, hm⟩
      refine ⟨rfl, h', tk, m', nx, e, F', ?_, ?_, ha, hm⟩
      · intro p hp
        rcases List.mem_append.mp hp with hp | hp
        · rw [hsub p hp]
          exact N' _ (ho _ (List.mem_singleton.mpr rfl))
        · exact N' p (hn p hp)
      · intro p hp hq
        have h1 : p.1 ∈ nx.map (·.1) := List.mem_map.mpr ⟨p, hp, rfl⟩
        rw [ha] at h1
        obtain ⟨q, hq1, hq2⟩ := List.mem_map.mp h1
        exact hoff q hq1 (hq2.trans (List.mem_singleton.mp hq))
    cases f with
    | ret v => exact .ret p
    | brk => exact .brk p
    | next => exact .next (fin p)
    | cont => exact .cont (fin p)
  · rintro h' tk m' news' F' N' _ ⟨_, hJ⟩
    exact done m' news' h' tk hJ F' N'

/-- a loop over the octets of bytes, its state named -/
theorem one_bytes {σ : Type} {b : Array UInt8} {ks : List Int} {tb : Tok} {m₀ : PySem.Str → Option Value} (Led : σ → List (Addr × Obj)) (ps : σ → List (PySem.Str × Value)) (Facts : σ → Prop) (stored : List PySem.Str) (P : List Int → σ → Prop) (c₀ : σ)
    (hb : KBw.bInts b = ks) (hh : A.handled = none) (F : Fr h₀ env.locals s.heap m₀) (N : News h₀ env.locals s.heap (Led c₀)) (hf : Facts c₀) (hk : ∀ p ∈ ps c₀, m₀ p.1 = some p.2) (hp : P [] c₀)
    (turn : ∀ (c : σ) (pre post : List Int) (n : Int) t (u : PySem.Str → Option Value) h tk I oI, ks = pre ++ n :: post → 0 ≤ n → n < 256 → (∀ p ∈ Led c₀, @LT.lt Nat instLTNat p.1 I) → @LT.lt Nat instLTNat env.locals I → Facts c → P pre c →
      Fr h₀ env.locals h (fun y => if y = x then some (.int n t) else kstB (fun z => if stored.contains z then u z else m₀ z) (ps c) y) → News h₀ env.locals h ((I, oI) :: Led c) →
      wpAny (model prog w) A (execs body env) (InvPostN h₀ env.locals (KstS Led ps Facts x stored m₀ P (pre ++ [n])) [(I, oI)] ((Led c₀).map (·.1)) { s with heap := h, toks := tk } Q) E { s with heap := h, toks := tk })
    (done : ∀ (c : σ) (u : PySem.Str → Option Value) h tk, Facts c → P ks c → Fr h₀ env.locals h (fun y => if y = x then u y else kstB (fun z => if stored.contains z then u z else m₀ z) (ps c) y) → News h₀ env.locals h (Led c) → Q .next { s with heap := h, toks := tk }) :
    wpAny (model prog w) A (pyIter (.bytes b tb)) (fun it s₂ => LoopAtV prog w A h₀ env x body Q E it s₂) E s := by
  subst hb
  refine KBw.pyIter_bytes ?_
  have W := KBw.walks (prog := prog) (w := w) hh s.heap.objs.size b tb
  have hlt : ∀ p ∈ Led c₀, p.1 < s.heap.objs.size := fun p hp => Heap.lt_size (N p hp).1
  refine loop_one (fun i m nx => KstS Led ps Facts x stored m₀ P ((KBw.bInts b).take i) m nx) W (fun i h st => let ⟨o, ho, _⟩ := st; ⟨o, ho⟩) (Nat.ne_of_lt F.ns.lt) (next_is_new F) (fun p hp => Nat.ne_of_lt (hlt p hp)) ⟨_, Heap.get?_push_size _ rfl, rfl, rfl⟩ (F.push _) (fun p hp => ⟨Heap.get?_push_of_some _ (N p hp).1, (N p hp).2⟩) ⟨c₀, rfl, hf, hk, fun _ _ _ _ => rfl, by simpa using hp⟩ ?_ ?_
  · rintro i v m₁ nx h tk oI hi ⟨n, u, hn, rfl⟩ _ ⟨c, rfl, hf', h1, h2, hp'⟩ F₁ N₁
    have hn' := KBw.ints_get hn
    have hs : (KBw.bInts b).take (i + 1) = (KBw.bInts b).take i ++ [(n.toNat : Int)] := by simp [List.take_add_one, hn']
    have e : KBw.bInts b = (KBw.bInts b).take i ++ (n.toNat : Int) :: (KBw.bInts b).drop (i + 1) := by
      have ht := List.take_append_drop (i + 1) (KBw.bInts b)
      rw [hs, List.append_assoc] at ht
      exact ht.symm
    have hin := KBw.ints_in (List.mem_of_getElem? hn')
    rw [hs]
    exact turn c _ _ (n.toNat : Int) u m₁ h tk _ oI e hin.1 hin.2 hlt F.ns.lt hf' hp' (kst_fr h1 h2 F₁) N₁
  · rintro m₁ nx h tk ⟨c, rfl, hf', h1, h2, hp'⟩ F₁ N₁
    have h8 : b.size = (KBw.bInts b).length := (KBw.ints_length b).symm
    rw [h8, List.take_length] at hp'
    exact done c m₁ h tk hf' hp' (kst_frOut h1 h2 F₁) N₁

/-- a loop over a range of any step above zero -/
theorem one_range {σ : Type} {r : Addr} {a₀ b₀ d₀ : Int} {t₀ u₀ v₀ : Tok} {n : Nat} {m₀ : PySem.Str → Option Value} (Led : σ → List (Addr × Obj)) (ps : σ → List (PySem.Str × Value)) (Facts : σ → Prop) (stored : List PySem.Str) (P : Nat → σ → Prop) (c₀ : σ)
    (hh : A.handled = none) (hr : IsRange s.heap r a₀ b₀ d₀ t₀ u₀ v₀) (hsmall : Builtin.Range.small a₀ b₀ d₀ = true) (hn : Builtin.Range.rangeSize a₀ b₀ d₀ = (n : Int)) (F : Fr h₀ env.locals s.heap m₀) (N : News h₀ env.locals s.heap (Led c₀)) (hf : Facts c₀) (hk : ∀ p ∈ ps c₀, m₀ p.1 = some p.2) (hp : P 0 c₀)
    (turn : ∀ (c : σ) (i : Nat) (k : Int) t (u : PySem.Str → Option Value) h tk I oI, k = a₀ + (i : Int) * d₀ → i < n → (∀ p ∈ Led c₀, @LT.lt Nat instLTNat p.1 I) → @LT.lt Nat instLTNat env.locals I → Facts c → P i c →
      Fr h₀ env.locals h (fun y => if y = x then some (.int k t) else kstB (fun z => if stored.contains z then u z else m₀ z) (ps c) y) → News h₀ env.locals h ((I, oI) :: Led c) →
      wpAny (model prog w) A (execs body env) (InvPostN h₀ env.locals (KstS Led ps Facts x stored m₀ (fun _ => P (i + 1)) []) [(I, oI)] ((Led c₀).map (·.1)) { s with heap := h, toks := tk } Q) E { s with heap := h, toks := tk })
    (done : ∀ (c : σ) (u : PySem.Str → Option Value) h tk, Facts c → P n c → Fr h₀ env.locals h (fun y => if y = x then u y else kstB (fun z => if stored.contains z then u z else m₀ z) (ps c) y) → News h₀ env.locals h (Led c) → Q .next { s with heap := h, toks := tk }) :
    wpAny (model prog w) A (pyIter (.ref r)) (fun it s₂ => LoopAtV prog w A h₀ env x body Q E it s₂) E s := by
  refine wpAny_pyIter_range hr hsmall ?_
  have W : Walks prog w A s.heap.objs.size [s.heap.objs.size] [s.heap.objs.size] n (fun i v => i < n ∧ ∃ t, v = .int (a₀ + i * d₀) t)
      (fun i h => IsRangeIter h s.heap.objs.size (a₀ + (i : Nat) * d₀) ((n : Int) - (i : Nat)) d₀) := (Walks.range hh _ a₀ d₀ n).bound
  have hlt : ∀ p ∈ Led c₀, p.1 < s.heap.objs.size := fun p hp => Heap.lt_size (N p hp).1
  refine loop_one (fun i m nx => KstS Led ps Facts x stored m₀ (fun _ => P i) [] m nx) W (fun i h st => ⟨_, st⟩) (Nat.ne_of_lt F.ns.lt) (next_is_new F) (fun p hp => Nat.ne_of_lt (hlt p hp)) (by show IsRangeIter _ _ _ _ _; rw [hn]; simpa using Heap.get?_push_size _ rfl) (F.push _) (fun p hp => ⟨Heap.get?_push_of_some _ (N p hp).1, (N p hp).2⟩) ⟨c₀, rfl, hf, hk, fun _ _ _ _ => rfl, hp⟩ ?_ ?_
  · rintro i v m₁ nx h tk oI hi ⟨_, t, rfl⟩ _ ⟨c, rfl, hf', h1, h2, hp'⟩ F₁ N₁
    exact turn c i _ t m₁ h tk _ oI rfl hi hlt F.ns.lt hf' hp' (kst_fr h1 h2 F₁) N₁
  · rintro m₁ nx h tk ⟨c, rfl, hf', h1, h2, hp'⟩ F₁ N₁
    exact done c m₁ h tk hf' hp' (kst_frOut h1 h2 F₁) N₁
/-- a loop over a list turned round, that stood ahead of the call -/
theorem one_rev {σ : Type} {D l : Addr} {vs : List Value} {xs : List Int} {m₀ : PySem.Str → Option Value} (ps : σ → List (PySem.Str × Value)) (stored : List PySem.Str) (P : List Int → σ → Prop) (c₀ : σ)
    (hh : A.handled = none) (hl : h₀.IsList l vs.toArray) (hi : IntsAre vs xs) (F : Fr h₀ env.locals s.heap m₀) (N : News h₀ env.locals s.heap [(D, revObj l ((vs.length : Int) - 1))]) (hk : ∀ p ∈ ps c₀, m₀ p.1 = some p.2) (hp : P [] c₀)
    (turn : ∀ (c : σ) (pre : List Int) (n : Int) t (u : PySem.Str → Option Value) h tk oI, n ∈ xs → pre.length < xs.length → P pre c →
      Fr h₀ env.locals h (fun y => if y = x then some (.int n t) else kstB (fun z => if stored.contains z then u z else m₀ z) (ps c) y) → News h₀ env.locals h [(D, oI)] →
      wpAny (model prog w) A (execs body env) (InvPostN h₀ env.locals (KstS (fun _ => []) ps (fun _ => True) x stored m₀ P (pre ++ [n])) [(D, oI)] [] { s with heap := h, toks := tk } Q) E { s with heap := h, toks := tk })
    (done : ∀ (c : σ) (u : PySem.Str → Option Value) h tk, P xs.reverse c → Fr h₀ env.locals h (fun y => if y = x then u y else kstB (fun z => if stored.contains z then u z else m₀ z) (ps c) y) → Q .next { s with heap := h, toks := tk }) :
    wpAny (model prog w) A (pyIter (.ref D)) (fun it s₂ => LoopAtV prog w A h₀ env x body Q E it s₂) E s := by
  obtain ⟨olist, holist, hlc⟩ := hl
  have hD := N _ (List.mem_singleton.mpr rfl)
  have hne : l ≠ D := fun e => by
    have h2 := hD.2.2
    dsimp only at h2
    rw [← e, holist] at h2
    cases h2
  have hDs : (D, revObj l ((vs.length : Int) - 1)).1 = D := rfl
  have hit : s.heap.IsRevIter D l ((vs.length : Int) - 1) := ⟨_, hD.1, rfl, rfl⟩
  refine wpAny_pyIter_revIter hit ?_
  have W := Walks.listRev (prog := prog) (w := w) hh D l hne vs.toArray
  have hlen := hi.length
  let J : Nat → (PySem.Str → Option Value) → List (Addr × Obj) → Prop := fun i m nx => nx = [] ∧ KstS (fun _ => []) ps (fun _ => True) x stored m₀ P (xs.reverse.take i) m nx
  refine ⟨D, [D, l], [D], _, _, _, m₀, [], J, rfl, W, ?_, ?_, fun _ hm => (nomatch hm), ?_, F, fun _ hm => (nomatch hm), ⟨rfl, c₀, rfl, trivial, hk, fun _ _ _ _ => rfl, by simpa using hp⟩, ?_, ?_⟩
  · intro hm
    rcases List.mem_cons.mp hm with e | hm
    · exact hD.2.1 e.symm
    · rw [List.mem_singleton] at hm
      exact absurd (Nat.lt_of_lt_of_le (Heap.lt_size holist) F.above) (by rw [hm]; exact Nat.lt_irrefl _)
  · intro b hb
    rw [List.mem_singleton.mp hb]
    exact hD.2.2
  · refine ⟨Nat.zero_le _, ?_, ⟨olist, F.keep _ _ holist, hlc⟩⟩
    simpa using hit
  · rintro i v m₁ news₁ s₁ own ⟨hh', tk', rfl⟩ hin hP ⟨hnil, c, hc, _, h1, h2, hp'⟩ _ hown hget hall hSt F₁ N₁
    obtain ⟨_, ⟨oI, hoI, _⟩, _⟩ := hSt
    subst hnil
    have hmem : (D, oI) ∈ own := hall D (List.mem_cons_self) hD.2.2 oI hoI
    have hsub : ∀ p ∈ own, p = (D, oI) := by
      intro p hpp
      have e2 := hget p hpp
      have e1 : p.1 = D := by
        rcases List.mem_cons.mp (hown p hpp) with e | e
        · exact e
        · have h3 := (N₁ p (List.mem_append.mpr (.inl hpp))).2.2
          rw [List.mem_singleton.mp e, holist] at h3
          cases h3
      rw [e1] at e2
      exact Prod.ext e1 (Option.some.inj (e2.symm.trans hoI))
    have hvs : vs.toArray.size = vs.length := by simp
    have hiv : vs[vs.length - 1 - i]? = some v := by
      have hP' := hP
      rw [hvs] at hP'
      simpa using hP'
    have hi2 : i < vs.length := by rw [hvs] at hin; exact hin
    obtain ⟨n, t, hv, hx⟩ := IntsAre.at hi _ v hiv
    subst hv
    have hr : xs.reverse[i]? = some n := by
      rw [List.getElem?_reverse (by omega), ← hlen]
      exact hx
    have hs : xs.reverse.take (i + 1) = xs.reverse.take i ++ [n] := by simp [List.take_add_one, hr]
    have hpl : (xs.reverse.take i).length = i := by rw [List.length_take, List.length_reverse]; omega
    refine wpAny_mono (turn c _ n t m₁ hh' tk' oI (List.mem_of_getElem? hx) (by rw [hpl]; omega) hp' (kst_fr h1 h2 F₁) (fun p hpp => by
      rw [List.mem_singleton.mp hpp]
      exact N₁ _ (List.mem_append.mpr (.inl hmem)))) (fun f s₂ pf => ?_) fun _ _ e => e
    have fin : InvEndN h₀ env.locals (KstS (fun _ => []) ps (fun _ => True) x stored m₀ P (xs.reverse.take i ++ [n])) [(D, oI)] [] { s with heap := hh', toks := tk' } s₂ → LoopStepU h₀ env.locals [D] own (J (i + 1)) { s with heap := hh', toks := tk' } .next s₂ := by
      rintro ⟨h', tk, m', news', nx, e, F', N', hn, ho, ha, hm⟩
      have hnx : nx = [] := List.map_eq_nil_iff.mp ha
      subst hnx
      refine ⟨rfl, h', tk, m', [], e, F', ?_, fun _ hm => (nomatch hm), rfl, ?_⟩
      · intro p hpp
        rw [List.append_nil] at hpp
        rw [hsub p hpp]
        exact N' _ (ho _ (List.mem_singleton.mpr rfl))
      · rw [hs]
        exact hm
    cases f with
    | ret v => exact .ret pf
    | brk => exact .brk pf
    | next => exact .next (fin pf)
    | cont => exact .cont (fin pf)
  · rintro h' tk m' news' F' N' _ ⟨_, c, _, _, h1, h2, hp'⟩
    have hvs : vs.toArray.size = xs.reverse.length := by rw [List.length_reverse, ← hlen]; simp
    rw [hvs, List.take_length] at hp'
    exact done c m' h' tk hp' (kst_frOut h1 h2 F')
end
end
section
theorem new_get {g h' : Heap} {L' a : Addr} {o : PySem.Obj} {news : List (Addr × PySem.Obj)} (N : News g L' h' news) (hm : (a, o) ∈ news) : h'.get? a = some o := (N _ hm).1
theorem new_none {g h' : Heap} {L' a : Addr} {o : PySem.Obj} {news : List (Addr × PySem.Obj)} (N : News g L' h' news) (hm : (a, o) ∈ news) : g.get? a = none := (N _ hm).2.2
set_option maxHeartbeats 4000000 in
theorem th_call {w : World} {p : Program} {loose : List Str} {mean : ExcName → Option Value} {mg mb : Str → Option Value} {dp un : Nat} {gd : Option (List Code)} {cn : Str} {cs : Scope} {a : Addr} {ccd : Value} {cl : List (Str × Addr)} {outer : List Env} {A₀ : Around} {base h₀ : Heap} {L : Addr} {m : Str → Option Value} {s : Shared} {Q E : Value → Shared → Prop}
    {l : Addr} {vs : List Value} {ns : List Int} {b : Array UInt8} {bt : Tok} {os : List Int}
    (B : Below A₀ base outer h₀) (F : Fr h₀ L s.heap m) (X : (Mine3.hd.heap_1 w.params).In h₀) (T : Top p loose mean mg mb h₀) (hk : cs.kind = .function)
    (hl : base.IsList l vs.toArray) (hi : IntsAre vs ns) (hb : KBw.bInts b = os) (ho0 : 1728 ≤ os.length) (ho1 : os.length ≤ 1752) (hf : Flows os)
    (hd : dp + 1 < recursionLimit)
    (ret : ∀ x rs k h' tk' r q, IntsAre rs r → r = TT os q → r.length = 256 → h'.get? x = some (PySem.W.listOf rs.toArray k) → s.heap.get? x = none → (∀ b o, s.heap.get? b = some o → h'.get? b = some o) → Q (.ref x) { s with heap := h', toks := tk' }) :
    wpAny (model PySem.Challenge.rw_ji0010_03.row.prog w) (ktrTop dp un gd cn cs L a ccd cl outer) (call (.ref 606) [.bytes b bt]) Q E s := by
  revert X; k_fill; intro X; w_top off
  k_with_none
  k_with "subscriptTail" => ((k_here; (with_reducible show wpAny _ _ (subscriptTail _ _ (Value.bytes _ _) (Value.int _ _)) _ _ _); k_dflt (refine KBw.item_K (by assumption) (by omega) (by omega) (by omega) ?_); intro _ _ _ _))
  refine wpAny_call ?_
  k_dflt (refine' code_pure ?k1 ?k2 ?k3 ?k5 ?kA ?kF ?kK ?k6 ?k7 ?k8 ?k9 ?kB ?_ ?c2 ?c3 ?c4 ?c5; (case kA => exact rfl); (case kF => exact rfl); (case kK => assumption); (case k1 => k_asm); (case k2 => k_asm); (case k3 => k_asm); (case k5 => k_asm); (case k6 => k_is); (case k7 => k_is); (case k8 => ktr_room); (case k9 => exact BindsTo.of_eq rfl); (case c5 => decide); (case kB => exact locs rfl); (case c2 => exact rfl); (case c3 => exact rfl); (case c4 => exact rfl); k_whole; intro g' L' h' hg' F' N' B' X' T'; (try dsimp only); (try k_lift B'))
  clear F T X
  k_fold
  k_with "state" => first | exact thr_start os | exact thr_yes hf (by assumption) (by assumption) (by assumption) rfl (by assumption) (by assumption) | exact thr_no hf (by assumption) (by assumption) (by assumption) rfl (by assumption) (by assumption)
  k_with "exec While Compare cons nil" => k_while (fun script at_ found => 0 ≤ at_ ∧ at_ ≤ 27 + 6 * (found.length : Int) ∧ found.length ≤ 256 ∧ ThrEq os found at_) (fun script at_ found => (1600 - at_).toNat) "at" "found"
  k_steps
  subst hg'
  rename ThrEq _ _ _ => hT
  obtain ⟨q, hq0, hq⟩ := hT
  rename News _ _ _ _ => N'
  rename IntsAre _ _ => hI
  exact PureLeave.mk' (by assumption) fun keep => ret _ _ _ _ _ _ q hI hq (by omega) (new_get N' (.tail _ (.head _))) (new_none N' (.tail _ (.head _))) keep
end
section
theorem hv_of {eta o : Int} {pre found l1 l2 : List Int} (h : found = Hs eta pre) (e1 : l1 = half eta (o.fmod 16)) (e2 : l2 = half eta (o.fdiv 16)) {f' : List Int} (hf : f' = found ++ (l1 ++ l2)) :
    f' = Hs eta (pre ++ [o]) ∧ f'.length ≤ 2 * (pre ++ [o]).length := by
  have e : f' = Hs eta (pre ++ [o]) := by
    rw [hf, Hs_snoc, h, e1, e2]; rfl
  exact ⟨e, by rw [e]; exact Hs_len _ _⟩
theorem hv0 {eta o : Int} {pre found : List Int} (h : found = Hs eta pre) (e1 : [] = half eta (o.fmod 16)) (e2 : [] = half eta (o.fdiv 16)) :
    found = Hs eta (pre ++ [o]) ∧ found.length ≤ 2 * (pre ++ [o]).length := hv_of h e1 e2 (by simp)
theorem hv1 {eta o x : Int} {pre found : List Int} (h : found = Hs eta pre) (e1 : [x] = half eta (o.fmod 16)) (e2 : [] = half eta (o.fdiv 16)) :
    found ++ [x] = Hs eta (pre ++ [o]) ∧ (found ++ [x]).length ≤ 2 * (pre ++ [o]).length := hv_of h e1 e2 (by simp)
theorem hv2 {eta o x : Int} {pre found : List Int} (h : found = Hs eta pre) (e1 : [] = half eta (o.fmod 16)) (e2 : [x] = half eta (o.fdiv 16)) :
    found ++ [x] = Hs eta (pre ++ [o]) ∧ (found ++ [x]).length ≤ 2 * (pre ++ [o]).length := hv_of h e1 e2 (by simp)
theorem hv3 {eta o x y : Int} {pre found : List Int} (h : found = Hs eta pre) (e1 : [x] = half eta (o.fmod 16)) (e2 : [y] = half eta (o.fdiv 16)) :
    (found ++ [x]) ++ [y] = Hs eta (pre ++ [o]) ∧ ((found ++ [x]) ++ [y]).length ≤ 2 * (pre ++ [o]).length := hv_of h e1 e2 (by simp)
theorem hv_start (eta : Int) : [] = Hs eta [] ∧ ([] : List Int).length ≤ 2 * ([] : List Int).length := ⟨rfl, by simp⟩
set_option maxHeartbeats 4000000 in
theorem hv_call {w : World} {p : Program} {loose : List Str} {mean : ExcName → Option Value} {mg mb : Str → Option Value} {dp un : Nat} {gd : Option (List Code)} {cn : Str} {cs : Scope} {a : Addr} {ccd : Value} {cl : List (Str × Addr)} {outer : List Env} {A₀ : Around} {base h₀ : Heap} {L : Addr} {m : Str → Option Value} {s : Shared} {Q E : Value → Shared → Prop}
    {b : Array UInt8} {bt et : Tok} {eta : Int} {os : List Int}
    (B : Below A₀ base outer h₀) (F : Fr h₀ L s.heap m) (X : (Mine3.hd.heap_1 w.params).In h₀) (T : Top p loose mean mg mb h₀) (hk : cs.kind = .function)
    {l : Addr} {vs : List Value} {ns : List Int} (hl : base.IsList l vs.toArray) (hi : IntsAre vs ns) (hb : KBw.bInts b = os) (ho1 : os.length ≤ 390) (heta : eta = 2 ∨ eta = 4)
    (hd : dp + 1 < recursionLimit)
    (ret : ∀ x rs k h' tk' r, IntsAre rs r → r = (Hs eta os).take 256 → h'.get? x = some (PySem.W.listOf rs.toArray k) → s.heap.get? x = none → (∀ b o, s.heap.get? b = some o → h'.get? b = some o) → Q (.ref x) { s with heap := h', toks := tk' }) :
    wpAny (model PySem.Challenge.rw_ji0010_03.row.prog w) (ktrTop dp un gd cn cs L a ccd cl outer) (call (.ref 599) [.bytes b bt, .int eta et]) Q E s := by
  revert X; k_fill; intro X; w_top off
  k_with_none
  refine wpAny_call ?_
  k_dflt (refine' code_pure ?k1 ?k2 ?k3 ?k5 ?kA ?kF ?kK ?k6 ?k7 ?k8 ?k9 ?kB ?_ ?c2 ?c3 ?c4 ?c5; (case kA => exact rfl); (case kF => exact rfl); (case kK => assumption); (case k1 => k_asm); (case k2 => k_asm); (case k3 => k_asm); (case k5 => k_asm); (case k6 => k_is); (case k7 => k_is); (case k8 => ktr_room); (case k9 => exact BindsTo.of_eq rfl); (case c5 => decide); (case kB => exact locs rfl); (case c2 => exact rfl); (case c3 => exact rfl); (case c4 => exact rfl); k_whole; intro g' L' h' hg' F' N' B' X' T'; (try dsimp only); (try k_lift B'))
  clear F T X
  k_fold
  k_with "state" => first | exact hv_start eta | exact hv3 (by assumption) (by first | exact half_yes2 (by omega) (by assumption) | exact half_yes4 (by omega) (by assumption)) (by first | exact half_yes2 (by omega) (by assumption) | exact half_yes4 (by omega) (by assumption)) | exact hv1 (by assumption) (by first | exact half_yes2 (by omega) (by assumption) | exact half_yes4 (by omega) (by assumption)) (by first | exact half_no2 (by omega) (by assumption) | exact half_no4 (by omega) (by assumption)) | exact hv2 (by assumption) (by first | exact half_no2 (by omega) (by assumption) | exact half_no4 (by omega) (by assumption)) (by first | exact half_yes2 (by omega) (by assumption) | exact half_yes4 (by omega) (by assumption)) | exact hv0 (by assumption) (by first | exact half_no2 (by omega) (by assumption) | exact half_no4 (by omega) (by assumption)) (by first | exact half_no2 (by omega) (by assumption) | exact half_no4 (by omega) (by assumption))
  k_with "pyIter bytes" => skip
  repeat' ((fail_if_success (with_reducible show wpAny _ _ (pyIter _) _ _ _)); (first | (k_unfold; (try dsimp only)) | (k_end; wrow_close) | walk1 | (dsimp only; walk1) | (leave1; try dsimp only)))
  rename Fr _ _ _ _ => lF'
  rename News _ _ _ _ => lN'
  refine' one_bytes (σ := List Value × List Int × Nat) (fun c => [(_, PySem.W.listOf c.1.toArray c.2.2)]) (fun c => []) (fun c => IntsAre c.1 c.2.1) [PySem.Str.ofString "half"] (fun pre c => c.2.1 = Hs eta pre ∧ c.2.1.length ≤ 2 * pre.length) ([], [], 0) hb (by rfl) lF' ?kn ?kf ?kk ?kp ?_ ?_
  case kn => with_unfolding_all exact lN'
  case kf => exact .nil
  case kk => exact List.forall_mem_nil _
  case kp => exact hv_start eta
  all_goals clear lF' lN'
  · rintro ⟨vs1, cs1, k1⟩ pre post o t u h tk I oI hEq hlo hhi hltI hLI hf1 ⟨hP, hL⟩ F1 N1
    dsimp only [kstB] at F1
    dsimp only at N1 hf1 hP hL ⊢
    have l1 := hltI _ (.head _)
    dsimp only at l1
    clear hltI
    have hpl := congrArg List.length hEq
    rw [List.length_append, List.length_cons] at hpl
    have kLen := IntsAre.length hf1
    have kMark : KstMark := kstMark
    try k_fold
    k_steps
  · rintro ⟨vs1, cs1, k1⟩ u h tk hf1 ⟨hP, hL⟩ F1 N1
    dsimp only [kstB] at F1
    dsimp only at N1 hf1 hP hL ⊢
    have kLen := IntsAre.length hf1
    try k_fold
    k_steps
    subst hg'
    rename News _ _ _ _ => N'
    rename IntsAre _ _ => hI
    exact PureLeave.mk' (by assumption) fun keep => ret _ _ _ _ _ _ hI (by rw [hP]) (new_get N' (.head _)) (new_none N' (.head _)) keep
end
section
theorem whl_split {c : Prop} [Decidable c] {T F : Prop} (y : c → T) (n : ¬ c → F) : WhlIf (decide c) T F := by
  by_cases h : c
  · exact WhlIf.yes (decide_eq_true h) (y h)
  · exact WhlIf.no (decide_eq_false h) (n h)
/-- the dict of a sponge that has absorbed -/
abbrev shkD (w : World) (f : Addr) (bl : Int) (iv : Value) (a1 a2 a3 a5 a7 a9 a11 : Tok) (c : Int × Tok × Array UInt8 × Tok × Int × Tok) : Obj :=
  dictOf [⟨PyData.keyHash w.params (PySem.Str.ofString "algorithm"), .str (PySem.Str.ofString "algorithm") a1, .ref f⟩, ⟨PyData.keyHash w.params (PySem.Str.ofString "block_length"), .str (PySem.Str.ofString "block_length") a3, .int bl a2⟩, ⟨PyData.keyHash w.params (PySem.Str.ofString "buf"), .str (PySem.Str.ofString "buf") a5, .bytes c.2.2.1 c.2.2.2.1⟩, ⟨PyData.keyHash w.params (PySem.Str.ofString "len_buf"), .str (PySem.Str.ofString "len_buf") a7, .int c.2.2.2.2.1 c.2.2.2.2.2⟩, ⟨PyData.keyHash w.params (PySem.Str.ofString "index"), .str (PySem.Str.ofString "index") a9, .int c.1 c.2.1⟩, ⟨PyData.keyHash w.params (PySem.Str.ofString "input_bytes"), .str (PySem.Str.ofString "input_bytes") a11, iv⟩] 6
section
variable {prog : Program} {w : World} {A : Around} {h₀ : Heap} {L : Addr} {m : PySem.Str → Option Value} {env : Env} {elt : PySem.Expr} {x : PySem.Str} {scope : Scope} {cl : List (PySem.Str × Addr)} {s : Shared} {S : List (Addr × Obj) → Prop} {Fin : List Value → List (Addr × Obj) → Prop}
theorem off_swap {I C D a : Addr} {o o' : Obj} {post : List (Addr × Obj)} : ∀ {pre : List (Addr × Obj)}, LCg.Off3 I C D (pre ++ (a, o) :: post) → LCg.Off3 I C D (pre ++ (a, o') :: post)
  | [], h => h
  | _ :: _, h => ⟨h.1, off_swap h.2⟩
/-- a comprehension over a range whose element turns one object of the ledger -/
theorem ci_range {σ : Type} {n : Nat} {a : Int} {sd : Addr} (D₁ : σ → Obj) (pre post : List (Addr × Obj)) (P : List Int → σ → Prop) (c₀ : σ) (hp : P [] c₀)
    (turn : ∀ (c : σ) (r : List Int) t I oI C oC D m₂ ys h tk (E' : Value → Shared → Prop), r.length < n → IntsAre ys r → P r c → LCg.NsObj oC m₂ → m₂ x = some (.int (a + (r.length : Int)) t) → Fr h₀ L h m → News h₀ L h ((I, oI) :: (C, oC) :: (D, LCg.lst ys) :: (pre ++ (sd, D₁ c) :: post)) → LCg.Off3 I C D (pre ++ (sd, D₁ c) :: post) → ((@Ne Nat I C) ∧ (@Ne Nat I D) ∧ (@Ne Nat C D)) →
      wpAny (model prog w) A (eval elt (compEnvC scope cl C env)) (LCg.CompEnd h₀ L m { s with heap := h, toks := tk } I oI C oC D (LCg.lst ys) S (fun y news' => ∃ c' v t', news' = pre ++ (sd, D₁ c') :: post ∧ y = .int v t' ∧ P (r ++ [v]) c')) E' { s with heap := h, toks := tk })
    (fin : ∀ (c : σ) r ys, r.length = n → IntsAre ys r → P r c → Fin ys (pre ++ (sd, D₁ c) :: post)) :
    LCg.CompRest prog w A h₀ L m env elt x scope cl s S (fun i v => ∃ t, v = .int (a + (i : Int)) t) Fin n 0 [] (pre ++ (sd, D₁ c₀) :: post) := by
  have key : ∀ (j i : Nat) (ys : List Value) (r : List Int) (c : σ), i + j = n → r.length = i → IntsAre ys r → P r c → LCg.CompRest prog w A h₀ L m env elt x scope cl s S (fun i v => ∃ t, v = .int (a + (i : Int)) t) Fin j i ys (pre ++ (sd, D₁ c) :: post) := by
    intro j
    induction j with
    | zero =>
      intro i ys r c hi hr hy hP
      exact LCg.CompRest.zero (fin c r ys (by omega) hy hP)
    | succ j ih =>
      intro i ys r c hi hr hy hP
      refine LCg.CompRest.succ ?_
      rintro v I oI C oC D m₂ h tk E' ⟨t, hv⟩ hC hx F N off ne
      rw [hv, ← hr] at hx
      refine wpAny_mono (turn c r t I oI C oC D m₂ ys h tk E' (by omega) hy hP hC hx F N off ne) (fun y s₂ hq => ?_) fun _ _ e => e
      obtain ⟨h', tk', nw, e, F', N', off', hS, c', v', t', hn, hy', hP'⟩ := hq
      subst hn hy'
      exact ⟨h', tk', _, e, F', N', off', hS, ih (i + 1) _ _ c' (by omega) (by rw [List.length_append, List.length_singleton, hr]) (IntsAre.append hy (.cons v' t' .nil)) hP'⟩
  exact key n 0 [] [] c₀ (by omega) rfl .nil hp
/-- the end of such a turn -/
theorem ci_end {σ : Type} {I C D sd : Addr} {oI oC oD o₀ : Obj} {D₁ : σ → Obj} {pre post all : List (Addr × Obj)} {P : σ → Int → Prop} {s₁ : Shared} {h' : Heap} {tk : Nat} {v : Int} {t : Tok} (c' : σ)
    (F : Fr h₀ L h' m) (N : News h₀ L h' all) (hm : (sd, D₁ c') ∈ all) (h1 : (I, oI) ∈ all) (h2 : (C, oC) ∈ all) (h3 : (D, oD) ∈ all) (hpre : ∀ p ∈ pre, p ∈ all) (hpost : ∀ p ∈ post, p ∈ all) (off : LCg.Off3 I C D (pre ++ (sd, o₀) :: post)) (hS : S (pre ++ (sd, D₁ c') :: post)) (hP : P c' v) :
    LCg.CompEnd h₀ L m s₁ I oI C oC D oD S (fun y news' => ∃ c' v t', news' = pre ++ (sd, D₁ c') :: post ∧ y = .int v t' ∧ P c' v) (.int v t) { s₁ with heap := h', toks := tk } := by
  refine LCg.CompEnd.intro F N _ ?_ (off_swap off) hS ⟨c', v, t, rfl, rfl, hP⟩
  intro p hp
  rcases List.mem_cons.mp hp with rfl | hp
  · exact h1
  rcases List.mem_cons.mp hp with rfl | hp
  · exact h2
  rcases List.mem_cons.mp hp with rfl | hp
  · exact h3
  rcases List.mem_append.mp hp with hp | hp
  · exact hpre p hp
  rcases List.mem_cons.mp hp with rfl | hp
  · exact hm
  · exact hpost p hp
end
theorem oct_byte {k : Int} (h0 : 0 ≤ k) (h1 : k < 256) : ((k.toNat.toUInt8).toNat : Int) = k := by
  obtain ⟨n, rfl⟩ := Int.eq_ofNat_of_zero_le h0
  have hn : n < 256 := by omega
  rw [Int.toNat_natCast]
  show ((n.toUInt8).toNat : Int) = n
  rw [show (n.toUInt8).toNat = n % 256 from rfl, Nat.mod_eq_of_lt hn]
theorem seed_two {a b : Int} (ha0 : 0 ≤ a) (ha1 : a < 256) (hb0 : 0 ≤ b) (hb1 : b < 256) : List.map (fun c : UInt8 => ((c.toNat : Nat) : Int)) [a.toNat.toUInt8, b.toNat.toUInt8] = [a, b] := by
  simp only [List.map_cons, List.map_nil, oct_byte ha0 ha1, oct_byte hb0 hb1]
end
section
/-- octets -/
def Octs (os : List Int) : Prop := ∀ y ∈ os, 0 ≤ y ∧ y < 256
/-! octets read out of the buffer -/
theorem cut_take {os : List Int} {n k j : Nat} (hk : k + j ≤ n) : ((os.take n).drop k).take j = (os.drop k).take j := by
  rw [List.drop_take, List.take_take, Nat.min_eq_left (by omega)]
theorem picked_cut {b : Array UInt8} {os : List Int} {n j : Nat} {a e : Int} (hb : KBw.bInts b = os.take n) (h0 : 0 ≤ a) (he : e = a + (j : Int)) (h1 : e ≤ (n : Int)) (hn : n ≤ os.length) :
    KBw.bInts (KBy.picked b (some a) (some e)) = (os.drop a.toNat).take j := by
  subst he
  rw [KBc.ints_picked hb (some a) (some (a + (j : Int)))]
  obtain ⟨k, rfl⟩ := Int.eq_ofNat_of_zero_le h0
  have hl : (os.take n).length = n := by rw [List.length_take]; omega
  rw [hl]
  show ((os.take n).drop (clipAt n (k : Int))).take (clipAt n ((k : Int) + (j : Int)) - clipAt n (k : Int)) = _
  have e1 : clipAt n (k : Int) = k := by rw [clipAt_nat]; omega
  have e2 : clipAt n ((k : Int) + (j : Int)) = k + j := by
    have := clipAt_nat n (k + j)
    rw [show ((k + j : Nat) : Int) = (k : Int) + (j : Int) from Int.natCast_add k j] at this
    rw [this]; omega
  rw [e1, e2, Nat.add_sub_cancel_left, Int.toNat_natCast]
  exact cut_take (by omega)
theorem getD_at {os : List Int} {k : Nat} (h : k < os.length) : os.getD k 0 = os[k] := by simp [List.getD, h]
theorem drop3 {os : List Int} {k : Nat} (h : k + 3 ≤ os.length) : (os.drop k).take 3 = [os.getD k 0, os.getD (k + 1) 0, os.getD (k + 2) 0] := by
  have e1 := List.drop_eq_getElem_cons (show k < os.length by omega)
  have e2 := List.drop_eq_getElem_cons (show k + 1 < os.length by omega)
  have e3 := List.drop_eq_getElem_cons (show k + 2 < os.length by omega)
  rw [e1, e2, e3, getD_at (show k < os.length by omega), getD_at (show k + 1 < os.length by omega), getD_at (show k + 2 < os.length by omega)]
  rfl
theorem drop1 {os : List Int} {k : Nat} (h : k < os.length) : (os.drop k).take 1 = [os.getD k 0] := by
  rw [List.drop_eq_getElem_cons h, getD_at h]
  rfl
theorem picked3 {b : Array UInt8} {os : List Int} {n : Nat} {a : Int} (hb : KBw.bInts b = os.take n) (h0 : 0 ≤ a) (h1 : a + 3 ≤ (n : Int)) (hn : n ≤ os.length) :
    KBw.bInts (KBy.picked b (some a) (some (a + 3))) = [os.getD a.toNat 0, os.getD (a + 1).toNat 0, os.getD (a + 2).toNat 0] := by
  refine (picked_cut (j := 3) (e := a + 3) hb h0 rfl h1 hn).trans ?_
  rw [drop3 (by omega), show (a + 1).toNat = a.toNat + 1 by omega, show (a + 2).toNat = a.toNat + 2 by omega]
theorem picked1 {b : Array UInt8} {os : List Int} {n : Nat} {a : Int} (hb : KBw.bInts b = os.take n) (h0 : 0 ≤ a) (h1 : a + 1 ≤ (n : Int)) (hn : n ≤ os.length) :
    KBw.bInts (KBy.picked b (some a) (some (a + 1))) = [os.getD a.toNat 0] := by
  refine (picked_cut (j := 1) (e := a + 1) hb h0 rfl h1 hn).trans ?_
  rw [drop1 (by omega)]
section
variable {prog : Program} {w : World} {A : Around} {E : Value → Shared → Prop} {s : Shared} {h₀ : Heap} {L : Addr} {news : List (Addr × Obj)} {Q : Value → Shared → Prop}
theorem fb3 {x : Addr} {b : Array UInt8} {t u : Tok} {os : List Int} {n : Nat} {a : Int} (N : News h₀ L s.heap news) (hm : (x, KFB.bound) ∈ news) (hb : KBw.bInts b = os.take n) (h0 : 0 ≤ a) (h1 : a + 3 ≤ (n : Int)) (hn : n ≤ os.length)
    (h : ∀ t' k, Q (.int (leI [os.getD a.toNat 0, os.getD (a + 1).toNat 0, os.getD (a + 2).toNat 0]) t') { s with toks := k }) : wpAny (model prog w) A (call (.ref x) [.bytes (KBy.picked b (some a) (some (a + 3))) t, .str (PySem.Str.ofString "little") u]) Q E s :=
  fb_call N hm (picked3 hb h0 h1 hn) (by show 3 ≤ 4096; decide) h
theorem fb3r {x : Addr} {b : Array UInt8} {t u : Tok} {os : List Int} {a : Int} (N : News h₀ L s.heap news) (hm : (x, KFB.bound) ∈ news) (hb : KBw.bInts b = (os.drop a.toNat).take (3 : Int).toNat) (h0 : 0 ≤ a) (h1 : a + 3 ≤ (os.length : Int))
    (h : ∀ t' k, Q (.int (leI [os.getD a.toNat 0, os.getD (a + 1).toNat 0, os.getD (a + 2).toNat 0]) t') { s with toks := k }) : wpAny (model prog w) A (call (.ref x) [.bytes b t, .str (PySem.Str.ofString "little") u]) Q E s :=
  fb_call N hm (hb.trans (by rw [show (3 : Int).toNat = 3 from rfl, drop3 (by omega), show (a + 1).toNat = a.toNat + 1 by omega, show (a + 2).toNat = a.toNat + 2 by omega])) (by show 3 ≤ 4096; decide) h
theorem and23 {t u : Tok} {os : List Int} {a : Int} (ho : Octs os) (h : ∀ t' k, Q (.int (thrI os a) t') { s with toks := k }) :
    wpAny (model prog w) A (inplaceOp .BitAnd (.int (leI [os.getD a.toNat 0, os.getD (a + 1).toNat 0, os.getD (a + 2).toNat 0]) t) (.int 8388607 u)) Q E s := by
  have e : Builtin.bitAnd (leI [os.getD a.toNat 0, os.getD (a + 1).toNat 0, os.getD (a + 2).toNat 0]) 8388607 = thrI os a := by
    have k := kbt_maskF (leI [os.getD a.toNat 0, os.getD (a + 1).toNat 0, os.getD (a + 2).toNat 0]) 23
    rw [show ((2 : Int) ^ 23 - 1) = 8388607 by decide, show ((2 : Int) ^ 23) = 8388608 by decide] at k
    rw [k, mask23 ho]
    rfl
  exact iand_int (by rw [e]; exact h _ _)
theorem and23s {t u : Tok} {os ns sd : List Int} {low a : Int} (hos : os = str03 ns sd low) (h : ∀ t' k, Q (.int (thrI os a) t') { s with toks := k }) :
    wpAny (model prog w) A (inplaceOp .BitAnd (.int (leI [os.getD a.toNat 0, os.getD (a + 1).toNat 0, os.getD (a + 2).toNat 0]) t) (.int 8388607 u)) Q E s :=
  and23 (hos ▸ str03_all ns sd low) h
end
/-! the word of the sampling of numbers of three octets -/
structure NtWord (os r : List Int) (a : Int) (bf : Array UInt8) (ln : Int) : Prop where
  a0 : 0 ≤ a
  a1 : a ≤ 27 + 6 * (r.length : Int)
  a2 : a ≤ ln
  l : ln = 840 ∨ ln = 1680
  b : KBw.bInts bf = os.take ln.toNat
  e : ThrEq os r a
theorem nt_start {os : List Int} {bf : Array UInt8} (h : KBw.bInts bf = os.take (5 * 168 : Int).toNat) : NtWord os [] 0 bf (5 * 168) := ⟨by decide, by decide, by decide, .inl (by decide), h, 0, rfl, rfl⟩
theorem nt_room {os r : List Int} {a : Int} {bf : Array UInt8} {ln : Int} (h : NtWord os r a bf ln) (hl : r.length < 256) : 0 ≤ a ∧ a ≤ 1557 ∧ a ≤ ln ∧ (ln = 840 ∨ ln = 1680) := by
  have h1 := h.a0; have h2 := h.a1; have h3 := h.a2; have h4 := h.l
  exact ⟨h1, by omega, h3, h4⟩
theorem nt_no {os r : List Int} {a : Int} {bf bf' : Array UInt8} {ln ln' : Int} (hf : Flows os) (h : NtWord os r a bf ln) (hl : r.length < 256) (hb : KBw.bInts bf' = os.take ln'.toNat) (hl' : ln' = 840 ∨ ln' = 1680) (h3 : a + 3 ≤ ln') (hq : ¬ thrI os a < 8380417) :
    NtWord os r (a + 3) bf' ln' := by
  obtain ⟨h0, h1, _, _⟩ := nt_room h hl
  have k := thr_no hf h.e h.a1 h0 rfl (by omega) hq
  exact ⟨k.1, k.2.1, h3, hl', hb, k.2.2.2⟩
theorem nt_yes {os r : List Int} {a : Int} {bf bf' : Array UInt8} {ln ln' : Int} (hf : Flows os) (h : NtWord os r a bf ln) (hl : r.length < 256) (hb : KBw.bInts bf' = os.take ln'.toNat) (hl' : ln' = 840 ∨ ln' = 1680) (h3 : a + 3 ≤ ln') (hq : thrI os a < 8380417) :
    NtWord os (r ++ [thrI os a]) (a + 3) bf' ln' := by
  obtain ⟨h0, h1, _, _⟩ := nt_room h hl
  have k := thr_yes hf h.e h.a1 h0 rfl (by omega) hq
  exact ⟨k.1, k.2.1, h3, hl', hb, k.2.2.2⟩
theorem nt_conj {os r : List Int} {a : Int} {bf : Array UInt8} {ln : Int} (h : NtWord os r a bf ln) (hl : r.length < 256) : 0 ≤ a ∧ a ≤ 1557 ∧ a ≤ ln ∧ (ln = 840 ∨ ln = 1680) ∧ KBw.bInts bf = os.take ln.toNat ∧ NtWord os r a bf ln := by
  obtain ⟨h1, h2, h3, h4⟩ := nt_room h hl
  exact ⟨h1, h2, h3, h4, h.b, h⟩
end
section
/-! digits of a stream -/
def dgs (V : Int) (nb n : Nat) : List Int := (List.range n).map fun k => V / 2 ^ (nb * k) % 2 ^ nb
theorem dgs_succ (V : Int) (nb n : Nat) : dgs V nb (n + 1) = dgs V nb n ++ [V / 2 ^ (nb * n) % 2 ^ nb] := by
  unfold dgs; rw [List.range_succ, List.map_append]; rfl
theorem dgs_len (V : Int) (nb n : Nat) : (dgs V nb n).length = n := by unfold dgs; simp
theorem leI_app : ∀ a b : List Int, leI (a ++ b) = leI a + 256 ^ a.length * leI b
  | [], b => by simp [leI]
  | d :: r, b => by
    show d + 256 * leI (r ++ b) = (d + 256 * leI r) + 256 ^ (r.length + 1) * leI b
    rw [leI_app r b, Int.pow_succ, Int.mul_add, Int.mul_comm (256 ^ r.length) 256, Int.mul_assoc]
    omega
theorem leI_in : ∀ a : List Int, (∀ y ∈ a, 0 ≤ y ∧ y < 256) → 0 ≤ leI a ∧ leI a < 256 ^ a.length
  | [], _ => by simp [leI]
  | d :: r, h => by
    have h1 := h d (.head _)
    have h2 := leI_in r fun y hy => h y (.tail _ hy)
    show 0 ≤ d + 256 * leI r ∧ d + 256 * leI r < 256 ^ (r.length + 1)
    rw [Int.pow_succ]
    omega
theorem p2pos (k : Nat) : (0 : Int) < 2 ^ k := Int.pow_pos (by decide)
/-- a low part does not see what stands above it -/
theorem low_dig {c R : Int} {nb t e : Nat} (h : nb * t + nb ≤ e) : (c + 2 ^ e * R) / 2 ^ (nb * t) % 2 ^ nb = c / 2 ^ (nb * t) % 2 ^ nb := by
  obtain ⟨d, rfl⟩ := Nat.exists_eq_add_of_le h
  have e1 : (2 : Int) ^ (nb * t + nb + d) = 2 ^ (nb * t) * (2 ^ nb * 2 ^ d) := by rw [Nat.add_assoc, Int.pow_add, Int.pow_add]
  rw [e1, Int.mul_assoc, Int.add_mul_ediv_left _ _ (Int.ne_of_gt (p2pos _)), Int.mul_assoc, Int.add_mul_emod_self_left]
theorem leI_drop {os : List Int} (ho : ∀ y ∈ os, 0 ≤ y ∧ y < 256) {j : Nat} (hj : j ≤ os.length) : leI os / 256 ^ j = leI (os.drop j) := by
  have e : os = os.take j ++ os.drop j := (List.take_append_drop j os).symm
  have hl : (os.take j).length = j := by rw [List.length_take]; omega
  have h1 := leI_in (os.take j) fun y hy => ho y (List.mem_of_mem_take hy)
  rw [hl] at h1
  have e2 : leI os = leI (os.take j) + 256 ^ j * leI (os.drop j) := by
    have := leI_app (os.take j) (os.drop j)
    rw [← e, hl] at this
    exact this
  rw [e2, Int.add_mul_ediv_left _ _ (Int.ne_of_gt (Int.lt_of_le_of_lt h1.1 h1.2)), Int.ediv_eq_zero_of_lt h1.1 h1.2, Int.zero_add]
theorem p256' (i : Nat) : (256 : Int) ^ i = 2 ^ (8 * i) := by rw [Int.pow_mul]; rfl
/-- a digit of a chunk is a digit of the whole -/
theorem chunk_dig {os : List Int} (ho : ∀ y ∈ os, 0 ≤ y ∧ y < 256) {nb i t : Nat} (ht : t < 8) (hl : nb * (i + 1) ≤ os.length) :
    leI ((os.drop (nb * i)).take nb) / 2 ^ (nb * t) % 2 ^ nb = leI os / 2 ^ (nb * (8 * i + t)) % 2 ^ nb := by
  have hl2 : nb * i + nb ≤ os.length := by rw [Nat.mul_add, Nat.mul_one] at hl; exact hl
  have e1 : (2 : Int) ^ (nb * (8 * i + t)) = 256 ^ (nb * i) * 2 ^ (nb * t) := by
    rw [p256', ← Int.pow_add]
    congr 1
    rw [Nat.mul_add]
    congr 1
    rw [Nat.mul_left_comm]
  rw [e1, ← Int.ediv_ediv_of_nonneg (Int.le_of_lt (Int.pow_pos (by decide))) , leI_drop ho (by omega)]
  · have e2 : os.drop (nb * i) = (os.drop (nb * i)).take nb ++ (os.drop (nb * i)).drop nb := (List.take_append_drop _ _).symm
    have hl3 : ((os.drop (nb * i)).take nb).length = nb := by rw [List.length_take, List.length_drop]; omega
    have e3 := leI_app ((os.drop (nb * i)).take nb) ((os.drop (nb * i)).drop nb)
    rw [← e2, hl3, p256'] at e3
    rw [e3]
    exact (low_dig (by have : nb * t + nb = nb * (t + 1) := by rw [Nat.mul_add, Nat.mul_one]
                       rw [this, Nat.mul_comm 8 nb]; exact Nat.mul_le_mul_left nb (by omega))).symm
end
section
/-! the ledger around a contract -/
theorem newsNil {g h : Heap} {L : Addr} : News g L h [] := fun _ hp => nomatch hp
theorem newsC {g h : Heap} {L : Addr} {p : Addr × PySem.Obj} {n : List (Addr × PySem.Obj)} (hp : h.get? p.1 = some p.2 ∧ p.1 ≠ L ∧ g.get? p.1 = none) (N : News g L h n) : News g L h (p :: n) := by
  intro q hq
  rcases List.mem_cons.mp hq with rfl | hq
  · exact hp
  · exact N q hq
theorem newsAt {g h : Heap} {L a : Addr} {o : PySem.Obj} {n : List (Addr × PySem.Obj)} (N : News g L h n) (hm : (a, o) ∈ n) : h.get? (a, o).1 = some (a, o).2 ∧ (a, o).1 ≠ L ∧ g.get? (a, o).1 = none := N _ hm
theorem news8 {g h : Heap} {L : Addr} {sx sd ring rd f c c1 T : Addr × PySem.Obj} {n : List (Addr × PySem.Obj)} (N : News g L h n) (h3 : ring ∈ n) (h4 : rd ∈ n) (h1 : sx ∈ n) (h2 : sd ∈ n) (h5 : f ∈ n) (h6 : c ∈ n) (h7 : c1 ∈ n) (h8 : T ∈ n) :
    News g L h [sx, sd, ring, rd, f, c, c1, T] := newsC (N _ h1) (newsC (N _ h2) (newsC (N _ h3) (newsC (N _ h4) (newsC (N _ h5) (newsC (N _ h6) (newsC (N _ h7) (newsC (N _ h8) newsNil)))))))
theorem news9 {g h : Heap} {L : Addr} {sx sd ring rd f c c3 c1 T : Addr × PySem.Obj} {n : List (Addr × PySem.Obj)} (N : News g L h n) (h3 : ring ∈ n) (h4 : rd ∈ n) (h1 : sx ∈ n) (h2 : sd ∈ n) (h5 : f ∈ n) (h6 : c ∈ n) (h9 : c3 ∈ n) (h7 : c1 ∈ n) (h8 : T ∈ n) :
    News g L h [sx, sd, ring, rd, f, c, c3, c1, T] := newsC (N _ h1) (newsC (N _ h2) (newsC (N _ h3) (newsC (N _ h4) (newsC (N _ h5) (newsC (N _ h6) (newsC (N _ h9) (newsC (N _ h7) (newsC (N _ h8) newsNil))))))))
theorem notinC {a b : Addr} {l : List Addr} (h : @Ne Nat a b) (hl : a ∉ l) : a ∉ b :: l := fun hm => (List.mem_cons.mp hm).elim (fun e => h e) hl
theorem keep8 {g h h' : Heap} {L a b1 b2 b3 b4 b5 b6 b7 b8 : Addr} {o : PySem.Obj} {n : List (Addr × PySem.Obj)} (N : News g L h n) (hm : (a, o) ∈ n) (keep : ∀ b o, h.get? b = some o → b ∉ [b1, b2, b3, b4, b5, b6, b7, b8] → h'.get? b = some o)
    (hne : (@Ne Nat a b1) ∧ (@Ne Nat a b2) ∧ (@Ne Nat a b3) ∧ (@Ne Nat a b4) ∧ (@Ne Nat a b5) ∧ (@Ne Nat a b6) ∧ (@Ne Nat a b7) ∧ (@Ne Nat a b8)) : h'.get? (a, o).1 = some (a, o).2 ∧ (a, o).1 ≠ L ∧ g.get? (a, o).1 = none := by
  obtain ⟨e1, e2, e3, e4, e5, e6, e7, e8⟩ := hne
  exact ⟨keep a o (N _ hm).1 (notinC e1 (notinC e2 (notinC e3 (notinC e4 (notinC e5 (notinC e6 (notinC e7 (notinC e8 (fun h => nomatch h)))))))) ), (N _ hm).2⟩
theorem keep9 {g h h' : Heap} {L a b1 b2 b3 b4 b5 b6 b7 b8 b9 : Addr} {o : PySem.Obj} {n : List (Addr × PySem.Obj)} (N : News g L h n) (hm : (a, o) ∈ n) (keep : ∀ b o, h.get? b = some o → b ∉ [b1, b2, b3, b4, b5, b6, b7, b8, b9] → h'.get? b = some o)
    (hne : (@Ne Nat a b1) ∧ (@Ne Nat a b2) ∧ (@Ne Nat a b3) ∧ (@Ne Nat a b4) ∧ (@Ne Nat a b5) ∧ (@Ne Nat a b6) ∧ (@Ne Nat a b7) ∧ (@Ne Nat a b8) ∧ (@Ne Nat a b9)) : h'.get? (a, o).1 = some (a, o).2 ∧ (a, o).1 ≠ L ∧ g.get? (a, o).1 = none := by
  obtain ⟨e1, e2, e3, e4, e5, e6, e7, e8, e9⟩ := hne
  exact ⟨keep a o (N _ hm).1 (notinC e1 (notinC e2 (notinC e3 (notinC e4 (notinC e5 (notinC e6 (notinC e7 (notinC e8 (notinC e9 (fun h => nomatch h)))))))) ) ), (N _ hm).2⟩
theorem fresh8 {g h : Heap} {L a cl b1 b2 b3 b4 b5 b6 b7 b8 : Addr} {o : PySem.Obj} {n : List (Addr × PySem.Obj)} (N : News g L h n) (hm : (a, o) ∈ n) (fr : ∀ b o, h.get? b = some o → b ∉ [b1, b2, b3, b4, b5, b6, b7, b8] → @Ne Nat b cl)
    (hne : (@Ne Nat a b1) ∧ (@Ne Nat a b2) ∧ (@Ne Nat a b3) ∧ (@Ne Nat a b4) ∧ (@Ne Nat a b5) ∧ (@Ne Nat a b6) ∧ (@Ne Nat a b7) ∧ (@Ne Nat a b8)) : @Ne Nat a cl := by
  obtain ⟨e1, e2, e3, e4, e5, e6, e7, e8⟩ := hne
  exact fr a o (N _ hm).1 (notinC e1 (notinC e2 (notinC e3 (notinC e4 (notinC e5 (notinC e6 (notinC e7 (notinC e8 (fun h => nomatch h)))))))))
theorem newsTail9 {g h : Heap} {L : Addr} {p : Addr × PySem.Obj} {n : List (Addr × PySem.Obj)} (N : News g L h (p :: n)) : News g L h n := fun q hq => N q (.tail _ hq)
theorem news6 {g : Heap} {L : Addr} {h : Heap} {n : List (Addr × PySem.Obj)} {a b c d e f : Addr × PySem.Obj} (N : News g L h n) (ha : a ∈ n) (hb : b ∈ n) (hc : c ∈ n) (hd : d ∈ n) (he : e ∈ n) (hf : f ∈ n) : News g L h [a, b, c, d, e, f] :=
  newsC (N _ ha) (newsC (N _ hb) (newsC (N _ hc) (newsC (N _ hd) (newsC (N _ he) (newsC (N _ hf) newsNil)))))
theorem news5' {g : Heap} {L : Addr} {h : Heap} {n : List (Addr × PySem.Obj)} {a b c d e : Addr × PySem.Obj} (N : News g L h n) (ha : a ∈ n) (hb : b ∈ n) (hc : c ∈ n) (hd : d ∈ n) (he : e ∈ n) : News g L h [a, b, c, d, e] :=
  newsC (N _ ha) (newsC (N _ hb) (newsC (N _ hc) (newsC (N _ hd) (newsC (N _ he) newsNil))))
end
section
theorem fbn {prog : Program} {w : World} {A : Around} {E : Value → Shared → Prop} {s : Shared} {h₀ : Heap} {L : Addr} {news : List (Addr × Obj)} {Q : Value → Shared → Prop} (j : Nat) {x : Addr} {b : Array UInt8} {t u : Tok} {os : List Int} {a e : Int} (N : News h₀ L s.heap news) (hm : (x, KFB.bound) ∈ news) (hb : KBw.bInts b = os) (h0 : 0 ≤ a) (he : e = a + (j : Int)) (h1 : e ≤ (os.length : Int)) (hj : j ≤ 4096)
    (h : ∀ t' k, Q (.int (leI ((os.drop a.toNat).take j)) t') { s with toks := k }) : wpAny (model prog w) A (call (.ref x) [.bytes (KBy.picked b (some a) (some e)) t, .str (PySem.Str.ofString "little") u]) Q E s :=
  fb_call N hm (picked_cut (n := os.length) (by rw [List.take_length]; exact hb) h0 he h1 (Nat.le_refl _)) (by rw [List.length_take, List.length_drop]; omega) h
theorem div_step {L : Int} {nb t : Nat} : (L / 2 ^ (nb * t)).fdiv (2 ^ nb) = L / 2 ^ (nb * (t + 1)) := by
  rw [Int.fdiv_eq_ediv_of_nonneg _ (Int.le_of_lt (p2pos nb)), Int.ediv_ediv_of_nonneg (Int.le_of_lt (p2pos _)), ← Int.pow_add, Nat.mul_add, Nat.mul_one]
theorem mod_step {L : Int} {nb t : Nat} : (L / 2 ^ (nb * t)).fmod (2 ^ nb) = L / 2 ^ (nb * t) % 2 ^ nb := Int.fmod_eq_emod_of_nonneg _ (Int.le_of_lt (p2pos nb))
theorem div_in {L B : Int} {e : Nat} (h0 : 0 ≤ L) (h1 : L < B) : 0 ≤ L / 2 ^ e ∧ L / 2 ^ e < B :=
  ⟨Int.ediv_nonneg h0 (Int.le_of_lt (p2pos e)), Int.lt_of_le_of_lt (Int.ediv_le_self _ h0) h1⟩
theorem dg_turn {V LL left2 : Int} {cs2 : List Int} {nb i q : Nat} (hP : cs2 = dgs V nb (8 * i + q)) (hL : left2 = LL / 2 ^ (nb * q)) (hC : LL / 2 ^ (nb * q) % 2 ^ nb = V / 2 ^ (nb * (8 * i + q)) % 2 ^ nb) :
    cs2 ++ [left2.fmod (2 ^ nb)] = dgs V nb (8 * i + (q + 1)) ∧ left2.fdiv (2 ^ nb) = LL / 2 ^ (nb * (q + 1)) := by
  subst hP hL
  rw [mod_step, div_step, hC, ← dgs_succ]
  exact ⟨rfl, rfl⟩
set_option maxHeartbeats 4000000 in
theorem dg_call18 {w : World} {p : Program} {loose : List Str} {mean : ExcName → Option Value} {mg mb : Str → Option Value} {dp un : Nat} {gd : Option (List Code)} {cn : Str} {cs : Scope} {a : Addr} {ccd : Value} {cl : List (Str × Addr)} {outer : List Env} {A₀ : Around} {base h₀ : Heap} {L : Addr} {m : Str → Option Value} {s : Shared} {Q E : Value → Shared → Prop}
    {l : Addr} {vs : List Value} {ns : List Int} {b : Array UInt8} {bt et : Tok} {os : List Int}
    (B : Below A₀ base outer h₀) (F : Fr h₀ L s.heap m) (X : (Mine3.hd.heap_1 w.params).In h₀) (T : Top p loose mean mg mb h₀) (hk : cs.kind = .function)
    (hl : base.IsList l vs.toArray) (hi : IntsAre vs ns) (hb : KBw.bInts b = os) (ho1 : os.length = 576) (hoa : ∀ y ∈ os, 0 ≤ y ∧ y < 256)
    (hd : dp + 1 < recursionLimit)
    (ret : ∀ x rs k h' tk' r, IntsAre rs r → r = dgs (leI os) 18 256 → h'.get? x = some (PySem.W.listOf rs.toArray k) → s.heap.get? x = none → (∀ b o, s.heap.get? b = some o → h'.get? b = some o) → Q (.ref x) { s with heap := h', toks := tk' }) :
    wpAny (model PySem.Challenge.rw_ji0010_03.row.prog w) (ktrTop dp un gd cn cs L a ccd cl outer) (call (.ref 613) [.bytes b bt, .int 18 et]) Q E s := by
  revert X; k_fill; intro X; w_top off
  k_with_none
  k_with "call builtin:list.append" => ((k_here; (rename (News _ _ _ [_, _, _, _]) => nX); (have nY := newsTail9 nX); (clear nX)))
  k_with "call ref" => ((k_here; (with_reducible show wpAny _ _ (call (Value.ref _) [Value.bytes (KBy.picked _ (some _) (some _)) _, Value.str (Str.ofString "little") _]) _ _ _); kfb_any; k_dflt (refine fbn 18 (by k_asm) (by k_mem) (by assumption) (by omega) (by rfl) (by omega) (by decide) ?_); intro _ _))
  refine wpAny_call ?_
  k_dflt (refine' code_pure ?k1 ?k2 ?k3 ?k5 ?kA ?kF ?kK ?k6 ?k7 ?k8 ?k9 ?kB ?_ ?c2 ?c3 ?c4 ?c5; (case kA => exact rfl); (case kF => exact rfl); (case kK => assumption); (case k1 => k_asm); (case k2 => k_asm); (case k3 => k_asm); (case k5 => k_asm); (case k6 => k_is); (case k7 => k_is); (case k8 => ktr_room); (case k9 => exact BindsTo.of_eq rfl); (case c5 => decide); (case kB => exact locs rfl); (case c2 => exact rfl); (case c3 => exact rfl); (case c4 => exact rfl); k_whole; intro g' L' h' hg' F' N' B' X' T'; (try dsimp only); (try k_lift B'))
  clear F T X
  k_fold
  k_with "pyIter ref" => skip
  repeat' ((fail_if_success (with_reducible show wpAny _ _ (pyIter _) _ _ _)); (first | (k_unfold; (try dsimp only)) | (k_end; wrow_close) | walk1 | (dsimp only; walk1) | (leave1; try dsimp only)))
  rename Fr _ _ _ _ => lF'
  rename News _ _ _ _ => lN'
  rename IsRange _ _ _ _ _ _ _ _ => hR
  rw [ho1] at hR
  refine' one_range (n := 32) (σ := List Value × List Int × Nat) (fun c => [(_, PySem.W.listOf c.1.toArray c.2.2)]) (fun c => []) (fun c => IntsAre c.1 c.2.1) [PySem.Str.ofString "left", PySem.Str.ofString "turn", PySem.Str.ofString "digit"] (fun i c => c.2.1 = dgs (leI os) 18 (8 * i)) ([], [], 0) (by rfl) hR (by decide) (by rfl) lF' ?kn ?kf ?kk ?kp ?_ ?_
  case kn => with_unfolding_all exact lN'
  case kf => exact .nil
  case kk => exact List.forall_mem_nil _
  case kp => exact rfl
  all_goals clear lF' lN'
  · rintro ⟨vs1, cs1, k1⟩ i kk t u h tk I oI hkk hi32 hltI hLI hf1 hP F1 N1
    dsimp only [kstB] at F1
    dsimp only at N1 hf1 hP ⊢
    have l1 := hltI _ (.head _)
    dsimp only at l1
    clear hltI
    have kLen := IntsAre.length hf1
    have kLen2 : cs1.length = 8 * i := by rw [hP, dgs_len]
    try k_fold
    repeat' ((fail_if_success (with_reducible show wpAny _ _ (pyIter _) _ _ _)); (first | (k_unfold; (try dsimp only)) | (k_end; wrow_close) | walk1 | (dsimp only; walk1) | (leave1; try dsimp only)))
    rename Fr _ _ _ _ => lF2
    rename News _ _ _ _ => lN2
    rename IsRange _ _ _ _ _ _ _ _ => hR2
    have hkt : kk.toNat = 18 * i := by omega
    rw [hkt] at lF2
    have hLL := leI_in (List.take 18 (List.drop (18 * i) os)) fun y hy => hoa y (List.mem_of_mem_drop (List.mem_of_mem_take hy))
    have hLl : (List.take 18 (List.drop (18 * i) os)).length = 18 := by rw [List.length_take, List.length_drop]; omega
    rw [hLl] at hLL
    have hCD : ∀ q : Nat, q < 8 → leI (List.take 18 (List.drop (18 * i) os)) / 2 ^ (18 * q) % 2 ^ 18 = leI os / 2 ^ (18 * (8 * i + q)) % 2 ^ 18 := fun q hq => chunk_dig hoa hq (by omega)
    obtain ⟨LL, hLd⟩ : ∃ LL, LL = leI (List.take 18 (List.drop (18 * i) os)) := ⟨_, rfl⟩
    rw [← hLd] at lF2 hLL hCD
    refine' one_range (n := 8) (σ := List Value × List Int × Nat × Int × Nat) (fun c => [(I, oI), (_, PySem.W.listOf c.1.toArray c.2.2.1)]) (fun c => [(PySem.Str.ofString "left", .int c.2.2.2.1 c.2.2.2.2)]) (fun c => IntsAre c.1 c.2.1) [PySem.Str.ofString "digit"] (fun q c => c.2.1 = dgs (leI os) 18 (8 * i + q) ∧ c.2.2.2.1 = LL / 2 ^ (18 * q)) (vs1, cs1, k1, LL, _) (by rfl) hR2 (by decide) (by rfl) lF2 ?kn2 ?kf2 ?kk2 ?kp2 ?_ ?_
    case kn2 => exact newsC (lN2 _ (by k_mem)) (newsC (lN2 _ (by k_mem)) newsNil)
    case kf2 => exact hf1
    case kk2 => kst_all
    case kp2 => exact ⟨hP, by rw [Nat.mul_zero, Int.pow_zero, Int.ediv_one]⟩
    all_goals clear lF2 lN2
    · rintro ⟨vs2, cs2, k2, left2, tl2⟩ q kq t2 u2 h2 tk2 I2 oI2 hkq hq8 hltI2 hLI2 hf2 ⟨hP2, hL2⟩ F2 N2
      dsimp only [kstB] at F2
      dsimp only at N2 hf2 hP2 hL2 ⊢
      have l2a := hltI2 _ (.head _)
      have l2b := hltI2 _ (.tail _ (.head _))
      dsimp only at l2a l2b
      clear hltI2
      have kLen3 := IntsAre.length hf2
      have kLen4 : cs2.length = 8 * i + q := by rw [hP2, dgs_len]
      have hin := div_in (e := 18 * q) hLL.1 hLL.2
      rw [← hL2] at hin
      have kMark : KstMark := kstMark
      k_with "state" => exact dg_turn hP2 hL2 (hCD q hq8)
      try k_fold
      k_steps
    · rintro ⟨vs2, cs2, k2, left2, tl2⟩ u2 h2 tk2 hf2 ⟨hP2, hL2⟩ F2 N2
      dsimp only [kstB] at F2
      dsimp only at N2 hf2 hP2 hL2 ⊢
      have kMark : KstMark := kstMark
      k_with "state" => exact hP2
      try k_fold
      k_steps
  · rintro ⟨vs1, cs1, k1⟩ u h tk hf1 hP F1 N1
    dsimp only [kstB] at F1
    dsimp only at N1 hf1 hP ⊢
    try k_fold
    k_steps
    subst hg'
    rename News _ _ _ _ => N'
    exact PureLeave.mk' (by assumption) fun keep => ret _ _ _ _ _ _ hf1 hP (new_get N' (.head _)) (new_none N' (.head _)) keep
set_option maxHeartbeats 4000000 in
theorem dg_call20 {w : World} {p : Program} {loose : List Str} {mean : ExcName → Option Value} {mg mb : Str → Option Value} {dp un : Nat} {gd : Option (List Code)} {cn : Str} {cs : Scope} {a : Addr} {ccd : Value} {cl : List (Str × Addr)} {outer : List Env} {A₀ : Around} {base h₀ : Heap} {L : Addr} {m : Str → Option Value} {s : Shared} {Q E : Value → Shared → Prop}
    {l : Addr} {vs : List Value} {ns : List Int} {b : Array UInt8} {bt et : Tok} {os : List Int}
    (B : Below A₀ base outer h₀) (F : Fr h₀ L s.heap m) (X : (Mine3.hd.heap_1 w.params).In h₀) (T : Top p loose mean mg mb h₀) (hk : cs.kind = .function)
    (hl : base.IsList l vs.toArray) (hi : IntsAre vs ns) (hb : KBw.bInts b = os) (ho1 : os.length = 640) (hoa : ∀ y ∈ os, 0 ≤ y ∧ y < 256)
    (hd : dp + 1 < recursionLimit)
    (ret : ∀ x rs k h' tk' r, IntsAre rs r → r = dgs (leI os) 20 256 → h'.get? x = some (PySem.W.listOf rs.toArray k) → s.heap.get? x = none → (∀ b o, s.heap.get? b = some o → h'.get? b = some o) → Q (.ref x) { s with heap := h', toks := tk' }) :
    wpAny (model PySem.Challenge.rw_ji0010_03.row.prog w) (ktrTop dp un gd cn cs L a ccd cl outer) (call (.ref 613) [.bytes b bt, .int 20 et]) Q E s := by
  revert X; k_fill; intro X; w_top off
  k_with_none
  k_with "call builtin:list.append" => ((k_here; (rename (News _ _ _ [_, _, _, _]) => nX); (have nY := newsTail9 nX); (clear nX)))
  k_with "call ref" => ((k_here; (with_reducible show wpAny _ _ (call (Value.ref _) [Value.bytes (KBy.picked _ (some _) (some _)) _, Value.str (Str.ofString "little") _]) _ _ _); kfb_any; k_dflt (refine fbn 18 (by k_asm) (by k_mem) (by assumption) (by omega) (by rfl) (by omega) (by decide) ?_); intro _ _))
  k_with "call ref" => ((k_here; (with_reducible show wpAny _ _ (call (Value.ref _) [Value.bytes (KBy.picked _ (some _) (some _)) _, Value.str (Str.ofString "little") _]) _ _ _); kfb_any; k_dflt (refine fbn 20 (by k_asm) (by k_mem) (by assumption) (by omega) (by rfl) (by omega) (by decide) ?_); intro _ _))
  refine wpAny_call ?_
  k_dflt (refine' code_pure ?k1 ?k2 ?k3 ?k5 ?kA ?kF ?kK ?k6 ?k7 ?k8 ?k9 ?kB ?_ ?c2 ?c3 ?c4 ?c5; (case kA => exact rfl); (case kF => exact rfl); (case kK => assumption); (case k1 => k_asm); (case k2 => k_asm); (case k3 => k_asm); (case k5 => k_asm); (case k6 => k_is); (case k7 => k_is); (case k8 => ktr_room); (case k9 => exact BindsTo.of_eq rfl); (case c5 => decide); (case kB => exact locs rfl); (case c2 => exact rfl); (case c3 => exact rfl); (case c4 => exact rfl); k_whole; intro g' L' h' hg' F' N' B' X' T'; (try dsimp only); (try k_lift B'))
  clear F T X
  k_fold
  k_with "pyIter ref" => skip
  repeat' ((fail_if_success (with_reducible show wpAny _ _ (pyIter _) _ _ _)); (first | (k_unfold; (try dsimp only)) | (k_end; wrow_close) | walk1 | (dsimp only; walk1) | (leave1; try dsimp only)))
  rename Fr _ _ _ _ => lF'
  rename News _ _ _ _ => lN'
  rename IsRange _ _ _ _ _ _ _ _ => hR
  rw [ho1] at hR
  refine' one_range (n := 32) (σ := List Value × List Int × Nat) (fun c => [(_, PySem.W.listOf c.1.toArray c.2.2)]) (fun c => []) (fun c => IntsAre c.1 c.2.1) [PySem.Str.ofString "left", PySem.Str.ofString "turn", PySem.Str.ofString "digit"] (fun i c => c.2.1 = dgs (leI os) 20 (8 * i)) ([], [], 0) (by rfl) hR (by decide) (by rfl) lF' ?kn ?kf ?kk ?kp ?_ ?_
  case kn => with_unfolding_all exact lN'
  case kf => exact .nil
  case kk => exact List.forall_mem_nil _
  case kp => exact rfl
  all_goals clear lF' lN'
  · rintro ⟨vs1, cs1, k1⟩ i kk t u h tk I oI hkk hi32 hltI hLI hf1 hP F1 N1
    dsimp only [kstB] at F1
    dsimp only at N1 hf1 hP ⊢
    have l1 := hltI _ (.head _)
    dsimp only at l1
    clear hltI
    have kLen := IntsAre.length hf1
    have kLen2 : cs1.length = 8 * i := by rw [hP, dgs_len]
    try k_fold
    repeat' ((fail_if_success (with_reducible show wpAny _ _ (pyIter _) _ _ _)); (first | (k_unfold; (try dsimp only)) | (k_end; wrow_close) | walk1 | (dsimp only; walk1) | (leave1; try dsimp only)))
    rename Fr _ _ _ _ => lF2
    rename News _ _ _ _ => lN2
    rename IsRange _ _ _ _ _ _ _ _ => hR2
    have hkt : kk.toNat = 20 * i := by omega
    rw [hkt] at lF2
    have hLL := leI_in (List.take 20 (List.drop (20 * i) os)) fun y hy => hoa y (List.mem_of_mem_drop (List.mem_of_mem_take hy))
    have hLl : (List.take 20 (List.drop (20 * i) os)).length = 20 := by rw [List.length_take, List.length_drop]; omega
    rw [hLl] at hLL
    have hCD : ∀ q : Nat, q < 8 → leI (List.take 20 (List.drop (20 * i) os)) / 2 ^ (20 * q) % 2 ^ 20 = leI os / 2 ^ (20 * (8 * i + q)) % 2 ^ 20 := fun q hq => chunk_dig hoa hq (by omega)
    obtain ⟨LL, hLd⟩ : ∃ LL, LL = leI (List.take 20 (List.drop (20 * i) os)) := ⟨_, rfl⟩
    rw [← hLd] at lF2 hLL hCD
    refine' one_range (n := 8) (σ := List Value × List Int × Nat × Int × Nat) (fun c => [(I, oI), (_, PySem.W.listOf c.1.toArray c.2.2.1)]) (fun c => [(PySem.Str.ofString "left", .int c.2.2.2.1 c.2.2.2.2)]) (fun c => IntsAre c.1 c.2.1) [PySem.Str.ofString "digit"] (fun q c => c.2.1 = dgs (leI os) 20 (8 * i + q) ∧ c.2.2.2.1 = LL / 2 ^ (20 * q)) (vs1, cs1, k1, LL, _) (by rfl) hR2 (by decide) (by rfl) lF2 ?kn2 ?kf2 ?kk2 ?kp2 ?_ ?_
    case kn2 => exact newsC (lN2 _ (by k_mem)) (newsC (lN2 _ (by k_mem)) newsNil)
    case kf2 => exact hf1
    case kk2 => kst_all
    case kp2 => exact ⟨hP, by rw [Nat.mul_zero, Int.pow_zero, Int.ediv_one]⟩
    all_goals clear lF2 lN2
    · rintro ⟨vs2, cs2, k2, left2, tl2⟩ q kq t2 u2 h2 tk2 I2 oI2 hkq hq8 hltI2 hLI2 hf2 ⟨hP2, hL2⟩ F2 N2
      dsimp only [kstB] at F2
      dsimp only at N2 hf2 hP2 hL2 ⊢
      have l2a := hltI2 _ (.head _)
      have l2b := hltI2 _ (.tail _ (.head _))
      dsimp only at l2a l2b
      clear hltI2
      have kLen3 := IntsAre.length hf2
      have kLen4 : cs2.length = 8 * i + q := by rw [hP2, dgs_len]
      have hin := div_in (e := 20 * q) hLL.1 hLL.2
      rw [← hL2] at hin
      have kMark : KstMark := kstMark
      k_with "state" => exact dg_turn hP2 hL2 (hCD q hq8)
      try k_fold
      k_steps
    · rintro ⟨vs2, cs2, k2, left2, tl2⟩ u2 h2 tk2 hf2 ⟨hP2, hL2⟩ F2 N2
      dsimp only [kstB] at F2
      dsimp only at N2 hf2 hP2 hL2 ⊢
      have kMark : KstMark := kstMark
      k_with "state" => exact hP2
      try k_fold
      k_steps
  · rintro ⟨vs1, cs1, k1⟩ u h tk hf1 hP F1 N1
    dsimp only [kstB] at F1
    dsimp only at N1 hf1 hP ⊢
    try k_fold
    k_steps
    subst hg'
    rename News _ _ _ _ => N'
    exact PureLeave.mk' (by assumption) fun keep => ret _ _ _ _ _ _ hf1 hP (new_get N' (.head _)) (new_none N' (.head _)) keep
end
section
def packF (nb : Nat) (l : List Int) : Int := l.foldl (fun r c => r * 2 ^ nb + c) 0
theorem packF_snoc (nb : Nat) (l : List Int) (c : Int) : packF nb (l ++ [c]) = packF nb l * 2 ^ nb + c := by unfold packF; rw [List.foldl_append]; rfl
theorem and_low (a b n : Nat) (h : b < 2 ^ n) : (2 ^ n * a) &&& b = 0 := by
  apply Nat.eq_of_testBit_eq
  intro i
  rw [Nat.testBit_and, Nat.testBit_two_pow_mul, Nat.zero_testBit]
  by_cases c : n ≤ i
  · have hb : b.testBit i = false := Nat.testBit_lt_two_pow (Nat.lt_of_lt_of_le h (Nat.pow_le_pow_right (by decide) c))
    rw [hb, Bool.and_false]
  · simp [c]
theorem bitOr_low {a c : Int} {nb : Nat} (ha : 0 ≤ a) (h0 : 0 ≤ c) (h1 : c < 2 ^ nb) : Builtin.bitOr (a * 2 ^ nb) c = a * 2 ^ nb + c := by
  obtain ⟨x, rfl⟩ := Int.eq_ofNat_of_zero_le ha
  obtain ⟨y, rfl⟩ := Int.eq_ofNat_of_zero_le h0
  have hp : ((2 : Int) ^ nb) = ((2 ^ nb : Nat) : Int) := by rw [Int.natCast_pow]; rfl
  rw [hp] at h1 ⊢
  have hy : y < 2 ^ nb := by exact_mod_cast h1
  have e : ((x : Int) * ((2 ^ nb : Nat) : Int)) = ((2 ^ nb * x : Nat) : Int) := by rw [Int.natCast_mul, Int.mul_comm]
  rw [bitOr_and, e]
  have hz : Builtin.bitAnd ((2 ^ nb * x : Nat) : Int) ((y : Nat) : Int) = 0 := by
    unfold Builtin.bitAnd
    rw [decide_eq_true (Int.natCast_nonneg _), decide_eq_true (Int.natCast_nonneg _)]
    show ((((2 ^ nb * x : Nat) : Int).toNat &&& ((y : Nat) : Int).toNat : Nat) : Int) = 0
    rw [Int.toNat_natCast, Int.toNat_natCast, and_low _ _ _ hy]
    rfl
  rw [hz, Int.sub_zero]
theorem bp_start {nb : Nat} : (0 : Int) ≤ 0 ∧ (0 : Int) < 2 ^ (nb * ([] : List Int).length) ∧ (0 : Int) = packF nb [] := ⟨by decide, p2pos _, rfl⟩
theorem bp_turn {nb : Nat} {pre : List Int} {r c : Int} (h0 : 0 ≤ r) (h1 : r < 2 ^ (nb * pre.length)) (he : r = packF nb pre) (_hl : pre.length ≤ 256) (hc0 : 0 ≤ c) (hc1 : c < 2 ^ nb) :
    0 ≤ r * 2 ^ nb + c ∧ r * 2 ^ nb + c < 2 ^ (nb * (pre ++ [c]).length) ∧ r * 2 ^ nb + c = packF nb (pre ++ [c]) := by
  have hp := p2pos nb
  refine ⟨Int.add_nonneg (Int.mul_nonneg h0 (Int.le_of_lt hp)) hc0, ?_, by rw [packF_snoc, ← he]⟩
  rw [List.length_append, List.length_singleton, Nat.mul_add, Nat.mul_one, Int.pow_add]
  have h2 : (r + 1) * 2 ^ nb ≤ 2 ^ (nb * pre.length) * 2 ^ nb := Int.mul_le_mul_of_nonneg_right (by omega) (Int.le_of_lt hp)
  rw [Int.add_mul, Int.one_mul] at h2
  omega
theorem bp_bits {nb n : Nat} {r : Int} (h0 : 0 ≤ r) (h1 : r < 2 ^ (nb * n)) (hn : nb * n ≤ 5120) : Builtin.Int.intBits r ≤ 5120 := by
  have h2 : r < 256 ^ 640 := by
    rw [p256']
    refine Int.lt_of_lt_of_le h1 ?_
    obtain ⟨d, hd⟩ := Nat.exists_eq_add_of_le hn
    rw [show 8 * 640 = nb * n + d from hd, Int.pow_add]
    have h9 := Int.mul_le_mul_of_nonneg_left (show (1 : Int) ≤ 2 ^ d from p2pos d) (Int.le_of_lt (p2pos (nb * n)))
    rw [Int.mul_one] at h9
    exact h9
  have := KTBy.bits_le (k := 640) rfl h0 h2
  omega
theorem bp_room {nb : Nat} {r : Int} (h : r < 2 ^ (nb * 256)) : r < 256 ^ (32 * nb) := by
  rw [p256', show 8 * (32 * nb) = nb * 256 by omega]
  exact h
section
variable {prog : Program} {w : World} {A : Around} {E : Value → Shared → Prop} {s : Shared} {Q : Value → Shared → Prop}
theorem shl_ok {nb n : Nat} {r e : Int} {t u : Tok} (he : e = (nb : Int)) (h0 : 0 ≤ r) (h1 : r < 2 ^ (nb * n)) (hn : nb * n ≤ 5120) (hnb : nb ≤ 64) (h : ∀ t k, Q (.int (r * 2 ^ nb) t) { s with toks := k }) : wpAny (model prog w) A (inplaceOp .LShift (.int r t) (.int e u)) Q E s := by
  subst he
  have hb := bp_bits h0 h1 hn
  refine ilshift_int (by omega) (by have e9 : (2 : Int) ^ 27 = 134217728 := by decide
                                    omega) ?_
  rw [Int.toNat_natCast]
  exact h _ _
theorem or_ok {nb : Nat} {r c : Int} {t u : Tok} (h0 : 0 ≤ r) (hc0 : 0 ≤ c) (hc1 : c < 2 ^ nb) (h : ∀ t k, Q (.int (r * 2 ^ nb + c) t) { s with toks := k }) : wpAny (model prog w) A (inplaceOp .BitOr (.int (r * 2 ^ nb) t) (.int c u)) Q E s :=
  ior_int (by rw [bitOr_low h0 hc0 hc1]; exact h _ _)
end
set_option maxHeartbeats 4000000 in
theorem bp_call18 {w : World} {p : Program} {loose : List Str} {mean : ExcName → Option Value} {mg mb : Str → Option Value} {dp un : Nat} {gd : Option (List Code)} {cn : Str} {cs : Scope} {a : Addr} {ccd : Value} {cl : List (Str × Addr)} {outer : List Env} {A₀ : Around} {base h₀ : Heap} {L : Addr} {m : Str → Option Value} {s : Shared} {Q E : Value → Shared → Prop}
    {x : Addr} {xv : List Value} {xs : List Int} {u1 u2 : Tok}
    (B : Below A₀ base outer h₀) (F : Fr h₀ L s.heap m) (X : (Mine3.hd.heap_1 w.params).In h₀) (T : Top p loose mean mg mb h₀) (hk : cs.kind = .function)
    (hl : s.heap.IsList x xv.toArray) (hi : IntsAre xv xs) (hn : xs.length = 256) (hxr : ∀ y ∈ xs, 0 ≤ y ∧ y < 2 ^ 18)
    (hd : dp + 1 < recursionLimit)
    (ret : ∀ b t h' tk', KBw.bInts b = KTBy.little 576 (packF 18 xs.reverse) → (∀ b o, s.heap.get? b = some o → h'.get? b = some o) → Q (.bytes b t) { s with heap := h', toks := tk' }) :
    wpAny (model PySem.Challenge.rw_ji0010_03.row.prog w) (ktrTop dp un gd cn cs L a ccd cl outer) (call (.ref 460) [.ref x, .int 18 u1, .int 576 u2]) Q E s := by
  revert X; k_fill; intro X; w_top off
  k_with_none
  k_with "inplaceOp LShift int int" => ((k_here; k_dflt (refine shl_ok (nb := 18) rfl (by assumption) (by assumption) (by omega) (by decide) ?_); intro _ _))
  k_with "inplaceOp BitOr int int" => ((k_here; k_dflt (refine or_ok (nb := 18) (by assumption) (by assumption) (by assumption) ?_); intro _ _))
  k_with "call builtin:int.to_bytes" => ((k_here; k_dflt (refine tb_little (k := 576) (by decide) (by assumption) (bp_room (by assumption)) ?_); intro _ _ _ _))
  refine wpAny_call ?_
  k_dflt (refine' code_pure ?k1 ?k2 ?k3 ?k5 ?kA ?kF ?kK ?k6 ?k7 ?k8 ?k9 ?kB ?_ ?c2 ?c3 ?c4 ?c5; (case kA => exact rfl); (case kF => exact rfl); (case kK => assumption); (case k1 => k_asm); (case k2 => k_asm); (case k3 => k_asm); (case k5 => k_asm); (case k6 => k_is); (case k7 => k_is); (case k8 => ktr_room); (case k9 => exact BindsTo.of_eq rfl); (case c5 => decide); (case kB => exact locs rfl); (case c2 => exact rfl); (case c3 => exact rfl); (case c4 => exact rfl); k_whole; intro g' L' h' hg' F' N' B' X' T'; (try dsimp only); (try k_lift B'))
  clear F T X
  rw [← hg'] at hl
  k_fold
  k_with "pyIter ref" => skip
  repeat' ((fail_if_success (with_reducible show wpAny _ _ (pyIter _) _ _ _)); (first | (k_unfold; (try dsimp only)) | (k_end; wrow_close) | walk1 | (dsimp only; walk1) | (leave1; try dsimp only)))
  rename Fr _ _ _ _ => lF'
  rename News _ _ _ _ => lN'
  refine' one_rev (σ := Int × Nat) (fun c => [(PySem.Str.ofString "r", .int c.1 c.2)]) [] (fun pre c => 0 ≤ c.1 ∧ c.1 < 2 ^ (18 * pre.length) ∧ c.1 = packF 18 pre) (0, _) (by rfl) hl hi lF' lN' ?kk bp_start ?_ ?_
  case kk => kst_all
  all_goals clear lF' lN'
  · rintro ⟨r, tr⟩ pre cc t u h tk oI hmem hpl ⟨hr0, hr1, hr2⟩ F1 N1
    dsimp only [kstB] at F1
    dsimp only at N1 hr0 hr1 hr2 ⊢
    obtain ⟨hc0, hc1⟩ := hxr cc hmem
    have kMark : KstMark := kstMark
    k_with "state" => exact bp_turn hr0 hr1 hr2 (by omega) hc0 hc1
    try k_fold
    k_steps
  · rintro ⟨r, tr⟩ u h tk ⟨hr0, hr1, hr2⟩ F1
    dsimp only [kstB] at F1
    dsimp only at hr0 hr1 hr2 ⊢
    rw [List.length_reverse, hn] at hr1
    have N1 : News g' L' h [] := newsNil
    try k_fold
    k_steps
    subst hg'
    rename (KBw.bInts _ = KTBy.little _ _) => hTb
    exact PureLeave.mk' (by assumption) fun keep => ret _ _ _ _ (hTb.trans (by rw [hr2])) keep
set_option maxHeartbeats 4000000 in
theorem bp_call20 {w : World} {p : Program} {loose : List Str} {mean : ExcName → Option Value} {mg mb : Str → Option Value} {dp un : Nat} {gd : Option (List Code)} {cn : Str} {cs : Scope} {a : Addr} {ccd : Value} {cl : List (Str × Addr)} {outer : List Env} {A₀ : Around} {base h₀ : Heap} {L : Addr} {m : Str → Option Value} {s : Shared} {Q E : Value → Shared → Prop}
    {x : Addr} {xv : List Value} {xs : List Int} {u1 u2 : Tok}
    (B : Below A₀ base outer h₀) (F : Fr h₀ L s.heap m) (X : (Mine3.hd.heap_1 w.params).In h₀) (T : Top p loose mean mg mb h₀) (hk : cs.kind = .function)
    (hl : s.heap.IsList x xv.toArray) (hi : IntsAre xv xs) (hn : xs.length = 256) (hxr : ∀ y ∈ xs, 0 ≤ y ∧ y < 2 ^ 20)
    (hd : dp + 1 < recursionLimit)
    (ret : ∀ b t h' tk', KBw.bInts b = KTBy.little 640 (packF 20 xs.reverse) → (∀ b o, s.heap.get? b = some o → h'.get? b = some o) → Q (.bytes b t) { s with heap := h', toks := tk' }) :
    wpAny (model PySem.Challenge.rw_ji0010_03.row.prog w) (ktrTop dp un gd cn cs L a ccd cl outer) (call (.ref 460) [.ref x, .int 20 u1, .int 640 u2]) Q E s := by
  revert X; k_fill; intro X; w_top off
  k_with_none
  k_with "inplaceOp LShift int int" => ((k_here; k_dflt (refine shl_ok (nb := 18) rfl (by assumption) (by assumption) (by omega) (by decide) ?_); intro _ _))
  k_with "inplaceOp BitOr int int" => ((k_here; k_dflt (refine or_ok (nb := 18) (by assumption) (by assumption) (by assumption) ?_); intro _ _))
  k_with "call builtin:int.to_bytes" => ((k_here; k_dflt (refine tb_little (k := 576) (by decide) (by assumption) (bp_room (by assumption)) ?_); intro _ _ _ _))
  k_with "inplaceOp LShift int int" => ((k_here; k_dflt (refine shl_ok (nb := 20) rfl (by assumption) (by assumption) (by omega) (by decide) ?_); intro _ _))
  k_with "inplaceOp BitOr int int" => ((k_here; k_dflt (refine or_ok (nb := 20) (by assumption) (by assumption) (by assumption) ?_); intro _ _))
  k_with "call builtin:int.to_bytes" => ((k_here; k_dflt (refine tb_little (k := 640) (by decide) (by assumption) (bp_room (by assumption)) ?_); intro _ _ _ _))
  refine wpAny_call ?_
  k_dflt (refine' code_pure ?k1 ?k2 ?k3 ?k5 ?kA ?kF ?kK ?k6 ?k7 ?k8 ?k9 ?kB ?_ ?c2 ?c3 ?c4 ?c5; (case kA => exact rfl); (case kF => exact rfl); (case kK => assumption); (case k1 => k_asm); (case k2 => k_asm); (case k3 => k_asm); (case k5 => k_asm); (case k6 => k_is); (case k7 => k_is); (case k8 => ktr_room); (case k9 => exact BindsTo.of_eq rfl); (case c5 => decide); (case kB => exact locs rfl); (case c2 => exact rfl); (case c3 => exact rfl); (case c4 => exact rfl); k_whole; intro g' L' h' hg' F' N' B' X' T'; (try dsimp only); (try k_lift B'))
  clear F T X
  rw [← hg'] at hl
  k_fold
  k_with "pyIter ref" => skip
  repeat' ((fail_if_success (with_reducible show wpAny _ _ (pyIter _) _ _ _)); (first | (k_unfold; (try dsimp only)) | (k_end; wrow_close) | walk1 | (dsimp only; walk1) | (leave1; try dsimp only)))
  rename Fr _ _ _ _ => lF'
  rename News _ _ _ _ => lN'
  refine' one_rev (σ := Int × Nat) (fun c => [(PySem.Str.ofString "r", .int c.1 c.2)]) [] (fun pre c => 0 ≤ c.1 ∧ c.1 < 2 ^ (20 * pre.length) ∧ c.1 = packF 20 pre) (0, _) (by rfl) hl hi lF' lN' ?kk bp_start ?_ ?_
  case kk => kst_all
  all_goals clear lF' lN'
  · rintro ⟨r, tr⟩ pre cc t u h tk oI hmem hpl ⟨hr0, hr1, hr2⟩ F1 N1
    dsimp only [kstB] at F1
    dsimp only at N1 hr0 hr1 hr2 ⊢
    obtain ⟨hc0, hc1⟩ := hxr cc hmem
    have kMark : KstMark := kstMark
    k_with "state" => exact bp_turn hr0 hr1 hr2 (by omega) hc0 hc1
    try k_fold
    k_steps
  · rintro ⟨r, tr⟩ u h tk ⟨hr0, hr1, hr2⟩ F1
    dsimp only [kstB] at F1
    dsimp only at hr0 hr1 hr2 ⊢
    rw [List.length_reverse, hn] at hr1
    have N1 : News g' L' h [] := newsNil
    try k_fold
    k_steps
    subst hg'
    rename (KBw.bInts _ = KTBy.little _ _) => hTb
    exact PureLeave.mk' (by assumption) fun keep => ret _ _ _ _ (hTb.trans (by rw [hr2])) keep
end
section
/-- what the called def stands on: all of the caller's heap but the ledger's objects -/
def Stood (h g : Heap) (adr : List Addr) : Prop := ∀ b o, h.get? b = some o → b ∉ adr → g.get? b = some o
theorem fresh_of {h g h' : Heap} {L cl : Addr} {o : Obj} {adr : List Addr} {n : List (Addr × Obj)} (GS : Stood h g adr) (N : News g L h' n) (hm : (cl, o) ∈ n) : ∀ b o, h.get? b = some o → b ∉ adr → @Ne Nat b cl := by
  intro b o' e nb eq
  have h1 := GS b o' e nb
  have h2 := (N _ hm).2.2
  have eq' : b = cl := eq
  rw [eq'] at h1
  rw [h1] at h2
  cases h2
section
variable {prog : Program} {w : World} {A₀ A : Around} {s : Shared} {base h₀ : Heap} {outer : List Env} {L : Addr} {m : PySem.Str → Option Value} {env : Env} {news : List (Addr × Obj)} {K : Frag}
  {R : Result → Shared → Prop} {name qual : PySem.Str} {params : Arguments} {body : List Stmt} {scope : Scope} {dV kV doc pm cdv ct oc : Value} {an od : Option Addr} {osl : Array (Option Value)} {f : Addr} {args : Args} {binds : List (PySem.Str × Value)}
  {p : Program} {loose : List PySem.Str} {mean : ExcName → Option Value} {mg mb : PySem.Str → Option Value}
theorem eff_cells (B : Below A₀ base outer h₀) (F : Fr h₀ L s.heap m) (X₀ : K.In h₀) (N : News h₀ L s.heap news) (T : Top p loose mean mg mb h₀) (hA : A.frames = some (env :: outer)) (hf : env.frame = some L) (hke : env.scope.kind = .function)
    (ho : K.lookup f = some ⟨oc, od, .func (fnOf name qual params body scope dV kV doc pm an cdv ct), osl⟩) (hcd : codeIn K cdv qual = true) (hroom : A.depth < recursionLimit)
    (hbind : BindsTo s (fnOf name qual params body scope dV kV doc pm an cdv ct) args binds) (hkind : (binds.all fun y => scope.names.lookup y.1 == some .local || scope.names.lookup y.1 == some .cell) = true)
    (hnd : ((cellsFrom 0 scope.names []).map (·.1)).Nodup)
    (h : ∀ g L' h₁ tk cells, Stood s.heap g (news.map (·.1)) → Fr g L' h₁ (bindL (envOfC qual scope L' f cdv).kindOf binds fun _ => none) → News g L' h₁ (cells ++ news) →
      CellsAre (bindC (envOfC qual scope L' f cdv).kindOf binds fun _ => none) (cellsFrom (L' + 1) scope.names []) cells → Below A base (env :: outer) g → K.In g → Top p loose mean mg mb g → (∀ p ∈ news, p.1 < L') →
      wpAny (model prog w) (A.deeper (envOfC qual scope L' f cdv)) (execs body (envOfC qual scope L' f cdv))
        (fun fl s' => LeaveK h₀ L m g R (match fl with | .ret v => v | _ => .none) s')
        (fun e s' => wpAny (model prog w) (A.deeper (envOfC qual scope L' f cdv)) (leaving (envOfC qual scope L' f cdv) e) (fun _ s'' => R (.error e) s'') (fun e' s'' => R (.error e') s'') s')
        { s with heap := h₁, toks := tk })
    (hco : scope.isCoroutine = false) (hgen : scope.isGenerator = false) (hk : scope.kind = .function) : codeAny (model prog w) A (.call (.ref f) args) R s := by
  obtain ⟨FG, BG, st, lv⟩ := groundX (R := R) B F N hA hf hke
  have Xg : K.In (hideAll s.heap (news.map (·.1))) := X₀.keeps st
  have Tg : Top p loose mean mg mb (hideAll s.heap (news.map (·.1))) := T.keeps st
  have XF := X₀.keeps F.keep
  refine codeAny_call_function hroom (XF _ _ ho) rfl hco hgen rfl (codeRec_of XF hcd) (hbind _ _ _ _ ?_)
  refine wpAny_newFunctionEnv_cells hk (kindsX hkind _) fun env' he s' x => ?_
  subst he
  refine ⟨(T.nolimit.keeps F.keep).keeps x.toInCall.keep, codeAny_func ?_⟩
  obtain ⟨h₁, tk, rfl, _⟩ := x.done
  have kept := x.toInCall.keep
  have nd : ((cellsFrom (s.heap.objs.size + 1) scope.names []).map (·.1)).Nodup := cellsFrom_names scope.names 0 (s.heap.objs.size + 1) [] [] rfl ▸ hnd
  obtain ⟨cells, NC, Y⟩ := Cl.news (h₀ := s.heap) (Nat.le_refl _) fun n c hm => ⟨x.cell n c (lookup_of_mem_nodup nd hm), x.above n c hm⟩
  have lows : ∀ p ∈ news, p.1 < s.heap.objs.size := fun p hp => Heap.lt_size (N p hp).1
  refine wpAny_mono (h (hideAll s.heap (news.map (·.1))) s.heap.objs.size h₁ tk cells (fun b o e n => hideAll_get _ e n) ⟨x.toInCall.ns, fun b o e => kept b o (of_hideAll _ e), Nat.le_of_eq (hideAll_size _ _)⟩ ?_ Y BG Xg Tg lows) (fun fl s' hl => lv _ _ hl) fun _ _ y => y
  intro q hq
  rcases List.mem_append.mp hq with hq | hq
  · have hc := NC q hq
    refine ⟨hc.1, hc.2.1, ?_⟩
    cases e : (hideAll s.heap (news.map (·.1))).get? q.1 with
    | none => rfl
    | some o =>
      have e2 := of_hideAll _ e
      rw [hc.2.2] at e2
      cases e2
  · exact ⟨kept _ _ (N q hq).1, Nat.ne_of_lt (lows q hq), hideAll_none _ (List.mem_map_of_mem hq)⟩
theorem eff_plain (B : Below A₀ base outer h₀) (F : Fr h₀ L s.heap m) (X₀ : K.In h₀) (N : News h₀ L s.heap news) (T : Top p loose mean mg mb h₀) (hA : A.frames = some (env :: outer)) (hf : env.frame = some L) (hke : env.scope.kind = .function)
    (ho : K.lookup f = some ⟨oc, od, .func (fnOf name qual params body scope dV kV doc pm an cdv ct), osl⟩) (hcd : codeIn K cdv qual = true) (hroom : A.depth < recursionLimit)
    (hbind : BindsTo s (fnOf name qual params body scope dV kV doc pm an cdv ct) args binds) (hloc : ∀ y ∈ binds, scope.names.lookup y.1 = some .local)
    (h : ∀ g L' h₁, Stood s.heap g (news.map (·.1)) → Fr g L' h₁ (fun y => binds.reverse.lookup y) → News g L' h₁ news → Below A base (env :: outer) g → K.In g → Top p loose mean mg mb g → (∀ p ∈ news, p.1 < L') →
      wpAny (model prog w) (A.deeper (envOf qual scope L' f cdv)) (execs body (envOf qual scope L' f cdv))
        (fun fl s' => LeaveK h₀ L m g R (match fl with | .ret v => v | _ => .none) s')
        (fun e s' => wpAny (model prog w) (A.deeper (envOf qual scope L' f cdv)) (leaving (envOf qual scope L' f cdv) e) (fun _ s'' => R (.error e) s'') (fun e' s'' => R (.error e') s'') s')
        { s with heap := h₁, toks := s.toks + binds.length })
    (hco : scope.isCoroutine = false) (hgen : scope.isGenerator = false) (hk : scope.kind = .function)
    (hcell : ∀ x ∈ scope.names, x.2 ≠ .cell) : codeAny (model prog w) A (.call (.ref f) args) R s := by
  obtain ⟨FG, BG, st, lv⟩ := groundX (R := R) B F N hA hf hke
  have Xg : K.In (hideAll s.heap (news.map (·.1))) := X₀.keeps st
  have Tg : Top p loose mean mg mb (hideAll s.heap (news.map (·.1))) := T.keeps st
  have XF := X₀.keeps F.keep
  have lows : ∀ p ∈ news, p.1 < s.heap.objs.size := fun p hp => Heap.lt_size (N p hp).1
  refine codeAny_call_def (fd := fnOf name qual params body scope dV kV doc pm an cdv ct) (body := body) (binds := binds) hroom (XF _ _ ho) rfl (T.nolimit.keeps F.keep) (codeRec_of XF hcd) rfl hbind hcell hloc (fun h₁ hns hk₁ => ?_) hco hgen hk
  refine wpAny_mono (h (hideAll s.heap (news.map (·.1))) s.heap.objs.size h₁ (fun b o e n => hideAll_get _ e n) ⟨hns, fun b o e => hk₁ b o (of_hideAll _ e), Nat.le_of_eq (hideAll_size _ _)⟩ (fun q hq => ⟨hk₁ _ _ (N q hq).1, Nat.ne_of_lt (lows q hq), hideAll_none _ (List.mem_map_of_mem hq)⟩) BG Xg Tg lows) (fun fl s' hl => lv _ _ hl) fun _ _ y => y
end
end
section
section
variable {w : World} {p : Program} {loose : List Str} {mean : ExcName → Option Value} {mg mb : Str → Option Value} {dp un : Nat} {gd : Option (List Code)} {cn : Str} {cs : Scope} {a : Addr} {ccd : Value} {cl : List (Str × Addr)} {outer : List Env} {A₀ : Around} {base h₀ : Heap} {L : Addr} {m : Str → Option Value} {s : Shared} {Q E : Value → Shared → Prop}
theorem stream_callN {l : Addr} {vs : List Value} {ns : List Int} {sb : Array UInt8} {st : Tok} {sd : List Int} {many : Int} {mt : Tok} {low : Int} {lt : Tok} {news : List (Addr × Obj)}
    (B : Below A₀ base outer h₀) (F : Fr h₀ L s.heap m) (X : (Mine3.hd.heap_1 w.params).In h₀) (N : News h₀ L s.heap news) (T : Top p loose mean mg mb h₀) (hk : cs.kind = .function)
    (hl : base.IsList l vs.toArray) (hi : IntsAre vs ns) (hn : ns.length ≤ 63) (hsb : KBw.bInts sb = sd) (hsd : sd.length ≤ 64) (hm0 : 0 ≤ many) (hm1 : many ≤ 1752) (hl0 : 0 ≤ low) (hl1 : low ≤ 281474976710655)
    (hd : dp + 1 < recursionLimit)
    (ret : ∀ b t h' tk', KBw.bInts b = (str03 ns sd low).take many.toNat → Fr h₀ L h' m → News h₀ L h' news → Q (.bytes b t) { s with heap := h', toks := tk' }) :
    wpAny (model PySem.Challenge.rw_ji0010_03.row.prog w) (ktrTop dp un gd cn cs L a ccd cl outer) (call (.ref 592) [.ref l, .bytes sb st, .int many mt, .int low lt]) Q E s :=
  stream_call B F X T hk hl hi hn hsb hsd hm0 hm1 hl0 hl1 hd fun b t h' tk' hb keep => ret b t h' tk' hb (F.keeps keep) fun q hq => ⟨keep _ _ (N q hq).1, (N q hq).2⟩
theorem br_callN {i : Int} {it mt : Tok} {news : List (Addr × Obj)}
    (B : Below A₀ base outer h₀) (F : Fr h₀ L s.heap m) (X : (Mine3.hd.heap_1 w.params).In h₀) (N : News h₀ L s.heap news) (T : Top p loose mean mg mb h₀) (hk : cs.kind = .function)
    (hi0 : 0 ≤ i) (hi1 : i < 256)
    (hd : dp + 1 < recursionLimit)
    (ret : ∀ t h' tk', 0 ≤ brVal i → brVal i < 256 → Fr h₀ L h' m → News h₀ L h' news → Q (.int (brVal i) t) { s with heap := h', toks := tk' }) :
    wpAny (model PySem.Challenge.rw_ji0010_03.row.prog w) (ktrTop dp un gd cn cs L a ccd cl outer) (call (.ref 301) [.int i it, .int 8 mt]) Q E s :=
  br_call B F X T hk hi0 hi1 hd fun t h' tk' h1 h2 keep => ret t h' tk' h1 h2 (F.keeps keep) fun q hq => ⟨keep _ _ (N q hq).1, (N q hq).2⟩
end
def lowL : List Int := [131941395333119, 131941386420223, 131941386420223, 281474976710655]
def lowOf (k : Int) : Int := lowL.getD k.toNat 0
theorem lowOf_in (k : Int) : 0 ≤ lowOf k ∧ lowOf k ≤ 281474976710655 := by
  unfold lowOf
  generalize k.toNat = n
  match n with
  | 0 => decide
  | 1 => decide
  | 2 => decide
  | 3 => decide
  | n + 4 => exact ⟨by simp [lowL], by simp [lowL]⟩
theorem low_item {prog : Program} {w : World} {A : Around} {E : Value → Shared → Prop} {s : Shared} {h₀ : Heap} {L a : Addr} {news : List (Addr × Obj)} {n : Nat} {value slice : PySem.Expr} {l : List Value} {k : Int} {u : Tok} {Q : Value → Shared → Prop} (N : News h₀ L s.heap news)
    (hm : (a, PySem.W.listOf l.toArray n) ∈ news) (hi : IntsAre l [131941395333119, 131941386420223, 131941386420223, 281474976710655]) (h : ∀ t, 0 ≤ lowOf (k.fmod 4) → lowOf (k.fmod 4) ≤ 281474976710655 → Q (.int (lowOf (k.fmod 4)) t) s)
    (hs : subscripted slice false (.ref a) (.int (k.fmod 4) u) = operate [.ref a, .int (k.fmod 4) u] (getItem (.ref a) (.int (k.fmod 4) u)) := by with_unfolding_all rfl) :
    wpAny (model prog w) A (subscriptTail value slice (.ref a) (.int (k.fmod 4) u)) Q E s := by
  have h1 := Int.fmod_nonneg_of_pos k (by decide : (0 : Int) < 4)
  have h2 := Int.fmod_lt_of_pos k (by decide : (0 : Int) < 4)
  obtain ⟨t, hx⟩ := hi.get (k.fmod 4).toNat _ (ints_getD h1 h2)
  have hL : s.heap.IsList a l.toArray := ⟨_, (N _ hm).1, rfl, _, rfl⟩
  exact tail_any hL.typeIs slot_list_getitem.lookup (wpAny_getItem_list hL h1 (by omega) (by rw [show l.toArray[(k.fmod 4).toNat]? = l[(k.fmod 4).toNat]? by simp]; exact hx) (h t (lowOf_in _).1 (lowOf_in _).2)) hs
def EndTrue3 (g : Heap) (L : Addr) (s : Shared) (f : Flow) (s' : Shared) : Prop :=
  ∃ h' tk m' news' ps1 ps2 ps3, f = .ret (.bool true) ∧ s' = { s with heap := h', toks := tk } ∧ Fr g L h' m' ∧ News g L h' news' ∧ (318, tabObj ps1) ∈ news' ∧ (313, tabObj ps2) ∈ news' ∧ (615, tabObj ps3) ∈ news'
theorem endTrue3_of {M : Model} {A : Around} {t : Sem Flow} {Q : Flow → Shared → Prop} {E : Value → Shared → Prop} {s : Shared} {g : Heap} {L : Addr} {m : Str → Option Value} (_F : Fr g L s.heap m)
    (h : wpAny M A t (EndTrue3 g L s) (fun _ _ => False) s) (fin : ∀ f s', EndTrue3 g L s f s' → Q f s') : wpAny M A t Q E s := wpAny_mono h fin fun _ _ h => h.elim
theorem lk_use {K : Frag} {a : Addr} {o o' : Obj} (h : K.lookup a = some o) (h' : K.lookup a = some o') : o = o' := Option.some.inj (h.symm.trans h')
theorem def_use {l : List Stmt} {i : Nat} {a b : Stmt} (h : l[i]? = some a) (h' : l[i]? = some b) : b = a := Option.some.inj (h'.symm.trans h)
end
section
set_option maxHeartbeats 4000000 in
theorem hb_call {w : World} {p : Program} {loose : List Str} {mean : ExcName → Option Value} {mg mb : Str → Option Value} {dp un : Nat} {gd : Option (List Code)} {cn : Str} {cs : Scope} {a : Addr} {ccd : Value} {cl : List (Str × Addr)} {outer : List Env} {A₀ : Around} {base h₀ : Heap} {L : Addr} {m : Str → Option Value} {s : Shared} {Q E : Value → Shared → Prop}
    {oc : Value} {od : Option Addr} {name qual : Str} {params : Arguments} {body : List Stmt} {scope : Scope} {dV kV doc pm ct : Value} {an : Option Addr} {osl : Array (Option Value)}
    (hlk : (Mine3.hd.heap_1 w.params).lookup 321 = some ⟨oc, od, .func (fnOf name qual params body scope dV kV doc pm an (.ref 320) ct), osl⟩)
    {nm : Str} {prm : Arguments} {bd : List Stmt} {deco : List PySem.Expr} {rets : Option PySem.Expr} {tps : List TypeParam} {sc : Scope} {tsc : Option Scope} {bind : Str} {pos : Pos}
    (hdef : body[0]? = some (Stmt.FunctionDef nm prm bd deco rets tps sc tsc bind pos))
    {f c : Addr} {oc1 : PySem.Obj} {cvs : Array Value} {qn : Str} {tq : Tok} {dc pm1 ct1 : Value} {news : List (Addr × PySem.Obj)} {j eta : Int} {jt et : Tok}
    (B : Below A₀ base outer h₀) (F : Fr h₀ L s.heap m) (X : (Mine3.hd.heap_1 w.params).In h₀) (N : News h₀ L s.heap news) (T : Top p loose mean mg mb h₀) (hk : cs.kind = .function)
    (hm1 : (f, fnMade nm qn prm bd sc [] dc pm1 c ct1) ∈ news) (hm2 : (c, oc1) ∈ news) (hoc : oc1.data = .fields cvs) (hcv : cvs[1]? = some (.str qn tq)) (heta : eta = 2 ∨ eta = 4)
    (hd : dp + 1 < recursionLimit)
    (retN : ∀ h' tk', [] = half eta j → Fr h₀ L h' m → News h₀ L h' news → Q .none { s with heap := h', toks := tk' })
    (retI : ∀ x t h' tk', [x] = half eta j → Fr h₀ L h' m → News h₀ L h' news → Q (.int x t) { s with heap := h', toks := tk' }) :
    wpAny (model PySem.Challenge.rw_ji0010_03.row.prog w) (ktrTop dp un gd cn cs L a ccd cl outer) (call (.ref f) [.int j jt, .int eta et]) Q E s := by
  revert X; k_fill; intro X; w_top off
  k_with_none
  refine' ((fun e => ?_) : (_ : PySem.Obj) = _ → _) (lk_use hlk ?lk)
  case lk => k_is
  cases e
  clear hlk
  refine' ((fun e => ?_) : (_ : Stmt) = _ → _) (def_use hdef ?lk2)
  case lk2 => exact rfl
  cases e
  clear hdef
  refine wpAny_call ?_
  k_dflt (refine' code_nest ?k1 ?k2 ?k3 ?k4 ?k5 ?kA ?kF ?kK hm1 (codeRec_news N hm2 hoc hcv) ?k8 ?k9 ?kB ?_ ?c2 ?c3 ?c4 ?c5; (case kA => exact rfl); (case kF => exact rfl); (case kK => assumption); (case k1 => k_asm); (case k2 => k_asm); (case k3 => k_asm); (case k4 => k_asm); (case k5 => k_asm); (case k8 => ktr_room); (case k9 => exact BindsTo.of_eq rfl); (case c5 => decide); (case kB => exact locs rfl); (case c2 => exact rfl); (case c3 => exact rfl); (case c4 => exact rfl); k_whole; intro g' L' h' FG' F' N' B' X' T'; (try dsimp only); (try k_lift B'); (try k_fold))
  clear F X
  k_steps
  all_goals
    rename Fr _ _ _ _ => F9
    rename News _ _ _ _ => N9
    first
      | exact leaveK_ F9 N9 (fun Fc Nc => retI _ _ _ _ (by first | exact half_yes2 (by omega) (by omega) | exact half_yes4 (by omega) (by omega)) Fc Nc)
      | exact leaveK_ F9 N9 (fun Fc Nc => retN _ _ (by first | exact half_no2 (by omega) (by omega) | exact half_no4 (by omega) (by omega)) Fc Nc)
end
section
/-! one turn of the bounded sampling -/
def BdWord (eta : Int) (os cs : List Int) (i a : Int) : Prop := 0 ≤ a ∧ a ≤ 384 ∧ 0 ≤ i ∧ i ≤ 256 ∧ cs.length = 256 ∧ (i < 256 → a < 384) ∧ BdEq eta os cs i a
theorem bd_next {eta : Int} {os cs cs' l1 l2 : List Int} {i i' a : Int} (hf : FlowsH eta os) (hol : 390 ≤ os.length) (h : BdEq eta os cs i a) (h0 : 0 ≤ a) (ha : a < 384) (hi : i < 256)
    (e1 : l1 = half eta ((os.getD a.toNat 0).fmod 16)) (e2 : l2 = half eta ((os.getD a.toNat 0).fdiv 16))
    (ei : i' = ((min 256 (Hs eta (os.take a.toNat) ++ (l1 ++ l2)).length : Nat) : Int)) (ec : cs' = Wd (Hs eta (os.take a.toNat) ++ (l1 ++ l2))) : BdWord eta os cs' i' (a + 1) := by
  have et : (a + 1).toNat = a.toNat + 1 := by omega
  have eh : Hs eta (os.take (a + 1).toNat) = Hs eta (os.take a.toNat) ++ (l1 ++ l2) := by
    rw [et, take_snoc (by omega), Hs_snoc, e1, e2]
    rfl
  have hb : BdEq eta os cs' i' (a + 1) := ⟨by rw [eh]; exact ei, by rw [eh]; exact ec⟩
  refine ⟨by omega, by omega, by rw [ei]; exact Int.natCast_nonneg _, ?_, by rw [ec]; exact Wd_len _, fun hi' => bd_room hf hb (by omega) (by omega) hi', hb⟩
  rw [ei]
  have := Nat.min_le_left 256 (Hs eta (os.take a.toNat) ++ (l1 ++ l2)).length
  omega
theorem bd_here {eta : Int} {os cs : List Int} {i a : Int} (h : BdEq eta os cs i a) (hi : i < 256) : (Hs eta (os.take a.toNat)).length = i.toNat ∧ (Hs eta (os.take a.toNat)).length < 256 ∧ 0 ≤ i := by
  have := h.e1
  omega
theorem bd0 {eta : Int} {os cs : List Int} {i a : Int} (hf : FlowsH eta os) (hol : 390 ≤ os.length) (h : BdEq eta os cs i a) (h0 : 0 ≤ a) (ha : a < 384) (hi : i < 256)
    (e1 : [] = half eta ((os.getD a.toNat 0).fmod 16)) (e2 : [] = half eta ((os.getD a.toNat 0).fdiv 16)) : BdWord eta os cs i (a + 1) :=
  bd_next hf hol h h0 ha hi e1 e2 (by rw [List.append_nil, List.append_nil]; exact h.e1) (by rw [List.append_nil, List.append_nil]; exact h.e2)
theorem bd1 {eta x : Int} {os cs : List Int} {i a : Int} (hf : FlowsH eta os) (hol : 390 ≤ os.length) (h : BdEq eta os cs i a) (h0 : 0 ≤ a) (ha : a < 384) (hi : i < 256)
    (e1 : [x] = half eta ((os.getD a.toNat 0).fmod 16)) (e2 : [] = half eta ((os.getD a.toNat 0).fdiv 16)) : BdWord eta os (cs.set i.toNat x) (i + 1) (a + 1) := by
  obtain ⟨hl, hl2, hi0⟩ := bd_here h hi
  refine bd_next hf hol h h0 ha hi e1 e2 ?_ ?_
  · rw [List.append_nil, List.length_append, List.length_singleton]
    omega
  · rw [List.append_nil, h.e2, ← hl]
    exact Wd_push hl2
theorem bd2 {eta x : Int} {os cs : List Int} {i a : Int} (hf : FlowsH eta os) (hol : 390 ≤ os.length) (h : BdEq eta os cs i a) (h0 : 0 ≤ a) (ha : a < 384) (hi : i < 256)
    (e1 : [] = half eta ((os.getD a.toNat 0).fmod 16)) (e2 : [x] = half eta ((os.getD a.toNat 0).fdiv 16)) : BdWord eta os (cs.set i.toNat x) (i + 1) (a + 1) := by
  obtain ⟨hl, hl2, hi0⟩ := bd_here h hi
  refine bd_next hf hol h h0 ha hi e1 e2 ?_ ?_
  · rw [List.nil_append, List.length_append, List.length_singleton]
    omega
  · rw [List.nil_append, h.e2, ← hl]
    exact Wd_push hl2
theorem bd3 {eta x y : Int} {os cs : List Int} {i a : Int} (hf : FlowsH eta os) (hol : 390 ≤ os.length) (h : BdEq eta os cs i a) (h0 : 0 ≤ a) (ha : a < 384) (hi : i < 256) (hi2 : i + 1 < 256)
    (e1 : [x] = half eta ((os.getD a.toNat 0).fmod 16)) (e2 : [y] = half eta ((os.getD a.toNat 0).fdiv 16)) : BdWord eta os ((cs.set i.toNat x).set (i + 1).toNat y) (i + 1 + 1) (a + 1) := by
  obtain ⟨hl, hl2, hi0⟩ := bd_here h hi
  refine bd_next hf hol h h0 ha hi e1 e2 ?_ ?_
  · rw [List.length_append, List.length_append, List.length_singleton, List.length_singleton]
    omega
  · rw [h.e2, ← hl, Wd_push hl2, show (i + 1).toNat = (Hs eta (os.take a.toNat) ++ [x]).length by rw [List.length_append, List.length_singleton]; omega]
    rw [Wd_push (by rw [List.length_append, List.length_singleton]; omega), List.append_assoc]
theorem bd4 {eta x y : Int} {os cs : List Int} {i a : Int} (hf : FlowsH eta os) (hol : 390 ≤ os.length) (h : BdEq eta os cs i a) (h0 : 0 ≤ a) (ha : a < 384) (hi : i < 256) (hi2 : ¬ i + 1 < 256)
    (e1 : [x] = half eta ((os.getD a.toNat 0).fmod 16)) (e2 : [y] = half eta ((os.getD a.toNat 0).fdiv 16)) : BdWord eta os (cs.set i.toNat x) (i + 1) (a + 1) := by
  obtain ⟨hl, hl2, hi0⟩ := bd_here h hi
  refine bd_next hf hol h h0 ha hi e1 e2 ?_ ?_
  · rw [List.length_append, List.length_append, List.length_singleton, List.length_singleton]
    omega
  · rw [h.e2, ← hl, Wd_push hl2, ← List.append_assoc]
    exact (Wd_full (by rw [List.length_append, List.length_singleton]; omega)).symm
theorem bd_start {eta : Int} {os : List Int} (hf : FlowsH eta os) : BdWord eta os (List.replicate 256 0) 0 0 := by
  refine ⟨by decide, by decide, by decide, by decide, by simp, fun _ => by decide, ⟨?_, ?_⟩⟩
  · simp [Hs]
  · simp [Hs, Wd]
theorem bd_start2 {eta : Int} {os : List Int} (hf : FlowsH eta os) : BdWord eta os (List.map (fun _ : Int => (0 : Int)) (rangeKs 0 ((256 : Int) - 0).toNat)) 0 0 := by
  have e : List.map (fun _ : Int => (0 : Int)) (rangeKs 0 ((256 : Int) - 0).toNat) = List.replicate 256 0 := by
    rw [List.map_const', rangeKs_length]
    rfl
  rw [e]
  exact bd_start hf
theorem seed_row {row : Int} (h0 : 0 ≤ row) (h1 : row < 256) : KTBy.little 2 row = [row, 0] := by
  show [row % 256, row / 256 % 256] = _
  rw [show row % 256 = row by omega, show row / 256 % 256 = 0 by omega]
theorem seed_row2 {row : Int} (h0 : 0 ≤ row) (h1 : row < 256) : [row % 256, row / 256 % 256] = [row, 0] := seed_row h0 h1
section
variable {prog : Program} {w : World} {A : Around} {E : Value → Shared → Prop} {s : Shared} {value slice : PySem.Expr} {Q : Value → Shared → Prop}
theorem item1r {b : Array UInt8} {os : List Int} {a : Int} {t ui : Tok} (hb : KBw.bInts b = (os.drop a.toNat).take (1 : Int).toNat) (h0 : 0 ≤ a) (h1 : a + 1 ≤ (os.length : Int))
    (h : ∀ t' k, 0 ≤ os.getD a.toNat 0 → os.getD a.toNat 0 < 256 → Q (.int (os.getD a.toNat 0) t') { s with toks := k })
    (hs : subscripted slice false (.bytes b t) (.int 0 ui) = operate [.bytes b t, .int 0 ui] (getItem (.bytes b t) (.int 0 ui)) := by with_unfolding_all rfl)
    (ht : ∀ r, letTemporaryGo value (.bytes b t) r = pure () := by intro _; with_unfolding_all rfl) :
    wpAny (model prog w) A (subscriptTail value slice (.bytes b t) (.int 0 ui)) Q E s :=
  KBw.item_K (hb.trans (drop1 (by omega))) (by show 1 ≤ _; decide) (by decide) (by show (0 : Int) < ((1 : Nat) : Int); decide) (fun t' k a b => h t' k a b) hs ht
theorem item1 {b : Array UInt8} {os : List Int} {n : Nat} {a : Int} {t ui : Tok} (hb : KBw.bInts b = os.take n) (h0 : 0 ≤ a) (h1 : a + 1 ≤ (n : Int)) (hn : n ≤ os.length)
    (h : ∀ t' k, 0 ≤ os.getD a.toNat 0 → os.getD a.toNat 0 < 256 → Q (.int (os.getD a.toNat 0) t') { s with toks := k })
    (hs : subscripted slice false (.bytes (KBy.picked b (some a) (some (a + 1))) t) (.int 0 ui) = operate [.bytes (KBy.picked b (some a) (some (a + 1))) t, .int 0 ui] (getItem (.bytes (KBy.picked b (some a) (some (a + 1))) t) (.int 0 ui)) := by with_unfolding_all rfl)
    (ht : ∀ r, letTemporaryGo value (.bytes (KBy.picked b (some a) (some (a + 1))) t) r = pure () := by intro _; with_unfolding_all rfl) :
    wpAny (model prog w) A (subscriptTail value slice (.bytes (KBy.picked b (some a) (some (a + 1))) t) (.int 0 ui)) Q E s :=
  KBw.item_K (picked1 hb h0 h1 hn) (by show 1 ≤ _; decide) (by decide) (by show (0 : Int) < ((1 : Nat) : Int); decide) (fun t' k a b => h t' k a b) hs ht
end
end
section
local macro_rules | `(tactic| k_in) => `(tactic| first | (with_reducible assumption) | (with_reducible (refine' Frag.In.keeps ?kinX (Fr.keep ?kinF)); (case kinF => with_reducible assumption); (case kinX => with_reducible assumption)))
local macro_rules | `(tactic| k_ne) => `(tactic| (refine neN ?_; (try dsimp only); first | (with_reducible assumption) | (exact Ne.symm (by with_reducible assumption)) | (exact (LCg.Off3.mem (by with_reducible assumption) (_, _) (by k_mem)).1) | (exact (LCg.Off3.mem (by with_reducible assumption) (_, _) (by k_mem)).2.1) | (exact (LCg.Off3.mem (by with_reducible assumption) (_, _) (by k_mem)).2.2) | (exact Ne.symm (LCg.Off3.mem (by with_reducible assumption) (_, _) (by k_mem)).1) | (exact Ne.symm (LCg.Off3.mem (by with_reducible assumption) (_, _) (by k_mem)).2.1) | (exact Ne.symm (LCg.Off3.mem (by with_reducible assumption) (_, _) (by k_mem)).2.2) | ((repeat (with_reducible rename (_ ∨ _) => hz9; clear hz9)); (repeat (with_reducible rename (@Ne _ _ _) => hz9; clear hz9)); omega) | omega))
local macro_rules | `(tactic| k_room) => `(tactic| ktr_room)
section
theorem updF_mem {d : Addr} {o : PySem.Obj} {l : List (Addr × PySem.Obj)} {g : PySem.Obj → List (Addr × PySem.Obj)} (U : UpdF d o l g) : (d, o) ∈ l := by
  obtain ⟨pre, post, rfl, _⟩ := U.split
  exact List.mem_append_right _ (.head _)
theorem newsUpd {h₀ h h' : Heap} {L d : Addr} {o o' : PySem.Obj} {l : List (Addr × PySem.Obj)} {g : PySem.Obj → List (Addr × PySem.Obj)} (N : News h₀ L h l) (U : UpdF d o l g) (hg : h'.get? d = some o') (keep : ∀ q o, h.get? q = some o → @Ne Nat q d → h'.get? q = some o) : News h₀ L h' (g o') := by
  have hm := N _ (updF_mem U)
  obtain ⟨pre, post, rfl, hgo, h1, h2⟩ := U.split
  rw [hgo]
  intro q hq
  rcases List.mem_append.mp hq with hq' | hq'
  · have := N q (List.mem_append_left _ hq')
    exact ⟨keep _ _ this.1 (h1 q hq'), this.2⟩
  · rcases List.mem_cons.mp hq' with rfl | hq'
    · exact ⟨hg, hm.2⟩
    · have := N q (List.mem_append_right _ (.tail _ hq'))
      exact ⟨keep _ _ this.1 (h2 q hq'), this.2⟩
theorem picked_cutI {b : Array UInt8} {os : List Int} {a n e : Int} (hb : KBw.bInts b = os.take e.toNat) (h0 : 0 ≤ a) (hn : 0 ≤ n) (h1 : a + n ≤ e) (he : e ≤ (os.length : Int)) :
    KBw.bInts (KBy.picked b (some a) (some (a + n))) = (os.drop a.toNat).take n.toNat := by
  obtain ⟨k, rfl⟩ := Int.eq_ofNat_of_zero_le hn
  exact picked_cut (j := k) hb h0 rfl (by omega) (by omega)
/-- what a call that changed one object alone has kept -/
theorem keepOne {h₀ h₁ h g h' : Heap} {L L' d : Addr} {n n' : List (Addr × PySem.Obj)} (GS : Stood h g (n.map (·.1))) (kp : ∀ b o, g.get? b = some o → h'.get? b = some o) (N : News h₀ L h n) (N' : News h₁ L' h' n') (sub : ∀ p ∈ n, @Ne Nat p.1 d → p ∈ n') :
    ∀ q o, h.get? q = some o → @Ne Nat q d → h'.get? q = some o := by
  intro q o hq hne
  by_cases hm : q ∈ n.map (·.1)
  · obtain ⟨p, hp, rfl⟩ := List.mem_map.mp hm
    have h1 := (N p hp).1
    rw [hq] at h1
    cases h1
    exact (N' p (sub p hp hne)).1
  · exact kp q o (GS q o hq hm)
set_option maxHeartbeats 4000000 in
theorem sk_core {w : World} {p : Program} {loose : List Str} {mean : ExcName → Option Value} {mg mb : Str → Option Value} {dp un : Nat} {gd : Option (List Code)} {cn : Str} {cs : Scope} {a : Addr} {ccd : Value} {cl : List (Str × Addr)} {outer : List Env} {A₀ : Around} {base h₀ : Heap} {L : Addr} {m : Str → Option Value} {s : Shared} {Q E : Value → Shared → Prop}
    {oc : Value} {od : Option Addr} {name qual : Str} {params : Arguments} {body : List Stmt} {scope : Scope} {dV kV doc pm ct : Value} {an : Option Addr} {osl : Array (Option Value)}
    (hlk : (Mine3.hd.heap_1 w.params).lookup 618 = some ⟨oc, od, .func (fnOf name qual params body scope dV kV doc pm an (.ref 617) ct), osl⟩)
    {nm : Str} {prm : Arguments} {bd : List Stmt} {deco : List PySem.Expr} {rets : Option PySem.Expr} {tps : List TypeParam} {sc : Scope} {tsc : Option Scope} {bind : Str} {pos : Pos}
    (hdef : body[4]? = some (Stmt.FunctionDef nm prm bd deco rets tps sc tsc bind pos))
    {l : Addr} {vs : List Value} {ns : List Int} {sx sd f c c1 c3 : Nat} {o1 o3 oc1 : PySem.Obj} {cvs : Array Value} {qn : Str} {tq : Tok} {dc pm1 ct1 : Value} {low bl : Int} {lt st : Tok} {sb : Array UInt8} {sdl : List Int} {ca cb : Addr}
    {t1 t2 t3 t4 t5 t6 t7 : Tok}
    (B : Below A₀ base outer h₀) (F : Fr h₀ L s.heap m) (X : (Mine3.hd.heap_1 w.params).In h₀) (T : Top p loose mean mg mb h₀) (hk : cs.kind = .function)
    (hl : base.IsList l vs.toArray) (hi : IntsAre vs ns) (hn : ns.length ≤ 63)
    (N : News h₀ L s.heap [(sx, instObj 278 sd), (sd, dictOf [⟨PyData.keyHash w.params (PySem.Str.ofString "algorithm"), .str (PySem.Str.ofString "algorithm") t1, .ref f⟩, ⟨PyData.keyHash w.params (PySem.Str.ofString "block_length"), .str (PySem.Str.ofString "block_length") t3, .int bl t2⟩, ⟨PyData.keyHash w.params (PySem.Str.ofString "buf"), .str (PySem.Str.ofString "buf") t5, .bytes #[] t4⟩, ⟨PyData.keyHash w.params (PySem.Str.ofString "len_buf"), .str (PySem.Str.ofString "len_buf") t7, .int 0 t6⟩] 4), (f, fnMade nm qn prm bd sc [(PySem.Str.ofString "script", c1), (PySem.Str.ofString "low", c3)] dc pm1 c ct1), (c, oc1), (c3, o3), (c1, o1)])
    (hord : c1 < c3 ∧ c3 < c ∧ c < f ∧ f < sd ∧ sd < sx)
    (hc1 : o1.data = .cell (some (.ref l))) (hc3 : o3.data = .cell (some (.int low lt))) (hoc : oc1.data = .fields cvs) (hcv : cvs[1]? = some (.str qn tq))
    (hbl : bl = 136 ∨ bl = 168) (hsb : KBw.bInts sb = sdl) (hsl : sdl.length ≤ 64) (hlo0 : 0 ≤ low) (hlo1 : low ≤ 281474976710655) (hd : dp + 8 < recursionLimit) (CH : CodeHd base ca cb)
    (ret : ∀ b a1 a2 a3 a5 a7 a9 a11 ta tb tl h' tk', KBw.bInts b = (str03 ns sdl low).take (5 * bl).toNat → Fr h₀ L h' m → h'.get? sd = some (shkD w f bl (.bytes sb st) a1 a2 a3 a5 a7 a9 a11 (0, ta, b, tb, 5 * bl, tl)) → (∀ q o, s.heap.get? q = some o → @Ne Nat q sd → h'.get? q = some o) → Q (.ref sx) { s with heap := h', toks := tk' }) :
    wpAny (model PySem.Challenge.rw_ji0010_03.row.prog w) (ktrTop dp un gd cn cs L a ccd cl outer) (call (.ref sx) [.bytes sb st]) Q E s := by
  revert X; k_fill; intro X; w_top off
  k_with_none
  k_with "getMethod ref" => ((k_here; (with_reducible show wpAny _ _ (getMethod (Value.ref _) _ _) _ _ _); k_dflt (first | (refine kmu_own (by k_asm) (by k_asm) (by k_inst) (by k_is) (by k_is) ?_; k_whole) | (refine method_inst (by k_asm) (by k_asm) (by k_inst) (by k_is) (by k_is) (by k_is) (by k_get) ?_; k_whole) | (refine kmu_sm (by k_asm) (by k_asm) (by k_inst) (by k_is) (by k_is) (by k_is) (by k_is) (by k_is) (by k_is) (by decide +kernel) (by k_get) (by k_is) (by k_handed) ?_; k_whole))))
  k_with "setAttr ref" => ((k_here; k_dflt (refine set_dict (by k_asm) (by k_asm) (by k_asm) (by k_inst) (by exact rfl) (by k_is) (by k_is) (by k_is) (by k_is) (by k_get) (by k_put) (by k_upd) (by exact Nat.le_of_ble_eq_true rfl) ?_; k_whole; intro _ _ N'; (try dsimp only at N'); revert N'; intro _; (try k_sweep))))
  k_with "call ref" => ((k_here; (with_reducible show wpAny _ _ (call (Value.ref 592) _) _ _ _); k_dflt (refine stream_callN (by k_asm) (by k_asm) (by k_asm) (by k_asm) (by k_asm) (by first | exact rfl | assumption) (by k_asm) (by assumption) (by assumption) (by kba_ints2) (by first | assumption | (simp only [List.length_append, List.length_cons, List.length_nil, List.length_map, List.length_take, List.length_drop]; omega)) (by first | decide | omega) (by first | decide | omega) (by first | assumption | omega) (by first | assumption | omega) (by ktr_room) ?_); intro _ _ _ _ _ _ _))
  k_with "WhlIf" => ((first | (refine WhlIf.no (decide_eq_false (by omega)) ?_) | (refine WhlIf.yes (decide_eq_true (by omega)) ?_) | (refine whl_split ?_ ?_ <;> intro _)))
  refine' ((fun e => ?_) : (_ : PySem.Obj) = _ → _) (lk_use hlk ?lk)
  case lk => k_is
  cases e
  clear hlk
  refine' ((fun e => ?_) : (_ : Stmt) = _ → _) (def_use hdef ?lk2)
  case lk2 => exact rfl
  cases e
  clear hdef
  refine wpAny_call ?_
  refine' kco_code ?q1 ?q2 ?q3 ?q4 ?q5 ?q6 ?_
  case q1 => exact X.keeps F.keep
  case q2 => k_inst
  case q3 => rfl
  case q4 => k_is
  case q5 => k_is
  case q6 => k_is
  try dsimp only
  k_dflt (refine' eff_plain ?k1 ?k2 ?k3 ?k4 ?k5 ?kA ?kF ?kK ?k6 ?k7 ?k8 ?k9 ?kB ?_ ?c2 ?c3 ?c4 ?c5; (case kA => exact rfl); (case kF => exact rfl); (case kK => assumption); (case k1 => k_asm); (case k2 => k_asm); (case k3 => k_asm); (case k4 => k_asm); (case k5 => k_asm); (case k6 => k_is); (case k7 => k_is); (case k8 => ktr_room); (case k9 => first | exact BindsTo.of_eq rfl | exact binds_K (by k_in) rfl (by k_is) rfl rfl rfl); (case c5 => decide); (case kB => exact locs rfl); (case c2 => exact rfl); (case c3 => exact rfl); (case c4 => exact rfl); k_whole; intro g0 L0 h0' GS0 F' N' B' X' T' l1; (try k_lt l1); (try dsimp only); (try k_lift B'); (try k_fold))
  k_steps
  rename Fr h₀ L _ _ => kFc
  rename News h₀ L _ _ => kNc
  rename Fr g0 L0 _ _ => kF0
  rename (KBw.bInts _ = List.take _ (str03 _ _ _)) => hb5
  refine ret _ _ _ _ _ _ _ _ _ _ _ _ _ hb5 kFc (kNc (sd, _) (by k_mem)).1 (keepOne GS0 kF0.keep N kNc ?_)
  intro p9 hp9 hne9
  simp only [List.mem_cons, List.not_mem_nil, or_false] at hp9
  rcases hp9 with rfl | rfl | rfl | rfl | rfl | rfl
  · k_mem
  · exact absurd rfl hne9
  · k_mem
  · k_mem
  · k_mem
  · k_mem
theorem sk_call {w : World} {p : Program} {loose : List Str} {mean : ExcName → Option Value} {mg mb : Str → Option Value} {dp un : Nat} {gd : Option (List Code)} {cn : Str} {cs : Scope} {a : Addr} {ccd : Value} {cl : List (Str × Addr)} {outer : List Env} {A₀ : Around} {base h₀ : Heap} {L : Addr} {m : Str → Option Value} {s : Shared} {Q E : Value → Shared → Prop}
    {oc : Value} {od : Option Addr} {name qual : Str} {params : Arguments} {body : List Stmt} {scope : Scope} {dV kV doc pm ct : Value} {an : Option Addr} {osl : Array (Option Value)}
    (hlk : (Mine3.hd.heap_1 w.params).lookup 618 = some ⟨oc, od, .func (fnOf name qual params body scope dV kV doc pm an (.ref 617) ct), osl⟩)
    {nm : Str} {prm : Arguments} {bd : List Stmt} {deco : List PySem.Expr} {rets : Option PySem.Expr} {tps : List TypeParam} {sc : Scope} {tsc : Option Scope} {bind : Str} {pos : Pos}
    (hdef : body[4]? = some (Stmt.FunctionDef nm prm bd deco rets tps sc tsc bind pos))
    {l : Addr} {vs : List Value} {ns : List Int} {sx sd f c c1 c3 : Nat} {o1 o3 oc1 : PySem.Obj} {cvs : Array Value} {qn : Str} {tq : Tok} {dc pm1 ct1 : Value} {low bl : Int} {lt st : Tok} {sb : Array UInt8} {sdl : List Int} {ca cb : Addr}
    {t1 t2 t3 t4 t5 t6 t7 : Tok} {news : List (Addr × PySem.Obj)} {gN : PySem.Obj → List (Addr × PySem.Obj)}
    (B : Below A₀ base outer h₀) (F : Fr h₀ L s.heap m) (X : (Mine3.hd.heap_1 w.params).In h₀) (T : Top p loose mean mg mb h₀) (hk : cs.kind = .function)
    (hl : base.IsList l vs.toArray) (hi : IntsAre vs ns) (hn : ns.length ≤ 63)
    (N : News h₀ L s.heap news) (hsx : (sx, instObj 278 sd) ∈ news) (U : UpdF sd (dictOf [⟨PyData.keyHash w.params (PySem.Str.ofString "algorithm"), .str (PySem.Str.ofString "algorithm") t1, .ref f⟩, ⟨PyData.keyHash w.params (PySem.Str.ofString "block_length"), .str (PySem.Str.ofString "block_length") t3, .int bl t2⟩, ⟨PyData.keyHash w.params (PySem.Str.ofString "buf"), .str (PySem.Str.ofString "buf") t5, .bytes #[] t4⟩, ⟨PyData.keyHash w.params (PySem.Str.ofString "len_buf"), .str (PySem.Str.ofString "len_buf") t7, .int 0 t6⟩] 4) news gN) (hf : (f, fnMade nm qn prm bd sc [(PySem.Str.ofString "script", c1), (PySem.Str.ofString "low", c3)] dc pm1 c ct1) ∈ news) (hc : (c, oc1) ∈ news) (hcc3 : (c3, o3) ∈ news) (hcc1 : (c1, o1) ∈ news)
    (hord : c1 < c3 ∧ c3 < c ∧ c < f ∧ f < sd ∧ sd < sx)
    (hc1 : o1.data = .cell (some (.ref l))) (hc3 : o3.data = .cell (some (.int low lt))) (hoc : oc1.data = .fields cvs) (hcv : cvs[1]? = some (.str qn tq))
    (hbl : bl = 136 ∨ bl = 168) (hsb : KBw.bInts sb = sdl) (hsl : sdl.length ≤ 64) (hlo0 : 0 ≤ low) (hlo1 : low ≤ 281474976710655) (hd : dp + 8 < recursionLimit) (CH : CodeHd base ca cb)
    (ret : ∀ b a1 a2 a3 a5 a7 a9 a11 ta tb tl h' tk', KBw.bInts b = (str03 ns sdl low).take (5 * bl).toNat → Fr h₀ L h' m → News h₀ L h' (gN (shkD w f bl (.bytes sb st) a1 a2 a3 a5 a7 a9 a11 (0, ta, b, tb, 5 * bl, tl))) → Q (.ref sx) { s with heap := h', toks := tk' }) :
    wpAny (model PySem.Challenge.rw_ji0010_03.row.prog w) (ktrTop dp un gd cn cs L a ccd cl outer) (call (.ref sx) [.bytes sb st]) Q E s :=
  sk_core hlk hdef B F X T hk hl hi hn (news6 N hsx (updF_mem U) hf hc hcc3 hcc1) hord hc1 hc3 hoc hcv hbl hsb hsl hlo0 hlo1 hd CH
    fun b a1 a2 a3 a5 a7 a9 a11 ta tb tl h' tk' x0 F' hg keep => ret _ _ _ _ _ _ _ _ _ _ _ _ _ x0 F' (newsUpd N U hg keep)
set_option maxHeartbeats 4000000 in
theorem rx_core {w : World} {p : Program} {loose : List Str} {mean : ExcName → Option Value} {mg mb : Str → Option Value} {dp un : Nat} {gd : Option (List Code)} {cn : Str} {cs : Scope} {a : Addr} {ccd : Value} {cl : List (Str × Addr)} {outer : List Env} {A₀ : Around} {base h₀ : Heap} {L : Addr} {m : Str → Option Value} {s : Shared} {Q E : Value → Shared → Prop}
    {oc : Value} {od : Option Addr} {name qual : Str} {params : Arguments} {body : List Stmt} {scope : Scope} {dV kV doc pm ct : Value} {an : Option Addr} {osl : Array (Option Value)}
    (hlk : (Mine3.hd.heap_1 w.params).lookup 618 = some ⟨oc, od, .func (fnOf name qual params body scope dV kV doc pm an (.ref 617) ct), osl⟩)
    {nm : Str} {prm : Arguments} {bd : List Stmt} {deco : List PySem.Expr} {rets : Option PySem.Expr} {tps : List TypeParam} {sc : Scope} {tsc : Option Scope} {bind : Str} {pos : Pos}
    (hdef : body[4]? = some (Stmt.FunctionDef nm prm bd deco rets tps sc tsc bind pos))
    {l : Addr} {vs : List Value} {ns : List Int} {sx sd f c c1 c3 : Nat} {o1 o3 oc1 : PySem.Obj} {cvs : Array Value} {qn : Str} {tq : Tok} {dc pm1 ct1 : Value} {low bl : Int} {lt st : Tok} {sb : Array UInt8} {sdl : List Int} {ca cb : Addr}
    {t1 t2 t3 t5 t7 t9 t11 : Tok} {ix ln : Int} {ti tb tl nt : Tok} {buf : Array UInt8} {n : Int} {os : List Int}
    (B : Below A₀ base outer h₀) (F : Fr h₀ L s.heap m) (X : (Mine3.hd.heap_1 w.params).In h₀) (T : Top p loose mean mg mb h₀) (hk : cs.kind = .function)
    (hl : base.IsList l vs.toArray) (hi : IntsAre vs ns) (hn : ns.length ≤ 63)
    (N : News h₀ L s.heap [(sx, instObj 278 sd), (sd, shkD w f bl (.bytes sb st) t1 t2 t3 t5 t7 t9 t11 (ix, ti, buf, tb, ln, tl)), (f, fnMade nm qn prm bd sc [(PySem.Str.ofString "script", c1), (PySem.Str.ofString "low", c3)] dc pm1 c ct1), (c, oc1), (c3, o3), (c1, o1)])
    (hord : c1 < c3 ∧ c3 < c ∧ c < f ∧ f < sd ∧ sd < sx)
    (hc1 : o1.data = .cell (some (.ref l))) (hc3 : o3.data = .cell (some (.int low lt))) (hoc : oc1.data = .fields cvs) (hcv : cvs[1]? = some (.str qn tq))
    (hbl : bl = 136 ∨ bl = 168) (hsb : KBw.bInts sb = sdl) (hsl : sdl.length ≤ 64) (hlo0 : 0 ≤ low) (hlo1 : low ≤ 281474976710655) (hd : dp + 8 < recursionLimit) (CH : CodeHd base ca cb)
    (hos : os = str03 ns sdl low) (hix : 0 ≤ ix) (hn0 : 0 ≤ n) (hn4 : n ≤ 4096) (hbuf : KBw.bInts buf = os.take ln.toNat) (hln : 0 ≤ ln) (hle : ln ≤ 1728) (hcap : ix + n ≤ ln ∨ (ln < ix + n ∧ ix + n ≤ 2 * ln ∧ 2 * ln ≤ 1728))
    (ret : ∀ rb rt b2 l2 ta tb2 tl2 h' tk', KBw.bInts rb = (os.drop ix.toNat).take n.toNat → KBw.bInts b2 = os.take l2.toNat → ix + n ≤ l2 → ((l2 = ln ∧ b2 = buf ∧ tb2 = tb ∧ tl2 = tl) ∨ (l2 = 2 * ln ∧ ln < ix + n)) → Fr h₀ L h' m → h'.get? sd = some (shkD w f bl (.bytes sb st) t1 t2 t3 t5 t7 t9 t11 (ix + n, ta, b2, tb2, l2, tl2)) → (∀ q o, s.heap.get? q = some o → @Ne Nat q sd → h'.get? q = some o) → Q (.bytes rb rt) { s with heap := h', toks := tk' }) :
    wpAny (model PySem.Challenge.rw_ji0010_03.row.prog w) (ktrTop dp un gd cn cs L a ccd cl outer) (call (.ref 268) [.ref sx, .int n nt]) Q E s := by
  revert X; k_fill; intro X; w_top off
  k_with_none
  k_with "getMethod ref" => ((k_here; (with_reducible show wpAny _ _ (getMethod (Value.ref _) _ _) _ _ _); k_dflt (first | (refine kmu_own (by k_asm) (by k_asm) (by k_inst) (by k_is) (by k_is) ?_; k_whole) | (refine method_inst (by k_asm) (by k_asm) (by k_inst) (by k_is) (by k_is) (by k_is) (by k_get) ?_; k_whole) | (refine kmu_sm (by k_asm) (by k_asm) (by k_inst) (by k_is) (by k_is) (by k_is) (by k_is) (by k_is) (by k_is) (by decide +kernel) (by k_get) (by k_is) (by k_handed) ?_; k_whole))))
  k_with "setAttr ref" => ((k_here; k_dflt (refine set_dict (by k_asm) (by k_asm) (by k_asm) (by k_inst) (by exact rfl) (by k_is) (by k_is) (by k_is) (by k_is) (by k_get) (by k_put) (by k_upd) (by exact Nat.le_of_ble_eq_true rfl) ?_; k_whole; intro _ _ N'; (try dsimp only at N'); revert N'; intro _; (try k_sweep))))
  k_with "call ref" => ((k_here; (with_reducible show wpAny _ _ (call (Value.ref 592) _) _ _ _); k_dflt (refine stream_callN (by k_asm) (by k_asm) (by k_asm) (by k_asm) (by k_asm) (by first | exact rfl | assumption) (by k_asm) (by assumption) (by assumption) (by kba_ints2) (by first | assumption | (simp only [List.length_append, List.length_cons, List.length_nil, List.length_map, List.length_take, List.length_drop]; omega)) (by first | decide | omega) (by first | decide | omega) (by first | assumption | omega) (by first | assumption | omega) (by ktr_room) ?_); intro _ _ _ _ _ _ _))
  k_with "WhlIf" => ((first | (refine WhlIf.no (decide_eq_false (by omega)) ?_) | (refine WhlIf.yes (decide_eq_true (by omega)) ?_) | (refine whl_split ?_ ?_ <;> intro _)))
  refine' ((fun e => ?_) : (_ : PySem.Obj) = _ → _) (lk_use hlk ?lk)
  case lk => k_is
  cases e
  clear hlk
  refine' ((fun e => ?_) : (_ : Stmt) = _ → _) (def_use hdef ?lk2)
  case lk2 => exact rfl
  cases e
  clear hdef
  have hol := (str03_len ns sdl low).1
  subst hos
  refine wpAny_call ?_
  k_dflt (refine' eff_plain ?k1 ?k2 ?k3 ?k4 ?k5 ?kA ?kF ?kK ?k6 ?k7 ?k8 ?k9 ?kB ?_ ?c2 ?c3 ?c4 ?c5; (case kA => exact rfl); (case kF => exact rfl); (case kK => assumption); (case k1 => k_asm); (case k2 => k_asm); (case k3 => k_asm); (case k4 => k_asm); (case k5 => k_asm); (case k6 => k_is); (case k7 => k_is); (case k8 => ktr_room); (case k9 => first | exact BindsTo.of_eq rfl | exact binds_K (by k_in) rfl (by k_is) rfl rfl rfl); (case c5 => decide); (case kB => exact locs rfl); (case c2 => exact rfl); (case c3 => exact rfl); (case c4 => exact rfl); k_whole; intro g0 L0 h0' GS0 F' N' B' X' T' l1; (try k_lt l1); (try dsimp only); (try k_lift B'); (try k_fold))
  try dsimp only [shkD] at N'
  repeat' ((fail_if_success (with_reducible show wpAny _ _ (exec (Stmt.While _ _ _ _) _) _ _ _)); (first | (k_unfold; (try dsimp only)) | (k_end; wrow_close) | walk1 | (dsimp only; walk1) | (leave1; walk_say "STEP leave1"; try dsimp only) | fail "no step"))
  k_dflt (refine whl_start 100 ?_)
  k_steps
  all_goals
    rename Fr h₀ L _ _ => kFc
    rename News h₀ L _ _ => kNc
    rename Fr g0 L0 _ _ => kF0
    first
      | refine ret _ _ _ _ _ _ _ _ _ (picked_cutI hbuf hix hn0 (by omega) (by omega)) hbuf (by omega) (.inl ⟨rfl, rfl, rfl, rfl⟩) kFc (kNc (sd, _) (by k_mem)).1 (keepOne GS0 kF0.keep N kNc ?_)
      | (rename (KBw.bInts _ = List.take _ (str03 _ _ _)) => hb5; refine ret _ _ _ _ _ _ _ _ _ (picked_cutI hb5 hix hn0 (by omega) (by omega)) hb5 (by omega) (.inr ⟨Int.mul_comm _ _, by omega⟩) kFc (kNc (sd, _) (by k_mem)).1 (keepOne GS0 kF0.keep N kNc ?_))
    intro p9 hp9 hne9
    simp only [List.mem_cons, List.not_mem_nil, or_false] at hp9
    rcases hp9 with rfl | rfl | rfl | rfl | rfl | rfl
    · k_mem
    · exact absurd rfl hne9
    · k_mem
    · k_mem
    · k_mem
    · k_mem
theorem rx_call {w : World} {p : Program} {loose : List Str} {mean : ExcName → Option Value} {mg mb : Str → Option Value} {dp un : Nat} {gd : Option (List Code)} {cn : Str} {cs : Scope} {a : Addr} {ccd : Value} {cl : List (Str × Addr)} {outer : List Env} {A₀ : Around} {base h₀ : Heap} {L : Addr} {m : Str → Option Value} {s : Shared} {Q E : Value → Shared → Prop}
    {oc : Value} {od : Option Addr} {name qual : Str} {params : Arguments} {body : List Stmt} {scope : Scope} {dV kV doc pm ct : Value} {an : Option Addr} {osl : Array (Option Value)}
    (hlk : (Mine3.hd.heap_1 w.params).lookup 618 = some ⟨oc, od, .func (fnOf name qual params body scope dV kV doc pm an (.ref 617) ct), osl⟩)
    {nm : Str} {prm : Arguments} {bd : List Stmt} {deco : List PySem.Expr} {rets : Option PySem.Expr} {tps : List TypeParam} {sc : Scope} {tsc : Option Scope} {bind : Str} {pos : Pos}
    (hdef : body[4]? = some (Stmt.FunctionDef nm prm bd deco rets tps sc tsc bind pos))
    {l : Addr} {vs : List Value} {ns : List Int} {sx sd f c c1 c3 : Nat} {o1 o3 oc1 : PySem.Obj} {cvs : Array Value} {qn : Str} {tq : Tok} {dc pm1 ct1 : Value} {low bl : Int} {lt st : Tok} {sb : Array UInt8} {sdl : List Int} {ca cb : Addr}
    {t1 t2 t3 t5 t7 t9 t11 : Tok} {ix ln : Int} {ti tb tl nt : Tok} {buf : Array UInt8} {n : Int} {os : List Int} {news : List (Addr × PySem.Obj)} {gN : PySem.Obj → List (Addr × PySem.Obj)}
    (B : Below A₀ base outer h₀) (F : Fr h₀ L s.heap m) (X : (Mine3.hd.heap_1 w.params).In h₀) (T : Top p loose mean mg mb h₀) (hk : cs.kind = .function)
    (hl : base.IsList l vs.toArray) (hi : IntsAre vs ns) (hn : ns.length ≤ 63)
    (N : News h₀ L s.heap news) (hsx : (sx, instObj 278 sd) ∈ news) (U : UpdF sd (shkD w f bl (.bytes sb st) t1 t2 t3 t5 t7 t9 t11 (ix, ti, buf, tb, ln, tl)) news gN) (hf : (f, fnMade nm qn prm bd sc [(PySem.Str.ofString "script", c1), (PySem.Str.ofString "low", c3)] dc pm1 c ct1) ∈ news) (hc : (c, oc1) ∈ news) (hcc3 : (c3, o3) ∈ news) (hcc1 : (c1, o1) ∈ news)
    (hord : c1 < c3 ∧ c3 < c ∧ c < f ∧ f < sd ∧ sd < sx)
    (hc1 : o1.data = .cell (some (.ref l))) (hc3 : o3.data = .cell (some (.int low lt))) (hoc : oc1.data = .fields cvs) (hcv : cvs[1]? = some (.str qn tq))
    (hbl : bl = 136 ∨ bl = 168) (hsb : KBw.bInts sb = sdl) (hsl : sdl.length ≤ 64) (hlo0 : 0 ≤ low) (hlo1 : low ≤ 281474976710655) (hd : dp + 8 < recursionLimit) (CH : CodeHd base ca cb)
    (hos : os = str03 ns sdl low) (hix : 0 ≤ ix) (hn0 : 0 ≤ n) (hn4 : n ≤ 4096) (hbuf : KBw.bInts buf = os.take ln.toNat) (hln : 0 ≤ ln) (hle : ln ≤ 1728) (hcap : ix + n ≤ ln ∨ (ln < ix + n ∧ ix + n ≤ 2 * ln ∧ 2 * ln ≤ 1728))
    (ret : ∀ rb rt b2 l2 ta tb2 tl2 h' tk', KBw.bInts rb = (os.drop ix.toNat).take n.toNat → KBw.bInts b2 = os.take l2.toNat → ix + n ≤ l2 → ((l2 = ln ∧ b2 = buf ∧ tb2 = tb ∧ tl2 = tl) ∨ (l2 = 2 * ln ∧ ln < ix + n)) → Fr h₀ L h' m → News h₀ L h' (gN (shkD w f bl (.bytes sb st) t1 t2 t3 t5 t7 t9 t11 (ix + n, ta, b2, tb2, l2, tl2))) → Q (.bytes rb rt) { s with heap := h', toks := tk' }) :
    wpAny (model PySem.Challenge.rw_ji0010_03.row.prog w) (ktrTop dp un gd cn cs L a ccd cl outer) (call (.ref 268) [.ref sx, .int n nt]) Q E s :=
  rx_core hlk hdef B F X T hk hl hi hn (news6 N hsx (updF_mem U) hf hc hcc3 hcc1) hord hc1 hc3 hoc hcv hbl hsb hsl hlo0 hlo1 hd CH hos hix hn0 hn4 hbuf hln hle hcap
    fun rb rt b2 l2 ta tb2 tl2 h' tk' x0 x1 x2 x3 F' hg keep => ret _ _ _ _ _ _ _ _ _ x0 x1 x2 x3 F' (newsUpd N U hg keep)
theorem rx1_call {w : World} {p : Program} {loose : List Str} {mean : ExcName → Option Value} {mg mb : Str → Option Value} {dp un : Nat} {gd : Option (List Code)} {cn : Str} {cs : Scope} {a : Addr} {ccd : Value} {cl : List (Str × Addr)} {outer : List Env} {A₀ : Around} {base h₀ : Heap} {L : Addr} {m : Str → Option Value} {s : Shared} {Q E : Value → Shared → Prop}
    {oc : Value} {od : Option Addr} {name qual : Str} {params : Arguments} {body : List Stmt} {scope : Scope} {dV kV doc pm ct : Value} {an : Option Addr} {osl : Array (Option Value)}
    (hlk : (Mine3.hd.heap_1 w.params).lookup 618 = some ⟨oc, od, .func (fnOf name qual params body scope dV kV doc pm an (.ref 617) ct), osl⟩)
    {nm : Str} {prm : Arguments} {bd : List Stmt} {deco : List PySem.Expr} {rets : Option PySem.Expr} {tps : List TypeParam} {sc : Scope} {tsc : Option Scope} {bind : Str} {pos : Pos}
    (hdef : body[4]? = some (Stmt.FunctionDef nm prm bd deco rets tps sc tsc bind pos))
    {l : Addr} {vs : List Value} {ns : List Int} {sx sd f c c1 c3 : Nat} {o1 o3 oc1 : PySem.Obj} {cvs : Array Value} {qn : Str} {tq : Tok} {dc pm1 ct1 : Value} {low bl : Int} {lt st : Tok} {sb : Array UInt8} {sdl : List Int} {ca cb : Addr}
    {t1 t2 t3 t5 t7 t9 t11 : Tok} {ix ln : Int} {ti tb tl nt : Tok} {buf : Array UInt8} {n : Int} {os : List Int} {news : List (Addr × PySem.Obj)} {gN : PySem.Obj → List (Addr × PySem.Obj)}
    (B : Below A₀ base outer h₀) (F : Fr h₀ L s.heap m) (X : (Mine3.hd.heap_1 w.params).In h₀) (T : Top p loose mean mg mb h₀) (hk : cs.kind = .function)
    (hl : base.IsList l vs.toArray) (hi : IntsAre vs ns) (hn : ns.length ≤ 63)
    (N : News h₀ L s.heap news) (hsx : (sx, instObj 278 sd) ∈ news) (U : UpdF sd (shkD w f bl (.bytes sb st) t1 t2 t3 t5 t7 t9 t11 (ix, ti, buf, tb, ln, tl)) news gN) (hf : (f, fnMade nm qn prm bd sc [(PySem.Str.ofString "script", c1), (PySem.Str.ofString "low", c3)] dc pm1 c ct1) ∈ news) (hc : (c, oc1) ∈ news) (hcc3 : (c3, o3) ∈ news) (hcc1 : (c1, o1) ∈ news)
    (hord : c1 < c3 ∧ c3 < c ∧ c < f ∧ f < sd ∧ sd < sx)
    (hc1 : o1.data = .cell (some (.ref l))) (hc3 : o3.data = .cell (some (.int low lt))) (hoc : oc1.data = .fields cvs) (hcv : cvs[1]? = some (.str qn tq))
    (hbl : bl = 136 ∨ bl = 168) (hsb : KBw.bInts sb = sdl) (hsl : sdl.length ≤ 64) (hlo0 : 0 ≤ low) (hlo1 : low ≤ 281474976710655) (hd : dp + 8 < recursionLimit) (CH : CodeHd base ca cb)
    (hos : os = str03 ns sdl low) (hix : 0 ≤ ix) (hn0 : 0 ≤ n) (hn4 : n ≤ 4096) (hbuf : KBw.bInts buf = os.take ln.toNat) (hln : 0 ≤ ln) (hle : ln ≤ 1728) (hcap : ix + n ≤ ln)
    (ret : ∀ rb rt ta h' tk', KBw.bInts rb = (os.drop ix.toNat).take n.toNat → Fr h₀ L h' m → News h₀ L h' (gN (shkD w f bl (.bytes sb st) t1 t2 t3 t5 t7 t9 t11 (ix + n, ta, buf, tb, ln, tl))) → Q (.bytes rb rt) { s with heap := h', toks := tk' }) :
    wpAny (model PySem.Challenge.rw_ji0010_03.row.prog w) (ktrTop dp un gd cn cs L a ccd cl outer) (call (.ref 268) [.ref sx, .int n nt]) Q E s := by
  refine rx_call hlk hdef B F X T hk hl hi hn N hsx U hf hc hcc3 hcc1 hord hc1 hc3 hoc hcv hbl hsb hsl hlo0 hlo1 hd CH hos hix hn0 hn4 hbuf hln hle (.inl hcap) ?_
  intro rb rt b2 l2 ta tb2 tl2 h' tk' x0 x1 x2 x3 F' N'
  rcases x3 with ⟨rfl, rfl, rfl, rfl⟩ | x3
  · exact ret _ _ _ _ _ x0 F' N'
  · omega
end
section
/-- what a call that changed nothing has kept -/
theorem keepAll {h₀ h₁ h g h' : Heap} {L L' : Addr} {n n' : List (Addr × PySem.Obj)} (GS : Stood h g (n.map (·.1))) (kp : ∀ b o, g.get? b = some o → h'.get? b = some o) (N : News h₀ L h n) (N' : News h₁ L' h' n') (sub : ∀ p ∈ n, p ∈ n') :
    ∀ q o, h.get? q = some o → h'.get? q = some o := by
  intro q o hq
  by_cases hm : q ∈ n.map (·.1)
  · obtain ⟨p, hp, rfl⟩ := List.mem_map.mp hm
    have h1 := (N p hp).1
    rw [hq] at h1
    cases h1
    exact (N' p (sub p hp)).1
  · exact kp q o (GS q o hq hm)
set_option maxHeartbeats 4000000 in
theorem pc_core {w : World} {p : Program} {loose : List Str} {mean : ExcName → Option Value} {mg mb : Str → Option Value} {dp un : Nat} {gd : Option (List Code)} {cn : Str} {cs : Scope} {a : Addr} {ccd : Value} {cl : List (Str × Addr)} {outer : List Env} {A₀ : Around} {base h₀ : Heap} {L : Addr} {m : Str → Option Value} {s : Shared} {Q E : Value → Shared → Prop}
    {ring rd sx sdx lst z s1 s2 ck : Nat} {cvs : List Value} {cis : List Int} {t8 t9 t10 t11 t12 t13 t14 t15 t16 : Tok} {ca cb : Addr}
    (B : Below A₀ base outer h₀) (F : Fr h₀ L s.heap m) (X : (Mine3.hd.heap_1 w.params).In h₀) (T : Top p loose mean mg mb h₀) (hk : cs.kind = .function)
    (N : News h₀ L s.heap [(ring, instObj 386 rd), (rd, dictOf [⟨PyData.keyHash w.params (PySem.Str.ofString "q"), .str (PySem.Str.ofString "q") t9, .int 8380417 t8⟩, ⟨PyData.keyHash w.params (PySem.Str.ofString "n"), .str (PySem.Str.ofString "n") t11, .int 256 t10⟩, ⟨PyData.keyHash w.params (PySem.Str.ofString "shake128"), .str (PySem.Str.ofString "shake128") t12, .ref s1⟩, ⟨PyData.keyHash w.params (PySem.Str.ofString "shake256"), .str (PySem.Str.ofString "shake256") t13, .ref s2⟩, ⟨PyData.keyHash w.params (PySem.Str.ofString "ntt_zetas"), .str (PySem.Str.ofString "ntt_zetas") t14, .ref z⟩, ⟨PyData.keyHash w.params (PySem.Str.ofString "ntt_f"), .str (PySem.Str.ofString "ntt_f") t16, .int 8347681 t15⟩] 6), (lst, PySem.W.listOf cvs.toArray ck), (sx, instObj 278 sdx)])
    (hic : IntsAre cvs cis) (hlen : cis.length = 256) (hd : dp + 8 < recursionLimit) (CH : CodeHd base ca cb)
    (ret : ∀ (told td : Nat) a1 a2 h' tk', Fr h₀ L h' m → News h₀ L h' [(told, instObj 520 td), (td, dictOf [⟨PyData.keyHash w.params (PySem.Str.ofString "parent"), .str (PySem.Str.ofString "parent") a1, .ref ring⟩, ⟨PyData.keyHash w.params (PySem.Str.ofString "coeffs"), .str (PySem.Str.ofString "coeffs") a2, .ref lst⟩] 2)] → (∀ q o, s.heap.get? q = some o → h'.get? q = some o) → (lst < td ∧ td < told ∧ sx < td) → Q (.ref told) { s with heap := h', toks := tk' }) :
    wpAny (model PySem.Challenge.rw_ji0010_03.row.prog w) (ktrTop dp un gd cn cs L a ccd cl outer) (call (.ref ring) [.ref lst]) Q E s := by
  revert X; k_fill; intro X; w_top off
  k_with_none
  k_with "getMethod ref" => ((k_here; (with_reducible show wpAny _ _ (getMethod (Value.ref _) _ _) _ _ _); k_dflt (first | (refine kmu_own (by k_asm) (by k_asm) (by k_inst) (by k_is) (by k_is) ?_; k_whole) | (refine method_inst (by k_asm) (by k_asm) (by k_inst) (by k_is) (by k_is) (by k_is) (by k_get) ?_; k_whole) | (refine kmu_sm (by k_asm) (by k_asm) (by k_inst) (by k_is) (by k_is) (by k_is) (by k_is) (by k_is) (by k_is) (by decide +kernel) (by k_get) (by k_is) (by k_handed) ?_; k_whole))))
  k_with "setAttr ref" => ((k_here; k_dflt (refine set_dict (by k_asm) (by k_asm) (by k_asm) (by k_inst) (by exact rfl) (by k_is) (by k_is) (by k_is) (by k_is) (by k_get) (by k_put) (by k_upd) (by exact Nat.le_of_ble_eq_true rfl) ?_; k_whole; intro _ _ N'; (try dsimp only at N'); revert N'; intro _; (try k_sweep))))
  refine wpAny_call ?_
  refine' kco_code ?q1 ?q2 ?q3 ?q4 ?q5 ?q6 ?_
  case q1 => exact X.keeps F.keep
  case q2 => k_inst
  case q3 => rfl
  case q4 => k_is
  case q5 => k_is
  case q6 => k_is
  try dsimp only
  k_dflt (refine' eff_plain ?k1 ?k2 ?k3 ?k4 ?k5 ?kA ?kF ?kK ?k6 ?k7 ?k8 ?k9 ?kB ?_ ?c2 ?c3 ?c4 ?c5; (case kA => exact rfl); (case kF => exact rfl); (case kK => assumption); (case k1 => k_asm); (case k2 => k_asm); (case k3 => k_asm); (case k4 => k_asm); (case k5 => k_asm); (case k6 => k_is); (case k7 => k_is); (case k8 => ktr_room); (case k9 => first | exact BindsTo.of_eq rfl | exact binds_K (by k_in) rfl (by k_is) rfl rfl rfl); (case c5 => decide); (case kB => exact locs rfl); (case c2 => exact rfl); (case c3 => exact rfl); (case c4 => exact rfl); k_whole; intro g0 L0 h0' GS0 F' N' B' X' T' l1; (try k_lt l1); (try dsimp only); (try k_lift B'); (try k_fold))
  k_steps
  rename Fr h₀ L _ _ => kFc
  rename News h₀ L _ _ => kNc
  rename Fr g0 L0 _ _ => kF0
  refine' ret _ _ _ _ _ _ kFc (newsC (kNc _ ?m1) (newsC (kNc _ ?m2) newsNil)) (keepAll GS0 kF0.keep N kNc ?sub) ?ord
  case m1 => k_mem
  case m2 => k_mem
  case ord => and_intros <;> omega
  case sub =>
    intro p9 hp9
    simp only [List.mem_cons, List.not_mem_nil, or_false] at hp9
    rcases hp9 with rfl | rfl | rfl | rfl <;> k_mem
theorem pc_call {w : World} {p : Program} {loose : List Str} {mean : ExcName → Option Value} {mg mb : Str → Option Value} {dp un : Nat} {gd : Option (List Code)} {cn : Str} {cs : Scope} {a : Addr} {ccd : Value} {cl : List (Str × Addr)} {outer : List Env} {A₀ : Around} {base h₀ : Heap} {L : Addr} {m : Str → Option Value} {s : Shared} {Q E : Value → Shared → Prop}
    {ring rd sx sdx lst z s1 s2 ck : Nat} {cvs : List Value} {cis : List Int} {t8 t9 t10 t11 t12 t13 t14 t15 t16 : Tok} {ca cb : Addr} {news : List (Addr × PySem.Obj)}
    (B : Below A₀ base outer h₀) (F : Fr h₀ L s.heap m) (X : (Mine3.hd.heap_1 w.params).In h₀) (T : Top p loose mean mg mb h₀) (hk : cs.kind = .function)
    (N : News h₀ L s.heap news) (hr : (ring, instObj 386 rd) ∈ news) (hrd : (rd, dictOf [⟨PyData.keyHash w.params (PySem.Str.ofString "q"), .str (PySem.Str.ofString "q") t9, .int 8380417 t8⟩, ⟨PyData.keyHash w.params (PySem.Str.ofString "n"), .str (PySem.Str.ofString "n") t11, .int 256 t10⟩, ⟨PyData.keyHash w.params (PySem.Str.ofString "shake128"), .str (PySem.Str.ofString "shake128") t12, .ref s1⟩, ⟨PyData.keyHash w.params (PySem.Str.ofString "shake256"), .str (PySem.Str.ofString "shake256") t13, .ref s2⟩, ⟨PyData.keyHash w.params (PySem.Str.ofString "ntt_zetas"), .str (PySem.Str.ofString "ntt_zetas") t14, .ref z⟩, ⟨PyData.keyHash w.params (PySem.Str.ofString "ntt_f"), .str (PySem.Str.ofString "ntt_f") t16, .int 8347681 t15⟩] 6) ∈ news) (hls : (lst, PySem.W.listOf cvs.toArray ck) ∈ news) (hsx : (sx, instObj 278 sdx) ∈ news)
    (hic : IntsAre cvs cis) (hlen : cis.length = 256) (hd : dp + 8 < recursionLimit) (CH : CodeHd base ca cb)
    (ret : ∀ (told td : Nat) a1 a2 h' tk', Fr h₀ L h' m → News h₀ L h' ((told, instObj 520 td) :: (td, dictOf [⟨PyData.keyHash w.params (PySem.Str.ofString "parent"), .str (PySem.Str.ofString "parent") a1, .ref ring⟩, ⟨PyData.keyHash w.params (PySem.Str.ofString "coeffs"), .str (PySem.Str.ofString "coeffs") a2, .ref lst⟩] 2) :: news) → (lst < td ∧ td < told ∧ sx < td) → Q (.ref told) { s with heap := h', toks := tk' }) :
    wpAny (model PySem.Challenge.rw_ji0010_03.row.prog w) (ktrTop dp un gd cn cs L a ccd cl outer) (call (.ref ring) [.ref lst]) Q E s :=
  pc_core B F X T hk (newsC (N _ hr) (newsC (N _ hrd) (newsC (N _ hls) (newsC (N _ hsx) newsNil)))) hic hlen hd CH
    fun told td a1 a2 h' tk' F' N' keep ho => ret told td a1 a2 h' tk' F' (newsC (N' _ (.head _)) (newsC (N' _ (.tail _ (.head _))) fun q hq => ⟨keep _ _ (N q hq).1, (N q hq).2⟩)) ho
set_option maxHeartbeats 4000000 in
theorem pn_core {w : World} {p : Program} {loose : List Str} {mean : ExcName → Option Value} {mg mb : Str → Option Value} {dp un : Nat} {gd : Option (List Code)} {cn : Str} {cs : Scope} {a : Addr} {ccd : Value} {cl : List (Str × Addr)} {outer : List Env} {A₀ : Around} {base h₀ : Heap} {L : Addr} {m : Str → Option Value} {s : Shared} {Q E : Value → Shared → Prop}
    {ring rd sx sdx lst z s1 s2 ck : Nat} {cvs : List Value} {cis : List Int} {t8 t9 t10 t11 t12 t13 t14 t15 t16 : Tok} {ca cb : Addr}
    (B : Below A₀ base outer h₀) (F : Fr h₀ L s.heap m) (X : (Mine3.hd.heap_1 w.params).In h₀) (T : Top p loose mean mg mb h₀) (hk : cs.kind = .function)
    (N : News h₀ L s.heap [(ring, instObj 386 rd), (rd, dictOf [⟨PyData.keyHash w.params (PySem.Str.ofString "q"), .str (PySem.Str.ofString "q") t9, .int 8380417 t8⟩, ⟨PyData.keyHash w.params (PySem.Str.ofString "n"), .str (PySem.Str.ofString "n") t11, .int 256 t10⟩, ⟨PyData.keyHash w.params (PySem.Str.ofString "shake128"), .str (PySem.Str.ofString "shake128") t12, .ref s1⟩, ⟨PyData.keyHash w.params (PySem.Str.ofString "shake256"), .str (PySem.Str.ofString "shake256") t13, .ref s2⟩, ⟨PyData.keyHash w.params (PySem.Str.ofString "ntt_zetas"), .str (PySem.Str.ofString "ntt_zetas") t14, .ref z⟩, ⟨PyData.keyHash w.params (PySem.Str.ofString "ntt_f"), .str (PySem.Str.ofString "ntt_f") t16, .int 8347681 t15⟩] 6), (lst, PySem.W.listOf cvs.toArray ck), (sx, instObj 278 sdx)])
    (hic : IntsAre cvs cis) (hlen : cis.length = 256) (hd : dp + 8 < recursionLimit) (CH : CodeHd base ca cb)
    (ret : ∀ (told td : Nat) a1 a2 h' tk', Fr h₀ L h' m → News h₀ L h' [(told, instObj 584 td), (td, dictOf [⟨PyData.keyHash w.params (PySem.Str.ofString "parent"), .str (PySem.Str.ofString "parent") a1, .ref ring⟩, ⟨PyData.keyHash w.params (PySem.Str.ofString "coeffs"), .str (PySem.Str.ofString "coeffs") a2, .ref lst⟩] 2)] → (∀ q o, s.heap.get? q = some o → h'.get? q = some o) → (lst < td ∧ td < told ∧ sx < td) → Q (.ref told) { s with heap := h', toks := tk' }) :
    wpAny (model PySem.Challenge.rw_ji0010_03.row.prog w) (ktrTop dp un gd cn cs L a ccd cl outer) (call (.ref ring) [.ref lst] [(PySem.Str.ofString "is_ntt", .bool true)]) Q E s := by
  revert X; k_fill; intro X; w_top off
  k_with_none
  k_with "getMethod ref" => ((k_here; (with_reducible show wpAny _ _ (getMethod (Value.ref _) _ _) _ _ _); k_dflt (first | (refine kmu_own (by k_asm) (by k_asm) (by k_inst) (by k_is) (by k_is) ?_; k_whole) | (refine method_inst (by k_asm) (by k_asm) (by k_inst) (by k_is) (by k_is) (by k_is) (by k_get) ?_; k_whole) | (refine kmu_sm (by k_asm) (by k_asm) (by k_inst) (by k_is) (by k_is) (by k_is) (by k_is) (by k_is) (by k_is) (by decide +kernel) (by k_get) (by k_is) (by k_handed) ?_; k_whole))))
  k_with "setAttr ref" => ((k_here; k_dflt (refine set_dict (by k_asm) (by k_asm) (by k_asm) (by k_inst) (by exact rfl) (by k_is) (by k_is) (by k_is) (by k_is) (by k_get) (by k_put) (by k_upd) (by exact Nat.le_of_ble_eq_true rfl) ?_; k_whole; intro _ _ N'; (try dsimp only at N'); revert N'; intro _; (try k_sweep))))
  refine wpAny_call ?_
  refine' kco_code ?q1 ?q2 ?q3 ?q4 ?q5 ?q6 ?_
  case q1 => exact X.keeps F.keep
  case q2 => k_inst
  case q3 => rfl
  case q4 => k_is
  case q5 => k_is
  case q6 => k_is
  try dsimp only
  k_dflt (refine' eff_plain ?k1 ?k2 ?k3 ?k4 ?k5 ?kA ?kF ?kK ?k6 ?k7 ?k8 ?k9 ?kB ?_ ?c2 ?c3 ?c4 ?c5; (case kA => exact rfl); (case kF => exact rfl); (case kK => assumption); (case k1 => k_asm); (case k2 => k_asm); (case k3 => k_asm); (case k4 => k_asm); (case k5 => k_asm); (case k6 => k_is); (case k7 => k_is); (case k8 => ktr_room); (case k9 => first | exact BindsTo.of_eq rfl | exact binds_K (by k_in) rfl (by k_is) rfl rfl rfl); (case c5 => decide); (case kB => exact locs rfl); (case c2 => exact rfl); (case c3 => exact rfl); (case c4 => exact rfl); k_whole; intro g0 L0 h0' GS0 F' N' B' X' T' l1; (try k_lt l1); (try dsimp only); (try k_lift B'); (try k_fold))
  k_steps
  rename Fr h₀ L _ _ => kFc
  rename News h₀ L _ _ => kNc
  rename Fr g0 L0 _ _ => kF0
  refine' ret _ _ _ _ _ _ kFc (newsC (kNc _ ?m1) (newsC (kNc _ ?m2) newsNil)) (keepAll GS0 kF0.keep N kNc ?sub) ?ord
  case m1 => k_mem
  case m2 => k_mem
  case ord => and_intros <;> omega
  case sub =>
    intro p9 hp9
    simp only [List.mem_cons, List.not_mem_nil, or_false] at hp9
    rcases hp9 with rfl | rfl | rfl | rfl <;> k_mem
theorem pn_call {w : World} {p : Program} {loose : List Str} {mean : ExcName → Option Value} {mg mb : Str → Option Value} {dp un : Nat} {gd : Option (List Code)} {cn : Str} {cs : Scope} {a : Addr} {ccd : Value} {cl : List (Str × Addr)} {outer : List Env} {A₀ : Around} {base h₀ : Heap} {L : Addr} {m : Str → Option Value} {s : Shared} {Q E : Value → Shared → Prop}
    {ring rd sx sdx lst z s1 s2 ck : Nat} {cvs : List Value} {cis : List Int} {t8 t9 t10 t11 t12 t13 t14 t15 t16 : Tok} {ca cb : Addr} {news : List (Addr × PySem.Obj)}
    (B : Below A₀ base outer h₀) (F : Fr h₀ L s.heap m) (X : (Mine3.hd.heap_1 w.params).In h₀) (T : Top p loose mean mg mb h₀) (hk : cs.kind = .function)
    (N : News h₀ L s.heap news) (hr : (ring, instObj 386 rd) ∈ news) (hrd : (rd, dictOf [⟨PyData.keyHash w.params (PySem.Str.ofString "q"), .str (PySem.Str.ofString "q") t9, .int 8380417 t8⟩, ⟨PyData.keyHash w.params (PySem.Str.ofString "n"), .str (PySem.Str.ofString "n") t11, .int 256 t10⟩, ⟨PyData.keyHash w.params (PySem.Str.ofString "shake128"), .str (PySem.Str.ofString "shake128") t12, .ref s1⟩, ⟨PyData.keyHash w.params (PySem.Str.ofString "shake256"), .str (PySem.Str.ofString "shake256") t13, .ref s2⟩, ⟨PyData.keyHash w.params (PySem.Str.ofString "ntt_zetas"), .str (PySem.Str.ofString "ntt_zetas") t14, .ref z⟩, ⟨PyData.keyHash w.params (PySem.Str.ofString "ntt_f"), .str (PySem.Str.ofString "ntt_f") t16, .int 8347681 t15⟩] 6) ∈ news) (hls : (lst, PySem.W.listOf cvs.toArray ck) ∈ news) (hsx : (sx, instObj 278 sdx) ∈ news)
    (hic : IntsAre cvs cis) (hlen : cis.length = 256) (hd : dp + 8 < recursionLimit) (CH : CodeHd base ca cb)
    (ret : ∀ (told td : Nat) a1 a2 h' tk', Fr h₀ L h' m → News h₀ L h' ((told, instObj 584 td) :: (td, dictOf [⟨PyData.keyHash w.params (PySem.Str.ofString "parent"), .str (PySem.Str.ofString "parent") a1, .ref ring⟩, ⟨PyData.keyHash w.params (PySem.Str.ofString "coeffs"), .str (PySem.Str.ofString "coeffs") a2, .ref lst⟩] 2) :: news) → (lst < td ∧ td < told ∧ sx < td) → Q (.ref told) { s with heap := h', toks := tk' }) :
    wpAny (model PySem.Challenge.rw_ji0010_03.row.prog w) (ktrTop dp un gd cn cs L a ccd cl outer) (call (.ref ring) [.ref lst] [(PySem.Str.ofString "is_ntt", .bool true)]) Q E s :=
  pn_core B F X T hk (newsC (N _ hr) (newsC (N _ hrd) (newsC (N _ hls) (newsC (N _ hsx) newsNil)))) hic hlen hd CH
    fun told td a1 a2 h' tk' F' N' keep ho => ret told td a1 a2 h' tk' F' (newsC (N' _ (.head _)) (newsC (N' _ (.tail _ (.head _))) fun q hq => ⟨keep _ _ (N q hq).1, (N q hq).2⟩)) ho
end
section
set_option maxHeartbeats 4000000 in
theorem rg_call {w : World} {p : Program} {loose : List Str} {mean : ExcName → Option Value} {mg mb : Str → Option Value} {dp un : Nat} {gd : Option (List Code)} {cn : Str} {cs : Scope} {a : Addr} {ccd : Value} {cl : List (Str × Addr)} {outer : List Env} {A₀ : Around} {base h₀ : Heap} {L : Addr} {m : Str → Option Value} {s : Shared} {Q E : Value → Shared → Prop}
    {f : Nat} {of : PySem.Obj} {ca cb : Addr} {news : List (Addr × PySem.Obj)}
    (B : Below A₀ base outer h₀) (F : Fr h₀ L s.heap m) (X : (Mine3.hd.heap_1 w.params).In h₀) (T : Top p loose mean mg mb h₀) (hk : cs.kind = .function)
    (N : News h₀ L s.heap news) (hf : (f, of) ∈ news)
    (hd : dp + 12 < recursionLimit) (CH : CodeHd base ca cb)
    (ret : ∀ (sy sdy sx sd ring rd z : Nat) u1 u2 u3 u4 u5 u6 u7 v1 v2 v3 v4 v5 v6 v7 t8 t9 t10 t11 t12 t13 t14 t15 t16 h' tk', Fr h₀ L h' m → News h₀ L h' ((sy, instObj 278 sdy) :: (sdy, dictOf [⟨PyData.keyHash w.params (PySem.Str.ofString "algorithm"), .str (PySem.Str.ofString "algorithm") v1, .ref f⟩, ⟨PyData.keyHash w.params (PySem.Str.ofString "block_length"), .str (PySem.Str.ofString "block_length") v3, .int 136 v2⟩, ⟨PyData.keyHash w.params (PySem.Str.ofString "buf"), .str (PySem.Str.ofString "buf") v5, .bytes #[] v4⟩, ⟨PyData.keyHash w.params (PySem.Str.ofString "len_buf"), .str (PySem.Str.ofString "len_buf") v7, .int 0 v6⟩] 4) :: (sx, instObj 278 sd) :: (sd, dictOf [⟨PyData.keyHash w.params (PySem.Str.ofString "algorithm"), .str (PySem.Str.ofString "algorithm") u1, .ref f⟩, ⟨PyData.keyHash w.params (PySem.Str.ofString "block_length"), .str (PySem.Str.ofString "block_length") u3, .int 168 u2⟩, ⟨PyData.keyHash w.params (PySem.Str.ofString "buf"), .str (PySem.Str.ofString "buf") u5, .bytes #[] u4⟩, ⟨PyData.keyHash w.params (PySem.Str.ofString "len_buf"), .str (PySem.Str.ofString "len_buf") u7, .int 0 u6⟩] 4) :: (ring, instObj 386 rd) :: (rd, dictOf [⟨PyData.keyHash w.params (PySem.Str.ofString "q"), .str (PySem.Str.ofString "q") t9, .int 8380417 t8⟩, ⟨PyData.keyHash w.params (PySem.Str.ofString "n"), .str (PySem.Str.ofString "n") t11, .int 256 t10⟩, ⟨PyData.keyHash w.params (PySem.Str.ofString "shake128"), .str (PySem.Str.ofString "shake128") t12, .ref sx⟩, ⟨PyData.keyHash w.params (PySem.Str.ofString "shake256"), .str (PySem.Str.ofString "shake256") t13, .ref sy⟩, ⟨PyData.keyHash w.params (PySem.Str.ofString "ntt_zetas"), .str (PySem.Str.ofString "ntt_zetas") t14, .ref z⟩, ⟨PyData.keyHash w.params (PySem.Str.ofString "ntt_f"), .str (PySem.Str.ofString "ntt_f") t16, .int 8347681 t15⟩] 6) :: news) → (∀ p ∈ news, p.1 < rd) → (f < rd ∧ rd < ring ∧ ring < sd ∧ sd < sx ∧ sx < sdy ∧ sdy < sy) → Q (.ref ring) { s with heap := h', toks := tk' }) :
    wpAny (model PySem.Challenge.rw_ji0010_03.row.prog w) (ktrTop dp un gd cn cs L a ccd cl outer) (call (.ref 386) [.ref f, .ref f]) Q E s := by
  revert X; k_fill; intro X; w_top off
  k_with_none
  k_with "getMethod ref" => ((k_here; (with_reducible show wpAny _ _ (getMethod (Value.ref _) _ _) _ _ _); k_dflt (first | (refine kmu_own (by k_asm) (by k_asm) (by k_inst) (by k_is) (by k_is) ?_; k_whole) | (refine method_inst (by k_asm) (by k_asm) (by k_inst) (by k_is) (by k_is) (by k_is) (by k_get) ?_; k_whole) | (refine kmu_sm (by k_asm) (by k_asm) (by k_inst) (by k_is) (by k_is) (by k_is) (by k_is) (by k_is) (by k_is) (by decide +kernel) (by k_get) (by k_is) (by k_handed) ?_; k_whole))))
  k_with "setAttr ref" => ((k_here; k_dflt (refine set_dict (by k_asm) (by k_asm) (by k_asm) (by k_inst) (by exact rfl) (by k_is) (by k_is) (by k_is) (by k_is) (by k_get) (by k_put) (by k_upd) (by exact Nat.le_of_ble_eq_true rfl) ?_; k_whole; intro _ _ N'; (try dsimp only at N'); revert N'; intro _; (try k_sweep))))
  k_with "call ref" => ((k_here; (with_reducible show wpAny _ _ (call (Value.ref 301) _) _ _ _); k_dflt (refine br_callN (by k_asm) (by k_asm) (by k_asm) (by k_asm) (by k_asm) (by first | exact rfl | assumption) (by first | assumption | omega) (by first | assumption | omega) (by ktr_room) ?_); intro _ _ _ _ _ _ _))
  k_with "call builtin:pow" => ((k_here; (with_reducible show wpAny _ _ (call (Value.builtin "pow") [Value.int _ _, Value.int (brVal _) _, Value.int _ _]) _ _ _); k_dflt (refine pow3 (pw_slot_pos (by assumption) _ _ _) ?_); intro _ _))
  k_with "call builtin:pow" => ((k_here; (with_reducible show wpAny _ _ (call (Value.builtin "pow") [Value.int 256 _, Value.int _ _, Value.int _ _]) _ _ _); k_dflt (refine pow3 (pw_slot_inv _ _ _) ?_); intro _ _))
  refine' call_cls F X N ?q1 ?q2 ?q3 ?_
  case q1 => k_is
  case q2 => k_is
  case q3 => k_is
  k_whole
  intro x dx h1 F1 N1 hall hdx
  have hlt : @LT.lt Nat _ f dx := hall _ hf
  k_lt2 hdx
  have N1m : News h₀ L h1 [(x, instObj 386 dx), (dx, dictOf [] 0), (f, of)] := newsC (N1 _ (.head _)) (newsC (N1 _ (.tail _ (.head _))) (newsC (N1 _ (.tail _ (.tail _ hf))) newsNil))
  have Nn : News h₀ L h1 news := fun q hq => N1 q (.tail _ (.tail _ hq))
  have hne : ∀ p ∈ news, @Ne Nat p.1 dx := fun p hp => Nat.ne_of_lt (hall p hp)
  clear N N1
  k_dflt (refine' eff_cells ?k1 ?k2 ?k3 ?k4 ?k5 ?kA ?kF ?kK ?k6 ?k7 ?k8 ?k9 ?kB ?kD ?_ ?c2 ?c3 ?c4; (case kA => exact rfl); (case kF => exact rfl); (case kK => assumption); (case k1 => k_asm); (case k2 => exact F1); (case k3 => k_asm); (case k4 => exact N1m); (case k5 => k_asm); (case k6 => k_is); (case k7 => k_is); (case k8 => ktr_room); (case k9 => first | exact BindsTo.of_eq rfl | exact binds_K (by k_in) rfl (by k_is) rfl rfl rfl); (case kB => exact rfl); (case kD => decide +kernel); (case c2 => exact rfl); (case c3 => exact rfl); (case c4 => exact rfl); k_whole; intro g0 L0 h0' tk' cells' GS0 F' N' Y' B' X' T' l1; (try k_lt l1); k_cells Y'; (try simp only [List.cons_append, List.nil_append] at N'); (try dsimp only); (try k_lift B'); (try k_fold))
  k_steps
  rename Fr h₀ L _ _ => kFc
  rename News h₀ L _ _ => kNc
  rename Fr g0 L0 _ _ => kF0
  have kO := keepOne (d := dx) GS0 kF0.keep N1m kNc ?sub
  refine' ret _ _ _ _ _ _ _ _ _ _ _ _ _ _ _ _ _ _ _ _ _ _ _ _ _ _ _ _ _ _ _ _ kFc (newsC (kNc _ ?m1) (newsC (kNc _ ?m2) (newsC (kNc _ ?m3) (newsC (kNc _ ?m4) (newsC (kNc _ ?m5) (newsC (kNc _ ?m6) (fun q hq => ⟨kO _ _ (Nn q hq).1 (hne q hq), (Nn q hq).2⟩))))))) hall ?ord
  case m5 => k_mem
  case m6 => k_mem
  case m1 => k_mem
  case m2 => k_mem
  case m3 => k_mem
  case m4 => k_mem
  case ord => and_intros <;> omega
  case sub =>
    intro p9 hp9 hne9
    simp only [List.mem_cons, List.not_mem_nil, or_false] at hp9
    rcases hp9 with rfl | rfl | rfl
    · k_mem
    · exact absurd rfl hne9
    · k_mem
end
section
theorem kco_kw {M : Model} {A : Around} {E : Value → Shared → Prop} {s : Shared} {K : Frag} {env : Env} {pos : Pos} {x C : Addr} {ox : PySem.Obj} {od : Option PySem.Obj} {first : List Value} {Q : Value → Shared → Prop} {e : PySem.Expr} {rest : List PySem.Expr} {kws : List Keyword} (_X : K.In s.heap) (_I : InstAt s.heap x ox C od) (hd : ox.data = .plain) (hall : (backToKw pos (keywordEach kws env)).all (·.1.isSome) = true)
    (h : wpAny M A (spliced (backTo pos (starEach (e :: rest) env))) (fun vs s₁ => wpAny M A (evalAll ((backToKw pos (keywordEach kws env)).map (·.2)))
      (fun ks s₂ => kco_P K x C ox od s₂.heap ∧ wpAny M A (call (.ref x) (first ++ vs) (((backToKw pos (keywordEach kws env)).filterMap (·.1)).zip ks)) Q E s₂) E s₁) E s)
    (hplain : ((backTo pos (starEach (e :: rest) env)).any (·.1) || (backToKw pos (keywordEach kws env)).any (·.1.isNone)) = false := by rfl) (he : starEach (e :: rest) env = (false, eval e env) :: starEach rest env := by rfl) :
    wpAny M A (callWith pos (.ref x) first (backTo pos (starEach (e :: rest) env)) (backToKw pos (keywordEach kws env))) Q E s :=
  kco_callWith_of hplain hd (evalArgs_kw2 hall h he)
set_option maxHeartbeats 4000000 in
theorem ntt_call {w : World} {p : Program} {loose : List Str} {mean : ExcName → Option Value} {mg mb : Str → Option Value} {g : Heap} {L : Nat} {fa l : Addr} {s : Shared} {vs : List Value} {ns : List Int}
    {oc : Value} {od : Option Addr} {name qual : Str} {params : Arguments} {body : List Stmt} {scope : Scope} {dV kV doc pm ct : Value} {an : Option Addr} {osl : Array (Option Value)}
    (hlk : (Mine3.hd.heap_1 w.params).lookup 618 = some ⟨oc, od, .func (fnOf name qual params body scope dV kV doc pm an (.ref 617) ct), osl⟩)
    {nm : Str} {prm : Arguments} {bd : List Stmt} {deco : List PySem.Expr} {rets : Option PySem.Expr} {tps : List TypeParam} {sc : Scope} {tsc : Option Scope} {bind : Str} {pos : Pos}
    (hdef : body[4]? = some (Stmt.FunctionDef nm prm bd deco rets tps sc tsc bind pos))
    {sx sd ring rd f c c1 c3 z sy : Nat} {o1 o3 oc1 : PySem.Obj} {cvs : Array Value} {qn : Str} {tq : Tok} {dc pm1 ct1 : Value} {t1 t2 t3 t4 t5 t6 t7 t8 t9 t10 t11 t12 t13 t14 t15 t16 : Tok} {low : Int} {lt : Tok} {m : Str → Option Value} {Q E : Value → Shared → Prop}
    {rb : Array UInt8} {rho : List Int} {row col : Int} {u1 u2 u3 : Tok} 
    (B : Below callerA g [] g) (X : (Mine3.hd.heap_1 w.params).In g) (T : Top p loose mean mg mb g) (hl : g.IsList l vs.toArray) (hi : IntsAre vs ns) (hn : ns.length ≤ 63) (F : Fr g L s.heap m)
    (N : News g L s.heap [(sx, instObj 278 sd), (sd, dictOf [⟨PyData.keyHash w.params (PySem.Str.ofString "algorithm"), .str (PySem.Str.ofString "algorithm") t1, .ref f⟩, ⟨PyData.keyHash w.params (PySem.Str.ofString "block_length"), .str (PySem.Str.ofString "block_length") t3, .int 168 t2⟩, ⟨PyData.keyHash w.params (PySem.Str.ofString "buf"), .str (PySem.Str.ofString "buf") t5, .bytes #[] t4⟩, ⟨PyData.keyHash w.params (PySem.Str.ofString "len_buf"), .str (PySem.Str.ofString "len_buf") t7, .int 0 t6⟩] 4), (ring, instObj 386 rd), (rd, dictOf [⟨PyData.keyHash w.params (PySem.Str.ofString "q"), .str (PySem.Str.ofString "q") t9, .int 8380417 t8⟩, ⟨PyData.keyHash w.params (PySem.Str.ofString "n"), .str (PySem.Str.ofString "n") t11, .int 256 t10⟩, ⟨PyData.keyHash w.params (PySem.Str.ofString "shake128"), .str (PySem.Str.ofString "shake128") t12, .ref sx⟩, ⟨PyData.keyHash w.params (PySem.Str.ofString "shake256"), .str (PySem.Str.ofString "shake256") t13, .ref sy⟩, ⟨PyData.keyHash w.params (PySem.Str.ofString "ntt_zetas"), .str (PySem.Str.ofString "ntt_zetas") t14, .ref z⟩, ⟨PyData.keyHash w.params (PySem.Str.ofString "ntt_f"), .str (PySem.Str.ofString "ntt_f") t16, .int 8347681 t15⟩] 6), (f, fnMade nm qn prm bd sc [(PySem.Str.ofString "script", c1), (PySem.Str.ofString "low", c3)] dc pm1 c ct1), (c, oc1), (c3, o3), (c1, o1), (313, tabObj #[])])
    (hord : 318 < L ∧ 313 < L ∧ L < c1 ∧ c1 < c3 ∧ c3 < c ∧ c < f ∧ f < rd ∧ rd < ring ∧ ring < sd ∧ sd < sx)
    (hc1 : o1.data = .cell (some (.ref l))) (hc3 : o3.data = .cell (some (.int low lt))) (hoc : oc1.data = .fields cvs) (hcv : cvs[1]? = some (.str qn tq))
    (C1 : CodeHd g (320, 318).1 (320, 318).2) (C2 : CodeHd g (315, 313).1 (315, 313).2)
    (hrb : KBw.bInts rb = rho) (hrl : rho.length ≤ 7) (hr0 : 0 ≤ row) (hr1 : row < 256) (hk0 : 0 ≤ col) (hk1 : col < 256) (hlow : low = 131941395333119)
    (ret : ∀ (told td cl : Nat) cvs cs ck h' tk' a1 a2 ps, Fr g L h' m → News g L h' [(told, instObj 584 td), (td, dictOf [⟨PyData.keyHash w.params (PySem.Str.ofString "parent"), .str (PySem.Str.ofString "parent") a1, .ref ring⟩, ⟨PyData.keyHash w.params (PySem.Str.ofString "coeffs"), .str (PySem.Str.ofString "coeffs") a2, .ref cl⟩] 2), (cl, PySem.W.listOf cvs.toArray ck), (c3, o3), (c1, o1), (313, tabObj ps)] → IntsAre cvs cs → ((∃ q, cs = TT (str03 ns (rho ++ [col, row]) 131941395333119) q) ∧ cs.length = 256) → (cl < td ∧ td < told ∧ sx < td) → (∀ b o, s.heap.get? b = some o → b ∉ [sx, sd, ring, rd, f, c, c3, c1, 313] → h'.get? b = some o) → Q (.ref told) { s with heap := h', toks := tk' }) :
    wpAny (model PySem.Challenge.rw_ji0010_03.row.prog w) (callerA.deeper (envOfC qual scope L fa (.ref 617))) (call (.ref 316) [.ref ring, .bytes rb u1, .int row u2, .int col u3]) Q E s := by
  revert X; k_fill; intro X; w_top off
  k_with_none
  k_with "getMethod ref" => ((k_here; (with_reducible show wpAny _ _ (getMethod (Value.ref _) _ _) _ _ _); k_dflt (first | (refine kmu_own (by k_asm) (by k_asm) (by k_inst) (by k_is) (by k_is) ?_; k_whole) | (refine method_inst (by k_asm) (by k_asm) (by k_inst) (by k_is) (by k_is) (by k_is) (by k_get) ?_; k_whole) | (refine kmu_sm (by k_asm) (by k_asm) (by k_inst) (by k_is) (by k_is) (by k_is) (by k_is) (by k_is) (by k_is) (by decide +kernel) (by k_get) (by k_is) (by k_handed) ?_; k_whole))))
  k_with "setAttr ref" => ((k_here; k_dflt (refine set_dict (by k_asm) (by k_asm) (by k_asm) (by k_inst) (by exact rfl) (by k_is) (by k_is) (by k_is) (by k_is) (by k_get) (by k_put) (by k_upd) (by exact Nat.le_of_ble_eq_true rfl) ?_; k_whole; intro _ _ N'; (try dsimp only at N'); revert N'; intro _; (try k_sweep))))
  k_with "WhlIf" => ((first | (refine WhlIf.no (decide_eq_false (by omega)) ?_) | (refine WhlIf.yes (decide_eq_true (by omega)) ?_) | (refine whl_split ?_ ?_ <;> intro _)))
  k_with "KswEnd" => ((k_dflt ksw_close))
  k_with "call ref" => ((k_here; (with_reducible show wpAny _ _ (call (Value.ref _) [Value.bytes _ _]) _ _ _); k_dflt (refine sk_call (hlk := (by k_is)) (hdef := (by exact rfl)) (by k_asm) (by k_asm) (by k_asm) (by k_asm) (by first | exact rfl | assumption) (by k_asm) (by assumption) (by assumption) (by k_asm) (by k_mem) (by k_updF) (by k_mem) (by k_mem) (by k_mem) (by k_mem) (by and_intros <;> omega) (by assumption) (by assumption) (by assumption) (by assumption) (by first | exact .inl rfl | exact .inr rfl) (by first | assumption | kba_ints2) (by first | assumption | (simp only [List.length_append, List.length_cons, List.length_nil, List.length_map, List.length_take, List.length_drop, KTBy.little_length]; omega)) (by first | decide | omega) (by first | decide | omega) (by ktr_room) (by assumption) ?_; k_whole); intro _ _ _ _ _ _ _ _ _ _ _ _ _ _ _ N'; (try dsimp only [shkD] at N'); revert N'; intro _))
  k_with "call ref" => ((k_here; (with_reducible show wpAny _ _ (call (Value.ref 268) [Value.ref _, Value.int _ _]) _ _ _); k_dflt (refine rx_call (hlk := (by k_is)) (hdef := (by exact rfl)) (by k_asm) (by k_asm) (by k_asm) (by k_asm) (by first | exact rfl | assumption) (by k_asm) (by assumption) (by assumption) (by k_asm) (by k_mem) (by k_updF) (by k_mem) (by k_mem) (by k_mem) (by k_mem) (by and_intros <;> omega) (by assumption) (by assumption) (by assumption) (by assumption) (by first | exact .inl rfl | exact .inr rfl) (by first | assumption | kba_ints2) (by first | assumption | (simp only [List.length_append, List.length_cons, List.length_nil]; omega)) (by first | decide | omega) (by first | decide | omega) (by ktr_room) (by assumption) (by first | assumption | exact rfl) (by omega) (by omega) (by omega) (by assumption) (by omega) (by omega) (by omega) ?_; k_whole); intro _ _ _ _ _ _ _ _ _ _ _ _ _ _ N'; (try dsimp only [shkD] at N'); revert N'; intro _))
  k_with "call ref" => ((k_here; (with_reducible show wpAny _ _ (call (Value.ref _) [Value.ref _] [(_, Value.bool true)]) _ _ _); k_dflt (refine pn_call (by k_asm) (by k_asm) (by k_asm) (by k_asm) (by first | exact rfl | assumption) (by k_asm) (by k_mem) (by k_mem) (by k_mem) (by k_mem) (by assumption) (by first | assumption | omega) (by ktr_room) (by assumption) ?_; k_whole); intro _ _ _ _ _ _ _ _ _))
  k_with "callWith ref" => ((k_here; (with_reducible show wpAny _ _ (callWith _ (Value.ref _) _ (backTo _ (starEach (_ :: _) _)) (backToKw _ (keywordEach (_ :: _) _))) _ _ _); k_dflt (refine kco_kw (by k_in) (by k_inst) (by rfl) (by rfl) ?_; k_whole)))
  k_with "call ref" => ((k_here; (with_reducible show wpAny _ _ (call (Value.ref _) [Value.bytes _ _, Value.str (Str.ofString "little") _]) _ _ _); kfb_any; k_dflt (refine fb3r (by k_asm) (by k_mem) (by assumption) (by omega) (by omega) ?_); intro _ _))
  k_with "inplaceOp BitAnd int int" => ((k_here; (with_reducible show wpAny _ _ (inplaceOp Operator.BitAnd (Value.int (leI _) _) (Value.int _ _)) _ _ _); (refine and23s (by assumption) ?_); intro _ _))
  refine' ((fun e => ?_) : (_ : PySem.Obj) = _ → _) (lk_use hlk ?lk)
  case lk => k_is
  cases e
  clear hlk
  refine' ((fun e => ?_) : (_ : Stmt) = _ → _) (def_use hdef ?lk2)
  case lk2 => exact rfl
  cases e
  clear hdef
  refine wpAny_call ?_
  k_dflt (refine' eff_cells ?k1 ?k2 ?k3 ?k4 ?k5 ?kA ?kF ?kK ?k6 ?k7 ?k8 ?k9 ?kB ?kD ?_ ?c2 ?c3 ?c4; (case kA => exact rfl); (case kF => exact rfl); (case kK => exact rfl); (case k1 => k_asm); (case k2 => k_asm); (case k3 => k_asm); (case k4 => k_asm); (case k5 => k_asm); (case k6 => k_is); (case k7 => k_is); (case k8 => k_room); (case k9 => first | exact BindsTo.of_eq rfl | exact binds_K (by k_in) rfl (by k_is) rfl rfl rfl); (case kB => exact rfl); (case kD => decide +kernel); (case c2 => exact rfl); (case c3 => exact rfl); (case c4 => exact rfl); k_whole; intro g0 L0 h0' tk' cells' GS0 F' N' Y' B' X' T' l1; (try k_lt l1); k_cells Y'; (try simp only [List.cons_append, List.nil_append] at N'); (try dsimp only); (try k_lift B'); (try k_fold))
  subst hlow
  repeat' ((fail_if_success (with_reducible show wpAny _ _ (exec (Stmt.Assign [PySem.Expr.Name _ _] (PySem.Expr.ListComp _ _ _ _) _) _) _ _ _)); (first | (k_unfold; (try dsimp only)) | (k_end; wrow_close) | walk1 | (dsimp only; walk1) | (leave1; walk_say "STEP leave1"; try dsimp only) | fail "no step"))
  rename (KBw.bInts _ = List.take _ (str03 _ _ _)) => hb5
  rename (KBw.bInts (_ ++ _) = _) => hsd
  rw [seed_two hk0 hk1 hr0 hr1] at hb5 hsd
  obtain ⟨os, hos⟩ : ∃ os, os = str03 ns (rho ++ [col, row]) 131941395333119 := ⟨_, rfl⟩
  rw [← hos] at hb5
  have hol : 1728 ≤ os.length ∧ os.length ≤ 1752 := hos ▸ str03_len _ _ _
  have hfl : Flows os := hos ▸ flowsA _ _
  k_dflt (refine LCg.Assign_ListComp_U (F₀ := by k_asm) (by rfl) (by with_unfolding_all rfl) (by with_unfolding_all rfl) (by decide) (by rfl) (by decide) (by rfl) (by rfl) (by rfl) ?_)
  repeat' ((fail_if_success (with_reducible show LCg.CompSrc _ _ _ _ _ _ _ _ _ _ _ _ _ _)); (first | (k_unfold; (try dsimp only)) | (k_end; wrow_close) | walk1 | (dsimp only; walk1) | (leave1; walk_say "STEP leave1"; try dsimp only) | fail "no step"))
  refine LCg.CompSrc.range (by rfl) (by k_asm) (by k_asm) (by assumption) (by decide) (by rfl) (by rw [PySem.sizeLine_eq]; decide) ?_
  intro g9
  with_unfolding_all refine' ci_range (n := 256) (sd := sd) (shkD w f 168 _ _ _ _ _ _ _ _) [_, _, _, _, _, _] [_, _, _, _, _, _, _] (fun r c => NtWord os r c.1 c.2.2.1 c.2.2.2.2.1) (0, _, _, _, 5 * 168, _) (nt_start hb5) ?turn ?fin
  case turn =>
    rintro ⟨at_, ta, buf, tb, len, tl⟩ r t I oI C oC D m₂ ys h tk E' hrl hys hW hC hx F' N' off' ne'
    have offK := off'
    dsimp only [shkD] at N'
    dsimp only at hW hrl
    have offN := off'
    clear off'
    simp only [List.cons_append, List.nil_append] at N' offN
    have hrl' : r.length < 256 := by omega
    obtain ⟨hn0, hn1, hn2, hn3⟩ := nt_room hW hrl'
    try k_fold
    rename_i y1 y2 y3 y4 y5 y6 y7 y8 y9 y10 y11 y12 y13 y14 y15 y16 y17 y18 y19 y20 y21 y22 y23 y24 y25 y26 y27 y28 y29 y30 y31 y32 y33 y34 y35 y36 y37 y38 y39 y40 y41 y42 y43 y44 y45 y46 y47 y48 y49 y50 y51 y52 y53 y54 y55 y56 y57 y58 y59 y60 y61 y62
    (try clear y62); (try clear y61); (try clear y60); (try clear y51); (try clear y50); (try clear y47); (try clear y46); (try clear y45); (try clear y44); (try clear y43); (try clear y34); (try clear y33); (try clear y32); (try clear y27); (try clear y26); (try clear y25); (try clear y23); (try clear y19); (try clear y14); (try clear y13); (try clear tk'); (try clear h0'); (try clear N); (try clear X); (try clear ret); (try clear F); (try clear T); (try clear B); (try clear E); (try clear Q); (try clear m)
    repeat' ((fail_if_success (with_reducible show wpAny _ _ (exec (Stmt.While _ _ _ _) _) _ _ _)); (first | (k_unfold; (try dsimp only)) | (k_end; wrow_close) | walk1 | (dsimp only; walk1) | (leave1; walk_say "STEP leave1"; try dsimp only) | fail "no step"))
    k_with "state" => first | exact nt_conj (by assumption) hrl' | exact nt_conj (nt_no hfl (by assumption) hrl' (by first | assumption | (rw [hos]; assumption)) (by omega) (by omega) (by assumption)) hrl'
    k_while (fun script a bf ln => 0 ≤ a ∧ a ≤ 1557 ∧ a ≤ ln ∧ (ln = 840 ∨ ln = 1680) ∧ KBw.bInts bf = os.take ln.toNat ∧ NtWord os r a bf ln) (fun script a bf ln => (1600 - a).toNat) "xof.index" "xof.buf" "xof.len_buf"
    repeat' ((fail_if_success (with_reducible show LCg.CompEnd _ _ _ _ _ _ _ _ _ _ _ _ _ _)); (first | (k_unfold; (try dsimp only)) | (k_end; wrow_close) | walk1 | (dsimp only; walk1) | (leave1; walk_say "STEP leave1"; try dsimp only) | fail "no step"))
    all_goals
        (show LCg.CompEnd _ _ _ _ _ _ _ _ _ _ _ _ _ _
         refine' ci_end (D₁ := shkD w f 168 _ _ _ _ _ _ _ _) (_, _, _, _, _, _) (by k_asm) (by k_asm) ?hm (by k_mem) (by k_mem) (by k_mem) ?pr ?po offK True.intro ?hP
         case hm => k_mem
         case hP => dsimp only; exact nt_yes hfl (by assumption) hrl' (by assumption) (by omega) (by omega) (by assumption)
         case pr => (intro p9 hp9; simp only [List.mem_cons, List.not_mem_nil, or_false] at hp9; rcases hp9 with rfl | rfl | rfl | rfl | rfl | rfl <;> k_mem)
         case po => (intro p9 hp9; simp only [List.mem_cons, List.not_mem_nil, or_false] at hp9; rcases hp9 with rfl | rfl | rfl | rfl | rfl | rfl | rfl <;> k_mem))
  case fin =>
    rintro ⟨at_, ta, buf, tb, len, tl⟩ r ys hrl hys hW D9 h9 tk9 F' N' offD
    dsimp only [shkD] at N'
    dsimp only at hW
    simp only [List.cons_append, List.nil_append] at N'
    have hE := hW.e
    try k_fold
    k_steps
    obtain ⟨q9, hq8, hq9⟩ := hE
    rw [hos] at hq9
    rename Fr g L _ _ => kFc
    rename News g L _ _ => kNc
    rename Fr g0 L0 _ _ => kF0
    refine' ret _ _ _ _ _ _ _ _ _ _ _ kFc (news6 kNc ?m1 ?m2 ?m3 ?m5 ?m6 ?m4) ?mi ⟨⟨q9, hq9⟩, hrl⟩ ?mo (fun b o e nb => kF0.keep b o (GS0 b o e nb))
    case m1 => k_mem
    case m2 => k_mem
    case m3 => k_mem
    case m5 => k_mem
    case m6 => k_mem
    case m4 => k_mem
    case mi => assumption
    case mo => omega
end
section
def EtaOk (e : Int) : Prop := e = 2 ∨ e = 4
def BdImp (i a : Int) : Prop := i < 256 → a < 384
theorem BdImp.out {i a : Int} (h : BdImp i a) (hi : i < 256) : a < 384 := h hi
theorem bd4e {eta x : Int} {os cs : List Int} {i a : Int} (hf : FlowsH eta os) (hol : 390 ≤ os.length) (h : BdEq eta os cs i a) (h0 : 0 ≤ a) (ha : a < 384) (hi : i < 256) (hi2 : ¬ i + 1 < 256)
    (e1 : [x] = half eta ((os.getD a.toNat 0).fmod 16)) (e2 : ∃ y, [y] = half eta ((os.getD a.toNat 0).fdiv 16)) : BdWord eta os (cs.set i.toNat x) (i + 1) (a + 1) := by
  obtain ⟨y, e⟩ := e2
  exact bd4 hf hol h h0 ha hi hi2 e1 e
theorem EtaOk.out {e : Int} (h : EtaOk e) : e = 2 ∨ e = 4 := h
set_option maxHeartbeats 20000000 in
theorem bd_call {w : World} {p : Program} {loose : List Str} {mean : ExcName → Option Value} {mg mb : Str → Option Value} {g : Heap} {L : Nat} {fa l : Addr} {s : Shared} {vs : List Value} {ns : List Int}
    {oc : Value} {od : Option Addr} {name qual : Str} {params : Arguments} {body : List Stmt} {scope : Scope} {dV kV doc pm ct : Value} {an : Option Addr} {osl : Array (Option Value)}
    (hlk : (Mine3.hd.heap_1 w.params).lookup 618 = some ⟨oc, od, .func (fnOf name qual params body scope dV kV doc pm an (.ref 617) ct), osl⟩)
    {nm : Str} {prm : Arguments} {bd : List Stmt} {deco : List PySem.Expr} {rets : Option PySem.Expr} {tps : List TypeParam} {sc : Scope} {tsc : Option Scope} {bind : Str} {pos : Pos}
    (hdef : body[4]? = some (Stmt.FunctionDef nm prm bd deco rets tps sc tsc bind pos))
    {sx sd ring rd f c c1 c3 z sy : Nat} {o1 o3 oc1 : PySem.Obj} {cvs : Array Value} {qn : Str} {tq : Tok} {dc pm1 ct1 : Value} {t1 t2 t3 t4 t5 t6 t7 t8 t9 t10 t11 t12 t13 t14 t15 t16 : Tok} {low : Int} {lt : Tok} {m : Str → Option Value} {Q E : Value → Shared → Prop}
    {rb : Array UInt8} {rho : List Int} {row eta : Int} {u1 u2 u3 : Tok} 
    (B : Below callerA g [] g) (X : (Mine3.hd.heap_1 w.params).In g) (T : Top p loose mean mg mb g) (hl : g.IsList l vs.toArray) (hi : IntsAre vs ns) (hn : ns.length ≤ 63) (F : Fr g L s.heap m)
    (N : News g L s.heap [(sx, instObj 278 sd), (sd, dictOf [⟨PyData.keyHash w.params (PySem.Str.ofString "algorithm"), .str (PySem.Str.ofString "algorithm") t1, .ref f⟩, ⟨PyData.keyHash w.params (PySem.Str.ofString "block_length"), .str (PySem.Str.ofString "block_length") t3, .int 136 t2⟩, ⟨PyData.keyHash w.params (PySem.Str.ofString "buf"), .str (PySem.Str.ofString "buf") t5, .bytes #[] t4⟩, ⟨PyData.keyHash w.params (PySem.Str.ofString "len_buf"), .str (PySem.Str.ofString "len_buf") t7, .int 0 t6⟩] 4), (ring, instObj 386 rd), (rd, dictOf [⟨PyData.keyHash w.params (PySem.Str.ofString "q"), .str (PySem.Str.ofString "q") t9, .int 8380417 t8⟩, ⟨PyData.keyHash w.params (PySem.Str.ofString "n"), .str (PySem.Str.ofString "n") t11, .int 256 t10⟩, ⟨PyData.keyHash w.params (PySem.Str.ofString "shake128"), .str (PySem.Str.ofString "shake128") t12, .ref sy⟩, ⟨PyData.keyHash w.params (PySem.Str.ofString "shake256"), .str (PySem.Str.ofString "shake256") t13, .ref sx⟩, ⟨PyData.keyHash w.params (PySem.Str.ofString "ntt_zetas"), .str (PySem.Str.ofString "ntt_zetas") t14, .ref z⟩, ⟨PyData.keyHash w.params (PySem.Str.ofString "ntt_f"), .str (PySem.Str.ofString "ntt_f") t16, .int 8347681 t15⟩] 6), (f, fnMade nm qn prm bd sc [(PySem.Str.ofString "script", c1), (PySem.Str.ofString "low", c3)] dc pm1 c ct1), (c, oc1), (c3, o3), (c1, o1), (318, tabObj #[])])
    (hord : 318 < L ∧ 313 < L ∧ L < c1 ∧ c1 < c3 ∧ c3 < c ∧ c < f ∧ f < rd ∧ rd < ring ∧ ring < sd ∧ sd < sx)
    (hc1 : o1.data = .cell (some (.ref l))) (hc3 : o3.data = .cell (some (.int low lt))) (hoc : oc1.data = .fields cvs) (hcv : cvs[1]? = some (.str qn tq))
    (C1 : CodeHd g (320, 318).1 (320, 318).2) (C2 : CodeHd g (315, 313).1 (315, 313).2)
    (hrb : KBw.bInts rb = rho) (hrl : rho.length ≤ 7) (hr0 : 0 ≤ row) (hr1 : row < 256) (heta : eta = 2 ∨ eta = 4) (hlow : low = 131941386420223)
    (ret : ∀ (told td cl : Nat) cvs cs ck h' tk' a1 a2 ps, Fr g L h' m → News g L h' [(told, instObj 520 td), (td, dictOf [⟨PyData.keyHash w.params (PySem.Str.ofString "parent"), .str (PySem.Str.ofString "parent") a1, .ref ring⟩, ⟨PyData.keyHash w.params (PySem.Str.ofString "coeffs"), .str (PySem.Str.ofString "coeffs") a2, .ref cl⟩] 2), (cl, PySem.W.listOf cvs.toArray ck), (c3, o3), (c1, o1), (318, tabObj ps)] → IntsAre cvs cs → (cs = (Hs eta (List.take 390 (str03 ns (rho ++ [row, 0]) 131941386420223))).take 256) → (cl < td ∧ td < told ∧ sx < td) → (∀ b o, s.heap.get? b = some o → b ∉ [sx, sd, ring, rd, f, c, c3, c1, 318] → h'.get? b = some o) → Q (.ref told) { s with heap := h', toks := tk' }) :
    wpAny (model PySem.Challenge.rw_ji0010_03.row.prog w) (callerA.deeper (envOfC qual scope L fa (.ref 617))) (call (.ref 321) [.ref ring, .bytes rb u1, .int row u2, .int eta u3]) Q E s := by
  revert X; k_fill; intro X; w_top off
  k_with_none
  k_with "getMethod ref" => ((k_here; (with_reducible show wpAny _ _ (getMethod (Value.ref _) _ _) _ _ _); k_dflt (first | (refine kmu_own (by k_asm) (by k_asm) (by k_inst) (by k_is) (by k_is) ?_; k_whole) | (refine method_inst (by k_asm) (by k_asm) (by k_inst) (by k_is) (by k_is) (by k_is) (by k_get) ?_; k_whole) | (refine kmu_sm (by k_asm) (by k_asm) (by k_inst) (by k_is) (by k_is) (by k_is) (by k_is) (by k_is) (by k_is) (by decide +kernel) (by k_get) (by k_is) (by k_handed) ?_; k_whole))))
  k_with "setAttr ref" => ((k_here; k_dflt (refine set_dict (by k_asm) (by k_asm) (by k_asm) (by k_inst) (by exact rfl) (by k_is) (by k_is) (by k_is) (by k_is) (by k_get) (by k_put) (by k_upd) (by exact Nat.le_of_ble_eq_true rfl) ?_; k_whole; intro _ _ N'; (try dsimp only at N'); revert N'; intro _; (try k_sweep))))
  k_with "WhlIf" => ((first | (refine WhlIf.no (decide_eq_false (by omega)) ?_) | (refine WhlIf.yes (decide_eq_true (by omega)) ?_) | (refine whl_split ?_ ?_ <;> intro _)))
  k_with "KswEnd" => ((k_dflt ksw_close))
  k_with "call ref" => ((k_here; (with_reducible show wpAny _ _ (call (Value.ref _) [Value.bytes _ _]) _ _ _); k_dflt (refine sk_call (hlk := (by k_is)) (hdef := (by exact rfl)) (by k_asm) (by k_asm) (by k_asm) (by k_asm) (by first | exact rfl | assumption) (by k_asm) (by assumption) (by assumption) (by k_asm) (by k_mem) (by k_updF) (by k_mem) (by k_mem) (by k_mem) (by k_mem) (by and_intros <;> omega) (by assumption) (by assumption) (by assumption) (by assumption) (by first | exact .inl rfl | exact .inr rfl) (by first | assumption | kba_ints2) (by first | assumption | (simp only [List.length_append, List.length_cons, List.length_nil, List.length_map, List.length_take, List.length_drop, KTBy.little_length]; omega)) (by first | decide | omega) (by first | decide | omega) (by ktr_room) (by assumption) ?_; k_whole); intro _ _ _ _ _ _ _ _ _ _ _ _ _ _ _ N'; (try dsimp only [shkD] at N'); revert N'; intro _))
  k_with "call ref" => ((k_here; (with_reducible show wpAny _ _ (call (Value.ref 268) [Value.ref _, Value.int _ _]) _ _ _); k_dflt (refine rx1_call (hlk := (by k_is)) (hdef := (by exact rfl)) (by k_asm) (by k_asm) (by k_asm) (by k_asm) (by first | exact rfl | assumption) (by k_asm) (by assumption) (by assumption) (by k_asm) (by k_mem) (by k_updF) (by k_mem) (by k_mem) (by k_mem) (by k_mem) (by and_intros <;> omega) (by assumption) (by assumption) (by assumption) (by assumption) (by first | exact .inl rfl | exact .inr rfl) (by first | assumption | kba_ints2) (by first | assumption | (simp only [List.length_append, List.length_cons, List.length_nil]; omega)) (by first | decide | omega) (by first | decide | omega) (by ktr_room) (by assumption) (by first | assumption | exact rfl) (by omega) (by omega) (by omega) (by assumption) (by omega) (by omega) (by omega) ?_; k_whole); intro _ _ _ _ _ _ _ N'; (try dsimp only [shkD] at N'); revert N'; intro _))
  k_with "call ref" => ((k_here; (with_reducible show wpAny _ _ (call (Value.ref _) [Value.ref _]) _ _ _); k_dflt (refine pc_call (by k_asm) (by k_asm) (by k_asm) (by k_asm) (by first | exact rfl | assumption) (by k_asm) (by k_mem) (by k_mem) (by k_mem) (by k_mem) (by assumption) (by first | assumption | omega) (by ktr_room) (by assumption) ?_; k_whole); intro _ _ _ _ _ _ _ _ _))
  k_with "subscriptTail" => ((k_here; (with_reducible show wpAny _ _ (subscriptTail _ _ (Value.bytes _ _) (Value.int _ _)) _ _ _); k_dflt (refine item1r (by assumption) (by omega) (by omega) ?_); intro _ _ _ _))
  refine' ((fun e => ?_) : (_ : PySem.Obj) = _ → _) (lk_use hlk ?lk)
  case lk => k_is
  cases e
  clear hlk
  refine' ((fun e => ?_) : (_ : Stmt) = _ → _) (def_use hdef ?lk2)
  case lk2 => exact rfl
  cases e
  clear hdef
  refine wpAny_call ?_
  k_dflt (refine' eff_plain ?k1 ?k2 ?k3 ?k4 ?k5 ?kA ?kF ?kK ?k6 ?k7 ?k8 ?k9 ?kB ?_ ?c2 ?c3 ?c4 ?c5; (case kA => exact rfl); (case kF => exact rfl); (case kK => exact rfl); (case k1 => k_asm); (case k2 => k_asm); (case k3 => k_asm); (case k4 => k_asm); (case k5 => k_asm); (case k6 => k_is); (case k7 => k_is); (case k8 => k_room); (case k9 => first | exact BindsTo.of_eq rfl | exact binds_K (by k_in) rfl (by k_is) rfl rfl rfl); (case c5 => decide); (case kB => exact locs rfl); (case c2 => exact rfl); (case c3 => exact rfl); (case c4 => exact rfl); k_whole; intro g0 L0 h0' GS0 F' N' B' X' T' l1; (try k_lt l1); (try dsimp only); (try k_lift B'); (try k_fold))
  subst hlow
  have heO : EtaOk eta := heta
  clear heta
  repeat' ((fail_if_success (with_reducible show wpAny _ _ (exec (Stmt.While _ _ _ _) _) _ _ _)); (first | (k_unfold; (try dsimp only)) | (k_end; wrow_close) | walk1 | (dsimp only; walk1) | (leave1; walk_say "STEP leave1"; try dsimp only) | fail "no step"))
  rename (KBw.bInts _ = List.take _ (str03 _ _ _)) => hb5
  rename (KBw.bInts (_ ++ _) = _) => hsd
  rw [seed_row2 hr0 hr1] at hb5 hsd
  obtain ⟨os, hos⟩ : ∃ os, os = str03 ns (rho ++ [row, 0]) 131941386420223 := ⟨_, rfl⟩
  rw [← hos] at hb5
  have hol : 1728 ≤ os.length ∧ os.length ≤ 1752 := hos ▸ str03_len _ _ _
  have hfl : FlowsH eta os := hos ▸ flowsB eta _ _
  k_with "state" => (show BdWord _ _ _ _ _; first | exact bd_start2 hfl | exact bd3 hfl (by omega) (by assumption) (by assumption) (BdImp.out (by assumption) (by assumption)) (by assumption) (by assumption) (by assumption) (by assumption) | exact bd4e hfl (by omega) (by assumption) (by assumption) (BdImp.out (by assumption) (by assumption)) (by assumption) (by assumption) (by assumption) ⟨_, by assumption⟩ | exact bd1 hfl (by omega) (by assumption) (by assumption) (BdImp.out (by assumption) (by assumption)) (by assumption) (by assumption) (by assumption) | exact bd2 hfl (by omega) (by assumption) (by assumption) (BdImp.out (by assumption) (by assumption)) (by assumption) (by assumption) (by assumption) | exact bd0 hfl (by omega) (by assumption) (by assumption) (BdImp.out (by assumption) (by assumption)) (by assumption) (by assumption) (by assumption))
  k_while (fun script i cs at_ => 0 ≤ at_ ∧ at_ ≤ 384 ∧ 0 ≤ i ∧ i ≤ 256 ∧ cs.length = 256 ∧ BdImp i at_ ∧ BdEq eta os cs i at_) (fun script i cs at_ => (390 - at_).toNat) "i" "coeffs" "xof.index"
  rename_i y1 y2 y3 y4 y5 y6 y7 y8 y9 y10 y11 y12 y13 y14 y15 y16 y17 y18 y19 y20 y21 y22 y23 y24 y25 y26 y27 y28 y29 y30 y31 y32 y33 y34 y35 y36 y37 y38 y39 y40 y41 y42 y43 y44 y45 y46 y47 y48 y49 y50 y51 y52 y53 y54 y55 y56 y57 y58 y59 y60 y61 y62 y63 y64 y65 y66 y67 y68 y69
  (try clear y47); (try clear y45); (try clear y44); (try clear y43); (try clear y38); (try clear y35); (try clear y34); (try clear y33); (try clear y30); (try clear y21); (try clear y20); (try clear y19); (try clear y17); (try clear y16); (try clear y14); (try clear y9); (try clear y8); (try clear h0'); (try clear N); (try clear F)
  repeat' ((fail_if_success (with_reducible show wpAny _ _ (call (Value.ref _) [Value.int _ _, Value.int _ _]) _ _ _)); (first | (k_unfold; (try dsimp only)) | (k_end; wrow_close) | walk1 | (dsimp only; walk1) | (leave1; walk_say "STEP leave1"; try dsimp only) | fail "no step"))
  · k_here
    k_dflt (refine' hb_call ?lk ?df ?k1 ?k2 ?k3 ?k4 ?k5 ?k6 ?m1 ?m2 ?m3 ?m4 ?he ?kd ?rN ?rI)
    case lk => k_is
    case df => exact rfl
    case k1 => k_asm
    case k2 => k_asm
    case k3 => k_asm
    case k4 => k_asm
    case k5 => k_asm
    case k6 => first | exact rfl | assumption
    case m1 => k_mem
    case m2 => k_mem
    case m3 => assumption
    case m4 => assumption
    case he => exact EtaOk.out (by assumption)
    case kd => ktr_room
    case rN =>
      intro h9 tk9 hHalf9 F9 N9
      repeat' ((fail_if_success (with_reducible show wpAny _ _ (call (Value.ref _) [Value.int _ _, Value.int _ _]) _ _ _)); (first | (k_unfold; (try dsimp only)) | (k_end; wrow_close) | walk1 | (dsimp only; walk1) | (leave1; walk_say "STEP leave1"; try dsimp only) | fail "no step"))
      k_here
      k_dflt (refine' hb_call ?lkya ?dfya ?k1ya ?k2ya ?k3ya ?k4ya ?k5ya ?k6ya ?m1ya ?m2ya ?m3ya ?m4ya ?heya ?kdya ?rNya ?rIya)
      case lkya => k_is
      case dfya => exact rfl
      case k1ya => k_asm
      case k2ya => k_asm
      case k3ya => k_asm
      case k4ya => k_asm
      case k5ya => k_asm
      case k6ya => first | exact rfl | assumption
      case m1ya => k_mem
      case m2ya => k_mem
      case m3ya => assumption
      case m4ya => assumption
      case heya => exact EtaOk.out (by assumption)
      case kdya => ktr_room
      case rNya =>
        intro h8 tk8 hHalf8 F8 N8; k_steps
      case rIya =>
        intro x8 t8 h8 tk8 hHalf8 F8 N8; k_steps
    case rI =>
      intro x9 t9 h9 tk9 hHalf9 F9 N9
      repeat' ((fail_if_success (with_reducible show wpAny _ _ (call (Value.ref _) [Value.int _ _, Value.int _ _]) _ _ _)); (first | (k_unfold; (try dsimp only)) | (k_end; wrow_close) | walk1 | (dsimp only; walk1) | (leave1; walk_say "STEP leave1"; try dsimp only) | fail "no step"))
      k_here
      k_dflt (refine' hb_call ?lkyb ?dfyb ?k1yb ?k2yb ?k3yb ?k4yb ?k5yb ?k6yb ?m1yb ?m2yb ?m3yb ?m4yb ?heyb ?kdyb ?rNyb ?rIyb)
      case lkyb => k_is
      case dfyb => exact rfl
      case k1yb => k_asm
      case k2yb => k_asm
      case k3yb => k_asm
      case k4yb => k_asm
      case k5yb => k_asm
      case k6yb => first | exact rfl | assumption
      case m1yb => k_mem
      case m2yb => k_mem
      case m3yb => assumption
      case m4yb => assumption
      case heyb => exact EtaOk.out (by assumption)
      case kdyb => ktr_room
      case rNyb =>
        intro h8 tk8 hHalf8 F8 N8; k_steps
      case rIyb =>
        intro x8 t8 h8 tk8 hHalf8 F8 N8; k_steps
  · try k_steps
    have hfin := bd_done (eta := eta) (by assumption) (by assumption) (by omega) (by assumption) (by omega)
    rw [hos] at hfin
    rename Fr g L _ _ => kFc
    rename News g L _ _ => kNc
    rename Fr g0 L0 _ _ => kF0
    refine' ret _ _ _ _ _ _ _ _ _ _ _ kFc (news6 kNc ?m1 ?m2 ?m3 ?m5 ?m6 ?m4) ?mi hfin ?mo (fun b o e nb => kF0.keep b o (GS0 b o e nb))
    case m1 => k_mem
    case m2 => k_mem
    case m3 => k_mem
    case m5 => k_mem
    case m6 => k_mem
    case m4 => k_mem
    case mi => assumption
    case mo => omega
end
section
theorem news7 {g : Heap} {L : Addr} {h : Heap} {n : List (Addr × PySem.Obj)} {a b c d e f i : Addr × PySem.Obj} (N : News g L h n) (ha : a ∈ n) (hb : b ∈ n) (hc : c ∈ n) (hd : d ∈ n) (he : e ∈ n) (hf : f ∈ n) (hi : i ∈ n) : News g L h [a, b, c, d, e, f, i] :=
  newsC (N _ ha) (newsC (N _ hb) (newsC (N _ hc) (newsC (N _ hd) (newsC (N _ he) (newsC (N _ hf) (newsC (N _ hi) newsNil))))))
theorem fbmr {prog : Program} {w : World} {A : Around} {E : Value → Shared → Prop} {s : Shared} {h₀ : Heap} {L : Addr} {news : List (Addr × PySem.Obj)} {Q : Value → Shared → Prop} {n : Int} {x : Addr} {b : Array UInt8} {t u : Tok} {os : List Int} (N : News h₀ L s.heap news) (hm : (x, KFB.bound) ∈ news) (hb : KBw.bInts b = (os.drop (0 : Int).toNat).take n.toNat) (hj : n.toNat ≤ 4096)
    (h : ∀ t' k, Q (.int (leI (os.take n.toNat)) t') { s with toks := k }) : wpAny (model prog w) A (call (.ref x) [.bytes b t, .str (PySem.Str.ofString "little") u]) Q E s :=
  fb_call N hm (hb.trans (by rw [show (0 : Int).toNat = 0 from rfl, List.drop_zero])) (by rw [List.length_take]; omega) h
theorem mk_list {V g : Int} {nb : Nat} : List.map (fun k' : Int => g - Builtin.bitAnd (V.fdiv (2 ^ ((nb : Int) * k').toNat)) (1 * 2 ^ Int.toNat (nb : Int) - 1)) (rangeKs 0 ((256 : Int) - 0).toNat) = (dgs V nb 256).map (fun d => g - d) := by
  unfold dgs rangeKs
  rw [List.map_map, List.map_map]
  show List.map _ (List.range 256) = _
  refine List.map_congr_left fun k _ => ?_
  show g - Builtin.bitAnd (V.fdiv (2 ^ ((nb : Int) * (0 + (k : Int))).toNat)) (1 * 2 ^ Int.toNat (nb : Int) - 1) = g - V / 2 ^ (nb * k) % 2 ^ nb
  have e1 : ((nb : Int) * (0 + (k : Int))).toNat = nb * k := by rw [Int.zero_add, ← Int.natCast_mul, Int.toNat_natCast]
  rw [e1, Int.one_mul, Int.toNat_natCast, kbt_maskF, Int.fmod_eq_emod_of_nonneg _ (Int.le_of_lt (p2pos nb)), Int.fdiv_eq_ediv_of_nonneg _ (Int.le_of_lt (p2pos _))]
set_option maxHeartbeats 4000000 in
theorem mk_call18 {w : World} {p : Program} {loose : List Str} {mean : ExcName → Option Value} {mg mb : Str → Option Value} {g : Heap} {L : Nat} {fa l : Addr} {s : Shared} {vs : List Value} {ns : List Int}
    {oc : Value} {od : Option Addr} {name qual : Str} {params : Arguments} {body : List Stmt} {scope : Scope} {dV kV doc pm ct : Value} {an : Option Addr} {osl : Array (Option Value)}
    (hlk : (Mine3.hd.heap_1 w.params).lookup 618 = some ⟨oc, od, .func (fnOf name qual params body scope dV kV doc pm an (.ref 617) ct), osl⟩)
    {nm : Str} {prm : Arguments} {bd : List Stmt} {deco : List PySem.Expr} {rets : Option PySem.Expr} {tps : List TypeParam} {sc : Scope} {tsc : Option Scope} {bind : Str} {pos : Pos}
    (hdef : body[4]? = some (Stmt.FunctionDef nm prm bd deco rets tps sc tsc bind pos))
    {sx sd ring rd f c c1 c3 z sy : Nat} {o1 o3 oc1 : PySem.Obj} {cvs : Array Value} {qn : Str} {tq : Tok} {dc pm1 ct1 : Value} {t1 t2 t3 t4 t5 t6 t7 t8 t9 t10 t11 t12 t13 t14 t15 t16 : Tok} {low : Int} {lt : Tok} {m : Str → Option Value} {Q E : Value → Shared → Prop}
    {rb : Array UInt8} {rho : List Int} {row cnt : Int} {u1 u2 u3 u4 : Tok} 
    (B : Below callerA g [] g) (X : (Mine3.hd.heap_1 w.params).In g) (T : Top p loose mean mg mb g) (hl : g.IsList l vs.toArray) (hi : IntsAre vs ns) (hn : ns.length ≤ 63) (F : Fr g L s.heap m)
    (N : News g L s.heap [(sx, instObj 278 sd), (sd, dictOf [⟨PyData.keyHash w.params (PySem.Str.ofString "algorithm"), .str (PySem.Str.ofString "algorithm") t1, .ref f⟩, ⟨PyData.keyHash w.params (PySem.Str.ofString "block_length"), .str (PySem.Str.ofString "block_length") t3, .int 136 t2⟩, ⟨PyData.keyHash w.params (PySem.Str.ofString "buf"), .str (PySem.Str.ofString "buf") t5, .bytes #[] t4⟩, ⟨PyData.keyHash w.params (PySem.Str.ofString "len_buf"), .str (PySem.Str.ofString "len_buf") t7, .int 0 t6⟩] 4), (ring, instObj 386 rd), (rd, dictOf [⟨PyData.keyHash w.params (PySem.Str.ofString "q"), .str (PySem.Str.ofString "q") t9, .int 8380417 t8⟩, ⟨PyData.keyHash w.params (PySem.Str.ofString "n"), .str (PySem.Str.ofString "n") t11, .int 256 t10⟩, ⟨PyData.keyHash w.params (PySem.Str.ofString "shake128"), .str (PySem.Str.ofString "shake128") t12, .ref sy⟩, ⟨PyData.keyHash w.params (PySem.Str.ofString "shake256"), .str (PySem.Str.ofString "shake256") t13, .ref sx⟩, ⟨PyData.keyHash w.params (PySem.Str.ofString "ntt_zetas"), .str (PySem.Str.ofString "ntt_zetas") t14, .ref z⟩, ⟨PyData.keyHash w.params (PySem.Str.ofString "ntt_f"), .str (PySem.Str.ofString "ntt_f") t16, .int 8347681 t15⟩] 6), (f, fnMade nm qn prm bd sc [(PySem.Str.ofString "script", c1), (PySem.Str.ofString "low", c3)] dc pm1 c ct1), (c, oc1), (c3, o3), (c1, o1)])
    (hord : 318 < L ∧ 313 < L ∧ L < c1 ∧ c1 < c3 ∧ c3 < c ∧ c < f ∧ f < rd ∧ rd < ring ∧ ring < sd ∧ sd < sx)
    (hc1 : o1.data = .cell (some (.ref l))) (hc3 : o3.data = .cell (some (.int low lt))) (hoc : oc1.data = .fields cvs) (hcv : cvs[1]? = some (.str qn tq))
    (C1 : CodeHd g (320, 318).1 (320, 318).2) (C2 : CodeHd g (315, 313).1 (315, 313).2)
    (hrb : KBw.bInts rb = rho) (hrl : rho.length ≤ 7) (hr0 : 0 ≤ row) (hr1 : row < 256) (hk0 : 0 ≤ cnt) (hk1 : cnt < 65000) (hlow : low = 281474976710655)
    (ret : ∀ (told td cl : Nat) cvs cs ck h' tk' a1 a2, Fr g L h' m → News g L h' [(told, instObj 520 td), (td, dictOf [⟨PyData.keyHash w.params (PySem.Str.ofString "parent"), .str (PySem.Str.ofString "parent") a1, .ref ring⟩, ⟨PyData.keyHash w.params (PySem.Str.ofString "coeffs"), .str (PySem.Str.ofString "coeffs") a2, .ref cl⟩] 2), (cl, PySem.W.listOf cvs.toArray ck), (c3, o3), (c1, o1), (ring, instObj 386 rd), (rd, dictOf [⟨PyData.keyHash w.params (PySem.Str.ofString "q"), .str (PySem.Str.ofString "q") t9, .int 8380417 t8⟩, ⟨PyData.keyHash w.params (PySem.Str.ofString "n"), .str (PySem.Str.ofString "n") t11, .int 256 t10⟩, ⟨PyData.keyHash w.params (PySem.Str.ofString "shake128"), .str (PySem.Str.ofString "shake128") t12, .ref sy⟩, ⟨PyData.keyHash w.params (PySem.Str.ofString "shake256"), .str (PySem.Str.ofString "shake256") t13, .ref sx⟩, ⟨PyData.keyHash w.params (PySem.Str.ofString "ntt_zetas"), .str (PySem.Str.ofString "ntt_zetas") t14, .ref z⟩, ⟨PyData.keyHash w.params (PySem.Str.ofString "ntt_f"), .str (PySem.Str.ofString "ntt_f") t16, .int 8347681 t15⟩] 6)] → IntsAre cvs cs → (cs = (dgs (leI ((str03 ns (rho ++ [(cnt + row) % 256, (cnt + row) / 256 % 256]) 281474976710655).take 576)) 18 256).map (fun d => 131072 - d)) → (cl < td ∧ td < told ∧ sx < td) → (∀ b o, s.heap.get? b = some o → b ∉ [sx, sd, ring, rd, f, c, c3, c1] → @Ne Nat b cl) → (∀ b o, s.heap.get? b = some o → b ∉ [sx, sd, ring, rd, f, c, c3, c1] → h'.get? b = some o) → Q (.ref told) { s with heap := h', toks := tk' }) :
    wpAny (model PySem.Challenge.rw_ji0010_03.row.prog w) (callerA.deeper (envOfC qual scope L fa (.ref 617))) (call (.ref 326) [.ref ring, .bytes rb u1, .int row u2, .int cnt u3, .int 131072 u4]) Q E s := by
  revert X; k_fill; intro X; w_top off
  k_with_none
  k_with "getMethod ref" => ((k_here; (with_reducible show wpAny _ _ (getMethod (Value.ref _) _ _) _ _ _); k_dflt (first | (refine kmu_own (by k_asm) (by k_asm) (by k_inst) (by k_is) (by k_is) ?_; k_whole) | (refine method_inst (by k_asm) (by k_asm) (by k_inst) (by k_is) (by k_is) (by k_is) (by k_get) ?_; k_whole) | (refine kmu_sm (by k_asm) (by k_asm) (by k_inst) (by k_is) (by k_is) (by k_is) (by k_is) (by k_is) (by k_is) (by decide +kernel) (by k_get) (by k_is) (by k_handed) ?_; k_whole))))
  k_with "setAttr ref" => ((k_here; k_dflt (refine set_dict (by k_asm) (by k_asm) (by k_asm) (by k_inst) (by exact rfl) (by k_is) (by k_is) (by k_is) (by k_is) (by k_get) (by k_put) (by k_upd) (by exact Nat.le_of_ble_eq_true rfl) ?_; k_whole; intro _ _ N'; (try dsimp only at N'); revert N'; intro _; (try k_sweep))))
  k_with "WhlIf" => ((first | (refine WhlIf.no (decide_eq_false (by omega)) ?_) | (refine WhlIf.yes (decide_eq_true (by omega)) ?_) | (refine whl_split ?_ ?_ <;> intro _)))
  k_with "execs cons" => ((dsimp only))
  k_with "call ref" => ((k_here; (with_reducible show wpAny _ _ (call (Value.ref _) [Value.bytes _ _]) _ _ _); k_dflt (refine sk_call (hlk := (by k_is)) (hdef := (by exact rfl)) (by k_asm) (by k_asm) (by k_asm) (by k_asm) (by first | exact rfl | assumption) (by k_asm) (by assumption) (by assumption) (by k_asm) (by k_mem) (by k_updF) (by k_mem) (by k_mem) (by k_mem) (by k_mem) (by and_intros <;> omega) (by assumption) (by assumption) (by assumption) (by assumption) (by first | exact .inl rfl | exact .inr rfl) (by first | assumption | kba_ints2) (by first | assumption | (simp only [List.length_append, List.length_cons, List.length_nil, List.length_map, List.length_take, List.length_drop, KTBy.little_length]; omega)) (by first | decide | omega) (by first | decide | omega) (by ktr_room) (by assumption) ?_; k_whole); intro _ _ _ _ _ _ _ _ _ _ _ _ _ _ _ N'; (try dsimp only [shkD] at N'); revert N'; intro _))
  k_with "call ref" => ((k_here; (with_reducible show wpAny _ _ (call (Value.ref 268) [Value.ref _, Value.int _ _]) _ _ _); k_dflt (refine rx1_call (hlk := (by k_is)) (hdef := (by exact rfl)) (by k_asm) (by k_asm) (by k_asm) (by k_asm) (by first | exact rfl | assumption) (by k_asm) (by assumption) (by assumption) (by k_asm) (by k_mem) (by k_updF) (by k_mem) (by k_mem) (by k_mem) (by k_mem) (by and_intros <;> omega) (by assumption) (by assumption) (by assumption) (by assumption) (by first | exact .inl rfl | exact .inr rfl) (by first | assumption | kba_ints2) (by first | assumption | (simp only [List.length_append, List.length_cons, List.length_nil]; omega)) (by first | decide | omega) (by first | decide | omega) (by ktr_room) (by assumption) (by first | assumption | exact rfl) (by omega) (by omega) (by omega) (by assumption) (by omega) (by omega) (by omega) ?_; k_whole); intro _ _ _ _ _ _ _ N'; (try dsimp only [shkD] at N'); revert N'; intro _))
  k_with "call ref" => ((k_here; (with_reducible show wpAny _ _ (call (Value.ref _) [Value.ref _]) _ _ _); k_dflt (refine pc_call (by k_asm) (by k_asm) (by k_asm) (by k_asm) (by first | exact rfl | assumption) (by k_asm) (by k_mem) (by k_mem) (by k_mem) (by k_mem) (by assumption) (by first | assumption | omega) (by ktr_room) (by assumption) ?_; k_whole); intro _ _ _ _ _ _ _ _ _))
  k_with "call ref" => ((k_here; (with_reducible show wpAny _ _ (call (Value.ref _) [Value.bytes _ _, Value.str (Str.ofString "little") _]) _ _ _); kfb_any; k_dflt (refine fbmr (by k_asm) (by k_mem) (by assumption) (by decide) ?_); intro _ _))
  refine' ((fun e => ?_) : (_ : PySem.Obj) = _ → _) (lk_use hlk ?lk)
  case lk => k_is
  cases e
  clear hlk
  refine' ((fun e => ?_) : (_ : Stmt) = _ → _) (def_use hdef ?lk2)
  case lk2 => exact rfl
  cases e
  clear hdef
  refine wpAny_call ?_
  k_dflt (refine' eff_cells ?k1 ?k2 ?k3 ?k4 ?k5 ?kA ?kF ?kK ?k6 ?k7 ?k8 ?k9 ?kB ?kD ?_ ?c2 ?c3 ?c4; (case kA => exact rfl); (case kF => exact rfl); (case kK => exact rfl); (case k1 => k_asm); (case k2 => k_asm); (case k3 => k_asm); (case k4 => k_asm); (case k5 => k_asm); (case k6 => k_is); (case k7 => k_is); (case k8 => k_room); (case k9 => first | exact BindsTo.of_eq rfl | exact binds_K (by k_in) rfl (by k_is) rfl rfl rfl); (case kB => exact rfl); (case kD => decide +kernel); (case c2 => exact rfl); (case c3 => exact rfl); (case c4 => exact rfl); k_whole; intro g0 L0 h0' tk' cells' GS0 F' N' Y' B' X' T' l1; (try k_lt l1); k_cells Y'; (try simp only [List.cons_append, List.nil_append] at N'); (try dsimp only); (try k_lift B'); (try k_fold))
  subst hlow
  repeat' ((fail_if_success (with_reducible show wpAny _ _ (exec (Stmt.Assign [PySem.Expr.Name _ _] (PySem.Expr.ListComp _ _ _ _) _) _) _ _ _)); (first | (k_unfold; (try dsimp only)) | (k_end; wrow_close) | walk1 | (dsimp only; walk1) | (leave1; walk_say "STEP leave1"; try dsimp only) | fail "no step"))
  repeat' ((fail_if_success (with_reducible show wpAny _ _ (execs (Stmt.Return _ _ :: _) _) _ _ _)); (first | (k_unfold; (try dsimp only)) | (k_end; wrow_close) | walk1 | (dsimp only; walk1) | (leave1; walk_say "STEP leave1"; try dsimp only) | fail "no step"))
  rename (IntsAre _ (List.map _ (rangeKs _ _))) => hI8
  have hL9 := IntsAre.length hI8
  rw [List.length_map, rangeKs_length] at hL9
  have hL10 := hL9.trans (show ((256 : Int) - 0).toNat = 256 from rfl)
  clear hL9
  have hmk := mk_list (V := leI ((str03 ns (rho ++ [(cnt + row) % 256, (cnt + row) / 256 % 256]) 281474976710655).take 576)) (g := 131072) (nb := 18)
  k_steps
  rename Fr g L _ _ => kFc
  rename News g L _ _ => kNc
  rename Fr g0 L0 _ _ => kF0
  rename News g0 L0 _ _ => kN0
  refine' ret _ _ _ _ _ _ _ _ _ _ kFc (news7 kNc ?m1 ?m2 ?m3 ?m5 ?m6 ?m7 ?m8) ?mi hmk ?mo (fresh_of GS0 kN0 ?m9) (fun b o e nb => kF0.keep b o (GS0 b o e nb))
  case m1 => k_mem
  case m2 => k_mem
  case m3 => k_mem
  case m5 => k_mem
  case m6 => k_mem
  case m7 => k_mem
  case m8 => k_mem
  case m9 => k_mem
  case mi => assumption
  case mo => omega
set_option maxHeartbeats 4000000 in
theorem mk_call20 {w : World} {p : Program} {loose : List Str} {mean : ExcName → Option Value} {mg mb : Str → Option Value} {g : Heap} {L : Nat} {fa l : Addr} {s : Shared} {vs : List Value} {ns : List Int}
    {oc : Value} {od : Option Addr} {name qual : Str} {params : Arguments} {body : List Stmt} {scope : Scope} {dV kV doc pm ct : Value} {an : Option Addr} {osl : Array (Option Value)}
    (hlk : (Mine3.hd.heap_1 w.params).lookup 618 = some ⟨oc, od, .func (fnOf name qual params body scope dV kV doc pm an (.ref 617) ct), osl⟩)
    {nm : Str} {prm : Arguments} {bd : List Stmt} {deco : List PySem.Expr} {rets : Option PySem.Expr} {tps : List TypeParam} {sc : Scope} {tsc : Option Scope} {bind : Str} {pos : Pos}
    (hdef : body[4]? = some (Stmt.FunctionDef nm prm bd deco rets tps sc tsc bind pos))
    {sx sd ring rd f c c1 c3 z sy : Nat} {o1 o3 oc1 : PySem.Obj} {cvs : Array Value} {qn : Str} {tq : Tok} {dc pm1 ct1 : Value} {t1 t2 t3 t4 t5 t6 t7 t8 t9 t10 t11 t12 t13 t14 t15 t16 : Tok} {low : Int} {lt : Tok} {m : Str → Option Value} {Q E : Value → Shared → Prop}
    {rb : Array UInt8} {rho : List Int} {row cnt : Int} {u1 u2 u3 u4 : Tok} 
    (B : Below callerA g [] g) (X : (Mine3.hd.heap_1 w.params).In g) (T : Top p loose mean mg mb g) (hl : g.IsList l vs.toArray) (hi : IntsAre vs ns) (hn : ns.length ≤ 63) (F : Fr g L s.heap m)
    (N : News g L s.heap [(sx, instObj 278 sd), (sd, dictOf [⟨PyData.keyHash w.params (PySem.Str.ofString "algorithm"), .str (PySem.Str.ofString "algorithm") t1, .ref f⟩, ⟨PyData.keyHash w.params (PySem.Str.ofString "block_length"), .str (PySem.Str.ofString "block_length") t3, .int 136 t2⟩, ⟨PyData.keyHash w.params (PySem.Str.ofString "buf"), .str (PySem.Str.ofString "buf") t5, .bytes #[] t4⟩, ⟨PyData.keyHash w.params (PySem.Str.ofString "len_buf"), .str (PySem.Str.ofString "len_buf") t7, .int 0 t6⟩] 4), (ring, instObj 386 rd), (rd, dictOf [⟨PyData.keyHash w.params (PySem.Str.ofString "q"), .str (PySem.Str.ofString "q") t9, .int 8380417 t8⟩, ⟨PyData.keyHash w.params (PySem.Str.ofString "n"), .str (PySem.Str.ofString "n") t11, .int 256 t10⟩, ⟨PyData.keyHash w.params (PySem.Str.ofString "shake128"), .str (PySem.Str.ofString "shake128") t12, .ref sy⟩, ⟨PyData.keyHash w.params (PySem.Str.ofString "shake256"), .str (PySem.Str.ofString "shake256") t13, .ref sx⟩, ⟨PyData.keyHash w.params (PySem.Str.ofString "ntt_zetas"), .str (PySem.Str.ofString "ntt_zetas") t14, .ref z⟩, ⟨PyData.keyHash w.params (PySem.Str.ofString "ntt_f"), .str (PySem.Str.ofString "ntt_f") t16, .int 8347681 t15⟩] 6), (f, fnMade nm qn prm bd sc [(PySem.Str.ofString "script", c1), (PySem.Str.ofString "low", c3)] dc pm1 c ct1), (c, oc1), (c3, o3), (c1, o1)])
    (hord : 318 < L ∧ 313 < L ∧ L < c1 ∧ c1 < c3 ∧ c3 < c ∧ c < f ∧ f < rd ∧ rd < ring ∧ ring < sd ∧ sd < sx)
    (hc1 : o1.data = .cell (some (.ref l))) (hc3 : o3.data = .cell (some (.int low lt))) (hoc : oc1.data = .fields cvs) (hcv : cvs[1]? = some (.str qn tq))
    (C1 : CodeHd g (320, 318).1 (320, 318).2) (C2 : CodeHd g (315, 313).1 (315, 313).2)
    (hrb : KBw.bInts rb = rho) (hrl : rho.length ≤ 7) (hr0 : 0 ≤ row) (hr1 : row < 256) (hk0 : 0 ≤ cnt) (hk1 : cnt < 65000) (hlow : low = 281474976710655)
    (ret : ∀ (told td cl : Nat) cvs cs ck h' tk' a1 a2, Fr g L h' m → News g L h' [(told, instObj 520 td), (td, dictOf [⟨PyData.keyHash w.params (PySem.Str.ofString "parent"), .str (PySem.Str.ofString "parent") a1, .ref ring⟩, ⟨PyData.keyHash w.params (PySem.Str.ofString "coeffs"), .str (PySem.Str.ofString "coeffs") a2, .ref cl⟩] 2), (cl, PySem.W.listOf cvs.toArray ck), (c3, o3), (c1, o1), (ring, instObj 386 rd), (rd, dictOf [⟨PyData.keyHash w.params (PySem.Str.ofString "q"), .str (PySem.Str.ofString "q") t9, .int 8380417 t8⟩, ⟨PyData.keyHash w.params (PySem.Str.ofString "n"), .str (PySem.Str.ofString "n") t11, .int 256 t10⟩, ⟨PyData.keyHash w.params (PySem.Str.ofString "shake128"), .str (PySem.Str.ofString "shake128") t12, .ref sy⟩, ⟨PyData.keyHash w.params (PySem.Str.ofString "shake256"), .str (PySem.Str.ofString "shake256") t13, .ref sx⟩, ⟨PyData.keyHash w.params (PySem.Str.ofString "ntt_zetas"), .str (PySem.Str.ofString "ntt_zetas") t14, .ref z⟩, ⟨PyData.keyHash w.params (PySem.Str.ofString "ntt_f"), .str (PySem.Str.ofString "ntt_f") t16, .int 8347681 t15⟩] 6)] → IntsAre cvs cs → (cs = (dgs (leI ((str03 ns (rho ++ [(cnt + row) % 256, (cnt + row) / 256 % 256]) 281474976710655).take 640)) 20 256).map (fun d => 524288 - d)) → (cl < td ∧ td < told ∧ sx < td) → (∀ b o, s.heap.get? b = some o → b ∉ [sx, sd, ring, rd, f, c, c3, c1] → @Ne Nat b cl) → (∀ b o, s.heap.get? b = some o → b ∉ [sx, sd, ring, rd, f, c, c3, c1] → h'.get? b = some o) → Q (.ref told) { s with heap := h', toks := tk' }) :
    wpAny (model PySem.Challenge.rw_ji0010_03.row.prog w) (callerA.deeper (envOfC qual scope L fa (.ref 617))) (call (.ref 326) [.ref ring, .bytes rb u1, .int row u2, .int cnt u3, .int 524288 u4]) Q E s := by
  revert X; k_fill; intro X; w_top off
  k_with_none
  k_with "getMethod ref" => ((k_here; (with_reducible show wpAny _ _ (getMethod (Value.ref _) _ _) _ _ _); k_dflt (first | (refine kmu_own (by k_asm) (by k_asm) (by k_inst) (by k_is) (by k_is) ?_; k_whole) | (refine method_inst (by k_asm) (by k_asm) (by k_inst) (by k_is) (by k_is) (by k_is) (by k_get) ?_; k_whole) | (refine kmu_sm (by k_asm) (by k_asm) (by k_inst) (by k_is) (by k_is) (by k_is) (by k_is) (by k_is) (by k_is) (by decide +kernel) (by k_get) (by k_is) (by k_handed) ?_; k_whole))))
  k_with "setAttr ref" => ((k_here; k_dflt (refine set_dict (by k_asm) (by k_asm) (by k_asm) (by k_inst) (by exact rfl) (by k_is) (by k_is) (by k_is) (by k_is) (by k_get) (by k_put) (by k_upd) (by exact Nat.le_of_ble_eq_true rfl) ?_; k_whole; intro _ _ N'; (try dsimp only at N'); revert N'; intro _; (try k_sweep))))
  k_with "WhlIf" => ((first | (refine WhlIf.no (decide_eq_false (by omega)) ?_) | (refine WhlIf.yes (decide_eq_true (by omega)) ?_) | (refine whl_split ?_ ?_ <;> intro _)))
  k_with "execs cons" => ((dsimp only))
  k_with "call ref" => ((k_here; (with_reducible show wpAny _ _ (call (Value.ref _) [Value.bytes _ _]) _ _ _); k_dflt (refine sk_call (hlk := (by k_is)) (hdef := (by exact rfl)) (by k_asm) (by k_asm) (by k_asm) (by k_asm) (by first | exact rfl | assumption) (by k_asm) (by assumption) (by assumption) (by k_asm) (by k_mem) (by k_updF) (by k_mem) (by k_mem) (by k_mem) (by k_mem) (by and_intros <;> omega) (by assumption) (by assumption) (by assumption) (by assumption) (by first | exact .inl rfl | exact .inr rfl) (by first | assumption | kba_ints2) (by first | assumption | (simp only [List.length_append, List.length_cons, List.length_nil, List.length_map, List.length_take, List.length_drop, KTBy.little_length]; omega)) (by first | decide | omega) (by first | decide | omega) (by ktr_room) (by assumption) ?_; k_whole); intro _ _ _ _ _ _ _ _ _ _ _ _ _ _ _ N'; (try dsimp only [shkD] at N'); revert N'; intro _))
  k_with "call ref" => ((k_here; (with_reducible show wpAny _ _ (call (Value.ref 268) [Value.ref _, Value.int _ _]) _ _ _); k_dflt (refine rx1_call (hlk := (by k_is)) (hdef := (by exact rfl)) (by k_asm) (by k_asm) (by k_asm) (by k_asm) (by first | exact rfl | assumption) (by k_asm) (by assumption) (by assumption) (by k_asm) (by k_mem) (by k_updF) (by k_mem) (by k_mem) (by k_mem) (by k_mem) (by and_intros <;> omega) (by assumption) (by assumption) (by assumption) (by assumption) (by first | exact .inl rfl | exact .inr rfl) (by first | assumption | kba_ints2) (by first | assumption | (simp only [List.length_append, List.length_cons, List.length_nil]; omega)) (by first | decide | omega) (by first | decide | omega) (by ktr_room) (by assumption) (by first | assumption | exact rfl) (by omega) (by omega) (by omega) (by assumption) (by omega) (by omega) (by omega) ?_; k_whole); intro _ _ _ _ _ _ _ N'; (try dsimp only [shkD] at N'); revert N'; intro _))
  k_with "call ref" => ((k_here; (with_reducible show wpAny _ _ (call (Value.ref _) [Value.ref _]) _ _ _); k_dflt (refine pc_call (by k_asm) (by k_asm) (by k_asm) (by k_asm) (by first | exact rfl | assumption) (by k_asm) (by k_mem) (by k_mem) (by k_mem) (by k_mem) (by assumption) (by first | assumption | omega) (by ktr_room) (by assumption) ?_; k_whole); intro _ _ _ _ _ _ _ _ _))
  k_with "call ref" => ((k_here; (with_reducible show wpAny _ _ (call (Value.ref _) [Value.bytes _ _, Value.str (Str.ofString "little") _]) _ _ _); kfb_any; k_dflt (refine fbmr (by k_asm) (by k_mem) (by assumption) (by decide) ?_); intro _ _))
  refine' ((fun e => ?_) : (_ : PySem.Obj) = _ → _) (lk_use hlk ?lk)
  case lk => k_is
  cases e
  clear hlk
  refine' ((fun e => ?_) : (_ : Stmt) = _ → _) (def_use hdef ?lk2)
  case lk2 => exact rfl
  cases e
  clear hdef
  refine wpAny_call ?_
  k_dflt (refine' eff_cells ?k1 ?k2 ?k3 ?k4 ?k5 ?kA ?kF ?kK ?k6 ?k7 ?k8 ?k9 ?kB ?kD ?_ ?c2 ?c3 ?c4; (case kA => exact rfl); (case kF => exact rfl); (case kK => exact rfl); (case k1 => k_asm); (case k2 => k_asm); (case k3 => k_asm); (case k4 => k_asm); (case k5 => k_asm); (case k6 => k_is); (case k7 => k_is); (case k8 => k_room); (case k9 => first | exact BindsTo.of_eq rfl | exact binds_K (by k_in) rfl (by k_is) rfl rfl rfl); (case kB => exact rfl); (case kD => decide +kernel); (case c2 => exact rfl); (case c3 => exact rfl); (case c4 => exact rfl); k_whole; intro g0 L0 h0' tk' cells' GS0 F' N' Y' B' X' T' l1; (try k_lt l1); k_cells Y'; (try simp only [List.cons_append, List.nil_append] at N'); (try dsimp only); (try k_lift B'); (try k_fold))
  subst hlow
  repeat' ((fail_if_success (with_reducible show wpAny _ _ (exec (Stmt.Assign [PySem.Expr.Name _ _] (PySem.Expr.ListComp _ _ _ _) _) _) _ _ _)); (first | (k_unfold; (try dsimp only)) | (k_end; wrow_close) | walk1 | (dsimp only; walk1) | (leave1; walk_say "STEP leave1"; try dsimp only) | fail "no step"))
  repeat' ((fail_if_success (with_reducible show wpAny _ _ (execs (Stmt.Return _ _ :: _) _) _ _ _)); (first | (k_unfold; (try dsimp only)) | (k_end; wrow_close) | walk1 | (dsimp only; walk1) | (leave1; walk_say "STEP leave1"; try dsimp only) | fail "no step"))
  rename (IntsAre _ (List.map _ (rangeKs _ _))) => hI8
  have hL9 := IntsAre.length hI8
  rw [List.length_map, rangeKs_length] at hL9
  have hL10 := hL9.trans (show ((256 : Int) - 0).toNat = 256 from rfl)
  clear hL9
  have hmk := mk_list (V := leI ((str03 ns (rho ++ [(cnt + row) % 256, (cnt + row) / 256 % 256]) 281474976710655).take 640)) (g := 524288) (nb := 20)
  k_steps
  rename Fr g L _ _ => kFc
  rename News g L _ _ => kNc
  rename Fr g0 L0 _ _ => kF0
  rename News g0 L0 _ _ => kN0
  refine' ret _ _ _ _ _ _ _ _ _ _ kFc (news7 kNc ?m1 ?m2 ?m3 ?m5 ?m6 ?m7 ?m8) ?mi hmk ?mo (fresh_of GS0 kN0 ?m9) (fun b o e nb => kF0.keep b o (GS0 b o e nb))
  case m1 => k_mem
  case m2 => k_mem
  case m3 => k_mem
  case m5 => k_mem
  case m6 => k_mem
  case m7 => k_mem
  case m8 => k_mem
  case m9 => k_mem
  case mi => assumption
  case mo => omega
end
section
theorem new_entry {h₀ g h' : Heap} {L x : Addr} {m : PySem.Str → Option Value} {news : List (Addr × PySem.Obj)} {o : PySem.Obj} (F : Fr h₀ L g m) (N : News h₀ L g news) (keep : ∀ b o, g.get? b = some o → h'.get? b = some o) (hx : h'.get? x = some o) (hf : g.get? x = none) :
    Fr h₀ L h' m ∧ News h₀ L h' ((x, o) :: news) := by
  refine ⟨F.keeps keep, ?_⟩
  intro q hq
  rcases List.mem_cons.mp hq with rfl | hq
  · refine ⟨hx, ?_, ?_⟩
    · intro e
      have e' : x = L := e
      obtain ⟨oL, es, ep, hL, _⟩ := F.ns
      rw [e', hL] at hf
      cases hf
    · cases e : h₀.get? x with
      | none => rfl
      | some o2 =>
        rw [F.keep x o2 e] at hf
        cases hf
  · exact ⟨keep _ _ (N q hq).1, (N q hq).2⟩
section
variable {w : World} {p : Program} {loose : List Str} {mean : ExcName → Option Value} {mg mb : Str → Option Value} {dp un : Nat} {gd : Option (List Code)} {cn : Str} {cs : Scope} {a : Addr} {ccd : Value} {cl : List (Str × Addr)} {outer : List Env} {A₀ : Around} {base h₀ : Heap} {L : Addr} {m : Str → Option Value} {s : Shared} {Q E : Value → Shared → Prop}
  {l : Addr} {vs : List Value} {ns : List Int} {news : List (Addr × PySem.Obj)} {b : Array UInt8} {bt et : Tok} {sd : List Int}
theorem th_callN (B : Below A₀ base outer h₀) (F : Fr h₀ L s.heap m) (X : (Mine3.hd.heap_1 w.params).In h₀) (N : News h₀ L s.heap news) (T : Top p loose mean mg mb h₀) (hk : cs.kind = .function)
    (hl : base.IsList l vs.toArray) (hi : IntsAre vs ns) (hb : KBw.bInts b = List.take (Int.toNat 1752) (str03 ns sd 131941395333119)) (hd : dp + 1 < recursionLimit)
    (ret : ∀ x rs k h' tk' r q, IntsAre rs r → r = TT (str03 ns sd 131941395333119) q → r.length = 256 → Fr h₀ L h' m → News h₀ L h' ((x, PySem.W.listOf rs.toArray k) :: news) → Q (.ref x) { s with heap := h', toks := tk' }) :
    wpAny (model PySem.Challenge.rw_ji0010_03.row.prog w) (ktrTop dp un gd cn cs L a ccd cl outer) (call (.ref 606) [.bytes b bt]) Q E s :=
  th_call B F X T hk hl hi (hb.trans (List.take_of_length_le (str03_len _ _ _).2)) (str03_len _ _ _).1 (str03_len _ _ _).2 (flowsA _ _) hd fun x rs k h' tk' r q h1 h2 h3 h4 h5 keep => ret x rs k h' tk' r q h1 h2 h3 (new_entry F N keep h4 h5).1 (new_entry F N keep h4 h5).2
theorem hv_callN {eta : Int} {os : List Int} (B : Below A₀ base outer h₀) (F : Fr h₀ L s.heap m) (X : (Mine3.hd.heap_1 w.params).In h₀) (N : News h₀ L s.heap news) (T : Top p loose mean mg mb h₀) (hk : cs.kind = .function)
    (hl : base.IsList l vs.toArray) (hi : IntsAre vs ns) (hb : KBw.bInts b = List.take (Int.toNat 390) os) (heta : eta = 2 ∨ eta = 4) (hd : dp + 1 < recursionLimit)
    (ret : ∀ x rs k h' tk' r, IntsAre rs r → r = (Hs eta (List.take 390 os)).take 256 → Fr h₀ L h' m → News h₀ L h' ((x, PySem.W.listOf rs.toArray k) :: news) → Q (.ref x) { s with heap := h', toks := tk' }) :
    wpAny (model PySem.Challenge.rw_ji0010_03.row.prog w) (ktrTop dp un gd cn cs L a ccd cl outer) (call (.ref 599) [.bytes b bt, .int eta et]) Q E s :=
  hv_call B F X T hk hl hi hb (by rw [List.length_take]; show min 390 _ ≤ 390; omega) heta hd fun x rs k h' tk' r h1 h2 h4 h5 keep => ret x rs k h' tk' r h1 h2 (new_entry F N keep h4 h5).1 (new_entry F N keep h4 h5).2
theorem dg_callN18 {os : List Int} (B : Below A₀ base outer h₀) (F : Fr h₀ L s.heap m) (X : (Mine3.hd.heap_1 w.params).In h₀) (N : News h₀ L s.heap news) (T : Top p loose mean mg mb h₀) (hk : cs.kind = .function)
    (hl : base.IsList l vs.toArray) (hi : IntsAre vs ns) (hb : KBw.bInts b = os) (ho1 : os.length = 576) (hoa : ∀ y ∈ os, 0 ≤ y ∧ y < 256) (hd : dp + 1 < recursionLimit)
    (ret : ∀ x rs k h' tk' r, IntsAre rs r → r = dgs (leI os) 18 256 → Fr h₀ L h' m → News h₀ L h' ((x, PySem.W.listOf rs.toArray k) :: news) → Q (.ref x) { s with heap := h', toks := tk' }) :
    wpAny (model PySem.Challenge.rw_ji0010_03.row.prog w) (ktrTop dp un gd cn cs L a ccd cl outer) (call (.ref 613) [.bytes b bt, .int 18 et]) Q E s :=
  dg_call18 B F X T hk hl hi hb ho1 hoa hd fun x rs k h' tk' r h1 h2 h4 h5 keep => ret x rs k h' tk' r h1 h2 (new_entry F N keep h4 h5).1 (new_entry F N keep h4 h5).2
theorem dg_callN20 {os : List Int} (B : Below A₀ base outer h₀) (F : Fr h₀ L s.heap m) (X : (Mine3.hd.heap_1 w.params).In h₀) (N : News h₀ L s.heap news) (T : Top p loose mean mg mb h₀) (hk : cs.kind = .function)
    (hl : base.IsList l vs.toArray) (hi : IntsAre vs ns) (hb : KBw.bInts b = os) (ho1 : os.length = 640) (hoa : ∀ y ∈ os, 0 ≤ y ∧ y < 256) (hd : dp + 1 < recursionLimit)
    (ret : ∀ x rs k h' tk' r, IntsAre rs r → r = dgs (leI os) 20 256 → Fr h₀ L h' m → News h₀ L h' ((x, PySem.W.listOf rs.toArray k) :: news) → Q (.ref x) { s with heap := h', toks := tk' }) :
    wpAny (model PySem.Challenge.rw_ji0010_03.row.prog w) (ktrTop dp un gd cn cs L a ccd cl outer) (call (.ref 613) [.bytes b bt, .int 20 et]) Q E s :=
  dg_call20 B F X T hk hl hi hb ho1 hoa hd fun x rs k h' tk' r h1 h2 h4 h5 keep => ret x rs k h' tk' r h1 h2 (new_entry F N keep h4 h5).1 (new_entry F N keep h4 h5).2
end
theorem lowOf_0 {k : Int} (h : k.fmod 4 = 0) : lowOf (k.fmod 4) = 131941395333119 := by rw [h]; rfl
theorem lowOf_12 {k : Int} (h0 : ¬ k.fmod 4 = 0) (h3 : k.fmod 4 < 3) : lowOf (k.fmod 4) = 131941386420223 ∧ (2 * k.fmod 4 = 2 ∨ 2 * k.fmod 4 = 4) := by
  have h1 := Int.fmod_nonneg_of_pos k (by decide : (0 : Int) < 4)
  have h : k.fmod 4 = 1 ∨ k.fmod 4 = 2 := by omega
  rcases h with h | h
  · rw [h]; exact ⟨rfl, .inl (by decide)⟩
  · rw [h]; exact ⟨rfl, .inr (by decide)⟩
theorem lowOf_3 {k : Int} (h3 : ¬ k.fmod 4 < 3) : lowOf (k.fmod 4) = 281474976710655 := by
  have h2 := Int.fmod_lt_of_pos k (by decide : (0 : Int) < 4)
  have h : k.fmod 4 = 3 := by omega
  rw [h]; rfl
theorem EndTrue3.mk' {g : Heap} {L : Addr} {s : Shared} {h' : Heap} {tk : Nat} {m' : Str → Option Value} {news' : List (Addr × PySem.Obj)} {p1 p2 p3 : Array Value} {b : Bool} (e : b = true) (F : Fr g L h' m') (N : News g L h' news') (m1 : (318, tabObj p1) ∈ news') (m2 : (313, tabObj p2) ∈ news') (m3 : (615, tabObj p3) ∈ news') :
    EndTrue3 g L s (.ret (.bool b)) { s with heap := h', toks := tk } := ⟨h', tk, m', news', p1, p2, p3, by rw [e], rfl, F, N, m1, m2, m3⟩
end
section
/-! pure laws of the mask's packing -/
theorem packF_fold (nb : Nat) : ∀ (l : List Int) (r : Int), l.foldl (fun r c => r * 2 ^ nb + c) r = r * 2 ^ (nb * l.length) + packF nb l
  | [], r => by simp [packF]
  | c :: l, r => by
    show l.foldl (fun r c => r * 2 ^ nb + c) (r * 2 ^ nb + c) = _
    have e : packF nb (c :: l) = l.foldl (fun r c => r * 2 ^ nb + c) (0 * 2 ^ nb + c) := rfl
    rw [e, packF_fold nb l (r * 2 ^ nb + c), packF_fold nb l (0 * 2 ^ nb + c), List.length_cons, Nat.mul_add, Nat.mul_one, Int.pow_add]
    generalize (2 : Int) ^ nb = A
    generalize (2 : Int) ^ (nb * l.length) = B
    rw [Int.zero_mul, Int.zero_add, Int.add_mul, Int.mul_comm B A, ← Int.mul_assoc, Int.add_assoc]
theorem packF_cons (nb : Nat) (c : Int) (l : List Int) : packF nb (c :: l) = c * 2 ^ (nb * l.length) + packF nb l := by
  have e : packF nb (c :: l) = l.foldl (fun r c => r * 2 ^ nb + c) (0 * 2 ^ nb + c) := rfl
  rw [e, packF_fold, Int.zero_mul, Int.zero_add]
theorem packF_dgs (V : Int) (nb : Nat) : ∀ n : Nat, packF nb (dgs V nb n).reverse = V % 2 ^ (nb * n)
  | 0 => by
    show (0 : Int) = V % 2 ^ (nb * 0)
    rw [Nat.mul_zero, Int.pow_zero, Int.emod_one]
  | n + 1 => by
    rw [dgs_succ, List.reverse_append, List.reverse_singleton, List.singleton_append, packF_cons, List.length_reverse, dgs_len, packF_dgs V nb n, Nat.mul_add, Nat.mul_one, Int.pow_add]
    have hp : (0 : Int) < 2 ^ (nb * n) := p2pos _
    have hq : (0 : Int) < 2 ^ nb := p2pos _
    generalize (2 : Int) ^ (nb * n) = B at hp ⊢
    generalize (2 : Int) ^ nb = A at hq ⊢
    rw [Int.emod_def V (B * A), ← Int.ediv_ediv_of_nonneg (Int.le_of_lt hp), Int.emod_def V B, Int.emod_def (V / B) A, Int.sub_mul]
    rw [Int.mul_comm (V / B) B, Int.mul_assoc B A, Int.mul_comm (A * (V / B / A)) B]
    omega
theorem little_leI : ∀ l : List Int, (∀ y ∈ l, 0 ≤ y ∧ y < 256) → KTBy.little l.length (leI l) = l
  | [], _ => rfl
  | d :: r, h => by
    have hd := h d (.head _)
    have hr := little_leI r (fun y hy => h y (.tail _ hy))
    show (d + 256 * leI r) % 256 :: KTBy.little r.length ((d + 256 * leI r) / 256) = _
    rw [show (d + 256 * leI r) % 256 = d by omega, show (d + 256 * leI r) / 256 = leI r by omega, hr]
theorem pack_tells {os : List Int} {nb : Nat} (h : ∀ y ∈ os, 0 ≤ y ∧ y < 256) (hl : os.length = 32 * nb) : KTBy.little (32 * nb) (packF nb (dgs (leI os) nb 256).reverse) = os := by
  rw [packF_dgs]
  obtain ⟨h0, h1⟩ := leI_in os h
  have e : (2 : Int) ^ (nb * 256) = 256 ^ os.length := by rw [hl, p256', show 8 * (32 * nb) = nb * 256 by omega]
  rw [e, Int.emod_eq_of_lt h0 h1, ← hl, little_leI os h]
theorem back_dgs {V g : Int} {nb n : Nat} (hn : nb ≤ 20) : List.map (fun c : Int => (g - c).fmod 8380417) ((dgs V nb n).map (fun d => g - d)) = dgs V nb n := by
  rw [List.map_map]
  refine (List.map_congr_left fun d hd => ?_).trans (List.map_id _)
  obtain ⟨k, _, rfl⟩ := List.mem_map.mp hd
  show (g - (g - V / 2 ^ (nb * k) % 2 ^ nb)).fmod 8380417 = V / 2 ^ (nb * k) % 2 ^ nb
  have hq : (0 : Int) < 2 ^ nb := p2pos _
  have h0 : 0 ≤ V / 2 ^ (nb * k) % 2 ^ nb := Int.emod_nonneg _ (Int.ne_of_gt hq)
  have h1 : V / 2 ^ (nb * k) % 2 ^ nb < 2 ^ nb := Int.emod_lt_of_pos _ hq
  have h2 : (2 : Int) ^ nb ≤ 2 ^ 20 := by
    have : (2 : Nat) ^ nb ≤ 2 ^ 20 := Nat.pow_le_pow_right (by decide) hn
    exact_mod_cast this
  have h3 : (2 : Int) ^ 20 = 1048576 := by decide
  generalize V / 2 ^ (nb * k) % 2 ^ nb = d at h0 h1 ⊢
  rw [show g - (g - d) = d by omega, Int.fmod_eq_emod_of_nonneg _ (by decide)]
  omega
theorem dgs_in {V : Int} {nb n : Nat} : ∀ y ∈ dgs V nb n, 0 ≤ y ∧ y < 2 ^ nb := by
  intro y hy
  obtain ⟨k, _, rfl⟩ := List.mem_map.mp hy
  have hq : (0 : Int) < 2 ^ nb := p2pos _
  exact ⟨Int.emod_nonneg _ (Int.ne_of_gt hq), Int.emod_lt_of_pos _ hq⟩
end
section
section
variable {prog : Program} {w : World} {A : Around} {h₀ : Heap} {L : Addr} {m : PySem.Str → Option Value} {env : Env} {elt : PySem.Expr} {x : PySem.Str} {scope : Scope} {cl : List (PySem.Str × Addr)} {s : Shared} {S : List (Addr × PySem.Obj) → Prop} {Fin : List Value → List (Addr × PySem.Obj) → Prop} {news : List (Addr × PySem.Obj)}
/-- a comprehension over a list of numbers whose element is a number of the number -/
theorem ci_list {vs : List Value} {ns : List Int} (gf : Int → Int) (hi : IntsAre vs ns)
    (turn : ∀ k t I oI C oC D m₂ ys h tk (E' : Value → Shared → Prop), LCg.NsObj oC m₂ → m₂ x = some (.int k t) → Fr h₀ L h m → News h₀ L h ((I, oI) :: (C, oC) :: (D, LCg.lst ys) :: news) → LCg.Off3 I C D news → ((@Ne Nat I C) ∧ (@Ne Nat I D) ∧ (@Ne Nat C D)) →
      wpAny (model prog w) A (eval elt (compEnvC scope cl C env)) (LCg.CompEnd h₀ L m { s with heap := h, toks := tk } I oI C oC D (LCg.lst ys) S (fun y news' => news' = news ∧ ∃ t', y = .int (gf k) t')) E' { s with heap := h, toks := tk })
    (fin : ∀ ys, IntsAre ys (ns.map gf) → Fin ys news) : LCg.CompRest prog w A h₀ L m env elt x scope cl s S (fun i v => vs.toArray[i]? = some v) Fin vs.toArray.size 0 [] news := by
  have key : ∀ (j i : Nat) (ys : List Value), i + j = ns.length → IntsAre ys ((ns.take i).map gf) → LCg.CompRest prog w A h₀ L m env elt x scope cl s S (fun i v => vs.toArray[i]? = some v) Fin j i ys news := by
    intro j
    induction j with
    | zero =>
      intro i ys hij hy
      have e : i = ns.length := by omega
      subst e
      rw [List.take_length] at hy
      exact LCg.CompRest.zero (fin ys hy)
    | succ j ih =>
      intro i ys hij hy
      refine LCg.CompRest.succ ?_
      intro v I oI C oC D m₂ h tk E' hv hC hx F N off ne
      obtain ⟨k, t, e, hk⟩ := IntsAre.at hi i v (by simpa using hv)
      rw [e] at hx
      refine wpAny_mono (turn k t I oI C oC D m₂ ys h tk E' hC hx F N off ne) (fun y s₂ hq => ?_) fun _ _ e => e
      obtain ⟨h', tk', nw, e, F', N', off', hS, hn, t', hy'⟩ := hq
      rw [hn] at N' off' hS
      refine ⟨h', tk', news, e, F', N', off', hS, ?_⟩
      rw [hy']
      refine ih (i + 1) _ (by omega) ?_
      rw [List.take_add_one, hk]
      simpa using IntsAre.append hy (.cons (gf k) t' .nil)
  have hlen : vs.toArray.size = ns.length := by rw [List.size_toArray]; exact hi.length
  rw [hlen]
  exact key ns.length 0 [] (by omega) (by simp only [List.take_zero, List.map_nil]; exact .nil)
end
theorem bp_callN18 {w : World} {p : Program} {loose : List Str} {mean : ExcName → Option Value} {mg mb : Str → Option Value} {dp un : Nat} {gd : Option (List Code)} {cn : Str} {cs : Scope} {a : Addr} {ccd : Value} {cl : List (Str × Addr)} {outer : List Env} {A₀ : Around} {base h₀ : Heap} {L : Addr} {m : Str → Option Value} {s : Shared} {Q E : Value → Shared → Prop} {news : List (Addr × PySem.Obj)}
    {x : Addr} {xv : List Value} {xs : List Int} {u1 u2 : Tok}
    (B : Below A₀ base outer h₀) (F : Fr h₀ L s.heap m) (X : (Mine3.hd.heap_1 w.params).In h₀) (N : News h₀ L s.heap news) (T : Top p loose mean mg mb h₀) (hk : cs.kind = .function)
    (hl : s.heap.IsList x xv.toArray) (hi : IntsAre xv xs) (hn : xs.length = 256) (hxr : ∀ y ∈ xs, 0 ≤ y ∧ y < 2 ^ 18) (hd : dp + 1 < recursionLimit)
    (ret : ∀ b t h' tk', KBw.bInts b = KTBy.little 576 (packF 18 xs.reverse) → Fr h₀ L h' m → News h₀ L h' news → Q (.bytes b t) { s with heap := h', toks := tk' }) :
    wpAny (model PySem.Challenge.rw_ji0010_03.row.prog w) (ktrTop dp un gd cn cs L a ccd cl outer) (call (.ref 460) [.ref x, .int 18 u1, .int 576 u2]) Q E s :=
  bp_call18 B F X T hk hl hi hn hxr hd fun b t h' tk' h1 keep => ret b t h' tk' h1 (F.keeps keep) (fun q hq => ⟨keep _ _ (N q hq).1, (N q hq).2⟩)
set_option maxHeartbeats 4000000 in
theorem bpz_call18 {w : World} {p : Program} {loose : List Str} {mean : ExcName → Option Value} {mg mb : Str → Option Value} {g : Heap} {L : Nat} {fa : Addr} {s : Shared}
    {qual : Str} {scope : Scope}
    {told td cl ring rd z sx sy : Nat} {ck : Nat} {cvs : List Value} {cs os : List Int} {a1 a2 t8 t9 t10 t11 t12 t13 t14 t15 t16 u : Tok} {m : Str → Option Value} {Q E : Value → Shared → Prop}
    (B : Below callerA g [] g) (X : (Mine3.hd.heap_1 w.params).In g) (T : Top p loose mean mg mb g) (hsk : scope.kind = .function) (F : Fr g L s.heap m)
    (N : News g L s.heap [(told, instObj 520 td), (td, dictOf [⟨PyData.keyHash w.params (PySem.Str.ofString "parent"), .str (PySem.Str.ofString "parent") a1, .ref ring⟩, ⟨PyData.keyHash w.params (PySem.Str.ofString "coeffs"), .str (PySem.Str.ofString "coeffs") a2, .ref cl⟩] 2), (cl, PySem.W.listOf cvs.toArray ck), (ring, instObj 386 rd), (rd, dictOf [⟨PyData.keyHash w.params (PySem.Str.ofString "q"), .str (PySem.Str.ofString "q") t9, .int 8380417 t8⟩, ⟨PyData.keyHash w.params (PySem.Str.ofString "n"), .str (PySem.Str.ofString "n") t11, .int 256 t10⟩, ⟨PyData.keyHash w.params (PySem.Str.ofString "shake128"), .str (PySem.Str.ofString "shake128") t12, .ref sy⟩, ⟨PyData.keyHash w.params (PySem.Str.ofString "shake256"), .str (PySem.Str.ofString "shake256") t13, .ref sx⟩, ⟨PyData.keyHash w.params (PySem.Str.ofString "ntt_zetas"), .str (PySem.Str.ofString "ntt_zetas") t14, .ref z⟩, ⟨PyData.keyHash w.params (PySem.Str.ofString "ntt_f"), .str (PySem.Str.ofString "ntt_f") t16, .int 8347681 t15⟩] 6)])
    (hord : L < rd ∧ rd < ring ∧ cl < td ∧ td < told)
    (hI : IntsAre cvs cs) (hcs : cs = (dgs (leI os) 18 256).map (fun d => 131072 - d)) (hos : ∀ y ∈ os, 0 ≤ y ∧ y < 256) (hol : os.length = 576)
    (ret : ∀ b t h' tk', Fr g L h' m → (∀ b o, s.heap.get? b = some o → b ∉ [told, td, cl, ring, rd] → h'.get? b = some o) → KBw.bInts b = os → Q (.bytes b t) { s with heap := h', toks := tk' }) :
    wpAny (model PySem.Challenge.rw_ji0010_03.row.prog w) (callerA.deeper (envOfC qual scope L fa (.ref 617))) (call (.ref 496) [.ref told, .int 131072 u]) Q E s := by
  revert X; k_fill; intro X; w_top off
  k_with_none
  k_with "getMethod ref" => ((k_here; (with_reducible show wpAny _ _ (getMethod (Value.ref _) _ _) _ _ _); k_dflt (first | (refine kmu_own (by k_asm) (by k_asm) (by k_inst) (by k_is) (by k_is) ?_; k_whole) | (refine method_inst (by k_asm) (by k_asm) (by k_inst) (by k_is) (by k_is) (by k_is) (by k_get) ?_; k_whole) | (refine kmu_sm (by k_asm) (by k_asm) (by k_inst) (by k_is) (by k_is) (by k_is) (by k_is) (by k_is) (by k_is) (by decide +kernel) (by k_get) (by k_is) (by k_handed) ?_; k_whole))))
  k_with "setAttr ref" => ((k_here; k_dflt (refine set_dict (by k_asm) (by k_asm) (by k_asm) (by k_inst) (by exact rfl) (by k_is) (by k_is) (by k_is) (by k_is) (by k_get) (by k_put) (by k_upd) (by exact Nat.le_of_ble_eq_true rfl) ?_; k_whole; intro _ _ N'; (try dsimp only at N'); revert N'; intro _; (try k_sweep))))
  k_with "call ref" => ((k_here; (with_reducible show wpAny _ _ (call (Value.ref 460) _) _ _ _); k_dflt (refine bp_callN18 (by k_asm) (by k_asm) (by k_asm) (by k_asm) (by k_asm) (by first | exact rfl | assumption) (by is_list) (by assumption) (by assumption) (by assumption) (by ktr_room) ?_); intro _ _ _ _ _ _ _))
  refine wpAny_call ?_
  k_dflt (refine' eff_cells ?k1 ?k2 ?k3 ?k4 ?k5 ?kA ?kF ?kK ?k6 ?k7 ?k8 ?k9 ?kB ?kD ?_ ?c2 ?c3 ?c4; (case kA => exact rfl); (case kF => exact rfl); (case kK => exact hsk); (case k1 => k_asm); (case k2 => k_asm); (case k3 => k_asm); (case k4 => k_asm); (case k5 => k_asm); (case k6 => k_is); (case k7 => k_is); (case k8 => k_room); (case k9 => first | exact BindsTo.of_eq rfl | exact binds_K (by k_in) rfl (by k_is) rfl rfl rfl); (case kB => exact rfl); (case kD => decide +kernel); (case c2 => exact rfl); (case c3 => exact rfl); (case c4 => exact rfl); k_whole; intro g0 L0 h0' tk' cells' GS0 F' N' Y' B' X' T' l1; (try k_lt l1); k_cells Y'; (try simp only [List.cons_append, List.nil_append] at N'); (try dsimp only); (try k_lift B'); (try k_fold))
  have hgf : List.map (fun c : Int => (131072 - c).fmod 8380417) cs = dgs (leI os) 18 256 := by rw [hcs]; exact back_dgs (by decide)
  have hL8 : (dgs (leI os) 18 256).length = 256 := dgs_len _ _ _
  have hR8 : ∀ y ∈ dgs (leI os) 18 256, 0 ≤ y ∧ y < 2 ^ 18 := dgs_in
  have hpk : KTBy.little (32 * 18) (packF 18 (dgs (leI os) 18 256).reverse) = os := pack_tells hos hol
  have hlen8 : cs.length = 256 := by rw [hcs, List.length_map, dgs_len]
  clear hcs
  repeat' ((fail_if_success (with_reducible show wpAny _ _ (exec (Stmt.Assign [PySem.Expr.Name _ _] (PySem.Expr.ListComp _ _ _ _) _) _) _ _ _)); (first | (k_unfold; (try dsimp only)) | (k_end; wrow_close) | walk1 | (dsimp only; walk1) | (leave1; walk_say "STEP leave1"; try dsimp only) | fail "no step"))
  k_dflt (refine LCg.Assign_ListComp_U (F₀ := by k_asm) (by rfl) (by with_unfolding_all rfl) (by with_unfolding_all rfl) (by decide) (by rfl) (by decide) (by rfl) (by rfl) (by rfl) ?_)
  repeat' ((fail_if_success (with_reducible show LCg.CompSrc _ _ _ _ _ _ _ _ _ _ _ _ _ _)); (first | (k_unfold; (try dsimp only)) | (k_end; wrow_close) | walk1 | (dsimp only; walk1) | (leave1; walk_say "STEP leave1"; try dsimp only) | fail "no step"))
  refine LCg.CompSrc.ledger (by rfl) (by k_asm) (by k_asm) (by k_mem) (by rw [List.size_toArray, hI.length, hlen8, PySem.sizeLine_eq]; decide) ?_
  intro g9
  refine ci_list (fun c => (131072 - c).fmod 8380417) hI ?turn ?fin
  case turn =>
    intro k t I oI C oC D m₂ ys h tk E' hC hx F' N' off' ne'
    have offK := off'
    (try dsimp only at N')
    simp only [LCg.Off3, and_true] at off'
    repeat' ((fail_if_success (with_reducible show LCg.CompEnd _ _ _ _ _ _ _ _ _ _ _ _ _ _)); (first | (k_unfold; (try dsimp only)) | (k_end; wrow_close) | walk1 | (dsimp only; walk1) | (leave1; walk_say "STEP leave1"; try dsimp only) | fail "no step"))
    all_goals
      (show LCg.CompEnd _ _ _ _ _ _ _ _ _ _ _ _ _ _
       refine LCg.CompEnd.intro (by k_asm) (by k_asm) _ ?sub offK ?hS ⟨rfl, _, rfl⟩
       case hS => exact .inr ⟨_, by k_mem, rfl, _, rfl⟩
       case sub => (intro p9 hp9; simp only [List.mem_cons, List.not_mem_nil, or_false] at hp9; rcases hp9 with rfl | rfl | rfl | rfl | rfl | rfl | rfl | rfl | rfl | rfl <;> k_mem))
  case fin =>
    intro ys hI8
    (try dsimp only at hI8)
    rw [hgf] at hI8
    try k_fold
    k_steps
    rename Fr g L _ _ => kFc
    rename Fr g0 L0 _ _ => kF0
    rename (KBw.bInts _ = KTBy.little _ _) => hb9
    exact ret _ _ _ _ kFc (fun b o e nb => kF0.keep b o (GS0 b o e nb)) (hb9.trans hpk)
theorem bp_callN20 {w : World} {p : Program} {loose : List Str} {mean : ExcName → Option Value} {mg mb : Str → Option Value} {dp un : Nat} {gd : Option (List Code)} {cn : Str} {cs : Scope} {a : Addr} {ccd : Value} {cl : List (Str × Addr)} {outer : List Env} {A₀ : Around} {base h₀ : Heap} {L : Addr} {m : Str → Option Value} {s : Shared} {Q E : Value → Shared → Prop} {news : List (Addr × PySem.Obj)}
    {x : Addr} {xv : List Value} {xs : List Int} {u1 u2 : Tok}
    (B : Below A₀ base outer h₀) (F : Fr h₀ L s.heap m) (X : (Mine3.hd.heap_1 w.params).In h₀) (N : News h₀ L s.heap news) (T : Top p loose mean mg mb h₀) (hk : cs.kind = .function)
    (hl : s.heap.IsList x xv.toArray) (hi : IntsAre xv xs) (hn : xs.length = 256) (hxr : ∀ y ∈ xs, 0 ≤ y ∧ y < 2 ^ 20) (hd : dp + 1 < recursionLimit)
    (ret : ∀ b t h' tk', KBw.bInts b = KTBy.little 640 (packF 20 xs.reverse) → Fr h₀ L h' m → News h₀ L h' news → Q (.bytes b t) { s with heap := h', toks := tk' }) :
    wpAny (model PySem.Challenge.rw_ji0010_03.row.prog w) (ktrTop dp un gd cn cs L a ccd cl outer) (call (.ref 460) [.ref x, .int 20 u1, .int 640 u2]) Q E s :=
  bp_call20 B F X T hk hl hi hn hxr hd fun b t h' tk' h1 keep => ret b t h' tk' h1 (F.keeps keep) (fun q hq => ⟨keep _ _ (N q hq).1, (N q hq).2⟩)
set_option maxHeartbeats 4000000 in
theorem bpz_call20 {w : World} {p : Program} {loose : List Str} {mean : ExcName → Option Value} {mg mb : Str → Option Value} {g : Heap} {L : Nat} {fa : Addr} {s : Shared}
    {qual : Str} {scope : Scope}
    {told td cl ring rd z sx sy : Nat} {ck : Nat} {cvs : List Value} {cs os : List Int} {a1 a2 t8 t9 t10 t11 t12 t13 t14 t15 t16 u : Tok} {m : Str → Option Value} {Q E : Value → Shared → Prop}
    (B : Below callerA g [] g) (X : (Mine3.hd.heap_1 w.params).In g) (T : Top p loose mean mg mb g) (hsk : scope.kind = .function) (F : Fr g L s.heap m)
    (N : News g L s.heap [(told, instObj 520 td), (td, dictOf [⟨PyData.keyHash w.params (PySem.Str.ofString "parent"), .str (PySem.Str.ofString "parent") a1, .ref ring⟩, ⟨PyData.keyHash w.params (PySem.Str.ofString "coeffs"), .str (PySem.Str.ofString "coeffs") a2, .ref cl⟩] 2), (cl, PySem.W.listOf cvs.toArray ck), (ring, instObj 386 rd), (rd, dictOf [⟨PyData.keyHash w.params (PySem.Str.ofString "q"), .str (PySem.Str.ofString "q") t9, .int 8380417 t8⟩, ⟨PyData.keyHash w.params (PySem.Str.ofString "n"), .str (PySem.Str.ofString "n") t11, .int 256 t10⟩, ⟨PyData.keyHash w.params (PySem.Str.ofString "shake128"), .str (PySem.Str.ofString "shake128") t12, .ref sy⟩, ⟨PyData.keyHash w.params (PySem.Str.ofString "shake256"), .str (PySem.Str.ofString "shake256") t13, .ref sx⟩, ⟨PyData.keyHash w.params (PySem.Str.ofString "ntt_zetas"), .str (PySem.Str.ofString "ntt_zetas") t14, .ref z⟩, ⟨PyData.keyHash w.params (PySem.Str.ofString "ntt_f"), .str (PySem.Str.ofString "ntt_f") t16, .int 8347681 t15⟩] 6)])
    (hord : L < rd ∧ rd < ring ∧ cl < td ∧ td < told)
    (hI : IntsAre cvs cs) (hcs : cs = (dgs (leI os) 20 256).map (fun d => 524288 - d)) (hos : ∀ y ∈ os, 0 ≤ y ∧ y < 256) (hol : os.length = 640)
    (ret : ∀ b t h' tk', Fr g L h' m → (∀ b o, s.heap.get? b = some o → b ∉ [told, td, cl, ring, rd] → h'.get? b = some o) → KBw.bInts b = os → Q (.bytes b t) { s with heap := h', toks := tk' }) :
    wpAny (model PySem.Challenge.rw_ji0010_03.row.prog w) (callerA.deeper (envOfC qual scope L fa (.ref 617))) (call (.ref 496) [.ref told, .int 524288 u]) Q E s := by
  revert X; k_fill; intro X; w_top off
  k_with_none
  k_with "getMethod ref" => ((k_here; (with_reducible show wpAny _ _ (getMethod (Value.ref _) _ _) _ _ _); k_dflt (first | (refine kmu_own (by k_asm) (by k_asm) (by k_inst) (by k_is) (by k_is) ?_; k_whole) | (refine method_inst (by k_asm) (by k_asm) (by k_inst) (by k_is) (by k_is) (by k_is) (by k_get) ?_; k_whole) | (refine kmu_sm (by k_asm) (by k_asm) (by k_inst) (by k_is) (by k_is) (by k_is) (by k_is) (by k_is) (by k_is) (by decide +kernel) (by k_get) (by k_is) (by k_handed) ?_; k_whole))))
  k_with "setAttr ref" => ((k_here; k_dflt (refine set_dict (by k_asm) (by k_asm) (by k_asm) (by k_inst) (by exact rfl) (by k_is) (by k_is) (by k_is) (by k_is) (by k_get) (by k_put) (by k_upd) (by exact Nat.le_of_ble_eq_true rfl) ?_; k_whole; intro _ _ N'; (try dsimp only at N'); revert N'; intro _; (try k_sweep))))
  k_with "call ref" => ((k_here; (with_reducible show wpAny _ _ (call (Value.ref 460) _) _ _ _); k_dflt (refine bp_callN18 (by k_asm) (by k_asm) (by k_asm) (by k_asm) (by k_asm) (by first | exact rfl | assumption) (by is_list) (by assumption) (by assumption) (by assumption) (by ktr_room) ?_); intro _ _ _ _ _ _ _))
  k_with "call ref" => ((k_here; (with_reducible show wpAny _ _ (call (Value.ref 460) _) _ _ _); k_dflt (refine bp_callN20 (by k_asm) (by k_asm) (by k_asm) (by k_asm) (by k_asm) (by first | exact rfl | assumption) (by is_list) (by assumption) (by assumption) (by assumption) (by ktr_room) ?_); intro _ _ _ _ _ _ _))
  refine wpAny_call ?_
  k_dflt (refine' eff_cells ?k1 ?k2 ?k3 ?k4 ?k5 ?kA ?kF ?kK ?k6 ?k7 ?k8 ?k9 ?kB ?kD ?_ ?c2 ?c3 ?c4; (case kA => exact rfl); (case kF => exact rfl); (case kK => exact hsk); (case k1 => k_asm); (case k2 => k_asm); (case k3 => k_asm); (case k4 => k_asm); (case k5 => k_asm); (case k6 => k_is); (case k7 => k_is); (case k8 => k_room); (case k9 => first | exact BindsTo.of_eq rfl | exact binds_K (by k_in) rfl (by k_is) rfl rfl rfl); (case kB => exact rfl); (case kD => decide +kernel); (case c2 => exact rfl); (case c3 => exact rfl); (case c4 => exact rfl); k_whole; intro g0 L0 h0' tk' cells' GS0 F' N' Y' B' X' T' l1; (try k_lt l1); k_cells Y'; (try simp only [List.cons_append, List.nil_append] at N'); (try dsimp only); (try k_lift B'); (try k_fold))
  have hgf : List.map (fun c : Int => (524288 - c).fmod 8380417) cs = dgs (leI os) 20 256 := by rw [hcs]; exact back_dgs (by decide)
  have hL8 : (dgs (leI os) 20 256).length = 256 := dgs_len _ _ _
  have hR8 : ∀ y ∈ dgs (leI os) 20 256, 0 ≤ y ∧ y < 2 ^ 20 := dgs_in
  have hpk : KTBy.little (32 * 20) (packF 20 (dgs (leI os) 20 256).reverse) = os := pack_tells hos hol
  have hlen8 : cs.length = 256 := by rw [hcs, List.length_map, dgs_len]
  clear hcs
  repeat' ((fail_if_success (with_reducible show wpAny _ _ (exec (Stmt.Assign [PySem.Expr.Name _ _] (PySem.Expr.ListComp _ _ _ _) _) _) _ _ _)); (first | (k_unfold; (try dsimp only)) | (k_end; wrow_close) | walk1 | (dsimp only; walk1) | (leave1; walk_say "STEP leave1"; try dsimp only) | fail "no step"))
  k_dflt (refine LCg.Assign_ListComp_U (F₀ := by k_asm) (by rfl) (by with_unfolding_all rfl) (by with_unfolding_all rfl) (by decide) (by rfl) (by decide) (by rfl) (by rfl) (by rfl) ?_)
  repeat' ((fail_if_success (with_reducible show LCg.CompSrc _ _ _ _ _ _ _ _ _ _ _ _ _ _)); (first | (k_unfold; (try dsimp only)) | (k_end; wrow_close) | walk1 | (dsimp only; walk1) | (leave1; walk_say "STEP leave1"; try dsimp only) | fail "no step"))
  refine LCg.CompSrc.ledger (by rfl) (by k_asm) (by k_asm) (by k_mem) (by rw [List.size_toArray, hI.length, hlen8, PySem.sizeLine_eq]; decide) ?_
  intro g9
  refine ci_list (fun c => (524288 - c).fmod 8380417) hI ?turn ?fin
  case turn =>
    intro k t I oI C oC D m₂ ys h tk E' hC hx F' N' off' ne'
    have offK := off'
    (try dsimp only at N')
    simp only [LCg.Off3, and_true] at off'
    repeat' ((fail_if_success (with_reducible show LCg.CompEnd _ _ _ _ _ _ _ _ _ _ _ _ _ _)); (first | (k_unfold; (try dsimp only)) | (k_end; wrow_close) | walk1 | (dsimp only; walk1) | (leave1; walk_say "STEP leave1"; try dsimp only) | fail "no step"))
    all_goals
      (show LCg.CompEnd _ _ _ _ _ _ _ _ _ _ _ _ _ _
       refine LCg.CompEnd.intro (by k_asm) (by k_asm) _ ?sub offK ?hS ⟨rfl, _, rfl⟩
       case hS => exact .inr ⟨_, by k_mem, rfl, _, rfl⟩
       case sub => (intro p9 hp9; simp only [List.mem_cons, List.not_mem_nil, or_false] at hp9; rcases hp9 with rfl | rfl | rfl | rfl | rfl | rfl | rfl | rfl | rfl | rfl <;> k_mem))
  case fin =>
    intro ys hI8
    (try dsimp only at hI8)
    rw [hgf] at hI8
    try k_fold
    k_steps
    rename Fr g L _ _ => kFc
    rename Fr g0 L0 _ _ => kF0
    rename (KBw.bInts _ = KTBy.little _ _) => hb9
    exact ret _ _ _ _ kFc (fun b o e nb => kF0.keep b o (GS0 b o e nb)) (hb9.trans hpk)
end
section
structure OrdH (P : Prop) : Prop where
  out : P
theorem hold14 {g h : Heap} {L : Nat} {sy sdy sx sd ring rd f c : Nat} {o1 o2 o3 o4 o5 o6 o7 o8 : PySem.Obj} {rest : List (Addr × PySem.Obj)} (_N : News g L h ((sy, o1) :: (sdy, o2) :: (sx, o3) :: (sd, o4) :: (ring, o5) :: (rd, o6) :: (f, o7) :: (c, o8) :: rest))
    (H : 318 < L ∧ 313 < L ∧ 615 < L ∧ L + 1 + 1 + 1 < c ∧ c < f ∧ f < rd ∧ rd < ring ∧ ring < sd ∧ sd < sx ∧ sx < sdy ∧ sdy < sy) : OrdH (318 < L ∧ 313 < L ∧ 615 < L ∧ L + 1 + 1 + 1 < c ∧ c < f ∧ f < rd ∧ rd < ring ∧ ring < sd ∧ sd < sx ∧ sx < sdy ∧ sdy < sy) := ⟨H⟩
theorem len7 {n : Nat} : min (min 20 n - 13) (n - 13) ≤ 7 := by omega
theorem nx9 {L sy sdy sx sd ring rd f c : Nat} {a t : Nat} (H : 318 < L ∧ 313 < L ∧ 615 < L ∧ L + 1 + 1 + 1 < c ∧ c < f ∧ f < rd ∧ rd < ring ∧ ring < sd ∧ sd < sx ∧ sx < sdy ∧ sdy < sy) (ha : a < L) (ht : @Ne Nat a t) : @Ne Nat a sx ∧ @Ne Nat a sd ∧ @Ne Nat a ring ∧ @Ne Nat a rd ∧ @Ne Nat a f ∧ @Ne Nat a c ∧ @Ne Nat a (L + 1 + 1 + 1) ∧ @Ne Nat a (L + 1) ∧ @Ne Nat a t := by
  and_intros <;> omega
theorem nxL9 {L sy sdy sx sd ring rd f c : Nat} {t : Nat} (H : 318 < L ∧ 313 < L ∧ 615 < L ∧ L + 1 + 1 + 1 < c ∧ c < f ∧ f < rd ∧ rd < ring ∧ ring < sd ∧ sd < sx ∧ sx < sdy ∧ sdy < sy) (ht : t < L) : @Ne Nat (L + 1 + 1) sx ∧ @Ne Nat (L + 1 + 1) sd ∧ @Ne Nat (L + 1 + 1) ring ∧ @Ne Nat (L + 1 + 1) rd ∧ @Ne Nat (L + 1 + 1) f ∧ @Ne Nat (L + 1 + 1) c ∧ @Ne Nat (L + 1 + 1) (L + 1 + 1 + 1) ∧ @Ne Nat (L + 1 + 1) (L + 1) ∧ @Ne Nat (L + 1 + 1) t := by
  and_intros <;> omega
theorem nx8 {L sy sdy sx sd ring rd f c : Nat} {a : Nat} (H : 318 < L ∧ 313 < L ∧ 615 < L ∧ L + 1 + 1 + 1 < c ∧ c < f ∧ f < rd ∧ rd < ring ∧ ring < sd ∧ sd < sx ∧ sx < sdy ∧ sdy < sy) (ha : a < L) : @Ne Nat a sx ∧ @Ne Nat a sd ∧ @Ne Nat a ring ∧ @Ne Nat a rd ∧ @Ne Nat a f ∧ @Ne Nat a c ∧ @Ne Nat a (L + 1 + 1 + 1) ∧ @Ne Nat a (L + 1) := by
  and_intros <;> omega
theorem nxL8 {L sy sdy sx sd ring rd f c : Nat} (H : 318 < L ∧ 313 < L ∧ 615 < L ∧ L + 1 + 1 + 1 < c ∧ c < f ∧ f < rd ∧ rd < ring ∧ ring < sd ∧ sd < sx ∧ sx < sdy ∧ sdy < sy) : @Ne Nat (L + 1 + 1) sx ∧ @Ne Nat (L + 1 + 1) sd ∧ @Ne Nat (L + 1 + 1) ring ∧ @Ne Nat (L + 1 + 1) rd ∧ @Ne Nat (L + 1 + 1) f ∧ @Ne Nat (L + 1 + 1) c ∧ @Ne Nat (L + 1 + 1) (L + 1 + 1 + 1) ∧ @Ne Nat (L + 1 + 1) (L + 1) := by
  and_intros <;> omega
theorem hox {L sy sdy sx sd ring rd f c : Nat} (H : 318 < L ∧ 313 < L ∧ 615 < L ∧ L + 1 + 1 + 1 < c ∧ c < f ∧ f < rd ∧ rd < ring ∧ ring < sd ∧ sd < sx ∧ sx < sdy ∧ sdy < sy) : 318 < L ∧ 313 < L ∧ L < L + 1 ∧ L + 1 < L + 1 + 1 + 1 ∧ L + 1 + 1 + 1 < c ∧ c < f ∧ f < rd ∧ rd < ring ∧ ring < sd ∧ sd < sx := by
  and_intros <;> omega
theorem ny9 {L sy sdy sx sd ring rd f c : Nat} {a t : Nat} (H : 318 < L ∧ 313 < L ∧ 615 < L ∧ L + 1 + 1 + 1 < c ∧ c < f ∧ f < rd ∧ rd < ring ∧ ring < sd ∧ sd < sx ∧ sx < sdy ∧ sdy < sy) (ha : a < L) (ht : @Ne Nat a t) : @Ne Nat a sy ∧ @Ne Nat a sdy ∧ @Ne Nat a ring ∧ @Ne Nat a rd ∧ @Ne Nat a f ∧ @Ne Nat a c ∧ @Ne Nat a (L + 1 + 1 + 1) ∧ @Ne Nat a (L + 1) ∧ @Ne Nat a t := by
  and_intros <;> omega
theorem nyL9 {L sy sdy sx sd ring rd f c : Nat} {t : Nat} (H : 318 < L ∧ 313 < L ∧ 615 < L ∧ L + 1 + 1 + 1 < c ∧ c < f ∧ f < rd ∧ rd < ring ∧ ring < sd ∧ sd < sx ∧ sx < sdy ∧ sdy < sy) (ht : t < L) : @Ne Nat (L + 1 + 1) sy ∧ @Ne Nat (L + 1 + 1) sdy ∧ @Ne Nat (L + 1 + 1) ring ∧ @Ne Nat (L + 1 + 1) rd ∧ @Ne Nat (L + 1 + 1) f ∧ @Ne Nat (L + 1 + 1) c ∧ @Ne Nat (L + 1 + 1) (L + 1 + 1 + 1) ∧ @Ne Nat (L + 1 + 1) (L + 1) ∧ @Ne Nat (L + 1 + 1) t := by
  and_intros <;> omega
theorem ny8 {L sy sdy sx sd ring rd f c : Nat} {a : Nat} (H : 318 < L ∧ 313 < L ∧ 615 < L ∧ L + 1 + 1 + 1 < c ∧ c < f ∧ f < rd ∧ rd < ring ∧ ring < sd ∧ sd < sx ∧ sx < sdy ∧ sdy < sy) (ha : a < L) : @Ne Nat a sy ∧ @Ne Nat a sdy ∧ @Ne Nat a ring ∧ @Ne Nat a rd ∧ @Ne Nat a f ∧ @Ne Nat a c ∧ @Ne Nat a (L + 1 + 1 + 1) ∧ @Ne Nat a (L + 1) := by
  and_intros <;> omega
theorem nyL8 {L sy sdy sx sd ring rd f c : Nat} (H : 318 < L ∧ 313 < L ∧ 615 < L ∧ L + 1 + 1 + 1 < c ∧ c < f ∧ f < rd ∧ rd < ring ∧ ring < sd ∧ sd < sx ∧ sx < sdy ∧ sdy < sy) : @Ne Nat (L + 1 + 1) sy ∧ @Ne Nat (L + 1 + 1) sdy ∧ @Ne Nat (L + 1 + 1) ring ∧ @Ne Nat (L + 1 + 1) rd ∧ @Ne Nat (L + 1 + 1) f ∧ @Ne Nat (L + 1 + 1) c ∧ @Ne Nat (L + 1 + 1) (L + 1 + 1 + 1) ∧ @Ne Nat (L + 1 + 1) (L + 1) := by
  and_intros <;> omega
theorem hoy {L sy sdy sx sd ring rd f c : Nat} (H : 318 < L ∧ 313 < L ∧ 615 < L ∧ L + 1 + 1 + 1 < c ∧ c < f ∧ f < rd ∧ rd < ring ∧ ring < sd ∧ sd < sx ∧ sx < sdy ∧ sdy < sy) : 318 < L ∧ 313 < L ∧ L < L + 1 ∧ L + 1 < L + 1 + 1 + 1 ∧ L + 1 + 1 + 1 < c ∧ c < f ∧ f < rd ∧ rd < ring ∧ ring < sdy ∧ sdy < sy := by
  and_intros <;> omega
theorem n5z {L sy sdy sx sd ring rd f c : Nat} {a cl td told : Nat} (H : 318 < L ∧ 313 < L ∧ 615 < L ∧ L + 1 + 1 + 1 < c ∧ c < f ∧ f < rd ∧ rd < ring ∧ ring < sd ∧ sd < sx ∧ sx < sdy ∧ sdy < sy) (h5 : cl < td ∧ td < told ∧ sy < td) (hcl : @Ne Nat a cl) (ha : a < L) : @Ne Nat a told ∧ @Ne Nat a td ∧ @Ne Nat a cl ∧ @Ne Nat a ring ∧ @Ne Nat a rd := by
  refine ⟨?_, ?_, hcl, ?_, ?_⟩ <;> omega
theorem hoz {L sy sdy sx sd ring rd f c : Nat} {cl td told : Nat} (H : 318 < L ∧ 313 < L ∧ 615 < L ∧ L + 1 + 1 + 1 < c ∧ c < f ∧ f < rd ∧ rd < ring ∧ ring < sd ∧ sd < sx ∧ sx < sdy ∧ sdy < sy) (h5 : cl < td ∧ td < told ∧ sy < td) : L < rd ∧ rd < ring ∧ cl < td ∧ td < told := by
  and_intros <;> omega

theorem seed_name {n : Int} (h0 : 0 ≤ n) (h1 : n < 65536) : List.map (fun c : UInt8 => ((c.toNat : Nat) : Int)) [(n.fmod 256).toNat.toUInt8, (n.fdiv 256).toNat.toUInt8] = [n % 256, n / 256 % 256] := by
  rw [Int.fmod_eq_emod_of_nonneg _ (by decide), Int.fdiv_eq_ediv_of_nonneg _ (by decide), seed_two (by omega) (by omega) (by omega) (by omega), show n / 256 % 256 = n / 256 by omega]
theorem name_in {a b : Int} (h0 : 0 ≤ a) (h1 : a < 65000) (h2 : 0 ≤ b) (h3 : b < 256) : 0 ≤ a + b ∧ a + b < 65536 := by omega
theorem name_oct {n : Int} (h : 0 ≤ n ∧ n < 65536) : ∀ y ∈ [n.fmod 256, n.fdiv 256], 0 ≤ y ∧ y < 256 := by
  intro y hy
  rw [Int.fmod_eq_emod_of_nonneg _ (by decide), Int.fdiv_eq_ediv_of_nonneg _ (by decide)] at hy
  simp only [List.mem_cons, List.not_mem_nil, or_false] at hy
  rcases hy with rfl | rfl <;> omega
local macro_rules | `(tactic| by_in) => `(tactic| exact name_oct (name_in (Int.fmod_nonneg_of_pos _ (by omega)) (Int.fmod_lt_of_pos _ (by omega)) (Int.fmod_nonneg_of_pos _ (by omega)) (Int.fmod_lt_of_pos _ (by omega))))
theorem strT_len {ns sd : List Int} {low m : Int} {k : Nat} (hm : m.toNat = k) (hk : k ≤ 1728) : (List.take m.toNat (str03 ns sd low)).length = k := by
  rw [List.length_take, hm]; have := (str03_len ns sd low).1; omega
theorem bI_inj : ∀ a b : List UInt8, a.map (fun c => ((c.toNat : Nat) : Int)) = b.map (fun c => ((c.toNat : Nat) : Int)) → a = b
  | [], [], _ => rfl
  | [], _ :: _, h => by simp at h
  | _ :: _, [], h => by simp at h
  | x :: a, y :: b, h => by
    rw [List.map_cons, List.map_cons, List.cons.injEq] at h
    rw [bI_inj a b h.2, UInt8.toNat_inj.mp (Int.ofNat.inj h.1)]
theorem bI_eq {a b : Array UInt8} {l : List Int} (ha : KBw.bInts a = l) (hb : KBw.bInts b = l) : (a.toList == b.toList) = true :=
  beq_iff_eq.mpr (bI_inj _ _ (ha.trans hb.symm))
theorem strT_len2 {ns sd : List Int} {low : Int} {k : Nat} (hk : k ≤ 1728) : (List.take k (str03 ns sd low)).length = k := by
  rw [List.length_take]; have := (str03_len ns sd low).1; omega
theorem keep5 {g h h' : Heap} {L a b1 b2 b3 b4 b5 : Addr} {o : PySem.Obj} {n : List (Addr × PySem.Obj)} (N : News g L h n) (hm : (a, o) ∈ n) (keep : ∀ b o, h.get? b = some o → b ∉ [b1, b2, b3, b4, b5] → h'.get? b = some o)
    (hne : (@Ne Nat a b1) ∧ (@Ne Nat a b2) ∧ (@Ne Nat a b3) ∧ (@Ne Nat a b4) ∧ (@Ne Nat a b5)) : h'.get? (a, o).1 = some (a, o).2 ∧ (a, o).1 ≠ L ∧ g.get? (a, o).1 = none := by
  obtain ⟨e1, e2, e3, e4, e5⟩ := hne
  exact ⟨keep a o (N _ hm).1 (notinC e1 (notinC e2 (notinC e3 (notinC e4 (notinC e5 (fun h => nomatch h)))))), (N _ hm).2⟩
theorem strT_all {ns sd : List Int} {low : Int} {n : Nat} : ∀ y ∈ List.take n (str03 ns sd low), 0 ≤ y ∧ y < 256 := fun y hy => str03_all _ _ _ y (List.mem_of_mem_take hy)

set_option maxHeartbeats 20000000 in
theorem law_body03 {w : World} {p : Program} {loose : List Str} {mean : ExcName → Option Value} {mg mb : Str → Option Value} {g : Heap} {L : Nat} {fa l : Addr} {s : Shared} {oA oB oC : Obj} {vs : List Value} {ns : List Int}
    {oc : Value} {od : Option Addr} {name qual : Str} {params : Arguments} {body : List Stmt} {scope : Scope} {dV kV doc pm ct : Value} {an : Option Addr} {osl : Array (Option Value)}
    (hlk : (Mine3.hd.heap_1 w.params).lookup 618 = some ⟨oc, od, .func (fnOf name qual params body scope dV kV doc pm an (.ref 617) ct), osl⟩)
    (B : Below callerA g [] g) (X : (Mine3.hd.heap_1 w.params).In g) (T : Top p loose mean mg mb g) (F : Fr g L s.heap (fun _ => none)) (N : News g L s.heap [(L + 1 + 1 + 1, oA), (L + 1 + 1, oB), (L + 1, oC), (318, tabObj #[]), (313, tabObj #[]), (615, tabObj #[])])
    (hcA : oA.data = .cell none) (hcB : oB.data = .cell none) (hcC : oC.data = .cell (some (.ref l))) (lo : 318 < L ∧ 313 < L ∧ 615 < L) (C1 : CodeHd g (320, 318).1 (320, 318).2) (C2 : CodeHd g (315, 313).1 (315, 313).2) (C3 : CodeHd g (617, 615).1 (617, 615).2) (hl : g.IsList l vs.toArray) (hi : IntsAre vs ns) (hn : ns.length ≤ 63) :
    wpAny (model PySem.Challenge.rw_ji0010_03.row.prog w) (callerA.deeper (envOfC qual scope L fa (.ref 617))) (execs body (envOfC qual scope L fa (.ref 617))) (EndTrue3 g L s) (fun _ _ => False) s := by
  revert X; k_fill; intro X; w_top off
  k_with_none
  k_with "getMethod ref" => ((k_here; (with_reducible show wpAny _ _ (getMethod (Value.ref _) _ _) _ _ _); k_dflt (first | (refine kmu_own (by k_asm) (by k_asm) (by k_inst) (by k_is) (by k_is) ?_; k_whole) | (refine method_inst (by k_asm) (by k_asm) (by k_inst) (by k_is) (by k_is) (by k_is) (by k_get) ?_; k_whole) | (refine kmu_sm (by k_asm) (by k_asm) (by k_inst) (by k_is) (by k_is) (by k_is) (by k_is) (by k_is) (by k_is) (by decide +kernel) (by k_get) (by k_is) (by k_handed) ?_; k_whole))))
  k_with "setAttr ref" => ((k_here; k_dflt (refine set_dict (by k_asm) (by k_asm) (by k_asm) (by k_inst) (by exact rfl) (by k_is) (by k_is) (by k_is) (by k_is) (by k_get) (by k_put) (by k_upd) (by exact Nat.le_of_ble_eq_true rfl) ?_; k_whole; intro _ _ N'; (try dsimp only at N'); revert N'; intro _; (try k_sweep))))
  k_with "execs cons" => ((dsimp only))
  k_with "call ref" => ((k_here; (with_reducible show wpAny _ _ (call (Value.ref 386) [Value.ref _, Value.ref _]) _ _ _); k_dflt (refine rg_call (by k_asm) (by k_asm) (by k_asm) (by k_asm) (by first | exact rfl | assumption) (by k_asm) (by k_mem) (by ktr_room) (by assumption) ?_; k_whole); intro _ _ _ _ _ _ _ _ _ _ _ _ _ _ _ _ _ _ _ _ _ _ _ _ _ _ _ _ _ _ _ _ _ _ l1 _; (try k_lt l1); (try (revert l1; intro _))))
  k_with "call ref" => ((k_here; (with_reducible show wpAny _ _ (call (Value.ref 592) _) _ _ _); k_dflt (refine stream_callN (by k_asm) (by k_asm) (by k_asm) (by k_asm) (by k_asm) (by first | exact rfl | assumption) (by k_asm) (by assumption) (by assumption) (by kba_ints2) (by first | assumption | (simp only [List.length_append, List.length_cons, List.length_nil, List.length_map, List.length_take, List.length_drop]; first | exact len7 | exact Nat.le_trans (Nat.add_le_add_right len7 _) (by decide) | exact Nat.le_trans (Nat.add_le_add_right (Nat.add_le_add_right len7 _) _) (by decide) | omega)) (by first | decide | omega) (by first | decide | omega) (by first | assumption | omega) (by first | assumption | omega) (by ktr_room) ?_); intro _ _ _ _ _ _ _))
  k_with "call ref" => ((k_here; (with_reducible show wpAny _ _ (call (Value.ref 606) _) _ _ _); k_dflt (refine th_callN (by k_asm) (by k_asm) (by k_asm) (by k_asm) (by k_asm) (by first | exact rfl | assumption) (by k_asm) (by assumption) (by assumption) (by ktr_room) ?_); intro _ _ _ _ _ _ _ _ _ _ _ _))
  k_with "call ref" => ((k_here; (with_reducible show wpAny _ _ (call (Value.ref 599) _) _ _ _); k_dflt (refine hv_callN (by k_asm) (by k_asm) (by k_asm) (by k_asm) (by k_asm) (by first | exact rfl | assumption) (by k_asm) (by assumption) (by assumption) (by exact EtaOk.out (by assumption)) (by ktr_room) ?_); intro _ _ _ _ _ _ _ _ _ _))
  k_with "call ref" => ((k_here; (with_reducible show wpAny _ _ (call (Value.ref 613) _) _ _ _); k_dflt (first | (refine dg_callN18 (by k_asm) (by k_asm) (by k_asm) (by k_asm) (by k_asm) (by first | exact rfl | assumption) (by k_asm) (by assumption) (by assumption) (by exact strT_len (by decide) (by decide)) (by exact strT_all) (by ktr_room) ?_) | (refine dg_callN20 (by k_asm) (by k_asm) (by k_asm) (by k_asm) (by k_asm) (by first | exact rfl | assumption) (by k_asm) (by assumption) (by assumption) (by exact strT_len (by decide) (by decide)) (by exact strT_all) (by ktr_room) ?_)); intro _ _ _ _ _ _ _ _ _ _))
  refine' ((fun e => ?_) : (_ : Obj) = _ → _) (lk_use hlk ?lk)
  case lk => k_is
  cases e
  clear hlk
  repeat' ((fail_if_success (with_reducible show wpAny _ _ (execs (Stmt.Assign _ (PySem.Expr.Tuple [_, _, _] _ _) _ :: _) _) _ _ _)); (first | (k_unfold; (try dsimp only)) | (k_end; wrow_close) | walk1 | (dsimp only; walk1) | (leave1; walk_say "STEP leave1"; try dsimp only) | fail "no step"))
  rename Fr _ _ _ _ => lF0
  rename News _ _ _ _ => lN0
  have lN1 := newsC (lN0 _ (.tail _ (.tail _ (.tail _ (.head _))))) (newsTail9 (newsTail9 (newsTail9 (newsTail9 (newsTail9 (newsTail9 (newsTail9 (newsTail9 lN0))))))))
  clear lN0
  (repeat (with_reducible rename (@Ne _ _ _ ∧ _) => hz9; clear hz9))
  repeat' ((fail_if_success (with_reducible show wpAny _ _ (subscriptTail (PySem.Expr.List _ _) _ (Value.ref _) _) _ _ _)); (first | (k_unfold; (try dsimp only)) | (k_end; wrow_close) | walk1 | (dsimp only; walk1) | (leave1; walk_say "STEP leave1"; try dsimp only) | fail "no step"))
  k_here
  refine' low_item ?lN ?lm ?li ?_
  case lN => k_asm
  case lm => k_mem
  case li => exact .cons _ _ (.cons _ _ (.cons _ _ (.cons _ _ .nil)))
  k_whole
  intro tlow hlo0 hlo1
  repeat' ((fail_if_success (with_reducible show wpAny _ _ (call (Value.ref 386) _) _ _ _)); (first | (k_unfold; (try dsimp only)) | (k_end; wrow_close) | walk1 | (dsimp only; walk1) | (leave1; walk_say "STEP leave1"; try dsimp only) | fail "no step"))
  rename Fr _ _ _ _ => lF
  rename News _ _ _ _ => lN
  have lN2 := newsC (lN _ (.head _)) (newsC (lN _ (.tail _ (.head _))) (newsTail9 (newsTail9 (newsTail9 (newsTail9 (newsTail9 lN))))))
  clear lN
  rename_i z0_1 z0_2 z0_3 z0_4 z0_5 z0_6 z0_7 z0_8 z0_9 z0_10 z0_11 z0_12 z0_13 z0_14 z0_15 z0_16 z0_17 z0_18 z0_19 z0_20 z0_21 z0_22 z0_23 z0_24 z0_25 z0_26 z0_27 z0_28 z0_29 z0_30 z0_31 z0_32 z0_33 z0_34 z0_35 z0_36 z0_37 z0_38 z0_39 z0_40 z0_41 z0_42 z0_43 z0_44 z0_45 z0_46 z0_47 z0_48 z0_49 z0_50 z0_51 z0_52 z0_53 z0_54 z0_55 z0_56 z0_57 z0_58 z0_59 z0_60 z0_61 z0_62 z0_63 z0_64 z0_65 z0_66 z0_67 z0_68 z0_69 z0_70 z0_71 z0_72 z0_73 z0_74 z0_75 z0_76 z0_77 z0_78 z0_79 z0_80 z0_81 z0_82 z0_83 z0_84 z0_85 z0_86 z0_87 z0_88 z0_89 z0_90 z0_91
  (try clear z0_86); (try clear z0_85); (try clear z0_77); (try clear z0_74); (try clear z0_72); (try clear z0_69); (try clear z0_68); (try clear z0_67); (try clear z0_66); (try clear z0_64); (try clear z0_62); (try clear z0_61); (try clear z0_60); (try clear z0_59); (try clear z0_58); (try clear z0_57); (try clear z0_55); (try clear z0_49); (try clear z0_48); (try clear z0_47); (try clear z0_43); (try clear z0_34); (try clear z0_31); (try clear z0_29); (try clear z0_26); (try clear z0_22); (try clear z0_21); (try clear z0_16); (try clear z0_13); (try clear z0_10); (try clear z0_9); (try clear z0_3)
  generalize (List.take 5 ns ++ (List.replicate (Int.toNat 5) [(1 : Int)]).flatten) = sm at *

  repeat' ((fail_if_success (with_reducible show wpAny _ _ (execs (Stmt.If _ _ _ _ :: _) _) _ _ _)); (first | (k_unfold; (try dsimp only)) | (k_end; wrow_close) | walk1 | (dsimp only; walk1) | (leave1; walk_say "STEP leave1"; try dsimp only) | fail "no step"))
  rename Fr _ _ _ _ => lF
  rename News _ _ _ _ => lN
  rename (_ = Data.cell (some (Value.int (lowOf _) _))) => hcl
  have hO9 := hold14 lN (by and_intros <;> omega)

  (repeat (with_reducible rename (_ ∧ _) => hz9; clear hz9))
  (repeat (with_reducible rename (@LT.lt Nat _ _ _) => hz9; clear hz9))
  (repeat (with_reducible rename (@Ne _ _ _) => hz9; clear hz9))
  have hO := hO9.out
  clear hO9
  repeat' ((fail_if_success (with_reducible show wpAny _ _ (call (Value.ref 316) _) _ _ _)); (fail_if_success (with_reducible show wpAny _ _ (call (Value.ref 321) _) _ _ _)); (fail_if_success (with_reducible show wpAny _ _ (call (Value.ref 326) _) _ _ _)); (first | (k_unfold; (try dsimp only)) | (k_end; wrow_close) | walk1 | (dsimp only; walk1) | (leave1; walk_say "STEP leave1"; try dsimp only) | fail "no step"))
  · 
    rename_i zs0_1 zs0_2 zs0_3 zs0_4 zs0_5 zs0_6 zs0_7 zs0_8 zs0_9 zs0_10 zs0_11 zs0_12 zs0_13 zs0_14 zs0_15 zs0_16 zs0_17 zs0_18 zs0_19 zs0_20 zs0_21 zs0_22 zs0_23 zs0_24 zs0_25 zs0_26 zs0_27 zs0_28 zs0_29 zs0_30 zs0_31 zs0_32 zs0_33 zs0_34 zs0_35
    (try clear zs0_33); (try clear zs0_32); (try clear zs0_1); (try clear z0_91); (try clear z0_71); (try clear z0_70); (try clear z0_63); (try clear z0_54); (try clear z0_46); (try clear z0_32); (try clear z0_15); (try clear z0_12); (try clear z0_8); (try clear z0_1)
    (repeat (with_reducible rename (_ ∨ _) => hz9; clear hz9)); (repeat (with_reducible rename (@Ne _ _ _) => hz9; clear hz9))
    rename Fr _ _ _ _ => lF
    rename News _ _ _ _ => lN
    rename (Int.fmod _ 4 = 0) => hk0
    have hlw := lowOf_0 hk0
    rw [hlw] at hcl
    refine' ntt_call (hlk := ?lk) (hdef := ?df) ?aB ?aX ?aT ?al ?ai ?an ?aF (news9 ?aN ?m3 ?m4 ?m1 ?m2 ?m5 ?m6 ?m9 ?m7 ?m8) ?hord ?hc1 ?hc3 ?hoc ?hcv ?C1 ?C2 ?hrb ?hrl ?hr0 ?hr1 ?hs0 ?hs1 ?hlow ?ret
    case lk => k_is
    case df => exact rfl
    case aF => exact lF
    case aN => exact lN
    case aB => assumption
    case aX => assumption
    case aT => assumption
    case m3 => k_mem
    case m4 => k_mem
    case m1 => k_mem
    case m2 => k_mem
    case m5 => k_mem
    case m6 => k_mem
    case m9 => k_mem
    case m7 => k_mem
    case hord => first | exact hox hO | exact hoy hO
    case hc1 => assumption
    case hc3 => exact hcl
    case al => assumption
    case ai => assumption
    case an => assumption
    case hoc => assumption
    case hcv => assumption
    case C1 => assumption
    case C2 => assumption
    case hrb => kba_ints2
    case hrl => (simp only [List.length_map, List.length_take, List.length_drop]; exact len7)
    case hr0 => exact Int.fmod_nonneg_of_pos _ (by omega)
    case hr1 => exact Int.fmod_lt_of_pos _ (by omega)
    case hlow => exact rfl
    case m8 => k_mem
    case hs0 => exact Int.fmod_nonneg_of_pos _ (by decide)
    case hs1 => exact Int.fmod_lt_of_pos _ (by decide)
    case ret =>
      intro told td cl cvs cs ck h5 tk5 a1 a2 ps F5 N5 hI5 hc5 ho5 keep5
      obtain ⟨⟨q5, hq5⟩, hl5⟩ := hc5
      have N6 := newsC (N5 _ (.head _)) (newsC (N5 _ (.tail _ (.head _))) (newsC (N5 _ (.tail _ (.tail _ (.head _)))) (newsC (N5 _ (.tail _ (.tail _ (.tail _ (.head _))))) (newsC (N5 _ (.tail _ (.tail _ (.tail _ (.tail _ (.head _)))))) (newsC (N5 _ (.tail _ (.tail _ (.tail _ (.tail _ (.tail _ (.head _))))))) (newsC (keep9 (a := 318) lN (by k_mem) keep5 (nx9 hO hO.1 (by decide))) (newsC (keep9 (a := 615) lN (by k_mem) keep5 (nx9 hO hO.2.2.1 (by decide))) (newsC (keep9 (a := L + 1 + 1) lN (by k_mem) keep5 (nxL9 hO hO.2.1)) newsNil))))))))
      clear lF lN N5 keep5
      dsimp only at F5 N6 ⊢
      (try clear tk)
      repeat' ((fail_if_success (with_reducible show wpAny _ _ (call (Value.ref 592) _) _ _ _)); (first | (k_unfold; (try dsimp only)) | (k_end; wrow_close) | walk1 | (dsimp only; walk1) | (leave1; walk_say "STEP leave1"; try dsimp only) | fail "no step"))
      rename (KBw.bInts (_ ++ _) = _) => hsd
      rw [seed_two (Int.fmod_nonneg_of_pos _ (by decide)) (Int.fmod_lt_of_pos _ (by decide)) (Int.fmod_nonneg_of_pos _ (by decide)) (Int.fmod_lt_of_pos _ (by decide))] at hsd
      k_steps
      rename Fr _ _ _ _ => lF'
      rename News _ _ _ _ => lN'
      rename (_ = TT _ _) => hr9
      rename (List.length _ = 256) => hl9
      exact EndTrue3.mk' (decide_eq_true (hq5.trans ((TT_uniq (n := 256) (by rw [← hq5]; exact hl5) (by rw [← hr9]; exact hl9)).trans hr9.symm))) lF' lN' (by k_mem) (by k_mem) (by k_mem)
  · 
    rename_i zs1_1 zs1_2 zs1_3 zs1_4 zs1_5 zs1_6 zs1_7 zs1_8 zs1_9 zs1_10 zs1_11 zs1_12 zs1_13 zs1_14 zs1_15 zs1_16 zs1_17 zs1_18 zs1_19 zs1_20 zs1_21 zs1_22 zs1_23 zs1_24 zs1_25 zs1_26 zs1_27 zs1_28 zs1_29 zs1_30 zs1_31 zs1_32 zs1_33 zs1_34 zs1_35 zs1_36 zs1_37
    (try clear zs1_36); (try clear zs1_33); (try clear zs1_32); (try clear zs1_1); (try clear z0_91); (try clear z0_71); (try clear z0_70); (try clear z0_63); (try clear z0_54); (try clear z0_46); (try clear z0_32); (try clear z0_15); (try clear z0_12); (try clear z0_8); (try clear z0_1)
    rename (¬ (Int.fmod _ 4 = 0)) => hk0
    rename (Int.fmod _ 4 < 3) => hk3
    have hlw := (lowOf_12 hk0 hk3).1
    have heO : EtaOk _ := (lowOf_12 hk0 hk3).2
    (repeat (with_reducible rename (_ ∨ _) => hz9; clear hz9)); (repeat (with_reducible rename (@Ne _ _ _) => hz9; clear hz9))
    rename Fr _ _ _ _ => lF
    rename News _ _ _ _ => lN
    rw [hlw] at hcl
    refine' bd_call (hlk := ?lk) (hdef := ?df) ?aB ?aX ?aT ?al ?ai ?an ?aF (news9 ?aN ?m3 ?m4 ?m1 ?m2 ?m5 ?m6 ?m9 ?m7 ?m8) ?hord ?hc1 ?hc3 ?hoc ?hcv ?C1 ?C2 ?hrb ?hrl ?hr0 ?hr1 ?heta ?hlow ?ret
    case lk => k_is
    case df => exact rfl
    case aF => exact lF
    case aN => exact lN
    case aB => assumption
    case aX => assumption
    case aT => assumption
    case m3 => k_mem
    case m4 => k_mem
    case m1 => k_mem
    case m2 => k_mem
    case m5 => k_mem
    case m6 => k_mem
    case m9 => k_mem
    case m7 => k_mem
    case hord => first | exact hox hO | exact hoy hO
    case hc1 => assumption
    case hc3 => exact hcl
    case al => assumption
    case ai => assumption
    case an => assumption
    case hoc => assumption
    case hcv => assumption
    case C1 => assumption
    case C2 => assumption
    case hrb => kba_ints2
    case hrl => (simp only [List.length_map, List.length_take, List.length_drop]; exact len7)
    case hr0 => exact Int.fmod_nonneg_of_pos _ (by omega)
    case hr1 => exact Int.fmod_lt_of_pos _ (by omega)
    case hlow => exact rfl
    case m8 => k_mem
    case heta => exact heO.out
    case ret =>
      intro told td cl cvs cs ck h5 tk5 a1 a2 ps F5 N5 hI5 hc5 ho5 keep5
      have N6 := newsC (N5 _ (.head _)) (newsC (N5 _ (.tail _ (.head _))) (newsC (N5 _ (.tail _ (.tail _ (.head _)))) (newsC (N5 _ (.tail _ (.tail _ (.tail _ (.head _))))) (newsC (N5 _ (.tail _ (.tail _ (.tail _ (.tail _ (.head _)))))) (newsC (N5 _ (.tail _ (.tail _ (.tail _ (.tail _ (.tail _ (.head _))))))) (newsC (keep9 (a := 313) lN (by k_mem) keep5 (ny9 hO hO.2.1 (by decide))) (newsC (keep9 (a := 615) lN (by k_mem) keep5 (ny9 hO hO.2.2.1 (by decide))) (newsC (keep9 (a := L + 1 + 1) lN (by k_mem) keep5 (nyL9 hO hO.1)) newsNil))))))))
      clear lF lN N5 keep5
      dsimp only at F5 N6 ⊢
      (try clear tk)
      repeat' ((fail_if_success (with_reducible show wpAny _ _ (call (Value.ref 592) _) _ _ _)); (first | (k_unfold; (try dsimp only)) | (k_end; wrow_close) | walk1 | (dsimp only; walk1) | (leave1; walk_say "STEP leave1"; try dsimp only) | fail "no step"))
      rename (KBw.bInts (_ ++ _) = _) => hsd
      rw [seed_two (Int.fmod_nonneg_of_pos _ (by decide)) (Int.fmod_lt_of_pos _ (by decide)) (by decide) (by decide)] at hsd
      k_steps
      rename Fr _ _ _ _ => lF'
      rename News _ _ _ _ => lN'
      rename (_ = List.take 256 (Hs _ _)) => hr9
      exact EndTrue3.mk' (decide_eq_true (hc5.trans hr9.symm)) lF' lN' (by k_mem) (by k_mem) (by k_mem)
  · 
    rename_i zs3_1 zs3_2 zs3_3 zs3_4 zs3_5 zs3_6 zs3_7 zs3_8 zs3_9 zs3_10 zs3_11 zs3_12 zs3_13 zs3_14 zs3_15 zs3_16 zs3_17 zs3_18 zs3_19 zs3_20 zs3_21 zs3_22 zs3_23 zs3_24 zs3_25 zs3_26 zs3_27 zs3_28 zs3_29 zs3_30 zs3_31 zs3_32 zs3_33 zs3_34 zs3_35 zs3_36 zs3_37 zs3_38 zs3_39 zs3_40 zs3_41 zs3_42 zs3_43 zs3_44 zs3_45 zs3_46 zs3_47 zs3_48 zs3_49 zs3_50 zs3_51 zs3_52 zs3_53 zs3_54 zs3_55 zs3_56
    (try clear zs3_51); (try clear zs3_50); (try clear zs3_46); (try clear zs3_43); (try clear zs3_40); (try clear zs3_36); (try clear zs3_34); (try clear zs3_33); (try clear zs3_32); (try clear zs3_1); (try clear z0_91); (try clear z0_71); (try clear z0_70); (try clear z0_63); (try clear z0_54); (try clear z0_46); (try clear z0_32); (try clear z0_15); (try clear z0_12); (try clear z0_8); (try clear z0_1)
    (repeat (with_reducible rename (_ ∨ _) => hz9; clear hz9)); (repeat (with_reducible rename (@Ne _ _ _) => hz9; clear hz9))
    rename Fr _ _ _ _ => lF
    rename News _ _ _ _ => lN
    rename (¬ (Int.fmod _ 4 < 3)) => hk3
    have hlw := lowOf_3 hk3
    rw [hlw] at hcl
    refine' mk_call18 (hlk := ?lk) (hdef := ?df) ?aB ?aX ?aT ?al ?ai ?an ?aF (news8 ?aN ?m3 ?m4 ?m1 ?m2 ?m5 ?m6 ?m9 ?m7) ?hord ?hc1 ?hc3 ?hoc ?hcv ?C1 ?C2 ?hrb ?hrl ?hr0 ?hr1 ?hs0 ?hs1 ?hlow ?ret
    case lk => k_is
    case df => exact rfl
    case aF => exact lF
    case aN => exact lN
    case aB => assumption
    case aX => assumption
    case aT => assumption
    case m3 => k_mem
    case m4 => k_mem
    case m1 => k_mem
    case m2 => k_mem
    case m5 => k_mem
    case m6 => k_mem
    case m9 => k_mem
    case m7 => k_mem
    case hord => first | exact hox hO | exact hoy hO
    case hc1 => assumption
    case hc3 => exact hcl
    case al => assumption
    case ai => assumption
    case an => assumption
    case hoc => assumption
    case hcv => assumption
    case C1 => assumption
    case C2 => assumption
    case hrb => kba_ints2
    case hrl => (simp only [List.length_map, List.length_take, List.length_drop]; exact len7)
    case hr0 => exact Int.fmod_nonneg_of_pos _ (by omega)
    case hr1 => exact Int.fmod_lt_of_pos _ (by omega)
    case hlow => exact rfl
    case hs0 => exact Int.fmod_nonneg_of_pos _ (by omega)
    case hs1 => exact Int.fmod_lt_of_pos _ (by omega)
    case ret =>
      intro told td cl cvs cs ck h5 tk5 a1 a2 F5 N5 hI5 hc5 ho5 fr5 keep5
      have e5a := fresh8 (a := 318) lN (by k_mem) fr5 (ny8 hO hO.1)
      have e5b := fresh8 (a := 313) lN (by k_mem) fr5 (ny8 hO hO.2.1)
      have e5c := fresh8 (a := 615) lN (by k_mem) fr5 (ny8 hO hO.2.2.1)
      have N6 := (newsC (N5 _ (.head _)) (newsC (N5 _ (.tail _ (.head _))) (newsC (N5 _ (.tail _ (.tail _ (.head _)))) (newsC (N5 _ (.tail _ (.tail _ (.tail _ (.head _))))) (newsC (N5 _ (.tail _ (.tail _ (.tail _ (.tail _ (.head _)))))) (newsC (N5 _ (.tail _ (.tail _ (.tail _ (.tail _ (.tail _ (.head _))))))) (newsC (N5 _ (.tail _ (.tail _ (.tail _ (.tail _ (.tail _ (.tail _ (.head _)))))))) (newsC (keep8 (a := 318) lN (by k_mem) keep5 (ny8 hO hO.1)) (newsC (keep8 (a := 313) lN (by k_mem) keep5 (ny8 hO hO.2.1)) (newsC (keep8 (a := 615) lN (by k_mem) keep5 (ny8 hO hO.2.2.1)) (newsC (keep8 (a := L + 1 + 1) lN (by k_mem) keep5 (nyL8 hO)) newsNil)))))))))))
      clear lF lN N5 keep5 fr5
      dsimp only at F5 N6 ⊢
      (try clear tk)
      repeat' ((fail_if_success (with_reducible show wpAny _ _ (call (Value.ref 592) _) _ _ _)); (first | (k_unfold; (try dsimp only)) | (k_end; wrow_close) | walk1 | (dsimp only; walk1) | (leave1; walk_say "STEP leave1"; try dsimp only) | fail "no step"))
      rename (KBw.bInts (_ ++ _) = _) => hsd
      rw [seed_name (name_in (Int.fmod_nonneg_of_pos _ (by omega)) (Int.fmod_lt_of_pos _ (by omega)) (Int.fmod_nonneg_of_pos _ (by omega)) (Int.fmod_lt_of_pos _ (by omega))).1 (name_in (Int.fmod_nonneg_of_pos _ (by omega)) (Int.fmod_lt_of_pos _ (by omega)) (Int.fmod_nonneg_of_pos _ (by omega)) (Int.fmod_lt_of_pos _ (by omega))).2] at hsd
      repeat' ((fail_if_success (with_reducible show wpAny _ _ (eval (PySem.Expr.ListComp _ _ _ _) _) _ _ _)); (first | (k_unfold; (try dsimp only)) | (k_end; wrow_close) | walk1 | (dsimp only; walk1) | (leave1; walk_say "STEP leave1"; try dsimp only) | fail "no step"))
      k_dflt (refine LCg.ListComp_U (F₀ := by k_asm) (by with_unfolding_all rfl) (by decide) (by rfl) (by decide) (by rfl) ?_)
      repeat' ((fail_if_success (with_reducible show LCg.CompSrc _ _ _ _ _ _ _ _ _ _ _ _ _ _)); (first | (k_unfold; (try dsimp only)) | (k_end; wrow_close) | walk1 | (dsimp only; walk1) | (leave1; walk_say "STEP leave1"; try dsimp only) | fail "no step"))
      rename IntsAre _ _ => hI9
      rename (_ = dgs _ _ _) => hr9
      have hl9 : List.length _ = 256 := (IntsAre.length hI9).trans (by rw [hr9, dgs_len])
      have he9 := hc5.trans (congrArg (List.map (fun d : Int => 131072 - d)) hr9.symm)
      refine LCg.CompSrc.ledger (by rfl) (by k_asm) (by k_asm) (by k_mem) (by rw [List.size_toArray, hl9, PySem.sizeLine_eq]; decide) ?_
      intro g9
      refine ci_list (fun c => 131072 - c) hI9 ?turn ?fin
      case turn =>
        intro k t I oI C oC D m₂ ys h tk E' hC hx F' N' off' ne'
        have offK := off'
        (try dsimp only at N')
        repeat' ((fail_if_success (with_reducible show LCg.CompEnd _ _ _ _ _ _ _ _ _ _ _ _ _ _)); (first | (k_unfold; (try dsimp only)) | (k_end; wrow_close) | walk1 | (dsimp only; walk1) | (leave1; walk_say "STEP leave1"; try dsimp only) | fail "no step"))
        all_goals
          (show LCg.CompEnd _ _ _ _ _ _ _ _ _ _ _ _ _ _
           refine LCg.CompEnd.intro (by k_asm) (by k_asm) _ ?sub offK ?hS ⟨rfl, _, rfl⟩
           case hS => exact .inr ⟨_, by k_mem, rfl, _, rfl⟩
           case sub => (intro p9 hp9; simp only [List.mem_cons, List.not_mem_nil, or_false] at hp9; repeat (rcases hp9 with rfl | hp9; · k_mem)))
      case fin =>
        intro ys hI8
        (try dsimp only at hI8)
        rw [← he9] at hI8
        try k_fold
        repeat' ((fail_if_success (with_reducible show wpAny _ _ (call (Value.ref 496) _) _ _ _)); (first | (k_unfold; (try dsimp only)) | (k_end; wrow_close) | walk1 | (dsimp only; walk1) | (leave1; walk_say "STEP leave1"; try dsimp only) | fail "no step"))
        rename Fr _ _ _ _ => kF
        rename News _ _ _ _ => kN
        refine' bpz_call18 ?aB ?aX ?aT ?ask kF (news5' kN ?m1 ?m2 ?m3 ?m4 ?m5) ?hord hI5 hc5 strT_all (strT_len2 (by decide)) ?ret
        case aB => assumption
        case aX => assumption
        case aT => assumption
        case ask => exact rfl
        case m1 => k_mem
        case m2 => k_mem
        case m3 => k_mem
        case m4 => k_mem
        case m5 => k_mem
        case hord => exact hoz hO ho5
        case ret =>
          intro b9 t9 h9 tk9 F9 keep9 hb9
          have N9 := (newsC (keep5 (a := 318) kN (by k_mem) keep9 (n5z hO ho5 e5a hO.1)) (newsC (keep5 (a := 313) kN (by k_mem) keep9 (n5z hO ho5 e5b hO.2.1)) (newsC (keep5 (a := 615) kN (by k_mem) keep9 (n5z hO ho5 e5c hO.2.2.1)) newsNil)))
          clear kF kN keep9
          k_steps
          rename Fr _ _ _ _ => lF'
          rename News _ _ _ _ => lN'
          exact EndTrue3.mk' (bI_eq hb9 (by assumption)) lF' lN' (by k_mem) (by k_mem) (by k_mem)
  · 
    rename_i zs4_1 zs4_2 zs4_3 zs4_4 zs4_5 zs4_6 zs4_7 zs4_8 zs4_9 zs4_10 zs4_11 zs4_12 zs4_13 zs4_14 zs4_15 zs4_16 zs4_17 zs4_18 zs4_19 zs4_20 zs4_21 zs4_22 zs4_23 zs4_24 zs4_25 zs4_26 zs4_27 zs4_28 zs4_29 zs4_30 zs4_31 zs4_32 zs4_33 zs4_34 zs4_35 zs4_36 zs4_37 zs4_38 zs4_39 zs4_40 zs4_41 zs4_42 zs4_43 zs4_44 zs4_45 zs4_46 zs4_47 zs4_48 zs4_49 zs4_50 zs4_51 zs4_52 zs4_53 zs4_54 zs4_55 zs4_56
    (try clear zs4_51); (try clear zs4_50); (try clear zs4_46); (try clear zs4_43); (try clear zs4_40); (try clear zs4_36); (try clear zs4_34); (try clear zs4_33); (try clear zs4_32); (try clear zs4_1); (try clear z0_91); (try clear z0_71); (try clear z0_70); (try clear z0_63); (try clear z0_54); (try clear z0_46); (try clear z0_32); (try clear z0_15); (try clear z0_12); (try clear z0_8); (try clear z0_1)
    (repeat (with_reducible rename (_ ∨ _) => hz9; clear hz9)); (repeat (with_reducible rename (@Ne _ _ _) => hz9; clear hz9))
    rename Fr _ _ _ _ => lF
    rename News _ _ _ _ => lN
    rename (¬ (Int.fmod _ 4 < 3)) => hk3
    have hlw := lowOf_3 hk3
    rw [hlw] at hcl
    refine' mk_call20 (hlk := ?lk) (hdef := ?df) ?aB ?aX ?aT ?al ?ai ?an ?aF (news8 ?aN ?m3 ?m4 ?m1 ?m2 ?m5 ?m6 ?m9 ?m7) ?hord ?hc1 ?hc3 ?hoc ?hcv ?C1 ?C2 ?hrb ?hrl ?hr0 ?hr1 ?hs0 ?hs1 ?hlow ?ret
    case lk => k_is
    case df => exact rfl
    case aF => exact lF
    case aN => exact lN
    case aB => assumption
    case aX => assumption
    case aT => assumption
    case m3 => k_mem
    case m4 => k_mem
    case m1 => k_mem
    case m2 => k_mem
    case m5 => k_mem
    case m6 => k_mem
    case m9 => k_mem
    case m7 => k_mem
    case hord => first | exact hox hO | exact hoy hO
    case hc1 => assumption
    case hc3 => exact hcl
    case al => assumption
    case ai => assumption
    case an => assumption
    case hoc => assumption
    case hcv => assumption
    case C1 => assumption
    case C2 => assumption
    case hrb => kba_ints2
    case hrl => (simp only [List.length_map, List.length_take, List.length_drop]; exact len7)
    case hr0 => exact Int.fmod_nonneg_of_pos _ (by omega)
    case hr1 => exact Int.fmod_lt_of_pos _ (by omega)
    case hlow => exact rfl
    case hs0 => exact Int.fmod_nonneg_of_pos _ (by omega)
    case hs1 => exact Int.fmod_lt_of_pos _ (by omega)
    case ret =>
      intro told td cl cvs cs ck h5 tk5 a1 a2 F5 N5 hI5 hc5 ho5 fr5 keep5
      have e5a := fresh8 (a := 318) lN (by k_mem) fr5 (ny8 hO hO.1)
      have e5b := fresh8 (a := 313) lN (by k_mem) fr5 (ny8 hO hO.2.1)
      have e5c := fresh8 (a := 615) lN (by k_mem) fr5 (ny8 hO hO.2.2.1)
      have N6 := (newsC (N5 _ (.head _)) (newsC (N5 _ (.tail _ (.head _))) (newsC (N5 _ (.tail _ (.tail _ (.head _)))) (newsC (N5 _ (.tail _ (.tail _ (.tail _ (.head _))))) (newsC (N5 _ (.tail _ (.tail _ (.tail _ (.tail _ (.head _)))))) (newsC (N5 _ (.tail _ (.tail _ (.tail _ (.tail _ (.tail _ (.head _))))))) (newsC (N5 _ (.tail _ (.tail _ (.tail _ (.tail _ (.tail _ (.tail _ (.head _)))))))) (newsC (keep8 (a := 318) lN (by k_mem) keep5 (ny8 hO hO.1)) (newsC (keep8 (a := 313) lN (by k_mem) keep5 (ny8 hO hO.2.1)) (newsC (keep8 (a := 615) lN (by k_mem) keep5 (ny8 hO hO.2.2.1)) (newsC (keep8 (a := L + 1 + 1) lN (by k_mem) keep5 (nyL8 hO)) newsNil)))))))))))
      clear lF lN N5 keep5 fr5
      dsimp only at F5 N6 ⊢
      (try clear tk)
      repeat' ((fail_if_success (with_reducible show wpAny _ _ (call (Value.ref 592) _) _ _ _)); (first | (k_unfold; (try dsimp only)) | (k_end; wrow_close) | walk1 | (dsimp only; walk1) | (leave1; walk_say "STEP leave1"; try dsimp only) | fail "no step"))
      rename (KBw.bInts (_ ++ _) = _) => hsd
      rw [seed_name (name_in (Int.fmod_nonneg_of_pos _ (by omega)) (Int.fmod_lt_of_pos _ (by omega)) (Int.fmod_nonneg_of_pos _ (by omega)) (Int.fmod_lt_of_pos _ (by omega))).1 (name_in (Int.fmod_nonneg_of_pos _ (by omega)) (Int.fmod_lt_of_pos _ (by omega)) (Int.fmod_nonneg_of_pos _ (by omega)) (Int.fmod_lt_of_pos _ (by omega))).2] at hsd
      repeat' ((fail_if_success (with_reducible show wpAny _ _ (eval (PySem.Expr.ListComp _ _ _ _) _) _ _ _)); (first | (k_unfold; (try dsimp only)) | (k_end; wrow_close) | walk1 | (dsimp only; walk1) | (leave1; walk_say "STEP leave1"; try dsimp only) | fail "no step"))
      k_dflt (refine LCg.ListComp_U (F₀ := by k_asm) (by with_unfolding_all rfl) (by decide) (by rfl) (by decide) (by rfl) ?_)
      repeat' ((fail_if_success (with_reducible show LCg.CompSrc _ _ _ _ _ _ _ _ _ _ _ _ _ _)); (first | (k_unfold; (try dsimp only)) | (k_end; wrow_close) | walk1 | (dsimp only; walk1) | (leave1; walk_say "STEP leave1"; try dsimp only) | fail "no step"))
      rename IntsAre _ _ => hI9
      rename (_ = dgs _ _ _) => hr9
      have hl9 : List.length _ = 256 := (IntsAre.length hI9).trans (by rw [hr9, dgs_len])
      have he9 := hc5.trans (congrArg (List.map (fun d : Int => 524288 - d)) hr9.symm)
      refine LCg.CompSrc.ledger (by rfl) (by k_asm) (by k_asm) (by k_mem) (by rw [List.size_toArray, hl9, PySem.sizeLine_eq]; decide) ?_
      intro g9
      refine ci_list (fun c => 524288 - c) hI9 ?turn ?fin
      case turn =>
        intro k t I oI C oC D m₂ ys h tk E' hC hx F' N' off' ne'
        have offK := off'
        (try dsimp only at N')
        repeat' ((fail_if_success (with_reducible show LCg.CompEnd _ _ _ _ _ _ _ _ _ _ _ _ _ _)); (first | (k_unfold; (try dsimp only)) | (k_end; wrow_close) | walk1 | (dsimp only; walk1) | (leave1; walk_say "STEP leave1"; try dsimp only) | fail "no step"))
        all_goals
          (show LCg.CompEnd _ _ _ _ _ _ _ _ _ _ _ _ _ _
           refine LCg.CompEnd.intro (by k_asm) (by k_asm) _ ?sub offK ?hS ⟨rfl, _, rfl⟩
           case hS => exact .inr ⟨_, by k_mem, rfl, _, rfl⟩
           case sub => (intro p9 hp9; simp only [List.mem_cons, List.not_mem_nil, or_false] at hp9; repeat (rcases hp9 with rfl | hp9; · k_mem)))
      case fin =>
        intro ys hI8
        (try dsimp only at hI8)
        rw [← he9] at hI8
        try k_fold
        repeat' ((fail_if_success (with_reducible show wpAny _ _ (call (Value.ref 496) _) _ _ _)); (first | (k_unfold; (try dsimp only)) | (k_end; wrow_close) | walk1 | (dsimp only; walk1) | (leave1; walk_say "STEP leave1"; try dsimp only) | fail "no step"))
        rename Fr _ _ _ _ => kF
        rename News _ _ _ _ => kN
        refine' bpz_call20 ?aB ?aX ?aT ?ask kF (news5' kN ?m1 ?m2 ?m3 ?m4 ?m5) ?hord hI5 hc5 strT_all (strT_len2 (by decide)) ?ret
        case aB => assumption
        case aX => assumption
        case aT => assumption
        case ask => exact rfl
        case m1 => k_mem
        case m2 => k_mem
        case m3 => k_mem
        case m4 => k_mem
        case m5 => k_mem
        case hord => exact hoz hO ho5
        case ret =>
          intro b9 t9 h9 tk9 F9 keep9 hb9
          have N9 := (newsC (keep5 (a := 318) kN (by k_mem) keep9 (n5z hO ho5 e5a hO.1)) (newsC (keep5 (a := 313) kN (by k_mem) keep9 (n5z hO ho5 e5b hO.2.1)) (newsC (keep5 (a := 615) kN (by k_mem) keep9 (n5z hO ho5 e5c hO.2.2.1)) newsNil)))
          clear kF kN keep9
          k_steps
          rename Fr _ _ _ _ => lF'
          rename News _ _ _ _ => lN'
          exact EndTrue3.mk' (bI_eq hb9 (by assumption)) lF' lN' (by k_mem) (by k_mem) (by k_mem)
end
end
end
end Mine
set_option maxHeartbeats 4000000 in
theorem PySem.Challenge.cw_ji0010_03_holds : PySem.Challenge.rw_ji0010_03.Holds := by
  refine Mine3.hd ?_
  k_go0
  rename CellsAre _ _ _ => hC
  clear hC
  rename Fr _ _ _ _ => F'
  rename News _ _ _ _ => N'
  dsimp only at F' N' ⊢
  refine Mine.endTrue3_of F' ?goal ?fin
  case fin =>
    clear F' N'
    rintro f s' ⟨h', tk, m', news', ps1, ps2, ps3, rfl, rfl, F', N', m1, m2, m3⟩
    dsimp only
    refine ⟨?_, ?_⟩
    · wrow_close
    · exact ⟨GrownAt.of N' m1, GrownAt.of N' m2, GrownAt.of N' m3, True.intro⟩
  case goal =>
    rename Below _ _ _ _ => K'
    rename Frag.In _ _ => X'
    rename Heap.IsList _ _ _ => hl'
    rename IntsAre _ _ => hi'
    exact Mine.law_body03 (by k_is) K' X' (by assumption) F' N' (by assumption) (by assumption) (by assumption) (by first | assumption | omega) (by assumption) (by assumption) (by assumption) (by assumption) hi' (by omega)
