import PyProof.Rows.All
import Wide.All
import OpenK.AllK
import Wide.FinOn
import OpenK.XRun
import OpenK.XGo
import Lean
import PySem.Challenge.RW_br0007_01
set_option Elab.async false
section
open PySem PySem.W PyProof.Rows
namespace Mine
section
local macro_rules | `(tactic| k_head) => `(tactic| x_head)
set_option maxRecDepth 100000 in
set_option maxHeartbeats 8000000 in
open_top hd for PySem.Challenge.rw_br0007_01
end
section
local macro_rules | `(tactic| o_head $_) => `(tactic| assumption)
theorem kd (h : PySem.Challenge.rw_br0007_01.row.Holds) : PySem.Challenge.rw_br0007_01.row.Holds := by k_head
end
end Mine
end
section
open PySem PySem.W PyProof.Rows PySem.Calls
namespace Mine
theorem fillit : (∀ (w : World) (s : Shared), (Mine.kd.heap_1 w.params).In s.heap → PySem.Challenge.rw_br0007_01.prog = PySem.Challenge.rw_br0007_01.prog) := by
  k_fill
  intros; rfl
abbrev prog0 : Program := PySem.Challenge.rw_br0007_01.row.prog

/-- the top's objects but one: the table of the codes of vOrg.__init__, which grows -/
noncomputable def hq (p : Params) : Frag := (Mine.hd.heap_39 p).filter fun x => !(x.1 == 402)
/-- what every state of the run knows: the top's objects and names -/
structure Env0 (w : World) (p : Program) (loose : List Str) (mg mb : Str → Option Value) (h : Heap) : Prop where
  K : (Mine.kd.heap_1 w.params).In h
  T : TopRead p loose mg mb h
  X : (Mine.hq w.params).In h
  md : ∃ o, h.get? sysModules = some o
theorem Env0.keeps {w : World} {p : Program} {loose : List Str} {mg mb : Str → Option Value} {h h' : Heap} (x : Env0 w p loose mg mb h) (k : ∀ b o, h.get? b = some o → h'.get? b = some o) : Env0 w p loose mg mb h' :=
  ⟨x.K.keeps k, x.T.keeps k, x.X.keeps k, let ⟨o, e⟩ := x.md; ⟨o, k _ _ e⟩⟩

section
variable {prog : Program} {w : World} {A : Around} {s : Shared} {K : Frag} {R : Result → Shared → Prop} {name qual : Str} {params : Arguments} {body : List Stmt} {scope : Scope} {cl : List (Str × Addr)} {dV kV doc pm cdv ct oc : Value} {an od : Option Addr} {osl : Array (Option Value)} {f : Addr} {args : Args} {binds : List (Str × Value)}
/-- into a def, over a ground that hides some objects -/
theorem enterX (hide : List Addr) (X : K.In s.heap) (hlim : s.heap.NoLimit)
    (ho : K.lookup f = some ⟨oc, od, .func (fnX name qual params body scope cl dV kV doc pm an cdv ct), osl⟩) (hcd : codeIn K cdv qual = true) (hroom : A.depth < recursionLimit)
    (hbind : BindsTo s (fnX name qual params body scope cl dV kV doc pm an cdv ct) args binds) (hloc : ∀ y ∈ binds, scope.names.lookup y.1 = some .local)
    (h : ∀ L h₁, Fr (hideAll s.heap hide) L h₁ (fun y => binds.reverse.lookup y) → (∀ b o, s.heap.get? b = some o → h₁.get? b = some o ∧ b ≠ L) →
      wpAny (model prog w) (A.deeper (envX qual scope L f cdv cl)) (execs body (envX qual scope L f cdv cl))
        (fun fl s' => R (.ok (.ret (match fl with | .ret v => v | _ => .none))) s')
        (fun _ _ => False)
        { s with heap := h₁, toks := s.toks + binds.length })
    (hcell : ∀ x ∈ scope.names, x.2 ≠ .cell) (hco : scope.isCoroutine = false) (hgen : scope.isGenerator = false) (hk : scope.kind = .function) : codeAny (model prog w) A (.call (.ref f) args) R s := by
  refine codeAny_call_def (fd := fnX name qual params body scope cl dV kV doc pm an cdv ct) (body := body) (binds := binds) hroom (X _ _ ho) rfl hlim (codeRec_of X hcd) rfl hbind hcell hloc (fun h₁ hns hk₁ => ?_) hco hgen hk
  exact wpAny_mono (h s.heap.objs.size h₁ ⟨hns, fun b o e => hk₁ b o (of_hideAll _ e), Nat.le_of_eq (hideAll_size _ _)⟩ (fun b o e => ⟨hk₁ b o e, Nat.ne_of_lt (Heap.lt_size e)⟩)) (fun fl s' x => x) fun _ _ x => x.elim
/-- into a def, over the ground as it stands -/
theorem enter0 (X : K.In s.heap) (hlim : s.heap.NoLimit)
    (ho : K.lookup f = some ⟨oc, od, .func (fnX name qual params body scope cl dV kV doc pm an cdv ct), osl⟩) (hcd : codeIn K cdv qual = true) (hroom : A.depth < recursionLimit)
    (hbind : BindsTo s (fnX name qual params body scope cl dV kV doc pm an cdv ct) args binds) (hloc : ∀ y ∈ binds, scope.names.lookup y.1 = some .local)
    (h : ∀ L h₁, Fr (s.heap) L h₁ (fun y => binds.reverse.lookup y) → (∀ b o, s.heap.get? b = some o → h₁.get? b = some o ∧ b ≠ L) →
      wpAny (model prog w) (A.deeper (envX qual scope L f cdv cl)) (execs body (envX qual scope L f cdv cl))
        (fun fl s' => R (.ok (.ret (match fl with | .ret v => v | _ => .none))) s')
        (fun _ _ => False)
        { s with heap := h₁, toks := s.toks + binds.length })
    (hcell : ∀ x ∈ scope.names, x.2 ≠ .cell) (hco : scope.isCoroutine = false) (hgen : scope.isGenerator = false) (hk : scope.kind = .function) : codeAny (model prog w) A (.call (.ref f) args) R s := by
  refine codeAny_call_def (fd := fnX name qual params body scope cl dV kV doc pm an cdv ct) (body := body) (binds := binds) hroom (X _ _ ho) rfl hlim (codeRec_of X hcd) rfl hbind hcell hloc (fun h₁ hns hk₁ => ?_) hco hgen hk
  exact wpAny_mono (h s.heap.objs.size h₁ ⟨hns, fun b o e => hk₁ b o e, Nat.le_refl _⟩ (fun b o e => ⟨hk₁ b o e, Nat.ne_of_lt (Heap.lt_size e)⟩)) (fun fl s' x => x) fun _ _ x => x.elim
end

/-- what a call leaves: every object of before stands (but those that P names), no generator half way -/
structure Ext (P : Addr → Prop) (s s' : Shared) : Prop where
  keep : ∀ b o, ¬ P b → s.heap.get? b = some o → s'.heap.get? b = some o
  bare : AllBare s.gens → AllBare s'.gens
  os : s'.os = s.os
abbrev Non : Addr → Prop := fun _ => False
theorem Ext.refl {P : Addr → Prop} {s : Shared} : Ext P s s := ⟨fun _ _ _ e => e, id, rfl⟩
theorem Ext.trans {P : Addr → Prop} {s s' s'' : Shared} (x : Ext P s s') (y : Ext P s' s'') : Ext P s s'' :=
  ⟨fun b o n e => y.keep b o n (x.keep b o n e), fun g => y.bare (x.bare g), y.os.trans x.os⟩
theorem Ext.all {s s' : Shared} (x : Ext Non s s') : ∀ b o, s.heap.get? b = some o → s'.heap.get? b = some o := fun b o e => x.keep b o id e
theorem Ext.wide {P : Addr → Prop} {s s' : Shared} (x : Ext Non s s') : Ext P s s' := ⟨fun b o _ e => x.all b o e, x.bare, x.os⟩
theorem Ext.of {s : Shared} {h' : Heap} {tk : Nat} {d : Drawn} (k : ∀ b o, s.heap.get? b = some o → h'.get? b = some o) : Ext Non s ⟨h', s.gens, d, tk, s.os⟩ := ⟨fun b o _ e => k b o e, id, rfl⟩
theorem frExt {h₀ h h' : Heap} {L : Addr} {m : Str → Option Value} (F : Fr h₀ L h m) (k : ∀ b o, h.get? b = some o → h'.get? b = some o) : Fr h₀ L h' m := ⟨F.ns.keeps k, fun b o e => k _ _ (F.keep b o e), F.above⟩
theorem newsExt {h₀ h h' : Heap} {L : Addr} {news : List (Addr × Obj)} (N : News h₀ L h news) (k : ∀ b o, h.get? b = some o → h'.get? b = some o) : News h₀ L h' news := fun p hp => ⟨k _ _ (N p hp).1, (N p hp).2⟩
structure Stop (P : Prop) : Prop where
  h : P
theorem stop {P : Prop} (h : Stop P) : P := h.h
end Mine
end
section
open PySem PySem.W PyProof.Rows PySem.Calls
namespace Mine
theorem fillit2 : (∀ (w : World) (s : Shared), (Mine.kd.heap_1 w.params).In s.heap → PySem.Challenge.rw_br0007_01.prog = PySem.Challenge.rw_br0007_01.prog) := by
  k_fill
  intros; rfl
/-- the reader's unhiding, on signs -/
def unescL : List Nat → List Nat
  | [] => []
  | [c] => [c]
  | c :: d :: r => if c = 92 ∧ (d = 92 ∨ d = 44 ∨ d = 59 ∨ d = 58 ∨ d = 110 ∨ d = 78) then (if d = 110 ∨ d = 78 then 10 else d) :: unescL r else c :: unescL (d :: r)
theorem unescL_len : ∀ l : List Nat, (unescL l).length ≤ l.length
  | [] => Nat.le_refl _
  | [_] => Nat.le_refl _
  | c :: d :: r => by
    have h1 := unescL_len r
    have h2 := unescL_len (d :: r)
    unfold unescL
    split <;> simp only [List.length_cons] at * <;> omega
theorem drop_at {x : Str} {i : Nat} (h : i < x.length) : x.cps.toList.drop i = x.cps.getD i 0 :: x.cps.toList.drop (i + 1) := by
  have h' : i < x.cps.toList.length := by simpa [Str.length] using h
  rw [List.drop_eq_getElem_cons h']
  congr 1
  have h2 : i < x.cps.size := h
  simp [Array.getD, h2]
theorem item_is {x : Str} {i : Nat} {k : Int} (hk : k = (i : Int)) (h : i < x.length) : Txt.item x k = ⟨#[x.cps.getD i 0]⟩ := item_at (by omega) (by omega) (by omega)
theorem bs_str : Str.ofString "\\" = ⟨#[92]⟩ := by decide +kernel
theorem nl_str : Str.ofString "\n" = ⟨#[10]⟩ := by decide +kernel
theorem one_eq {c d : Nat} : ((⟨#[c]⟩ : Str) == ⟨#[d]⟩) = decide (c = d) := by
  by_cases h : c = d
  · subst h; simp
  · simp [h]
theorem in_set (c : Nat) : (Builtin.Str.occurrences (Str.ofString "\\,;:nN") ⟨#[c]⟩ 0 (Str.ofString "\\,;:nN").length 1).isEmpty = decide (¬ (c = 92 ∨ c = 44 ∨ c = 59 ∨ c = 58 ∨ c = 110 ∨ c = 78)) := by
  have h := StrLaws.found_one (Str.ofString "\\,;:nN") c
  rw [show (Str.ofString "\\,;:nN").cps.toList = [92, 44, 59, 58, 110, 78] from by decide +kernel] at h
  simp only [List.mem_cons, List.not_mem_nil, or_false] at h
  rw [← Bool.not_not (Builtin.Str.occurrences _ _ _ _ _).isEmpty, h]
  simp
theorem in_nN (c : Nat) : (Builtin.Str.occurrences (Str.ofString "nN") ⟨#[c]⟩ 0 (Str.ofString "nN").length 1).isEmpty = decide (¬ (c = 110 ∨ c = 78)) := by
  have h := StrLaws.found_one (Str.ofString "nN") c
  rw [show (Str.ofString "nN").cps.toList = [110, 78] from by decide +kernel] at h
  simp only [List.mem_cons, List.not_mem_nil, or_false] at h
  rw [← Bool.not_not (Builtin.Str.occurrences _ _ _ _ _).isEmpty, h]
  simp
structure US where
  i : Nat
  ti : Tok
  items : List Value
  n : Nat
def US.Ok (x : Str) (c : US) : Prop := c.i ≤ x.length ∧ c.items.length ≤ c.i ∧ ∃ ss : List Str, StrsAre c.items ss ∧ (ss.flatMap fun y => y.cps.toList) ++ unescL (x.cps.toList.drop c.i) = unescL x.cps.toList
def US.ps (l : Addr) (x : Str) (t : Tok) (c : US) : List (Str × Value) := [(Str.ofString "i", .int c.i c.ti), (Str.ofString "result", .ref l), (Str.ofString "val", .str x t)]
abbrev usPost (h₀ : Heap) (L : Addr) (s : Shared) (l : Addr) (x : Str) (t : Tok) (m₀ : Str → Option Value) (Q : Flow → Shared → Prop) (c : US) : Flow → Shared → Prop :=
  KswPost (σ := US) h₀ L s (fun c => [(l, listOf c.items.toArray c.n)]) (US.ps l x t) (US.Ok x) [Str.ofString "i"] m₀ (fun _ => True) (fun c => x.length - c.i) Q c
theorem un_loop {prog : Program} {w : World} {A : Around} {E : Value → Shared → Prop} {Q : Flow → Shared → Prop} {s : Shared} {env : Env} {h₀ : Heap} {L : Addr} {test : PySem.Expr} {body : List Stmt} {pos : Pos} {m₀ : Str → Option Value} {l : Addr} {x : Str} {t ti : Tok}
   (F : Fr h₀ L s.heap m₀) (N : News h₀ L s.heap [(l, listOf #[] 0)]) (hi : m₀ (Str.ofString "i") = some (.int 0 ti)) (hr : m₀ (Str.ofString "result") = some (.ref l)) (hv : m₀ (Str.ofString "val") = some (.str x t))
   (turn : ∀ (c : US) (u : Str → Option Value) h tk, c.Ok x → Fr h₀ L h (kstB (fun z => if [Str.ofString "i"].contains z then u z else m₀ z) (US.ps l x t c)) → News h₀ L h [(l, listOf c.items.toArray c.n)] →
      wpAny (model prog w) A (isTrue test env (eval test env)) (fun b s₂ => if b = true then wpAny (model prog w) A (execs body env) (usPost h₀ L s l x t m₀ Q c) E s₂ else Q .next s₂) E { s with heap := h, toks := tk })
   (hE : PassesOwn (model prog w) A env E) : wpAny (model prog w) A (exec (.While test body [] pos) env) Q E s := by
  refine ksw_while (σ := US) (fun c => [(l, listOf c.items.toArray c.n)]) (US.ps l x t) (US.Ok x) [Str.ofString "i"] (fun _ => True) (fun c => x.length - c.i) ⟨0, ti, [], 0⟩ F N ?_ ?_ trivial (fun c u h tk hf _ F N => turn c u h tk hf F N) hE
  · exact ⟨Nat.zero_le _, Nat.le_refl _, [], .nil, rfl⟩
  · intro p hp
    simp only [US.ps, List.mem_cons, List.not_mem_nil, or_false] at hp
    rcases hp with rfl | rfl | rfl <;> assumption
theorem us_next {Q : Flow → Shared → Prop} {s : Shared} {h₀ h' : Heap} {L l : Addr} {m₀ u : Str → Option Value} {x y : Str} {t ty ti2 : Tok} {tk : Nat} {c : US} {j : Int} (k : Nat) (hok : c.Ok x)
   (F : Fr h₀ L h' (fun z => if z = Str.ofString "i" then some (.int j ti2) else kstB (fun z => if [Str.ofString "i"].contains z = true then u z else m₀ z) [(Str.ofString "i", .int c.i c.ti), (Str.ofString "result", .ref l), (Str.ofString "val", .str x t)] z))
   (N : News h₀ L h' [(l, listOf (c.items.toArray.push (.str y ty)) (c.n + 1))]) (hj : j = ((c.i + k : Nat) : Int)) (h1 : 1 ≤ k) (hk : c.i + k ≤ x.length)
   (hu : y.cps.toList ++ unescL (x.cps.toList.drop (c.i + k)) = unescL (x.cps.toList.drop c.i)) :
   usPost h₀ L s l x t m₀ Q c .next { s with heap := h', toks := tk } := by
  obtain ⟨ha, hb, ss, hs, he⟩ := hok
  rw [List.push_toArray] at N
  refine ksw_end ⟨c.i + k, ti2, c.items ++ [.str y ty], c.n + 1⟩ F N (fun p hp => hp) ⟨hk, by simp only [List.length_append, List.length_cons, List.length_nil]; omega, ss ++ [y], hs.append' (.cons y ty .nil), ?_⟩ ?_ ?_ trivial (by dsimp only; omega)
  · rw [List.flatMap_append, List.flatMap_cons, List.flatMap_nil, List.append_nil, List.append_assoc, hu, he]
  · intro p hp
    simp only [US.ps, List.mem_cons, List.not_mem_nil, or_false] at hp
    rcases hp with rfl | rfl | rfl
    · rw [if_pos rfl, hj]
    · rfl
    · rfl
  · intro z h2 h3
    have e1 : z ≠ Str.ofString "i" := h2 (Str.ofString "i", _) (.head _)
    have e2 : z ≠ Str.ofString "result" := h2 (Str.ofString "result", _) (.tail _ (.head _))
    have e3 : z ≠ Str.ofString "val" := h2 (Str.ofString "val", _) (.tail _ (.tail _ (.head _)))
    simp only [kstB, if_neg e1, if_neg e2, if_neg e3, h3]
    rfl
theorem us_w1 {x : Str} {i : Nat} {k : Int} (_hi : k < (x.length : Int)) (hk : k = (i : Int)) (_hb : (Txt.item x k == Str.ofString "\\") = true) (h2 : k + 1 < (x.length : Int))
   (hn : (Builtin.Str.occurrences (Str.ofString "\\,;:nN") (Txt.item x (k + 1)) 0 (Str.ofString "\\,;:nN").length 1).isEmpty = true) : (Txt.item x k).cps.toList ++ unescL (x.cps.toList.drop (i + 1)) = unescL (x.cps.toList.drop i) := by
  rw [item_is (i := i + 1) (by omega) (by omega), in_set, decide_eq_true_eq] at hn
  rw [item_is hk (by omega), drop_at (i := i) (by omega), drop_at (i := i + 1) (by omega)]
  conv => rhs; unfold unescL
  rw [if_neg (fun q => hn q.2)]
  rfl
theorem us_w2 {x : Str} {i : Nat} {k : Int} (_hi : k < (x.length : Int)) (hk : k = (i : Int)) (hb : (Txt.item x k == Str.ofString "\\") = true) (h2 : k + 1 < (x.length : Int))
   (hn : (Builtin.Str.occurrences (Str.ofString "\\,;:nN") (Txt.item x (k + 1)) 0 (Str.ofString "\\,;:nN").length 1).isEmpty = false) (hn2 : (Builtin.Str.occurrences (Str.ofString "nN") (Txt.item x (k + 1)) 0 (Str.ofString "nN").length 1).isEmpty = true) :
   (Txt.item x (k + 1)).cps.toList ++ unescL (x.cps.toList.drop (i + 2)) = unescL (x.cps.toList.drop i) := by
  rw [item_is (i := i + 1) (by omega) (by omega), in_set, decide_eq_false_iff_not, Decidable.not_not] at hn
  rw [item_is (i := i + 1) (by omega) (by omega), in_nN, decide_eq_true_eq] at hn2
  rw [item_is hk (by omega), bs_str, one_eq, decide_eq_true_eq] at hb
  rw [item_is (i := i + 1) (by omega) (by omega), drop_at (i := i) (by omega), drop_at (i := i + 1) (by omega)]
  conv => rhs; unfold unescL
  rw [if_pos ⟨hb, hn⟩, if_neg hn2]
  rfl
theorem us_w3 {x : Str} {i : Nat} {k : Int} (_hi : k < (x.length : Int)) (hk : k = (i : Int)) (hb : (Txt.item x k == Str.ofString "\\") = true) (h2 : k + 1 < (x.length : Int))
   (hn : (Builtin.Str.occurrences (Str.ofString "\\,;:nN") (Txt.item x (k + 1)) 0 (Str.ofString "\\,;:nN").length 1).isEmpty = false) (hn2 : (Builtin.Str.occurrences (Str.ofString "nN") (Txt.item x (k + 1)) 0 (Str.ofString "nN").length 1).isEmpty = false) :
   (Str.ofString "\n").cps.toList ++ unescL (x.cps.toList.drop (i + 2)) = unescL (x.cps.toList.drop i) := by
  rw [item_is (i := i + 1) (by omega) (by omega), in_set, decide_eq_false_iff_not, Decidable.not_not] at hn
  rw [item_is (i := i + 1) (by omega) (by omega), in_nN, decide_eq_false_iff_not, Decidable.not_not] at hn2
  rw [item_is hk (by omega), bs_str, one_eq, decide_eq_true_eq] at hb
  rw [nl_str, drop_at (i := i) (by omega), drop_at (i := i + 1) (by omega)]
  conv => rhs; unfold unescL
  rw [if_pos ⟨hb, hn⟩, if_pos hn2]
  rfl
theorem us_w4 {x : Str} {i : Nat} {k : Int} (hi : k < (x.length : Int)) (hk : k = (i : Int)) (h2 : ¬ (k + 1 < (x.length : Int))) : (Txt.item x k).cps.toList ++ unescL (x.cps.toList.drop (i + 1)) = unescL (x.cps.toList.drop i) := by
  rw [item_is hk (by omega), drop_at (i := i) (by omega), List.drop_of_length_le (i := i + 1) (by show x.cps.size ≤ _; have : x.length = x.cps.size := rfl; omega)]
  rfl
theorem us_w5 {x : Str} {i : Nat} {k : Int} (hi : k < (x.length : Int)) (hk : k = (i : Int)) (hb : (Txt.item x k == Str.ofString "\\") = false) : (Txt.item x k).cps.toList ++ unescL (x.cps.toList.drop (i + 1)) = unescL (x.cps.toList.drop i) := by
  rw [item_is hk (by omega), bs_str, one_eq, decide_eq_false_iff_not] at hb
  rw [item_is hk (by omega), drop_at (i := i) (by omega)]
  cases x.cps.toList.drop (i + 1) with
  | nil => rfl
  | cons d r =>
    conv => rhs; unfold unescL
    rw [if_neg (fun q => hb q.1)]
    rfl
theorem join_flat : ∀ ss : List Str, (Str.join (Str.ofString "") ss).cps.toList = ss.flatMap fun y => y.cps.toList
  | [] => rfl
  | [x] => by simp [Str.join]
  | x :: y :: r => by
    have ih := join_flat (y :: r)
    rw [List.flatMap_cons, ← ih]
    show ((x.cps ++ (Str.ofString "").cps) ++ (Str.join (Str.ofString "") (y :: r)).cps).toList = _
    rw [show (Str.ofString "").cps = #[] from by decide +kernel]
    simp
theorem sum_flat : ∀ ss : List Str, (ss.map (·.length)).sum = (ss.flatMap fun y => y.cps.toList).length
  | [] => rfl
  | x :: r => by
    rw [List.map_cons, List.sum_cons, List.flatMap_cons, List.length_append, sum_flat r]
    rfl
local macro_rules | `(tactic| size_fits) => `(tactic| (simp only [List.size_toArray, PySem.sizeLine_eq]; omega))
set_option maxRecDepth 100000 in
set_option maxHeartbeats 8000000 in
theorem unesc {w : World} {p : Program} {loose : List Str} {mg mb : Str → Option Value} {A : Around} {s : Shared} {x : Str} {t : Tok} {Q E : Value → Shared → Prop}
   (h0 : Env0 w p loose mg mb s.heap) (hd : A.depth < 900) (hx : x.length ≤ 100000) (hQ : ∀ h' tk tk', (∀ b o, s.heap.get? b = some o → h'.get? b = some o) → Q (.str ⟨(unescL x.cps.toList).toArray⟩ tk) { s with heap := h', toks := tk' }) :
   wpAny (model prog0 w) A (call (.ref 326) [.str x t]) Q E s := by
  refine wpAny_call ?_
  have KX := h0.K
  have T := h0.T
  refine' enter0 (binds := [(Str.ofString "val", .str x t)]) KX T.nolimit ?ho ?hcd ?hroom ?hbind ?hloc ?_ ?c1 ?c2 ?c3 ?c4
  case ho => k_is
  case hcd => k_is
  case hroom => unfold recursionLimit; omega
  case hbind => exact BindsTo.of_eq rfl
  case hloc => exact locs rfl
  case c1 => decide
  case c2 => rfl
  case c3 => rfl
  case c4 => rfl
  intro L h₁ F hk
  have N : News s.heap L h₁ [] := News.nil
  try dsimp only
  try k_fold
  k_with "exec While Compare cons nil" => refine stop ?_
  k_steps
  k_with_none
  refine ⟨?_⟩
  (rename News _ _ _ [(_, _)] => N1); (rename Fr _ _ _ _ => F1)
  refine' un_loop (x := x) (t := t) F1 N1 ?wi ?wr ?wv ?wt ?wE
  case wi => rfl
  case wr => rfl
  case wv => rfl
  case wE => exact PassesOwn.never
  intro c u hh tk hok F2 N2
  unfold US.ps at F2
  have hlen : c.items.length ≤ 100000 := Nat.le_trans hok.2.1 (Nat.le_trans hok.1 hx)
  k_with "call builtin:str.join" => refine stop ?_
  k_steps
  k_with_none
  all_goals (first
    | exact us_next 1 hok (by assumption) (by assumption) (by omega) (by omega) (by omega) (us_w1 (by assumption) rfl (by assumption) (by assumption) (by assumption))
    | exact us_next 2 hok (by assumption) (by assumption) (by omega) (by omega) (by omega) (us_w2 (by assumption) rfl (by assumption) (by assumption) (by assumption) (by assumption))
    | exact us_next 2 hok (by assumption) (by assumption) (by omega) (by omega) (by omega) (us_w3 (by assumption) rfl (by assumption) (by assumption) (by assumption) (by assumption))
    | exact us_next 1 hok (by assumption) (by assumption) (by omega) (by omega) (by omega) (us_w4 (by assumption) rfl (by assumption))
    | exact us_next 1 hok (by assumption) (by assumption) (by omega) (by omega) (by omega) (us_w5 (by assumption) rfl (by assumption))
    | skip)
  refine ⟨?_⟩
  obtain ⟨ha, hb, ss, hs, he⟩ := hok
  have hci : c.i = x.length := by omega
  rw [List.drop_of_length_le (i := c.i) (by show x.cps.size ≤ _; have : x.length = x.cps.size := rfl; omega)] at he
  have he' : (ss.flatMap fun y => y.cps.toList) = unescL x.cps.toList := by rw [← he]; simp [unescL]
  have hl : (unescL x.cps.toList).length ≤ 100000 := Nat.le_trans (unescL_len _) (by rw [Array.length_toList]; exact hx)
  refine PyProof.Rows.join_listW ⟨_, (N2 _ (.head _)).1, rfl, _, rfl⟩ hs (by decide +kernel) ?_ fun t' k => ?_
  · rw [sum_flat, he', ← hs.length]
    omega
  · have e : Txt.join (Str.ofString "") ss = ⟨(unescL x.cps.toList).toArray⟩ := by
      have e1 : Txt.join (Str.ofString "") ss = Str.join (Str.ofString "") ss := StrLaws.glued_eq_join _ _
      rw [e1, ← he', ← join_flat]
    rw [e]
    exact hQ _ _ _ fun b o e => F2.keep b o e
end Mine
end
section
open PySem PySem.W PyProof.Rows PySem.Calls
namespace Mine
theorem fillit3 : (∀ (w : World) (s : Shared), (Mine.kd.heap_1 w.params).In s.heap → PySem.Challenge.rw_br0007_01.prog = PySem.Challenge.rw_br0007_01.prog) := by
  k_fill
  intros; rfl
abbrev flat (ss : List Str) : List Nat := ss.flatMap fun y => y.cps.toList
abbrev strL (l : List Nat) : Str := ⟨l.toArray⟩
/-- a splitter, on signs: the part so far, the rest -/
def splitG (m : Nat) : List Nat → List Nat → List (List Nat)
  | cur, [] => [unescL cur]
  | cur, [c] => if c = m then [unescL cur, unescL []] else [unescL (cur ++ [c])]
  | cur, c :: d :: r => if c = 92 then splitG m (cur ++ [c, d]) r else if c = m then unescL cur :: splitG m [] (d :: r) else splitG m (cur ++ [c]) (d :: r)
theorem splitG_nil (m : Nat) (cur : List Nat) : splitG m cur [] = [unescL cur] := by unfold splitG; rfl
theorem splitG_esc (m c d : Nat) (cur r : List Nat) (h : c = 92) : splitG m cur (c :: d :: r) = splitG m (cur ++ [c, d]) r := by rw [splitG, if_pos h]
theorem splitG_cut (m c : Nat) (cur r : List Nat) (h : c = m) (hm : c ≠ 92) : splitG m cur (c :: r) = unescL cur :: splitG m [] r := by
  cases r with
  | nil => rw [splitG_nil]; unfold splitG; rw [if_pos h]
  | cons d r => rw [splitG, if_neg hm, if_pos h]
theorem splitG_one (m c : Nat) (cur r : List Nat) (h : c ≠ m) (hm : c ≠ 92 ∨ r = []) : splitG m cur (c :: r) = splitG m (cur ++ [c]) r := by
  cases r with
  | nil => rw [splitG_nil]; unfold splitG; rw [if_neg h]
  | cons d r => rw [splitG, if_neg (hm.resolve_right (by simp)), if_neg h]
theorem splitG_len (m : Nat) : ∀ (rest cur : List Nat), (splitG m cur rest).length ≤ rest.length + 1
  | [], cur => by rw [splitG_nil]; simp
  | [c], cur => by unfold splitG; split <;> simp
  | c :: d :: r, cur => by
    have h1 := splitG_len m r (cur ++ [c, d])
    have h2 := splitG_len m (d :: r) []
    have h3 := splitG_len m (d :: r) (cur ++ [c])
    unfold splitG
    split
    · simp only [List.length_cons] at *; omega
    · split <;> simp only [List.length_cons] at * <;> omega
theorem flat_append (a b : List Str) : flat (a ++ b) = flat a ++ flat b := by simp [flat]

section
variable {prog : Program} {w : World} {A : Around} {E : Value → Shared → Prop} {Q : Value → Shared → Prop} {s : Shared} {h₀ : Heap} {L a : Addr} {m : Str → Option Value} {news : List (Addr × Obj)}
theorem join_N {its : Array Value} {n : Nat} {t : Tok} {ss : List Str} (N : News h₀ L s.heap news) (hm : (a, listOf its n) ∈ news) (hs : StrsAre its.toList ss) (hw : (flat ss).length ≤ 100000 ∧ ss.length ≤ 100000)
    (h : ∀ t' k, Q (.str (strL (flat ss)) t') { s with toks := k }) : wpAny (model prog w) A (call (.builtin "str.join") [.str (Str.ofString "") t, .ref a]) Q E s := by
  refine PyProof.Rows.join_listW ⟨_, (N _ hm).1, rfl, _, rfl⟩ hs (by decide +kernel) (by rw [sum_flat]; show (flat ss).length + _ ≤ _; omega) fun t' k => ?_
  have e : Txt.join (Str.ofString "") ss = strL (flat ss) := by
    have e1 : Txt.join (Str.ofString "") ss = Str.join (Str.ofString "") ss := StrLaws.glued_eq_join _ _
    rw [e1]
    show _ = (⟨(ss.flatMap fun y => y.cps.toList).toArray⟩ : Str)
    rw [← join_flat]
  rw [e]
  exact h _ _
theorem unesc_N {p : Program} {loose : List Str} {mg mb : Str → Option Value} {x : Str} {t : Tok} (F : Fr h₀ L s.heap m) (N : News h₀ L s.heap news) (h0 : Env0 w p loose mg mb h₀) (hd : A.depth < 900) (hx : x.length ≤ 100000)
    (h : ∀ h' tk tk', Fr h₀ L h' m → News h₀ L h' news → Q (.str (strL (unescL x.cps.toList)) tk) { s with heap := h', toks := tk' }) : wpAny (model prog0 w) A (call (.ref 326) [.str x t]) Q E s :=
  unesc (h0.keeps F.keep) hd hx fun h' tk tk' k => h h' tk tk' (frExt F k) (newsExt N k)
end

structure SS where
  i : Nat
  ti : Tok
  lc : Addr
  cur : List Value
  nc : Nat
  res : List Value
  nr : Nat
def SS.Ok (m : Nat) (lr : Addr) (x : Str) (c : SS) : Prop := c.i ≤ x.length ∧ c.cur.length ≤ c.i ∧ c.res.length ≤ c.i ∧ @LT.lt Nat _ lr c.lc ∧
  ∃ cs rs : List Str, StrsAre c.cur cs ∧ StrsAre c.res rs ∧ (flat cs).length ≤ c.i ∧ (rs.map fun y => y.cps.toList) ++ splitG m (flat cs) (x.cps.toList.drop c.i) = splitG m [] x.cps.toList
def SS.ps (lr : Addr) (x : Str) (t : Tok) (c : SS) : List (Str × Value) := [(Str.ofString "i", .int c.i c.ti), (Str.ofString "current", .ref c.lc), (Str.ofString "result", .ref lr), (Str.ofString "text", .str x t)]
def SS.led (lr : Addr) (c : SS) : List (Addr × Obj) := [(c.lc, listOf c.cur.toArray c.nc), (lr, listOf c.res.toArray c.nr)]
abbrev ssSt : List Str := [Str.ofString "i", Str.ofString "current"]
abbrev ssPost (mk : Nat) (h₀ : Heap) (L : Addr) (s : Shared) (lr : Addr) (x : Str) (t : Tok) (m₀ : Str → Option Value) (Q : Flow → Shared → Prop) (c : SS) : Flow → Shared → Prop :=
  KswPost (σ := SS) h₀ L s (SS.led lr) (SS.ps lr x t) (SS.Ok mk lr x) ssSt m₀ (fun _ => True) (fun c => x.length - c.i) Q c
theorem ss_loop {prog : Program} {w : World} {A : Around} {E : Value → Shared → Prop} {Q : Flow → Shared → Prop} {s : Shared} {env : Env} {h₀ : Heap} {L : Addr} {test : PySem.Expr} {body : List Stmt} {pos : Pos} {m₀ : Str → Option Value} {lr lc : Addr} {x : Str} {t ti : Tok} (mk : Nat)
   (F : Fr h₀ L s.heap m₀) (N : News h₀ L s.heap [(lc, listOf #[] 0), (lr, listOf #[] 0)]) (hi : m₀ (Str.ofString "i") = some (.int 0 ti)) (hc : m₀ (Str.ofString "current") = some (.ref lc)) (hr : m₀ (Str.ofString "result") = some (.ref lr)) (hv : m₀ (Str.ofString "text") = some (.str x t)) (hl : @LT.lt Nat _ lr lc)
   (turn : ∀ (c : SS) (u : Str → Option Value) h tk, c.Ok mk lr x → Fr h₀ L h (kstB (fun z => if ssSt.contains z then u z else m₀ z) (SS.ps lr x t c)) → News h₀ L h (c.led lr) →
      wpAny (model prog w) A (isTrue test env (eval test env)) (fun b s₂ => if b = true then wpAny (model prog w) A (execs body env) (ssPost mk h₀ L s lr x t m₀ Q c) E s₂ else Q .next s₂) E { s with heap := h, toks := tk })
   (hE : PassesOwn (model prog w) A env E) : wpAny (model prog w) A (exec (.While test body [] pos) env) Q E s := by
  refine ksw_while (σ := SS) (SS.led lr) (SS.ps lr x t) (SS.Ok mk lr x) ssSt (fun _ => True) (fun c => x.length - c.i) ⟨0, ti, lc, [], 0, [], 0⟩ F N ?_ ?_ trivial (fun c u h tk hf _ F N => turn c u h tk hf F N) hE
  · exact ⟨Nat.zero_le _, Nat.le_refl _, Nat.le_refl _, hl, [], [], .nil, .nil, Nat.le_refl _, rfl⟩
  · intro p hp
    simp only [SS.ps, List.mem_cons, List.not_mem_nil, or_false] at hp
    rcases hp with rfl | rfl | rfl | rfl <;> assumption

section
variable {Q : Flow → Shared → Prop} {s : Shared} {h₀ h' : Heap} {L lr : Addr} {m₀ u : Str → Option Value} {x : Str} {t ti2 : Tok} {tk : Nat} {c : SS} {j : Int} {mk : Nat} {news : List (Addr × Obj)}
abbrev ssM (u m₀ : Str → Option Value) (c : SS) (lr : Addr) (x : Str) (t : Tok) : Str → Option Value := kstB (fun z => if ssSt.contains z = true then u z else m₀ z) [(Str.ofString "i", .int c.i c.ti), (Str.ofString "current", .ref c.lc), (Str.ofString "result", .ref lr), (Str.ofString "text", .str x t)]
theorem ssM_off {z : Str} (e1 : z ≠ Str.ofString "i") (e2 : z ≠ Str.ofString "current") (e3 : z ≠ Str.ofString "result") (e4 : z ≠ Str.ofString "text") : ssM u m₀ c lr x t z = m₀ z := by
  have h3 : ssSt.contains z = false := by simp [ssSt, e1, e2]
  simp only [ssM, kstB, if_neg e1, if_neg e2, if_neg e3, if_neg e4, h3]
  rfl
/-- signs are put to the part -/
theorem ss_cur {cs : List Str} {rs : List Str} {vs : List Value} {ys : List Str} {nc : Nat} (k : Nat)
   (F : Fr h₀ L h' (fun z => if z = Str.ofString "i" then some (.int j ti2) else ssM u m₀ c lr x t z)) (N : News h₀ L h' [(c.lc, listOf (c.cur ++ vs).toArray nc), (lr, listOf c.res.toArray c.nr)])
   (hci : c.i ≤ x.length) (h2 : c.cur.length ≤ c.i) (h3 : c.res.length ≤ c.i) (h4 : @LT.lt Nat _ lr c.lc) (hs1 : StrsAre c.cur cs) (hs2 : StrsAre c.res rs) (h5 : (flat cs).length ≤ c.i) (he : (rs.map fun y => y.cps.toList) ++ splitG mk (flat cs) (x.cps.toList.drop c.i) = splitG mk [] x.cps.toList)
   (hj : j = ((c.i + k : Nat) : Int)) (h1 : 1 ≤ k) (hk : c.i + k ≤ x.length) (hvs : StrsAre vs ys) (hl : vs.length ≤ k) (hfl : (flat ys).length ≤ k)
   (hu : splitG mk (flat cs ++ flat ys) (x.cps.toList.drop (c.i + k)) = splitG mk (flat cs) (x.cps.toList.drop c.i)) :
   ssPost mk h₀ L s lr x t m₀ Q c .next { s with heap := h', toks := tk } := by
  refine ksw_end ⟨c.i + k, ti2, c.lc, c.cur ++ vs, nc, c.res, c.nr⟩ F N (fun p hp => hp) ⟨hk, by simp only [List.length_append]; omega, by dsimp only; omega, h4, cs ++ ys, rs, hs1.append' hvs, hs2, by rw [flat_append, List.length_append]; dsimp only; omega, by rw [flat_append, hu, he]⟩ ?_ ?_ trivial (by dsimp only; omega)
  · intro p hp
    simp only [SS.ps, List.mem_cons, List.not_mem_nil, or_false] at hp
    rcases hp with rfl | rfl | rfl | rfl
    · rw [if_pos rfl, hj]
    · rfl
    · rfl
    · rfl
  · intro z h2 h3
    have e1 : z ≠ Str.ofString "i" := h2 (Str.ofString "i", _) (.head _)
    have e2 : z ≠ Str.ofString "current" := h2 (Str.ofString "current", _) (.tail _ (.head _))
    have e3 : z ≠ Str.ofString "result" := h2 (Str.ofString "result", _) (.tail _ (.tail _ (.head _)))
    have e4 : z ≠ Str.ofString "text" := h2 (Str.ofString "text", _) (.tail _ (.tail _ (.tail _ (.head _))))
    rw [if_neg e1, ssM_off e1 e2 e3 e4]
/-- a part is put to the parts -/
theorem ss_cut {cs : List Str} {rs : List Str} {l2 : Addr} {ty : Tok} {nr : Nat}
   (F : Fr h₀ L h' (fun z => if z = Str.ofString "i" then some (.int j ti2) else if z = Str.ofString "current" then some (.ref l2) else ssM u m₀ c lr x t z))
   (N : News h₀ L h' [(l2, listOf #[] 0), (c.lc, listOf c.cur.toArray c.nc), (lr, listOf (c.res ++ [Value.str (strL (unescL (flat cs))) ty]).toArray nr)])
   (_hci : c.i ≤ x.length) (_h2 : c.cur.length ≤ c.i) (h3 : c.res.length ≤ c.i) (_h4 : @LT.lt Nat _ lr c.lc) (_hs1 : StrsAre c.cur cs) (hs2 : StrsAre c.res rs) (_h5 : (flat cs).length ≤ c.i) (he : (rs.map fun y => y.cps.toList) ++ splitG mk (flat cs) (x.cps.toList.drop c.i) = splitG mk [] x.cps.toList)
   (hj : j = ((c.i + 1 : Nat) : Int)) (hk : c.i + 1 ≤ x.length) (hl : @LT.lt Nat _ lr l2) (hu : splitG mk (flat cs) (x.cps.toList.drop c.i) = unescL (flat cs) :: splitG mk [] (x.cps.toList.drop (c.i + 1))) :
   ssPost mk h₀ L s lr x t m₀ Q c .next { s with heap := h', toks := tk } := by
  refine ksw_end ⟨c.i + 1, ti2, l2, [], 0, c.res ++ [Value.str (strL (unescL (flat cs))) ty], nr⟩ F N (fun p hp => ?_) ⟨hk, Nat.zero_le _, by simp only [List.length_append, List.length_cons, List.length_nil]; omega, hl, [], rs ++ [strL (unescL (flat cs))], .nil, hs2.append' (.cons _ _ .nil), Nat.zero_le _, ?_⟩ ?_ ?_ trivial (by dsimp only; omega)
  · simp only [SS.led, List.mem_cons, List.not_mem_nil, or_false] at hp
    rcases hp with rfl | rfl
    · exact .head _
    · exact .tail _ (.tail _ (.head _))
  · rw [List.map_append, List.append_assoc, ← he, hu]
    rfl
  · intro p hp
    simp only [SS.ps, List.mem_cons, List.not_mem_nil, or_false] at hp
    rcases hp with rfl | rfl | rfl | rfl
    · rw [if_pos rfl, hj]
    · rfl
    · rfl
    · rfl
  · intro z h2 h3
    have e1 : z ≠ Str.ofString "i" := h2 (Str.ofString "i", _) (.head _)
    have e2 : z ≠ Str.ofString "current" := h2 (Str.ofString "current", _) (.tail _ (.head _))
    have e3 : z ≠ Str.ofString "result" := h2 (Str.ofString "result", _) (.tail _ (.tail _ (.head _)))
    have e4 : z ≠ Str.ofString "text" := h2 (Str.ofString "text", _) (.tail _ (.tail _ (.tail _ (.head _))))
    rw [if_neg e1, if_neg e2, ssM_off e1 e2 e3 e4]
end
theorem one_flat (c : Nat) : flat [(⟨#[c]⟩ : Str)] = [c] := rfl
theorem ss_e2 {x : Str} {i : Nat} {k : Int} {mk : Nat} {cur : List Nat} (hk : k = (i : Int)) (hb : (Txt.item x k == Str.ofString "\\") = true) (h2 : k + 1 < (x.length : Int)) :
    splitG mk (cur ++ flat [Txt.item x k, Txt.item x (k + 1)]) (x.cps.toList.drop (i + 2)) = splitG mk cur (x.cps.toList.drop i) := by
  rw [item_is hk (by omega), bs_str, one_eq, decide_eq_true_eq] at hb
  rw [item_is hk (by omega), item_is (i := i + 1) (by omega) (by omega), drop_at (i := i) (by omega), drop_at (i := i + 1) (by omega), splitG_esc _ _ _ _ _ hb]
  rfl
theorem ss_e1 {x y : Str} {i : Nat} {k : Int} {mk : Nat} {cur : List Nat} (hy : y = ⟨#[mk]⟩) (hk : k = (i : Int)) (hi : k < (x.length : Int)) (hb : (Txt.item x k == Str.ofString "\\") = false ∨ ¬ (k + 1 < (x.length : Int))) (h2 : (Txt.item x k == y) = false) :
    splitG mk (cur ++ flat [Txt.item x k]) (x.cps.toList.drop (i + 1)) = splitG mk cur (x.cps.toList.drop i) := by
  rw [item_is hk (by omega), hy, one_eq, decide_eq_false_iff_not] at h2
  rw [item_is hk (by omega), drop_at (i := i) (by omega), one_flat, splitG_one _ _ _ _ h2]
  rcases hb with hb | hb
  · left
    rw [item_is hk (by omega), bs_str, one_eq, decide_eq_false_iff_not] at hb
    exact hb
  · right
    exact List.drop_of_length_le (by show x.cps.size ≤ _; have : x.length = x.cps.size := rfl; omega)
theorem ss_ec {x y : Str} {i : Nat} {k : Int} {mk : Nat} {cur : List Nat} (hy : y = ⟨#[mk]⟩) (hm : mk ≠ 92) (hk : k = (i : Int)) (hi : k < (x.length : Int)) (h2 : (Txt.item x k == y) = true) :
    splitG mk cur (x.cps.toList.drop i) = unescL cur :: splitG mk [] (x.cps.toList.drop (i + 1)) := by
  rw [item_is hk (by omega), hy, one_eq, decide_eq_true_eq] at h2
  rw [drop_at (i := i) (by omega), splitG_cut _ _ _ _ h2 (by rw [h2]; exact hm)]
theorem strs_fin {vs : List Value} {ss : List Str} {l : List Nat} {ty : Tok} (h : StrsAre vs ss) : StrsAre (vs ++ [.str (strL l) ty]) (((ss.map fun y => y.cps.toList) ++ [l]).map strL) := by
  have e : (((ss.map fun y => y.cps.toList) ++ [l]).map strL) = ss ++ [strL l] := by
    rw [List.map_append, List.map_map]
    congr 1
    exact List.map_id _
  rw [e]
  exact h.append' (.cons _ _ .nil)
local macro_rules | `(tactic| size_fits) => `(tactic| (simp only [Array.size_push, List.size_toArray, PySem.sizeLine_eq]; omega))

theorem sep_semi : Str.ofString ";" = ⟨#[59]⟩ := by decide +kernel
set_option maxRecDepth 100000 in
set_option maxHeartbeats 8000000 in
theorem split_semi {w : World} {p : Program} {loose : List Str} {mg mb : Str → Option Value} {A : Around} {s : Shared} {x : Str} {t : Tok} {Q E : Value → Shared → Prop}
   (h0 : Env0 w p loose mg mb s.heap) (hd : A.depth < 800) (hx : x.length ≤ 90000)
   (hQ : ∀ h' tk' l vs n, (∀ b o, s.heap.get? b = some o → h'.get? b = some o) → s.heap.get? l = none → h'.get? l = some (listOf (List.toArray vs) n) → StrsAre vs ((splitG 59 [] x.cps.toList).map strL) → Q (.ref l) { s with heap := h', toks := tk' }) :
   wpAny (model prog0 w) A (call (.ref 340) [.str x t]) Q E s := by
  refine wpAny_call ?_
  have KX := h0.K
  have T := h0.T
  refine' enter0 (binds := [(Str.ofString "text", .str x t)]) KX T.nolimit ?ho ?hcd ?hroom ?hbind ?hloc ?_ ?c1 ?c2 ?c3 ?c4
  case ho => k_is
  case hcd => k_is
  case hroom => unfold recursionLimit; omega
  case hbind => exact BindsTo.of_eq rfl
  case hloc => exact locs rfl
  case c1 => decide
  case c2 => rfl
  case c3 => rfl
  case c4 => rfl
  intro L h₁ F hk
  have N : News s.heap L h₁ [] := News.nil
  try dsimp only
  try k_fold
  k_with "exec While Compare cons nil" => refine stop ?_
  k_steps
  k_with_none
  rotate_left
  · -- no sign at all
    rename News _ _ _ _ => N1
    rename Fr _ _ _ _ => F1
    rename (x.length : Int) = 0 => hz
    have hz' : x.cps.toList = [] := List.eq_nil_of_length_eq_zero (by rw [Array.length_toList]; have : x.length = x.cps.size := rfl; omega)
    refine hQ _ _ _ [.str (Str.ofString "") _] _ (fun b o e => F1.keep b o e) (N1 _ (.head _)).2.2 (N1 _ (.head _)).1 ?_
    rw [hz', splitG_nil]
    exact .cons _ _ .nil
  refine ⟨?_⟩
  (rename News _ _ _ [(_, _), (_, _)] => N1); (rename Fr _ _ _ _ => F1); (rename @LT.lt Nat _ _ _ => hl1)
  refine' ss_loop (x := x) (t := t) 59 F1 N1 ?wi ?wc ?wr ?wv hl1 ?wt ?wE
  case wi => rfl
  case wc => rfl
  case wr => rfl
  case wv => rfl
  case wE => exact PassesOwn.never
  intro c u hh tk ⟨hci, hcl, hrl, hlt, cs, rs, hs1, hs2, hfl, he⟩ F2 N2
  unfold SS.ps at F2
  unfold SS.led at N2
  have hcsl : cs.length ≤ 90000 := by rw [← hs1.length]; omega
  k_with "call builtin:str.join" => (refine' join_N (its := c.cur.toArray) (ss := cs) ?a ?b hs1 (by omega) ?_; (case a => k_asm); (case b => k_mem); intro t9 k9)
  k_with "call ref" => ((rename Fr _ _ _ _ => F9); (rename News _ _ _ _ => N9); refine' unesc_N F9 N9 h0 (by show A.depth + 1 < 900; omega) (by show (flat cs).toArray.size ≤ _; rw [List.size_toArray]; omega) ?_; intro h9 tk9 tk9' F9' N9')
  k_steps
  k_with_none
  all_goals try (exfalso; (first
    | (have z1 : (Txt.item x (c.i : Int) == Str.ofString "\\") = true := by assumption
       have z2 : (Txt.item x (c.i : Int) == Str.ofString ";") = true := by assumption
       rw [eq_of_beq z1] at z2
       exact absurd z2 (by decide +kernel))
    | fail "other"))
  all_goals try ((rename News _ _ _ _ => N9); (rename Fr _ _ _ _ => F9); (try rw [List.push_toArray, List.push_toArray, List.append_assoc] at N9); (try rw [List.push_toArray] at N9); (first
    | exact ss_cur 2 F9 N9 hci hcl hrl hlt hs1 hs2 hfl he (by omega) (by omega) (by omega) (.cons _ _ (.cons _ _ .nil)) (Nat.le_refl _) (Nat.le_refl _) (ss_e2 rfl (by assumption) (by assumption))
    | exact ss_cur 1 F9 N9 hci hcl hrl hlt hs1 hs2 hfl he (by omega) (by omega) (by omega) (.cons _ _ .nil) (Nat.le_refl _) (Nat.le_refl _) (ss_e1 sep_semi rfl (by assumption) (.inl (by assumption)) (by assumption))
    | exact ss_cur 1 F9 N9 hci hcl hrl hlt hs1 hs2 hfl he (by omega) (by omega) (by omega) (.cons _ _ .nil) (Nat.le_refl _) (Nat.le_refl _) (ss_e1 sep_semi rfl (by assumption) (.inr (by assumption)) (by assumption))
    | exact ss_cut F9 N9 hci hcl hrl hlt hs1 hs2 hfl he (by omega) (by omega) (by omega) (ss_ec sep_semi (by decide) rfl (by assumption) (by assumption))))
  rename News _ _ _ _ => N9
  rename Fr _ _ _ _ => F9
  rename ¬ ((c.i : Int) < (x.length : Int)) => hz
  rw [List.push_toArray] at N9
  refine hQ _ _ _ (c.res ++ [.str (strL (unescL (flat cs))) _]) _ (fun b o e => F9.keep b o e) (N9 _ (.tail _ (.head _))).2.2 (N9 _ (.tail _ (.head _))).1 ?_
  rw [List.drop_of_length_le (i := c.i) (by show x.cps.size ≤ _; have : x.length = x.cps.size := rfl; omega), splitG_nil] at he
  rw [← he]
  exact strs_fin hs2

theorem sep_comma : Str.ofString "," = ⟨#[44]⟩ := by decide +kernel
set_option maxRecDepth 100000 in
set_option maxHeartbeats 8000000 in
theorem split_comma {w : World} {p : Program} {loose : List Str} {mg mb : Str → Option Value} {A : Around} {s : Shared} {x : Str} {t : Tok} {Q E : Value → Shared → Prop}
   (h0 : Env0 w p loose mg mb s.heap) (hd : A.depth < 800) (hx : x.length ≤ 90000)
   (hQ : ∀ h' tk' l vs n, (∀ b o, s.heap.get? b = some o → h'.get? b = some o) → s.heap.get? l = none → h'.get? l = some (listOf (List.toArray vs) n) → StrsAre vs ((splitG 44 [] x.cps.toList).map strL) → Q (.ref l) { s with heap := h', toks := tk' }) :
   wpAny (model prog0 w) A (call (.ref 333) [.str x t]) Q E s := by
  refine wpAny_call ?_
  have KX := h0.K
  have T := h0.T
  refine' enter0 (binds := [(Str.ofString "text", .str x t)]) KX T.nolimit ?ho ?hcd ?hroom ?hbind ?hloc ?_ ?c1 ?c2 ?c3 ?c4
  case ho => k_is
  case hcd => k_is
  case hroom => unfold recursionLimit; omega
  case hbind => exact BindsTo.of_eq rfl
  case hloc => exact locs rfl
  case c1 => decide
  case c2 => rfl
  case c3 => rfl
  case c4 => rfl
  intro L h₁ F hk
  have N : News s.heap L h₁ [] := News.nil
  try dsimp only
  try k_fold
  k_with "exec While Compare cons nil" => refine stop ?_
  k_steps
  k_with_none
  rotate_left
  · -- no sign at all
    rename News _ _ _ _ => N1
    rename Fr _ _ _ _ => F1
    rename (x.length : Int) = 0 => hz
    have hz' : x.cps.toList = [] := List.eq_nil_of_length_eq_zero (by rw [Array.length_toList]; have : x.length = x.cps.size := rfl; omega)
    refine hQ _ _ _ [.str (Str.ofString "") _] _ (fun b o e => F1.keep b o e) (N1 _ (.head _)).2.2 (N1 _ (.head _)).1 ?_
    rw [hz', splitG_nil]
    exact .cons _ _ .nil
  refine ⟨?_⟩
  (rename News _ _ _ [(_, _), (_, _)] => N1); (rename Fr _ _ _ _ => F1); (rename @LT.lt Nat _ _ _ => hl1)
  refine' ss_loop (x := x) (t := t) 44 F1 N1 ?wi ?wc ?wr ?wv hl1 ?wt ?wE
  case wi => rfl
  case wc => rfl
  case wr => rfl
  case wv => rfl
  case wE => exact PassesOwn.never
  intro c u hh tk ⟨hci, hcl, hrl, hlt, cs, rs, hs1, hs2, hfl, he⟩ F2 N2
  unfold SS.ps at F2
  unfold SS.led at N2
  have hcsl : cs.length ≤ 90000 := by rw [← hs1.length]; omega
  k_with "call builtin:str.join" => (refine' join_N (its := c.cur.toArray) (ss := cs) ?a ?b hs1 (by omega) ?_; (case a => k_asm); (case b => k_mem); intro t9 k9)
  k_with "call ref" => ((rename Fr _ _ _ _ => F9); (rename News _ _ _ _ => N9); refine' unesc_N F9 N9 h0 (by show A.depth + 1 < 900; omega) (by show (flat cs).toArray.size ≤ _; rw [List.size_toArray]; omega) ?_; intro h9 tk9 tk9' F9' N9')
  k_steps
  k_with_none
  all_goals try (exfalso; (first
    | (have z1 : (Txt.item x (c.i : Int) == Str.ofString "\\") = true := by assumption
       have z2 : (Txt.item x (c.i : Int) == Str.ofString ",") = true := by assumption
       rw [eq_of_beq z1] at z2
       exact absurd z2 (by decide +kernel))
    | fail "other"))
  all_goals try ((rename News _ _ _ _ => N9); (rename Fr _ _ _ _ => F9); (try rw [List.push_toArray, List.push_toArray, List.append_assoc] at N9); (try rw [List.push_toArray] at N9); (first
    | exact ss_cur 2 F9 N9 hci hcl hrl hlt hs1 hs2 hfl he (by omega) (by omega) (by omega) (.cons _ _ (.cons _ _ .nil)) (Nat.le_refl _) (Nat.le_refl _) (ss_e2 rfl (by assumption) (by assumption))
    | exact ss_cur 1 F9 N9 hci hcl hrl hlt hs1 hs2 hfl he (by omega) (by omega) (by omega) (.cons _ _ .nil) (Nat.le_refl _) (Nat.le_refl _) (ss_e1 sep_comma rfl (by assumption) (.inl (by assumption)) (by assumption))
    | exact ss_cur 1 F9 N9 hci hcl hrl hlt hs1 hs2 hfl he (by omega) (by omega) (by omega) (.cons _ _ .nil) (Nat.le_refl _) (Nat.le_refl _) (ss_e1 sep_comma rfl (by assumption) (.inr (by assumption)) (by assumption))
    | exact ss_cut F9 N9 hci hcl hrl hlt hs1 hs2 hfl he (by omega) (by omega) (by omega) (ss_ec sep_comma (by decide) rfl (by assumption) (by assumption))))
  rename News _ _ _ _ => N9
  rename Fr _ _ _ _ => F9
  rename ¬ ((c.i : Int) < (x.length : Int)) => hz
  rw [List.push_toArray] at N9
  refine hQ _ _ _ (c.res ++ [.str (strL (unescL (flat cs))) _]) _ (fun b o e => F9.keep b o e) (N9 _ (.tail _ (.head _))).2.2 (N9 _ (.tail _ (.head _))).1 ?_
  rw [List.drop_of_length_le (i := c.i) (by show x.cps.size ≤ _; have : x.length = x.cps.size := rfl; omega), splitG_nil] at he
  rw [← he]
  exact strs_fin hs2
end Mine
end
section
open PySem PySem.W PyProof.Rows PySem.Calls
namespace Mine
theorem fillit4 : (∀ (w : World) (s : Shared), (Mine.kd.heap_1 w.params).In s.heap → PySem.Challenge.rw_br0007_01.prog = PySem.Challenge.rw_br0007_01.prog) := by
  k_fill
  intros; rfl
section
variable {prog : Program} {w : World} {A : Around} {E : Value → Shared → Prop} {s : Shared} {K : Frag} {x C tp : Addr} {ox : Obj}
theorem looks_type (hx : s.heap.get? x = some ox) (hc : ox.cls = .ref C) {M : Model} : Looks M s.heap (typeOf (.ref x)) (.ref C) := by
  rw [← hc]
  exact (Looks.ld hx).andThen .now
theorem isi_nested_T {T : String} {dep : Int} {tk : Tok} {Q : Fin → Shared → Prop} {M : Model} (X : K.In s.heap) (hx : s.heap.get? x = some ox) (hc : ox.cls = .ref C) (hsub : subIn K (.ref C) (.type T) = some true)
   (hty : typeOf (.type T) = pure (.type "type")) (h : Q (.done (.ret (.bool true))) s) :
   wpAny M A (Builtin.«isinstance.nested» ⟨[.ref x, .type T, .int dep tk], []⟩) Q E s := by
  have ht := looks_type (M := M) hx hc
  have L3 : Looks M s.heap (isInstance (.ref x) (.type T)) true := ht.andThen (looks_subIn X hsub)
  have L1 : Looks M s.heap (typeOf (.type T)) (.type "type") := .of_pure hty
  obtain ⟨hh, g, d, tt, os⟩ := s
  unfold Builtin.«isinstance.nested»
  refine wpAny_bind (ht.at ?_)
  rw [if_neg (by simp)]
  refine wpAny_bind (L1.at ?_)
  rw [if_pos (by decide)]
  k_delta "plainIsInstance"
  unfold isType
  repeat lk
  exact h
theorem isi_T {T : String} {Q : Value → Shared → Prop} (X : K.In s.heap) (hx : s.heap.get? x = some ox) (hc : ox.cls = .ref C) (hsub : subIn K (.ref C) (.type T) = some true)
   (hty : typeOf (.type T) = pure (.type "type")) (h : Q (.bool true) s) : wpAny (model prog w) A (call (.builtin "isinstance") [.ref x, .type T]) Q E s :=
  call_isinstance (S := fun _ R s => (K.In s.heap ∧ s.heap.get? x = some ox) ∧ R (.ok (.ret (.bool true))) s) (fun _ _ _ _ _ hs => isinstance_outer (isi_nested_T hs.1.1 hs.1.2 hc hsub hty hs.2) (by intro e; cases e)) ⟨⟨X, hx⟩, h⟩
theorem isi_nested_tup {T : String} {r : List Value} {n : Nat} {tk : Tok} {Q : Fin → Shared → Prop} (X : K.In s.heap) (hx : s.heap.get? x = some ox) (hc : ox.cls = .ref C) (hsub : subIn K (.ref C) (.type T) = some true)
   (hty : typeOf (.type T) = pure (.type "type")) {vs : Array Value} (hv : vs.toList = .type T :: r) (htp : s.heap.get? tp = some { cls := .type "tuple", data := .seq vs n }) (hne : C ≠ tp) (h : Q (.done (.ret (.bool true))) s) :
   wpAny (model prog w) A (Builtin.«isinstance.nested» ⟨[.ref x, .ref tp, .int 0 tk], []⟩) Q E s := by
  have ht := looks_type (M := model prog w) hx hc
  have hne' : (Value.ref C == Value.ref tp) = false := by simp [hne]
  obtain ⟨hh, g, d, tt, os⟩ := s
  have hT2 : (⟨hh, g, d, tt, os⟩ : Shared).TypeIs (.ref tp) "tuple" := ⟨_, htp, rfl⟩
  have f1 := PySem.F.isi_sub_tuple
  unfold Builtin.«isinstance.nested»
  refine wpAny_bind (ht.at ?_)
  rw [hne', if_neg Bool.false_ne_true]
  repeat (any_goals (first | assumption | wp_step))
  refine wpAny_arrayLoop ?_
  simp only [Option.getD_some]
  rw [hv, List.forIn_cons]
  refine wpAny_bind (wpAny_bind (call_function_meets PySem.F.kind_isinstance_nested PySem.F.plain_isinstance_nested PySem.F.entry_isinstance_nested (PySem.F.args_isinstance_nested_3 _ _ _)
    (S := fun _ R s => (K.In s.heap ∧ s.heap.get? x = some ox) ∧ R (.ok (.ret (.bool true))) s) (fun _ _ _ _ _ hs => isi_nested_T hs.1.1 hs.1.2 hc hsub hty hs.2) ⟨⟨X, hx⟩, ?_⟩))
  show wpAny _ _ (truthy (.bool true) >>= _) _ _ _
  refine wpAny_bind (m := truthy (.bool true)) (wpAny_pure ?_)
  refine wpAny_bind (wpAny_pure (wpAny_pure (wpAny_pure ?_)))
  exact wpAny_pure h
theorem isi_tup {T : String} {r : List Value} {n : Nat} {Q : Value → Shared → Prop} (X : K.In s.heap) (hx : s.heap.get? x = some ox) (hc : ox.cls = .ref C) (hsub : subIn K (.ref C) (.type T) = some true)
   (hty : typeOf (.type T) = pure (.type "type")) (htp : s.heap.get? tp = some { cls := .type "tuple", data := .seq (List.toArray (.type T :: r)) n }) (hne : C ≠ tp) (h : Q (.bool true) s) : wpAny (model prog w) A (call (.builtin "isinstance") [.ref x, .ref tp]) Q E s :=
  call_isinstance (S := fun _ R s => (K.In s.heap ∧ s.heap.get? x = some ox ∧ s.heap.get? tp = some { cls := .type "tuple", data := .seq (List.toArray (.type T :: r)) n }) ∧ R (.ok (.ret (.bool true))) s)
    (fun _ _ _ _ _ hs => isinstance_outer (isi_nested_tup hs.1.1 hs.1.2.1 hc hsub hty (r := r) rfl hs.1.2.2 hne hs.2) (by intro e; cases e)) ⟨⟨X, hx, htp⟩, h⟩
/-- a method of a class's built-in base, found on an object without a dict -/
theorem method_base {f tf : Value} {name : Str} {pl : Sem Bool} {Q : Value × List Value → Shared → Prop} {i : String} (X : K.In s.heap) (hx : s.heap.get? x = some ox) (hc : ox.cls = .ref C) (hd : ox.dict = none)
   (hg : findIn K (.ref C) "__getattribute__" = some (some (.builtin i))) (hi : (Manifest.canonical i != "object.__getattribute__") = false) (ha : findIn K (.ref C) "__getattr__" = some none)
   (hf : findIn K (.ref C) name = some (some f)) (ht : typeIn K f = some tf) (hk : (tf != .type "function" && tf != .type "method_descriptor" && tf != .type "wrapper_descriptor") = false) (h : Q (f, [.ref x]) s) :
   wpAny (model prog w) A (getMethod (.ref x) name pl) Q E s := by
  have L0 := looks_type (M := model prog w) hx hc
  have L1 : Looks (model prog w) s.heap (specialOf (.ref x) "__getattribute__") (some (.builtin i)) := L0.andThen (looks_findIn X hg)
  have L2 : Looks (model prog w) s.heap (specialOf (.ref x) "__getattr__") none := L0.andThen (looks_findIn X ha)
  have L3 : Looks (model prog w) s.heap (specialOf (.ref x) name) (some f) := L0.andThen (looks_findIn X hf)
  have L4 := looks_typeIn (M := model prog w) X ht
  obtain ⟨hh, g, d, tt, os⟩ := s
  unfold getMethod
  refine wpAny_bind (L1.at ?_)
  dsimp only
  rw [hi, if_neg Bool.false_ne_true]
  refine wpAny_bind (L2.at ?_)
  dsimp only [Option.isSome]
  rw [if_neg Bool.false_ne_true]
  refine wpAny_bind (L3.at ?_)
  dsimp only
  refine wpAny_bind (L4.at ?_)
  rw [hk, if_neg Bool.false_ne_true]
  repeat lk
  rw [hd]
  repeat lk
  exact h
end
end Mine
end
section
open PySem PySem.W PyProof.Rows PySem.Calls PySem.Builtin
namespace Mine
/-- seven-bit texts -/
def Asc (x : Str) : Prop := ∀ c ∈ x.cps.toList, c < 128
def enc (x : Str) : Array UInt8 := (x.cps.toList.map fun c => c.toUInt8).toArray
theorem forIn_pure {σ : Type} {f : Nat → σ → Sem (ForInStep σ)} (inv : Nat → σ) : ∀ (n i k : Nat), (∀ j j', i ≤ j → j < i + n → f j' (inv j) = pure (.yield (inv (j + 1)))) → forIn (List.range' k n) (inv i) f = (pure (inv (i + n)) : Sem σ)
  | 0, i, k, _ => rfl
  | n + 1, i, k, h => by
    rw [List.range'_succ, List.forIn_cons, h i k (Nat.le_refl _) (by omega)]
    show forIn (List.range' (k + 1) n) (inv (i + 1)) f = _
    rw [forIn_pure inv n (i + 1) (k + 1) (fun j j' h1 h2 => h j j' (by omega) (by omega))]
    congr 2
    omega
theorem forIn_done {σ : Type} {f : Nat → σ → Sem (ForInStep σ)} {a b : σ} (h1 : ∀ j, f j a = pure (.yield b)) (h2 : ∀ j, f j b = pure (.done b)) : ∀ (n k : Nat), forIn (List.range' k (n + 1)) a f = (pure b : Sem σ)
  | 0, k => by
    show (f k a >>= _) = _
    rw [h1]
    rfl
  | n + 1, k => by
    rw [List.range'_succ, List.forIn_cons, h1]
    show forIn (List.range' (k + 1) (n + 1)) b f = _
    rw [List.range'_succ, List.forIn_cons, h2]
    rfl
theorem dec_run (id : String) (b : Array UInt8) (hb : ∀ c ∈ b.toList, c.toNat < 128) (hn : b.size ≤ 1000000) : _codecs.runDecoder id _codecs.utf8Decoder none true b 0 [] = pure ((b.toList.map fun c => c.toNat).toArray, b.size) := by
  unfold _codecs.runDecoder
  simp only [Std.Legacy.Range.forIn_eq_forIn_range']
  have hz : [:b.size].size = b.size := by simp [Std.Legacy.Range.size]
  rw [hz]
  refine Eq.trans (congrArg (fun (m : Sem (Nat × Array Nat × _codecs.Faults)) => m >>= fun r => (pure (r.snd.fst, r.fst) : Sem (Array Nat × Nat))) (forIn_pure (fun i => ((i, ((b.toList.take i).map fun c => c.toNat).toArray, {}) : Nat × Array Nat × _codecs.Faults)) b.size 0 0 ?_)) ?_
  rotate_left
  · simp only [Nat.zero_add]
    rw [List.take_of_length_le (by simp)]
    rfl
  · intro j j' _ hj
    have hj : j < b.size := by omega
    have hsz : ¬ (((b.toList.take j).map fun c => c.toNat).toArray.size > sizeLine) := by
      simp only [List.size_toArray, List.length_map, List.length_take, sizeLine_eq]
      omega
    have hj2 : ¬ (j ≥ b.size) := by omega
    dsimp only
    rw [if_neg hsz, if_neg hj2]
    have hl : j < b.toList.length := by simpa using hj
    have hc : (b.getD j 0).toNat < 128 := by
      have e : b.getD j 0 = b.toList[j] := by simp [Array.getD, hj]
      rw [e]
      exact hb _ (List.getElem_mem hl)
    have hf : _codecs.utf8Decoder.find true b j = .text [(b.getD j 0).toNat] (j + 1) := by
      have hu : Bytes.utf8At b j = (.char (b.getD j 0).toNat, j + 1) := by
        unfold Bytes.utf8At
        rw [if_pos hc]
      unfold _codecs.utf8Decoder
      dsimp only
      rw [hu]
      rfl
    rw [hf]
    dsimp only
    have e : b.getD j 0 = b.toList[j] := by simp [Array.getD, hj]
    have e2 : ((b.toList.take j).map fun c => c.toNat).toArray ++ [(b.getD j 0).toNat].toArray = ((b.toList.take (j + 1)).map fun c => c.toNat).toArray := by
      rw [e, List.take_succ_eq_append_getElem hl, List.map_append]
      simp
    rw [e2]
theorem enc_run (id : String) (self : Value) (x : Str) (hx : Asc x) (hn : x.length ≤ 1000000) : _codecs.encodeNarrow id _codecs.utf8Codec none self x = pure (enc x) := by
  have hbad : ∀ c ∈ x.cps.toList, _codecs.utf8Codec.bad c = false := fun c hc => by
    have := hx c hc
    show Str.isSurrogate c = false
    unfold Str.isSurrogate
    simp only [Bool.and_eq_false_iff, decide_eq_false_iff_not]
    left; omega
  have hfind : Array.findIdx? _codecs.utf8Codec.bad x.cps = none := by
    rw [Array.findIdx?_eq_none_iff]
    intro c hc
    exact hbad c (by simpa using hc)
  have hfold : Array.foldl (fun acc y => acc ++ (_codecs.utf8Codec.bytesOf y).toArray) #[] x.cps = enc x := by
    rw [← Array.foldl_toList]
    unfold enc
    have : ∀ (l : List Nat) (acc : Array UInt8), (∀ c ∈ l, c < 128) → l.foldl (fun acc y => acc ++ (_codecs.utf8Codec.bytesOf y).toArray) acc = acc ++ (l.map fun c => c.toUInt8).toArray := by
      intro l
      induction l with
      | nil => intro acc _; simp
      | cons c r ih =>
        intro acc h
        rw [List.foldl_cons, ih _ (fun d hd => h d (.tail _ hd))]
        have hc := h c (.head _)
        have : _codecs.utf8Codec.bytesOf c = [c.toUInt8] := by
          show Str.utf8Of c = _
          unfold Str.utf8Of
          rw [if_pos hc]
        rw [this]
        simp
    rw [this x.cps.toList #[] hx]
    simp
  unfold _codecs.encodeNarrow
  simp only [Std.Legacy.Range.forIn_eq_forIn_range']
  have hz : [:x.length].size = x.length := by simp [Std.Legacy.Range.size]
  rw [hz]
  cases hl : x.length with
  | zero =>
    have e : x.cps.toList = [] := List.eq_nil_of_length_eq_zero (by rw [Array.length_toList]; exact hl)
    have : enc x = #[] := by unfold enc; rw [e]; rfl
    rw [this]
    rfl
  | succ n =>
    refine Eq.trans (congrArg (fun (m : Sem (Nat × Array UInt8 × _codecs.Faults)) => m >>= fun r => (pure r.snd.fst : Sem (Array UInt8))) (forIn_done (a := ((0, #[], {}) : Nat × Array UInt8 × _codecs.Faults)) (b := ((x.cps.size, enc x, {}) : Nat × Array UInt8 × _codecs.Faults)) ?_ ?_ n 0)) ?_
    rotate_left 2
    · rfl
    · intro j
      have h0 : 0 < x.cps.size := by have : x.length = x.cps.size := rfl; omega
      have hc : x.cps[0]? = some x.cps[0] := Array.getElem?_eq_getElem h0
      dsimp only
      rw [if_neg (by simp [sizeLine_eq]), hc]
      dsimp only
      rw [hbad _ (by simp)]
      simp only [Bool.not_false, if_true, Array.extract_size, hfind, Option.getD_none, hfold, Nat.zero_add]
    · intro j
      have hc : x.cps[x.cps.size]? = none := by simp
      have he : ¬ ((enc x).size > sizeLine) := by
        unfold enc
        have : x.length = x.cps.size := rfl
        simp only [List.size_toArray, List.length_map, Array.length_toList, sizeLine_eq]
        omega
      dsimp only
      rw [if_neg he, hc]
section
variable {prog : Program} {w : World} {A : Around} {E : Value → Shared → Prop} {s : Shared} {t u : Tok} {x : Str}
theorem enc_entry : «str.encode» ⟨[.str x t, .str (Str.ofString "utf-8") u], []⟩ = (_codecs.encodeRoad "str.encode" (.str x t) x (Str.ofString "utf-8") none >>= fun v => ret v) := by kernel_rfl
theorem encode_A {Q : Value → Shared → Prop} (hx : Asc x) (hn : x.length ≤ 1000000) (h : ∀ t' k, s.toks ≤ k → Q (.bytes (enc x) t') { s with toks := k }) :
    wpAny (model prog w) A (call (.builtin "str.encode") [.str x t, .str (Str.ofString "utf-8") u]) Q E s := by
  refine call_meets F.slot_str_encode (typeIs_str _ _ _) F.entry_str_encode (F.args_str_encode_2 _ _) (S := fun _ R s' => ∀ t' k, s'.toks ≤ k → R (.ok (.ret (.bytes (enc x) t'))) { s' with toks := k }) (.of_wp fun prog w A R s hS => ?_) h
  rw [enc_entry, encodeRoad_utf8, enc_run _ _ x hx hn]
  have hz : ¬ ((enc x).size > sizeLine) := by
    unfold enc
    have : x.length = x.cps.size := rfl
    simp only [List.size_toArray, List.length_map, Array.length_toList, sizeLine_eq]
    omega
  show wpAny _ _ (mkBytes (enc x) >>= _) _ _ _
  unfold mkBytes
  rw [if_neg hz]
  refine wpAny_bind (wpAny_bind (wpAny_fresh (wpAny_pure (wpAny_pure ?_))))
  exact ⟨_, rfl, hS _ _ (Nat.le_succ _)⟩
theorem dec_entry {c : UInt8} {cs : List UInt8} : «bytes.decode» ⟨[.bytes (c :: cs).toArray t, .str (Str.ofString "utf-8") u], []⟩ = (mkStr (Str.ofString "utf-8") >>= fun _ => mkStr (Str.ofString "utf-8") >>= fun e => mkStr (Str.ofString "bytes.decode") >>= fun d =>
    call (.builtin "_codecs.decode.text") [.bytes (c :: cs).toArray t, e, .none, d] >>= fun v => ret v) := by kernel_rfl
theorem dec_entry0 : «bytes.decode» ⟨[.bytes #[] t, .str (Str.ofString "utf-8") u], []⟩ = (rule "bytes.decode.empty" >>= fun _ => retStr Str.empty) := by kernel_rfl
theorem args_dec2 (a b : Value) : argsOk "bytes.decode" ⟨[a, b], []⟩ := by unfold argsOk; kernel_rfl
theorem asc_enc (hx : Asc x) : ∀ c ∈ (enc x).toList, c.toNat < 128 := by
  intro c hc
  unfold enc at hc
  simp only [List.toList_toArray, List.mem_map] at hc
  obtain ⟨d, hd, rfl⟩ := hc
  have := hx d hd
  show d.toUInt8.toNat < 128
  rw [Nat.toUInt8_eq, UInt8.toNat_ofNat']
  omega
theorem dec_enc (hx : Asc x) : ((enc x).toList.map fun c => c.toNat) = x.cps.toList := by
  unfold enc
  simp only [List.toList_toArray, List.map_map]
  have : ∀ l : List Nat, (∀ c ∈ l, c < 128) → l.map ((fun c => c.toNat) ∘ fun c => c.toUInt8) = l := by
    intro l h
    induction l with
    | nil => rfl
    | cons c r ih =>
      rw [List.map_cons, ih fun d hd => h d (.tail _ hd)]
      have hc := h c (.head _)
      congr 1
      show c.toUInt8.toNat = c
      rw [Nat.toUInt8_eq, UInt8.toNat_ofNat']
      omega
  exact this _ hx
theorem meets_dec {b : Array UInt8} (hb : b = enc x) (hx : Asc x) (hn : x.length ≤ 1000000) : Meets («bytes.decode» ⟨[.bytes b t, .str (Str.ofString "utf-8") u], []⟩) (fun _ R s => ∀ t' k, s.toks ≤ k → R (.ok (.ret (.str x t'))) { s with toks := k }) := by
  have hsz : b.size = x.length := by
    rw [hb]
    unfold enc
    have : x.length = x.cps.size := rfl
    simp only [List.size_toArray, List.length_map, Array.length_toList, this]
  have hrun : ∀ id, _codecs.runDecoder id _codecs.utf8Decoder none true b 0 [] = pure (x.cps, b.size) := fun id => by
    rw [dec_run id b (hb ▸ asc_enc hx) (by omega), hb, dec_enc hx]
  refine .of_wp fun prog w A R s hS => ?_
  obtain ⟨l⟩ := b
  cases l with
  | nil =>
    have hz : x = Str.empty := by
      have h0 : x.cps.size = 0 := by have : x.length = x.cps.size := rfl; rw [← this, ← hsz]; rfl
      obtain ⟨c⟩ := x
      have : c = #[] := Array.eq_empty_of_size_eq_zero h0
      rw [this]; rfl
    show wpAny _ _ («bytes.decode» ⟨[.bytes #[] t, .str (Str.ofString "utf-8") u], []⟩) _ _ _
    rw [dec_entry0]
    refine wpAny_bind (wpAny_rule ?_)
    unfold retStr
    refine wpAny_bind (wpAny_mkStr (wpAny_pure ⟨_, rfl, ?_⟩) (by decide))
    rw [← hz]
    exact hS _ _ (Nat.le_succ _)
  | cons c cs =>
    show wpAny _ _ («bytes.decode» ⟨[.bytes (c :: cs).toArray t, .str (Str.ofString "utf-8") u], []⟩) _ _ _
    rw [dec_entry]
    refine wpAny_bind (wpAny_mkStr ?_ (by decide))
    refine wpAny_bind (wpAny_mkStr ?_ (by decide))
    refine wpAny_bind (wpAny_mkStr ?_ (by decide))
    refine wpAny_bind (call_function_meets KBd.kind_text KBd.plain_text KBd.entry_text (KBd.args_text _ _ _ _) (KBd.meets_text (x := x) hrun) ⟨by rw [sizeLine_eq]; omega, wpAny_pure ⟨_, rfl, hS _ _ ?_⟩⟩)
    dsimp only
    omega
theorem decode_A {Q : Value → Shared → Prop} (hx : Asc x) (hn : x.length ≤ 1000000) (h : ∀ t' k, s.toks ≤ k → Q (.str x t') { s with toks := k }) :
    wpAny (model prog w) A (call (.builtin "bytes.decode") [.bytes (enc x) t, .str (Str.ofString "utf-8") u]) Q E s :=
  call_meets FB.slot_bytes_decode (typeIs_bytes _ _ _) FB.entry_bytes_decode (args_dec2 _ _) (meets_dec rfl hx hn) h
end
end Mine
end
section
open PySem PySem.W PyProof.Rows PySem.Calls
namespace Mine
theorem fillit5 : (∀ (w : World) (s : Shared), (Mine.kd.heap_1 w.params).In s.heap → PySem.Challenge.rw_br0007_01.prog = PySem.Challenge.rw_br0007_01.prog) := by
  k_fill
  intros; rfl
theorem wp_peekA0 {α : Type} {K : Frag} {M : Model} {A : Around} {E : Value → Shared → Prop} {Q : α → Shared → Prop} {s : Shared} {o : Obj} (X : K.In s.heap) :
    ∀ (t : Sem α) (g : Addr → Sem α), peekA K ⟨M.prog, M.w.params⟩ t = some (o, g) → wpAny M A (g s.heap.objs.size) Q E { s with heap := s.heap.push o } → wpAny M A t Q E s := by
  intro t
  induction t with
  | rule _ k ih => intro g e q Γ p hΓ; exact ih () g e q Γ p hΓ
  | point _ k ih => intro g e q Γ p hΓ; exact ih () g e q Γ p hΓ
  | ask k ih => intro g e q Γ p hΓ; exact ih _ g e q Γ p hΓ
  | load a _ k ih =>
    intro g e q Γ p hΓ
    simp only [peekA] at e
    split at e
    · rename_i ob ho; exact ⟨ob, X _ _ ho, ih ob g e q Γ p hΓ⟩
    · cases e
  | alloc ob k _ =>
    intro g e q
    have e : some (ob, k) = some (o, g) := e
    obtain ⟨e1, e2⟩ := Prod.mk.inj (Option.some.inj e)
    subst e1
    subst e2
    exact wpAny_bind (m := alloc ob) (wpAny_alloc q)
  | _ => intro g e; cases e
abbrev AA : Around := { handled := none, depth := 950, frames := none, guards := none, units := 5000 }
theorem weaken {α : Type} {M : Model} {A : Around} {t : Sem α} {Q : α → Shared → Prop} {E : Value → Shared → Prop} {s : Shared} (hh : A.handled = none) (hd : A.depth ≤ 950) (hu : A.units ≤ 5000) (h : wpAny M AA t Q E s) : wpAny M A t Q E s := by
  intro Γ p hΓ
  refine h Γ p ⟨hΓ.1.trans hh, Nat.le_trans hΓ.2.1 hd, ?_, ?_, Nat.le_trans hΓ.2.2.2.2 hu⟩
  · intro l hl; cases hl
  · intro l hl; cases hl
section
variable {prog : Program} {w : World} {A : Around} {s : Shared} {K : Frag} {R : Result → Shared → Prop} {name qual : Str} {params : Arguments} {body : List Stmt} {scope : Scope} {cl : List (Str × Addr)} {dV kV doc pm cdv ct oc : Value} {an od : Option Addr} {osl : Array (Option Value)} {f : Addr} {args : Args}
/-- into a def with *args and **kwargs, no keyword given; its activation known -/
theorem enterV {vs : List Value} {binds : Addr → Addr → List (Str × Value)} {g₁ : Addr → Sem (List (Str × Value))} {g₂ : Addr → Addr → Sem (List (Str × Value))} (X : K.In s.heap) (hlim : s.heap.NoLimit)
    (ho : K.lookup f = some ⟨oc, od, .func (fnX name qual params body scope cl dV kV doc pm an cdv ct), osl⟩) (hcd : codeIn K cdv qual = true) (hroom : A.depth < recursionLimit)
    (hp : peekA K ⟨prog, w.params⟩ (bindArgs (fnX name qual params body scope cl dV kV doc pm an cdv ct) args) = some (({ cls := .type "tuple", data := .seq vs.toArray } : Obj), g₁))
    (hp₂ : ∀ C, peekA K ⟨prog, w.params⟩ (g₁ C) = some (dictOf [] 0, g₂ C)) (hk₂ : ∀ C D, g₂ C D = pure (binds C D))
    (hloc : ∀ C D, ∀ y ∈ binds C D, scope.names.lookup y.1 = some .local)
    (h : ∀ C D L h₁, s.heap.objs.size ≤ C → C < D → D < L → Fr s.heap L h₁ (fun y => (binds C D).reverse.lookup y) → News s.heap L h₁ [(D, dictOf [] 0), (C, ({ cls := .type "tuple", data := .seq vs.toArray } : Obj))] → (∀ b o, s.heap.get? b = some o → h₁.get? b = some o ∧ b ≠ L ∧ b ≠ C ∧ b ≠ D) →
      _root_.PySem.wpAt (model prog w) (A.deeper (envX qual scope L f cdv cl)) (.func body (envX qual scope L f cdv cl)) (execs body (envX qual scope L f cdv cl))
        (fun fl s' => R (.ok (.ret (match fl with | .ret v => v | _ => .none))) s')
        (fun _ _ => False)
        { s with heap := h₁, toks := s.toks + (binds C D).length })
    (hcell : ∀ x ∈ scope.names, x.2 ≠ .cell) (hco : scope.isCoroutine = false) (hgen : scope.isGenerator = false) (hk : scope.kind = .function) : codeAny (model prog w) A (.call (.ref f) args) R s := by
  refine codeAny_call_function (fd := fnX name qual params body scope cl dV kV doc pm an cdv ct) (body := body) hroom (X _ _ ho) rfl hco hgen rfl (codeRec_of X hcd) ?_
  refine wp_peekA0 X _ _ hp ?_
  have X1 : K.In (s.heap.push ({ cls := .type "tuple", data := .seq vs.toArray } : Obj)) := X.keeps fun b x hb => Heap.get?_push_of_some _ hb
  refine wp_peekA0 (s := { s with heap := s.heap.push ({ cls := .type "tuple", data := .seq vs.toArray } : Obj) }) X1 _ _ (hp₂ _) ?_
  rw [hk₂]
  refine wpAny_pure ?_
  have k2 : ∀ b o, s.heap.get? b = some o → ((s.heap.push ({ cls := .type "tuple", data := .seq vs.toArray } : Obj)).push (dictOf [] 0)).get? b = some o := fun b o e => Heap.get?_push_of_some _ (Heap.get?_push_of_some _ e)
  have hT : ((s.heap.push ({ cls := .type "tuple", data := .seq vs.toArray } : Obj)).push (dictOf [] 0)).get? s.heap.objs.size = some ({ cls := .type "tuple", data := .seq vs.toArray } : Obj) := Heap.get?_push_of_some _ (Heap.get?_push_at rfl rfl)
  have hD : ((s.heap.push ({ cls := .type "tuple", data := .seq vs.toArray } : Obj)).push (dictOf [] 0)).get? (s.heap.objs.size + 1) = some (dictOf [] 0) := Heap.get?_push_at (by rw [Heap.size_push]) rfl
  refine wpAny_newFunctionEnv hcell (hloc _ _) (fun h₀ hns₀ hsb₀ => ⟨(hlim.keeps k2).fresh _ hsb₀, ks_codeAny_funcAt ?_⟩) hk
  simp only [Heap.size_push] at hns₀ hsb₀ ⊢
  have k3 : ∀ b o, b < s.heap.objs.size + 2 → ((s.heap.push ({ cls := .type "tuple", data := .seq vs.toArray } : Obj)).push (dictOf [] 0)).get? b = some o → h₀.get? b = some o :=
    fun b o l e => hsb₀.extBut b o (by simp only [Nat.add_assoc]; exact Nat.ne_of_lt l) (Heap.get?_push_of_some _ e)
  have q1 : ∀ n : Nat, n < n + 1 := fun n => Nat.lt_succ_self n
  have q2 : ∀ n : Nat, n < n + 2 := fun n => by omega
  have q3 : ∀ b n : Nat, b < n → b < n + 2 := fun b n h => by omega
  have q4 : ∀ b n : Nat, b < n → b ≠ n + 1 + 1 := fun b n h => by omega
  have q5 : ∀ b n : Nat, b < n → b ≠ n + 1 := fun b n h => by omega
  have q6 : ∀ n : Nat, n ≤ n + 1 := fun n => by omega
  have q7 : ∀ n : Nat, n ≤ n + 1 + 1 := fun n => by omega
  have q8 : ∀ n : Nat, n ≠ n + 1 + 1 := fun n => by omega
  have q9 : ∀ n : Nat, n + 1 ≠ n + 1 + 1 := fun n => by omega
  have q10 : ∀ n : Nat, n + 1 < n + 2 := fun n => by omega
  refine ks_wpAt_mono (h s.heap.objs.size (s.heap.objs.size + 1) (s.heap.objs.size + 1 + 1) h₀ (Nat.le_refl _) (q1 _) (q1 _) ?_ ?_ ?_) (fun _ _ x => x) (fun _ _ x => x.elim)
  · exact ⟨hns₀, fun b o e => k3 b o (q3 _ _ (Heap.lt_size e)) (k2 b o e), q7 _⟩
  · intro p hp
    simp only [List.mem_cons, List.not_mem_nil, or_false] at hp
    have none : ∀ k, s.heap.objs.size ≤ k → s.heap.get? k = none := fun k hk => by
      cases z : s.heap.get? k with
      | none => rfl
      | some o => exact absurd (Heap.lt_size z) (Nat.not_lt.mpr hk)
    rcases hp with rfl | rfl
    · exact ⟨k3 _ _ (q10 _) hD, q9 _, none _ (q6 _)⟩
    · exact ⟨k3 _ _ (q2 _) hT, q8 _, none _ (Nat.le_refl _)⟩
  · intro b o e
    have l := Heap.lt_size e
    exact ⟨k3 b o (q3 _ _ l) (k2 b o e), q4 _ _ l, Nat.ne_of_lt l, q5 _ _ l⟩
end
end Mine
end
section
open PySem PySem.W PyProof.Rows PySem.Calls
namespace Mine
theorem fillit7 : (∀ (w : World) (s : Shared), (Mine.kd.heap_1 w.params).In s.heap → PySem.Challenge.rw_br0007_01.prog = PySem.Challenge.rw_br0007_01.prog) := by
  k_fill
  intros; rfl
section
variable {prog : Program} {w : World} {A : Around} {s : Shared} {K : Frag} {R : Result → Shared → Prop} {name qual : Str} {params : Arguments} {body : List Stmt} {scope : Scope} {dV kV doc pm cdv ct oc : Value} {an od : Option Addr} {osl : Array (Option Value)} {f cc : Addr} {args : Args}
/-- into a def with self, *args and **kwargs, the last of them captured -/
theorem enterP {vs : List Value} {n1 n2 k : Str} {v1 : Value} {g₁ : Addr → Sem (List (Str × Value))} {g₂ : Addr → Addr → Sem (List (Str × Value))} (X : K.In s.heap) (hlim : s.heap.NoLimit)
    (ho : K.lookup f = some ⟨oc, od, .func (fnX name qual params body scope [("__class__", cc)] dV kV doc pm an cdv ct), osl⟩) (hcd : codeIn K cdv qual = true) (hroom : A.depth < recursionLimit)
    (hp : peekA K ⟨prog, w.params⟩ (bindArgs (fnX name qual params body scope [("__class__", cc)] dV kV doc pm an cdv ct) args) = some (({ cls := .type "tuple", data := .seq vs.toArray } : Obj), g₁))
    (hp₂ : ∀ C, peekA K ⟨prog, w.params⟩ (g₁ C) = some (dictOf [] 0, g₂ C)) (hk₂ : ∀ C D, g₂ C D = pure [(n1, v1), (n2, .ref C), (k, .ref D)])
    (h1 : scope.names.lookup n1 = some .local) (h2 : scope.names.lookup n2 = some .local) (h3 : scope.names.lookup k = some .cell)
    (hce : ∀ m, cellsFrom m scope.names [(("__class__" : Str), cc)] = [(k, m), (("__class__" : Str), cc)]) (hpu : ∀ h : Heap, pushCells h scope.names = h.push { cls := .type "cell", data := .cell none })
    (h : ∀ C D L c h₁ oq, s.heap.objs.size ≤ C → C < D → D < L → L < c → oq.data = .cell (some (.ref D)) → Fr s.heap L h₁ (fun y => if y = n2 then some (.ref C) else if y = n1 then some v1 else none) →
      News s.heap L h₁ [(c, oq), (D, dictOf [] 0), (C, ({ cls := .type "tuple", data := .seq vs.toArray } : Obj))] →
      _root_.PySem.wpAt (model prog w) (A.deeper (envX qual scope L f cdv [(k, c), (("__class__" : Str), cc)])) (.func body (envX qual scope L f cdv [(k, c), (("__class__" : Str), cc)])) (execs body (envX qual scope L f cdv [(k, c), (("__class__" : Str), cc)]))
        (fun fl s' => R (.ok (.ret (match fl with | .ret v => v | _ => .none))) s')
        (fun _ _ => False)
        { s with heap := h₁, toks := s.toks + 2 })
    (hco : scope.isCoroutine = false) (hgen : scope.isGenerator = false) (hk : scope.kind = .function) : codeAny (model prog w) A (.call (.ref f) args) R s := by
  refine codeAny_call_function (fd := fnX name qual params body scope [("__class__", cc)] dV kV doc pm an cdv ct) (body := body) hroom (X _ _ ho) rfl hco hgen rfl (codeRec_of X hcd) ?_
  refine wp_peekA0 X _ _ hp ?_
  have X1 : K.In (s.heap.push ({ cls := .type "tuple", data := .seq vs.toArray } : Obj)) := X.keeps fun b x hb => Heap.get?_push_of_some _ hb
  refine wp_peekA0 (s := { s with heap := s.heap.push ({ cls := .type "tuple", data := .seq vs.toArray } : Obj) }) X1 _ _ (hp₂ _) ?_
  rw [hk₂]
  refine wpAny_pure ?_
  have k2 : ∀ b o, s.heap.get? b = some o → ((s.heap.push ({ cls := .type "tuple", data := .seq vs.toArray } : Obj)).push (dictOf [] 0)).get? b = some o := fun b o e => Heap.get?_push_of_some _ (Heap.get?_push_of_some _ e)
  have hT : ((s.heap.push ({ cls := .type "tuple", data := .seq vs.toArray } : Obj)).push (dictOf [] 0)).get? s.heap.objs.size = some ({ cls := .type "tuple", data := .seq vs.toArray } : Obj) := Heap.get?_push_of_some _ (Heap.get?_push_at rfl rfl)
  have hD : ((s.heap.push ({ cls := .type "tuple", data := .seq vs.toArray } : Obj)).push (dictOf [] 0)).get? (s.heap.objs.size + 1) = some (dictOf [] 0) := Heap.get?_push_at (by rw [Heap.size_push]) rfl
  simp only [Heap.size_push]
  generalize hH : ((s.heap.push ({ cls := .type "tuple", data := .seq vs.toArray } : Obj)).push (dictOf [] 0)) = H at k2 hT hD
  have hHs : H.objs.size = s.heap.objs.size + 2 := by rw [← hH]; simp only [Heap.size_push]
  have hlimH : H.NoLimit := hlim.keeps k2
  simp only [newFunctionEnv, Option.isSome_none, Bool.false_eq_true, if_false]
  refine wpAny_bind (wpAny_alloc ?_)
  refine wpAny_bind (wpAny_layCells _ (fun name kind cells => by cases hkc : kind == NameKind.cell <;> simp [hkc]) _ _ _ _ ?_)
  rw [hce, hpu]
  simp only [Heap.size_push]
  generalize hH3 : (H.push ({ cls := .type "frame", data := .dict #[] } : Obj)).push ({ cls := .type "cell", data := .cell none } : Obj) = H3
  have k3 : ∀ b o, H.get? b = some o → H3.get? b = some o := fun b o e => by rw [← hH3]; exact Heap.get?_push_of_some _ (Heap.get?_push_of_some _ e)
  have hns3 : H3.Ns H.objs.size (fun _ => none) := by
    rw [← hH3]
    exact (Heap.Ns.new H (.type "frame")).keeps fun b o e => Heap.get?_push_of_some _ e
  have hc3 : H3.IsCell (H.objs.size + 1) none := ⟨{ cls := .type "cell", data := .cell none }, by rw [← hH3]; exact Heap.get?_push_at (by rw [Heap.size_push]) rfl, rfl⟩
  rw [List.forIn_cons]
  have hLC : H.objs.size ≠ H.objs.size + 1 := Nat.ne_of_lt (Nat.lt_succ_self _)
  refine wpAny_bind (wpAny_bind (wpAny_bind (wpAny_storeName_local h1 hns3 (fun h4 hns4 hs4 => ?_) (by show (scope.kind == .class || (scope.kind == .module && _)) = false; rw [hk]; rfl))))
  refine wpAny_pure ?_
  dsimp only
  rw [List.forIn_cons]
  refine wpAny_bind (wpAny_bind (wpAny_storeName_local h2 hns4 (fun h5 hns5 hs5 => ?_) (by show (scope.kind == .class || (scope.kind == .module && _)) = false; rw [hk]; rfl)))
  refine wpAny_pure ?_
  dsimp only
  rw [List.forIn_cons]
  have hc5 : h5.IsCell (H.objs.size + 1) none := (hc3.sameBut hs4 (Ne.symm hLC)).sameBut hs5 (Ne.symm hLC)
  refine wpAny_bind (wpAny_bind (wpAny_storeName_cell hk h3 (by simp) hc5 (fun h6 hc6 hs6 => ?_)))
  refine wpAny_pure ?_
  dsimp only
  rw [List.forIn_nil]
  refine wpAny_pure (wpAny_pure ?_)
  obtain ⟨oq, hoq, hoqd⟩ := hc6
  have k6 : ∀ b o, H.get? b = some o → h6.get? b = some o := fun b o e => by
    have l := Heap.lt_size e
    have n1 : b ≠ H.objs.size := Nat.ne_of_lt l
    have n2 : b ≠ H.objs.size + 1 := Nat.ne_of_lt (Nat.lt_succ_of_lt l)
    exact hs6.extBut b o n2 (hs5.extBut b o n1 (hs4.extBut b o n1 (k3 b o e)))
  refine ⟨hlimH.keeps k6, ks_codeAny_funcAt ?_⟩
  have q1 : ∀ n : Nat, n < n + 1 := fun n => Nat.lt_succ_self n
  have q6 : ∀ n : Nat, n ≤ n + 1 := fun n => Nat.le_succ n
  have q3 : ∀ a b : Nat, a < b → a ≠ b := fun a b h => Nat.ne_of_lt h
  have q2 : ∀ n : Nat, n ≤ n + 2 := fun n => by omega
  have q4 : ∀ n : Nat, n + 1 < n + 2 := fun n => by omega
  have none : ∀ b, s.heap.objs.size ≤ b → s.heap.get? b = none := fun b hb => by
    cases z : s.heap.get? b with
    | none => rfl
    | some o => exact absurd (Heap.lt_size z) (Nat.not_lt.mpr hb)
  refine ks_wpAt_mono (h s.heap.objs.size (s.heap.objs.size + 1) H.objs.size (H.objs.size + 1) h6 oq (Nat.le_refl _) (q1 _) (by rw [hHs]; exact q4 _) (q1 _) hoqd ?_ ?_) (fun _ _ x => x) (fun _ _ x => x.elim)
  · exact ⟨hns5.sameBut hs6 hLC, fun b o e => k6 b o (k2 b o e), by rw [hHs]; exact q2 _⟩
  · intro p hp
    simp only [List.mem_cons, List.not_mem_nil, or_false] at hp
    rcases hp with rfl | rfl | rfl
    · exact ⟨hoq, Ne.symm hLC, none _ (by rw [hHs]; exact Nat.le_trans (q2 _) (q6 _))⟩
    · exact ⟨k6 _ _ hD, by rw [hHs]; exact q3 _ _ (q4 _), none _ (q6 _)⟩
    · exact ⟨k6 _ _ hT, by rw [hHs]; exact q3 _ _ (Nat.lt_of_lt_of_le (q1 _) (Nat.le_of_lt (q4 _))), none _ (Nat.le_refl _)⟩
end
section
variable {prog : Program} {w : World} {A : Around} {E : Value → Shared → Prop} {s : Shared} {h₀ : Heap} {L : Addr} {m : Str → Option Value} {news : List (Addr × Obj)} {env : Env}
theorem dict0 {n : Nat} : (dictOf [] n).IsDictOf (strKind prog w) [] := by
  have h := Heap.DictOf.new (knd := strKind prog w) ({} : Heap)
  obtain ⟨o, es, ep, ho, h1, h2, h3, h4, h5⟩ := h
  rw [Heap.get?_push_at rfl rfl] at ho
  cases ho
  cases h2
  exact ⟨_, _, h1, rfl, h3, h4, h5⟩
/-- a name bound to a dict comprehension over an empty list -/
theorem asg_dict0 {kx vx iter : PySem.Expr} {x y : Str} {px py : Pos} {ifs : List PySem.Expr} {scope : Scope} {cl : List (Str × Addr)} {pos spos : Pos} {Q : Flow → Shared → Prop} (_F : Fr h₀ L s.heap m) (_N : News h₀ L s.heap news)
    (hsw : swapsWith (.DictComp kx vx [⟨.Name x px, iter, ifs, 0⟩] scope pos) (some (.Name y py)) spos.line env = pure true) (hL : env.locals = L)
    (hh : A.handled = none) (hclos : closureFor scope env = pure cl) (hcell : ∀ z ∈ scope.names, z.2 ≠ .cell) (hkind : scope.kind = .function)
    (hnames : ∀ z ∈ scope.names, z.2 = .local → scope.names.lookup z.1 = some .local) (hx : scope.names.lookup x = some .local)
    (hy : env.kindOf y = some .local) (hp : (env.scope.kind == .class || (env.scope.kind == .module && env.locals != env.globals)) = false)
    (h : wpAny (model prog w) A (eval iter env) (fun xv s₁ => ∃ ax, xv = .ref ax ∧ s₁.heap.IsList ax #[] ∧ Fr h₀ L s₁.heap m ∧ News h₀ L s₁.heap news ∧
       (∀ D o h' tk, Fr h₀ L h' (fun z => if z = y then some (.ref D) else m z) → News h₀ L h' ((D, o) :: news) → o.IsDictOf (strKind prog w) [] → Q .next { s₁ with heap := h', toks := tk })) E s)
    (hs : ∀ x, foldedSetIterable iter env x = pure x) :
    wpAny (model prog w) A (exec (.Assign [.Name y py] (.DictComp kx vx [⟨.Name x px, iter, ifs, 0⟩] scope pos) spos) env) Q E s := by
  subst hL
  rw [exec_Assign_Name_used _ _ _ _ hsw]
  refine wpAny_bind (wpAny_standAt (wpAny_bind ?_))
  show wpAny _ A (do let _ ← comprehension (.DictComp kx vx [⟨.Name x px, iter, ifs, 0⟩] scope pos) scope env _ newDict false (eval iter env) (some (assign (.Name y py) env))) _ _ s
  refine wpAny_bind (wpAny_mono (wpAny_comprehension_free (use := some (assign (.Name y py) env)) (Q := fun _ s' => Q .next s') rfl hs hclos hkind hnames
    (wpAny_mono h (fun xv s₁ h₁ => ?_) fun _ _ e => e)) (fun _ s' hq => wpAny_pure (wpAny_pure hq)) fun _ _ e => e)
  obtain ⟨ax, rfl, hl, F, N, hQ⟩ := h₁
  have hlt : ax < s₁.heap.objs.size := by obtain ⟨_, e, _⟩ := hl; exact Heap.lt_size e
  have up : ∀ (s₃ : Shared), (∀ b o, b ∉ [s₁.heap.objs.size] → (s₁.heap.push { cls := .type "list_iterator", data := .fields #[.ref ax, .int 0 0] }).get? b = some o → s₃.heap.get? b = some o) → ∀ b o, s₁.heap.get? b = some o → s₃.heap.get? b = some o :=
    fun s₃ hk b o e => hk b o (fun hm => by rcases List.mem_cons.mp hm with rfl | hm; exact Nat.lt_irrefl _ (Heap.lt_size e); cases hm) (Heap.get?_push_of_some _ e)
  refine wpAny_pyIter_list hl ?_
  refine comp_block_walkCD (knd := strKind prog w) (RR := fun acc C => compPost (model prog w) A E (some (assign (.Name y py) env)) (fun _ s' => Q .next s') acc C) (Walks.list hh _ _ (Nat.ne_of_lt hlt) #[]) (by decide) (fun _ => true)
    (fun _ _ => False) (fun _ _ => False) hcell hkind hx ⟨⟨_, Heap.get?_push_size _ rfl, rfl, rfl⟩, hl.push _⟩ ?_ ⟨?_, ?_, ?_⟩ ?_
  · intro b hb
    show b < (s₁.heap.push _).objs.size
    rw [Heap.size_push]
    rcases List.mem_cons.mp hb with rfl | hb
    · exact Nat.lt_succ_self _
    · rcases List.mem_cons.mp hb with rfl | hb
      · exact Nat.lt_succ_of_lt hlt
      · cases hb
  · intro C i v s₃ m₃ E' hP; exact nomatch hP
  · intro C i v s₃ m₃ E' hP; exact nomatch hP
  · intro C i v s₃ m₃ E' hP; exact nomatch hP
  · intro D C h' tk m' kvs vs' hD hC hDC hnC hlD hlen hP hF hk
    have hvs : vs' = [] := List.eq_nil_of_length_eq_zero hlen
    subst hvs
    have hkv : kvs = [] := List.eq_nil_of_length_eq_zero (Nat.le_zero.mp hF.length_le)
    subst hkv
    have hn : (s₁.heap.push { cls := .type "list_iterator", data := .fields #[.ref ax, .int 0 0] }).Ns env.locals m := F.ns.push _
    have hLf : env.locals ∉ [s₁.heap.objs.size] := fun hm => by
      rcases List.mem_cons.mp hm with e | hm
      · exact Nat.lt_irrefl _ (e ▸ F.ns.lt)
      · cases hm
    have hLC : env.locals ≠ C := by rintro rfl; obtain ⟨o, _, _, ho, _⟩ := hn; rw [hC] at ho; cases ho
    have hLD : env.locals ≠ D := by rintro rfl; obtain ⟨o, _, _, ho, _⟩ := hn; rw [hD] at ho; cases ho
    show wpAny _ A (assign (.Name y py) env (.ref D)) _ _ _
    refine wpAny_assign_Name (wpAny_storeName_local hy (hn.at' fun o e => hk _ o hLf e) (fun h₂ hn₂ hs₂ => ?_) hp)
    refine ⟨m', hnC.sameBut hs₂ (Ne.symm hLC), fun h₃ hs₃ => ?_⟩
    have keep : ∀ b o, b ≠ env.locals → s₁.heap.get? b = some o → h₃.get? b = some o := fun b o hb e =>
      hs₃.extBut b o (by rintro rfl; rw [Heap.get?_push_of_some _ e] at hC; cases hC) (hs₂.extBut b o hb (up { s₁ with heap := h' } hk b o e))
    obtain ⟨o, ho, hd⟩ := Heap.dictOf_iff.mp ((hlD.extBut hs₂.extBut (Ne.symm hLD)).extBut hs₃.extBut hDC)
    refine hQ D o h₃ _ ⟨hn₂.sameBut hs₃ hLC, fun b o e => keep b o (Nat.ne_of_lt (Nat.lt_of_lt_of_le (Heap.lt_size e) F.above)) (F.keep b o e), F.above⟩
      (fun p hp => ?_) hd
    rcases List.mem_cons.mp hp with rfl | hp
    · refine ⟨ho, Ne.symm hLD, ?_⟩
      cases e : h₀.get? D with
      | none => rfl
      | some o' => rw [Heap.get?_push_of_some _ (F.keep _ _ e)] at hD; cases hD
    · exact ⟨keep _ _ (N p hp).2.1 (N p hp).1, (N p hp).2⟩
end
set_option maxRecDepth 100000 in
theorem big {w : World} {h : Heap} (X : (Mine.kd.heap_1 w.params).In h) : 544 < h.objs.size := by
  have e : ((Mine.kd.heap_1 w.params).lookup 544).isSome = true := by rfl
  obtain ⟨o, ho⟩ := Option.isSome_iff_exists.mp e
  exact Heap.lt_size (X _ _ ho)
theorem notMod {w : World} {h : Heap} {D : Addr} (X : (Mine.kd.heap_1 w.params).In h) (e : h.objs.size ≤ D) : (D == sysModules) = false := by
  have b := big X
  have n : D ≠ sysModules := Nat.ne_of_gt (Nat.lt_of_lt_of_le (show sysModules < 545 by decide) (Nat.le_trans b e))
  simpa using n
end Mine
end
section
open PySem PySem.W PyProof.Rows PySem.Calls PySem.W.X
namespace Mine
theorem fillit8 : (∀ (w : World) (s : Shared), (Mine.kd.heap_1 w.params).In s.heap → PySem.Challenge.rw_br0007_01.prog = PySem.Challenge.rw_br0007_01.prog) := by
  k_fill
  intros; rfl
theorem fillit9x : (∀ (w : World) (s : Shared), (Mine.kd.heap_1 w.params).In s.heap → PySem.Challenge.rw_br0007_01.prog = PySem.Challenge.rw_br0007_01.prog) := by
  k_fill
  intros; rfl
theorem memKeep {h h' : Heap} {news : List (Addr × Obj)} (D : Mem h h' [] news) (hc : ∀ b o, h.get? b = some o → True) : ∀ b o, h.get? b = some o → h'.get? b = some o := fun b o e => D.keep b o e (by
  show (hasCls o || away [] b) = true
  unfold away
  simp)
abbrev parO (dx : Addr) : Obj := ⟨.ref 303, some dx, .dict #[] 0, #[]⟩
abbrev edO : Obj := ⟨.type "dict", none, .dict #[] 0, #[]⟩
/-- what a call gives back: a value, a state in which all stands that stood -/
def Gave (s : Shared) (P : Value → Heap → Prop) (v : Value) (s' : Shared) : Prop := ∃ h' tk, s' = { s with heap := h', toks := tk } ∧ P v h' ∧ ∀ b o, s.heap.get? b = some o → h'.get? b = some o
abbrev Nev : Value → Shared → Prop := fun _ _ => False
section
set_option maxRecDepth 100000
set_option maxHeartbeats 8000000
local macro_rules | `(tactic| x_close) => `(tactic| (refine ⟨_, _, rfl, ⟨_, rfl, Mem.at (by assumption) 0 _ _ rfl⟩, memKeep (by assumption) fun _ _ _ => trivial⟩))
theorem gaX {w : World} {s : Shared} {x dx : Addr} {t : Nat} (KX : (Mine.kd.heap_1 w.params).In s.heap) (hx : s.heap.get? x = some ⟨.ref 303, some dx, .dict #[] 0, #[]⟩)
   (hdx : s.heap.get? dx = some ⟨.type "dict", none, .dict #[] 0, #[]⟩) :
   wpAny (model prog0 w) AA (call (.builtin "dict.__getattribute__") [.ref x, .str (Str.ofString "update") t])
    (Gave s fun v h' => ∃ a, v = .ref a ∧ h'.get? a = some ⟨.type "method", none, .fields #[.ref 143, .ref x], #[]⟩) Nev s := by
  x_run
theorem wGetX {w : World} {s : Shared} {x dx : Addr} (KX : (Mine.kd.heap_1 w.params).In s.heap) (hx : s.heap.get? x = some ⟨.ref 303, some dx, .dict #[] 0, #[]⟩) :
   wpAny (model prog0 w) AA (call (.builtin "wrapper_descriptor.__get__") [.builtin "dict.__init__", .ref x, .ref 303])
    (Gave s fun v h' => ∃ a, v = .ref a ∧ h'.get? a = some ⟨.type "method-wrapper", none, .fields #[.builtin "dict.__init__", .ref x], #[]⟩) Nev s := by
  x_run
end
section
set_option maxRecDepth 100000
set_option maxHeartbeats 8000000
local macro_rules | `(tactic| x_close) => `(tactic| (refine ⟨_, _, rfl, ⟨_, _, rfl, Mem.at (by assumption) 0 _ _ rfl, Mem.at (by assumption) 1 _ _ rfl, Mem.ne (by assumption) 0 1 _ _ _ _ rfl rfl rfl, (Mem.nw (by assumption) _ (.head _)).2⟩, memKeep (by assumption) fun _ _ _ => trivial⟩))
theorem newX {w : World} {s : Shared} (KX : (Mine.kd.heap_1 w.params).In s.heap) :
   wpAny (model prog0 w) AA (call (.builtin "dict.__new__") [.ref 303, .none])
    (Gave s fun v h' => ∃ x dx, v = .ref x ∧ h'.get? x = some (parO dx) ∧ h'.get? dx = some edO ∧ x ≠ dx ∧ s.heap.get? x = none) Nev s := by
  x_run
end
section
set_option maxRecDepth 100000
set_option maxHeartbeats 8000000
local macro_rules | `(tactic| x_close) => `(tactic| (first | exact ⟨_, _, rfl, rfl, memKeep (by assumption) fun _ _ _ => trivial⟩ | exact ⟨_, _, rfl, rfl, fun _ _ e => e⟩))
theorem mwCallX {w : World} {s : Shared} {x dx mw : Addr} (KX : (Mine.kd.heap_1 w.params).In s.heap) (hx : s.heap.get? x = some ⟨.ref 303, some dx, .dict #[] 0, #[]⟩)
   (hm : s.heap.get? mw = some ⟨.type "method-wrapper", none, .fields #[.builtin "dict.__init__", .ref x], #[]⟩) (hdx : s.heap.get? dx = some ⟨.type "dict", none, .dict #[] 0, #[]⟩) :
   wpAny (model prog0 w) AA (call (.ref mw) []) (Gave s fun v _ => v = .none) Nev s := by
  x_run
theorem updX {w : World} {s : Shared} {x bm : Addr} (KX : (Mine.hq w.params).In s.heap) (hm : s.heap.get? bm = some ⟨.type "method", none, .fields #[.ref 143, .ref x], #[]⟩) :
   wpAny (model prog0 w) AA (call (.ref bm) []) (Gave s fun v _ => v = .none) Nev s := by
  x_run
end
theorem hlk_wd : typeLookup (.type "wrapper_descriptor") "__get__" = pure (some (.builtin "wrapper_descriptor.__get__")) := by rw [typeLookup_type, builtinLookup_eq_fast]; kernel_rfl
section
set_option maxRecDepth 100000
variable {w : World} {A : Around} {E : Value → Shared → Prop} {h : Heap} {g : Array GenState} {d : Drawn} {t : Nat} {os : OsState}
theorem sup_ga_b {so D x C : Addr} {i : String} {l₀ l : List Value} {K : Frag} {name : Str} {tk : Tok} {Q : Fin → Shared → Prop} {P : Value → Heap → Prop}
    (hso : h.get? so = some { cls := .type "super", dict := none, data := .fields #[.ref D, .ref x, .ref C], slots := #[] }) (hno : Looks (model prog0 w) h (opaqueClassAbove (.ref C)) none)
    (hC : Looks (model prog0 w) h (mroOf (.ref C)) l₀) (hl : (l₀.dropWhile (· != .ref D)).drop 1 = l) (X : K.In h)
    (hf : alongIn K name l = some (some (.builtin i))) (hty : typeOf (.builtin i) = pure (.type "wrapper_descriptor")) (hxC : x ≠ C) (hn : (name == ("__class__" : Str)) = false)
    (hcall : wpAny (model prog0 w) A (call (.builtin "wrapper_descriptor.__get__") [.builtin i, .ref x, .ref C]) (Gave ⟨h, g, d, t, os⟩ P) Nev ⟨h, g, d, t, os⟩)
    (hq : ∀ v h' tk, P v h' → (∀ b o, h.get? b = some o → h'.get? b = some o) → Q (.done (.ret v)) ⟨h', g, d, tk, os⟩) :
    wpAny (model prog0 w) A (Builtin.«super.__getattribute__» ⟨[.ref so, .str name tk], []⟩) Q E ⟨h, g, d, t, os⟩ := by
  have hlk := hlk_wd
  have hne : (Value.ref x == Value.ref C) = false := by simp [hxC]
  have hdt : ({ cls := .type "super", dict := none, data := .fields #[.ref D, .ref x, .ref C], slots := #[] } : Obj).data = .fields #[.ref D, .ref x, .ref C] := rfl
  have f0 : (#[.ref D, .ref x, .ref C] : Array Value)[0]? = some (.ref D) := rfl
  have f1 : (#[.ref D, .ref x, .ref C] : Array Value)[1]? = some (.ref x) := rfl
  have f2 : (#[.ref D, .ref x, .ref C] : Array Value)[2]? = some (.ref C) := rfl
  have fin : ∀ {Q' : Value → Shared → Prop} {E' : Value → Shared → Prop}, (∀ v h' tk, P v h' → (∀ b o, h.get? b = some o → h'.get? b = some o) → Q' v ⟨h', g, d, tk, os⟩) →
      wpAny (model prog0 w) A (call (.builtin "wrapper_descriptor.__get__") [.builtin i, .ref x, .ref C]) Q' E' ⟨h, g, d, t, os⟩ := fun hq' =>
    wpAny_mono hcall (fun v s' hv => by obtain ⟨h', tk, rfl, hp, hk⟩ := hv; exact hq' v h' tk hp hk) fun _ _ z => z.elim
  unfold Builtin.«super.__getattribute__»
  repeat (first
    | (with_reducible refine wpAny_field hso hdt f0 ?_) | (with_reducible refine wpAny_field hso hdt f1 ?_) | (with_reducible refine wpAny_field hso hdt f2 ?_)
    | (with_reducible refine ks_wpAny_notOpaque hno ?_)
    | (with_reducible refine Looks.at hC ?_; rw [hl])
    | (refine ks_forIn_along X (fun _ _ => rfl) rfl ?_ hf)
    | (with_reducible refine wpAny_of_eq hty ?_)
    | (with_reducible refine wpAny_of_eq hlk ?_)
    | (with_reducible refine fin ?_; intro v h' tk hp hk)
    | (simp only [hn, hne, Bool.or_false, Bool.false_eq_true, if_false])
    | wp_step
    | dsimp only)
  all_goals exact hq _ _ _ hp hk
theorem sup_gm_b {so D x C : Addr} {i : String} {l₀ l : List Value} {K : Frag} {name : Str} {pl : Sem Bool} {Q : Value × List Value → Shared → Prop} {P' : Addr → Heap → Prop}
    (hso : h.get? so = some { cls := .type "super", dict := none, data := .fields #[.ref D, .ref x, .ref C], slots := #[] }) (hno : Looks (model prog0 w) h (opaqueClassAbove (.ref C)) none)
    (hC : Looks (model prog0 w) h (mroOf (.ref C)) l₀) (hl : (l₀.dropWhile (· != .ref D)).drop 1 = l) (X : K.In h)
    (hf : alongIn K name l = some (some (.builtin i))) (hty : typeOf (.builtin i) = pure (.type "wrapper_descriptor")) (hxC : x ≠ C) (hn : (name == ("__class__" : Str)) = false)
    (hcall : ∀ t, wpAny (model prog0 w) A.in1 (call (.builtin "wrapper_descriptor.__get__") [.builtin i, .ref x, .ref C]) (Gave ⟨h, g, d, t, os⟩ fun v h' => ∃ a, v = .ref a ∧ P' a h') Nev ⟨h, g, d, t, os⟩)
    (hq : ∀ a h' tk, P' a h' → (∀ b o, h.get? b = some o → h'.get? b = some o) → Q (.ref a, []) ⟨h', g, d, tk, os⟩) :
    wpAny (model prog0 w) A (getMethod (.ref so) name pl) Q E ⟨h, g, d, t, os⟩ := by
  have hlk := F.ks_slot_super_ga.lookup
  have hcan := F.ks_canon_super_ga
  have hT : ∀ t', (⟨h, g, d, t', os⟩ : Shared).TypeIs (.ref so) "super" := fun _ => ⟨_, hso, rfl⟩
  unfold getMethod
  refine wpAny_bind (wpAny_specialOf (hT _) hlk ?_)
  show wpAny _ _ (if (Manifest.canonical "super.__getattribute__" != "object.__getattribute__") = true then _ else _) _ _ _
  rw [if_pos hcan]
  unfold getAttr getAttrBy
  refine wpAny_bind (wpAny_bind (wpAny_mkText (wpAny_holding (wpAny_bind (wpAny_typeOf (hT _) (wpAny_bind (wpAny_of_eq hlk ?_)))))))
  show wpAny _ _ (getAttrByItsOwn (.ref so) (.str name t) (.type "super") (.builtin "super.__getattribute__") true false) _ _ _
  unfold getAttrByItsOwn hookBefore callGetattribute boundAndCalled
  refine wpAny_bind (wpAny_of_eq (show (if onTheHeap (.type "super") then typeLookup (.type "super") "__getattr__" else pure none) = pure none from rfl) ?_)
  refine wpAny_bind (wpAny_attempt (wpAny_holding ?_))
  show wpAny _ _ (bindSpecial (.builtin "super.__getattribute__") (.ref so) >>= _) _ _ _
  refine wpAny_bind (wpAny_of_eq (F.ks_slot_super_ga.bind _) ?_)
  refine wpAny_mono (Q := fun v s' => ∃ h' tk, s' = ⟨h', g, d, tk, os⟩ ∧ (∃ a, v = .ref a ∧ P' a h') ∧ ∀ b o, h.get? b = some o → h'.get? b = some o) (E := fun _ _ => False)
    (wpAny_call_entry F.ks_slot_super_ga (hT _) F.ks_entry_super_ga (sup_ga_b hso hno hC hl X hf hty hxC hn (hcall _) (fun v h' tk hp hk => ⟨_, rfl, h', tk, rfl, hp, hk⟩)) (F.ks_gaArgs_super _ _)) (fun v s' hv => ?_) fun _ _ z => z.elim
  obtain ⟨h', tk, rfl, ⟨a, rfl, hp⟩, hk⟩ := hv
  exact wpAny_pure (wpAny_pure (hq _ _ _ hp hk))
theorem sup_gat_f {so D x C f : Addr} {of : Obj} {l₀ l : List Value} {K : Frag} {name : Str} {Q : Value → Shared → Prop}
    (hso : h.get? so = some { cls := .type "super", dict := none, data := .fields #[.ref D, .ref x, .ref C], slots := #[] }) (hno : Looks (model prog0 w) h (opaqueClassAbove (.ref C)) none)
    (hC : Looks (model prog0 w) h (mroOf (.ref C)) l₀) (hl : (l₀.dropWhile (· != .ref D)).drop 1 = l) (X : K.In h)
    (hf : alongIn K name l = some (some (.ref f))) (hfo : h.get? f = some of) (hfc : of.cls = .type "function") (hxC : x ≠ C) (hn : (name == ("__class__" : Str)) = false)
    (hq : Q (.ref h.objs.size) ⟨h.push { cls := .type "method", data := .fields #[.ref f, .ref x] }, g, d, t + 1, os⟩) :
    wpAny (model prog0 w) A (getAttr (.ref so) name true) Q E ⟨h, g, d, t, os⟩ := by
  have hlk := F.ks_slot_super_ga.lookup
  have hT : ∀ t', (⟨h, g, d, t', os⟩ : Shared).TypeIs (.ref so) "super" := fun _ => ⟨_, hso, rfl⟩
  unfold getAttr getAttrBy
  refine wpAny_bind (wpAny_mkText (wpAny_holding (wpAny_bind (wpAny_typeOf (hT _) (wpAny_bind (wpAny_of_eq hlk ?_))))))
  show wpAny _ _ (getAttrByItsOwn (.ref so) (.str name t) (.type "super") (.builtin "super.__getattribute__") true true) _ _ _
  unfold getAttrByItsOwn hookBefore callGetattribute boundAndCalled
  refine wpAny_bind (wpAny_of_eq (show (if onTheHeap (.type "super") then typeLookup (.type "super") "__getattr__" else pure none) = pure none from rfl) ?_)
  refine wpAny_bind (wpAny_attempt (wpAny_holding ?_))
  show wpAny _ _ (bindSpecial (.builtin "super.__getattribute__") (.ref so) >>= _) _ _ _
  refine wpAny_bind (wpAny_of_eq (F.ks_slot_super_ga.bind _) ?_)
  refine wpAny_mono (Q := fun v s' => v = .ref h.objs.size ∧ s' = ⟨h.push { cls := .type "method", data := .fields #[.ref f, .ref x] }, g, d, t + 1, os⟩) (E := fun _ _ => False)
    (wpAny_call_entry F.ks_slot_super_ga (hT _) F.ks_entry_super_ga (ks_wpAny_super_ga hso hno hC hl X hf hfo hfc hxC hn ⟨_, rfl, rfl, rfl⟩) (F.ks_gaArgs_super _ _)) (fun v s' hv => ?_) fun _ _ z => z.elim
  obtain ⟨rfl, rfl⟩ := hv
  exact wpAny_pure hq
end
end Mine
end
section
open PySem PySem.W PyProof.Rows PySem.Calls
namespace Mine
theorem fillit10 : (∀ (w : World) (s : Shared), (Mine.kd.heap_1 w.params).In s.heap → PySem.Challenge.rw_br0007_01.prog = PySem.Challenge.rw_br0007_01.prog) := by
  k_fill
  intros; rfl
section
set_option maxRecDepth 100000
variable {prog : Program} {w : World} {A : Around} {E : Value → Shared → Prop} {s : Shared} {h₀ : Heap} {L : Addr} {m mg mb : Str → Option Value} {news : List (Addr × Obj)} {K : Frag} {p : Program} {loose : List Str} {x C D f cc cda : Addr} {ox : Obj} {odx : Option Obj}
theorem nodeR {body : List Stmt} {q : Str} {scope : Scope} {p0 p1 : Pos} {attr : Str} {whole : Sem Value} {fd : FuncData} {ar : Arg} {vs : Array Value} {file : Str} {tf : Tok} {oc ccl cl : Value} {od cdd cld : Option Addr} {osl ccs csl : Array (Option Value)} {cdD : ClassData} {Q : Value → Shared → Prop} {cls : List (Str × Addr)}
    (F : Fr h₀ L s.heap m) (X₀ : K.In h₀) (N : News h₀ L s.heap news) (T : TopRead p loose mg mb h₀)
    (hf : K.lookup f = some ⟨oc, od, .func fd, osl⟩) (hp : (fd.params.posonlyargs ++ fd.params.args).head? = some ar) (hv : m ar.arg = some (.ref x)) (I : InstAt s.heap x ox C odx)
    (hcode : K.lookup cda = some ⟨ccl, cdd, .fields vs, ccs⟩) (hvs : vs[2]? = some (.str file tf)) (hfile : ((prog.main.file : Str) == file) = true)
    (hcl : cls.lookup ("__class__" : Str) = some cc) (hcell : K.lookup cc = some ⟨cl, cld, .cell (some (.ref D)), csl⟩) (hD : clsIn K D = some cdD) (hsub : mroIn K C (.ref D) = some true) (hsuper : nsIn K mainGlobals "super" = some none)
    (hat : (attr == ("__class__" : Str)) = false) (hks : scope.names.lookup ("super" : Str) = some .globalImplicit) (hkc : scope.names.lookup ("__class__" : Str) = some .free) (hka : scope.names.lookup ar.arg = some .local) (hk : scope.kind = .function)
    (htop : (prog.main.scope.names.lookup ("super" : Str)).isSome = false) (hboot : bootBuiltins "super" = some (.type "super"))
    (h : ∀ so h', Fr h₀ L h' m → News h₀ L h' ((so, ks_superObj D x C) :: news) → (∀ b o, s.heap.get? b = some o → h'.get? b = some o) → Q (.ref so) { s with heap := h' }) :
    _root_.PySem.wpAt (model prog w) A (.func body (envX q scope L f (.ref cda) cls)) (attributeBase (.Call (.Name "super" p0) [] [] p1) attr (envX q scope L f (.ref cda) cls) whole) Q E s := by
  have X : K.In s.heap := X₀.keeps F.keep
  obtain ⟨hh, g, d, t, os⟩ := s
  obtain ⟨oD, hD1, hD2⟩ : ∃ oD, hh.get? D = some oD ∧ oD.data = .cls cdD := by
    unfold clsIn at hD
    split at hD
    · rename_i c d cd' sl ho
      cases hD
      exact ⟨_, X _ _ ho, rfl⟩
    · cases hD
  refine ks_wpAt_super_base (env := envX q scope L f (.ref cda) cls) hks hkc hat rfl (X _ _ hf) rfl hp rfl (X _ _ hcode) rfl hvs hfile htop ?_
  refine ks_loadName_global hk hks (loadGlobal_builtin (env := envX q scope L f (.ref cda) cls) (T.g.keeps F.keep) (mg_none_of X₀ T.g hsuper) (T.b.keeps F.keep) ((T.builtins _ (by decide +kernel)).trans hboot) ⟨rfl, ?_⟩)
  refine wpAny_loadName_free hk hkc hcl ⟨_, X _ _ hcell, rfl⟩ ?_
  refine wpAny_loadName_local hk hka F.ns hv ?_
  refine ks_wpAny_isType_cls hD1 hD2 ⟨rfl, ?_⟩
  refine ks_wpAny_call_super hD1 hD2 I.at_ I.cls (fun c e => ?_) (looks_mroIn X hsub) (fun h' e k => ?_)
  · have := I.no
    unfold notCls at this
    rw [e] at this
    exact Bool.noConfusion this
  · obtain ⟨F', N', l'⟩ := ks_newsPush (s := ⟨hh, g, d, t, os⟩) F N rfl e k
    exact h _ _ F' N' k
end
abbrev parI (h : Heap) (x dx : Addr) : Prop := InstAt h x (parO dx) 303 (some (dictOf [] 0))
theorem parI.keeps {h h' : Heap} {x dx : Addr} (I : parI h x dx) (k : ∀ b o, h.get? b = some o → h'.get? b = some o) : parI h' x dx := ⟨k _ _ I.at_, I.cls, I.no, k _ _ I.dict⟩
section
variable {M : Model} {A : Around} {E : Value → Shared → Prop} {s : Shared}
theorem cw_tail {t : Sem Value} {Q : Value → Shared → Prop} (ht : wpAny M A t Q E s) : wpAny M A (t >>= fun r => holding [r] point >>= fun _ => pure r) Q E s :=
  wpAny_bind (wpAny_mono ht (fun r s₂ hr => wpAny_bind (wpAny_holding (wpAny_point (wpAny_pure hr)))) fun _ _ x => x)
theorem cw_mw {mw : Addr} {vs : Array Value} {pos : Pos} {env : Env} {Q : Value → Shared → Prop} (hm : s.heap.get? mw = some ⟨.type "method-wrapper", none, .fields vs, #[]⟩)
   (h : wpAny M A (call (.ref mw) []) Q E s) : wpAny M A (callWith pos (.ref mw) [] (backTo pos (starEach [] env)) []) Q E s := by
  unfold callWith
  refine wpAny_bind (wpAny_holding ?_)
  show wpAny M A (evalArgs (.ref mw) true [] []) _ _ _
  have e0 : spliced [] = pure ([] : List Value) := rfl
  have e1 : evalAll [] = pure ([] : List Value) := rfl
  unfold evalArgs
  repeat (first | exact cw_tail h | (with_reducible refine wpAny_of_eq e0 ?_) | (with_reducible refine wpAny_of_eq e1 ?_) | (with_reducible refine wpAny_load hm ?_) | wp_step | dsimp only)
theorem dict_iter_slot : typeLookup (.type "dict") "__iter__" = pure (some (.builtin "dict.__iter__")) := by rw [typeLookup_type, builtinLookup_eq_fast]; kernel_rfl
theorem tuple_iter_slot : typeLookup (.type "tuple") "__iter__" = pure (some (.builtin "tuple.__iter__")) := by rw [typeLookup_type, builtinLookup_eq_fast]; kernel_rfl
theorem dict_sub_dict : isSubtype (.type "dict") (.type "dict") = pure true := by rw [isSubtype_type]; kernel_rfl
theorem mm0 {d m : Addr} {n1 n2 : Nat} {Q : Unit → Shared → Prop} (hd : s.heap.get? d = some (dictOf [] n1)) (hm : s.heap.get? m = some (dictOf [] n2)) (lo : (m == sysModules) = false)
   (h : Q () s) : wpAny M A (mergeMapping d (.ref m) true) Q E s := by
  have hT : s.TypeIs (.ref m) "dict" := ⟨_, hm, rfl⟩
  have h1 := dict_iter_slot
  have h2 := dict_sub_dict
  obtain ⟨hh, g, dd, t, os⟩ := s
  unfold mergeMapping
  repeat (first | exact h | assumption | (simp only [lo, Bool.false_eq_true, if_false]) | (with_reducible refine wpAny_of_eq h2 ?_) | (with_reducible refine wpAny_typeOf hT ?_) | (with_reducible refine wpAny_load hd ?_) | (with_reducible refine wpAny_load hm ?_) | (with_reducible refine wpAny_loadPart_at hd ?_) | (with_reducible refine wpAny_loadPart_at hm ?_) | wp_step | dsimp only)
end
section
variable {prog : Program} {w : World} {A : Around} {E : Value → Shared → Prop} {s : Shared}
theorem mc_star {o : PySem.Expr} {name : Str} {apos pos : Pos} {env : Env} {ov : Value} {n : Nat} {ta : Sem Value} {kw : List (Option Str × Sem Value)} {Q : Value → Shared → Prop}
   (h : wpAny (model prog w) A (getAttr ov name true) (fun f s' => wpAny (model prog w) A (callWith pos f [] [(true, ta)] kw) Q E s') E s) :
   wpAny (model prog w) A (methodCall o name apos pos env ov n [(true, ta)] kw) Q E s := by
  unfold methodCall
  refine wpAny_bind (wpAny_holding ?_)
  show wpAny _ _ (getAttr ov name true >>= fun x => pure (x, [])) _ _ _
  refine wpAny_bind (wpAny_mono h (fun f s' hf => wpAny_pure ?_) fun _ _ z => z)
  refine wpAny_bind (m := methodCallPos _ _ _ _ _) ?_
  unfold methodCallPos
  rw [if_pos (by rfl)]
  exact wpAny_pure hf
theorem ea_ss {f : Value} {T D : Addr} {tt n : Nat} {ta tk : Sem Value} {Q : Args → Shared → Prop} (hT : s.heap.get? T = some ⟨.type "tuple", none, .seq #[] tt, #[]⟩) (hD : s.heap.get? D = some (dictOf [] n)) (lo : (D == sysModules) = false)
   (la : Looks (model prog w) s.heap ta (.ref T)) (lk : Looks (model prog w) s.heap tk (.ref D))
   (h : ∀ h' tk, (∀ b o, s.heap.get? b = some o → h'.get? b = some o) → Q ⟨[], []⟩ { s with heap := h', toks := tk }) :
   wpAny (model prog w) A (evalArgs f true [(true, ta)] [(none, tk)]) Q E s := by
  obtain ⟨hh, g, d, t, os⟩ := s
  have k : ∀ b o, hh.get? b = some o → (hh.push (dictOf [] 0)).get? b = some o := fun b o e => Heap.get?_push_of_some _ e
  have hn : (hh.push (dictOf [] 0)).get? hh.objs.size = some (dictOf [] 0) := Heap.get?_push_at rfl rfl
  have lk' := lk.keeps k
  have hT' := k _ _ hT
  have hD' := k _ _ hD
  have hTT : ∀ g d t os, (⟨hh.push (dictOf [] 0), g, d, t, os⟩ : Shared).TypeIs (.ref T) "tuple" := fun _ _ _ _ => ⟨_, hT', rfl⟩
  have h1 := tuple_iter_slot
  have MM : ∀ {Q : Unit → Shared → Prop} {E : Value → Shared → Prop} {g d t os}, Q () ⟨hh.push (dictOf [] 0), g, d, t, os⟩ → wpAny (model prog w) A (mergeMapping hh.objs.size (.ref D) true) Q E ⟨hh.push (dictOf [] 0), g, d, t, os⟩ := fun h => mm0 hn hD' lo h
  have LK : ∀ {Q : Value → Shared → Prop} {E : Value → Shared → Prop} {g d t os}, Q (.ref D) ⟨hh.push (dictOf [] 0), g, d, t, os⟩ → wpAny (model prog w) A tk Q E ⟨hh.push (dictOf [] 0), g, d, t, os⟩ := fun h => lk'.at h
  have CO : ∀ {Q : List Value → Shared → Prop} {E : Value → Shared → Prop} {g d t os}, (∀ h', (∀ b o', hh.get? b = some o' → h'.get? b = some o') → h'.get? hh.objs.size = some (dictOf [] 0) → Q [] ⟨h', g, d, t, os⟩) → wpAny (model prog w) A (collect (.ref T)) Q E ⟨hh.push (dictOf [] 0), g, d, t, os⟩ :=
    fun h => wpAny_collect_seq T (items := #[]) (.inr rfl) hT' rfl rfl (fun h' k' => h h' (fun b o e => k' b o (k b o e)) (k' _ _ hn)) (by decide)
  unfold evalArgs
  refine wpAny_bind (la.at ?_)
  repeat (first | wp_step | dsimp only)
  refine LK ?_
  refine wpAny_bind (wpAny_onRaise (wpAny_holding (wpAny_tryCatch (wpAny_onRaise (MM ?_)))))
  repeat (first | (with_reducible refine CO ?_; intro h3 k3 hn3) | (with_reducible refine wpAny_specialOf (hTT _ _ _ _) h1 ?_) | (with_reducible refine wpAny_load hn3 ?_) | (with_reducible refine wpAny_loadPart_at hn3 ?_) | wp_step | dsimp only)
  exact h _ _ k3
theorem cw_ss {bm f x T D : Addr} {tt n : Nat} {ta tk : Sem Value} {pos : Pos} {of : Obj} {fd : FuncData} {Q : Value → Shared → Prop} (hb : s.heap.get? bm = some (methodObj (.ref f) (.ref x))) (hf : s.heap.get? f = some of) (hfd : of.data = .func fd)
   (hT : s.heap.get? T = some ⟨.type "tuple", none, .seq #[] tt, #[]⟩) (hD : s.heap.get? D = some (dictOf [] n)) (lo : (D == sysModules) = false)
   (la : Looks (model prog w) s.heap ta (.ref T)) (lk : Looks (model prog w) s.heap tk (.ref D))
   (h : ∀ h' tk, (∀ b o, s.heap.get? b = some o → h'.get? b = some o) → wpAny (model prog w) A (call (.ref bm) []) Q E { s with heap := h', toks := tk }) :
   wpAny (model prog w) A (callWith pos (.ref bm) [] [(true, ta)] [(none, tk)]) Q E s := by
  unfold callWith
  refine wpAny_bind (wpAny_holding (ea_ss hT hD lo la lk fun h1 tk1 k1 => ?_))
  have hb' := k1 _ _ hb
  have hf' := k1 _ _ hf
  refine wpAny_bind (wpAny_standAt ?_)
  refine wpAny_bind (m := keeperOf (.ref bm)) ?_
  unfold keeperOf
  refine wpAny_bind (wpAny_load hb' ?_)
  refine wpAny_bind (wpAny_load hf' ?_)
  rw [hfd]
  refine wpAny_pure ?_
  exact cw_tail (wpAny_operate' (h h1 tk1 k1))
end
set_option maxRecDepth 100000 in
set_option maxHeartbeats 8000000 in
theorem gatD {w : World} {A : Around} {s : Shared} {x dx : Addr} (KX : (Mine.kd.heap_1 w.params).In s.heap) (I : parI s.heap x dx) (hh : A.handled = none) (hd : A.depth ≤ 950) (hu : A.units ≤ 5000) :
   wpAny (model prog0 w) A (getAttr (.ref x) (Str.ofString "update") true) (Gave s fun v h' => ∃ a, v = .ref a ∧ h'.get? a = some (methodObj (.ref 143) (.ref x))) Nev s := by
  obtain ⟨hh', g, d, t, os⟩ := s
  have hT : Looks (model prog0 w) hh' (typeOf (.ref x)) (.ref 303) := I.type
  have h1 : Looks (model prog0 w) hh' (typeLookup (.ref 303) "__getattribute__") (some (.builtin "dict.__getattribute__")) := looks_findIn KX (by k_is)
  have h2 : Looks (model prog0 w) hh' (typeLookup (.ref 303) "__getattr__") none := looks_findIn KX (by k_is)
  have hb : bindSpecial (.builtin "dict.__getattribute__") (.ref x) = pure (.builtin "dict.__getattribute__", [.ref x]) := by unfold bindSpecial; kernel_rfl
  unfold getAttr getAttrBy
  refine wpAny_bind (wpAny_mkText (wpAny_holding (wpAny_bind (hT.at (wpAny_bind (h1.at ?_))))))
  show wpAny _ _ (getAttrByItsOwn (.ref x) (.str (Str.ofString "update") t) (.ref 303) (.builtin "dict.__getattribute__") true true) _ _ _
  unfold getAttrByItsOwn hookBefore callGetattribute boundAndCalled
  refine wpAny_bind (m := typeLookup (.ref 303) "__getattr__") (h2.at ?_)
  refine wpAny_bind (wpAny_attempt (wpAny_holding ?_))
  show wpAny _ _ (bindSpecial (.builtin "dict.__getattribute__") (.ref x) >>= _) _ _ _
  refine wpAny_bind (wpAny_of_eq hb ?_)
  refine wpAny_mono (weaken hh hd hu (gaX (s := ⟨hh', g, d, t + 1, os⟩) KX I.at_ I.dict)) (fun v s4 hv => ?_) (fun _ _ z => z.elim)
  obtain ⟨h4, tk4, rfl, ⟨a, rfl, ha⟩, k4⟩ := hv
  exact wpAny_pure ⟨h4, tk4, rfl, ⟨a, rfl, ha⟩, k4⟩
set_option maxRecDepth 100000 in
set_option maxHeartbeats 8000000 in
theorem cinit {w : World} {p : Program} {loose : List Str} {mg mb : Str → Option Value} {A : Around} {s : Shared} {x dx : Addr}
   (h0 : Env0 w p loose mg mb s.heap) (hh : A.handled = none) (hd : A.depth < 900) (hu : A.units ≤ 4800) (I : parI s.heap x dx) {bm : Addr} (hbm : s.heap.get? bm = some (methodObj (.ref 63) (.ref x))) :
   wpAny (model prog0 w) A (call (.ref bm) []) (Gave s fun v _ => v = .none) Nev s := by
  refine wpAny_call (ks_codeAny_call_bound hbm ?_)
  have KX := h0.K
  have T := h0.T
  refine' enterV (vs := []) (binds := fun C D => [(Str.ofString "self", .ref x), (Str.ofString "args", .ref C), (Str.ofString "kwargs", .ref D)]) KX T.nolimit ?ho ?hcd ?hroom ?hp ?hp2 ?hk2 ?hloc ?_ ?c1 ?c2 ?c3 ?c4
  case ho => k_is
  case hcd => k_is
  case hroom => unfold recursionLimit; omega
  case hp => exact rfl
  case hp2 => exact fun _ => rfl
  case hk2 => exact fun _ _ => rfl
  case hloc => exact fun _ _ => locs rfl
  case c1 => decide
  case c2 => rfl
  case c3 => rfl
  case c4 => rfl
  intro C D L h₁ hC0 hCD hDL F N hk
  have lo : (D == sysModules) = false := notMod KX (Nat.le_trans hC0 (Nat.le_of_lt hCD))
  have I1 := I.keeps F.keep
  try dsimp only
  try k_fold
  refine ks_wpAt_execs_cons (ks_wpAt_Expr_any (ks_wpAt_MethodCall ?_))
  refine nodeR (cls := _) F KX N T (by k_is) (by rfl) (by rfl) I1 (by k_is) (by rfl) (by first | rfl | decide +kernel) (by rfl) (by k_is) (by k_is) (by k_is) (by k_is) (by decide) (by rfl) (by rfl) (by rfl) (by rfl) (by decide +kernel) (by first | boot_by_name | rfl | kernel_rfl) ?_
  intro so h2 F2 N2 k2
  have I2 := I1.keeps k2
  have K2 := KX.keeps F2.keep
  refine sup_gm_b (N2 _ (.head _)).1 (looks_opaque K2 (by k_is)) (l₀ := [.ref 303, .ref 174, .type "dict", .type "object"]) (fun A Q E s k q => wpAny_bind ((looks_clsIn K2 (by k_is)) A _ E s k (wpAny_pure q))) rfl K2 (i := "dict.__init__") (by rfl) (by show builtinType _ = _; rw [builtinType_eq_fast]; kernel_rfl) (ks_ne K2 I2 (by k_is)) (by decide)
    (P' := fun a h' => h'.get? a = some ⟨.type "method-wrapper", none, .fields #[.builtin "dict.__init__", .ref x], #[]⟩) (fun t => ?_) ?_
  · exact weaken (A := (A.deeper _).in1) hh (show A.depth + 1 ≤ 950 by omega) (show A.units + 3 + 1 ≤ 5000 by omega) (wGetX K2 I2.at_)
  intro mw h3 tk3 hmw k3
  refine cw_mw hmw ?_
  have I3 := I2.keeps k3
  have K3 := K2.keeps k3
  refine wpAny_mono (weaken (A := A.deeper _) hh (show A.depth + 1 ≤ 950 by omega) (show A.units + 3 ≤ 5000 by omega) (mwCallX K3 I3.at_ hmw I3.dict)) (fun v s4 hv => ?_) (fun _ _ z => z.elim)
  obtain ⟨h4, tk4, rfl, rfl, k4⟩ := hv
  have F4 := frExt F2 fun b o e => k4 b o (k3 b o e)
  have N4 := newsExt N2 fun b o e => k4 b o (k3 b o e)
  have I4 := I3.keeps k4
  dsimp only
  clear F N F2 N2
  refine ks_wpAt_execs_cons (ks_wpAt_Expr_any (wpAt_of_wpAny ?_))
  rw [arm_eval_Call]
  refine wpAny_bind ?_
  refine nameX_L F4 (by rfl) ?_
  refine wpAny_bind (wpAny_standAt ?_)
  refine mc_star ?_
  have K4 := K3.keeps k4
  refine wpAny_mono (gatD K4 I4 hh (show A.depth + 1 ≤ 950 by omega) (show A.units + 3 ≤ 5000 by omega)) (fun v s5 hv => ?_) (fun _ _ z => z.elim)
  obtain ⟨h5, tk5, rfl, ⟨bm, rfl, hbm⟩, k5⟩ := hv
  have F5 := frExt F4 k5
  have N5 := newsExt N4 k5
  have K5 := K4.keeps k5
  refine cw_ss hbm (K5 _ _ (by k_is)) (by rfl) (N5 _ (.tail _ (.tail _ (.head _)))).1 (N5 _ (.tail _ (.head _))).1 lo ?_ ?_ ?_
  · exact fun A' Q' E' s' k' q' => wpAny_bind (nameX_L (frExt F5 k') (by rfl) (wpAny_bind (wpAny_standAt (wpAny_pure q'))))
  · exact fun A' Q' E' s' k' q' => wpAny_bind (nameX_L (frExt F5 k') (by rfl) (wpAny_bind (wpAny_standAt (wpAny_pure q'))))
  intro h6 tk6 k6
  refine wpAny_mono (weaken (A := A.deeper _) hh (show A.depth + 1 ≤ 950 by omega) (show A.units + 3 ≤ 5000 by omega) (updX ((h0.X.keeps F5.keep).keeps k6) (k6 _ _ hbm))) (fun v s7 hv => ?_) (fun _ _ z => z.elim)
  obtain ⟨h7, tk7, rfl, rfl, k7⟩ := hv
  dsimp only
  refine wpAt_of_wpAny (wpAny_execs_nil ?_)
  exact ⟨_, _, rfl, rfl, fun b o e => k7 _ _ (k6 _ _ (F5.keep b o e))⟩
end Mine
end
section
open PySem PySem.W PyProof.Rows PySem.Calls
namespace Mine
theorem fillit11 : (∀ (w : World) (s : Shared), (Mine.kd.heap_1 w.params).In s.heap → PySem.Challenge.rw_br0007_01.prog = PySem.Challenge.rw_br0007_01.prog) := by
  k_fill
  intros; rfl
theorem notMod1 {h : Heap} {D : Addr} (md : ∃ o, h.get? sysModules = some o) (e : h.get? D = none) : (D == sysModules) = false := by
  obtain ⟨o, ho⟩ := md
  have n : D ≠ sysModules := fun q' => by
    rw [q', ho] at e
    cases e
  simpa using n
set_option maxRecDepth 100000 in
set_option maxHeartbeats 8000000 in
theorem pinit {w : World} {p : Program} {loose : List Str} {mg mb : Str → Option Value} {A : Around} {s : Shared} {x dx : Addr}
   (h0 : Env0 w p loose mg mb s.heap) (hh : A.handled = none) (hd : A.depth < 880) (hu : A.units ≤ 4700) (I : parI s.heap x dx) :
   codeAny (model prog0 w) A (.call (.ref 264) ⟨[.ref x, .none], []⟩) (fun r s' => match r with | .ok (.ret v) => Gave s (fun v _ => v = .none) v s' | _ => False) s := by
  have KX := h0.K
  have T := h0.T
  refine' enterP (vs := [.none]) (n1 := Str.ofString "self") (n2 := Str.ofString "args") (k := Str.ofString "kwargs") (v1 := .ref x) KX T.nolimit ?ho ?hcd ?hroom ?hp ?hp2 ?hk2 ?a1 ?a2 ?a3 ?a4 ?a5 ?_ ?c2 ?c3 ?c4
  case ho => k_is
  case hcd => k_is
  case hroom => unfold recursionLimit; omega
  case hp => exact rfl
  case hp2 => exact fun _ => rfl
  case hk2 => exact fun _ _ => rfl
  case a1 => rfl
  case a2 => rfl
  case a3 => rfl
  case a4 => exact fun _ => rfl
  case a5 => exact fun _ => rfl
  case c2 => rfl
  case c3 => rfl
  case c4 => rfl
  intro C D L c h₁ oq hC0 hCD hDL hLc hoq F N
  try dsimp only
  try k_fold
  k_with "subscriptTail" => refine stop ?_
  k_steps
  k_with_none
  refine ⟨?_⟩
  (rename Fr _ _ _ _ => F1); (rename News _ _ _ _ => N1)
  refine slice_tuple_from (a := 1) F1 N1 (News.isTup N1 (by k_mem)) (by decide) (by decide) ?_
  intro h2 F2 N2
  clear F1 N1
  k_with "wpAt" => refine stop ?_
  k_steps
  k_with_none
  refine ⟨?_⟩
  refine wpAt_of_wpAny (wpAny_execs_nil ?_)
  dsimp only
  refine ks_wpAt_execs_cons (wpAt_of_wpAny ?_)

  (rename Fr _ _ _ _ => F1); (rename News _ _ _ _ => N1)
  refine' asg_dict0 F1 N1 ?hsw ?hL ?hh ?hclos ?hcell ?hkind ?hnames ?hx ?hy ?hp ?h ?hs
  case hsw => with_unfolding_all rfl
  case hL => with_unfolding_all rfl
  case hh => exact hh
  case hclos => with_unfolding_all rfl
  case hcell => decide
  case hkind => with_unfolding_all rfl
  case hnames => decide
  case hx => with_unfolding_all rfl
  case hy => with_unfolding_all rfl
  case hp => with_unfolding_all rfl
  case hs => intro _; with_unfolding_all rfl
  k_with "getMethod" => refine stop ?_
  k_steps
  k_with_none
  refine ⟨?_⟩
  (rename Fr _ _ _ _ => F1); (rename News _ _ _ _ => N1)
  have lo : (D == sysModules) = false := notMod KX (Nat.le_trans hC0 (Nat.le_of_lt hCD))
  refine kdl_method PySem.F.slot_dict_keys PySem.F.type_dict_keys N1 (d := D) (by k_mem) (dict0 (prog := prog0) (w := w)) ?_
  k_with "call builtin:dict.keys" => refine stop ?_
  k_steps
  k_with_none
  refine ⟨?_⟩
  refine kdl_view_keys F1 N1 (by k_mem) (dict0 (prog := prog0) (w := w)) lo ?_
  intro V h3 F3 N3 _
  clear F1 N1
  k_with "call type:list" => refine stop ?_
  k_steps
  k_with_none
  refine ⟨?_⟩
  refine kdl_list_viewS (kvs := []) hh F3 N3 (by k_mem) (by k_mem) dict0 (by decide) ?_
  intro B n4 h4 tk4
  show Fr _ _ _ _ → News _ _ _ _ → _ → _
  intro F4 N4 _
  refine ⟨B, rfl, ⟨_, (N4 _ (.head _)).1, rfl, _, rfl⟩, F4, fun p hp => N4 p (.tail _ (.tail _ hp)), ?_⟩
  clear F3 N3 F4
  intro D2 o2 h5 tk5 F5 N5 hd2
  clear h2
  have I5 := I.keeps F5.keep
  have K5 := KX.keeps F5.keep
  dsimp only
  refine ks_wpAt_execs_cons (ks_wpAt_Expr_any ?_)
  rw [arm_eval_Call]
  refine _root_.PySem.wpAt_bind ?_
  refine nodeR (cls := _) F5 KX N5 T (by k_is) (by rfl) (by rfl) I5 (by k_is) (by rfl) (by first | rfl | decide +kernel) (by rfl) (by k_is) (by k_is) (by k_is) (by k_is) (by decide) (by rfl) (by rfl) (by rfl) (by rfl) (by decide +kernel) (by first | boot_by_name | rfl | kernel_rfl) ?_
  intro so h6 F6 N6 k6
  have I6 := I5.keeps k6
  have K6 := K5.keeps k6
  refine wpAt_of_wpAny (wpAny_bind (wpAny_standAt (mc_star ?_)))
  refine sup_gat_f (N6 _ (.head _)).1 (looks_opaque K6 (by k_is)) (l₀ := [.ref 303, .ref 174, .type "dict", .type "object"]) (fun A Q E s k q => wpAny_bind ((looks_clsIn K6 (by k_is)) A _ E s k (wpAny_pure q))) rfl K6 (f := 63) (by rfl) (K6 _ _ (by k_is)) (by rfl) (ks_ne K6 I6 (by k_is)) (by decide) ?_
  have k7 : ∀ b o, h6.get? b = some o → (h6.push (methodObj (.ref 63) (.ref x))).get? b = some o := fun b o e => Heap.get?_push_of_some _ e
  have hbm : (h6.push (methodObj (.ref 63) (.ref x))).get? h6.objs.size = some (methodObj (.ref 63) (.ref x)) := Heap.get?_push_at rfl rfl
  have F7 := frExt F6 k7
  have N7 := newsExt N6 k7
  have I7 := I6.keeps k7
  have K7 := K6.keeps k7
  refine cw_ss (s := ⟨_, _, _, _, _⟩) hbm (K7 _ _ (by k_is)) (by rfl) (N7 _ (.tail _ (.tail _ (.head _)))).1 (N7 _ (.tail _ (.tail _ (.tail _ (.tail _ (.head _)))))).1 lo ?_ ?_ ?_
  · exact fun A' Q' E' s' k' q' => wpAny_bind (nameX_L (frExt F7 k') (by rfl) (wpAny_bind (wpAny_standAt (wpAny_pure q'))))
  · exact fun A' Q' E' s' k' q' => wpAny_bind (nameX_C (newsExt N7 k') (by rfl) (.tail _ (.tail _ (.tail _ (.head _)))) hoq (wpAny_bind (wpAny_standAt (wpAny_pure q'))))
  intro h8 tk8 k8
  have F8 := frExt F7 k8
  have N8 := newsExt N7 k8
  refine wpAny_mono (cinit (A := A.deeper _) (h0.keeps F8.keep) hh (show A.depth + 1 < 900 by omega) (show A.units + 3 ≤ 4800 by omega) (I7.keeps k8) (k8 _ _ hbm)) (fun v s9 hv => ?_) (fun _ _ z => z.elim)
  obtain ⟨h9, tk9, rfl, rfl, k9⟩ := hv
  have F9 := frExt F8 k9
  have N9 := newsExt N8 k9
  clear F5 F6 F7 F8 N5 N6 N7 N8
  dsimp only
  refine ks_wpAt_execs_cons (wpAt_of_wpAny ?_)
  refine For_turns F9 ?_
  k_with "call builtin:dict.items" => refine stop ?_
  k_steps
  k_with_none
  refine ⟨?_⟩
  have lo2 : (D2 == sysModules) = false := notMod1 h0.md (N9 (D2, o2) (.tail _ (.head _))).2.2
  have TB : TabAt (strKind prog0 w) PyData.str h9 D2 [] := TabAt.ofObj lo2 (N9 _ (.tail _ (.head _))).1 hd2 .nil
  refine call_items_tab TB F9 N9 ?_
  intro h10 o10 hv10 F10 N10
  k_with "pyIter" => refine stop ?_
  k_steps
  k_with_none
  refine ⟨?_⟩
  refine kti_items (knd := strKind prog0 w) (enc := PyData.str) (xs := []) hh F10 (kti_tail N10) hv10 (TabAt.ofObj lo2 (N10 _ (.tail _ (.tail _ (.head _)))).1 hd2 .nil) (d := D2) (by k_mem) (fun k v h => Value.isStrOf_shape h) (by rfl) ?_
  intro I2 l2
  refine ItemsRest.zero ?_
  intro h11 tk11 F11 N11
  dsimp only
  refine wpAt_of_wpAny (wpAny_execs_nil ?_)
  exact ⟨_, _, rfl, rfl, F11.keep⟩
end Mine
end
section
open PySem PySem.W PyProof.Rows PySem.Calls
namespace Mine
theorem fillit12 : (∀ (w : World) (s : Shared), (Mine.kd.heap_1 w.params).In s.heap → PySem.Challenge.rw_br0007_01.prog = PySem.Challenge.rw_br0007_01.prog) := by
  k_fill
  intros; rfl
section
set_option maxRecDepth 100000
set_option maxHeartbeats 8000000
theorem tc_bind' (x : Value) : bindSpecial (.builtin "type.__call__") x = pure (.builtin "type.__call__", [x]) := tc_bind x
theorem par {w : World} {p : Program} {loose : List Str} {mg mb : Str → Option Value} {A : Around} {s : Shared}
   (h0 : Env0 w p loose mg mb s.heap) (hh : A.handled = none) (hd : A.depth < 860) (hu : A.units ≤ 4600) :
   wpAny (model prog0 w) A (call (.ref 303) [.none]) (Gave s fun v h' => ∃ x dx, v = .ref x ∧ parI h' x dx ∧ s.heap.get? x = none) Nev s := by
  refine wpAny_call ?_
  have KX := h0.K
  obtain ⟨h, g, d, t, os⟩ := s
  have made : Looks (model prog0 w) h (Bind.madeBy (.ref 303)) (some "dict.__new__") := Looks.of_peek KX (by rfl)
  have call : Looks (model prog0 w) h (specialOf (.ref 303) "__call__") (some (.builtin "type.__call__")) := looks_specialIn KX (by k_is)
  have typ : Looks (model prog0 w) h (isInstance (.ref 303) (.type "type")) true := looks_instIn KX (by k_is)
  have hm : Looks (model prog0 w) h (mroOf (.ref 303)) [.ref 303, .ref 174, .type "dict", .type "object"] := Looks.of_peek KX (by rfl)
  have hi : Looks (model prog0 w) h (typeLookup (.ref 303) "__init__") (some (.ref 264)) := looks_findIn KX (by k_is)
  have hb : ∀ self, Looks (model prog0 w) h (bindSpecial (.ref 264) self) (.ref 264, [self]) := fun self => bind_fn KX self (by k_is)
  have self : Looks (model prog0 w) h (isSubtype (.ref 303) (.ref 303)) true := looks_mroIn KX (by k_is)
  refine codeAny_of_tree ?_
  show wpAny _ _ (callAny (.ref 303) _) _ _ _
  refine nd_load (KX _ _ (by k_is)) ?_
  show wpAny _ _ (callAny.viaDunder (.ref 303) _) _ _ _
  unfold callAny.viaDunder
  refine wpAny_bind (call.at ?_)
  dsimp only
  rw [tc_bind]
  refine wpAny_bind (wpAny_pure (wpAny_bind (wpAny_pure ?_)))
  refine wpAny_pure (a := Fin.again (.call (.builtin "type.__call__") ⟨.ref 303 :: [.none], []⟩)) (And.intro rfl ?_)
  refine codeAny_call_builtin_at (Code.quiet_builtin _ (by decide +kernel)) entry_typeCall (check_slot tc_kind tc_split typ (tc_args _ _ _) ?_)
  unfold Builtin.«type.__call__»
  have hA : (A.under (.builtin "type.__call__" ⟨[.ref 303, .none], []⟩)).handled = none := hh
  have hAd : (A.under (.builtin "type.__call__" ⟨[.ref 303, .none], []⟩)).depth ≤ A.depth + 1 := by show A.depth + Code.weight _ ≤ A.depth + 1; exact Nat.add_le_add_left (by decide +kernel) _
  have hAu : (A.under (.builtin "type.__call__" ⟨[.ref 303, .none], []⟩)).units ≤ A.units + 1 := by show A.units + Code.cUnits _ ≤ A.units + 1; exact Nat.add_le_add_left (by decide +kernel) _
  generalize hA' : A.under (.builtin "type.__call__" ⟨[.ref 303, .none], []⟩) = A' at hA hAd hAu ⊢
  have NW : ∀ {Q : Value → Shared → Prop} {E : Value → Shared → Prop}, (∀ x dx h' tk, parI h' x dx → (∀ b o, h.get? b = some o → h'.get? b = some o) → h.get? x = none → Q (.ref x) ⟨h', g, d, tk, os⟩) → wpAny (model prog0 w) A' (PySem.call (.builtin "dict.__new__") [.ref 303, .none]) Q E ⟨h, g, d, t, os⟩ := fun hq =>
    wpAny_mono (weaken hA (by omega) (by omega) (newX KX)) (fun v s' hv => by
      obtain ⟨h', tk, rfl, ⟨x, dx, rfl, e1, e2, ne, en⟩, hk⟩ := hv
      exact hq x dx h' tk ⟨e1, rfl, rfl, e2⟩ hk en) fun _ _ z => z.elim
  repeat (first | (with_reducible refine NW ?_; intro x dx h2 tk2 I2 k2 hx0; (have K2 := KX.keeps k2); (have t1 : Looks (model prog0 w) h2 (typeOf (.ref x)) (.ref 303) := I2.type); (have s1 := self.keeps k2); (have i1 := hi.keeps k2); (have b1 := (hb (.ref x)).keeps k2); unfold isInstance callSpecial? specialOf) | simp only [Bool.false_eq_true, if_false] | with_reducible refine wpAny_call ?_ | lk)
  refine codeAny_mono (pinit (s := ⟨h2, g, d, tk2, os⟩) (h0.keeps k2) hA (by omega) (by omega) I2) fun r s' z => ?_
  rcases r with e | (v | _ | _ | _) <;> first | exact z.elim | skip
  obtain ⟨h3, tk3, rfl, rfl, k3⟩ := z
  dsimp only
  refine wpAny_pure ?_
  exact wpAny_pure ⟨h3, tk3, rfl, ⟨x, dx, rfl, I2.keeps k3, hx0⟩, fun b o e => k3 _ _ (k2 _ _ e)⟩
end
end Mine
end
section
open PySem PySem.W PyProof.Rows PySem.Calls PySem.W.X
namespace Mine
theorem fillit14 : (∀ (w : World) (s : Shared), (Mine.kd.heap_1 w.params).In s.heap → PySem.Challenge.rw_br0007_01.prog = PySem.Challenge.rw_br0007_01.prog) := by
  k_fill
  intros; rfl
section
set_option maxRecDepth 100000
set_option maxHeartbeats 8000000
local macro_rules | `(tactic| x_close) => `(tactic| (first
  | exact ⟨_, _, rfl, rfl, memKeep (by assumption) fun _ _ _ => trivial⟩ | exact ⟨_, _, rfl, rfl, fun _ _ e => e⟩
  | exact ⟨_, _, rfl, ⟨_, rfl, Mem.at (by assumption) 0 _ _ rfl⟩, memKeep (by assumption) fun _ _ _ => trivial⟩
  | exact ⟨_, _, rfl, ⟨_, _, _, rfl, Mem.at (by assumption) 0 _ _ rfl, Mem.at (by assumption) 1 _ _ rfl, Mem.ne (by assumption) 0 1 _ _ _ _ rfl rfl rfl, (Mem.nw (by assumption) _ (.head _)).2, (Mem.nw (by assumption) _ (.tail _ (.head _))).2⟩, memKeep (by assumption) fun _ _ _ => trivial⟩))
theorem toUniKwX {w : World} {s : Shared} {x e : Str} {t u : Nat} (KX : (Mine.hq w.params).In s.heap) :
   wpAny (model prog0 w) AA (call (.ref 47) [.str x t] [(Str.ofString "encoding", .str e u)]) (Gave s fun v _ => v = .str x t) Nev s := by
  x_run
theorem toUniX {w : World} {s : Shared} {x : Str} {t : Nat} (KX : (Mine.hq w.params).In s.heap) :
   wpAny (model prog0 w) AA (call (.ref 47) [.str x t]) (Gave s fun v _ => v = .str x t) Nev s := by
  x_run
theorem toUniRX {w : World} {s : Shared} {o dx : Addr} {x : Str} {t : Nat} {sl : Array (Option Value)} (KX : (Mine.hq w.params).In s.heap) (ho : s.heap.get? o = some ⟨.ref 387, some dx, .prim (.str x t), sl⟩) :
   wpAny (model prog0 w) AA (call (.ref 47) [.ref o]) (Gave s fun v _ => v = .ref o) Nev s := by
  x_run
theorem superX {w : World} {s : Shared} (KX : (Mine.kd.heap_1 w.params).In s.heap) :
   wpAny (model prog0 w) AA (call (.type "super") [.ref 387, .ref 387]) (Gave s fun v h' => ∃ a, v = .ref a ∧ h'.get? a = some ⟨.type "super", none, .fields #[.ref 387, .ref 387, .ref 387], #[]⟩) Nev s := by
  x_run
theorem strNewX {w : World} {s : Shared} {x : Str} {t : Nat} (KX : (Mine.kd.heap_1 w.params).In s.heap) (hn : x.length ≤ 1000000) :
   wpAny (model prog0 w) AA (call (.builtin "str.__new__") [.ref 387, .str x t]) (Gave s fun v h' => ∃ o dx tk, v = .ref o ∧ h'.get? o = some ⟨.ref 387, some dx, .prim (.str x tk), #[]⟩ ∧ h'.get? dx = some edO ∧ o ≠ dx ∧ s.heap.get? o = none ∧ s.heap.get? dx = none) Nev s := by
  x_run
theorem objInitX {w : World} {s : Shared} {o dx : Addr} {x : Str} {t t' : Nat} {v1 v2 : Value} (KX : (Mine.kd.heap_1 w.params).In s.heap) (ho : s.heap.get? o = some ⟨.ref 387, some dx, .prim (.str x t'), #[some v1, some v2]⟩) :
   wpAny (model prog0 w) AA (call (.builtin "object.__init__") [.ref o, .str x t]) (Gave s fun v _ => v = .none) Nev s := by
  x_run
theorem typeGaX {w : World} {s : Shared} {t : Nat} (KX : (Mine.kd.heap_1 w.params).In s.heap) :
   wpAny (model prog0 w) AA (call (.builtin "type.__getattribute__") [.ref 387, .str (Str.ofString "__new__") t]) (Gave s fun v _ => v = .ref 358) Nev s := by
  x_run
end
section
variable {prog : Program} {w : World} {A : Around} {s : Shared} {K : Frag} {R : Result → Shared → Prop} {name qual : Str} {params : Arguments} {body : List Stmt} {scope : Scope} {cl : List (Str × Addr)} {dV kV doc pm cdv ct oc : Value} {an od : Option Addr} {osl : Array (Option Value)} {f : Addr} {args : Args} {binds : List (Str × Value)}
/-- into a def, its activation known -/
theorem enterA (X : K.In s.heap) (hlim : s.heap.NoLimit)
    (ho : K.lookup f = some ⟨oc, od, .func (fnX name qual params body scope cl dV kV doc pm an cdv ct), osl⟩) (hcd : codeIn K cdv qual = true) (hroom : A.depth < recursionLimit)
    (hbind : BindsTo s (fnX name qual params body scope cl dV kV doc pm an cdv ct) args binds) (hloc : ∀ y ∈ binds, scope.names.lookup y.1 = some .local)
    (h : ∀ L h₁, Fr (s.heap) L h₁ (fun y => binds.reverse.lookup y) → (∀ b o, s.heap.get? b = some o → h₁.get? b = some o ∧ b ≠ L) →
      _root_.PySem.wpAt (model prog w) (A.deeper (envX qual scope L f cdv cl)) (.func body (envX qual scope L f cdv cl)) (execs body (envX qual scope L f cdv cl))
        (fun fl s' => R (.ok (.ret (match fl with | .ret v => v | _ => .none))) s')
        (fun _ _ => False)
        { s with heap := h₁, toks := s.toks + binds.length })
    (hcell : ∀ x ∈ scope.names, x.2 ≠ .cell) (hco : scope.isCoroutine = false) (hgen : scope.isGenerator = false) (hk : scope.kind = .function) : codeAny (model prog w) A (.call (.ref f) args) R s := by
  refine ks_codeAny_call_defAt (fd := fnX name qual params body scope cl dV kV doc pm an cdv ct) (body := body) (binds := binds) hroom (X _ _ ho) rfl hlim (codeRec_of X hcd) rfl hbind hcell hloc (fun h₁ hns hk₁ => ?_) hco hgen hk
  exact ks_wpAt_mono (h s.heap.objs.size h₁ ⟨hns, fun b o e => hk₁ b o e, Nat.le_refl _⟩ (fun b o e => ⟨hk₁ b o e, Nat.ne_of_lt (Heap.lt_size e)⟩)) (fun fl s' x => x) fun _ _ x => x.elim
end
section
set_option maxRecDepth 100000
set_option maxHeartbeats 400000
variable {w : World} {A : Around} {E : Value → Shared → Prop} {h : Heap} {g : Array GenState} {d : Drawn} {t : Nat} {os : OsState}
theorem hho : handedOut (.builtin "str.__new__") = pure (.builtin "str.__new__") := by kernel_rfl
theorem ty_sn : typeOf (.builtin "str.__new__") = pure (.type "builtin_function_or_method") := by show builtinType _ = _; rw [builtinType_eq_fast]; kernel_rfl
theorem bf_get : typeLookup (.type "builtin_function_or_method") "__get__" = pure none := by rw [typeLookup_type, builtinLookup_eq_fast]; kernel_rfl
theorem sup_ga_n {so : Addr} {tk : Tok} {Q : Fin → Shared → Prop} {K : Frag} {l : List Value} (X : K.In h)
    (hso : h.get? so = some { cls := .type "super", dict := none, data := .fields #[.ref 387, .ref 387, .ref 387], slots := #[] }) (hno : Looks (model prog0 w) h (opaqueClassAbove (.ref 387)) none)
    {l₀ : List Value} (hC : Looks (model prog0 w) h (mroOf (.ref 387)) l₀) (hl : (l₀.dropWhile (· != .ref 387)).drop 1 = l) (hf : alongIn K (Str.ofString "__new__") l = some (some (.builtin "str.__new__")))
    (hq : Q (.done (.ret (.builtin "str.__new__"))) ⟨h, g, d, t, os⟩) :
    wpAny (model prog0 w) A (Builtin.«super.__getattribute__» ⟨[.ref so, .str (Str.ofString "__new__") tk], []⟩) Q E ⟨h, g, d, t, os⟩ := by
  have hlk := bf_get
  have h_ho := hho
  have hty := ty_sn
  have hn : (Str.ofString "__new__" == ("__class__" : Str)) = false := by decide
  have hdt : ({ cls := .type "super", dict := none, data := .fields #[.ref 387, .ref 387, .ref 387], slots := #[] } : Obj).data = .fields #[.ref 387, .ref 387, .ref 387] := rfl
  have f0 : (#[.ref 387, .ref 387, .ref 387] : Array Value)[0]? = some (.ref 387) := rfl
  have f1 : (#[.ref 387, .ref 387, .ref 387] : Array Value)[1]? = some (.ref 387) := rfl
  have f2 : (#[.ref 387, .ref 387, .ref 387] : Array Value)[2]? = some (.ref 387) := rfl
  unfold Builtin.«super.__getattribute__»
  repeat (first
    | (with_reducible refine wpAny_field hso hdt f0 ?_) | (with_reducible refine wpAny_field hso hdt f1 ?_) | (with_reducible refine wpAny_field hso hdt f2 ?_)
    | (with_reducible refine ks_wpAny_notOpaque hno ?_)
    | (with_reducible refine Looks.at hC ?_; rw [hl])
    | (refine ks_forIn_along X (fun _ _ => rfl) rfl ?_ hf)
    | (with_reducible refine wpAny_of_eq hty ?_)
    | (with_reducible refine wpAny_of_eq hlk ?_)
    | (with_reducible refine wpAny_of_eq h_ho ?_)
    | (simp only [hn, Bool.or_false, Bool.false_eq_true, if_false])
    | wp_step
    | dsimp only)
  all_goals exact hq
theorem sup_gm_n {so : Addr} {pl : Sem Bool} {Q : Value × List Value → Shared → Prop} {K : Frag} {l : List Value} (X : K.In h)
    (hso : h.get? so = some { cls := .type "super", dict := none, data := .fields #[.ref 387, .ref 387, .ref 387], slots := #[] }) (hno : Looks (model prog0 w) h (opaqueClassAbove (.ref 387)) none)
    {l₀ : List Value} (hC : Looks (model prog0 w) h (mroOf (.ref 387)) l₀) (hl : (l₀.dropWhile (· != .ref 387)).drop 1 = l) (hf : alongIn K (Str.ofString "__new__") l = some (some (.builtin "str.__new__")))
    (hq : Q (.builtin "str.__new__", []) ⟨h, g, d, t + 1, os⟩) :
    wpAny (model prog0 w) A (getMethod (.ref so) (Str.ofString "__new__") pl) Q E ⟨h, g, d, t, os⟩ := by
  have hlk := F.ks_slot_super_ga.lookup
  have hcan := F.ks_canon_super_ga
  have hT : ∀ t', (⟨h, g, d, t', os⟩ : Shared).TypeIs (.ref so) "super" := fun _ => ⟨_, hso, rfl⟩
  unfold getMethod
  refine wpAny_bind (wpAny_specialOf (hT _) hlk ?_)
  show wpAny _ _ (if (Manifest.canonical "super.__getattribute__" != "object.__getattribute__") = true then _ else _) _ _ _
  rw [if_pos hcan]
  unfold getAttr getAttrBy
  refine wpAny_bind (wpAny_bind (wpAny_mkText (wpAny_holding (wpAny_bind (wpAny_typeOf (hT _) (wpAny_bind (wpAny_of_eq hlk ?_)))))))
  show wpAny _ _ (getAttrByItsOwn (.ref so) (.str (Str.ofString "__new__") t) (.type "super") (.builtin "super.__getattribute__") true false) _ _ _
  unfold getAttrByItsOwn hookBefore callGetattribute boundAndCalled
  refine wpAny_bind (wpAny_of_eq (show (if onTheHeap (.type "super") then typeLookup (.type "super") "__getattr__" else pure none) = pure none from rfl) ?_)
  refine wpAny_bind (wpAny_attempt (wpAny_holding ?_))
  show wpAny _ _ (bindSpecial (.builtin "super.__getattribute__") (.ref so) >>= _) _ _ _
  refine wpAny_bind (wpAny_of_eq (F.ks_slot_super_ga.bind _) ?_)
  refine wpAny_mono (Q := fun v s' => v = .builtin "str.__new__" ∧ s' = ⟨h, g, d, t + 1, os⟩) (E := fun _ _ => False)
    (wpAny_call_entry F.ks_slot_super_ga (hT _) F.ks_entry_super_ga (sup_ga_n X hso hno hC hl hf ⟨_, rfl, rfl, rfl⟩) (F.ks_gaArgs_super _ _)) (fun v s' hv => ?_) fun _ _ z => z.elim
  obtain ⟨rfl, rfl⟩ := hv
  exact wpAny_of_eq hho (wpAny_pure hq)
end
section
set_option maxRecDepth 100000
open Builtin.ObjectAttr
variable {prog : Program} {w : World} {A : Around} {E : Value → Shared → Prop} {s : Shared} {K : Frag} {x C L p : Addr} {h₀ : Heap} {m : Str → Option Value} {news news' : List (Addr × Obj)} {ox ox' od : Obj} {name : Str} {v : Value} {i : Nat} {R : Result → Shared → Prop}
theorem refuse_str (self : Value) : refuseLoop self "__setattr__" [.ref 387, .type "str", .type "object"] = pure () := by
  rw [refuseLoop_ref]
  kernel_rfl
theorem osa_v {tk : Tok} {a : Addr} {cd : ClassData} (X : K.In s.heap) (I : InstAt s.heap x ox C (some od)) (hc : clsIn K C = some cd) (ne : cd.mro.isEmpty = false) (hb : cd.mro.contains (.type "object") = true) (hr : refuseLoop (.ref x) "__setattr__" cd.mro = pure ()) (ht : takerIn K C name = some (some (.ref a)))
    (h : wpAny (model prog w) A.in1 (setByDescriptor (.ref a) (.ref x) v)
      (fun fin s' => match fin with | .done f => R (.ok f) s' | .again c' => c'.quiet = true ∧ codeAny (model prog w) A c' R s') (fun e s' => R (.error e) s') s) :
    codeAny (model prog w) A (.call (.builtin "object.__setattr__") ⟨[.ref x, .str name tk, v], []⟩) R s := by
  have SF := PySem.F.store_object
  have sub : Looks (model prog w) s.heap (isInstance (.ref x) (.type "object")) true := I.type.andThen (looks_mroIn X (by unfold mroIn; rw [hc, Option.bind_some, if_neg (by rw [ne]; decide), hb]))
  refine codeAny_call_builtin SF.slot.plain SF.entry (@check_slot (model prog w) _ _ s "object.__setattr__" "object" "__setattr__" (.ref x) [.str name tk, v] [] _ SF.kind SF.split sub (SF.args (.ref x) (.str name tk) v) ?_)
  obtain ⟨attr, ha, hr'⟩ := Option.bind_eq_some_iff.mp ht
  have hm : Looks (model prog w) s.heap (mroOf (.ref C)) cd.mro := (looks_clsIn X hc).andThen .now
  have L3 : Looks (model prog w) s.heap (storeTaker? attr) (some (.ref a)) := by
    cases attr with
    | none => cases hr'
    | some a' =>
      obtain ⟨b, hb, e⟩ := Option.map_eq_some_iff.mp hr'
      refine (looks_takesIn X hb).andThen ?_
      cases b
      · cases e
      · cases e; exact .now
  rw [osa_eq, refuse_eq]
  refine wpAny_bind (wpAny_bind (I.type.here (wpAny_bind (hm.here ?_))))
  rw [hr]
  exact wpAny_pure (wpAny_bind (I.type.here (wpAny_bind ((looks_findIn X ha).here (wpAny_bind (L3.here h))))))
theorem set_slotV {cd : ClassData} {Q : Unit → Shared → Prop} (F : Fr h₀ L s.heap m) (X₀ : K.In h₀) (N : News h₀ L s.heap news) (I : InstAt s.heap x ox C (some od))
    (hs : findIn K (.ref C) "__setattr__" = some (some (.builtin "object.__setattr__"))) (hc : clsIn K C = some cd) (ne : cd.mro.isEmpty = false) (hb : cd.mro.contains (.type "object") = true) (hr : refuseLoop (.ref x) "__setattr__" cd.mro = pure ())
    (ht : takerIn K C name = some (some (.ref p))) (hT : typeIn K (.ref p) = some (.type "member_descriptor")) (hi : slotIn K p C = some i) (hz : i < 1000)
    (e : { ox with slots := (ox.slots ++ Array.replicate (i + 1 - ox.slots.size) none).setIfInBounds i (some v) } = ox') (hf : ox'.isFreed = false) (U : Upd x ox ox' news news')
    (h : ∀ h', Fr h₀ L h' m → News h₀ L h' news' → Q () { s with heap := h', toks := s.toks + 1 }) : wpAny (model prog w) A (setAttr (.ref x) name v) Q E s := by
  obtain ⟨pre, post, rfl, rfl, a, b⟩ := U.split
  have X := X₀.keeps F.keep
  refine set_plain X I hs (osa_v (s := { s with toks := s.toks + 1 }) X I hc ne hb hr ht ?_)
  refine wpAny_bind (wpAny_rule (wpAny_bind (wpAny_holding (wpAny_bind (wpAny_bind (Looks.here (s := { s with toks := s.toks + 1 }) (looks_typeIn X hT) (Looks.here (s := { s with toks := s.toks + 1 }) (Looks.of_pure KF.slot_mset.lookup) (wpAny_holding ?_))))))))
  rw [KF.slot_mset.bind]
  refine wpAny_bind (wpAny_pure (wpAny_bind (wpAny_call ?_)))
  exact slot_set (s := { s with toks := s.toks + 1 }) F N X I hi hz a b e hf fun h' F' N' => wpAny_pure (wpAny_pure (h h' F' N'))
end
theorem newsAdd {h₀ h h' : Heap} {L : Addr} {m : Str → Option Value} {news : List (Addr × Obj)} {o : Addr} {ob : Obj} (F : Fr h₀ L h m) (N : News h₀ L h' news) (ho : h'.get? o = some ob) (h0 : h.get? o = none) : News h₀ L h' ((o, ob) :: news) := by
  intro p hp
  rcases List.mem_cons.mp hp with rfl | hp
  · refine ⟨ho, fun e => ?_, ?_⟩
    · obtain ⟨oL, _, _, hL, _⟩ := F.ns
      rw [← e, h0] at hL
      cases hL
    · cases z : h₀.get? o with
      | none => rfl
      | some oz => rw [F.keep _ _ z] at h0; cases h0
  · exact N p hp
abbrev vtO (dx : Addr) (x : Str) (tk : Nat) (sl : Array (Option Value)) : Obj := ⟨.ref 387, some dx, .prim (.str x tk), sl⟩
set_option maxRecDepth 100000 in
set_option maxHeartbeats 8000000 in
theorem vnew {w : World} {p : Program} {loose : List Str} {mg mb : Str → Option Value} {A : Around} {s : Shared} {x : Str} {t : Nat}
   (h0 : Env0 w p loose mg mb s.heap) (hh : A.handled = none) (hd : A.depth < 840) (hu : A.units ≤ 4500) (hn : x.length ≤ 1000000) :
   wpAny (model prog0 w) A (call (.ref 358) [.ref 387, .str x t]) (Gave s fun v h' => ∃ o dx tk v1 v2, v = .ref o ∧ h'.get? o = some (vtO dx x tk #[some v1, some v2]) ∧ h'.get? dx = some edO ∧ s.heap.get? o = none ∧ s.heap.get? dx = none) Nev s := by
  refine wpAny_call ?_
  have KX := h0.K
  have T := h0.T
  refine' enterA (binds := [(Str.ofString "cls", .ref 387), (Str.ofString "value", .str x t), (Str.ofString "encoding", .str (Str.ofString "utf-8") 292), (Str.ofString "params", .none)]) KX T.nolimit ?ho ?hcd ?hroom ?hbind ?hloc ?_ ?c1 ?c2 ?c3 ?c4
  case ho => k_is
  case hcd => k_is
  case hroom => unfold recursionLimit; omega
  case hbind => exact binds_K KX rfl (by k_is) rfl rfl (by kernel_rfl)
  case hloc => exact locs rfl
  case c1 => decide
  case c2 => rfl
  case c3 => rfl
  case c4 => rfl
  intro L h₁ F hk
  have N : News s.heap L h₁ [] := News.nil
  try dsimp only
  try k_fold
  k_with "call" => refine stop ?_
  k_steps
  k_with_none
  refine ⟨?_⟩
  show wpAny _ _ (call (.ref 47) [.str x t] [(Str.ofString "encoding", .str (Str.ofString "utf-8") 292)]) _ _ _
  have K1 := KX.keeps F.keep
  refine wpAny_mono (weaken (A := A.deeper _) hh (show A.depth + 1 ≤ 950 by omega) (show A.units + 3 ≤ 5000 by omega) (toUniKwX (h0.X.keeps F.keep))) (fun v s2 hv => ?_) (fun _ _ z => z.elim)
  obtain ⟨h2, tk2, rfl, rfl, k2⟩ := hv
  have F2 := frExt F k2
  have N2 : News s.heap L h2 [] := News.nil
  clear N
  refine storeX_L F2 N2 ?_
  intro h3 F3 N3
  clear F2 N2
  dsimp only
  refine ks_wpAt_execs_cons (ks_wpAt_Assign_Name (ks_wpAt_MethodCall ?_))
  refine ks_wpAt_super_base (env := envX _ _ _ _ _ _) (by rfl) (by rfl) (by decide) rfl ((KX.keeps F3.keep) _ _ (by k_is)) rfl (by rfl) rfl ((KX.keeps F3.keep) _ _ (by k_is)) rfl (by rfl) (by first | rfl | decide +kernel) (by decide +kernel) ?_
  have K3 := KX.keeps F3.keep
  refine ks_loadName_global (by rfl) (by rfl) (loadGlobal_builtin (env := envX _ _ _ _ _ _) (T.g.keeps F3.keep) (mg_none_of KX T.g (by k_is)) (T.b.keeps F3.keep) ((T.builtins _ (by decide +kernel)).trans (by first | boot_by_name | rfl | kernel_rfl)) ⟨rfl, ?_⟩)
  refine wpAny_loadName_free (by rfl) (by rfl) (by rfl) ⟨_, K3 _ _ (by k_is), rfl⟩ ?_
  refine wpAny_loadName_local (by rfl) (by rfl) F3.ns (by rfl) ?_
  refine ks_wpAny_isType_cls (K3 387 _ (by k_is)) (by rfl) ⟨rfl, ?_⟩
  refine wpAny_mono (weaken (A := A.deeper _) hh (show A.depth + 1 ≤ 950 by omega) (show A.units + 3 ≤ 5000 by omega) (superX K3)) (fun v s4 hv => ?_) (fun _ _ z => z.elim)
  obtain ⟨h4, tk4, rfl, ⟨so, rfl, hso⟩, k4⟩ := hv
  have K4 := K3.keeps k4
  refine sup_gm_n K4 hso (looks_opaque K4 (by k_is)) (l₀ := [.ref 387, .type "str", .type "object"]) (fun A Q E s k q => wpAny_bind ((looks_clsIn K4 (by k_is)) A _ E s k (wpAny_pure q))) rfl (by rfl) ?_
  have F4 := frExt F3 k4
  have N4 : News s.heap L h4 [] := News.nil
  clear N3 F3
  k_with "call" => refine stop ?_
  k_steps
  k_with_none
  refine ⟨?_⟩
  show wpAny _ _ (call (.builtin "str.__new__") [.ref 387, .str x t]) _ _ _
  refine wpAny_mono (weaken (A := A.deeper _) hh (show A.depth + 1 ≤ 950 by omega) (show A.units + 3 ≤ 5000 by omega) (strNewX K4 hn)) (fun v s5 hv => ?_) (fun _ _ z => z.elim)
  obtain ⟨h5, tk5, rfl, ⟨o, dx, ot, rfl, ho, hdx, hne, ho0, hdx0⟩, k5⟩ := hv
  have F5 := frExt F4 k5
  have N5 : News s.heap L h5 [(o, vtO dx x ot #[]), (dx, edO)] := newsAdd F4 (newsAdd F4 News.nil hdx hdx0) ho ho0
  clear F4 N4
  k_steps

  (rename Fr _ _ _ _ => F6); (rename News _ _ _ _ => N6)
  have I6 : InstAt _ o (vtO dx x ot #[]) 387 (some edO) := ⟨(N6 _ (.head _)).1, rfl, rfl, (N6 _ (.tail _ (.head _))).1⟩
  refine' set_slotV (ox' := vtO dx x ot #[some (.str (Str.ofString "utf-8") 292)]) F6 KX N6 I6 (by k_is) (by k_is) (by rfl) (by rfl) (refuse_str _) (by k_is) (by k_is) (by k_is) (by decide) ?e ?hf ?U ?_
  case e => rfl
  case hf => exact rfl
  case U => exact .head (by simpa using Ne.symm hne)
  intro h7 F7 N7
  clear I6
  k_with "call ref" => refine stop ?_
  dsimp only
  k_steps
  k_with_none
  refine ⟨?_⟩
  refine wpAny_mono (par (A := A.deeper _) (s := ⟨h7, _, _, _, _⟩) (h0.keeps F7.keep) hh (show A.depth + 1 < 860 by omega) (show A.units + 3 ≤ 4600 by omega)) (fun v s8 hv => ?_) (fun _ _ z => z.elim)
  obtain ⟨h8, tk8, rfl, ⟨q, qd, rfl, Iq, hq0⟩, k8⟩ := hv
  have F8 := frExt F7 k8
  have N8 := newsExt N7 k8
  clear F7 N7
  k_steps
  have I8 : InstAt h8 o (vtO dx x ot #[some (.str (Str.ofString "utf-8") 292)]) 387 (some edO) := ⟨(N8 _ (.head _)).1, rfl, rfl, (N8 _ (.tail _ (.head _))).1⟩
  refine' set_slotV (ox' := vtO dx x ot #[some (.str (Str.ofString "utf-8") 292), some (.ref q)]) F8 KX N8 I8 (by k_is) (by k_is) (by rfl) (by rfl) (refuse_str _) (by k_is) (by k_is) (by k_is) (by decide) ?e ?hf ?U ?_
  case e => rfl
  case hf => exact rfl
  case U => exact .head (by simpa using Ne.symm hne)
  intro h9 F9 N9
  clear I8 F8 N8
  dsimp only
  k_steps
  exact ⟨_, _, rfl, ⟨o, dx, ot, _, _, rfl, (N9 _ (.head _)).1, (N9 _ (.tail _ (.head _))).1, (N9 _ (.head _)).2.2, (N9 _ (.tail _ (.head _))).2.2⟩, F9.keep⟩
end Mine
end
section
open PySem PySem.W PyProof.Rows PySem.Calls
namespace Mine
theorem fillit15 : (∀ (w : World) (s : Shared), (Mine.kd.heap_1 w.params).In s.heap → PySem.Challenge.rw_br0007_01.prog = PySem.Challenge.rw_br0007_01.prog) := by
  k_fill
  intros; rfl
section
set_option maxRecDepth 100000
set_option maxHeartbeats 8000000
theorem gaType {w : World} {A : Around} {h : Heap} {g : Array GenState} {d : Drawn} {t : Nat} {os : OsState} (KX : (Mine.kd.heap_1 w.params).In h) (hh : A.handled = none) (hd : A.depth ≤ 950) (hu : A.units ≤ 5000) {Q E : Value → Shared → Prop}
   (hq : ∀ h' tk, (∀ b o, h.get? b = some o → h'.get? b = some o) → Q (.ref 358) ⟨h', g, d, tk, os⟩) : wpAny (model prog0 w) A (getAttr (.ref 387) (Str.ofString "__new__")) Q E ⟨h, g, d, t, os⟩ := by
  have hT : Looks (model prog0 w) h (typeOf (.ref 387)) (.type "type") := looks_typeIn KX (by k_is)
  have h1 : Looks (model prog0 w) h (typeLookup (.type "type") "__getattribute__") (some (.builtin "type.__getattribute__")) := Looks.of_pure (by rw [typeLookup_type, builtinLookup_eq_fast]; kernel_rfl)
  have hb : bindSpecial (.builtin "type.__getattribute__") (.ref 387) = pure (.builtin "type.__getattribute__", [.ref 387]) := by unfold bindSpecial; kernel_rfl
  unfold getAttr getAttrBy
  refine wpAny_bind (wpAny_mkText (wpAny_holding (wpAny_bind (hT.at (wpAny_bind (h1.at ?_))))))
  show wpAny _ _ (getAttrByItsOwn (.ref 387) (.str (Str.ofString "__new__") t) (.type "type") (.builtin "type.__getattribute__") true false) _ _ _
  unfold getAttrByItsOwn hookBefore callGetattribute boundAndCalled
  refine wpAny_bind (wpAny_of_eq (show (if onTheHeap (.type "type") then typeLookup (.type "type") "__getattr__" else pure none) = pure none from rfl) ?_)
  refine wpAny_bind (wpAny_attempt (wpAny_holding ?_))
  show wpAny _ _ (bindSpecial (.builtin "type.__getattribute__") (.ref 387) >>= _) _ _ _
  refine wpAny_bind (wpAny_of_eq hb ?_)
  refine wpAny_mono (weaken hh hd hu (typeGaX (s := ⟨h, g, d, t + 1, os⟩) KX)) (fun v s4 hv => ?_) (fun _ _ z => z.elim)
  obtain ⟨h4, tk4, rfl, rfl, k4⟩ := hv
  exact wpAny_pure (hq _ _ k4)
theorem vt {w : World} {p : Program} {loose : List Str} {mg mb : Str → Option Value} {A : Around} {s : Shared} {x : Str} {tx : Nat}
   (h0 : Env0 w p loose mg mb s.heap) (hh : A.handled = none) (hd : A.depth < 820) (hu : A.units ≤ 4400) (hn : x.length ≤ 1000000) :
   wpAny (model prog0 w) A (call (.ref 387) [.str x tx]) (Gave s fun v h' => ∃ o dx tk v1 v2, v = .ref o ∧ h'.get? o = some (vtO dx x tk #[some v1, some v2]) ∧ h'.get? dx = some edO ∧ s.heap.get? o = none ∧ s.heap.get? dx = none) Nev s := by
  refine wpAny_call ?_
  have KX := h0.K
  obtain ⟨h, g, d, t, os⟩ := s
  have made : Looks (model prog0 w) h (Bind.madeBy (.ref 387)) none := Looks.of_peek KX (by rfl)
  have call : Looks (model prog0 w) h (specialOf (.ref 387) "__call__") (some (.builtin "type.__call__")) := looks_specialIn KX (by k_is)
  have typ : Looks (model prog0 w) h (isInstance (.ref 387) (.type "type")) true := looks_instIn KX (by k_is)
  have hm : Looks (model prog0 w) h (mroOf (.ref 387)) [.ref 387, .type "str", .type "object"] := Looks.of_peek KX (by rfl)
  have hi : Looks (model prog0 w) h (typeLookup (.ref 387) "__init__") (some (.builtin "object.__init__")) := looks_findIn KX (by k_is)
  have hb : ∀ self, Looks (model prog0 w) h (bindSpecial (.builtin "object.__init__") self) (.builtin "object.__init__", [self]) := fun self => Looks.of_pure (oi_bind self)
  have self : Looks (model prog0 w) h (isSubtype (.ref 387) (.ref 387)) true := looks_mroIn KX (by k_is)
  refine codeAny_of_tree ?_
  show wpAny _ _ (callAny (.ref 387) _) _ _ _
  refine nd_load (KX _ _ (by k_is)) ?_
  show wpAny _ _ (callAny.viaDunder (.ref 387) _) _ _ _
  unfold callAny.viaDunder
  refine wpAny_bind (call.at ?_)
  dsimp only
  rw [tc_bind]
  refine wpAny_bind (wpAny_pure (wpAny_bind (wpAny_pure ?_)))
  refine wpAny_pure (a := Fin.again (.call (.builtin "type.__call__") ⟨.ref 387 :: [.str x tx], []⟩)) (And.intro rfl ?_)
  refine codeAny_call_builtin_at (Code.quiet_builtin _ (by decide +kernel)) entry_typeCall (check_slot tc_kind tc_split typ (tc_args _ _ _) ?_)
  unfold Builtin.«type.__call__»
  have hA : (A.under (.builtin "type.__call__" ⟨[.ref 387, .str x tx], []⟩)).handled = none := hh
  have hAd : (A.under (.builtin "type.__call__" ⟨[.ref 387, .str x tx], []⟩)).depth ≤ A.depth + 1 := by show A.depth + Code.weight _ ≤ A.depth + 1; exact Nat.add_le_add_left (by show (1 : Nat) ≤ 1; exact Nat.le_refl _) _
  have hAu : (A.under (.builtin "type.__call__" ⟨[.ref 387, .str x tx], []⟩)).units ≤ A.units + 1 := by show A.units + Code.cUnits _ ≤ A.units + 1; exact Nat.add_le_add_left (by show (1 : Nat) ≤ 1; exact Nat.le_refl _) _
  generalize hA' : A.under (.builtin "type.__call__" ⟨[.ref 387, .str x tx], []⟩) = A' at hA hAd hAu ⊢
  have GA : ∀ {Q E : Value → Shared → Prop}, (∀ h' tk, (∀ b o, h.get? b = some o → h'.get? b = some o) → Q (.ref 358) ⟨h', g, d, tk, os⟩) → wpAny (model prog0 w) A' (getAttr (.ref 387) (Str.ofString "__new__")) Q E ⟨h, g, d, t, os⟩ := fun hq => gaType KX hA (by omega) (by omega) hq
  have VN : ∀ {Q E : Value → Shared → Prop} {h2 tk2}, (∀ b o, h.get? b = some o → h2.get? b = some o) → (∀ o dx ot v1 v2 h3 tk3, h3.get? o = some (vtO dx x ot #[some v1, some v2]) → h3.get? dx = some edO → h2.get? o = none → h2.get? dx = none → (∀ b o, h2.get? b = some o → h3.get? b = some o) → Q (.ref o) ⟨h3, g, d, tk3, os⟩) →
      wpAny (model prog0 w) A' (PySem.call (.ref 358) [.ref 387, .str x tx]) Q E ⟨h2, g, d, tk2, os⟩ := fun {Q E h2 tk2} k2 hq =>
    wpAny_mono (vnew (s := ⟨h2, g, d, tk2, os⟩) (h0.keeps k2) hA (by omega) (by omega) hn) (fun v s' hv => by
      obtain ⟨h3, tk3, rfl, ⟨o, dx, ot, v1, v2, rfl, e1, e2, e3, e4⟩, k3⟩ := hv
      exact hq o dx ot v1 v2 h3 tk3 e1 e2 e3 e4 k3) fun _ _ z => z.elim
  repeat (first | (with_reducible refine GA ?_; intro h2 tk2 k2; (have VN2 := @VN)) | (with_reducible refine VN2 k2 ?_; intro o dx ot v1 v2 h3 tk3 ho hdx ho0 hdx0 k3; refine stop ?_) | lk)
  refine ⟨?_⟩
  have kk : ∀ b o, h.get? b = some o → h3.get? b = some o := fun b o e => k3 _ _ (k2 _ _ e)
  have t1 : Looks (model prog0 w) h3 (typeOf (.ref o)) (.ref 387) := looks_type (s := ⟨h3, g, d, tk3, os⟩) ho rfl
  have s1 := self.keeps kk
  have i1 := hi.keeps kk
  have b1 := (hb (.ref o)).keeps kk
  have OI : ∀ {Q E : Value → Shared → Prop} {tk}, (∀ h4 tk4, (∀ b o, h3.get? b = some o → h4.get? b = some o) → Q .none ⟨h4, g, d, tk4, os⟩) → wpAny (model prog0 w) A' (PySem.call (.builtin "object.__init__") ([.ref o] ++ [.str x tx])) Q E ⟨h3, g, d, tk, os⟩ := fun {Q E tk} hq =>
    wpAny_mono (weaken hA (by omega) (by omega) (objInitX (s := ⟨h3, g, d, tk, os⟩) (KX.keeps kk) ho)) (fun v s' hv => by obtain ⟨h4, tk4, rfl, rfl, k4⟩ := hv; exact hq _ _ k4) fun _ _ z => z.elim
  unfold isInstance callSpecial? specialOf
  repeat (first | (with_reducible refine OI ?_; intro h4 tk4 k4) | lk)
  have n1 : ∀ a, h2.get? a = none → h.get? a = none := fun a e => by
    cases z : h.get? a with
    | none => rfl
    | some oz => rw [k2 _ _ z] at e; cases e
  exact ⟨h4, tk4, rfl, ⟨o, dx, ot, v1, v2, rfl, k4 _ _ ho, k4 _ _ hdx, n1 _ ho0, n1 _ hdx0⟩, fun b o e => k4 _ _ (kk _ _ e)⟩
end
end Mine
end
section
open PySem PySem.W PyProof.Rows PySem.Calls
namespace Mine
theorem fillit16 : (∀ (w : World) (s : Shared), (Mine.kd.heap_1 w.params).In s.heap → PySem.Challenge.rw_br0007_01.prog = PySem.Challenge.rw_br0007_01.prog) := by
  k_fill
  intros; rfl
/-- a sign exchanged for a text -/
def sub (c : Nat) (z : List Nat) (l : List Nat) : List Nat := l.flatMap fun d => if d = c then z else [d]
theorem sub_app (c : Nat) (z a b : List Nat) : sub c z (a ++ b) = sub c z a ++ sub c z b := by unfold sub; rw [List.flatMap_append]
theorem sub_free (c : Nat) (z : List Nat) : ∀ l : List Nat, c ∉ l → sub c z l = l
  | [], _ => rfl
  | d :: r, h => by
    have h1 : d ≠ c := fun e => h (e ▸ .head _)
    have h2 : c ∉ r := fun e => h (.tail _ e)
    have := sub_free c z r h2
    unfold sub at this ⊢
    rw [List.flatMap_cons, this, if_neg h1]
    rfl
theorem sub_join (c : Nat) (z : Str) : ∀ parts : List Str, (∀ p ∈ parts, c ∉ p.cps.toList) → sub c z.cps.toList (Str.join ⟨#[c]⟩ parts).cps.toList = (Str.join z parts).cps.toList
  | [], _ => rfl
  | [p], h => by
    show sub c _ p.cps.toList = p.cps.toList
    exact sub_free c _ _ (h p (.head _))
  | p :: q :: r, h => by
    have ih := sub_join c z (q :: r) fun a ha => h a (.tail _ ha)
    show sub c _ ((p.cps ++ #[c]) ++ (Str.join ⟨#[c]⟩ (q :: r)).cps).toList = ((p.cps ++ z.cps) ++ (Str.join z (q :: r)).cps).toList
    rw [Array.toList_append, Array.toList_append, sub_app, sub_app, ih, sub_free c _ _ (h p (.head _)), Array.toList_append, Array.toList_append]
    congr 2
    unfold sub
    simp
theorem replace_sub (x z : Str) (c : Nat) : (Txt.replace x ⟨#[c]⟩ z).cps.toList = sub c z.cps.toList x.cps.toList := by
  rw [StrLaws.replace_one, ← sub_join c z _ (StrLaws.split_free x c), StrLaws.join_split]
theorem occ_off (x y : Str) (limit d : Nat) (h1 : d ∈ y.cps.toList) (h2 : d ∉ x.cps.toList) : (Builtin.Str.occurrences x y 0 x.length limit).isEmpty = true := by
  obtain ⟨f, hc⟩ := StrLaws.occ_chain x y limit
  cases ho : Builtin.Str.occurrences x y 0 x.length limit with
  | nil => rfl
  | cons i r =>
    rw [ho] at hc
    exfalso
    obtain ⟨_, ⟨_, hat⟩, _⟩ := hc
    rw [StrLaws.subAt_eq, beq_iff_eq] at hat
    rw [← hat] at h1
    exact h2 (List.mem_of_mem_drop (List.mem_of_mem_take h1))
theorem replace_off (x y z : Str) (d : Nat) (h1 : d ∈ y.cps.toList) (h2 : d ∉ x.cps.toList) : Txt.replace x y z = x := by
  unfold Txt.replace
  rw [occ_off x y _ d h1 h2, Bool.true_or, if_pos rfl]
section
variable {prog : Program} {w : World} {A : Around} {E : Value → Shared → Prop} {s : Shared} {x y z : Str} {t u v : Tok} {Q : Value → Shared → Prop}
open Builtin Builtin.Str
theorem repS (hu : u ≠ 0) (hv : v ≠ 0) (huv : u ≠ v) (hyz : (y == z) = false) (hb : x.length + (x.length + 1) * z.length ≤ 16777216)
    (hq : ∀ t' k, s.toks ≤ k → Q (.str (Txt.replace x y z) t') { s with toks := k }) : wpAny (model prog w) A (call (.builtin "str.replace") [.str x t, .str y u, .str z v]) Q E s := by
  have e : (2 : Nat) ^ 24 = 16777216 := by decide
  have hl : tooLong (x.length + (occurrences x y 0 x.length (x.length + 1)).length * z.length) = false := by
    have h1 := StrLaws.occ_length_le x y 0 x.length (x.length + 1)
    have h2 : (occurrences x y 0 x.length (x.length + 1)).length * z.length ≤ (x.length + 1) * z.length := Nat.mul_le_mul_right _ h1
    unfold tooLong sizeLine
    exact decide_eq_false (by omega)
  refine call_gives F.slot_str_replace (typeIs_str _ _ _) F.entry_str_replace (F.args_str_replace_3 _ _ _)
    (gives_str_replace x y z t u v fun _ => ⟨by simp [hu, hv], by simp [huv], hyz, hl⟩) ?_
  have hq' := hq
  unfold Txt.replace at hq'
  cases hc : ((occurrences x y 0 x.length (x.length + 1)).isEmpty || (y.length == 0 && z.length == 0))
  · rw [hc] at hq'
    simp only [Bool.false_eq_true, if_false] at hq' ⊢
    exact ⟨fits_replaced y hb, hq' _ _ (Nat.le_succ _)⟩
  · rw [hc] at hq'
    simp only [if_true] at hq' ⊢
    exact hq' t s.toks (Nat.le_refl _)
end
theorem check_meth {M : Model} {A : Around} {E : Value → Shared → Prop} {s : Shared} {i owner n : String} {self : Value} {rest : List Value} {kw : List (Str × Value)} {Q : Unit → Shared → Prop}
    (hk : builtinKind i = some .method) (hs : splitId i = some (owner, n)) (hi : Looks M s.heap (isInstance self (.type owner)) true) (ha : argsOk i ⟨self :: rest, kw⟩) (q : Q () s) :
    wpAny M A (checkBuiltinCall i ⟨self :: rest, kw⟩) Q E s := by
  simp only [checkBuiltinCall, hk, hs]
  refine wpAny_bind (hi.here ?_)
  simp only [Bool.not_true, Bool.false_eq_true, if_false]
  cases hsig : Manifest.signature? i with
  | none => exact wpAny_pure q
  | some sig =>
    simp only [argsOk, hsig] at ha
    have h2 : Bind.checkArgs i sig ⟨self :: rest, kw⟩ = pure () := ha
    show wpAny M A (Bind.checkArgs i sig ⟨self :: rest, kw⟩) Q E s
    rw [h2]; exact wpAny_pure q
theorem rep_kind : builtinKind "str.replace" = some .method := by decide +kernel
theorem rep_split : splitId "str.replace" = some ("str", "replace") := by decide +kernel
section
set_option maxRecDepth 100000
theorem vt_inst {w : World} {s : Shared} {o dx : Addr} {x : Str} {tk : Nat} {sl : Array (Option Value)} (KX : (Mine.kd.heap_1 w.params).In s.heap) (ho : s.heap.get? o = some (vtO dx x tk sl)) : Looks (model prog0 w) s.heap (isInstance (.ref o) (.type "str")) true :=
  (looks_type ho rfl).andThen (looks_subIn KX (by k_is))
open Builtin Builtin.Str in
theorem repR {w : World} {A : Around} {E : Value → Shared → Prop} {s : Shared} {o dx : Addr} {x y z : Str} {t u v dd : Nat} {sl : Array (Option Value)} {Q : Value → Shared → Prop} (KX : (Mine.kd.heap_1 w.params).In s.heap) (ho : s.heap.get? o = some (vtO dx x t sl))
    (h1 : dd ∈ y.cps.toList) (h2 : dd ∉ x.cps.toList) (hn : x.length ≤ 1000000) (hq : ∀ t' k, s.toks ≤ k → Q (.str x t') { s with toks := k }) : wpAny (model prog0 w) A (call (.builtin "str.replace") [.ref o, .str y u, .str z v]) Q E s := by
  have hocc := occ_off x y (x.length + 1) dd h1 h2
  have hi := vt_inst KX ho
  refine wpAny_call (codeAny_call_builtin PySem.F.slot_str_replace.plain PySem.F.entry_str_replace (check_meth rep_kind rep_split hi (PySem.F.args_str_replace_3 _ _ _) ?_))
  obtain ⟨h, g, d, tk, os⟩ := s
  dsimp only at ho
  unfold Builtin.«str.replace» strSelf textOf
  repeat lk
  rw [hocc, Bool.true_or, if_pos rfl]
  refine wpAny_bind (wpAny_rule (wpAny_bind ?_))
  show wpAny _ _ (mkStr x) _ _ _
  refine wpAny_mkStr (wpAny_pure (hq _ _ (Nat.le_succ _))) (by rw [sizeLine_eq]; omega)
end
theorem ns0 {h : Heap} {a : Addr} (e : h.get? a = some edO) : h.Ns a (fun _ => none) := by
  obtain ⟨o, es, ep, ho, hd, h1, h2⟩ := Heap.Ns.new ({} : Heap) (.type "dict")
  rw [Heap.get?_push_at rfl rfl] at ho
  cases ho
  cases hd
  exact ⟨_, _, _, e, rfl, h1, h2⟩
section
variable {prog : Program} {w : World} {A : Around} {E : Value → Shared → Prop} {s : Shared} {K : Frag} {x C dx : Addr} {ox : Obj}
/-- a method of a class's built-in base, found on an object with an empty dict -/
theorem method_base2 {f tf : Value} {name : Str} {pl : Sem Bool} {Q : Value × List Value → Shared → Prop} {i : String} (X : K.In s.heap) (hx : s.heap.get? x = some ox) (hc : ox.cls = .ref C) (hd : ox.dict = some dx) (hdx : s.heap.get? dx = some edO)
   (hg : findIn K (.ref C) "__getattribute__" = some (some (.builtin i))) (hi : (Manifest.canonical i != "object.__getattribute__") = false) (ha : findIn K (.ref C) "__getattr__" = some none)
   (hf : findIn K (.ref C) name = some (some f)) (ht : typeIn K f = some tf) (hk : (tf != .type "function" && tf != .type "method_descriptor" && tf != .type "wrapper_descriptor") = false) (h : Q (f, [.ref x]) s) :
   wpAny (model prog w) A (getMethod (.ref x) name pl) Q E s := by
  have L0 := looks_type (M := model prog w) hx hc
  have L1 : Looks (model prog w) s.heap (specialOf (.ref x) "__getattribute__") (some (.builtin i)) := L0.andThen (looks_findIn X hg)
  have L2 : Looks (model prog w) s.heap (specialOf (.ref x) "__getattr__") none := L0.andThen (looks_findIn X ha)
  have L3 : Looks (model prog w) s.heap (specialOf (.ref x) name) (some f) := L0.andThen (looks_findIn X hf)
  have L4 := looks_typeIn (M := model prog w) X ht
  have hN := ns0 hdx
  obtain ⟨hh, g, d, tt, os⟩ := s
  unfold getMethod
  refine wpAny_bind (L1.at ?_)
  dsimp only
  rw [hi, if_neg Bool.false_ne_true]
  refine wpAny_bind (L2.at ?_)
  dsimp only [Option.isSome]
  rw [if_neg Bool.false_ne_true]
  refine wpAny_bind (L3.at ?_)
  dsimp only
  refine wpAny_bind (L4.at ?_)
  rw [hk, if_neg Bool.false_ne_true]
  refine wpAny_bind (wpAny_loadPart_at hx ?_)
  rw [hd]
  refine wpAny_bind (wpAny_nsGet hN ?_)
  repeat lk
  exact h
end
end Mine
end
section
open PySem PySem.W PyProof.Rows PySem.Calls
namespace Mine
theorem fillit17 : (∀ (w : World) (s : Shared), (Mine.kd.heap_1 w.params).In s.heap → PySem.Challenge.rw_br0007_01.prog = PySem.Challenge.rw_br0007_01.prog) := by
  k_fill
  intros; rfl
def escL (l : List Nat) : List Nat := sub 10 [92, 110] (sub 44 [92, 44] (sub 59 [92, 59] (sub 92 [92, 92] l)))
def OkL (l : List Nat) : Prop := ∀ c ∈ l, c < 128 ∧ c ≠ 78 ∧ c ≠ 13
theorem sub_ok {c : Nat} {z l : List Nat} (hz : OkL z) (hl : OkL l) : OkL (sub c z l) := by
  intro d hd
  unfold sub at hd
  rw [List.mem_flatMap] at hd
  obtain ⟨e, he, hd⟩ := hd
  split at hd
  · exact hz d hd
  · rw [List.mem_singleton] at hd
    subst hd
    exact hl _ he
theorem sub_len {c : Nat} {z l : List Nat} (hz : z.length = 2) : (sub c z l).length ≤ 2 * l.length := by
  induction l with
  | nil => simp [sub]
  | cons d r ih =>
    unfold sub at ih ⊢
    rw [List.flatMap_cons, List.length_append, List.length_cons]
    split
    · rw [hz]; omega
    · simp only [List.length_cons, List.length_nil]; omega
theorem esc_ok {l : List Nat} (h : OkL l) : OkL (escL l) := by
  unfold escL
  refine sub_ok ?_ (sub_ok ?_ (sub_ok ?_ (sub_ok ?_ h))) <;> (intro c hc; simp only [List.mem_cons, List.not_mem_nil, or_false] at hc; omega)
theorem toList_ext {a b : Str} (h : a.cps.toList = b.cps.toList) : a = b := by
  obtain ⟨⟨a⟩⟩ := a
  obtain ⟨⟨b⟩⟩ := b
  cases h
  rfl
set_option maxRecDepth 100000 in
set_option maxHeartbeats 8000000 in
theorem esc {w : World} {p : Program} {loose : List Str} {mg mb : Str → Option Value} {A : Around} {s : Shared} {o dx : Addr} {x : Str} {tk : Nat} {sl : Array (Option Value)}
   (h0 : Env0 w p loose mg mb s.heap) (hh : A.handled = none) (hd : A.depth < 800) (hu : A.units ≤ 4300) (ho : s.heap.get? o = some (vtO dx x tk sl)) (hdx : s.heap.get? dx = some edO) (hx : OkL x.cps.toList) (hn : x.length ≤ 10000) :
   wpAny (model prog0 w) A (call (.ref 185) [.ref o]) (Gave s fun v _ => ∃ t', v = .str ⟨(escL x.cps.toList).toArray⟩ t') Nev s := by
  refine wpAny_call ?_
  have KX := h0.K
  have T := h0.T
  refine' enter0 (binds := [(Str.ofString "text", .ref o)]) KX T.nolimit ?ho ?hcd ?hroom ?hbind ?hloc ?_ ?c1 ?c2 ?c3 ?c4
  case ho => k_is
  case hcd => k_is
  case hroom => unfold recursionLimit; omega
  case hbind => exact BindsTo.of_eq rfl
  case hloc => exact locs rfl
  case c1 => decide
  case c2 => rfl
  case c3 => rfl
  case c4 => rfl
  intro L h₁ F hk
  have N : News s.heap L h₁ [] := News.nil
  try dsimp only
  try k_fold
  k_with "call builtin:isinstance" => refine stop ?_
  k_steps
  k_with_none
  refine ⟨?_⟩
  (rename Fr _ _ _ _ => F1); (rename News _ _ _ _ => N1)
  have K1 := KX.keeps F1.keep
  refine isi_tup (r := [.type "bytes"]) K1 (F1.keep _ _ ho) rfl (by k_is) (by rfl) (N1 _ (.head _)).1 ?_ ?_
  · intro e
    have e2 := (N1 _ (.head _)).2.2
    rw [← e, KX 387 _ (by k_is)] at e2
    cases e2
  k_with "call ref" => refine stop ?_
  k_steps
  k_with_none
  refine ⟨?_⟩
  refine wpAny_mono (weaken (A := A.deeper _) hh (show A.depth + 1 ≤ 950 by omega) (show A.units + 3 ≤ 5000 by omega) (toUniRX (h0.X.keeps F1.keep) (F1.keep _ _ ho))) (fun v s2 hv => ?_) (fun _ _ z => z.elim)
  obtain ⟨h2, tk2, rfl, rfl, k2⟩ := hv
  have F2 := frExt F1 k2
  have N2 : News s.heap L h2 [] := News.nil
  clear F1 N1
  k_with "getMethod ref" => refine stop ?_
  k_steps
  k_with_none
  refine ⟨?_⟩

  (rename Fr _ _ _ _ => F3); (rename News _ _ _ _ => N3)
  have K3 := KX.keeps F3.keep
  refine method_base2 K3 (F3.keep _ _ ho) rfl rfl (F3.keep _ _ hdx) (by k_is) (by decide +kernel) (by k_is) (by k_is) (by k_is) (by decide) ?_
  k_with "call builtin:str.replace" => refine stop ?_
  k_steps
  k_with_none
  refine ⟨?_⟩
  refine repR (dd := 78) K3 (F3.keep _ _ ho) (by decide +kernel) (fun e => (hx _ e).2.1 rfl) (by omega) ?_
  intro t3 k3 hk3
  have nz : ∀ k : Nat, 2 ≤ k → k ≠ 0 ∧ k + 1 ≠ 0 ∧ k ≠ k + 1 := fun k h => ⟨by omega, by omega, by omega⟩
  have q3 : 2 ≤ k3 := Nat.le_trans (Nat.le_add_left 2 _) hk3
  have len4 : (sub 92 [92, 92] x.cps.toList).length ≤ 20000 := Nat.le_trans (sub_len rfl) (by have : x.length = x.cps.toList.length := by rw [Array.length_toList]; rfl
                                                                                              omega)
  have len5 : (sub 59 [92, 59] (sub 92 [92, 92] x.cps.toList)).length ≤ 40000 := Nat.le_trans (sub_len rfl) (by omega)
  have len6 : (sub 44 [92, 44] (sub 59 [92, 59] (sub 92 [92, 92] x.cps.toList))).length ≤ 80000 := Nat.le_trans (sub_len rfl) (by omega)
  have len7 : (escL x.cps.toList).length ≤ 160000 := Nat.le_trans (sub_len rfl) (by omega)
  have hz : ∀ a b : Nat, (a = 92 ∨ a = 59 ∨ a = 44 ∨ a = 110) → (b = 92 ∨ b = 59 ∨ b = 44 ∨ b = 110) → OkL [a, b] := by
    intro a b ha hb c hc
    simp only [List.mem_cons, List.not_mem_nil, or_false] at hc
    omega
  have ok4 : OkL (sub 92 [92, 92] x.cps.toList) := sub_ok (hz _ _ (by omega) (by omega)) hx
  have ok5 : OkL (sub 59 [92, 59] (sub 92 [92, 92] x.cps.toList)) := sub_ok (hz _ _ (by omega) (by omega)) ok4
  have ok6 : OkL (sub 44 [92, 44] (sub 59 [92, 59] (sub 92 [92, 92] x.cps.toList))) := sub_ok (hz _ _ (by omega) (by omega)) ok5
  have ok7 : OkL (escL x.cps.toList) := sub_ok (hz _ _ (by omega) (by omega)) ok6
  k_with "call builtin:str.replace" => refine stop ?_
  k_steps
  k_with_none
  refine ⟨?_⟩
  refine repS (nz _ q3).1 (nz _ q3).2.1 (nz _ q3).2.2 (by decide +kernel) ?_ ?_
  · rw [show (Str.ofString "\\\\").length = 2 by decide +kernel]
    omega
  intro t4 k4 hk4
  have e4 : Txt.replace x (Str.ofString "\\") (Str.ofString "\\\\") = ⟨(sub 92 [92, 92] x.cps.toList).toArray⟩ := toList_ext (by rw [show Str.ofString "\\" = ⟨#[92]⟩ by decide +kernel, replace_sub]; rfl)
  rw [e4]
  have q4 : 2 ≤ k4 := Nat.le_trans (Nat.le_add_left 2 _) hk4
  clear hk4
  k_with "call builtin:str.replace" => refine stop ?_
  k_steps
  k_with_none
  refine ⟨?_⟩
  refine repS (nz _ q4).1 (nz _ q4).2.1 (nz _ q4).2.2 (by decide +kernel) ?_ ?_
  · rw [show (Str.ofString "\\;").length = 2 by decide +kernel]
    show Array.size _ + (Array.size _ + 1) * 2 ≤ _; rw [List.size_toArray]; omega
  intro t5 k5 hk5
  have e5 : Txt.replace ⟨(sub 92 [92, 92] x.cps.toList).toArray⟩ (Str.ofString ";") (Str.ofString "\\;") = ⟨(sub 59 [92, 59] (sub 92 [92, 92] x.cps.toList)).toArray⟩ := toList_ext (by rw [show Str.ofString ";" = ⟨#[59]⟩ by decide +kernel, replace_sub]; rfl)
  rw [e5]
  have q5 : 2 ≤ k5 := Nat.le_trans (Nat.le_add_left 2 _) hk5
  clear hk5
  k_with "call builtin:str.replace" => refine stop ?_
  k_steps
  k_with_none
  refine ⟨?_⟩
  refine repS (nz _ q5).1 (nz _ q5).2.1 (nz _ q5).2.2 (by decide +kernel) ?_ ?_
  · rw [show (Str.ofString "\\,").length = 2 by decide +kernel]
    show Array.size _ + (Array.size _ + 1) * 2 ≤ _; rw [List.size_toArray]; omega
  intro t6 k6 hk6
  have e6 : Txt.replace ⟨(sub 59 [92, 59] (sub 92 [92, 92] x.cps.toList)).toArray⟩ (Str.ofString ",") (Str.ofString "\\,") = ⟨(sub 44 [92, 44] (sub 59 [92, 59] (sub 92 [92, 92] x.cps.toList))).toArray⟩ := toList_ext (by rw [show Str.ofString "," = ⟨#[44]⟩ by decide +kernel, replace_sub]; rfl)
  rw [e6]
  have q6 : 2 ≤ k6 := Nat.le_trans (Nat.le_add_left 2 _) hk6
  clear hk6
  k_with "call builtin:str.replace" => refine stop ?_
  k_steps
  k_with_none
  refine ⟨?_⟩
  refine repS (nz _ q6).1 (nz _ q6).2.1 (nz _ q6).2.2 (by decide +kernel) ?_ ?_
  · rw [show (Str.ofString "\\n").length = 2 by decide +kernel]
    show Array.size _ + (Array.size _ + 1) * 2 ≤ _; rw [List.size_toArray]; omega
  intro t7 k7 hk7
  have e7 : Txt.replace ⟨(sub 44 [92, 44] (sub 59 [92, 59] (sub 92 [92, 92] x.cps.toList))).toArray⟩ (Str.ofString "\r\n") (Str.ofString "\\n") = ⟨(sub 44 [92, 44] (sub 59 [92, 59] (sub 92 [92, 92] x.cps.toList))).toArray⟩ := replace_off _ _ _ 13 (by decide +kernel) (fun e => (ok6 _ e).2.2 rfl)
  rw [e7]
  have q7 : 2 ≤ k7 := Nat.le_trans (Nat.le_add_left 2 _) hk7
  clear hk7
  k_with "call builtin:str.replace" => refine stop ?_
  k_steps
  k_with_none
  refine ⟨?_⟩
  refine repS (nz _ q7).1 (nz _ q7).2.1 (nz _ q7).2.2 (by decide +kernel) ?_ ?_
  · rw [show (Str.ofString "\\n").length = 2 by decide +kernel]
    show Array.size _ + (Array.size _ + 1) * 2 ≤ _; rw [List.size_toArray]; omega
  intro t8 k8 hk8
  have e8 : Txt.replace ⟨(sub 44 [92, 44] (sub 59 [92, 59] (sub 92 [92, 92] x.cps.toList))).toArray⟩ (Str.ofString "\n") (Str.ofString "\\n") = ⟨(escL x.cps.toList).toArray⟩ := toList_ext (by rw [show Str.ofString "\n" = ⟨#[10]⟩ by decide +kernel, replace_sub]; rfl)
  rw [e8]
  have q8 : 2 ≤ k8 := Nat.le_trans (Nat.le_add_left 2 _) hk8
  clear hk8
  k_with "call builtin:str.replace" => refine stop ?_
  k_steps
  k_with_none
  refine ⟨?_⟩
  refine repS (nz _ q8).1 (nz _ q8).2.1 (nz _ q8).2.2 (by decide +kernel) ?_ ?_
  · rw [show (Str.ofString "\\n").length = 2 by decide +kernel]
    show Array.size _ + (Array.size _ + 1) * 2 ≤ _; rw [List.size_toArray]; omega
  intro t9 k9 hk9
  have e9 : Txt.replace ⟨(escL x.cps.toList).toArray⟩ (Str.ofString "\r") (Str.ofString "\\n") = ⟨(escL x.cps.toList).toArray⟩ := replace_off _ _ _ 13 (by decide +kernel) (fun e => (ok7 _ e).2.2 rfl)
  rw [e9]
  have q9 : 2 ≤ k9 := Nat.le_trans (Nat.le_add_left 2 _) hk9
  clear hk9
  k_steps
  exact ⟨_, _, rfl, ⟨_, rfl⟩, fun b o e => F3.keep _ _ e⟩
end Mine
end
section
open PySem PySem.W PyProof.Rows PySem.Calls
namespace Mine
theorem fillit18 : (∀ (w : World) (s : Shared), (Mine.kd.heap_1 w.params).In s.heap → PySem.Challenge.rw_br0007_01.prog = PySem.Challenge.rw_br0007_01.prog) := by
  k_fill
  intros; rfl
def escS (x : Str) : Str := ⟨(escL x.cps.toList).toArray⟩
theorem escL_len (l : List Nat) : (escL l).length ≤ 16 * l.length := by
  have h1 := sub_len (c := 92) (z := [92, 92]) (l := l) rfl
  have h2 := sub_len (c := 59) (z := [92, 59]) (l := sub 92 [92, 92] l) rfl
  have h3 := sub_len (c := 44) (z := [92, 44]) (l := sub 59 [92, 59] (sub 92 [92, 92] l)) rfl
  have h4 := sub_len (c := 10) (z := [92, 110]) (l := sub 44 [92, 44] (sub 59 [92, 59] (sub 92 [92, 92] l))) rfl
  unfold escL
  omega
section
variable {prog : Program} {w : World} {A : Around} {E : Value → Shared → Prop} {s : Shared} {pl : Sem Bool} {Q : Value × List Value → Shared → Prop}
theorem ty_dec : typeOf (.builtin "bytes.decode") = pure (.type "method_descriptor") := by show builtinType _ = _; rw [builtinType_eq_fast]; kernel_rfl
theorem noRefS {x : Str} {t : Tok} : ∀ a, Value.str x t = .ref a → ∃ o, s.heap.get? a = some o ∧ o.dict = none := fun _ e => nomatch e
theorem noRefB {x : Array UInt8} {t : Tok} : ∀ a, Value.bytes x t = .ref a → ∃ o, s.heap.get? a = some o ∧ o.dict = none := fun _ e => nomatch e
theorem gmEnc {x : Str} {t : Tok} (h : Q (.builtin "str.encode", [.str x t]) s) : wpAny (model prog w) A (getMethod (.str x t) "encode" pl) Q E s := by
  with_reducible exact getMethod_builtin (typeIs_str _ _ _) PySem.F.plainAttrs_str PySem.F.slot_str_encode PySem.F.type_str_encode noRefS h
theorem gmDec {x : Array UInt8} {t : Tok} (h : Q (.builtin "bytes.decode", [.bytes x t]) s) : wpAny (model prog w) A (getMethod (.bytes x t) "decode" pl) Q E s := by
  with_reducible exact getMethod_builtin (typeIs_bytes _ _ _) FB.plainAttrs_bytes FB.slot_bytes_decode ty_dec noRefB h
end
set_option maxRecDepth 100000 in
set_option maxHeartbeats 8000000 in
theorem vtIcal {w : World} {p : Program} {loose : List Str} {mg mb : Str → Option Value} {A : Around} {s : Shared} {o dx : Addr} {x : Str} {tk : Nat} {sl : Array (Option Value)}
   (h0 : Env0 w p loose mg mb s.heap) (hh : A.handled = none) (hd : A.depth < 780) (hu : A.units ≤ 4200) (ho : s.heap.get? o = some (vtO dx x tk sl)) (hdx : s.heap.get? dx = some edO) (hx : OkL x.cps.toList) (hn : x.length ≤ 10000) :
   wpAny (model prog0 w) A (call (.ref 365) [.ref o]) (Gave s fun v _ => ∃ t', v = .bytes (enc (escS x)) t') Nev s := by
  refine wpAny_call ?_
  have KX := h0.K
  have T := h0.T
  refine' enter0 (binds := [(Str.ofString "self", .ref o)]) KX T.nolimit ?ho ?hcd ?hroom ?hbind ?hloc ?_ ?c1 ?c2 ?c3 ?c4
  case ho => k_is
  case hcd => k_is
  case hroom => unfold recursionLimit; omega
  case hbind => exact BindsTo.of_eq rfl
  case hloc => exact locs rfl
  case c1 => decide
  case c2 => rfl
  case c3 => rfl
  case c4 => rfl
  intro L h₁ F hk
  have N : News s.heap L h₁ [] := News.nil
  try dsimp only
  try k_fold
  k_with "call ref" => refine stop ?_
  k_steps
  k_with_none
  refine ⟨?_⟩
  refine wpAny_mono (esc (A := A.deeper _) (s := ⟨h₁, _, _, _, _⟩) (h0.keeps F.keep) hh (show A.depth + 1 < 800 by omega) (show A.units + 3 ≤ 4300 by omega) (F.keep _ _ ho) (F.keep _ _ hdx) hx hn) (fun v s2 hv => ?_) (fun _ _ z => z.elim)
  obtain ⟨h2, tk2, rfl, ⟨t2, rfl⟩, k2⟩ := hv
  have F2 := frExt F k2
  have N2 : News s.heap L h2 [] := News.nil
  clear F N
  refine gmEnc ?_
  k_with "call builtin:str.encode" => refine stop ?_
  k_steps
  k_with_none
  refine ⟨?_⟩
  have ok := esc_ok hx
  have hl := escL_len x.cps.toList
  have hxl : x.length = x.cps.toList.length := by rw [Array.length_toList]; rfl
  have hle : (escS x).length ≤ 160000 := by
    show (escL x.cps.toList).toArray.size ≤ _
    rw [List.size_toArray]
    omega
  refine encode_A (x := escS x) (fun c hc => (ok c hc).1) (Nat.le_trans hle (by decide)) ?_
  intro t3 k3 hk3
  k_steps
  exact ⟨_, _, rfl, ⟨_, rfl⟩, fun b o e => F2.keep _ _ e⟩
end Mine
end
section
open PySem PySem.W PyProof.Rows PySem.Calls
namespace Mine
section
variable {prog : Program} {w : World} {A : Around} {E : Value → Shared → Prop} {env : Env}
/-- a list comprehension, its turns under a statement of one's own -/
theorem LC_block {elt iter : PySem.Expr} {x : Str} {px : Pos} {scope : Scope} {cl : List (Str × Addr)} {pos : Pos} {s₂ : Shared} {I : Addr} {fp wr : List Addr} {n : Nat} {P : Nat → Value → Prop}
    {St : Nat → Heap → Prop} (W : Walks prog w A I fp wr n P St) (hsz : n ≤ sizeLine) (J : List Addr → Nat → List Value → Shared → Prop) {RR : Value → Addr → Result → Shared → Prop}
    (hcell : ∀ y ∈ scope.names, y.2 ≠ .cell) (hkind : scope.kind = .function) (hx : scope.names.lookup x = some .local) (hst : St 0 s₂.heap) (hfp : ∀ b ∈ fp, b < s₂.heap.objs.size)
    (exW : ∀ h : Heap, ∀ i, St i h → ∀ b ∈ wr, ∃ o, h.get? b = some o)
    (stab : ∀ Z i ys s s', J Z i ys s → (∀ b o, b ∉ Z → s.heap.get? b = some o → s'.heap.get? b = some o) → s'.gens = s.gens → s'.os = s.os → J Z i ys s')
    (start : ∀ Z, (∀ b ∈ Z, b ∈ wr ∨ s₂.heap.get? b = none) → J Z 0 [] s₂)
    (step : ∀ Z C i v ys s₃ m₃ E', i < n → P i v → J Z i ys s₃ → (∀ b ∈ Z, ∃ o, s₃.heap.get? b = some o) → (∀ b ∈ Z, b ∈ wr ∨ s₂.heap.get? b = none) → C ∈ Z → s₃.heap.Ns C m₃ → m₃ x = some v →
      wpAny (model prog w) A (eval elt (compEnvC scope cl C env)) (fun y s₄ => J Z (i + 1) (ys ++ [y]) s₄ ∧ ∀ b o, b ∈ Z ++ fp → s₃.heap.get? b = some o → s₄.heap.get? b = some o) E' s₃)
    (fin : ∀ Z D C ys s' m', D ∈ Z → C ∈ Z → D ≠ C → (∀ b ∈ Z, b ∈ wr ∨ s₂.heap.get? b = none) → s₂.heap.get? D = none → s₂.heap.get? C = none → J Z n ys s' → s'.heap.PlainList D ys.toArray → ys.length = n → s'.heap.Ns C m' → RR (.ref D) C (.ok .next) s') :
    wpAny (model prog w) A (newList []) (fun acc s₃ => wpAny (model prog w) A (newFunctionEnv scope env.globals cl [] env.qual none .none (some env)) (fun cenv s₄ =>
      codeAny (model prog w) A (.compStart (.ListComp elt [⟨.Name x px, iter, [], 0⟩] scope pos) 0 (.ref I) acc { cenv with scope := relabel scope env }) (RR acc cenv.locals) s₄) E s₃) E s₂ := by
  refine wpAny_newObj_type (wpAny_newFunctionEnv hcell (by intro y hy; simp at hy) (fun h₁ hns₁ hsb₁ => ?_) hkind)
  dsimp only at hns₁ hsb₁ ⊢
  generalize hH2 : s₂.heap.push { cls := .type "list", dict := none, data := .seq ([] : List Value).toArray } = H2 at hns₁ hsb₁ ⊢
  have hC : H2.objs.size = s₂.heap.objs.size + 1 := by rw [← hH2, Heap.size_push]
  have hDC : s₂.heap.objs.size ≠ H2.objs.size := by rw [hC]; exact Nat.ne_of_lt (Nat.lt_succ_self _)
  have below : ∀ b, b < s₂.heap.objs.size → b ≠ H2.objs.size ∧ b ≠ s₂.heap.objs.size := fun b hb => ⟨by rw [hC]; exact Nat.ne_of_lt (Nat.lt_succ_of_lt hb), Nat.ne_of_lt hb⟩
  have hDf : s₂.heap.objs.size ∉ fp := fun hm => Nat.lt_irrefl _ (hfp _ hm)
  have hCf : H2.objs.size ∉ fp := fun hm => by have := hfp _ hm; rw [hC] at this; exact Nat.lt_irrefl _ (Nat.lt_of_succ_lt this)
  have old : ∀ b o, s₂.heap.get? b = some o → h₁.get? b = some o := fun b o e => hsb₁.extBut b o (below b (Heap.lt_size e)).1 (Heap.get?_push_of_some _ (hH2 ▸ Heap.get?_push_of_some _ e))
  have hacc : h₁.PlainList s₂.heap.objs.size #[] := ⟨_, hsb₁.extBut _ _ hDC (Heap.get?_push_of_some _ (hH2 ▸ Heap.get?_push_size _ rfl))⟩
  have hst₁ : St 0 h₁ := W.frame _ _ _ hst fun b _ o e => old b o e
  have fresh : ∀ a, s₂.heap.objs.size ≤ a → s₂.heap.get? a = none := fun a ha => by
    cases e : s₂.heap.get? a with
    | none => rfl
    | some o' => exact absurd (Heap.lt_size e) (Nat.not_lt.mpr ha)
  generalize hCC : H2.objs.size = C at *
  generalize hDD : s₂.heap.objs.size = D at *
  have fD : s₂.heap.get? D = none := fresh D (Nat.le_refl _)
  have fC : s₂.heap.get? C = none := fresh C (by rw [hC]; exact Nat.le_succ _)
  have hCw : C ∉ wr := fun h => hCf (W.sub _ h)
  have hDw : D ∉ wr := fun h => hDf (W.sub _ h)
  have hZ : ∀ b ∈ D :: C :: wr, b ∈ wr ∨ s₂.heap.get? b = none := fun b hb => by
    rcases List.mem_cons.mp hb with rfl | hb
    · exact .inr fD
    · rcases List.mem_cons.mp hb with rfl | hb
      · exact .inr fC
      · exact .inl hb
  have loop : ∀ s₃ : Shared, s₃ = { s₂ with heap := h₁, toks := s₂.toks + ([] : List (Str × Value)).length } →
      codeAny (model prog w) A (.compLoop (.ListComp elt [⟨.Name x px, iter, [], 0⟩] scope pos) 0 (.ref I) (.ref D) (compEnvC scope cl C env)) (RR (.ref D) C) s₃ := by
    rintro s₃ rfl
    refine codeAny_compLoop_list (fun k s' => ∃ i ys m', J (D :: C :: wr) i ys s' ∧ St i s'.heap ∧ s'.heap.PlainList D ys.toArray ∧ ys.length = i ∧ s'.heap.Ns C m' ∧ i ≤ n ∧ k = n + 1 - i) ?_ (n + 1)
      ⟨0, [], _, stab _ _ _ _ _ (start _ hZ) (fun b o _ e => old b o e) rfl rfl, hst₁, hacc, rfl, hns₁, Nat.zero_le _, rfl⟩
    rintro k s' ⟨i, ys, m', hJ, hst', hacc', hlen, hn', hi, rfl⟩
    by_cases hlt : i < n
    · refine W.item i _ _ _ hlt hst' fun v h₁ tk₁ hPv hst₁ hk₁ => ?_
      have hxl : (compEnvC scope cl C env).kindOf x = some .local := lookup_relabel_local hx
      refine wpAny_assign_Name (wpAny_storeName_local (env := compEnvC scope cl C env) hxl (hn'.at' fun o e => hk₁ _ o hCw e) (fun h₂ hn₂ hs₂ => ?_) (by simp [compEnvC, relabel, hkind]))
      have up₂ : ∀ b o, b ∉ D :: C :: wr → s'.heap.get? b = some o → h₂.get? b = some o := fun b o hb e => hs₂.extBut b o (fun h => hb (.tail _ (h ▸ .head _))) (hk₁ b o (fun h => hb (.tail _ (.tail _ h))) e)
      have hst₂ : St (i + 1) h₂ := W.frame _ _ _ hst₁ fun b hb o e => hs₂.extBut b o (fun h => hCf ((show b = C from h) ▸ hb)) e
      have hJ₂ : J (D :: C :: wr) i ys { s' with heap := h₂, toks := tk₁ + 1 } := stab _ _ _ _ _ hJ up₂ rfl rfl
      have hacc₂ : h₂.PlainList D ys.toArray := (hacc'.at fun o e => hk₁ _ o hDw e).extBut hs₂.extBut hDC
      have ex₂ : ∀ b ∈ D :: C :: wr, ∃ o, h₂.get? b = some o := fun b hb => by
        rcases List.mem_cons.mp hb with rfl | hb
        · obtain ⟨n', e⟩ := hacc₂; exact ⟨_, e⟩
        · rcases List.mem_cons.mp hb with rfl | hb
          · obtain ⟨o, _, _, e, _⟩ := hn₂; exact ⟨o, e⟩
          · exact exW _ _ hst₂ b hb
      refine wpAny_mono (step _ C i v ys _ _ _ hlt hPv hJ₂ ex₂ hZ (.tail _ (.head _)) hn₂ (by simp)) (fun y s₄ h₄ => ?_) fun _ _ e => e
      obtain ⟨hJ₄, hk₄⟩ := h₄
      have hst₄ : St (i + 1) s₄.heap := W.frame _ _ _ hst₂ fun b hb o e => hk₄ b o (List.mem_append_right _ hb) e
      have hacc₄ : s₄.heap.PlainList D ys.toArray := hacc₂.at fun o e => hk₄ _ o (.head _) e
      have hn₄ : s₄.heap.Ns C _ := hn₂.at' fun o e => hk₄ _ o (.tail _ (.head _)) e
      refine wpAny_list_append_plain hacc₄ ?_ ?_
      · intro h₅ hacc₅ hs₅
        rw [List.push_toArray] at hacc₅
        refine ⟨n + 1 - (i + 1), by omega, i + 1, ys ++ [y], _, stab _ _ _ _ _ hJ₄ (fun b o hb e => hs₅.extBut b o (fun h => hb (h ▸ .head _)) e) rfl rfl, ?_, hacc₅, by rw [List.length_append, List.length_singleton, hlen], hn₄.sameBut hs₅ (Ne.symm hDC), hlt, rfl⟩
        exact W.frame _ _ _ hst₄ fun b hb o e => hs₅.extBut b o (fun h => hDf (h ▸ hb)) e
      · show ys.toArray.size ≤ _
        rw [List.size_toArray, hlen]
        omega
    · have hin : i = n := by omega
      subst hin
      refine W.done _ _ _ hst' fun h₁ tk₁ hk₁ => ?_
      refine fin _ D C ys { s' with heap := h₁, toks := tk₁ } m' (.head _) (.tail _ (.head _)) hDC hZ fD fC (stab _ _ _ _ _ hJ (fun b o hb e => hk₁ b o (fun h => hb (.tail _ (.tail _ h))) e) rfl rfl) (hacc'.at fun o e => hk₁ _ o hDw e) hlen (hn'.at' fun o e => hk₁ _ o hCw e)
  exact codeAny_compStart_list (loop _ rfl) (W.self 0 _ _ _ hst₁ (loop _ rfl))

structure LCok (A : Around) (env : Env) (scope : Scope) (cl : List (Str × Addr)) (x : Str) (elt : PySem.Expr) (fp wr : List Addr) (n : Nat) (P : Nat → Value → Prop) (J : List Addr → Nat → List Value → Shared → Prop) (s₂ : Shared) : Prop where
  stab : ∀ Z i ys s s', J Z i ys s → (∀ b o, b ∉ Z → s.heap.get? b = some o → s'.heap.get? b = some o) → s'.gens = s.gens → s'.os = s.os → J Z i ys s'
  start : ∀ Z, (∀ b ∈ Z, b ∈ wr ∨ s₂.heap.get? b = none) → J Z 0 [] s₂
  step : ∀ Z C i v ys s₃ m₃ E', i < n → P i v → J Z i ys s₃ → (∀ b ∈ Z, ∃ o, s₃.heap.get? b = some o) → (∀ b ∈ Z, b ∈ wr ∨ s₂.heap.get? b = none) → C ∈ Z → s₃.heap.Ns C m₃ → m₃ x = some v →
      wpAny (model prog w) A (eval elt (compEnvC scope cl C env)) (fun y s₄ => J Z (i + 1) (ys ++ [y]) s₄ ∧ ∀ b o, b ∈ Z ++ fp → s₃.heap.get? b = some o → s₄.heap.get? b = some o) E' s₃
theorem LC_list {elt iter : PySem.Expr} {x : Str} {px : Pos} {scope : Scope} {cl : List (Str × Addr)} {pos : Pos} {s s₁ : Shared} {ax : Addr} {vs : List Value} {Q : Value → Shared → Prop} (hh : A.handled = none) (J : List Addr → Nat → List Value → Shared → Prop)
    (hclos : closureFor scope env = pure cl) (hcell : ∀ y ∈ scope.names, y.2 ≠ .cell) (hkind : scope.kind = .function) (hnames : ∀ y ∈ scope.names, y.2 = .local → scope.names.lookup y.1 = some .local) (hx : scope.names.lookup x = some .local)
    (h : wpAny (model prog w) A (eval iter env) (fun xv s' => xv = .ref ax ∧ s' = s₁) E s)
    (hl : s₁.heap.IsList ax vs.toArray) (hsz : vs.length ≤ 1000)
    (ok : ∀ I h', (∀ b o, s₁.heap.get? b = some o → h'.get? b = some o) → s₁.heap.get? I = none → LCok (prog := prog) (w := w) A env scope cl x elt [I, ax] [I] vs.length (fun i v => vs[i]? = some v) J { s₁ with heap := h' })
    (fin : ∀ Z D ys s', D ∈ Z → s₁.heap.get? D = none → J Z vs.length ys s' → s'.heap.PlainList D ys.toArray → ys.length = vs.length → Q (.ref D) s')
    (hs : ∀ x, foldedSetIterable iter env x = pure x) :
    wpAny (model prog w) A (eval (.ListComp elt [⟨.Name x px, iter, [], 0⟩] scope pos) env) Q E s := by
  rw [eval_ListComp]
  refine wpAny_comprehension_free (use := none) rfl hs hclos hkind hnames (wpAny_mono h (fun xv s' h₁ => ?_) fun _ _ e => e)
  obtain ⟨rfl, rfl⟩ := h₁
  have hlt : ax < s'.heap.objs.size := by obtain ⟨_, e, _⟩ := hl; exact Heap.lt_size e
  have k₁ : ∀ b o, s'.heap.get? b = some o → (s'.heap.push ({ cls := .type "list_iterator", data := .fields #[.ref ax, .int 0 0] } : Obj)).get? b = some o := fun b o e => Heap.get?_push_of_some _ e
  have hI0 : s'.heap.get? s'.heap.objs.size = none := by
    cases e : s'.heap.get? s'.heap.objs.size with
    | none => rfl
    | some o => exact absurd (Heap.lt_size e) (Nat.lt_irrefl _)
  obtain ⟨stab, start, step⟩ := ok s'.heap.objs.size _ k₁ hI0
  refine wpAny_pyIter_list hl ?_
  refine LC_block (RR := fun acc C => compPost (model prog w) A E none Q acc C) (Walks.list hh _ _ (Nat.ne_of_lt hlt) vs.toArray) (by rw [List.size_toArray, sizeLine_eq]; omega) J hcell hkind hx ⟨⟨_, Heap.get?_push_size _ rfl, rfl, rfl⟩, hl.push _⟩ ?_ ?_ stab start ?_ ?_
  · intro b hb
    show b < (s'.heap.push _).objs.size
    rw [Heap.size_push]
    rcases List.mem_cons.mp hb with rfl | hb
    · exact Nat.lt_succ_self _
    · rcases List.mem_cons.mp hb with rfl | hb
      · exact Nat.lt_succ_of_lt hlt
      · cases hb
  · intro h i st b hb
    rw [List.mem_singleton] at hb
    subst hb
    obtain ⟨o, e, _⟩ := st.1
    exact ⟨o, e⟩
  · intro Z C i v ys s₃ m₃ E' hi hv
    rw [List.size_toArray] at hi
    exact step Z C i v ys s₃ m₃ E' hi (by simpa using hv)
  · intro Z D C ys s'' m' hD hC hDC hZ hD0 hC0 hJ hpl hlen hn
    rw [List.size_toArray] at hJ hlen
    have nn : ∀ b, (s'.heap.push ({ cls := .type "list_iterator", data := .fields #[.ref ax, .int 0 0] } : Obj)).get? b = none → s'.heap.get? b = none := fun b e => by
      cases z : s'.heap.get? b with
      | none => rfl
      | some o => rw [k₁ _ _ z] at e; cases e
    exact ⟨m', hn, fun h' hs' => fin Z D ys _ hD (nn _ hD0) (stab _ _ _ _ _ hJ (fun b o hb e => hs'.extBut b o (fun h => hb (h ▸ hC)) e) rfl rfl) (hpl.extBut hs'.extBut hDC) hlen⟩
theorem LC_tup {elt iter : PySem.Expr} {x : Str} {px : Pos} {scope : Scope} {cl : List (Str × Addr)} {pos : Pos} {s s₁ : Shared} {ax : Addr} {vs : List Value} {Q : Value → Shared → Prop} (hh : A.handled = none) (J : List Addr → Nat → List Value → Shared → Prop)
    (hclos : closureFor scope env = pure cl) (hcell : ∀ y ∈ scope.names, y.2 ≠ .cell) (hkind : scope.kind = .function) (hnames : ∀ y ∈ scope.names, y.2 = .local → scope.names.lookup y.1 = some .local) (hx : scope.names.lookup x = some .local)
    (h : wpAny (model prog w) A (eval iter env) (fun xv s' => xv = .ref ax ∧ s' = s₁) E s)
    (hl : s₁.heap.IsTuple ax vs.toArray) (hsz : vs.length ≤ 1000)
    (ok : ∀ I h', (∀ b o, s₁.heap.get? b = some o → h'.get? b = some o) → s₁.heap.get? I = none → LCok (prog := prog) (w := w) A env scope cl x elt [I, ax] [I] vs.length (fun i v => vs[i]? = some v) J { s₁ with heap := h' })
    (fin : ∀ Z D ys s', D ∈ Z → s₁.heap.get? D = none → J Z vs.length ys s' → s'.heap.PlainList D ys.toArray → ys.length = vs.length → Q (.ref D) s')
    (hs : ∀ x, foldedSetIterable iter env x = pure x) :
    wpAny (model prog w) A (eval (.ListComp elt [⟨.Name x px, iter, [], 0⟩] scope pos) env) Q E s := by
  rw [eval_ListComp]
  refine wpAny_comprehension_free (use := none) rfl hs hclos hkind hnames (wpAny_mono h (fun xv s' h₁ => ?_) fun _ _ e => e)
  obtain ⟨rfl, rfl⟩ := h₁
  have hlt : ax < s'.heap.objs.size := by obtain ⟨_, e, _⟩ := hl; exact Heap.lt_size e
  have k₁ : ∀ b o, s'.heap.get? b = some o → (s'.heap.push ({ cls := .type "tuple_iterator", data := .fields #[.ref ax, .int 0 0] } : Obj)).get? b = some o := fun b o e => Heap.get?_push_of_some _ e
  have hI0 : s'.heap.get? s'.heap.objs.size = none := by
    cases e : s'.heap.get? s'.heap.objs.size with
    | none => rfl
    | some o => exact absurd (Heap.lt_size e) (Nat.lt_irrefl _)
  obtain ⟨stab, start, step⟩ := ok s'.heap.objs.size _ k₁ hI0
  refine wpAny_pyIter_tuple hl ?_
  refine LC_block (RR := fun acc C => compPost (model prog w) A E none Q acc C) (Walks.tuple hh _ _ (Nat.ne_of_lt hlt) vs.toArray) (by rw [List.size_toArray, sizeLine_eq]; omega) J hcell hkind hx ⟨⟨_, Heap.get?_push_size _ rfl, rfl, rfl⟩, (Heap.IsTuple.at hl fun o e => k₁ _ o e)⟩ ?_ ?_ stab start ?_ ?_
  · intro b hb
    show b < (s'.heap.push _).objs.size
    rw [Heap.size_push]
    rcases List.mem_cons.mp hb with rfl | hb
    · exact Nat.lt_succ_self _
    · rcases List.mem_cons.mp hb with rfl | hb
      · exact Nat.lt_succ_of_lt hlt
      · cases hb
  · intro h i st b hb
    rw [List.mem_singleton] at hb
    subst hb
    obtain ⟨o, e, _⟩ := st.1
    exact ⟨o, e⟩
  · intro Z C i v ys s₃ m₃ E' hi hv
    rw [List.size_toArray] at hi
    exact step Z C i v ys s₃ m₃ E' hi (by simpa using hv)
  · intro Z D C ys s'' m' hD hC hDC hZ hD0 hC0 hJ hpl hlen hn
    rw [List.size_toArray] at hJ hlen
    have nn : ∀ b, (s'.heap.push ({ cls := .type "tuple_iterator", data := .fields #[.ref ax, .int 0 0] } : Obj)).get? b = none → s'.heap.get? b = none := fun b e => by
      cases z : s'.heap.get? b with
      | none => rfl
      | some o => rw [k₁ _ _ z] at e; cases e
    exact ⟨m', hn, fun h' hs' => fin Z D ys _ hD (nn _ hD0) (stab _ _ _ _ _ hJ (fun b o hb e => hs'.extBut b o (fun h => hb (h ▸ hC)) e) rfl rfl) (hpl.extBut hs'.extBut hDC) hlen⟩
end
end Mine
end
section
open PySem PySem.W PyProof.Rows PySem.Calls
namespace Mine
section
variable {prog : Program} {w : World} {A : Around} {E : Value → Shared → Prop} {env : Env}
theorem LC_range {elt iter : PySem.Expr} {x : Str} {px : Pos} {scope : Scope} {cl : List (Str × Addr)} {pos : Pos} {s s₁ : Shared} {ax : Addr} {nn : Nat} {t u v : Tok} {Q : Value → Shared → Prop} (hh : A.handled = none) (J : List Addr → Nat → List Value → Shared → Prop)
    (hclos : closureFor scope env = pure cl) (hcell : ∀ y ∈ scope.names, y.2 ≠ .cell) (hkind : scope.kind = .function) (hnames : ∀ y ∈ scope.names, y.2 = .local → scope.names.lookup y.1 = some .local) (hx : scope.names.lookup x = some .local)
    (h : wpAny (model prog w) A (eval iter env) (fun xv s' => xv = .ref ax ∧ s' = s₁) E s)
    (hl : IsRange s₁.heap ax 0 nn 1 t u v) (h13 : nn = 1 ∨ nn = 2 ∨ nn = 3)
    (ok : ∀ I h', (∀ b o, s₁.heap.get? b = some o → h'.get? b = some o) → s₁.heap.get? I = none → LCok (prog := prog) (w := w) A env scope cl x elt [I] [I] nn (fun i v => ∃ t, v = .int (0 + (i : Int) * 1) t) J { s₁ with heap := h' })
    (fin : ∀ Z D ys s', D ∈ Z → s₁.heap.get? D = none → J Z nn ys s' → s'.heap.PlainList D ys.toArray → ys.length = nn → Q (.ref D) s')
    (hs : ∀ x, foldedSetIterable iter env x = pure x) :
    wpAny (model prog w) A (eval (.ListComp elt [⟨.Name x px, iter, [], 0⟩] scope pos) env) Q E s := by
  rw [eval_ListComp]
  refine wpAny_comprehension_free (use := none) rfl hs hclos hkind hnames (wpAny_mono h (fun xv s' h₁ => ?_) fun _ _ e => e)
  obtain ⟨rfl, rfl⟩ := h₁
  have hsm : Builtin.Range.small 0 (nn : Int) 1 = true := by rcases h13 with rfl | rfl | rfl <;> decide +kernel
  have hrs : Builtin.Range.rangeSize 0 (nn : Int) 1 = (nn : Int) := by rcases h13 with rfl | rfl | rfl <;> decide +kernel
  have k₁ : ∀ b o, s'.heap.get? b = some o → (s'.heap.push ({ cls := .type "range_iterator", data := .fields #[rawInt 0, rawInt (Builtin.Range.rangeSize 0 nn 1), rawInt 1] } : Obj)).get? b = some o := fun b o e => Heap.get?_push_of_some _ e
  have hI0 : s'.heap.get? s'.heap.objs.size = none := by
    cases e : s'.heap.get? s'.heap.objs.size with
    | none => rfl
    | some o => exact absurd (Heap.lt_size e) (Nat.lt_irrefl _)
  obtain ⟨stab, start, step⟩ := ok s'.heap.objs.size _ k₁ hI0
  refine wpAny_pyIter_range hl hsm ?_
  refine LC_block (RR := fun acc C => compPost (model prog w) A E none Q acc C) (Walks.range hh _ 0 1 nn) (by rw [sizeLine_eq]; omega) J hcell hkind hx (by
      show IsRangeIter _ _ _ _ _
      have e := Heap.get?_push_size s'.heap (o := ({ cls := .type "range_iterator", data := .fields #[rawInt 0, rawInt (Builtin.Range.rangeSize 0 nn 1), rawInt 1] } : Obj)) rfl
      rw [hrs] at e ⊢
      simpa [IsRangeIter] using e) ?_ ?_ stab start ?_ ?_
  · intro b hb
    show b < (s'.heap.push _).objs.size
    rw [Heap.size_push]
    rcases List.mem_cons.mp hb with rfl | hb
    · exact Nat.lt_succ_self _
    · cases hb
  · intro h i st b hb
    rw [List.mem_singleton] at hb
    subst hb
    exact ⟨_, st⟩
  · intro Z C i v ys s₃ m₃ E' hi hv
    exact step Z C i v ys s₃ m₃ E' hi hv
  · intro Z D C ys s'' m' hD hC hDC hZ hD0 hC0 hJ hpl hlen hn
    have nq : ∀ b, (s'.heap.push ({ cls := .type "range_iterator", data := .fields #[rawInt 0, rawInt (Builtin.Range.rangeSize 0 nn 1), rawInt 1] } : Obj)).get? b = none → s'.heap.get? b = none := fun b e => by
      cases z : s'.heap.get? b with
      | none => rfl
      | some o => rw [k₁ _ _ z] at e; cases e
    exact ⟨m', hn, fun h' hs' => fin Z D ys _ hD (nq _ hD0) (stab _ _ _ _ _ hJ (fun b o hb e => hs'.extBut b o (fun h => hb (h ▸ hC)) e) rfl rfl) (hpl.extBut hs'.extBut hDC) hlen⟩
theorem LA_list {elt iter : PySem.Expr} {x : Str} {px : Pos} {scope : Scope} {cl : List (Str × Addr)} {pos spos py : Pos} {y : Str} {m : Str → Option Value} {s s₁ : Shared} {ax : Addr} {vs : List Value} {Q : Flow → Shared → Prop} (hh : A.handled = none) (J : List Addr → Nat → List Value → Shared → Prop)
    (hclos : closureFor scope env = pure cl) (hcell : ∀ y ∈ scope.names, y.2 ≠ .cell) (hkind : scope.kind = .function) (hnames : ∀ y ∈ scope.names, y.2 = .local → scope.names.lookup y.1 = some .local) (hx : scope.names.lookup x = some .local)
    (h : wpAny (model prog w) A (eval iter env) (fun xv s' => xv = .ref ax ∧ s' = s₁) E s)
    (hl : s₁.heap.IsList ax vs.toArray) (hsz : vs.length ≤ 1000)
    (ok : ∀ I h', (∀ b o, s₁.heap.get? b = some o → h'.get? b = some o) → s₁.heap.get? I = none → LCok (prog := prog) (w := w) A env scope cl x elt [I, ax] [I] vs.length (fun i v => vs[i]? = some v) J { s₁ with heap := h' })
    (hsw : swapsWith (.ListComp elt [⟨.Name x px, iter, [], 0⟩] scope pos) (some (.Name y py)) spos.line env = pure true) (hy : env.kindOf y = some .local) (hp : (env.scope.kind == .class || (env.scope.kind == .module && env.locals != env.globals)) = false)
    (hns : s₁.heap.Ns env.locals m) (keep : ∀ Z i ys s', J Z i ys s' → s'.heap.Ns env.locals m)
    (fin : ∀ Z D C ys s' h₃ tk, D ∈ Z → C ∈ Z → s₁.heap.get? D = none → s₁.heap.get? C = none → J Z vs.length ys s' → ys.length = vs.length → h₃.PlainList D ys.toArray → h₃.Ns env.locals (fun z => if z = y then some (.ref D) else m z) →
      (∀ b o, b ≠ env.locals → b ≠ C → s'.heap.get? b = some o → h₃.get? b = some o) → Q .next { s' with heap := h₃, toks := tk })
    (hs : ∀ x, foldedSetIterable iter env x = pure x) :
    wpAny (model prog w) A (exec (.Assign [.Name y py] (.ListComp elt [⟨.Name x px, iter, [], 0⟩] scope pos) spos) env) Q E s := by
  rw [exec_Assign_Name_used _ _ _ _ hsw]
  refine wpAny_bind (wpAny_standAt (wpAny_bind ?_))
  show wpAny _ A (do let _ ← comprehension (.ListComp elt [⟨.Name x px, iter, [], 0⟩] scope pos) scope env _ (newList []) false (eval iter env) (some (assign (.Name y py) env))) _ _ s
  refine wpAny_bind (wpAny_mono (wpAny_comprehension_free (use := some (assign (.Name y py) env)) (Q := fun _ s' => Q .next s') rfl hs hclos hkind hnames
    (wpAny_mono h (fun xv s' h₁ => ?_) fun _ _ e => e)) (fun _ s' hq => wpAny_pure (wpAny_pure hq)) fun _ _ e => e)
  obtain ⟨rfl, rfl⟩ := h₁
  have hlt : ax < s'.heap.objs.size := by obtain ⟨_, e, _⟩ := hl; exact Heap.lt_size e
  have k₁ : ∀ b o, s'.heap.get? b = some o → (s'.heap.push ({ cls := .type "list_iterator", data := .fields #[.ref ax, .int 0 0] } : Obj)).get? b = some o := fun b o e => Heap.get?_push_of_some _ e
  have hI0 : s'.heap.get? s'.heap.objs.size = none := by
    cases e : s'.heap.get? s'.heap.objs.size with
    | none => rfl
    | some o => exact absurd (Heap.lt_size e) (Nat.lt_irrefl _)
  obtain ⟨stab, start, step⟩ := ok s'.heap.objs.size _ k₁ hI0
  refine wpAny_pyIter_list hl ?_
  refine LC_block (RR := fun acc C => compPost (model prog w) A E (some (assign (.Name y py) env)) (fun _ s' => Q .next s') acc C) (Walks.list hh _ _ (Nat.ne_of_lt hlt) vs.toArray) (by rw [List.size_toArray, sizeLine_eq]; omega) J hcell hkind hx ⟨⟨_, Heap.get?_push_size _ rfl, rfl, rfl⟩, hl.push _⟩ ?_ ?_ stab start ?_ ?_
  · intro b hb
    show b < (s'.heap.push _).objs.size
    rw [Heap.size_push]
    rcases List.mem_cons.mp hb with rfl | hb
    · exact Nat.lt_succ_self _
    · rcases List.mem_cons.mp hb with rfl | hb
      · exact Nat.lt_succ_of_lt hlt
      · cases hb
  · intro h i st b hb
    rw [List.mem_singleton] at hb
    subst hb
    obtain ⟨o, e, _⟩ := st.1
    exact ⟨o, e⟩
  · intro Z C i v ys s₃ m₃ E' hi hv
    rw [List.size_toArray] at hi
    exact step Z C i v ys s₃ m₃ E' hi (by simpa using hv)
  · intro Z D C ys s'' m' hD hC hDC hZ hD0 hC0 hJ hpl hlen hn
    rw [List.size_toArray] at hJ hlen
    have nn : ∀ b, (s'.heap.push ({ cls := .type "list_iterator", data := .fields #[.ref ax, .int 0 0] } : Obj)).get? b = none → s'.heap.get? b = none := fun b e => by
      cases z : s'.heap.get? b with
      | none => rfl
      | some o => rw [k₁ _ _ z] at e; cases e
    have hn' := keep _ _ _ _ hJ
    have nL : ∀ b, s'.heap.get? b = none → env.locals ≠ b := fun b e q => by
      obtain ⟨o, _, _, ho, _⟩ := hns
      rw [q, e] at ho
      cases ho
    have hLC : env.locals ≠ C := nL _ (nn _ hC0)
    have hLD : env.locals ≠ D := nL _ (nn _ hD0)
    show wpAny _ A (assign (.Name y py) env (.ref D)) _ _ _
    refine wpAny_assign_Name (wpAny_storeName_local hy hn' (fun h₂ hn₂ hs₂ => ?_) hp)
    refine ⟨m', hn.sameBut hs₂ (Ne.symm hLC), fun h₃ hs₃ => ?_⟩
    exact fin Z D C ys s'' h₃ _ hD hC (nn _ hD0) (nn _ hC0) hJ hlen ((hpl.extBut hs₂.extBut (Ne.symm hLD)).extBut hs₃.extBut hDC) (hn₂.sameBut hs₃ hLC) fun b o h1 h2 e => hs₃.extBut b o h2 (hs₂.extBut b o h1 e)
theorem LA_tup {elt iter : PySem.Expr} {x : Str} {px : Pos} {scope : Scope} {cl : List (Str × Addr)} {pos spos py : Pos} {y : Str} {m : Str → Option Value} {s s₁ : Shared} {ax : Addr} {vs : List Value} {Q : Flow → Shared → Prop} (hh : A.handled = none) (J : List Addr → Nat → List Value → Shared → Prop)
    (hclos : closureFor scope env = pure cl) (hcell : ∀ y ∈ scope.names, y.2 ≠ .cell) (hkind : scope.kind = .function) (hnames : ∀ y ∈ scope.names, y.2 = .local → scope.names.lookup y.1 = some .local) (hx : scope.names.lookup x = some .local)
    (h : wpAny (model prog w) A (eval iter env) (fun xv s' => xv = .ref ax ∧ s' = s₁) E s)
    (hl : s₁.heap.IsTuple ax vs.toArray) (hsz : vs.length ≤ 1000)
    (ok : ∀ I h', (∀ b o, s₁.heap.get? b = some o → h'.get? b = some o) → s₁.heap.get? I = none → LCok (prog := prog) (w := w) A env scope cl x elt [I, ax] [I] vs.length (fun i v => vs[i]? = some v) J { s₁ with heap := h' })
    (hsw : swapsWith (.ListComp elt [⟨.Name x px, iter, [], 0⟩] scope pos) (some (.Name y py)) spos.line env = pure true) (hy : env.kindOf y = some .local) (hp : (env.scope.kind == .class || (env.scope.kind == .module && env.locals != env.globals)) = false)
    (hns : s₁.heap.Ns env.locals m) (keep : ∀ Z i ys s', J Z i ys s' → s'.heap.Ns env.locals m)
    (fin : ∀ Z D C ys s' h₃ tk, D ∈ Z → C ∈ Z → s₁.heap.get? D = none → s₁.heap.get? C = none → J Z vs.length ys s' → ys.length = vs.length → h₃.PlainList D ys.toArray → h₃.Ns env.locals (fun z => if z = y then some (.ref D) else m z) →
      (∀ b o, b ≠ env.locals → b ≠ C → s'.heap.get? b = some o → h₃.get? b = some o) → Q .next { s' with heap := h₃, toks := tk })
    (hs : ∀ x, foldedSetIterable iter env x = pure x) :
    wpAny (model prog w) A (exec (.Assign [.Name y py] (.ListComp elt [⟨.Name x px, iter, [], 0⟩] scope pos) spos) env) Q E s := by
  rw [exec_Assign_Name_used _ _ _ _ hsw]
  refine wpAny_bind (wpAny_standAt (wpAny_bind ?_))
  show wpAny _ A (do let _ ← comprehension (.ListComp elt [⟨.Name x px, iter, [], 0⟩] scope pos) scope env _ (newList []) false (eval iter env) (some (assign (.Name y py) env))) _ _ s
  refine wpAny_bind (wpAny_mono (wpAny_comprehension_free (use := some (assign (.Name y py) env)) (Q := fun _ s' => Q .next s') rfl hs hclos hkind hnames
    (wpAny_mono h (fun xv s' h₁ => ?_) fun _ _ e => e)) (fun _ s' hq => wpAny_pure (wpAny_pure hq)) fun _ _ e => e)
  obtain ⟨rfl, rfl⟩ := h₁
  have hlt : ax < s'.heap.objs.size := by obtain ⟨_, e, _⟩ := hl; exact Heap.lt_size e
  have k₁ : ∀ b o, s'.heap.get? b = some o → (s'.heap.push ({ cls := .type "tuple_iterator", data := .fields #[.ref ax, .int 0 0] } : Obj)).get? b = some o := fun b o e => Heap.get?_push_of_some _ e
  have hI0 : s'.heap.get? s'.heap.objs.size = none := by
    cases e : s'.heap.get? s'.heap.objs.size with
    | none => rfl
    | some o => exact absurd (Heap.lt_size e) (Nat.lt_irrefl _)
  obtain ⟨stab, start, step⟩ := ok s'.heap.objs.size _ k₁ hI0
  refine wpAny_pyIter_tuple hl ?_
  refine LC_block (RR := fun acc C => compPost (model prog w) A E (some (assign (.Name y py) env)) (fun _ s' => Q .next s') acc C) (Walks.tuple hh _ _ (Nat.ne_of_lt hlt) vs.toArray) (by rw [List.size_toArray, sizeLine_eq]; omega) J hcell hkind hx ⟨⟨_, Heap.get?_push_size _ rfl, rfl, rfl⟩, (Heap.IsTuple.at hl fun o e => k₁ _ o e)⟩ ?_ ?_ stab start ?_ ?_
  · intro b hb
    show b < (s'.heap.push _).objs.size
    rw [Heap.size_push]
    rcases List.mem_cons.mp hb with rfl | hb
    · exact Nat.lt_succ_self _
    · rcases List.mem_cons.mp hb with rfl | hb
      · exact Nat.lt_succ_of_lt hlt
      · cases hb
  · intro h i st b hb
    rw [List.mem_singleton] at hb
    subst hb
    obtain ⟨o, e, _⟩ := st.1
    exact ⟨o, e⟩
  · intro Z C i v ys s₃ m₃ E' hi hv
    rw [List.size_toArray] at hi
    exact step Z C i v ys s₃ m₃ E' hi (by simpa using hv)
  · intro Z D C ys s'' m' hD hC hDC hZ hD0 hC0 hJ hpl hlen hn
    rw [List.size_toArray] at hJ hlen
    have nn : ∀ b, (s'.heap.push ({ cls := .type "tuple_iterator", data := .fields #[.ref ax, .int 0 0] } : Obj)).get? b = none → s'.heap.get? b = none := fun b e => by
      cases z : s'.heap.get? b with
      | none => rfl
      | some o => rw [k₁ _ _ z] at e; cases e
    have hn' := keep _ _ _ _ hJ
    have nL : ∀ b, s'.heap.get? b = none → env.locals ≠ b := fun b e q => by
      obtain ⟨o, _, _, ho, _⟩ := hns
      rw [q, e] at ho
      cases ho
    have hLC : env.locals ≠ C := nL _ (nn _ hC0)
    have hLD : env.locals ≠ D := nL _ (nn _ hD0)
    show wpAny _ A (assign (.Name y py) env (.ref D)) _ _ _
    refine wpAny_assign_Name (wpAny_storeName_local hy hn' (fun h₂ hn₂ hs₂ => ?_) hp)
    refine ⟨m', hn.sameBut hs₂ (Ne.symm hLC), fun h₃ hs₃ => ?_⟩
    exact fin Z D C ys s'' h₃ _ hD hC (nn _ hD0) (nn _ hC0) hJ hlen ((hpl.extBut hs₂.extBut (Ne.symm hLD)).extBut hs₃.extBut hDC) (hn₂.sameBut hs₃ hLC) fun b o h1 h2 e => hs₃.extBut b o h2 (hs₂.extBut b o h1 e)
end
end Mine
end
section
open PySem PySem.W PyProof.Rows PySem.Calls
namespace Mine
theorem fillit19 : (∀ (w : World) (s : Shared), (Mine.kd.heap_1 w.params).In s.heap → PySem.Challenge.rw_br0007_01.prog = PySem.Challenge.rw_br0007_01.prog) := by
  k_fill
  intros; rfl
section
variable {M : Model} {A : Around} {E : Value → Shared → Prop} {s : Shared} {K : Frag} {C : Addr} {m₂ mg mb : Str → Option Value} {scope : Scope} {cl : List (Str × Addr)} {env : Env} {p : Program} {loose : List Str} {x : Str} {pos : Pos} {v : Value} {Q : Value → Shared → Prop}
theorem cOwn (hn : s.heap.Ns C m₂) (hx : m₂ x = some v) (h : Q v s)
    (hk : (compEnvC scope cl C env).scope.kind = .function := by rfl) (hl : (compEnvC scope cl C env).kindOf x = some .local := by rfl) (hd : (x == ("__debug__" : Str)) = false := by decide) :
    wpAny M A (eval (.Name x pos) (compEnvC scope cl C env)) Q E s := wpAny_Name (wpAny_loadName_local (env := compEnvC scope cl C env) hk hl hn hx h) hd
theorem cGlob (X : K.In s.heap) (T : TopRead p loose mg mb s.heap) (e : nsIn K mainGlobals x = some (some v)) (h : Q v s) (hg : env.globals = mainGlobals := by rfl)
    (hk : (compEnvC scope cl C env).scope.kind = .function := by rfl) (hx : (compEnvC scope cl C env).kindOf x = some .globalImplicit := by rfl) (hd : (x == ("__debug__" : Str)) = false := by decide) :
    wpAny M A (eval (.Name x pos) (compEnvC scope cl C env)) Q E s :=
  Name_function_global hk hx (loadGlobal_global (env := compEnvC scope cl C env) (show s.heap.Ns env.globals mg from hg ▸ T.g) (mg_of X T.g e) h) hd
theorem cBuilt (X : K.In s.heap) (T : TopRead p loose mg mb s.heap) (e : nsIn K mainGlobals x = some none) (hv : bootBuiltins x = some v) (hn : x ≠ "__name__") (h : Q v s) (hg : env.globals = mainGlobals := by rfl) (hb : env.builtins = builtinsNs := by rfl)
    (hk : (compEnvC scope cl C env).scope.kind = .function := by rfl) (hx : (compEnvC scope cl C env).kindOf x = some .globalImplicit := by rfl) (hd : (x == ("__debug__" : Str)) = false := by decide) :
    wpAny M A (eval (.Name x pos) (compEnvC scope cl C env)) Q E s :=
  Name_function_global hk hx (loadGlobal_builtin (env := compEnvC scope cl C env) (show s.heap.Ns env.globals mg from hg ▸ T.g) (mg_none_of X T.g e) (show s.heap.Ns env.builtins mb from hb ▸ T.b) ((T.builtins x hn).trans hv) h) hd
end
/-- what a call gives back, its generators aside -/
def Got (s : Shared) (P : Value → Heap → Prop) (v : Value) (s' : Shared) : Prop := Ext Non s s' ∧ P v s'.heap
theorem Gave.got {s : Shared} {P : Value → Heap → Prop} {v : Value} {s' : Shared} (h : Gave s P v s') : Got s P v s' := by
  obtain ⟨h', tk, rfl, hp, k⟩ := h
  exact ⟨Ext.of k, hp⟩
/-- the comprehension's statement: what stood stands, and the texts so far -/
def JS (s₁ : Shared) (f : Nat → List Str) (Z : List Addr) (i : Nat) (ys : List Value) (s' : Shared) : Prop := (∀ b ∈ Z, s₁.heap.get? b = none) ∧ Ext Non s₁ s' ∧ StrsAre ys (f i)
theorem JS.stab {s₁ : Shared} {f : Nat → List Str} {Z : List Addr} {i : Nat} {ys : List Value} {s s' : Shared} (h : JS s₁ f Z i ys s) (k : ∀ b o, b ∉ Z → s.heap.get? b = some o → s'.heap.get? b = some o) (hg : s'.gens = s.gens) (ho : s'.os = s.os) : JS s₁ f Z i ys s' := by
  obtain ⟨h1, h2, h3⟩ := h
  refine ⟨h1, ⟨fun b o n e => k b o (fun hb => ?_) (h2.keep b o n e), fun g => hg ▸ h2.bare g, ho.trans h2.os⟩, h3⟩
  rw [h1 b hb] at e
  cases e
theorem strs_get : ∀ {vs : List Value} {ss : List Str} {i : Nat} {v : Value}, StrsAre vs ss → vs[i]? = some v → ∃ x t, ss[i]? = some x ∧ v = .str x t
  | _, _, i, v, .nil, e => by simp at e
  | _, _, 0, v, .cons y ty r, e => by
    simp only [List.getElem?_cons_zero, Option.some.injEq] at e
    exact ⟨y, ty, by simp, e.symm⟩
  | _, _, i + 1, v, .cons y ty r, e => by
    simp only [List.getElem?_cons_succ] at e
    obtain ⟨x, t, h1, h2⟩ := strs_get r e
    exact ⟨x, t, by simpa using h1, h2⟩
theorem take_map {α β : Type} (f : α → β) {l : List α} {i : Nat} {x : α} (h : l[i]? = some x) : (l.take (i + 1)).map f = (l.take i).map f ++ [f x] := by
  rw [List.take_succ, h]
  simp
theorem escS_ok {x : Str} (h : OkL x.cps.toList) : OkL (escS x).cps.toList := esc_ok h
theorem escS_len (x : Str) : (escS x).length ≤ 16 * x.length := by
  have h := escL_len x.cps.toList
  show (escL x.cps.toList).toArray.size ≤ _
  rw [List.size_toArray]
  have : x.length = x.cps.toList.length := by rw [Array.length_toList]; rfl
  omega
theorem sum_le {l : List Str} {B : Nat} (h : ∀ y ∈ l, y.length ≤ B) : (l.map fun y => y.length).sum ≤ B * l.length := by
  induction l with
  | nil => simp
  | cons a r ih =>
    rw [List.map_cons, List.sum_cons, List.length_cons, Nat.mul_succ]
    have h1 := h a (.head _)
    have h2 := ih fun y hy => h y (.tail _ hy)
    omega
def joinL (c : Nat) : List (List Nat) → List Nat
  | [] => []
  | [x] => x
  | x :: y :: r => x ++ c :: joinL c (y :: r)
theorem join_L (c : Nat) : ∀ xs : List Str, (Str.join ⟨#[c]⟩ xs).cps.toList = joinL c (xs.map fun y => y.cps.toList)
  | [] => rfl
  | [x] => rfl
  | x :: y :: r => by
    have ih := join_L c (y :: r)
    show ((x.cps ++ #[c]) ++ (Str.join ⟨#[c]⟩ (y :: r)).cps).toList = _
    rw [Array.toList_append, Array.toList_append, ih, List.append_assoc]
    rfl
theorem joinL_ok {c : Nat} (hc : c < 128 ∧ c ≠ 78 ∧ c ≠ 13) : ∀ {xs : List (List Nat)}, (∀ x ∈ xs, OkL x) → OkL (joinL c xs)
  | [], _ => fun _ h => nomatch h
  | [x], h => h x (.head _)
  | x :: y :: r, h => by
    have ih := joinL_ok hc (xs := y :: r) fun z hz => h z (.tail _ hz)
    intro d hd
    rcases List.mem_append.mp hd with hd | hd
    · exact h x (.head _) d hd
    · rcases List.mem_cons.mp hd with rfl | hd
      · exact hc
      · exact ih d hd
theorem joinL_len {c : Nat} : ∀ xs : List (List Nat), (joinL c xs).length ≤ (xs.map List.length).sum + xs.length
  | [] => Nat.le_refl _
  | [x] => by simp [joinL]
  | x :: y :: r => by
    have ih := joinL_len (c := c) (y :: r)
    show (x ++ c :: joinL c (y :: r)).length ≤ _
    rw [List.length_append, List.length_cons, List.map_cons, List.sum_cons, List.length_cons]
    omega
theorem len_L (x : Str) : x.length = x.cps.toList.length := by rw [Array.length_toList]; rfl
theorem join_len (c : Nat) (xs : List Str) : (Str.join ⟨#[c]⟩ xs).length ≤ (xs.map fun y => y.length).sum + xs.length := by
  rw [len_L, join_L]
  refine Nat.le_trans (joinL_len _) ?_
  rw [List.map_map, List.length_map]
  have : (List.length ∘ fun (y : Str) => y.cps.toList) = fun y => y.length := by
    funext y
    exact (len_L y).symm
  rw [this]
  exact Nat.le_refl _
theorem join_okS {c : Nat} (hc : c < 128 ∧ c ≠ 78 ∧ c ≠ 13) {xs : List Str} (h : ∀ x ∈ xs, OkL x.cps.toList) : OkL (Str.join ⟨#[c]⟩ xs).cps.toList := by
  rw [join_L]
  refine joinL_ok hc fun x hx => ?_
  obtain ⟨y, hy, rfl⟩ := List.mem_map.mp hx
  exact h y hy
abbrev orgO (dx : Addr) : Obj := { cls := .ref 456, dict := some dx, data := .plain }
set_option maxRecDepth 100000 in
set_option maxHeartbeats 8000000 in
theorem orgIcal {w : World} {p : Program} {loose : List Str} {mg mb : Str → Option Value} {A : Around} {s : Shared} {o dx T : Addr} {es : List DictEntry} {ne : Nat} {vs : List Value} {ss : List Str}
   (h0 : Env0 w p loose mg mb s.heap) (hh : A.handled = none) (hd : A.depth < 700) (hu : A.units ≤ 4000) (I : InstAt s.heap o (orgO dx) 456 (some (dictOf es ne))) (hf : getL (Str.ofString "fields") es = some (some (.ref T)))
   (hT : s.heap.IsTuple T vs.toArray) (hS : StrsAre vs ss) (hl : ss.length ≤ 3) (hok : ∀ y ∈ ss, OkL y.cps.toList ∧ y.length ≤ 5000) :
   wpAny (model prog0 w) A (call (.ref 412) [.ref o]) (Got s fun v _ => ∃ t', v = .bytes (enc (Str.join ⟨#[59]⟩ (ss.map escS))) t') Nev s := by
  refine wpAny_call ?_
  have KX := h0.K
  have TT := h0.T
  refine' enter0 (binds := [(Str.ofString "self", .ref o)]) KX TT.nolimit ?ho ?hcd ?hroom ?hbind ?hloc ?_ ?c1 ?c2 ?c3 ?c4
  case ho => k_is
  case hcd => k_is
  case hroom => unfold recursionLimit; omega
  case hbind => exact BindsTo.of_eq rfl
  case hloc => exact locs rfl
  case c1 => decide
  case c2 => rfl
  case c3 => rfl
  case c4 => rfl
  intro L h₁ F hk
  have N : News s.heap L h₁ [] := News.nil
  try dsimp only
  try k_fold
  refine wpAny_execs_cons ?_
  have hslen := hS.length
  refine LA_tup (ax := T) (vs := vs) (s₁ := { s with heap := h₁, toks := s.toks + 1 + 1 }) (m := _) hh (JS { s with heap := h₁, toks := s.toks + 1 + 1 } fun i => (ss.take i).map escS) (by with_unfolding_all rfl) (by decide) (by rfl) (by decide) (by rfl) ?h ?hl ?hsz ?ok ?hsw ?hy ?hp F.ns ?keep ?fin ?hs
  case hsw => with_unfolding_all rfl
  case hy => rfl
  case hp => rfl
  case hs => intro _; with_unfolding_all rfl
  case h =>
    rw [arm_eval_Attribute]
    refine wpAny_bind ?_
    refine nameX_L F (by rfl) ?_
    refine wpAny_bind (wpAny_standAt (wpAny_bind (wpAny_holding ?_)))
    refine get_own F KX ⟨F.keep _ _ I.at_, I.cls, I.no, F.keep _ _ I.dict⟩ (by k_is) (by k_is) (by k_is) (by k_is) hf (by rfl) ?_
    refine wpAny_bind (wpAny_of_eq (a := ()) (by with_unfolding_all rfl) (wpAny_pure ⟨rfl, rfl⟩))
  case hl => exact hT.at fun o e => F.keep _ _ e
  case hsz => omega
  case keep => exact fun Z i ys s' hJ => F.ns.at' fun o e => hJ.2.1.all _ _ e
  case ok =>
    intro I' h' k' hI0
    refine ⟨fun Z i ys s s' hJ k hg ho => hJ.stab k hg ho, fun Z hZ => ?_, ?_⟩
    · refine ⟨fun b hb => ?_, Ext.of k', .nil⟩
      rcases hZ b hb with hb | hb
      · rw [List.mem_singleton] at hb
        subst hb
        exact hI0
      · cases e : h₁.get? b with
        | none => rfl
        | some o => rw [k' _ _ e] at hb; cases hb
    · intro Z C i v ys s₃ m₃ E' hi hv hJ hZe hZ hCZ hnC hmx
      obtain ⟨hJ1, hJ2, hJ3⟩ := hJ
      have F3 := frExt F hJ2.all
      have N3 : News s.heap L s₃.heap [] := News.nil
      have K3 := KX.keeps F3.keep
      have T3 := TT.keeps F3.keep
      obtain ⟨x, t, hxi, rfl⟩ := strs_get hS hv
      obtain ⟨hx1, hx2⟩ := hok x (List.mem_of_getElem? hxi)
      clear F N
      k_with "eval Name" => (first | (refine cOwn hnC hmx ?_) | (refine cGlob K3 T3 (by k_is) ?_))
      k_with "call" => refine stop ?_
      k_steps
      k_with_none
      refine ⟨?_⟩
      (rename Fr _ _ _ _ => F3)
      refine wpAny_mono (vt (A := A.deeper _) (h0.keeps F3.keep) hh (show A.depth + 1 < 820 by omega) (show A.units + 3 ≤ 4400 by omega) (by omega)) (fun v s4 hv => ?_) (fun _ _ z => z.elim)
      obtain ⟨h4, tk4, rfl, ⟨o1, dx1, ot1, v1, v2, rfl, ho1, hdx1, ho10, _⟩, k4⟩ := hv
      have F4 := frExt F3 k4
      have N4 : News s.heap L h4 [] := News.nil
      have K4 := KX.keeps F4.keep
      refine method_base2 K4 ho1 rfl rfl hdx1 (by k_is) (by decide +kernel) (by k_is) (f := .ref 365) (by k_is) (by k_is) (by decide) ?_
      k_with "call" => refine stop ?_
      k_steps
      k_with_none
      refine ⟨?_⟩
      (rename Fr _ _ _ _ => F4)
      refine wpAny_mono (vtIcal (A := A.deeper _) (s := ⟨h4, _, _, _, _⟩) (h0.keeps F4.keep) hh (show A.depth + 1 < 780 by omega) (show A.units + 3 ≤ 4200 by omega) ho1 hdx1 hx1 (by omega)) (fun v s5 hv => ?_) (fun _ _ z => z.elim)
      obtain ⟨h5, tk5, rfl, ⟨t5, rfl⟩, k5⟩ := hv
      refine gmDec ?_
      have F5 := frExt F4 k5
      have N5 : News s.heap L h5 [] := News.nil
      k_with "call" => refine stop ?_
      k_steps
      k_with_none
      refine ⟨?_⟩
      (rename Fr _ _ _ _ => F5)
      have hle := escS_len x
      refine decode_A (x := escS x) (fun c hc => (escS_ok hx1 c hc).1) (by omega) ?_
      intro t6 k6 hk6
      have kk : ∀ b o, s₃.heap.get? b = some o → h5.get? b = some o := fun b o e => k5 _ _ (k4 _ _ e)
      refine ⟨⟨hJ1, hJ2.trans (Ext.of kk), ?_⟩, fun b o _ e => kk _ _ e⟩
      dsimp only
      rw [take_map escS hxi]
      exact hJ3.append' (.cons _ _ .nil)
  case fin =>
    intro Z D C ys s' h₃ tk hD hC hD0 hC0 hJ hlen hpl hns hk3
    obtain ⟨hJ1, hJ2, hJ3⟩ := hJ
    dsimp only at hJ3
    rw [hslen, List.take_length] at hJ3
    have old : ∀ b o, s.heap.get? b = some o → h₃.get? b = some o := fun b o e => by
      have e1 := (hk b o e).1
      exact hk3 b o (hk b o e).2 (fun q => by rw [q, hC0] at e1; cases e1) (hJ2.all _ _ e1)
    obtain ⟨nn, hpl⟩ := hpl
    have F3 : Fr s.heap L h₃ _ := ⟨hns, old, F.above⟩
    have N3 : News s.heap L h₃ [(D, W.listOf ys.toArray nn)] := newsAdd F News.nil hpl hD0
    have X3 : Ext Non s { s' with heap := h₃, toks := tk } := ⟨fun b o _ e => old b o e, fun g => hJ2.bare g, hJ2.os⟩
    clear F N
    obtain ⟨h', g', d', t', os'⟩ := s'
    dsimp only
    k_with "call builtin:str.join" => refine stop ?_
    k_steps
    k_with_none
    refine ⟨?_⟩
    (rename Fr _ _ _ _ => F4); (rename News _ _ _ _ => N4)
    have hesc : ∀ y ∈ ss.map escS, OkL y.cps.toList ∧ y.length ≤ 80000 := by
      intro y hy
      obtain ⟨z, hz, rfl⟩ := List.mem_map.mp hy
      exact ⟨escS_ok (hok z hz).1, Nat.le_trans (escS_len z) (by have := (hok z hz).2; omega)⟩
    have hsum := sum_le (B := 80000) fun y hy => (hesc y hy).2
    rw [List.length_map] at hsum
    have hjl := join_len 59 (ss.map escS)
    rw [List.length_map] at hjl
    refine PyProof.Rows.join_listW ⟨_, (N4 _ (by k_mem)).1, rfl, _, rfl⟩ hJ3 (by decide +kernel) ?_ fun t5 k5 => ?_
    · rw [List.length_map]
      omega
    have e1 : Txt.join (Str.ofString ";") (ss.map escS) = Str.join ⟨#[59]⟩ (ss.map escS) := by
      rw [show (Str.ofString ";" : Str) = ⟨#[59]⟩ by decide +kernel]
      exact StrLaws.glued_eq_join _ _
    rw [e1]
    refine gmEnc ?_
    k_with "call builtin:str.encode" => refine stop ?_
    k_steps
    k_with_none
    refine ⟨?_⟩
    refine encode_A (x := Str.join ⟨#[59]⟩ (ss.map escS)) ?_ ?_ ?_
    · exact fun c hc => (join_okS (by decide) (fun y hy => (hesc y hy).1) c hc).1
    · omega
    intro t6 k6 hk6
    k_steps
    exact ⟨⟨X3.keep, X3.bare, X3.os⟩, _, rfl⟩
end Mine
end
section
open PySem PySem.W PyProof.Rows PySem.Calls
namespace Mine
theorem fillit20 : (∀ (w : World) (s : Shared), (Mine.kd.heap_1 w.params).In s.heap → PySem.Challenge.rw_br0007_01.prog = PySem.Challenge.rw_br0007_01.prog) := by
  k_fill
  intros; rfl
/-- the table of vOrg.__init__'s codes, whatever it holds by now -/
def OrgTab (h : Heap) : Prop := ∃ ps, h.IsCode 406 402 ps ∧ h.TableAt 406 402 ps
theorem OrgTab.keeps {h h' : Heap} (x : OrgTab h) (k : ∀ b o, h.get? b = some o → h'.get? b = some o) : OrgTab h' :=
  let ⟨ps, a, b⟩ := x; ⟨ps, a.keeps k, b.keeps k⟩
section
variable {prog : Program} {w : World} {A : Around} {E : Value → Shared → Prop} {s : Shared} {mg : Str → Option Value} {bm : Addr} {ob : Obj}
theorem gen_code {env : Env} {pos : Pos} {q : Str} {scope : Scope} {Q : Value → Shared → Prop} {M : Model} (hc : env.code = .ref 406) (ht : OrgTab s.heap)
    (h : ∀ v h' tk, (∀ b o, b ≠ 402 → s.heap.get? b = some o → h'.get? b = some o) → s.heap.objs.size ≤ h'.objs.size → OrgTab h' → Q v { s with heap := h', toks := tk }) : wpAny M A (genexprCode env pos q scope) Q E s := by
  obtain ⟨ps, hok, htab⟩ := ht
  cases hf : codeAmong pos ps.toList with
  | some c' => exact wpAny_genexprCode_hit hc hok hf (h _ s.heap s.toks (fun _ _ _ e => e) (Nat.le_refl _) ⟨ps, hok, htab⟩)
  | none =>
    refine wpAny_genexprCodeX hc hok htab hf fun c' h₃ tk₃ hx₃ hge hlt hcode₃ _ htab₃ _ => ?_
    exact h _ h₃ tk₃ (fun b o n e => hx₃ b o n e) (Nat.le_trans hge (Nat.le_of_lt hlt)) ⟨_, hcode₃, htab₃⟩
theorem gen_list {env : Env} {elt iter : PySem.Expr} {x : Str} {px : Pos} {scope : Scope} {cl : List (Str × Addr)} {pos : Pos} {Q : Value → Shared → Prop} {s₁ : Shared} {l K : Addr} {items : Array Value} {F : Nat → Value → Prop}
    (hcode : env.code = .ref 406) (hh : A.handled = none) (hco : scope.isCoroutine = false) (hclos : closureFor scope env = pure cl) (hcell : ∀ y ∈ scope.names, y.2 ≠ .cell) (h0 : scope.names.lookup (".0" : Str) = some NameKind.local)
    (hx : scope.names.lookup x = some .local) (hkind : scope.kind = .function) (hroom : A.depth < recursionLimit)
    (h : wpAny (model prog w) A (eval iter env) (fun xv s' => xv = .ref l ∧ s' = s₁) E s) (hl : s₁.heap.IsList l items) (ht : OrgTab s₁.heap) (hlim : s₁.heap.NoLimit) (BM : BMod s₁.heap env.globals mg bm ob) (hgne : env.globals ≠ 402) (hbm : bm ≠ 402) (hK : K < s₁.heap.objs.size) (hl4 : l ≠ 402)
    (hq : ∀ (code : Value) (h₃ href : Heap), (∀ b o, b ≠ 402 → s₁.heap.get? b = some o → h₃.get? b = some o) → s₁.heap.objs.size < h₃.objs.size → (∀ b o, h₃.get? b = some o → href.get? b = some o) →
          QuietGen prog w (genEnv scope cl h₃.objs.size code builtinsNs env) x [] elt (List.range h₃.objs.size) [s₁.heap.objs.size] (fun i v => items[i]? = some v) (fun _ => true) F href)
    (fin : ∀ (a : Addr) (s₅ : Shared), (∀ b o, b ≠ 402 → s₁.heap.get? b = some o → s₅.heap.get? b = some o) → OrgTab s₅.heap → (AllBare s₁.gens → AllBare s₅.gens) → s₅.os = s₁.os →
          Gen prog w A K a (passing (fun _ => true) items.size 0).length (fun j y => ∃ i, (passing (fun _ => true) items.size 0)[j]? = some i ∧ F i y) s₅ → Q (.ref a) s₅)
    (hs : ∀ x, genFold iter env x = pure x) :
    wpAny (model prog w) A (eval (.GeneratorExp elt [⟨.Name x px, iter, [], 0⟩] scope pos) env) Q E s := by
  refine wpAny_GeneratorExp_walksQ hh hco hclos hcell h0 hx hkind hroom (wpAny_mono h (fun xv s' h₁ => ?_) fun _ _ e => e) hs
  obtain ⟨rfl, rfl⟩ := h₁
  have hlt : l < s'.heap.objs.size := by obtain ⟨_, e, _⟩ := hl; exact Heap.lt_size e
  refine wpAny_pyIter_list hl ⟨hlim.push _, ?_⟩
  have k₁ : ∀ b o, s'.heap.get? b = some o → (s'.heap.push ({ cls := .type "list_iterator", data := .fields #[.ref l, .int 0 0] } : Obj)).get? b = some o := fun b o e => Heap.get?_push_of_some _ e
  refine gen_code hcode (ht.keeps k₁) fun code h₃ tk₃ hx₃ hsz₃ ht₃ => ?_
  have k₃ : ∀ b o, b ≠ 402 → s'.heap.get? b = some o → h₃.get? b = some o := fun b o n e => hx₃ b o n (k₁ b o e)
  have hsz : s'.heap.objs.size < h₃.objs.size := by
    have : (s'.heap.push ({ cls := .type "list_iterator", data := .fields #[.ref l, .int 0 0] } : Obj)).objs.size ≤ h₃.objs.size := hsz₃
    rw [Heap.size_push] at this
    exact this
  have hP : (402 : Addr) < s'.heap.objs.size := by
    obtain ⟨ps, _, _, e⟩ := ht
    exact Heap.lt_size e
  refine wpAny_builtinsFor (BM.ns.at' fun o e => k₃ _ o hgne e) BM.name BM.ne (k₃ _ _ hbm BM.obj) BM.cls BM.dict BM.data ?_
  have hl₃ : h₃.NoLimit := (hlim.push _).extBut (a := 402) (fun b o n e => hx₃ b o n e) (by decide)
  refine ⟨s'.heap.objs.size, [s'.heap.objs.size, l], [s'.heap.objs.size], items.size, _, _, (fun _ => true), F, rfl, (fun A' hA => Walks.list hA _ _ (Nat.ne_of_lt hlt) items), ⟨⟨_, hx₃ _ _ (Nat.ne_of_gt hP) (Heap.get?_push_size _ rfl), rfl, rfl⟩, ?_⟩, ?_, hl₃, ?_, (fun href hhref => hq _ h₃ href k₃ hsz hhref), fun a h₅ tk gs hgb hag hsz₅ hk₅ W hat => ?_⟩
  · exact hl.at fun o e => k₃ _ o hl4 e
  · intro b hb
    rcases List.mem_cons.mp hb with rfl | hb
    · exact hsz
    · rcases List.mem_cons.mp hb with rfl | hb
      · exact Nat.lt_trans hlt hsz
      · cases hb
  · intro hm
    have hc : cStatics < s'.heap.objs.size := let ⟨_, hn, _⟩ := hlim; hn.lt
    rcases List.mem_cons.mp hm with e | hb
    · exact absurd (e ▸ hc) (Nat.lt_irrefl _)
    · cases hb
  · refine fin a _ (fun b o n e => hk₅ b o (k₃ b o n e)) (ht₃.keeps hk₅) (fun G => AllBare.push G hgb) rfl ⟨_, _, _, _, W, hat, (fun i s' st => st.1.typeIs), List.mem_cons_self, ?_, ?_⟩
    · intro b hb
      show b < h₅.objs.size
      rw [hsz₅]
      rcases List.mem_cons.mp hb with rfl | hb
      · exact Nat.lt_succ_self _
      · rcases List.mem_cons.mp hb with rfl | hb
        · exact Nat.lt_succ_of_lt hag
        · exact Nat.lt_succ_of_lt (Nat.lt_trans (List.mem_range.mp hb) hag)
    · intro b hb
      rcases List.mem_cons.mp hb with rfl | hb
      · exact Nat.lt_trans hK hsz
      · rw [List.mem_singleton] at hb
        subst hb
        exact hK
end
end Mine
end
section
open PySem PySem.W PyProof.Rows PySem.Calls
namespace Mine
theorem fillit21 : (∀ (w : World) (s : Shared), (Mine.kd.heap_1 w.params).In s.heap → PySem.Challenge.rw_br0007_01.prog = PySem.Challenge.rw_br0007_01.prog) := by
  k_fill
  intros; rfl
/-- Env0 and what the generator expression of vOrg.__init__ wants -/
structure Env1 (w : World) (p : Program) (loose : List Str) (mg mb : Str → Option Value) (h : Heap) : Prop where
  e0 : Env0 w p loose mg mb h
  tab : OrgTab h
  bm : ∃ bm ob, BMod h mainGlobals mg bm ob ∧ bm ≠ 402
theorem Env1.keeps {w : World} {p : Program} {loose : List Str} {mg mb : Str → Option Value} {h h' : Heap} (x : Env1 w p loose mg mb h) (k : ∀ b o, h.get? b = some o → h'.get? b = some o) : Env1 w p loose mg mb h' :=
  ⟨x.e0.keeps k, x.tab.keeps k, let ⟨bm, ob, B, n⟩ := x.bm; ⟨bm, ob, ⟨B.ns.keeps k, B.name, B.ne, k _ _ B.obj, B.cls, B.dict, B.data⟩, n⟩⟩
abbrev P402 : Addr → Prop := fun b => b = 402
set_option maxRecDepth 100000 in
theorem Env1.but {w : World} {p : Program} {loose : List Str} {mg mb : Str → Option Value} {h h' : Heap} (x : Env1 w p loose mg mb h) (k : ∀ b o, b ≠ 402 → h.get? b = some o → h'.get? b = some o) (t : OrgTab h') : Env1 w p loose mg mb h' := by
  obtain ⟨⟨K, T, X, md⟩, tab, bm, ob, B, n⟩ := x
  have nk : (Mine.kd.heap_1 w.params).lookup 402 = none := by rfl
  have nx : (Mine.hq w.params).lookup 402 = none := by rfl
  refine ⟨⟨fun a o e => k a o (fun q => ?_) (K a o e), ⟨T.g.at' fun o e => k _ o (by decide) e, T.b.at' fun o e => k _ o (by decide) e, ?_, T.builtins, T.free⟩, fun a o e => k a o (fun q => ?_) (X a o e), ?_⟩, t, bm, ob, ⟨B.ns.at' fun o e => k _ o (by decide) e, B.name, B.ne, k _ _ n B.obj, B.cls, B.dict, B.data⟩, n⟩
  · rw [q, nk] at e; cases e
  · exact T.nolimit.extBut (a := 402) (fun b o n e => k b o n e) (by decide)
  · rw [q, nx] at e; cases e
  · obtain ⟨o, e⟩ := md
    exact ⟨o, k _ _ (by decide) e⟩
set_option maxRecDepth 100000 in
/-- the ground without the growing table -/
theorem ground402 {w : World} {p : Program} {loose : List Str} {mg mb : Str → Option Value} {h : Heap} (x : Env1 w p loose mg mb h) : Env0 w p loose mg mb (hideAll h [402]) := by
  obtain ⟨⟨K, T, X, md⟩, tab, bm, ob, B, n⟩ := x
  have nk : (Mine.kd.heap_1 w.params).lookup 402 = none := by rfl
  have nx : (Mine.hq w.params).lookup 402 = none := by rfl
  have k : ∀ b o, b ≠ 402 → h.get? b = some o → (hideAll h [402]).get? b = some o := fun b o n e => hideAll_get [402] e (by simpa using n)
  refine ⟨fun a o e => k a o (fun q => ?_) (K a o e), ⟨T.g.at' fun o e => k _ o (by decide) e, T.b.at' fun o e => k _ o (by decide) e, ?_, T.builtins, T.free⟩, fun a o e => k a o (fun q => ?_) (X a o e), ?_⟩
  · rw [q, nk] at e; cases e
  · exact T.nolimit.extBut (a := 402) (fun b o n e => k b o n e) (by decide)
  · rw [q, nx] at e; cases e
  · obtain ⟨o, e⟩ := md
    exact ⟨o, k _ _ (by decide) e⟩
theorem OrgTab.at {h : Heap} (x : OrgTab h) : ∃ o ps, h.get? 406 = some o ∧ h.get? 402 = some ({ cls := .none, data := .fields ps } : Obj) ∧ ∀ h' : Heap, h'.get? 406 = some o → h'.get? 402 = some ({ cls := .none, data := .fields ps } : Obj) → OrgTab h' := by
  obtain ⟨ps, ⟨o, vs, file, tf, flags, tg, inF, text, tt, op, a, r1, r2, r3, r4, r5, r6, b, r⟩, ⟨o2, vs2, a2, r'⟩, t⟩ := x
  rw [a] at a2
  cases a2
  rw [t] at b
  cases b
  exact ⟨o, ps, a, t, fun h' e1 e2 => ⟨ps, ⟨o, vs, file, tf, flags, tg, inF, text, tt, _, e1, r1, r2, r3, r4, r5, r6, e2, r⟩, ⟨o, vs2, e1, r'⟩, e2⟩⟩
theorem strs_of : ∀ {vs : List Value} {ss : List Str}, vs.length = ss.length → (∀ (j : Nat) (v : Value), vs[j]? = some v → ∃ (x : Str) (t : Tok), ss[j]? = some x ∧ v = Value.str x t) → StrsAre vs ss
  | [], [], _, _ => .nil
  | [], _ :: _, h, _ => by simp at h
  | _ :: _, [], h, _ => by simp at h
  | v :: vs, y :: ss, h, k => by
    obtain ⟨x, t, h1, rfl⟩ := k 0 v (by simp)
    simp only [List.getElem?_cons_zero, Option.some.injEq] at h1
    subst h1
    exact .cons _ _ (strs_of (by simpa using h) fun j u hj => by simpa using k (j + 1) u (by simpa using hj))
theorem passing_all (n : Nat) : passing (fun _ => true) n 0 = List.range n := by
  unfold passing
  simp
section
open PySem.W.X
set_option maxRecDepth 100000
set_option maxHeartbeats 8000000
local macro_rules | `(tactic| x_close) => `(tactic| (first
  | exact ⟨_, _, rfl, rfl, memKeep (by assumption) fun _ _ _ => trivial⟩ | exact ⟨_, _, rfl, rfl, fun _ _ e => e⟩ | exact ⟨_, _, rfl, ⟨_, rfl⟩, fun _ _ e => e⟩))
theorem isListX {w : World} {s : Shared} {l : Addr} {its : Array Value} {n : Nat} (KX : (Mine.kd.heap_1 w.params).In s.heap) (hl : s.heap.get? l = some ⟨.type "list", none, .seq its n, #[]⟩) :
   wpAny (model prog0 w) AA (call (.builtin "isinstance") [.ref l, .type "str"]) (Gave s fun v _ => v = .bool false) Nev s := by
  x_run
theorem lenX {w : World} {s : Shared} {l : Addr} {its : Array Value} {n : Nat} (KX : (Mine.kd.heap_1 w.params).In s.heap) (hl : s.heap.get? l = some ⟨.type "list", none, .seq its n, #[]⟩) (h3 : its.size ≤ 100) :
   wpAny (model prog0 w) AA (call (.builtin "len") [.ref l]) (Gave s fun v _ => ∃ t, v = .int (its.size : Int) t) Nev s := by
  x_run
theorem hasIterX {w : World} {s : Shared} {l : Addr} {its : Array Value} {n t : Nat} (KX : (Mine.kd.heap_1 w.params).In s.heap) (hl : s.heap.get? l = some ⟨.type "list", none, .seq its n, #[]⟩) :
   wpAny (model prog0 w) AA (call (.builtin "hasattr") [.ref l, .str (Str.ofString "__iter__") t]) (Gave s fun v _ => v = .bool true) Nev s := by
  x_run
theorem hasIcalX {w : World} {s : Shared} {o dx : Addr} {x : Str} {t tk : Nat} {v1 v2 : Value} (KX : (Mine.kd.heap_1 w.params).In s.heap) (ho : s.heap.get? o = some ⟨.ref 387, some dx, .prim (.str x tk), #[some v1, some v2]⟩) (hdx : s.heap.get? dx = some ⟨.type "dict", none, .dict #[] 0, #[]⟩) :
   wpAny (model prog0 w) AA (call (.builtin "hasattr") [.ref o, .str (Str.ofString "to_ical") t]) (Gave s fun v _ => v = .bool true) Nev s := by
  x_run
end
set_option maxRecDepth 100000 in
set_option maxHeartbeats 8000000 in
theorem mkOrg {w : World} {p : Program} {loose : List Str} {mg mb : Str → Option Value} {A : Around} {s : Shared} {l : Addr} {n : Nat} {vs : List Value} {ss : List Str}
   (h1 : Env1 w p loose mg mb s.heap) (hh : A.handled = none) (hd : A.depth < 650) (hu : A.units ≤ 3800) (hl : s.heap.get? l = some (W.listOf vs.toArray n)) (hS : StrsAre vs ss) (hlen : ss.length ≤ 3) (hne : 1 ≤ ss.length) (hl4 : l ≠ 402) :
   wpAny (model prog0 w) A (call (.ref 456) [.ref l]) (fun v s' => Ext P402 s s' ∧ OrgTab s'.heap ∧ ∃ o dx T es ne vs', v = .ref o ∧ InstAt s'.heap o (orgO dx) 456 (some (dictOf es ne)) ∧ getL (Str.ofString "fields") es = some (some (.ref T)) ∧ getL (Str.ofString "to_ical") es = some none ∧ s'.heap.IsTuple T (vs' : List Value).toArray ∧ StrsAre vs' ss) Nev s := by
  have h0 := h1.e0
  have KX := h0.K
  have T := h0.T
  refine wpAny_call ?_
  obtain ⟨h, g, d, t, os⟩ := s
  refine make_core (makes_of KX (by k_is)) (looks_findIn KX (by k_is)) (fun self => bind_fn KX self (f := 407) (by k_is)) (.inl rfl) ?_
  have kp : ∀ b o, h.get? b = some o → ((h.push emptyDict).push (instObj 456 h.objs.size)).get? b = some o := fun b o e => Heap.get?_push_of_some _ (Heap.get?_push_of_some _ e)
  have hA : (A.under (.builtin "type.__call__" ⟨[.ref 456, .ref l], []⟩)).handled = none := hh
  have hAd : (A.under (.builtin "type.__call__" ⟨[.ref 456, .ref l], []⟩)).depth ≤ A.depth + 1 := by show A.depth + Code.weight _ ≤ A.depth + 1; exact Nat.add_le_add_left (by show (1 : Nat) ≤ 1; exact Nat.le_refl _) _
  have hAu : (A.under (.builtin "type.__call__" ⟨[.ref 456, .ref l], []⟩)).units ≤ A.units + 1 := by show A.units + Code.cUnits _ ≤ A.units + 1; exact Nat.add_le_add_left (by show (1 : Nat) ≤ 1; exact Nat.le_refl _) _
  generalize hA' : A.under (.builtin "type.__call__" ⟨[.ref 456, .ref l], []⟩) = A' at hA hAd hAu ⊢
  refine' enter0 (binds := [(Str.ofString "self", .ref (h.objs.size + 1)), (Str.ofString "fields", .ref l), (Str.ofString "params", .none)]) (KX.keeps kp) (T.nolimit.keeps kp) ?ho ?hcd ?hroom ?hbind ?hloc ?_ ?c1 ?c2 ?c3 ?c4
  case ho => k_is
  case hcd => k_is
  case hroom => unfold recursionLimit; omega
  case hbind => exact binds_K (KX.keeps kp) rfl (by k_is) rfl rfl (by kernel_rfl)
  case hloc => exact locs rfl
  case c1 => decide
  case c2 => rfl
  case c3 => rfl
  case c4 => rfl
  intro L h₁ F0 hk
  have hsz2 : ((h.push emptyDict).push (instObj 456 h.objs.size)).objs.size = h.objs.size + 1 + 1 := by rw [Heap.size_push, Heap.size_push]
  have fresh : ∀ a, h.objs.size ≤ a → h.get? a = none := fun a ha => by
    cases e : h.get? a with
    | none => rfl
    | some o' => exact absurd (Heap.lt_size e) (Nat.not_lt.mpr ha)
  have F : Fr h L h₁ _ := ⟨F0.ns, fun b o e => F0.keep b o (kp b o e), Nat.le_trans (Nat.le_trans (Nat.le_succ _) (Nat.le_succ _)) (by have := F0.above; rw [hsz2] at this; exact this)⟩
  have N : News h L h₁ [(h.objs.size + 1, instObj 456 h.objs.size), (h.objs.size, emptyDict)] := by
    intro q hq
    simp only [List.mem_cons, List.not_mem_nil, or_false] at hq
    rcases hq with rfl | rfl
    · have := hk (h.objs.size + 1) _ (Heap.get?_push_at (by rw [Heap.size_push]) rfl)
      exact ⟨this.1, this.2, fresh _ (Nat.le_succ _)⟩
    · have := hk h.objs.size _ (Heap.get?_push_of_some _ (Heap.get?_push_at rfl rfl))
      exact ⟨this.1, this.2, fresh _ (Nat.le_refl _)⟩
  have hT4 : (402 : Addr) < h.objs.size := by
    obtain ⟨ps, _, _, e⟩ := h1.tab
    exact Heap.lt_size e
  have hx4 : h.objs.size + 1 ≠ 402 := Nat.ne_of_gt (Nat.lt_succ_of_lt hT4)
  have hd4 : h.objs.size ≠ 402 := Nat.ne_of_gt hT4
  have hL4 : L ≠ 402 := Nat.ne_of_gt (Nat.lt_of_lt_of_le hT4 F.above)
  have hxd : h.objs.size + 1 ≠ h.objs.size := Nat.succ_ne_self _
  generalize h.objs.size + 1 = x at *
  generalize h.objs.size = dx at *
  clear F0
  try dsimp only
  try k_fold
  k_with "call" => refine stop ?_
  k_steps
  k_with_none
  refine ⟨?_⟩
  (rename Fr _ _ _ _ => F1); (rename News _ _ _ _ => N1)
  have K1 := KX.keeps F1.keep
  refine wpAny_mono (weaken (A := A'.deeper _) hA (show A'.depth + 1 ≤ 950 by omega) (show A'.units + 3 ≤ 5000 by omega) (isListX K1 (F1.keep _ _ hl))) (fun v s2 hv => ?_) (fun _ _ z => z.elim)
  obtain ⟨h2, tk2, rfl, rfl, k2⟩ := hv
  have F2 := frExt F1 k2
  have N2 := newsExt N1 k2
  clear F1 N1
  k_with "call" => refine stop ?_
  k_steps
  k_with_none
  refine ⟨?_⟩
  (rename Fr _ _ _ _ => F2); (rename News _ _ _ _ => N2)
  have K2 := KX.keeps F2.keep
  have hvl := hS.length
  refine wpAny_mono (weaken (A := A'.deeper _) hA (show A'.depth + 1 ≤ 950 by omega) (show A'.units + 3 ≤ 5000 by omega) (lenX K2 (F2.keep _ _ hl) (by rw [List.size_toArray]; omega))) (fun v s3 hv => ?_) (fun _ _ z => z.elim)
  obtain ⟨h3, tk3, rfl, ⟨t3, rfl⟩, k3⟩ := hv
  have F3 := frExt F2 k3
  have N3 := newsExt N2 k3
  have hpos : ¬ ((vs.toArray.size : Int) < 1) := by rw [List.size_toArray]; omega
  clear F2 N2
  k_steps
  (rename Fr _ _ _ _ => F4); (rename News _ _ _ _ => N4)
  rename Heap => h4
  obtain ⟨bm, ob, B, hbm4⟩ := h1.bm
  have hlt4 := Heap.lt_size (F4.keep _ _ hl)
  refine gen_list (l := l) (items := vs.toArray) (K := h4.objs.size - 1) (F := fun i v => ∃ x t, ss[i]? = some x ∧ v = .str x t) (mg := mg) (bm := bm) (ob := ob) rfl hA (by rfl) (by with_unfolding_all rfl) (by decide) (by rfl) (by rfl) (by rfl) (by unfold recursionLimit; show A'.depth + 1 < _; omega) (nameX_L F4 (by rfl) ⟨rfl, rfl⟩) ⟨_, F4.keep _ _ hl, rfl, _, rfl⟩ (h1.tab.keeps F4.keep) (T.nolimit.keeps F4.keep) ⟨B.ns.keeps F4.keep, B.name, B.ne, F4.keep _ _ B.obj, B.cls, B.dict, B.data⟩ (show mainGlobals ≠ 402 by decide) hbm4 ?_ hl4 ?_ ?_ (by intro _; with_unfolding_all rfl)
  · exact Nat.sub_lt (Nat.lt_of_le_of_lt (Nat.zero_le _) hlt4) (by decide)
  · intro code h₃ href hk₃ hsz hhref
    refine ⟨fun A' E' i v s₂ m₂ hA' hv hn hm hk => ?_, fun A' E' i v s₂ m₂ hA' hv _ hn hm hk => ?_⟩
    · exact wpAny_pure ⟨rfl, s₂.heap, s₂.toks, rfl, fun _ _ e => e⟩
    · have kb : ∀ b o, b ≠ 402 → h.get? b = some o → s₂.heap.get? b = some o := fun b o n e => by
        have e4 := F4.keep _ _ e
        have l4 := Heap.lt_size e4
        exact hk b (List.mem_range.mpr (Nat.lt_trans l4 hsz)) (by
          intro q
          rw [List.mem_singleton] at q
          exact Nat.lt_irrefl _ (q ▸ l4)) o (hhref _ _ (hk₃ b o n e4))
      obtain ⟨x1, t1, hx1, rfl⟩ := strs_get hS (by simpa using hv)
      refine wpAny_Call_NameR ?_
      refine Name_function_global (by rfl) (by rfl) (loadGlobal_builtin (env := genEnv _ _ _ _ _ _) (mg := mg) (mb := mb) (T.g.at' fun o e => kb _ o (by decide) e) (mg_none_of KX T.g (by k_is)) (T.b.at' fun o e => kb _ o (by decide) e) ((T.builtins _ (by decide +kernel)).trans (by first | boot_by_name | rfl | kernel_rfl)) ?_) (by decide)
      show wpAny _ _ (callWith _ (.type "str") [] [(false, eval _ _)] []) _ _ _
      refine _root_.PySem.callWith_type1 ?_
      refine wpAny_Name (wpAny_loadName_local (env := genEnv _ _ _ _ _ _) (by rfl) (by rfl) hn hm ?_) (by decide)
      refine PySem.P.str_of_str ?_
      exact ⟨⟨x1, t1, hx1, rfl⟩, s₂.heap, s₂.toks, rfl, fun _ _ e => e⟩
  · intro a s₅ hk5 ht5 hb5 ho5 G5
    have E5 := ground402 h1
    have nl : ∀ b o, (hideAll h [402]).get? b = some o → b ≠ 402 ∧ h.get? b = some o := fun b o e => by
      refine ⟨fun q => ?_, of_hideAll _ e⟩
      rw [q, hideAll_none [402] (by simp)] at e
      cases e
    have F5 : Fr (hideAll h [402]) L s₅.heap _ := ⟨F4.ns.at' fun o e => hk5 _ o hL4 e, fun b o e => hk5 b o (nl b o e).1 (F4.keep _ _ (nl b o e).2), Nat.le_trans (Nat.le_of_eq (hideAll_size _ _)) F4.above⟩
    have nn : ∀ b, h.get? b = none → (hideAll h [402]).get? b = none := fun b e => by
      cases z : (hideAll h [402]).get? b with
      | none => rfl
      | some o => rw [(nl b o z).2] at e; cases e
    obtain ⟨oc, ps5, hoc, htb, hmk⟩ := ht5.at
    have hoc0 : h.get? 406 = some oc := by
      obtain ⟨oc', _, e, _, _⟩ := h1.tab.at
      have := hk5 406 oc' (by decide) (F4.keep _ _ e)
      rw [hoc] at this
      cases this
      exact e
    have N5 : News (hideAll h [402]) L s₅.heap [(x, instObj 456 dx), (dx, emptyDict), (402, ({ cls := .none, data := .fields ps5 } : Obj))] := by
      intro q hq
      simp only [List.mem_cons, List.not_mem_nil, or_false] at hq
      rcases hq with rfl | rfl | rfl
      rotate_right
      · exact ⟨htb, fun q => hL4 q.symm, hideAll_none [402] (by simp)⟩
      · have hq' := N4 _ (.head _)
        exact ⟨hk5 _ _ hx4 hq'.1, hq'.2.1, nn _ hq'.2.2⟩
      · have hq' := N4 _ (.tail _ (.head _))
        exact ⟨hk5 _ _ hd4 hq'.1, hq'.2.1, nn _ hq'.2.2⟩
    have hLK : L ≤ h4.objs.size - 1 := Nat.le_sub_one_of_lt F4.ns.lt
    have hxK : x ≤ h4.objs.size - 1 := Nat.le_sub_one_of_lt (Heap.lt_size (N4 _ (.head _)).1)
    have hdK : dx ≤ h4.objs.size - 1 := Nat.le_sub_one_of_lt (Heap.lt_size (N4 _ (.tail _ (.head _))).1)
    have holdK : ∀ b o, h.get? b = some o → b ≤ h4.objs.size - 1 := fun b o e => Nat.le_sub_one_of_lt (Heap.lt_size (F4.keep _ _ e))
    have kall : ∀ b o, b ≠ 402 → h.get? b = some o → s₅.heap.get? b = some o := fun b o n e => hk5 b o n (F4.keep _ _ e)
    clear KX T h0 F4 N4 K1 K2
    have KX := E5.K
    have T := E5.T
    obtain ⟨h5, g5, d5, t5, os5⟩ := s₅
    dsimp only at F5 N5 kall ht5 hb5 ho5
    k_with "call" => refine stop ?_
    k_steps
    k_with_none
    refine ⟨?_⟩
    (rename Fr _ _ _ _ => F6); (rename News _ _ _ _ => N6)
    obtain ⟨fp, wr, gg, St, W, hst, hTy, hI, hfp, hwr⟩ := G5
    have hnotwr : ∀ b, b ≤ h4.objs.size - 1 → b ∉ wr := fun b hb hm => Nat.lt_irrefl _ (Nat.lt_of_lt_of_le (hwr b hm) hb)
    refine call_tuple_gen (hsz := ?_) W.in4_3 hTy hst hfp hI ?_
    rotate_left
    · rw [passing_all, List.length_range, List.size_toArray, sizeLine_eq]; omega
    intro s6 acc hm hacc
    rw [passing_all, List.size_toArray, List.length_range] at hacc
    have hacS : StrsAre acc.toList ss := by
      refine strs_of (by rw [Array.length_toList, hacc.1, hvl]) fun j v hj => ?_
      obtain ⟨i, hi, x1, t1, h1, h2⟩ := hacc.2 j v (by simpa using hj)
      have hji : i = j := by
        have hj2 : j < vs.length := by
          have := (List.getElem?_eq_some_iff.mp hj).1
          rw [Array.length_toList, hacc.1] at this
          exact this
        rw [List.getElem?_range hj2] at hi
        cases hi
        rfl
      subst hji
      exact ⟨x1, t1, h1, h2⟩
    have F7 := (F6.moved hm (fun b hb => Nat.lt_of_le_of_lt hLK (hwr b hb))).push ({ cls := .type "tuple", data := .seq acc } : Obj)
    have k7 : ∀ b o, b ≤ h4.objs.size - 1 → h5.get? b = some o → (s6.heap.push ({ cls := .type "tuple", data := .seq acc } : Obj)).get? b = some o := fun b o hb e => Heap.get?_push_of_some _ (hm.heap b o (hnotwr b hb) e)
    have hT7 : (s6.heap.push ({ cls := .type "tuple", data := .seq acc } : Obj)).get? s6.heap.objs.size = some ({ cls := .type "tuple", data := .seq acc } : Obj) := Heap.get?_push_at rfl rfl
    have hTn : s6.heap.get? s6.heap.objs.size = none := by
      cases e : s6.heap.get? s6.heap.objs.size with
      | none => rfl
      | some o' => exact absurd (Heap.lt_size e) (Nat.lt_irrefl _)
    have N7 : News (hideAll h [402]) L (s6.heap.push ({ cls := .type "tuple", data := .seq acc } : Obj)) [(s6.heap.objs.size, ({ cls := .type "tuple", data := .seq acc } : Obj)), (x, instObj 456 dx), (dx, emptyDict), (402, ({ cls := .none, data := .fields ps5 } : Obj))] := by
      refine newsAdd (F6.moved hm (fun b hb => Nat.lt_of_le_of_lt hLK (hwr b hb))) ?_ hT7 hTn
      intro q hq
      have hq' := N6 q hq
      simp only [List.mem_cons, List.not_mem_nil, or_false] at hq
      rcases hq with rfl | rfl | rfl
      · exact ⟨k7 _ _ hxK hq'.1, hq'.2⟩
      · exact ⟨k7 _ _ hdK hq'.1, hq'.2⟩
      · exact ⟨k7 _ _ (Nat.le_trans (Nat.le_of_lt hT4) hdK) hq'.1, hq'.2⟩
    have hTd : s6.heap.objs.size ≠ dx := fun q => by
      rw [q, hm.heap dx _ (hnotwr _ hdK) (N6 _ (.tail _ (.head _))).1] at hTn
      cases hTn
    have hTx : s6.heap.objs.size ≠ x := fun q => by
      rw [q, hm.heap x _ (hnotwr _ hxK) (N6 _ (.head _)).1] at hTn
      cases hTn
    have hos := hm.os
    have hgn : AllBare g5 → AllBare s6.gens := fun G => AllBare.movedS (s := ⟨h5, g5, d5, t5, os5⟩) G hm
    have kold : ∀ b o, b ≠ 402 → h.get? b = some o → (s6.heap.push ({ cls := .type "tuple", data := .seq acc } : Obj)).get? b = some o := fun b o n e => k7 b o (holdK b o e) (kall b o n e)
    have h4T : s6.heap.objs.size ≠ 402 := fun q => by
      rw [q, hm.heap 402 _ (hnotwr _ (Nat.le_trans (Nat.le_of_lt hT4) hdK)) htb] at hTn
      cases hTn
    clear F6 N6
    obtain ⟨h6, g6, d6, t6, os6⟩ := s6
    dsimp only at *
    generalize h6.push ({ cls := .type "tuple", data := .seq acc } : Obj) = h7 at *
    generalize h6.objs.size = TT at *
    k_with "call ref" => refine stop ?_
    k_steps
    k_with_none
    refine ⟨?_⟩
    (rename Fr _ _ _ _ => F10); (rename News _ _ _ _ => N10)
    refine wpAny_mono (par (s := ⟨_, g6, d6, _, os6⟩) (E5.keeps F10.keep) hA (show A'.depth + 1 < 860 by omega) (show A'.units + 3 ≤ 4600 by omega)) (fun v s11 hv => ?_) (fun _ _ z => z.elim)
    obtain ⟨h11, tk11, rfl, ⟨px, pdx, rfl, hpI, hpn⟩, k11⟩ := hv
    have F11 := frExt F10 k11
    have N11 := newsExt N10 k11
    clear F10 N10
    k_steps
    (rename Fr _ _ _ _ => F12); (rename News _ _ _ _ => N12)
    refine ⟨rfl, ⟨fun b o n e => F12.keep b o (hideAll_get [402] e (by simpa using n)), fun G => hgn (hb5 G), hos.trans ho5⟩, hmk _ (F12.keep _ _ (hideAll_get [402] hoc0 (by decide))) (N12 _ (.tail _ (.tail _ (.tail _ (.head _))))).1, ?_⟩
    refine ⟨x, dx, TT, _, _, acc.toList, rfl, ⟨(N12 _ (.tail _ (.head _))).1, rfl, rfl, (N12 _ (.tail _ (.tail _ (.head _)))).1⟩, ?_, ?_, ?_, hacS⟩
    · first | k_get | rfl | simp [getL]
    · first | k_get | rfl | simp [getL]
    · exact ⟨_, (N12 _ (.head _)).1, rfl, _, rfl⟩
end Mine
end
section
open PySem PySem.W PyProof.Rows PySem.Calls
namespace Mine
theorem fillit22 : (∀ (w : World) (s : Shared), (Mine.kd.heap_1 w.params).In s.heap → PySem.Challenge.rw_br0007_01.prog = PySem.Challenge.rw_br0007_01.prog) := by
  k_fill
  intros; rfl
set_option maxRecDepth 100000 in
set_option maxHeartbeats 8000000 in
/-- vOrg.from_ical: def 419 -/
theorem orgFrom {w : World} {p : Program} {loose : List Str} {mg mb : Str → Option Value} {A : Around} {s : Shared} {x : Str} {t : Tok}
   (h0 : Env0 w p loose mg mb s.heap) (hh : A.handled = none) (hd : A.depth < 700) (hu : A.units ≤ 4000) (hx : x.length ≤ 90000) (hn : (splitG 59 [] x.cps.toList).length ≤ 100) :
   wpAny (model prog0 w) A (call (.ref 419) [.str x t]) (Got s fun v h' => ∃ T vs, v = .ref T ∧ h'.IsTuple T (vs : List Value).toArray ∧ s.heap.get? T = none ∧ StrsAre vs ((splitG 59 [] x.cps.toList).map strL)) Nev s := by
  refine wpAny_call ?_
  have KX := h0.K
  have TT := h0.T
  refine' enter0 (binds := [(Str.ofString "ical", .str x t)]) KX TT.nolimit ?ho ?hcd ?hroom ?hbind ?hloc ?_ ?c1 ?c2 ?c3 ?c4
  case ho => k_is
  case hcd => k_is
  case hroom => unfold recursionLimit; omega
  case hbind => exact BindsTo.of_eq rfl
  case hloc => exact locs rfl
  case c1 => decide
  case c2 => rfl
  case c3 => rfl
  case c4 => rfl
  intro L h₁ F hk
  have N : News s.heap L h₁ [] := News.nil
  obtain ⟨h, g, d, tk0, os⟩ := s
  try dsimp only
  try k_fold
  k_with "call ref" => refine stop ?_
  k_steps
  k_with_none
  refine ⟨?_⟩
  (rename Fr _ _ _ _ => F1); (rename News _ _ _ _ => N1)
  have X1 := h0.X.keeps F1.keep
  refine wpAny_mono (weaken (A := A.deeper _) hh (show A.depth + 1 ≤ 950 by omega) (show A.units + 3 ≤ 5000 by omega) (toUniX X1)) (fun v s2 hv => ?_) (fun _ _ z => z.elim)
  obtain ⟨h2, tk2, rfl, rfl, k2⟩ := hv
  have F2 := frExt F1 k2
  have N2 := newsExt N1 k2
  clear F1 N1 X1
  k_with "call ref" => refine stop ?_
  k_steps
  k_with_none
  refine ⟨?_⟩
  (rename Fr _ _ _ _ => F3); (rename News _ _ _ _ => N3)
  refine split_semi (h0.keeps F3.keep) (show A.depth + 1 < 800 by omega) hx ?_
  intro h4 tk4 l vs n k4 hln hl hS
  have F4 := frExt F3 k4
  have N4 := newsAdd F3 (newsExt N3 k4) hl hln
  clear F3 N3
  k_steps
  (rename Fr _ _ _ _ => F5); (rename News _ _ _ _ => N5)
  refine ⟨⟨fun b o _ e => F5.keep b o e, id, rfl⟩, _, vs, rfl, ⟨_, (N5 _ (.head _)).1, rfl, _, rfl⟩, (N5 _ (.head _)).2.2, hS⟩
end Mine
end
section
open PySem PySem.W PyProof.Rows PySem.Calls PySem.Builtin PySem.Builtin.Bytes
namespace Mine
theorem tbq {b : Array UInt8} {t : Tok} : takeBufferQuiet? "bytes.join" (.bytes b t) 0 = pure (some (b, none)) := by kernel_rfl
theorem tbq' {id : String} {v : Value} {b : Array UInt8} {t : Tok} (hid : id = "bytes.join") (hv : v = .bytes b t) : takeBufferQuiet? id v 0 = pure (some (b, none)) := by
  subst hid hv
  exact tbq
theorem slot_bytes_join : Slot "bytes" "join" "bytes.join" :=
  .of (owner := "bytes") (n := "join") (by rw [typeLookup_type, builtinLookup_eq_fast]; kernel_rfl) (by decide +kernel) (by decide +kernel) (by decide +kernel)
    (by first | exact .inl (by decide +kernel) | exact .inr (by decide +kernel)) (by rw [isSubtype_type]; kernel_rfl)
theorem type_bytes_join : typeOf (.builtin "bytes.join") = pure (.type "method_descriptor") := by show builtinType _ = _; rw [builtinType_eq_fast]; kernel_rfl
theorem entry_bytes_join : entryFor table "bytes.join" = some Builtin.«bytes.join» := entryFor_of_fast (by kernel_rfl)
theorem args_bytes_join (a b : Value) : argsOk "bytes.join" ⟨[a, b], []⟩ := by unfold argsOk; kernel_rfl
section
variable {M : Model} {A : Around} {E : Value → Shared → Prop} {s : Shared} {β : Type} {n : Nat} {b : β} {f : Nat → β → Sem (ForInStep β)} {Q : β → Shared → Prop} {l : List Nat} {a : Nat}
theorem wp_rangeL (hl : List.range' 0 n = l) (h : wpAny M A (forIn l b f) Q E s) : wpAny M A (forIn [:n] b f) Q E s := by
  rw [Std.Legacy.Range.forIn_eq_forIn_range']
  have hz : [:n].size = n := by simp [Std.Legacy.Range.size]
  rw [hz]
  show wpAny M A (forIn (List.range' 0 n) b f) Q E s
  rw [hl]
  exact h
theorem wp_cons (h : wpAny M A (f a b >>= fun r => match r with | .done b => pure b | .yield b => forIn l b f) Q E s) : wpAny M A (forIn (a :: l) b f) Q E s := by
  rw [List.forIn_cons]
  exact h
theorem wp_nil (h : Q b s) : wpAny M A (forIn ([] : List Nat) b f) Q E s := by
  rw [List.forIn_nil]
  exact wpAny_pure h
end
theorem wp_mkBytes {M : Model} {A : Around} {E : Value → Shared → Prop} {s : Shared} {b : Array UInt8} {Q : Value → Shared → Prop} (hb : b.size ≤ sizeLine) (h : ∀ t' k, Q (.bytes b t') { s with toks := k }) : wpAny M A (mkBytes b) Q E s := by
  unfold mkBytes
  rw [if_neg (by omega)]
  exact wpAny_bind (wpAny_fresh (wpAny_pure (h _ _)))
section
variable {prog : Program} {w : World} {A : Around} {E : Value → Shared → Prop} {s : Shared}
theorem bj1 {l : Addr} {b1 : Array UInt8} {t1 n t : Tok} {Q : Value → Shared → Prop} (hl : s.heap.get? l = some (W.listOf #[.bytes b1 t1] n))
   (h : Q (.bytes b1 t1) s) : wpAny (model prog w) A (call (.builtin "bytes.join") [.bytes #[44] t, .ref l]) Q E s := by
  refine wpAny_call (codeAny_call_builtin slot_bytes_join.plain entry_bytes_join (slot_bytes_join.check _ _ _ _ _ _ _ _ (typeIs_bytes _ _ _) (args_bytes_join _ _) ?_))
  obtain ⟨hh, g, d, tt, os⟩ := s
  dsimp only at hl
  unfold Builtin.«bytes.join» joinM joinItems seqItems?
  repeat lk
  exact h
theorem bj2 {l : Addr} {b1 b2 : Array UInt8} {t1 t2 n t : Tok} {Q : Value → Shared → Prop} (hl : s.heap.get? l = some (W.listOf #[.bytes b1 t1, .bytes b2 t2] n)) (hb : b1.size ≤ 200000 ∧ b2.size ≤ 200000)
   (hz : (joined #[44] [b1, b2]).size ≤ 1000000)
   (h : ∀ t' k, Q (.bytes (joined #[44] [b1, b2]) t') { s with toks := k }) : wpAny (model prog w) A (call (.builtin "bytes.join") [.bytes #[44] t, .ref l]) Q E s := by
  refine wpAny_call (codeAny_call_builtin slot_bytes_join.plain entry_bytes_join (slot_bytes_join.check _ _ _ _ _ _ _ _ (typeIs_bytes _ _ _) (args_bytes_join _ _) ?_))
  obtain ⟨hh, g, d, tt, os⟩ := s
  dsimp only at hl
  unfold Builtin.«bytes.join» joinM joinItems seqItems?
  repeat (first | (with_reducible refine wpAny_bind ?_) | (with_reducible refine wp_rangeL (l := [0, 1]) (by with_unfolding_all rfl) ?_) | (with_reducible refine wp_cons ?_) | (with_reducible refine wp_nil ?_) | ((with_reducible refine' wpAny_of_eq (tbq' ?hid ?hv) ?_); (case hid => kernel_rfl); (case hv => with_unfolding_all rfl)) | lk)
  rw [if_neg (by
    unfold tooLong
    rw [decide_eq_true_eq, sizeLine_eq]
    show ¬ (1 * (2 - 1) + b1.size + b2.size > 16777216)
    omega)]
  refine wpAny_bind ?_
  show wpAny _ _ (mkBytes (joined #[44] [b1, b2])) _ _ _
  refine wp_mkBytes (by rw [sizeLine_eq]; omega) fun t' k => ?_
  repeat lk
  exact h _ _
theorem bj3 {l : Addr} {b1 b2 b3 : Array UInt8} {t1 t2 t3 n t : Tok} {Q : Value → Shared → Prop} (hl : s.heap.get? l = some (W.listOf #[.bytes b1 t1, .bytes b2 t2, .bytes b3 t3] n)) (hb : b1.size ≤ 200000 ∧ b2.size ≤ 200000 ∧ b3.size ≤ 200000)
   (hz : (joined #[44] [b1, b2, b3]).size ≤ 1000000)
   (h : ∀ t' k, Q (.bytes (joined #[44] [b1, b2, b3]) t') { s with toks := k }) : wpAny (model prog w) A (call (.builtin "bytes.join") [.bytes #[44] t, .ref l]) Q E s := by
  refine wpAny_call (codeAny_call_builtin slot_bytes_join.plain entry_bytes_join (slot_bytes_join.check _ _ _ _ _ _ _ _ (typeIs_bytes _ _ _) (args_bytes_join _ _) ?_))
  obtain ⟨hh, g, d, tt, os⟩ := s
  dsimp only at hl
  unfold Builtin.«bytes.join» joinM joinItems seqItems?
  repeat (first | (with_reducible refine wpAny_bind ?_) | (with_reducible refine wp_rangeL (l := [0, 1, 2]) (by with_unfolding_all rfl) ?_) | (with_reducible refine wp_cons ?_) | (with_reducible refine wp_nil ?_) | ((with_reducible refine' wpAny_of_eq (tbq' ?hid ?hv) ?_); (case hid => kernel_rfl); (case hv => with_unfolding_all rfl)) | lk)
  rw [if_neg (by
    unfold tooLong
    rw [decide_eq_true_eq, sizeLine_eq]
    show ¬ (1 * (3 - 1) + b1.size + b2.size + b3.size > 16777216)
    omega)]
  refine wpAny_bind ?_
  show wpAny _ _ (mkBytes (joined #[44] [b1, b2, b3])) _ _ _
  refine wp_mkBytes (by rw [sizeLine_eq]; omega) fun t' k => ?_
  repeat lk
  exact h _ _
end
/-- two lists, place by place -/
def Ptw {α : Type} (R : Value → α → Prop) (ys : List Value) (xs : List α) : Prop := ∀ (j : Nat) (v : Value) (x : α), ys[j]? = some v → xs[j]? = some x → R v x
theorem Ptw.nil {α : Type} {R : Value → α → Prop} {xs : List α} : Ptw R [] xs := fun j v x h _ => by simp at h
theorem Ptw.snoc {α : Type} {R : Value → α → Prop} {ys : List Value} {xs : List α} {y : Value} {x : α} {i : Nat} (h : Ptw R ys xs) (hl : ys.length = i) (hx : xs[i]? = some x) (hy : R y x) : Ptw R (ys ++ [y]) xs := by
  intro j v x' hv hx'
  by_cases hj : j < ys.length
  · rw [List.getElem?_append_left hj] at hv
    exact h j v x' hv hx'
  · have hj2 : j = i := by
      have := (List.getElem?_eq_some_iff.mp hv).1
      rw [List.length_append, List.length_singleton] at this
      omega
    subst hj2
    rw [← hl, List.getElem?_append_right (Nat.le_refl _), Nat.sub_self, List.getElem?_cons_zero] at hv
    cases hv
    rw [hx] at hx'
    cases hx'
    exact hy
theorem Ptw.mono {α : Type} {R R' : Value → α → Prop} {ys : List Value} {xs : List α} (h : Ptw R ys xs) (k : ∀ v x, R v x → R' v x) : Ptw R' ys xs := fun j v x hv hx => k v x (h j v x hv hx)
theorem Ptw.tail {α : Type} {R : Value → α → Prop} {ys : List Value} {xs : List α} {y : Value} {x : α} (h : Ptw R (y :: ys) (x :: xs)) : R y x ∧ Ptw R ys xs :=
  ⟨h 0 y x rfl rfl, fun j v z hv hz => h (j + 1) v z (by simpa using hv) (by simpa using hz)⟩
theorem joined_enc1 (a : Str) : enc a = enc (Str.join ⟨#[44]⟩ [a]) := rfl
theorem joined_enc2 (a b : Str) : joined #[44] [enc a, enc b] = enc (Str.join ⟨#[44]⟩ [a, b]) := by
  refine Array.ext' ?_
  unfold enc
  rw [join_L]
  simp [joined, joinL, List.zipIdx]
theorem joined_enc3 (a b c : Str) : joined #[44] [enc a, enc b, enc c] = enc (Str.join ⟨#[44]⟩ [a, b, c]) := by
  refine Array.ext' ?_
  unfold enc
  rw [join_L]
  simp [joined, joinL, List.zipIdx]
theorem enc_size (x : Str) : (enc x).size = x.length := by
  unfold enc
  rw [List.size_toArray, List.length_map, Array.length_toList]
  rfl
/-- b','.join over one to three bytes -/
theorem bjoin {prog : Program} {w : World} {A : Around} {E : Value → Shared → Prop} {s : Shared} {l : Addr} {vs : List Value} {ss : List Str} {n t : Tok} {Q : Value → Shared → Prop} (hl : s.heap.get? l = some (W.listOf vs.toArray n)) (hlen : vs.length = ss.length)
   (h1 : 1 ≤ ss.length) (h3 : ss.length ≤ 3) (hb : ∀ y ∈ ss, y.length ≤ 200000) (hv : Ptw (fun v x => ∃ t, v = .bytes (enc x) t) vs ss)
   (h : ∀ t' k, Q (.bytes (enc (Str.join ⟨#[44]⟩ ss)) t') { s with toks := k }) : wpAny (model prog w) A (call (.builtin "bytes.join") [.bytes #[44] t, .ref l]) Q E s := by
  have hjl := join_len 44 ss
  have hsum := sum_le hb
  match vs, ss, hlen with
  | [], [], _ => simp at h1
  | [v1], [x1], _ =>
    obtain ⟨t1, rfl⟩ := hv 0 v1 x1 rfl rfl
    exact bj1 hl (h t1 s.toks)
  | [v1, v2], [x1, x2], _ =>
    obtain ⟨t1, rfl⟩ := hv 0 v1 x1 rfl rfl
    obtain ⟨t2, rfl⟩ := hv 1 v2 x2 rfl rfl
    have b1 := hb x1 (.head _)
    have b2 := hb x2 (.tail _ (.head _))
    refine bj2 hl ⟨by rw [enc_size]; exact b1, by rw [enc_size]; exact b2⟩ ?_ ?_
    · rw [joined_enc2, enc_size]
      simp only [List.length_cons, List.length_nil] at hsum hjl
      omega
    · rw [joined_enc2]; exact h
  | [v1, v2, v3], [x1, x2, x3], _ =>
    obtain ⟨t1, rfl⟩ := hv 0 v1 x1 rfl rfl
    obtain ⟨t2, rfl⟩ := hv 1 v2 x2 rfl rfl
    obtain ⟨t3, rfl⟩ := hv 2 v3 x3 rfl rfl
    have b1 := hb x1 (.head _)
    have b2 := hb x2 (.tail _ (.head _))
    have b3 := hb x3 (.tail _ (.tail _ (.head _)))
    refine bj3 hl ⟨by rw [enc_size]; exact b1, by rw [enc_size]; exact b2, by rw [enc_size]; exact b3⟩ ?_ ?_
    · rw [joined_enc3, enc_size]
      simp only [List.length_cons, List.length_nil] at hsum hjl
      omega
    · rw [joined_enc3]; exact h
  | _ :: _ :: _ :: _ :: _, _ :: _ :: _ :: _ :: _, _ => simp only [List.length_cons] at h3; omega
theorem kAllOf {cs : List (Addr × Obj)} {d : Addr} (h : ∀ p ∈ cs, p.1 ≠ d) : ∀ p ∈ cs, p.1 ≠ d := h
/-- a made vText, its place within P -/
def CatIs (P : Addr → Prop) (h : Heap) (v : Value) (x : Str) : Prop := ∃ o dx tk v1 v2, v = .ref o ∧ P o ∧ P dx ∧ h.get? o = some (vtO dx x tk #[some v1, some v2]) ∧ h.get? dx = some edO
def CatIn (cs : List (Addr × Obj)) (v : Value) (x : Str) : Prop := ∃ o dx tk v1 v2, v = .ref o ∧ (o, vtO dx x tk #[some v1, some v2]) ∈ cs ∧ (dx, edO) ∈ cs
theorem CatIn.wide {cs cs' : List (Addr × Obj)} {v : Value} {x : Str} (h : CatIn cs v x) (k : ∀ p ∈ cs, p ∈ cs') : CatIn cs' v x := by
  obtain ⟨o, dx, tk, v1, v2, e, h1, h2⟩ := h
  exact ⟨o, dx, tk, v1, v2, e, k _ h1, k _ h2⟩
theorem cats_of {P : Addr → Prop} {h : Heap} : ∀ (ys : List Value) (xs : List Str), ys.length = xs.length → Ptw (CatIs P h) ys xs → ∃ cs : List (Addr × Obj), (∀ p ∈ cs, P p.1 ∧ h.get? p.1 = some p.2) ∧ Ptw (CatIn cs) ys xs
  | [], [], _, _ => ⟨[], ⟨by simp, Ptw.nil⟩⟩
  | [], _ :: _, e, _ => by simp at e
  | _ :: _, [], e, _ => by simp at e
  | y :: ys, x :: xs, e, hp => by
    obtain ⟨h1, h2⟩ := hp.tail
    obtain ⟨cs, hc, hr⟩ := cats_of ys xs (by simpa using e) h2
    obtain ⟨o, dx, tk, v1, v2, rfl, p1, p2, g1, g2⟩ := h1
    refine ⟨(o, vtO dx x tk #[some v1, some v2]) :: (dx, edO) :: cs, fun p hp => ?_, fun j v z hv hz => ?_⟩
    · rcases List.mem_cons.mp hp with rfl | hp
      · exact ⟨p1, g1⟩
      · rcases List.mem_cons.mp hp with rfl | hp
        · exact ⟨p2, g2⟩
        · exact hc p hp
    · cases j with
      | zero =>
        cases hv
        cases hz
        exact ⟨o, dx, tk, v1, v2, rfl, .head _, .tail _ (.head _)⟩
      | succ j => exact (hr j v z (by simpa using hv) (by simpa using hz)).wide fun p hp => .tail _ (.tail _ hp)
/-- the comprehension's statement of vCategory.__init__ -/
def JCat (s₁ : Shared) (ss : List Str) (Z : List Addr) (i : Nat) (ys : List Value) (s' : Shared) : Prop :=
  (∀ b ∈ Z, s₁.heap.get? b = none) ∧ Ext Non s₁ s' ∧ ys.length = i ∧ Ptw (CatIs (fun a => a ∉ Z ∧ s₁.heap.get? a = none) s'.heap) ys ss
theorem extZ {s₁ s s' : Shared} {Z : List Addr} (hz : ∀ b ∈ Z, s₁.heap.get? b = none) (x : Ext Non s₁ s) (k : ∀ b o, b ∉ Z → s.heap.get? b = some o → s'.heap.get? b = some o) (hg : s'.gens = s.gens) (ho : s'.os = s.os) : Ext Non s₁ s' :=
  ⟨fun b o n e => k b o (fun hb => by rw [hz b hb] at e; cases e) (x.keep b o n e), fun g => hg ▸ x.bare g, ho.trans x.os⟩
theorem JCat.stab {s₁ : Shared} {ss : List Str} {Z : List Addr} {i : Nat} {ys : List Value} {s s' : Shared} (h : JCat s₁ ss Z i ys s) (k : ∀ b o, b ∉ Z → s.heap.get? b = some o → s'.heap.get? b = some o) (hg : s'.gens = s.gens) (ho : s'.os = s.os) : JCat s₁ ss Z i ys s' := by
  obtain ⟨h1, h2, h3, h4⟩ := h
  refine ⟨h1, extZ h1 h2 k hg ho, h3, h4.mono fun v x hx => ?_⟩
  obtain ⟨o, dx, tk, v1, v2, e, p1, p2, g1, g2⟩ := hx
  exact ⟨o, dx, tk, v1, v2, e, p1, p2, k _ _ p1.1 g1, k _ _ p2.1 g2⟩
theorem zNone {s₁ : Shared} {h' : Heap} {I : Addr} {Z : List Addr} (k' : ∀ b o, s₁.heap.get? b = some o → h'.get? b = some o) (hI : s₁.heap.get? I = none) (hZ : ∀ b ∈ Z, b ∈ [I] ∨ h'.get? b = none) : ∀ b ∈ Z, s₁.heap.get? b = none := by
  intro b hb
  rcases hZ b hb with hb | hb
  · rw [List.mem_singleton] at hb
    subst hb
    exact hI
  · cases e : s₁.heap.get? b with
    | none => rfl
    | some o => rw [k' _ _ e] at hb; cases hb
end Mine
end
section
open PySem PySem.W PyProof.Rows PySem.Calls
namespace Mine
theorem fillit23 : (∀ (w : World) (s : Shared), (Mine.kd.heap_1 w.params).In s.heap → PySem.Challenge.rw_br0007_01.prog = PySem.Challenge.rw_br0007_01.prog) := by
  k_fill
  intros; rfl
section
local macro_rules | `(tactic| k_all) => `(tactic| exact kAllOf (by assumption))
set_option maxRecDepth 100000 in
set_option maxHeartbeats 8000000 in
theorem mkCat {w : World} {p : Program} {loose : List Str} {mg mb : Str → Option Value} {A : Around} {s : Shared} {l : Addr} {n : Nat} {vs : List Value} {ss : List Str}
   (h0 : Env0 w p loose mg mb s.heap) (hh : A.handled = none) (hd : A.depth < 650) (hu : A.units ≤ 3800) (hl : s.heap.get? l = some (W.listOf vs.toArray n)) (hS : StrsAre vs ss) (hlen : ss.length ≤ 3) (hx : ∀ y ∈ ss, y.length ≤ 10000) :
   wpAny (model prog0 w) A (call (.ref 513) [.ref l]) (Got s fun v h' => ∃ o dx T es ne m vs', v = .ref o ∧ InstAt h' o (instObj 513 dx) 513 (some (dictOf es ne)) ∧ getL (Str.ofString "cats") es = some (some (.ref T)) ∧ getL (Str.ofString "to_ical") es = some none ∧ h'.get? T = some (W.listOf (vs' : List Value).toArray m) ∧ vs'.length = ss.length ∧ Ptw (CatIs (fun a => s.heap.get? a = none) h') vs' ss) Nev s := by
  have KX := h0.K
  have T := h0.T
  refine wpAny_call ?_
  obtain ⟨h, g, d, t, os⟩ := s
  refine make_core (makes_of KX (by k_is)) (looks_findIn KX (by k_is)) (fun self => bind_fn KX self (f := 473) (by k_is)) (.inl rfl) ?_
  have kp : ∀ b o, h.get? b = some o → ((h.push emptyDict).push (instObj 513 h.objs.size)).get? b = some o := fun b o e => Heap.get?_push_of_some _ (Heap.get?_push_of_some _ e)
  have hA : (A.under (.builtin "type.__call__" ⟨[.ref 513, .ref l], []⟩)).handled = none := hh
  have hAd : (A.under (.builtin "type.__call__" ⟨[.ref 513, .ref l], []⟩)).depth ≤ A.depth + 1 := by show A.depth + Code.weight _ ≤ A.depth + 1; exact Nat.add_le_add_left (by show (1 : Nat) ≤ 1; exact Nat.le_refl _) _
  have hAu : (A.under (.builtin "type.__call__" ⟨[.ref 513, .ref l], []⟩)).units ≤ A.units + 1 := by show A.units + Code.cUnits _ ≤ A.units + 1; exact Nat.add_le_add_left (by show (1 : Nat) ≤ 1; exact Nat.le_refl _) _
  generalize hA' : A.under (.builtin "type.__call__" ⟨[.ref 513, .ref l], []⟩) = A' at hA hAd hAu ⊢
  refine' enter0 (binds := [(Str.ofString "self", .ref (h.objs.size + 1)), (Str.ofString "c_list", .ref l), (Str.ofString "params", .none)]) (KX.keeps kp) (T.nolimit.keeps kp) ?ho ?hcd ?hroom ?hbind ?hloc ?_ ?c1 ?c2 ?c3 ?c4
  case ho => k_is
  case hcd => k_is
  case hroom => unfold recursionLimit; omega
  case hbind => exact binds_K (KX.keeps kp) rfl (by k_is) rfl rfl (by kernel_rfl)
  case hloc => exact locs rfl
  case c1 => decide
  case c2 => rfl
  case c3 => rfl
  case c4 => rfl
  intro L h₁ F0 hk
  have hsz2 : ((h.push emptyDict).push (instObj 513 h.objs.size)).objs.size = h.objs.size + 1 + 1 := by rw [Heap.size_push, Heap.size_push]
  have fresh : ∀ a, h.objs.size ≤ a → h.get? a = none := fun a ha => by
    cases e : h.get? a with
    | none => rfl
    | some o' => exact absurd (Heap.lt_size e) (Nat.not_lt.mpr ha)
  have F : Fr h L h₁ _ := ⟨F0.ns, fun b o e => F0.keep b o (kp b o e), Nat.le_trans (Nat.le_trans (Nat.le_succ _) (Nat.le_succ _)) (by have := F0.above; rw [hsz2] at this; exact this)⟩
  have N : News h L h₁ [(h.objs.size + 1, instObj 513 h.objs.size), (h.objs.size, emptyDict)] := by
    intro q hq
    simp only [List.mem_cons, List.not_mem_nil, or_false] at hq
    rcases hq with rfl | rfl
    · have := hk (h.objs.size + 1) _ (Heap.get?_push_at (by rw [Heap.size_push]) rfl)
      exact ⟨this.1, this.2, fresh _ (Nat.le_succ _)⟩
    · have := hk h.objs.size _ (Heap.get?_push_of_some _ (Heap.get?_push_at rfl rfl))
      exact ⟨this.1, this.2, fresh _ (Nat.le_refl _)⟩
  have hxd : h.objs.size + 1 ≠ h.objs.size := Nat.succ_ne_self _
  generalize h.objs.size + 1 = x at *
  generalize h.objs.size = dx at *
  clear F0
  try dsimp only
  try k_fold
  k_with "call" => refine stop ?_
  k_steps
  k_with_none
  refine ⟨?_⟩
  (rename Fr _ _ _ _ => F1); (rename News _ _ _ _ => N1)
  refine wpAny_mono (weaken (A := A'.deeper _) hA (show A'.depth + 1 ≤ 950 by omega) (show A'.units + 3 ≤ 5000 by omega) (hasIterX (KX.keeps F1.keep) (F1.keep _ _ hl))) (fun v s2 hv => ?_) (fun _ _ z => z.elim)
  obtain ⟨h2, tk2, rfl, rfl, k2⟩ := hv
  have F2 := frExt F1 k2
  have N2 := newsExt N1 k2
  clear F1 N1
  k_with "call" => refine stop ?_
  k_steps
  k_with_none
  refine ⟨?_⟩
  (rename Fr _ _ _ _ => F2); (rename News _ _ _ _ => N2)
  refine wpAny_mono (weaken (A := A'.deeper _) hA (show A'.depth + 1 ≤ 950 by omega) (show A'.units + 3 ≤ 5000 by omega) (isListX (KX.keeps F2.keep) (F2.keep _ _ hl))) (fun v s2 hv => ?_) (fun _ _ z => z.elim)
  obtain ⟨h3, tk3, rfl, rfl, k3⟩ := hv
  have F3 := frExt F2 k3
  have N3 := newsExt N2 k3
  clear F2 N2
  k_with "eval ListComp" => refine stop ?_
  k_steps
  k_with_none
  refine ⟨?_⟩
  (rename Fr _ _ _ _ => F4); (rename News _ _ _ _ => N4)
  have hvl := hS.length
  refine LC_list (ax := l) (vs := vs) (s₁ := ⟨h3, g, d, _, os⟩) hA (JCat ⟨h3, g, d, tk3, os⟩ ss) (by with_unfolding_all rfl) (by decide) (by rfl) (by decide) (by rfl) (nameX_L F4 (by rfl) ⟨rfl, rfl⟩) ⟨_, F4.keep _ _ hl, rfl, _, rfl⟩ (by omega) ?ok ?fin (by intro _; with_unfolding_all rfl)
  case ok =>
    intro I' h' k' hI0
    refine ⟨fun Z i ys s s' hJ k hg ho => hJ.stab k hg ho, fun Z hZ => ⟨zNone (s₁ := ⟨h3, g, d, tk3, os⟩) k' hI0 hZ, Ext.of k', rfl, Ptw.nil⟩, ?_⟩
    intro Z C i v ys s₃ m₃ E' hi hv hJ hZe hZ hCZ hnC hmx
    obtain ⟨hJ1, hJ2, hJ3, hJ4⟩ := hJ
    have F3 := frExt F4 hJ2.all
    have N3 : News h L s₃.heap [] := News.nil
    have K3 := KX.keeps F3.keep
    have T3 := T.keeps F3.keep
    obtain ⟨x1, t1, hxi, rfl⟩ := strs_get hS hv
    have hx2 := hx x1 (List.mem_of_getElem? hxi)
    clear F4 N4
    k_with "eval Name" => (first | (refine cOwn hnC hmx ?_) | (refine cGlob K3 T3 (by k_is) ?_))
    k_with "call" => refine stop ?_
    k_steps
    k_with_none
    refine ⟨?_⟩
    (rename Fr _ _ _ _ => F3)
    refine wpAny_mono (vt (A := A'.deeper _) (h0.keeps F3.keep) hA (show A'.depth + 1 < 820 by omega) (show A'.units + 3 ≤ 4400 by omega) (by omega)) (fun v s4 hv => ?_) (fun _ _ z => z.elim)
    obtain ⟨h4, tk4, rfl, ⟨o1, dx1, ot1, v1, v2, rfl, ho1, hdx1, ho10, hdx10⟩, k4⟩ := hv
    have nz : ∀ a, s₃.heap.get? a = none → a ∉ Z ∧ h3.get? a = none := fun a e => by
      refine ⟨fun hz => ?_, ?_⟩
      · obtain ⟨o, eo⟩ := hZe a hz
        rw [e] at eo
        cases eo
      · cases z : h3.get? a with
        | none => rfl
        | some o => rw [hJ2.all _ _ z] at e; cases e
    refine ⟨⟨hJ1, hJ2.trans (Ext.of k4), by rw [List.length_append, List.length_singleton, hJ3], Ptw.snoc (hJ4.mono fun v x hx => ?_) hJ3 hxi ⟨o1, dx1, ot1, v1, v2, rfl, nz _ ho10, nz _ hdx10, ho1, hdx1⟩⟩, fun b o _ e => k4 _ _ e⟩
    obtain ⟨o, dxx, tk, u1, u2, e, p1, p2, g1, g2⟩ := hx
    exact ⟨o, dxx, tk, u1, u2, e, p1, p2, k4 _ _ g1, k4 _ _ g2⟩
  case fin =>
    intro Z D ys s' hDZ hD0 hJ hpl hlenD
    obtain ⟨hJ1, hJ2, hJ3, hJ4⟩ := hJ
    obtain ⟨nn, hpl⟩ := hpl
    obtain ⟨cs, hcs, hci⟩ := cats_of ys ss (by omega) hJ4
    have F5 := frExt F4 hJ2.all
    have ndx : ∀ a, h3.get? a = none → a ≠ dx ∧ a ≠ x ∧ a ≠ L ∧ h.get? a = none := fun a e => by
      refine ⟨fun q => ?_, fun q => ?_, fun q => ?_, ?_⟩
      · rw [q, (N4 _ (.tail _ (.head _))).1] at e; cases e
      · rw [q, (N4 _ (.head _)).1] at e; cases e
      · obtain ⟨o, _, _, eo, _⟩ := F4.ns
        rw [q, eo] at e
        cases e
      · cases z : h.get? a with
        | none => rfl
        | some o => rw [F4.keep _ _ z] at e; cases e
    have N5 : News h L s'.heap ((D, W.listOf ys.toArray nn) :: (x, instObj 513 dx) :: (dx, emptyDict) :: cs) := by
      intro p hp
      simp only [List.mem_cons] at hp
      rcases hp with rfl | rfl | rfl | hp
      · exact ⟨hpl, (ndx _ hD0).2.2.1, (ndx _ hD0).2.2.2⟩
      · have hq := N4 _ (.head _)
        exact ⟨hJ2.all _ _ hq.1, hq.2⟩
      · have hq := N4 _ (.tail _ (.head _))
        exact ⟨hJ2.all _ _ hq.1, hq.2⟩
      · obtain ⟨⟨_, q1⟩, q2⟩ := hcs p hp
        exact ⟨q2, (ndx _ q1).2.2.1, (ndx _ q1).2.2.2⟩
    have csd : ∀ p ∈ cs, p.1 ≠ dx := fun p hp => (ndx _ (hcs p hp).1.2).1
    have hDd : D ≠ dx := (ndx _ hD0).1
    have hDx : D ≠ x := (ndx _ hD0).2.1
    have xb := hJ2.bare
    have xo := hJ2.os
    clear F4 N4 hJ4 hcs hJ2 ndx hJ1
    obtain ⟨h5, g5, d5, t5, os5⟩ := s'
    dsimp only at F5 N5 xb xo
    k_with "call ref" => refine stop ?_
    k_steps
    k_with_none
    refine ⟨?_⟩
    (rename Fr _ _ _ _ => F6); (rename News _ _ _ _ => N6)
    refine wpAny_mono (par (s := ⟨_, g5, d5, _, os5⟩) (h0.keeps F6.keep) hA (show A'.depth + 1 < 860 by omega) (show A'.units + 3 ≤ 4600 by omega)) (fun v s11 hv => ?_) (fun _ _ z => z.elim)
    obtain ⟨h11, tk11, rfl, ⟨px, pdx, rfl, hpI, hpn⟩, k11⟩ := hv
    have F11 := frExt F6 k11
    have N11 := newsExt N6 k11
    clear F6 N6
    k_steps
    (rename Fr _ _ _ _ => F12); (rename News _ _ _ _ => N12)
    refine ⟨rfl, ⟨fun b o _ e => F12.keep b o e, xb, xo⟩, ?_⟩
    refine ⟨x, dx, D, _, _, nn, ys, rfl, ⟨(N12 _ (.tail _ (.head _))).1, rfl, rfl, (N12 _ (.tail _ (.tail _ (.head _)))).1⟩, ?_, ?_, (N12 _ (.head _)).1, by omega, ?_⟩
    · first | k_get | rfl | simp [getL]
    · first | k_get | rfl | simp [getL]
    · refine hci.mono fun v x hv => ?_
      obtain ⟨o, dy, tk, v1, v2, e, m1, m2⟩ := hv
      have q1 := N12 _ (.tail _ (.tail _ (.tail _ m1)))
      have q2 := N12 _ (.tail _ (.tail _ (.tail _ m2)))
      exact ⟨o, dy, tk, v1, v2, e, q1.2.2, q2.2.2, q1.1, q2.1⟩
end
end Mine
end
section
open PySem PySem.W PyProof.Rows PySem.Calls
namespace Mine
theorem fillit24 : (∀ (w : World) (s : Shared), (Mine.kd.heap_1 w.params).In s.heap → PySem.Challenge.rw_br0007_01.prog = PySem.Challenge.rw_br0007_01.prog) := by
  k_fill
  intros; rfl
section
variable {prog : Program} {w : World} {A : Around} {E : Value → Shared → Prop} {s : Shared} {pl : Sem Bool} {Q : Value × List Value → Shared → Prop}
theorem gmBJoin {x : Array UInt8} {t : Tok} (h : Q (.builtin "bytes.join", [.bytes x t]) s) : wpAny (model prog w) A (getMethod (.bytes x t) "join" pl) Q E s := by
  with_reducible exact getMethod_builtin (typeIs_bytes _ _ _) FB.plainAttrs_bytes slot_bytes_join type_bytes_join noRefB h
end
/-- the comprehension's statement of vCategory.to_ical -/
def JEnc (s₁ : Shared) (ss : List Str) (Z : List Addr) (i : Nat) (ys : List Value) (s' : Shared) : Prop :=
  (∀ b ∈ Z, s₁.heap.get? b = none) ∧ Ext Non s₁ s' ∧ ys.length = i ∧ Ptw (fun v x => ∃ t, v = .bytes (enc (escS x)) t) ys ss
theorem JEnc.stab {s₁ : Shared} {ss : List Str} {Z : List Addr} {i : Nat} {ys : List Value} {s s' : Shared} (h : JEnc s₁ ss Z i ys s) (k : ∀ b o, b ∉ Z → s.heap.get? b = some o → s'.heap.get? b = some o) (hg : s'.gens = s.gens) (ho : s'.os = s.os) : JEnc s₁ ss Z i ys s' :=
  ⟨h.1, extZ h.1 h.2.1 k hg ho, h.2.2⟩
theorem Ptw.map {α β : Type} {R : Value → β → Prop} {f : α → β} {ys : List Value} {xs : List α} (h : Ptw (fun v x => R v (f x)) ys xs) : Ptw R ys (xs.map f) := by
  intro j v z hv hz
  rw [List.getElem?_map] at hz
  obtain ⟨x, hx, rfl⟩ := Option.map_eq_some_iff.mp hz
  exact h j v x hv hx
set_option maxRecDepth 100000 in
set_option maxHeartbeats 8000000 in
theorem catIcal {w : World} {p : Program} {loose : List Str} {mg mb : Str → Option Value} {A : Around} {s : Shared} {P : Addr → Prop} {o dx T : Addr} {es : List DictEntry} {ne m : Nat} {vs : List Value} {ss : List Str}
   (h0 : Env0 w p loose mg mb s.heap) (hh : A.handled = none) (hd : A.depth < 700) (hu : A.units ≤ 4000) (I : InstAt s.heap o (instObj 513 dx) 513 (some (dictOf es ne))) (hf : getL (Str.ofString "cats") es = some (some (.ref T)))
   (hT : s.heap.get? T = some (W.listOf (vs : List Value).toArray m)) (hvl : vs.length = ss.length) (hS : Ptw (CatIs P s.heap) vs ss) (h1 : 1 ≤ ss.length) (hl : ss.length ≤ 3) (hok : ∀ y ∈ ss, OkL y.cps.toList ∧ y.length ≤ 5000) :
   wpAny (model prog0 w) A (call (.ref 485) [.ref o]) (Got s fun v _ => ∃ t', v = .bytes (enc (Str.join ⟨#[44]⟩ (ss.map escS))) t') Nev s := by
  refine wpAny_call ?_
  have KX := h0.K
  have TT := h0.T
  refine' enter0 (binds := [(Str.ofString "self", .ref o)]) KX TT.nolimit ?ho ?hcd ?hroom ?hbind ?hloc ?_ ?c1 ?c2 ?c3 ?c4
  case ho => k_is
  case hcd => k_is
  case hroom => unfold recursionLimit; omega
  case hbind => exact BindsTo.of_eq rfl
  case hloc => exact locs rfl
  case c1 => decide
  case c2 => rfl
  case c3 => rfl
  case c4 => rfl
  intro L h₁ F hk
  have N : News s.heap L h₁ [] := News.nil
  obtain ⟨h, g, d, tk0, os⟩ := s
  try dsimp only
  try k_fold
  k_with "getMethod bytes" => refine gmBJoin ?_
  k_with "eval ListComp" => refine stop ?_
  k_steps
  k_with_none
  refine ⟨?_⟩
  refine' LC_list (ax := T) (vs := vs) (s₁ := ⟨h₁, g, d, tk0 + 1 + 1 + 1, os⟩) hh (JEnc ⟨h₁, g, d, 0, os⟩ ss) (by with_unfolding_all rfl) (by decide) (by rfl) (by decide) (by rfl) ?h ?hl (by omega) ?ok ?fin (by intro _; with_unfolding_all rfl)
  case h =>
    rw [arm_eval_Attribute]
    refine wpAny_bind ?_
    refine nameX_L F (by rfl) ?_
    refine wpAny_bind (wpAny_standAt (wpAny_bind (wpAny_holding ?_)))
    refine get_own F KX ⟨F.keep _ _ I.at_, I.cls, I.no, F.keep _ _ I.dict⟩ (by k_is) (by k_is) (by k_is) (by k_is) hf (by rfl) ?_
    refine wpAny_bind (wpAny_of_eq (a := ()) (by with_unfolding_all rfl) (wpAny_pure ⟨rfl, rfl⟩))
  case hl => exact ⟨_, F.keep _ _ hT, rfl, _, rfl⟩
  case ok =>
    intro I' h' k' hI0
    refine ⟨fun Z i ys s s' hJ k hg ho => hJ.stab k hg ho, fun Z hZ => ⟨zNone (s₁ := ⟨h₁, g, d, 0, os⟩) k' hI0 hZ, Ext.of k', rfl, Ptw.nil⟩, ?_⟩
    intro Z C i v ys s₃ m₃ E' hi hv hJ hZe hZ hCZ hnC hmx
    obtain ⟨hJ1, hJ2, hJ3, hJ4⟩ := hJ
    have F3 := frExt F hJ2.all
    have N3 : News h L s₃.heap [] := News.nil
    have K3 := KX.keeps F3.keep
    have T3 := TT.keeps F3.keep
    have hil : i < ss.length := by omega
    have hxi : ss[i]? = some ss[i] := List.getElem?_eq_getElem hil
    generalize ss[i] = x1 at hxi
    obtain ⟨o1, dx1, ot1, v1, v2, rfl, _, _, ho1, hdx1⟩ := hS i v x1 hv hxi
    have hx2 := hok x1 (List.mem_of_getElem? hxi)
    clear F N
    k_with "eval Name" => (first | (refine cOwn hnC hmx ?_) | (refine cGlob K3 T3 (by k_is) ?_) | (refine cBuilt K3 T3 (by k_is) (by first | boot_by_name | rfl | kernel_rfl) (by decide +kernel) ?_))
    k_with "call" => refine stop ?_
    k_steps
    k_with_none
    refine ⟨?_⟩
    (rename Fr _ _ _ _ => F3)
    refine wpAny_mono (weaken (A := A.deeper _) hh (show A.depth + 1 ≤ 950 by omega) (show A.units + 3 ≤ 5000 by omega) (hasIcalX (KX.keeps F3.keep) (F3.keep _ _ ho1) (F3.keep _ _ hdx1))) (fun v s2 hv => ?_) (fun _ _ z => z.elim)
    obtain ⟨h4, tk4, rfl, rfl, k4⟩ := hv
    have F4 := frExt F3 k4
    have N4 : News h L h4 [] := News.nil
    have K4 := KX.keeps F4.keep
    have T4 := TT.keeps F4.keep
    have hnC4 := hnC.keeps k4
    clear F3 N3 K3
    k_with "eval Name" => (first | (refine cOwn hnC4 hmx ?_) | (refine cGlob K4 T4 (by k_is) ?_))
    k_with "getMethod ref" => refine stop ?_
    k_steps
    k_with_none
    refine ⟨?_⟩
    (rename Fr _ _ _ _ => F4)
    have K4 := KX.keeps F4.keep
    refine method_base2 K4 (F4.keep _ _ ho1) rfl rfl (F4.keep _ _ hdx1) (by k_is) (by decide +kernel) (by k_is) (f := .ref 365) (by k_is) (by k_is) (by decide) ?_
    k_with "call" => refine stop ?_
    k_steps
    k_with_none
    refine ⟨?_⟩
    (rename Fr _ _ _ _ => F4)
    refine wpAny_mono (vtIcal (A := A.deeper _) (h0.keeps F4.keep) hh (show A.depth + 1 < 780 by omega) (show A.units + 3 ≤ 4200 by omega) (F4.keep _ _ ho1) (F4.keep _ _ hdx1) hx2.1 (by omega)) (fun v s5 hv => ?_) (fun _ _ z => z.elim)
    obtain ⟨h5, tk5, rfl, ⟨t5, rfl⟩, k5⟩ := hv
    have kk : ∀ b o, s₃.heap.get? b = some o → h5.get? b = some o := fun b o e => k5 _ _ (k4 _ _ e)
    exact ⟨⟨hJ1, hJ2.trans (Ext.of kk), by rw [List.length_append, List.length_singleton, hJ3], Ptw.snoc hJ4 hJ3 hxi ⟨_, rfl⟩⟩, fun b o _ e => kk _ _ e⟩
  case fin =>
    intro Z D ys s' hDZ hD0 hJ hpl hlenD
    obtain ⟨hJ1, hJ2, hJ3, hJ4⟩ := hJ
    obtain ⟨nn, hpl⟩ := hpl
    have F5 := frExt F hJ2.all
    have N5 : News h L s'.heap [(D, W.listOf ys.toArray nn)] := newsAdd F News.nil hpl hD0
    have xb := hJ2.bare
    have xo := hJ2.os
    have xk := hJ2.all
    clear F N
    obtain ⟨h5, g5, d5, t5, os5⟩ := s'
    dsimp only at F5 N5 xb xo xk
    k_with "call" => refine stop ?_
    k_steps
    k_with_none
    refine ⟨?_⟩
    (rename Fr _ _ _ _ => F6); (rename News _ _ _ _ => N6)
    refine bjoin (ss := ss.map escS) (N6 _ (.head _)).1 (by rw [List.length_map]; omega) (by rw [List.length_map]; exact h1) (by rw [List.length_map]; exact hl) ?_ hJ4.map ?_
    · intro y hy
      obtain ⟨z, hz, rfl⟩ := List.mem_map.mp hy
      exact Nat.le_trans (escS_len z) (by have := (hok z hz).2; omega)
    intro t7 k7
    k_steps
    exact ⟨⟨fun b o _ e => F6.keep b o e, xb, xo⟩, _, rfl⟩
end Mine
end
section
open PySem PySem.W PyProof.Rows PySem.Calls
namespace Mine
/-- a tree of texts, so many levels deep -/
def TD : Nat → Type
  | 0 => List Nat
  | d + 1 => List (TD d)
abbrev kidsL {d : Nat} (t : TD (d + 1)) : List (TD d) := t
abbrev textL (t : TD 0) : List Nat := t
def mkL (d : Nat) : Nat := if d % 2 = 1 then 59 else 44
def codeL : (d : Nat) → TD d → List Nat
  | 0, x => x
  | d + 1, ks => joinL (mkL (d + 1)) (List.map (fun k => escL (codeL d k)) ks)
def toldL : (d : Nat) → List Nat → TD d
  | 0, x => x
  | d + 1, x => List.map (toldL d) (splitG (mkL (d + 1)) [] x)
def joinLL (z : List Nat) : List (List Nat) → List Nat
  | [] => []
  | [x] => x
  | x :: y :: r => x ++ z ++ joinLL z (y :: r)
def barsL (a : Nat) : List Nat := List.replicate (2 ^ a - 1) 92
def signL (a c : Nat) : List Nat := if c = 10 then List.replicate (2 ^ (a - 1)) 92 ++ [110] else if c = 92 ∨ c = 59 ∨ c = 44 then barsL a ++ [c] else [c]
def formL : (d : Nat) → TD d → Nat → List Nat
  | 0, x, a => List.flatMap (signL a) x
  | d + 1, ks, a => joinLL (barsL a ++ [mkL (d + 1)]) (List.map (fun k => formL d k (a + 1)) ks)
/-- every node has one to three parts, every text at most three of the law's signs -/
def Fine : (d : Nat) → TD d → Prop
  | 0, x => (textL x).length ≤ 3 ∧ ∀ c ∈ textL x, c ∈ [97, 92, 59, 44, 10, 58, 110, 34]
  | d + 1, ks => 1 ≤ (kidsL ks).length ∧ (kidsL ks).length ≤ 3 ∧ ∀ k ∈ kidsL ks, Fine d k
def escC (c : Nat) : List Nat := if c = 92 then [92, 92] else if c = 59 then [92, 59] else if c = 44 then [92, 44] else if c = 10 then [92, 110] else [c]
theorem escL_nil : escL [] = [] := rfl
theorem escL_app (a b : List Nat) : escL (a ++ b) = escL a ++ escL b := by
  unfold escL
  rw [sub_app, sub_app, sub_app, sub_app]
theorem escL_one (c : Nat) : escL [c] = escC c := by
  unfold escC
  split
  · rename_i h; subst h; decide
  · split
    · rename_i h; subst h; decide
    · split
      · rename_i h; subst h; decide
      · split
        · rename_i h; subst h; decide
        · rename_i h1 h2 h3 h4
          unfold escL
          rw [sub_free 92 _ [c] (by simpa using Ne.symm h1), sub_free 59 _ [c] (by simpa using Ne.symm h2), sub_free 44 _ [c] (by simpa using Ne.symm h3), sub_free 10 _ [c] (by simpa using Ne.symm h4)]
theorem escL_cons (c : Nat) (r : List Nat) : escL (c :: r) = escC c ++ escL r := by
  rw [← escL_one, ← escL_app]
  rfl
theorem escC_len (c : Nat) : (escC c).length ≤ 2 := by
  unfold escC
  repeat' split
  all_goals simp
theorem escL_len2 : ∀ l : List Nat, (escL l).length ≤ 2 * l.length
  | [] => Nat.le_refl _
  | c :: r => by
    have h := escL_len2 r
    have h2 := escC_len c
    rw [escL_cons, List.length_append, List.length_cons]
    omega
theorem unesc_esc : ∀ l : List Nat, unescL (escL l) = l
  | [] => rfl
  | c :: r => by
    have ih := unesc_esc r
    rw [escL_cons]
    unfold escC
    split
    · rename_i h; subst h
      show unescL (92 :: 92 :: escL r) = _
      unfold unescL
      rw [if_pos ⟨rfl, .inl rfl⟩, if_neg (by decide), ih]
    · split
      · rename_i h; subst h
        show unescL (92 :: 59 :: escL r) = _
        unfold unescL
        rw [if_pos ⟨rfl, by decide⟩, if_neg (by decide), ih]
      · split
        · rename_i h; subst h
          show unescL (92 :: 44 :: escL r) = _
          unfold unescL
          rw [if_pos ⟨rfl, by decide⟩, if_neg (by decide), ih]
        · split
          · rename_i h; subst h
            show unescL (92 :: 110 :: escL r) = _
            unfold unescL
            rw [if_pos ⟨rfl, by decide⟩, if_pos (by decide), ih]
          · rename_i h1 _ _ _
            show unescL (c :: escL r) = _
            have : ∀ q : List Nat, unescL (c :: q) = c :: unescL q := by
              intro q
              cases q with
              | nil => rfl
              | cons d q =>
                conv => lhs; unfold unescL
                rw [if_neg (fun z => h1 z.1)]
            rw [this, ih]
theorem split_esc {m : Nat} (hm : m = 59 ∨ m = 44) (rest : List Nat) : ∀ (l cur : List Nat), splitG m cur (escL l ++ rest) = splitG m (cur ++ escL l) rest
  | [], cur => by rw [escL_nil, List.nil_append, List.append_nil]
  | c :: r, cur => by
    have pair : ∀ d : Nat, splitG m cur ([92, d] ++ escL r ++ rest) = splitG m (cur ++ ([92, d] ++ escL r)) rest := fun d => by
      show splitG m cur (92 :: d :: (escL r ++ rest)) = _
      rw [splitG_esc _ _ _ _ _ rfl, split_esc hm rest r, List.append_assoc]
    rw [escL_cons]
    unfold escC
    split
    · exact pair _
    · split
      · exact pair _
      · split
        · exact pair _
        · split
          · exact pair _
          · rename_i h1 h2 h3 h4
            show splitG m cur (c :: (escL r ++ rest)) = splitG m (cur ++ (c :: escL r)) rest
            rw [splitG_one m c cur _ (by omega) (.inl h1), split_esc hm rest r, List.append_assoc]
            rfl
theorem split_join {m : Nat} (hm : m = 59 ∨ m = 44) : ∀ xs : List (List Nat), xs ≠ [] → splitG m [] (joinL m (xs.map escL)) = xs
  | [], h => absurd rfl h
  | [x], _ => by
    show splitG m [] (escL x) = _
    have h := split_esc hm [] x []
    rw [List.append_nil, List.nil_append, splitG_nil, unesc_esc] at h
    exact h
  | x :: y :: r, _ => by
    have ih := split_join hm (y :: r) (by simp)
    show splitG m [] (escL x ++ m :: joinL m ((y :: r).map escL)) = _
    rw [split_esc hm _ x [], List.nil_append, splitG_cut m m _ _ rfl (by omega), unesc_esc, ih]
theorem mkL_or (d : Nat) : mkL d = 59 ∨ mkL d = 44 := by
  unfold mkL
  split
  · exact .inl rfl
  · exact .inr rfl
theorem map_id_mem {α : Type} {f : α → α} : ∀ {l : List α}, (∀ x ∈ l, f x = x) → l.map f = l
  | [], _ => rfl
  | x :: r, h => by rw [List.map_cons, h x (.head _), map_id_mem fun y hy => h y (.tail _ hy)]
/-- read level by level it is the tree again -/
theorem told_code : ∀ (d : Nat) (t : TD d), Fine d t → toldL d (codeL d t) = t
  | 0, _, _ => rfl
  | d + 1, (ks : List (TD d)), h => by
    obtain ⟨h1, h2, h3⟩ := h
    have hne : (List.map (codeL d) ks) ≠ [] := by
      intro e
      have := congrArg List.length e
      rw [List.length_map] at this
      have h1' : 1 ≤ ks.length := h1
      rw [this] at h1'
      exact absurd h1' (by decide)
    show List.map (toldL d) (splitG (mkL (d + 1)) [] (joinL (mkL (d + 1)) (List.map (fun k => escL (codeL d k)) ks))) = ks
    have e : List.map (fun k => escL (codeL d k)) ks = (List.map (codeL d) ks).map escL := by rw [List.map_map]; rfl
    rw [e, split_join (mkL_or _) _ hne, List.map_map]
    exact map_id_mem fun k hk => told_code d k (h3 k hk)
/-- the hiding, so many times -/
def escN : Nat → List Nat → List Nat
  | 0, l => l
  | a + 1, l => escN a (escL l)
theorem escN_app : ∀ (a : Nat) (x y : List Nat), escN a (x ++ y) = escN a x ++ escN a y
  | 0, _, _ => rfl
  | a + 1, x, y => by
    show escN a (escL (x ++ y)) = _
    rw [escL_app, escN_app a]
    rfl
theorem escN_nil : ∀ a : Nat, escN a [] = []
  | 0 => rfl
  | a + 1 => escN_nil a
theorem esc_bars : ∀ n : Nat, escL (List.replicate n 92) = List.replicate (2 * n) 92
  | 0 => rfl
  | n + 1 => by
    rw [List.replicate_succ, escL_cons, esc_bars n]
    show [92, 92] ++ _ = List.replicate (2 * n + 1 + 1) 92
    rw [List.replicate_succ, List.replicate_succ]
    rfl
theorem escN_bars : ∀ a n : Nat, escN a (List.replicate n 92) = List.replicate (2 ^ a * n) 92
  | 0, n => by show List.replicate n 92 = _; rw [Nat.pow_zero, Nat.one_mul]
  | a + 1, n => by
    show escN a (escL _) = _
    rw [esc_bars, escN_bars a, Nat.pow_succ, Nat.mul_assoc]
theorem pow_pos2 (a : Nat) : 1 ≤ 2 ^ a := Nat.one_le_two_pow
theorem escN_mark {c : Nat} (hc : escC c = [92, c]) : ∀ a : Nat, escN a [c] = barsL a ++ [c]
  | 0 => rfl
  | a + 1 => by
    show escN a (escL [c]) = _
    rw [escL_one, hc]
    show escN a (List.replicate 1 92 ++ [c]) = _
    rw [escN_app, escN_bars, escN_mark hc a, ← List.append_assoc]
    unfold barsL
    rw [List.replicate_append_replicate]
    congr 2
    have := pow_pos2 a
    rw [Nat.pow_succ]
    omega
theorem escN_free {c : Nat} (hc : escC c = [c]) : ∀ a : Nat, escN a [c] = [c]
  | 0 => rfl
  | a + 1 => by
    show escN a (escL [c]) = _
    rw [escL_one, hc, escN_free hc a]
theorem escN_sign (a c : Nat) (ha : 1 ≤ a) : escN a [c] = signL a c := by
  unfold signL
  split
  · rename_i h; subst h
    obtain ⟨b, rfl⟩ : ∃ b, a = b + 1 := ⟨a - 1, by omega⟩
    show escN b (escL [10]) = _
    rw [escL_one]
    show escN b (List.replicate 1 92 ++ [110]) = _
    rw [escN_app, escN_bars, escN_free (by decide), Nat.mul_one]
    rfl
  · rename_i h
    split
    · rename_i h2
      rcases h2 with rfl | rfl | rfl
      · have : ([92] : List Nat) = List.replicate 1 92 := rfl
        rw [this, escN_bars, Nat.mul_one]
        unfold barsL
        rw [List.replicate_append_replicate]
        congr 1
        have := pow_pos2 a
        omega
      · exact escN_mark (by decide) a
      · exact escN_mark (by decide) a
    · rename_i h2
      refine escN_free ?_ a
      unfold escC
      rw [if_neg (by omega), if_neg (by omega), if_neg (by omega), if_neg h]
theorem escN_text (a : Nat) (ha : 1 ≤ a) : ∀ x : List Nat, escN a x = x.flatMap (signL a)
  | [] => escN_nil a
  | c :: r => by
    show escN a ([c] ++ r) = _
    rw [escN_app, escN_sign a c ha, escN_text a ha r]
    rfl
theorem escN_join (a m : Nat) (hm : m = 59 ∨ m = 44) : ∀ xs : List (List Nat), escN a (joinL m xs) = joinLL (barsL a ++ [m]) (xs.map (escN a))
  | [] => escN_nil a
  | [x] => rfl
  | x :: y :: r => by
    have ih := escN_join a m hm (y :: r)
    show escN a (x ++ ([m] ++ joinL m (y :: r))) = escN a x ++ (barsL a ++ [m]) ++ joinLL _ ((y :: r).map (escN a))
    rw [escN_app, escN_app, ih, escN_mark (by rcases hm with rfl | rfl <;> decide) a, List.append_assoc (escN a x)]
theorem form_code : ∀ (d : Nat) (t : TD d) (a : Nat), (d = 0 → 1 ≤ a) → formL d t a = escN a (codeL d t)
  | 0, x, a, h => (escN_text a (h rfl) x).symm
  | d + 1, (ks : List (TD d)), a, _ => by
    show joinLL _ (List.map (fun k => formL d k (a + 1)) ks) = escN a (joinL (mkL (d + 1)) (List.map (fun k => escL (codeL d k)) ks))
    rw [escN_join a _ (mkL_or _), List.map_map]
    congr 1
    refine List.map_congr_left fun k _ => ?_
    exact form_code d k (a + 1) fun _ => Nat.succ_le_succ (Nat.zero_le a)
/-- the one text is the closed form -/
theorem law_form (d : Nat) (t : TD (d + 1)) : codeL (d + 1) t = formL (d + 1) t 0 := (form_code (d + 1) t 0 (by simp)).symm
def lenB : Nat → Nat
  | 0 => 3
  | d + 1 => 6 * lenB d + 3
theorem joinL_le {m B : Nat} {xs : List (List Nat)} (h : ∀ x ∈ xs, x.length ≤ B) : (joinL m xs).length ≤ B * xs.length + xs.length := by
  refine Nat.le_trans (joinL_len xs) (Nat.add_le_add_right ?_ _)
  induction xs with
  | nil => simp
  | cons x r ih =>
    have h1 := h x (.head _)
    have h2 := ih fun y hy => h y (.tail _ hy)
    rw [List.map_cons, List.sum_cons, List.length_cons, Nat.mul_succ]
    omega
theorem code_len : ∀ (d : Nat) (t : TD d), Fine d t → (codeL d t).length ≤ lenB d
  | 0, _, h => h.1
  | d + 1, (ks : List (TD d)), ⟨_, h2, h3⟩ => by
    have := joinL_le (m := mkL (d + 1)) (B := 2 * lenB d) (xs := List.map (fun k => escL (codeL d k)) ks) (by
      intro x hx
      obtain ⟨k, hk, rfl⟩ := List.mem_map.mp hx
      exact Nat.le_trans (escL_len2 _) (Nat.mul_le_mul_left _ (code_len d k (h3 k hk))))
    rw [List.length_map] at this
    have h2' : ks.length ≤ 3 := h2
    have h4 : 2 * lenB d * ks.length ≤ 2 * lenB d * 3 := Nat.mul_le_mul_left _ h2'
    show (joinL _ _).length ≤ 6 * lenB d + 3
    omega
theorem code_ok : ∀ (d : Nat) (t : TD d), Fine d t → OkL (codeL d t)
  | 0, x, h => fun c hc => by
    have := h.2 c hc
    simp only [List.mem_cons, List.not_mem_nil, or_false] at this
    omega
  | d + 1, (ks : List (TD d)), ⟨_, _, h3⟩ => by
    refine joinL_ok (by rcases mkL_or (d + 1) with e | e <;> rw [e] <;> decide) fun x hx => ?_
    obtain ⟨k, hk, rfl⟩ := List.mem_map.mp hx
    exact esc_ok (code_ok d k (h3 k hk))
end Mine
end
section
open PySem PySem.W PyProof.Rows PySem.Calls
namespace Mine
section
variable {prog : Program} {w : World} {A : Around} {s : Shared} {K : Frag} {R : Result → Shared → Prop} {name qual : Str} {params : Arguments} {body : List Stmt} {scope : Scope} {dV kV doc pm cdv ct oc : Value} {an od : Option Addr} {osl : Array (Option Value)} {f : Addr} {args : Args} {binds : List (Str × Value)}
/-- into a def some of whose parameters are captured, over a ground that hides some objects -/
theorem enterC (hide : List Addr) (X : K.In s.heap) (hlim : s.heap.NoLimit)
    (ho : K.lookup f = some ⟨oc, od, .func (fnX name qual params body scope [] dV kV doc pm an cdv ct), osl⟩) (hcd : codeIn K cdv qual = true) (hroom : A.depth < recursionLimit)
    (hbind : BindsTo s (fnX name qual params body scope [] dV kV doc pm an cdv ct) args binds) (hkind : (binds.all fun y => scope.names.lookup y.1 == some .local || scope.names.lookup y.1 == some .cell) = true)
    (hnd : ((cellsFrom 0 scope.names []).map (·.1)).Nodup)
    (h : ∀ L h₁ tk cells, Fr (hideAll s.heap hide) L h₁ (bindL (envOfC qual scope L f cdv).kindOf binds fun _ => none) → News (hideAll s.heap hide) L h₁ cells →
      CellsAre (bindC (envOfC qual scope L f cdv).kindOf binds fun _ => none) (cellsFrom (L + 1) scope.names []) cells → (∀ b o, s.heap.get? b = some o → h₁.get? b = some o ∧ b ≠ L) →
      wpAny (model prog w) (A.deeper (envOfC qual scope L f cdv)) (execs body (envOfC qual scope L f cdv))
        (fun fl s' => R (.ok (.ret (match fl with | .ret v => v | _ => .none))) s')
        (fun _ _ => False)
        { s with heap := h₁, toks := tk })
    (hco : scope.isCoroutine = false) (hgen : scope.isGenerator = false) (hk : scope.kind = .function) : codeAny (model prog w) A (.call (.ref f) args) R s := by
  refine codeAny_call_function (fd := fnX name qual params body scope [] dV kV doc pm an cdv ct) (body := body) hroom (X _ _ ho) rfl hco hgen rfl (codeRec_of X hcd) (hbind _ _ _ _ ?_)
  refine wpAny_newFunctionEnv_cells hk (kindsX hkind _) fun env' he s' x => ?_
  subst he
  refine ⟨hlim.keeps x.toInCall.keep, codeAny_func ?_⟩
  obtain ⟨h₁, tk, rfl, _⟩ := x.done
  have hk₁ := x.toInCall.keep
  obtain ⟨cells, NC, Y⟩ := Cl.news (h₀ := s.heap) (Nat.le_refl _) fun n c hm => ⟨x.cell n c (lookup_of_mem_nodup (cellsFrom_names scope.names 0 (s.heap.objs.size + 1) [] [] rfl ▸ hnd) hm), x.above n c hm⟩
  refine wpAny_mono (h s.heap.objs.size h₁ tk cells ⟨x.toInCall.ns, fun b o e => hk₁ b o (of_hideAll _ e), Nat.le_of_eq (hideAll_size _ _)⟩ (fun p hp => ?_) Y (fun b o e => ⟨hk₁ b o e, Nat.ne_of_lt (Heap.lt_size e)⟩)) (fun fl s' hl => hl) fun _ _ y => y.elim
  refine ⟨(NC p hp).1, (NC p hp).2.1, ?_⟩
  cases q : (hideAll s.heap hide).get? p.1 with
  | none => rfl
  | some o => have := of_hideAll _ q; rw [(NC p hp).2.2] at this; cases this
end
section
variable {M : Model} {A : Around} {E : Value → Shared → Prop} {s : Shared} {C c : Addr} {scope : Scope} {cl : List (Str × Addr)} {env : Env} {x : Str} {pos : Pos} {v : Value} {Q : Value → Shared → Prop} {o : Obj}
/-- a captured name, read in a comprehension -/
theorem cCell (hc : cl.lookup x = some c) (ho : s.heap.get? c = some o) (hd : o.data = .cell (some v)) (h : Q v s)
    (hk : (compEnvC scope cl C env).scope.kind = .function := by rfl) (hl : (compEnvC scope cl C env).kindOf x = some .cell := by rfl) (hb : (x == ("__debug__" : Str)) = false := by decide) :
    wpAny M A (eval (.Name x pos) (compEnvC scope cl C env)) Q E s := wpAny_Name (wpAny_loadName_cell (env := compEnvC scope cl C env) hk hl hc ⟨o, ho, hd⟩ h) hb
end
/-- a tree as the heap holds it, its lists' places within P -/
def TIs (P : Addr → Prop) (h : Heap) : (d : Nat) → Value → TD d → Prop
  | 0, v, x => ∃ t, v = .str (strL (textL x)) t
  | d + 1, v, ks => ∃ l n vs, v = .ref l ∧ P l ∧ h.get? l = some (W.listOf (vs : List Value).toArray n) ∧ vs.length = (kidsL ks).length ∧ Ptw (TIs P h d) vs (kidsL ks)
theorem TIs.keeps {P P' : Addr → Prop} {h h' : Heap} (kp : ∀ a, P a → P' a) (k : ∀ b o, P b → h.get? b = some o → h'.get? b = some o) : ∀ (d : Nat) {v : Value} {t : TD d}, TIs P h d v t → TIs P' h' d v t
  | 0, _, _, x => x
  | d + 1, _, _, ⟨l, n, vs, e, p, g, q, r⟩ => ⟨l, n, vs, e, kp _ p, k _ _ p g, q, r.mono fun _ _ z => TIs.keeps kp k d z⟩
theorem hide402 {h : Heap} : ∀ b o, (hideAll h [402]).get? b = some o → b ≠ 402 ∧ h.get? b = some o := fun b o e => by
  refine ⟨fun q => ?_, of_hideAll _ e⟩
  rw [q, hideAll_none [402] (by simp)] at e
  cases e
end Mine
end
section
open PySem PySem.W PyProof.Rows PySem.Calls
namespace Mine
theorem fillit25 : (∀ (w : World) (s : Shared), (Mine.kd.heap_1 w.params).In s.heap → PySem.Challenge.rw_br0007_01.prog = PySem.Challenge.rw_br0007_01.prog) := by
  k_fill
  intros; rfl
/-- what a call gives back that may let the table of vOrg.__init__'s codes grow -/
def GotO (s : Shared) (P : Value → Heap → Prop) (v : Value) (s' : Shared) : Prop := Ext P402 s s' ∧ OrgTab s'.heap ∧ P v s'.heap
/-- what _law_code gives back, at this depth -/
def CodeC (w : World) (p : Program) (loose : List Str) (mg mb : Str → Option Value) (d : Nat) : Prop :=
  ∀ (A : Around) (s : Shared) (P : Addr → Prop) (v : Value) (t : TD d) (k : Int) (tk : Tok), k = (d : Int) → d ≤ 4 → Env1 w p loose mg mb s.heap → A.handled = none → A.depth + 10 * d < 600 → A.units + 20 * d ≤ 3500 → (∀ a, P a → a ≠ 402) → TIs P s.heap d v t → Fine d t →
   wpAny (model prog0 w) A (call (.ref 527) [v, .int k tk]) (GotO s fun v _ => ∃ t', v = .str (strL (codeL d t)) t') Nev s
/-- the comprehension's statement -/
def JCode (s₁ : Shared) (d : Nat) (ks : List (TD d)) (Z : List Addr) (i : Nat) (ys : List Value) (s' : Shared) : Prop :=
  (∀ b ∈ Z, s₁.heap.get? b = none) ∧ (Ext P402 s₁ s' ∧ OrgTab s'.heap) ∧ ys.length = i ∧ Ptw (fun v k => ∃ t, v = .str (strL (codeL d k)) t) ys ks
theorem orgTab_stab {h₁ h h' : Heap} {Z : List Addr} (t₁ : OrgTab h₁) (hz : ∀ b ∈ Z, h₁.get? b = none) (t : OrgTab h) (k : ∀ b o, b ∉ Z → h.get? b = some o → h'.get? b = some o) : OrgTab h' := by
  obtain ⟨o₁, ps₁, e1, e2, _⟩ := t₁.at
  obtain ⟨o, ps, f1, f2, mk⟩ := t.at
  exact mk _ (k _ _ (fun hb => by rw [hz _ hb] at e1; cases e1) f1) (k _ _ (fun hb => by rw [hz _ hb] at e2; cases e2) f2)
theorem extZ402 {s₁ s s' : Shared} {Z : List Addr} (hz : ∀ b ∈ Z, s₁.heap.get? b = none) (x : Ext P402 s₁ s) (k : ∀ b o, b ∉ Z → s.heap.get? b = some o → s'.heap.get? b = some o) (hg : s'.gens = s.gens) (ho : s'.os = s.os) : Ext P402 s₁ s' :=
  ⟨fun b o n e => k b o (fun hb => by rw [hz b hb] at e; cases e) (x.keep b o n e), fun g => hg ▸ x.bare g, ho.trans x.os⟩
theorem JCode.stab {s₁ : Shared} {d : Nat} {ks : List (TD d)} {Z : List Addr} {i : Nat} {ys : List Value} {s s' : Shared} (t₁ : OrgTab s₁.heap) (h : JCode s₁ d ks Z i ys s) (k : ∀ b o, b ∉ Z → s.heap.get? b = some o → s'.heap.get? b = some o) (hg : s'.gens = s.gens) (ho : s'.os = s.os) : JCode s₁ d ks Z i ys s' :=
  ⟨h.1, ⟨extZ402 h.1 h.2.1.1 k hg ho, orgTab_stab t₁ h.1 h.2.1.2 k⟩, h.2.2⟩
set_option maxRecDepth 100000 in
set_option maxHeartbeats 8000000 in
theorem code0 {w : World} {p : Program} {loose : List Str} {mg mb : Str → Option Value} : CodeC w p loose mg mb 0 := by
  intro A s P v t k tk hk0 hd4 h1 hh hd hu hP ht hf
  refine wpAny_call ?_
  have h0 := h1.e0
  have KX := h0.K
  have TT := h0.T
  obtain ⟨tt, rfl⟩ := ht
  have hk0 : k = 0 := hk0
  subst hk0
  refine' enterC [] (binds := [(Str.ofString "tree", .str (strL (textL t)) tt), (Str.ofString "deep", .int 0 tk)]) KX TT.nolimit ?ho ?hcd ?hroom ?hbind ?hkind ?hnd ?_ ?c2 ?c3 ?c4
  case ho => k_is
  case hcd => k_is
  case hroom => unfold recursionLimit; omega
  case hbind => exact BindsTo.of_eq rfl
  case hkind => rfl
  case hnd => decide
  case c2 => rfl
  case c3 => rfl
  case c4 => rfl
  intro L h₁ tk₁ cells F N Y hkeep
  have Y' : CellsAre _ [(Str.ofString "deep", L + 1)] cells := Y
  obtain ⟨oc, rfl, hoc⟩ := Y'.one
  have hoc' : oc.data = .cell (some (.int 0 tk)) := hoc
  obtain ⟨h, g, d, tk0, os⟩ := s
  try dsimp only
  try k_fold
  k_steps
  (rename Fr _ _ _ _ => F6)
  exact ⟨⟨fun b o n e => (hkeep b o e).1, id, rfl⟩, h1.tab.keeps fun b o e => (hkeep b o e).1, _, rfl⟩
theorem join_code (c d : Nat) (ks : List (TD d)) : Str.join ⟨#[c]⟩ ((ks.map fun k => strL (codeL d k)).map escS) = strL (joinL c (ks.map fun k => escL (codeL d k))) := by
  refine toList_ext ?_
  rw [join_L, List.map_map, List.map_map]
  rfl
section
local macro_rules | `(tactic| walk_at "exec Assign cons ListComp") => `(tactic| refine stop ?_)
set_option maxRecDepth 100000 in
set_option maxHeartbeats 8000000 in
theorem codeS {w : World} {p : Program} {loose : List Str} {mg mb : Str → Option Value} {d : Nat} (ih : CodeC w p loose mg mb d) : CodeC w p loose mg mb (d + 1) := by
  intro A s P v t k tkk hk0 hd4 h1 hh hd hu hP ht hf
  refine wpAny_call ?_
  have h0 := h1.e0
  have KX := h0.K
  have TT := h0.T
  obtain ⟨lt, nt, vs, rfl, hlP, hlt, hvl, hvs⟩ := ht
  refine' enterC [402] (binds := [(Str.ofString "tree", .ref lt), (Str.ofString "deep", .int k tkk)]) KX TT.nolimit ?ho ?hcd ?hroom ?hbind ?hkind ?hnd ?_ ?c2 ?c3 ?c4
  case ho => k_is
  case hcd => k_is
  case hroom => unfold recursionLimit; omega
  case hbind => exact BindsTo.of_eq rfl
  case hkind => rfl
  case hnd => decide
  case c2 => rfl
  case c3 => rfl
  case c4 => rfl
  intro L h₁ tk₁ cells F N0 Y hkeep
  have Y' : CellsAre _ [(Str.ofString "deep", L + 1)] cells := Y
  obtain ⟨oc, rfl, hoc⟩ := Y'.one
  have hoc' : oc.data = .cell (some (.int k tkk)) := hoc
  clear hoc Y Y'
  have E5 := ground402 h1
  have tab := h1.tab
  obtain ⟨o406, ps, e406, e402, hmk⟩ := tab.at
  have KX := E5.K
  have TT := E5.T
  obtain ⟨h, g, dr, tk0, os⟩ := s
  dsimp only at F N0 hkeep e406 e402 hlt hvs E5 KX TT tab
  have N : News (hideAll h [402]) L h₁ [(L + 1, oc), (402, ({ cls := .none, data := .fields ps } : Obj))] := by
    intro q hq
    simp only [List.mem_cons, List.not_mem_nil, or_false] at hq
    rcases hq with rfl | rfl
    · exact N0 _ (.head _)
    · exact ⟨(hkeep _ _ e402).1, (hkeep _ _ e402).2, hideAll_none [402] (by simp)⟩
  have hL4 : L ≠ 402 := Ne.symm (hkeep _ _ e402).2
  clear N0
  have hpos : k ≠ 0 := by omega
  try dsimp only
  try k_fold
  k_steps
  all_goals (try (exfalso; omega))
  refine ⟨?_⟩
  have hks : (kidsL t).length ≤ 3 := hf.2.1
  have nl402 : lt ≠ 402 := hP _ hlP
  have FL := F.ns
  have oldk : ∀ b o, b ≠ 402 → h.get? b = some o → h₁.get? b = some o := fun b o n e => (hkeep b o e).1
  have hL5 : L + 1 ≠ 402 := by
    have q1 := Heap.lt_size e402
    have q2 := F.above
    rw [hideAll_size] at q2
    exact Nat.ne_of_gt (Nat.lt_succ_of_lt (Nat.lt_of_lt_of_le q1 q2))
  have tab1 : OrgTab h₁ := tab.keeps fun b o e => (hkeep b o e).1
  refine LA_list (ax := lt) (vs := vs) (s₁ := ⟨h₁, g, dr, tk, os⟩) (m := _) hh (JCode ⟨h₁, g, dr, tk, os⟩ d (kidsL t)) (by with_unfolding_all rfl) (by decide) (by rfl) (by decide) (by rfl) ?hit ?hl ?hsz ?ok ?hsw ?hy ?hp FL ?keep ?fin ?hs
  case hsw => with_unfolding_all rfl
  case hy => rfl
  case hp => rfl
  case hs => intro _; with_unfolding_all rfl
  case hit => refine nameX_L F (by rfl) ⟨rfl, rfl⟩
  case hl => exact ⟨_, oldk _ _ nl402 hlt, rfl, _, rfl⟩
  case hsz => omega
  case keep => exact fun Z i ys s' hJ => FL.at' fun o e => hJ.2.1.1.keep _ _ hL4 e
  case ok =>
    intro I' h' k' hI0
    have hkt : h₁.get? 402 = some ({ cls := .none, data := .fields ps } : Obj) := (hkeep _ _ e402).1
    refine ⟨fun Z i ys s s' hJ k hg ho => hJ.stab tab1 k hg ho, fun Z hZ => ?_, ?_⟩
    · have hz := zNone (s₁ := ⟨h₁, g, dr, tk, os⟩) k' hI0 hZ
      exact ⟨hz, ⟨(Ext.of k').wide, tab1.keeps k'⟩, rfl, Ptw.nil⟩
    · intro Z C i v ys s₃ m₃ E' hi hv hJ hZe hZ hCZ hnC hmx
      obtain ⟨hJ1, ⟨hJ2, hJ2t⟩, hJ3, hJ4⟩ := hJ
      have old3 : ∀ b o, b ≠ 402 → h.get? b = some o → s₃.heap.get? b = some o := fun b o n e => hJ2.keep b o n (oldk b o n e)
      have F3 : Fr (hideAll h [402]) L s₃.heap _ := ⟨FL.at' fun o e => hJ2.keep _ _ hL4 e, fun b o e => old3 b o (hide402 b o e).1 (hide402 b o e).2, F.above⟩
      have hc3 : s₃.heap.get? (L + 1) = some oc := hJ2.keep _ _ hL5 (N _ (.head _)).1
      have N3 : News (hideAll h [402]) L s₃.heap [(L + 1, oc)] := fun q hq => by
        rw [List.mem_singleton] at hq
        subst hq
        exact ⟨hc3, (N _ (.head _)).2⟩
      have K3 := KX.keeps F3.keep
      have T3 := TT.keeps F3.keep
      have E3 : Env1 w p loose mg mb s₃.heap := h1.but old3 hJ2t
      have hil : i < (kidsL t).length := by omega
      have hxi : (kidsL t)[i]? = some (kidsL t)[i] := List.getElem?_eq_getElem hil
      have hmem : (kidsL t)[i] ∈ kidsL t := List.getElem_mem hil
      generalize (kidsL t)[i] = kid at hxi hmem
      have hkid : TIs P s₃.heap d v kid := (hvs i v kid hv hxi).keeps (fun _ z => z) (fun b o hb e => old3 b o (hP _ hb) e) d
      have hfk : Fine d kid := hf.2.2 kid hmem
      clear F N FL
      k_with "eval Name" => (first | (refine cOwn hnC hmx ?_) | (refine cGlob K3 T3 (by k_is) ?_) | (refine cCell (by rfl) hc3 hoc' ?_))
      k_with "call" => refine stop ?_
      k_steps
      k_with_none
      refine ⟨?_⟩
      refine wpAny_mono (ih (A.deeper _) ⟨s₃.heap, s₃.gens, s₃.drawn, _, s₃.os⟩ P v kid (k - 1) _ (by omega) (by omega) E3 hh (show A.depth + 1 + 10 * d < 600 by omega) (show A.units + 3 + 20 * d ≤ 3500 by omega) hP hkid hfk) (fun y s₄ hy => ?_) (fun _ _ z => z.elim)
      obtain ⟨hx4, ht4, t4, rfl⟩ := hy
      have hx4' : Ext P402 s₃ s₄ := ⟨hx4.keep, hx4.bare, hx4.os⟩
      refine ⟨⟨hJ1, ⟨hJ2.trans hx4', ht4⟩, by rw [List.length_append, List.length_singleton, hJ3], Ptw.snoc hJ4 hJ3 hxi ⟨_, rfl⟩⟩, fun b o hb e => hx4.keep b o (fun q => ?_) e⟩
      have q : b = 402 := q
      subst q
      rcases List.mem_append.mp hb with hb | hb
      · rw [hJ1 _ hb] at hkt; cases hkt
      · simp only [List.mem_cons, List.not_mem_nil, or_false] at hb
        rcases hb with hb | hb
        · rw [hb, hI0] at hkt; cases hkt
        · exact nl402 hb.symm
  case fin =>
    intro Z D C ys s' h₃ tk3 hD hC hD0 hC0 hJ hlen hpl hns hk3
    obtain ⟨hJ1, ⟨hJ2, hJ2t⟩, hJ3, hJ4⟩ := hJ
    obtain ⟨nn, hpl⟩ := hpl
    obtain ⟨p406, ps', f406, f402, mk'⟩ := hJ2t.at
    have old3 : ∀ b o, b ≠ 402 → h.get? b = some o → s'.heap.get? b = some o := fun b o n e => hJ2.keep b o n (oldk b o n e)
    have hC0' : h₁.get? C = none := hC0
    have hD0' : h₁.get? D = none := hD0
    have nLC : ∀ b o, h₁.get? b = some o → b ≠ C ∧ b ≠ D := fun b o e => ⟨(fun q => by rw [q, hC0'] at e; cases e), (fun q => by rw [q, hD0'] at e; cases e)⟩
    have hkt : h₁.get? 402 = some ({ cls := .none, data := .fields ps } : Obj) := (hkeep _ _ e402).1
    have hk406 : h₁.get? 406 = some o406 := (hkeep _ _ e406).1
    have e6 : p406 = o406 := by
      have := hJ2.keep 406 _ (by decide) hk406
      rw [f406] at this
      cases this
      rfl
    subst e6
    have F3 : Fr (hideAll h [402]) L h₃ _ := ⟨hns, fun b o e => hk3 b o (hkeep _ _ (hide402 b o e).2).2 (nLC b o (hkeep _ _ (hide402 b o e).2).1).1 (old3 b o (hide402 b o e).1 (hide402 b o e).2), F.above⟩
    have nb : ∀ b, h₁.get? b = none → (hideAll h [402]).get? b = none := fun b e => by
      cases z : (hideAll h [402]).get? b with
      | none => rfl
      | some o => rw [(hkeep _ _ (hide402 b o z).2).1] at e; cases e
    have hLD : D ≠ L := fun q => by
      obtain ⟨o, _, _, eo, _⟩ := FL
      rw [← q, hD0] at eo
      cases eo
    have N3 : News (hideAll h [402]) L h₃ [(D, W.listOf ys.toArray nn), (L + 1, oc), (402, ({ cls := .none, data := .fields ps' } : Obj))] := by
      intro q hq
      simp only [List.mem_cons, List.not_mem_nil, or_false] at hq
      rcases hq with rfl | rfl | rfl
      · exact ⟨hpl, hLD, nb _ hD0⟩
      · have z := N _ (.head _)
        exact ⟨hk3 _ _ z.2.1 (nLC _ _ z.1).1 (hJ2.keep _ _ hL5 z.1), z.2⟩
      · exact ⟨hk3 _ _ (Ne.symm hL4) (nLC _ _ hkt).1 f402, Ne.symm hL4, hideAll_none [402] (by simp)⟩
    have xb := hJ2.bare
    have xo := hJ2.os
    have hD402 : D ≠ 402 := fun q => by
      rw [q, hkt] at hD0'
      cases hD0'
    have tab3 : OrgTab h₃ := mk' _ (F3.keep _ _ (hideAll_get [402] e406 (by decide))) (N3 _ (.tail _ (.tail _ (.head _)))).1
    have E3 : Env1 w p loose mg mb h₃ := h1.but (fun b o n e => F3.keep b o (hideAll_get [402] e (by simpa using n))) tab3
    clear F N FL hJ1 hJ2 hJ2t
    obtain ⟨h5, g5, d5, t5, os5⟩ := s'
    dsimp only at F3 N3 xb xo
    have hl3 : ys.length = (kidsL t).length := by omega
    have hf3 : ∀ k ∈ kidsL t, Fine d k := hf.2.2
    have hlB : lenB d ≤ 777 := by
      have : d ≤ 3 := by omega
      match d, this with
      | 0, _ => decide
      | 1, _ => decide
      | 2, _ => decide
      | 3, _ => decide
    have hkok : ∀ y ∈ (kidsL t).map (fun k => strL (codeL d k)), OkL y.cps.toList ∧ y.length ≤ 777 := by
      intro y hy
      obtain ⟨k, hk, rfl⟩ := List.mem_map.mp hy
      exact ⟨code_ok d k (hf3 k hk), Nat.le_trans (by rw [len_L]; exact code_len d k (hf3 k hk)) hlB⟩
    have hSS0 : StrsAre ys ((kidsL t).map fun k => strL (codeL d k)) := strs_of (by rw [List.length_map]; exact hl3) fun j v hj => by
      have hjl : j < (kidsL t).length := by
        have := (List.getElem?_eq_some_iff.mp hj).1
        omega
      obtain ⟨t', rfl⟩ := hJ4 j v _ hj (List.getElem?_eq_getElem hjl)
      exact ⟨_, t', by rw [List.getElem?_map, List.getElem?_eq_getElem hjl]; rfl, rfl⟩
    have hl1 : 1 ≤ ((kidsL t).map fun k => strL (codeL d k)).length := by rw [List.length_map]; exact hf.1
    have hl3' : ((kidsL t).map fun k => strL (codeL d k)).length ≤ 3 := by rw [List.length_map]; exact hks
    have hcl : (codeL (d + 1) t).length ≤ 100000 := Nat.le_trans (code_len (d + 1) t hf) (by show 6 * lenB d + 3 ≤ _; omega)
    have hco : OkL (codeL (d + 1) t) := code_ok (d + 1) t hf
    have keep3 : ∀ b o, b ≠ 402 → h.get? b = some o → h₃.get? b = some o := fun b o n e => F3.keep b o (hideAll_get [402] e (by simpa using n))
    k_with "call ref" => refine stop ?_
    k_steps
    k_with_none
    · refine ⟨?_⟩
      (rename Int.fmod _ _ = 1 => hm); (rename Fr _ _ _ _ => F4); (rename News _ _ _ _ => N4)
      have hmk : mkL (d + 1) = 59 := by
        rw [Int.fmod_eq_emod_of_nonneg _ (by decide)] at hm
        unfold mkL
        rw [if_pos (by omega)]
      refine wpAny_mono (mkOrg (s := ⟨h₃, g5, d5, _, os5⟩) E3 hh (show A.depth + 1 < 650 by omega) (show A.units + 3 ≤ 3800 by omega) (N4 _ (.head _)).1 hSS0 hl3' hl1 hD402) (fun v s6 hv => ?_) (fun _ _ z => z.elim)
      obtain ⟨hx6, ht6, o, dx, T, es, ne, vs', rfl, hI, hfl, hti, hTt, hSS⟩ := hv
      have F6 : Fr (hideAll h [402]) L s6.heap _ := ⟨F4.ns.at' fun o e => hx6.keep _ _ hL4 e, fun b o e => hx6.keep b o (hide402 b o e).1 (F4.keep b o e), F4.above⟩
      have N6 : News (hideAll h [402]) L s6.heap [] := News.nil
      clear F4 N4
      refine method_inst F6 KX hI (by k_is) (f := 412) (by k_is) (by k_is) hti ?_
      k_with "call ref" => refine stop ?_
      k_steps
      k_with_none
      refine ⟨?_⟩
      have E6 : Env0 w p loose mg mb s6.heap := (E3.but hx6.keep ht6).e0
      refine wpAny_mono (orgIcal (s := s6) (A := A.deeper _) E6 hh (show A.depth + 1 < 700 by omega) (show A.units + 3 ≤ 4000 by omega) hI hfl hTt hSS hl3' (fun y hy => ⟨(hkok y hy).1, Nat.le_trans (hkok y hy).2 (by decide)⟩)) (fun v s7 hv => ?_) (fun _ _ z => z.elim)
      obtain ⟨hx7, t7, rfl⟩ := hv
      have F7 := frExt F6 hx7.all
      have N7 : News (hideAll h [402]) L s7.heap [] := News.nil
      clear F6 N6
      refine gmDec ?_
      k_with "call" => refine stop ?_
      k_steps
      k_with_none
      refine ⟨?_⟩
      rw [join_code, ← hmk]
      have hce : strL (codeL (d + 1) t) = strL (joinL (mkL (d + 1)) ((kidsL t).map fun k => escL (codeL d k))) := rfl
      rw [← hce]
      refine decode_A (x := strL (codeL (d + 1) t)) (fun c hc => (hco c hc).1) (by rw [len_L]; show (codeL (d + 1) t).length ≤ _; omega) ?_
      intro t8 k8 hk8
      exact ⟨⟨fun b o n e => hx7.all _ _ (hx6.keep b o n (keep3 b o n e)), fun G => hx7.bare (hx6.bare (xb G)), hx7.os.trans (hx6.os.trans xo)⟩, ht6.keeps hx7.all, _, rfl⟩
    · refine ⟨?_⟩
      (rename Int.fmod _ _ ≠ 1 => hm); (rename Fr _ _ _ _ => F4); (rename News _ _ _ _ => N4)
      have hmk : mkL (d + 1) = 44 := by
        rw [Int.fmod_eq_emod_of_nonneg _ (by decide)] at hm
        unfold mkL
        rw [if_neg (by omega)]
      refine wpAny_mono (mkCat (s := ⟨h₃, g5, d5, _, os5⟩) E3.e0 hh (show A.depth + 1 < 650 by omega) (show A.units + 3 ≤ 3800 by omega) (N4 _ (.head _)).1 hSS0 hl3' (fun y hy => Nat.le_trans (hkok y hy).2 (by decide))) (fun v s6 hv => ?_) (fun _ _ z => z.elim)
      obtain ⟨hx6, o, dx, T, es, ne, m, vs', rfl, hI, hfl, hti, hTt, hvl', hSS⟩ := hv
      have ht6 := tab3.keeps hx6.all
      have F6 := frExt F4 hx6.all
      have N6 : News (hideAll h [402]) L s6.heap [] := News.nil
      clear F4 N4
      refine method_inst F6 KX hI (by k_is) (f := 485) (by k_is) (by k_is) hti ?_
      k_with "call ref" => refine stop ?_
      k_steps
      k_with_none
      refine ⟨?_⟩
      have E6 : Env0 w p loose mg mb s6.heap := E3.e0.keeps hx6.all
      refine wpAny_mono (catIcal (s := s6) (A := A.deeper _) E6 hh (show A.depth + 1 < 700 by omega) (show A.units + 3 ≤ 4000 by omega) hI hfl hTt hvl' hSS hl1 hl3' (fun y hy => ⟨(hkok y hy).1, Nat.le_trans (hkok y hy).2 (by decide)⟩)) (fun v s7 hv => ?_) (fun _ _ z => z.elim)
      obtain ⟨hx7, t7, rfl⟩ := hv
      have F7 := frExt F6 hx7.all
      have N7 : News (hideAll h [402]) L s7.heap [] := News.nil
      clear F6 N6
      refine gmDec ?_
      k_with "call" => refine stop ?_
      k_steps
      k_with_none
      refine ⟨?_⟩
      rw [join_code, ← hmk]
      have hce : strL (codeL (d + 1) t) = strL (joinL (mkL (d + 1)) ((kidsL t).map fun k => escL (codeL d k))) := rfl
      rw [← hce]
      refine decode_A (x := strL (codeL (d + 1) t)) (fun c hc => (hco c hc).1) (by rw [len_L]; show (codeL (d + 1) t).length ≤ _; omega) ?_
      intro t8 k8 hk8
      exact ⟨⟨fun b o n e => hx7.all _ _ (hx6.all b o (keep3 b o n e)), fun G => hx7.bare (hx6.bare (xb G)), hx7.os.trans (hx6.os.trans xo)⟩, ht6.keeps hx7.all, _, rfl⟩
end
theorem codeAll {w : World} {p : Program} {loose : List Str} {mg mb : Str → Option Value} : ∀ d : Nat, CodeC w p loose mg mb d
  | 0 => code0
  | d + 1 => codeS (codeAll d)
end Mine
end
section
open PySem PySem.W PyProof.Rows PySem.Calls
namespace Mine
theorem fillit26 : (∀ (w : World) (s : Shared), (Mine.kd.heap_1 w.params).In s.heap → PySem.Challenge.rw_br0007_01.prog = PySem.Challenge.rw_br0007_01.prog) := by
  k_fill
  intros; rfl
section
variable {prog : Program} {w : World} {A : Around} {s : Shared} {K : Frag} {R : Result → Shared → Prop} {name qual : Str} {params : Arguments} {body : List Stmt} {scope : Scope} {dV kV doc pm cdv ct oc : Value} {an od : Option Addr} {osl : Array (Option Value)} {f : Addr} {args : Args} {binds : List (Str × Value)}
/-- into a def some of whose parameters are captured, over the ground as it stands -/
theorem enterC0 (X : K.In s.heap) (hlim : s.heap.NoLimit)
    (ho : K.lookup f = some ⟨oc, od, .func (fnX name qual params body scope [] dV kV doc pm an cdv ct), osl⟩) (hcd : codeIn K cdv qual = true) (hroom : A.depth < recursionLimit)
    (hbind : BindsTo s (fnX name qual params body scope [] dV kV doc pm an cdv ct) args binds) (hkind : (binds.all fun y => scope.names.lookup y.1 == some .local || scope.names.lookup y.1 == some .cell) = true)
    (hnd : ((cellsFrom 0 scope.names []).map (·.1)).Nodup)
    (h : ∀ L h₁ tk cells, Fr s.heap L h₁ (bindL (envOfC qual scope L f cdv).kindOf binds fun _ => none) → News s.heap L h₁ cells →
      CellsAre (bindC (envOfC qual scope L f cdv).kindOf binds fun _ => none) (cellsFrom (L + 1) scope.names []) cells → (∀ b o, s.heap.get? b = some o → h₁.get? b = some o ∧ b ≠ L) →
      wpAny (model prog w) (A.deeper (envOfC qual scope L f cdv)) (execs body (envOfC qual scope L f cdv))
        (fun fl s' => R (.ok (.ret (match fl with | .ret v => v | _ => .none))) s')
        (fun _ _ => False)
        { s with heap := h₁, toks := tk })
    (hco : scope.isCoroutine = false) (hgen : scope.isGenerator = false) (hk : scope.kind = .function) : codeAny (model prog w) A (.call (.ref f) args) R s := by
  refine codeAny_call_function (fd := fnX name qual params body scope [] dV kV doc pm an cdv ct) (body := body) hroom (X _ _ ho) rfl hco hgen rfl (codeRec_of X hcd) (hbind _ _ _ _ ?_)
  refine wpAny_newFunctionEnv_cells hk (kindsX hkind _) fun env' he s' x => ?_
  subst he
  refine ⟨hlim.keeps x.toInCall.keep, codeAny_func ?_⟩
  obtain ⟨h₁, tk, rfl, _⟩ := x.done
  have hk₁ := x.toInCall.keep
  obtain ⟨cells, NC, Y⟩ := Cl.news (h₀ := s.heap) (Nat.le_refl _) fun n c hm => ⟨x.cell n c (lookup_of_mem_nodup (cellsFrom_names scope.names 0 (s.heap.objs.size + 1) [] [] rfl ▸ hnd) hm), x.above n c hm⟩
  exact wpAny_mono (h s.heap.objs.size h₁ tk cells ⟨x.toInCall.ns, fun b o e => hk₁ b o e, Nat.le_refl _⟩ NC Y (fun b o e => ⟨hk₁ b o e, Nat.ne_of_lt (Heap.lt_size e)⟩)) (fun fl s' hl => hl) fun _ _ y => y.elim
end
theorem split_code (d : Nat) (t : TD (d + 1)) (h : 1 ≤ (kidsL t).length) : splitG (mkL (d + 1)) [] (codeL (d + 1) t) = (kidsL t).map (codeL d) := by
  have hne : (kidsL t).map (codeL d) ≠ [] := by
    intro e
    have := congrArg List.length e
    rw [List.length_map] at this
    rw [this] at h
    exact absurd h (by decide)
  have e : (kidsL t).map (fun k => escL (codeL d k)) = ((kidsL t).map (codeL d)).map escL := by rw [List.map_map]; rfl
  show splitG (mkL (d + 1)) [] (joinL (mkL (d + 1)) ((kidsL t).map fun k => escL (codeL d k))) = _
  rw [e, split_join (mkL_or _) _ hne]
/-- what _law_told gives back, at this depth -/
def ToldC (w : World) (p : Program) (loose : List Str) (mg mb : Str → Option Value) (d : Nat) : Prop :=
  ∀ (A : Around) (s : Shared) (x : Str) (tv : Tok) (t : TD d) (k : Int) (tk : Tok), x = strL (codeL d t) → k = (d : Int) → d ≤ 4 → Env0 w p loose mg mb s.heap → A.handled = none → A.depth + 10 * d < 600 → A.units + 20 * d ≤ 3500 → Fine d t →
   wpAny (model prog0 w) A (call (.ref 532) [.str x tv, .int k tk]) (Got s fun v h' => TIs (fun a => s.heap.get? a = none) h' d v t) Nev s
/-- the comprehension's statement -/
def JTold (s₁ : Shared) (d : Nat) (ks : List (TD d)) (Z : List Addr) (i : Nat) (ys : List Value) (s' : Shared) : Prop :=
  (∀ b ∈ Z, s₁.heap.get? b = none) ∧ Ext Non s₁ s' ∧ ys.length = i ∧ Ptw (TIs (fun a => a ∉ Z ∧ s₁.heap.get? a = none) s'.heap d) ys ks
theorem JTold.stab {s₁ : Shared} {d : Nat} {ks : List (TD d)} {Z : List Addr} {i : Nat} {ys : List Value} {s s' : Shared} (h : JTold s₁ d ks Z i ys s) (k : ∀ b o, b ∉ Z → s.heap.get? b = some o → s'.heap.get? b = some o) (hg : s'.gens = s.gens) (ho : s'.os = s.os) : JTold s₁ d ks Z i ys s' :=
  ⟨h.1, extZ h.1 h.2.1 k hg ho, h.2.2.1, h.2.2.2.mono fun _ _ z => z.keeps (fun _ q => q) (fun b o hb e => k b o hb.1 e) d⟩
theorem none_back {h h' : Heap} (k : ∀ b o, h.get? b = some o → h'.get? b = some o) {a : Addr} (e : h'.get? a = none) : h.get? a = none := by
  cases z : h.get? a with
  | none => rfl
  | some o => rw [k _ _ z] at e; cases e
theorem JTold.step {s₁ s₃ s₄ : Shared} {d : Nat} {ks : List (TD d)} {Z : List Addr} {i : Nat} {ys : List Value} {y : Value} {kid : TD d} (h : JTold s₁ d ks Z i ys s₃) (hZe : ∀ b ∈ Z, ∃ o, s₃.heap.get? b = some o) (x : Ext Non s₃ s₄) (hi : ks[i]? = some kid) (hy : TIs (fun a => s₃.heap.get? a = none) s₄.heap d y kid) : JTold s₁ d ks Z (i + 1) (ys ++ [y]) s₄ := by
  obtain ⟨h1, h2, h3, h4⟩ := h
  refine ⟨h1, h2.trans x, by rw [List.length_append, List.length_singleton, h3], Ptw.snoc (h4.mono fun _ _ z => z.keeps (fun _ q => q) (fun b o _ e => x.all b o e) d) h3 hi (hy.keeps (fun a ha => ⟨fun hz => ?_, none_back h2.all ha⟩) (fun _ _ _ e => e) d)⟩
  obtain ⟨o, e⟩ := hZe a hz
  rw [ha] at e
  cases e
set_option maxRecDepth 100000 in
set_option maxHeartbeats 8000000 in
theorem told0 {w : World} {p : Program} {loose : List Str} {mg mb : Str → Option Value} : ToldC w p loose mg mb 0 := by
  intro A s x tv t k tkk hxt hk0 hd4 h0 hh hd hu hf
  refine wpAny_call ?_
  have KX := h0.K
  have TT := h0.T
  have hk0 : k = 0 := hk0
  subst hk0
  refine' enterC0 (binds := [(Str.ofString "code", .str x tv), (Str.ofString "deep", .int 0 tkk)]) KX TT.nolimit ?ho ?hcd ?hroom ?hbind ?hkind ?hnd ?_ ?c2 ?c3 ?c4
  case ho => k_is
  case hcd => k_is
  case hroom => unfold recursionLimit; omega
  case hbind => exact BindsTo.of_eq rfl
  case hkind => rfl
  case hnd => decide
  case c2 => rfl
  case c3 => rfl
  case c4 => rfl
  intro L h₁ tk₁ cells F N Y hkeep
  have Y' : CellsAre _ [(Str.ofString "deep", L + 1)] cells := Y
  obtain ⟨oc, rfl, hoc⟩ := Y'.one
  have hoc' : oc.data = .cell (some (.int 0 tkk)) := hoc
  obtain ⟨h, g, d, tk0, os⟩ := s
  try dsimp only
  try k_fold
  k_steps
  exact ⟨⟨fun b o _ e => (hkeep b o e).1, id, rfl⟩, tv, by rw [hxt]; rfl⟩
section
local macro_rules | `(tactic| walk_at "eval ListComp") => `(tactic| refine stop ?_)
set_option maxRecDepth 100000 in
set_option maxHeartbeats 8000000 in
theorem toldS {w : World} {p : Program} {loose : List Str} {mg mb : Str → Option Value} {d : Nat} (ih : ToldC w p loose mg mb d) : ToldC w p loose mg mb (d + 1) := by
  intro A s x tv t k tkk hxt hk0 hd4 h0 hh hd hu hf
  refine wpAny_call ?_
  have KX := h0.K
  have TT := h0.T
  refine' enterC0 (binds := [(Str.ofString "code", .str x tv), (Str.ofString "deep", .int k tkk)]) KX TT.nolimit ?ho ?hcd ?hroom ?hbind ?hkind ?hnd ?_ ?c2 ?c3 ?c4
  case ho => k_is
  case hcd => k_is
  case hroom => unfold recursionLimit; omega
  case hbind => exact BindsTo.of_eq rfl
  case hkind => rfl
  case hnd => decide
  case c2 => rfl
  case c3 => rfl
  case c4 => rfl
  intro L h₁ tk₁ cells F N Y hkeep
  have Y' : CellsAre _ [(Str.ofString "deep", L + 1)] cells := Y
  obtain ⟨oc, rfl, hoc⟩ := Y'.one
  have hoc' : oc.data = .cell (some (.int k tkk)) := hoc
  clear hoc Y Y'
  obtain ⟨h, g, dr, tk0, os⟩ := s
  dsimp only at F N hkeep h0 KX TT
  have hks : (kidsL t).length ≤ 3 := hf.2.1
  have hk1 : 1 ≤ (kidsL t).length := hf.1
  have hsp := split_code d t hk1
  have hcl : (codeL (d + 1) t).length ≤ 5000 := by
    have h1 := code_len (d + 1) t hf
    refine Nat.le_trans h1 ?_
    have : d ≤ 3 := by omega
    match d, this with
    | 0, _ => decide
    | 1, _ => decide
    | 2, _ => decide
    | 3, _ => decide
  have hcx : x.length ≤ 5000 := by rw [hxt, len_L]; exact hcl
  have hxl : x.cps.toList = codeL (d + 1) t := by rw [hxt]
  clear hxt hcl
  try dsimp only
  try k_fold
  k_with "call ref" => refine stop ?_
  k_steps
  k_with_none
  all_goals (try (exfalso; omega))
  · refine ⟨?_⟩
    (rename Int.fmod _ _ = 1 => hm)
    have hmk : mkL (d + 1) = 59 := by
      rw [Int.fmod_eq_emod_of_nonneg _ (by decide)] at hm
      unfold mkL
      rw [if_pos (by omega)]
    refine wpAny_mono (orgFrom (s := ⟨h₁, g, dr, _, os⟩) (A := A.deeper _) (h0.keeps F.keep) hh (show A.depth + 1 < 700 by omega) (show A.units + 3 ≤ 4000 by omega) (by omega) (by rw [hxl, ← hmk, hsp, List.length_map]; omega)) (fun v s2 hv => ?_) (fun _ _ z => z.elim)
    obtain ⟨hx2, T, vs, rfl, ⟨oT, hoT, hcT, nT, hdT⟩, hTn, hS⟩ := hv
    have F2 := frExt F hx2.all
    have N2 := newsAdd F (newsExt N hx2.all) hoT hTn
    have xb := hx2.bare
    have xo := hx2.os
    obtain ⟨h2, g2, d2, t2, os2⟩ := s2
    dsimp only at F2 N2 xb xo
    clear F N
    k_steps
    refine ⟨?_⟩
    (rename Nat => tk); (rename Heap => h3)
    (rename Fr _ _ _ _ => F3); (rename News _ _ _ _ => N3)
    have hSk : StrsAre vs ((kidsL t).map fun k => strL (codeL d k)) := by
      rw [hxl, ← hmk, hsp, List.map_map] at hS
      exact hS
    have hvl : vs.length = (kidsL t).length := by rw [hSk.length, List.length_map]
    have tT := N3 _ (.head _)
    refine LC_tup (ax := T) (vs := vs) (s₁ := ⟨h3, g2, d2, tk, os2⟩) hh (JTold ⟨h3, g2, d2, tk, os2⟩ d (kidsL t)) (by with_unfolding_all rfl) (by decide) (by rfl) (by decide) (by rfl) (nameX_L F3 (by rfl) ⟨rfl, rfl⟩) ⟨_, tT.1, hcT, _, hdT⟩ (by omega) ?ok ?fin (by intro _; with_unfolding_all rfl)
    case ok =>
      intro I' h' k' hI0
      refine ⟨fun Z i ys s s' hJ k hg ho => hJ.stab k hg ho, fun Z hZ => ⟨zNone (s₁ := ⟨h3, g2, d2, tk, os2⟩) k' hI0 hZ, Ext.of k', rfl, Ptw.nil⟩, ?_⟩
      intro Z C i v ys s₃ m₃ E' hi hv hJ hZe hZ hCZ hnC hmx
      have hJ2 := hJ.2.1
      have F4 := frExt F3 hJ2.all
      have hc4 : s₃.heap.get? (L + 1) = some oc := hJ2.all _ _ (N3 _ (.tail _ (.head _))).1
      have N4 : News h L s₃.heap [(L + 1, oc)] := fun q hq => by
        rw [List.mem_singleton] at hq
        subst hq
        exact ⟨hc4, (N3 _ (.tail _ (.head _))).2⟩
      have K4 := KX.keeps F4.keep
      have T4 := TT.keeps F4.keep
      have E4 := h0.keeps F4.keep
      have hil : i < (kidsL t).length := by omega
      have hxi : (kidsL t)[i]? = some (kidsL t)[i] := List.getElem?_eq_getElem hil
      have hmem : (kidsL t)[i] ∈ kidsL t := List.getElem_mem hil
      generalize (kidsL t)[i] = kid at hxi hmem
      obtain ⟨x2, t2, hx2i, rfl⟩ := strs_get hSk hv
      have hx2k : x2 = strL (codeL d kid) := by
        rw [List.getElem?_map, hxi] at hx2i
        cases hx2i
        rfl
      have hfk : Fine d kid := hf.2.2 kid hmem
      clear F3 N3 tT
      k_with "eval Name" => (first | (refine cOwn hnC hmx ?_) | (refine cGlob K4 T4 (by k_is) ?_) | (refine cCell (by rfl) hc4 hoc' ?_))
      k_with "call" => refine stop ?_
      k_steps
      k_with_none
      refine ⟨?_⟩
      refine wpAny_mono (ih (A.deeper _) ⟨s₃.heap, s₃.gens, s₃.drawn, _, s₃.os⟩ x2 _ kid (k - 1) _ hx2k (by omega) (by omega) E4 hh (show A.depth + 1 + 10 * d < 600 by omega) (show A.units + 3 + 20 * d ≤ 3500 by omega) hfk) (fun y s₄ hy => ?_) (fun _ _ z => z.elim)
      obtain ⟨hx4, hy⟩ := hy
      have hx4' : Ext Non s₃ s₄ := ⟨hx4.keep, hx4.bare, hx4.os⟩
      exact ⟨hJ.step hZe hx4' hxi hy, fun b o _ e => hx4.all _ _ e⟩
    case fin =>
      intro Z D ys s' hDZ hD0 hJ hpl hlenD
      obtain ⟨hJ1, hJ2, hJ3, hJ4⟩ := hJ
      obtain ⟨nn, hpl⟩ := hpl
      have back : ∀ a, h3.get? a = none → h.get? a = none := fun a e => none_back F3.keep e
      refine ⟨⟨fun b o _ e => hJ2.all _ _ (F3.keep _ _ e), fun G => hJ2.bare (xb G), hJ2.os.trans xo⟩, D, nn, ys, rfl, back _ hD0, hpl, by omega, hJ4.mono fun _ _ z => z.keeps (fun a ha => back a ha.2) (fun _ _ _ e => e) d⟩
  · refine ⟨?_⟩
    (rename Int.fmod _ _ ≠ 1 => hm)
    have hmk : mkL (d + 1) = 44 := by
      rw [Int.fmod_eq_emod_of_nonneg _ (by decide)] at hm
      unfold mkL
      rw [if_neg (by omega)]
    refine split_comma (h0.keeps F.keep) (show A.depth + 1 < 800 by omega) (by omega) ?_
    intro h2 t2 T vs n k2 hTn hoT hS
    have F2 := frExt F k2
    have N2 := newsAdd F (newsExt N k2) hoT hTn
    have xb : AllBare g → AllBare g := id
    have xo : os = os := rfl
    clear F N
    k_steps
    refine ⟨?_⟩
    (rename Nat => tk); (rename Heap => h3)
    (rename Fr _ _ _ _ => F3); (rename News _ _ _ _ => N3)
    have hSk : StrsAre vs ((kidsL t).map fun k => strL (codeL d k)) := by
      rw [hxl, ← hmk, hsp, List.map_map] at hS
      exact hS
    have hvl : vs.length = (kidsL t).length := by rw [hSk.length, List.length_map]
    have tT := N3 _ (.head _)
    refine LC_list (ax := T) (vs := vs) (s₁ := ⟨h3, g, dr, tk, os⟩) hh (JTold ⟨h3, g, dr, tk, os⟩ d (kidsL t)) (by with_unfolding_all rfl) (by decide) (by rfl) (by decide) (by rfl) (nameX_L F3 (by rfl) ⟨rfl, rfl⟩) ⟨_, tT.1, rfl, _, rfl⟩ (by omega) ?ok ?fin (by intro _; with_unfolding_all rfl)
    case ok =>
      intro I' h' k' hI0
      refine ⟨fun Z i ys s s' hJ k hg ho => hJ.stab k hg ho, fun Z hZ => ⟨zNone (s₁ := ⟨h3, g, dr, tk, os⟩) k' hI0 hZ, Ext.of k', rfl, Ptw.nil⟩, ?_⟩
      intro Z C i v ys s₃ m₃ E' hi hv hJ hZe hZ hCZ hnC hmx
      have hJ2 := hJ.2.1
      have F4 := frExt F3 hJ2.all
      have hc4 : s₃.heap.get? (L + 1) = some oc := hJ2.all _ _ (N3 _ (.tail _ (.head _))).1
      have N4 : News h L s₃.heap [(L + 1, oc)] := fun q hq => by
        rw [List.mem_singleton] at hq
        subst hq
        exact ⟨hc4, (N3 _ (.tail _ (.head _))).2⟩
      have K4 := KX.keeps F4.keep
      have T4 := TT.keeps F4.keep
      have E4 := h0.keeps F4.keep
      have hil : i < (kidsL t).length := by omega
      have hxi : (kidsL t)[i]? = some (kidsL t)[i] := List.getElem?_eq_getElem hil
      have hmem : (kidsL t)[i] ∈ kidsL t := List.getElem_mem hil
      generalize (kidsL t)[i] = kid at hxi hmem
      obtain ⟨x2, t2, hx2i, rfl⟩ := strs_get hSk hv
      have hx2k : x2 = strL (codeL d kid) := by
        rw [List.getElem?_map, hxi] at hx2i
        cases hx2i
        rfl
      have hfk : Fine d kid := hf.2.2 kid hmem
      clear F3 N3 tT
      k_with "eval Name" => (first | (refine cOwn hnC hmx ?_) | (refine cGlob K4 T4 (by k_is) ?_) | (refine cCell (by rfl) hc4 hoc' ?_))
      k_with "call" => refine stop ?_
      k_steps
      k_with_none
      refine ⟨?_⟩
      refine wpAny_mono (ih (A.deeper _) ⟨s₃.heap, s₃.gens, s₃.drawn, _, s₃.os⟩ x2 _ kid (k - 1) _ hx2k (by omega) (by omega) E4 hh (show A.depth + 1 + 10 * d < 600 by omega) (show A.units + 3 + 20 * d ≤ 3500 by omega) hfk) (fun y s₄ hy => ?_) (fun _ _ z => z.elim)
      obtain ⟨hx4, hy⟩ := hy
      have hx4' : Ext Non s₃ s₄ := ⟨hx4.keep, hx4.bare, hx4.os⟩
      exact ⟨hJ.step hZe hx4' hxi hy, fun b o _ e => hx4.all _ _ e⟩
    case fin =>
      intro Z D ys s' hDZ hD0 hJ hpl hlenD
      obtain ⟨hJ1, hJ2, hJ3, hJ4⟩ := hJ
      obtain ⟨nn, hpl⟩ := hpl
      have back : ∀ a, h3.get? a = none → h.get? a = none := fun a e => none_back F3.keep e
      refine ⟨⟨fun b o _ e => hJ2.all _ _ (F3.keep _ _ e), fun G => hJ2.bare (xb G), hJ2.os.trans xo⟩, D, nn, ys, rfl, back _ hD0, hpl, by omega, hJ4.mono fun _ _ z => z.keeps (fun a ha => back a ha.2) (fun _ _ _ e => e) d⟩
end
theorem toldAll {w : World} {p : Program} {loose : List Str} {mg mb : Str → Option Value} : ∀ d : Nat, ToldC w p loose mg mb d
  | 0 => told0
  | d + 1 => toldS (toldAll d)
end Mine
end
section
open PySem PySem.W PyProof.Rows PySem.Calls
namespace Mine
/-- what the loop over a text's signs has made so far -/
def FormP (a : Nat) (pre : List Int) (form : Str) : Prop := form = strL (List.flatMap (signL a) (pre.map Int.toNat))
theorem fold_bars (c : Nat) : ∀ (n : Nat) (acc : Array Nat), (List.replicate n (#[c] : Array Nat)).foldl (· ++ ·) acc = acc ++ (List.replicate n c).toArray
  | 0, acc => by simp
  | n + 1, acc => by
    rw [List.replicate_succ, List.foldl_cons, fold_bars c n, List.replicate_succ]
    refine Array.ext' ?_
    simp
theorem mul_bars (n : Nat) : Txt.mul (Str.ofString "\\") (n : Int) = strL (List.replicate n 92) := by
  rw [bs_str]
  unfold Txt.mul
  by_cases h0 : n = 0
  · subst h0; rfl
  · rw [if_neg (by omega)]
    by_cases h1 : n = 1
    · subst h1; rfl
    · rw [if_neg (by
        have : ((n : Int) == 1) = false := beq_eq_false_iff_ne.mpr (by omega)
        rw [this]
        simp [Str.length]), Int.toNat_natCast, fold_bars]
      simp
theorem strL_app (a b : List Nat) : strL a ++ strL b = strL (a ++ b) := by
  refine toList_ext ?_
  show ((strL a).cps ++ (strL b).cps).toList = _
  simp
theorem strL_len (l : List Nat) : (strL l).length = l.length := by
  rw [len_L]
theorem one_strL (n : Nat) : (⟨#[n]⟩ : Str) = strL [n] := rfl
theorem in_set3 (c : Nat) : (Builtin.Str.occurrences (Str.ofString "\\;,") ⟨#[c]⟩ 0 (Str.ofString "\\;,").length 1).isEmpty = decide (¬ (c = 92 ∨ c = 59 ∨ c = 44)) := by
  have h := StrLaws.found_one (Str.ofString "\\;,") c
  rw [show (Str.ofString "\\;,").cps.toList = [92, 59, 44] from by decide +kernel] at h
  simp only [List.mem_cons, List.not_mem_nil, or_false] at h
  rw [← Bool.not_not (Builtin.Str.occurrences _ _ _ _ _).isEmpty, h]
  simp
theorem formP_step {a n : Nat} {pre : List Int} {f y : Str} (hp : FormP a pre f) (hl : f.length ≤ 17 * pre.length) (hy : y = strL (signL a n)) (hs : (signL a n).length ≤ 17) :
    FormP a (pre ++ [(n : Int)]) (f ++ y) ∧ (f ++ y).length ≤ 17 * (pre ++ [(n : Int)]).length := by
  have e : f ++ y = strL (List.flatMap (signL a) ((pre ++ [(n : Int)]).map Int.toNat)) := by
    rw [hp, hy, strL_app, List.map_append, List.flatMap_append]
    simp
  refine ⟨e, ?_⟩
  have h2 : (f ++ y).length = f.length + y.length := Str.length_append _ _
  have h3 : y.length = (signL a n).length := by rw [hy]; exact strL_len _
  rw [h2, h3, List.length_append, List.length_singleton]
  omega
theorem pow_le16 {a : Nat} (ha : a ≤ 4) : 2 ^ a ≤ 16 := by
  match a, ha with
  | 0, _ => decide
  | 1, _ => decide
  | 2, _ => decide
  | 3, _ => decide
  | 4, _ => decide
theorem form_w1 {a n : Nat} {ka : Int} {pre : List Int} {f : Str} (hp : FormP a pre f) (hl : f.length ≤ 17 * pre.length) (hc : ((⟨#[n]⟩ : Str) == Str.ofString "\n") = true) (hr : (2 : Int) ^ (ka - 1).toNat = ((2 ^ (a - 1) : Nat) : Int)) (ha : a ≤ 4) :
    FormP a (pre ++ [(n : Int)]) (f ++ (Txt.mul (Str.ofString "\\") (2 ^ (ka - 1).toNat) ++ Str.ofString "n")) ∧ (f ++ (Txt.mul (Str.ofString "\\") (2 ^ (ka - 1).toNat) ++ Str.ofString "n")).length ≤ 17 * (pre ++ [(n : Int)]).length := by
  rw [nl_str, one_eq, decide_eq_true_eq] at hc
  subst hc
  have := pow_le16 (a := a - 1) (by omega)
  refine formP_step hp hl ?_ ?_
  · rw [hr, mul_bars, show Str.ofString "n" = strL [110] by decide +kernel, strL_app]
    rfl
  · unfold signL
    rw [if_pos rfl, List.length_append, List.length_replicate, List.length_singleton]
    omega
theorem form_w2 {a n : Nat} {ka : Int} {pre : List Int} {f : Str} (hp : FormP a pre f) (hl : f.length ≤ 17 * pre.length) (hc : ((⟨#[n]⟩ : Str) == Str.ofString "\n") = false) (hs : (Builtin.Str.occurrences (Str.ofString "\\;,") ⟨#[n]⟩ 0 (Str.ofString "\\;,").length 1).isEmpty = false) (hr : (2 : Int) ^ ka.toNat = ((2 ^ a : Nat) : Int)) (ha : a ≤ 4) :
    FormP a (pre ++ [(n : Int)]) (f ++ (Txt.mul (Str.ofString "\\") (2 ^ ka.toNat - 1) ++ ⟨#[n]⟩)) ∧ (f ++ (Txt.mul (Str.ofString "\\") (2 ^ ka.toNat - 1) ++ ⟨#[n]⟩)).length ≤ 17 * (pre ++ [(n : Int)]).length := by
  rw [nl_str, one_eq, decide_eq_false_iff_not] at hc
  rw [in_set3, decide_eq_false_iff_not, Decidable.not_not] at hs
  have h16 := pow_le16 ha
  have h1 := pow_pos2 a
  have e : signL a n = barsL a ++ [n] := by
    unfold signL
    rw [if_neg hc, if_pos hs]
  refine formP_step hp hl ?_ ?_
  · rw [e, hr, show ((2 ^ a : Nat) : Int) - 1 = ((2 ^ a - 1 : Nat) : Int) by omega, mul_bars, one_strL, strL_app]
    rfl
  · rw [e]
    unfold barsL
    rw [List.length_append, List.length_replicate, List.length_singleton]
    omega
theorem form_w3 {a n : Nat} {pre : List Int} {f : Str} (hp : FormP a pre f) (hl : f.length ≤ 17 * pre.length) (hc : ((⟨#[n]⟩ : Str) == Str.ofString "\n") = false) (hs : (Builtin.Str.occurrences (Str.ofString "\\;,") ⟨#[n]⟩ 0 (Str.ofString "\\;,").length 1).isEmpty = true) :
    FormP a (pre ++ [(n : Int)]) (f ++ ⟨#[n]⟩) ∧ (f ++ ⟨#[n]⟩).length ≤ 17 * (pre ++ [(n : Int)]).length := by
  rw [nl_str, one_eq, decide_eq_false_iff_not] at hc
  rw [in_set3, decide_eq_true_eq] at hs
  have e : signL a n = [n] := by
    unfold signL
    rw [if_neg hc, if_neg hs]
  exact formP_step hp hl (by rw [e]) (by rw [e]; simp)
theorem codes_nat (x : Str) : (KStt.codes x).map Int.toNat = x.cps.toList := by
  unfold KStt.codes
  rw [List.map_map]
  exact (List.map_congr_left (g := _root_.id) fun c _ => Int.toNat_natCast c).trans (List.map_id _)
theorem form_end {a : Nat} {t : TD 0} {x f : Str} (hx : strL (textL t) = x) (hp : FormP a (KStt.codes x) f) : f = strL (formL 0 t a) := by
  unfold FormP at hp
  rw [codes_nat, ← hx] at hp
  exact hp
theorem form_w0 (a : Nat) : FormP a [] (Str.ofString "") ∧ (Str.ofString "").length ≤ 17 * ([] : List Int).length := ⟨by unfold FormP; show Str.ofString "" = strL []; decide +kernel, by decide +kernel⟩
theorem pow_facts {k : Int} {a : Nat} (hk : k = (a : Int)) (ha : a ≤ 4) : 1 ≤ (2 : Int) ^ k.toNat ∧ (2 : Int) ^ k.toNat ≤ 16 ∧ (2 : Int) ^ k.toNat = ((2 ^ a : Nat) : Int) := by
  subst hk
  rw [Int.toNat_natCast]
  match a, ha with
  | 0, _ => decide
  | 1, _ => decide
  | 2, _ => decide
  | 3, _ => decide
  | 4, _ => decide
end Mine
end
section
open PySem PySem.W PyProof.Rows PySem.Calls
namespace Mine
theorem fillit27 : (∀ (w : World) (s : Shared), (Mine.kd.heap_1 w.params).In s.heap → PySem.Challenge.rw_br0007_01.prog = PySem.Challenge.rw_br0007_01.prog) := by
  k_fill
  intros; rfl
/-- what _law_form gives back, at this depth -/
def FormC (w : World) (p : Program) (loose : List Str) (mg mb : Str → Option Value) (d : Nat) : Prop :=
  ∀ (A : Around) (s : Shared) (P : Addr → Prop) (v : Value) (t : TD d) (k ka : Int) (tk ta : Tok) (a : Nat), k = (d : Int) → ka = (a : Int) → a + d ≤ 4 → (d = 0 → 1 ≤ a) → Env0 w p loose mg mb s.heap → A.handled = none → A.depth + 10 * d < 600 → A.units + 20 * d ≤ 3500 → TIs P s.heap d v t → Fine d t →
   wpAny (model prog0 w) A (call (.ref 537) [v, .int k tk, .int ka ta]) (Got s fun v _ => ∃ t', v = .str (strL (formL d t a)) t') Nev s
set_option maxRecDepth 100000 in
set_option maxHeartbeats 8000000 in
theorem form0 {w : World} {p : Program} {loose : List Str} {mg mb : Str → Option Value} : FormC w p loose mg mb 0 := by
  intro A s P v t k ka tkk tka a hk0 hka had hda h0 hh hd hu ht hf
  refine wpAny_call ?_
  have KX := h0.K
  have TT := h0.T
  have hk0 : k = 0 := hk0
  subst hk0
  obtain ⟨ah, ad, af, ag, au⟩ := A
  have hh : ah = none := hh
  subst hh
  dsimp only at hd hu
  obtain ⟨tt, rfl⟩ := ht
  generalize hx : strL (textL t) = x at *
  refine' enterC0 (binds := [(Str.ofString "tree", .str x tt), (Str.ofString "deep", .int 0 tkk), (Str.ofString "above", .int ka tka)]) KX TT.nolimit ?ho ?hcd ?hroom ?hbind ?hkind ?hnd ?_ ?c2 ?c3 ?c4
  case ho => k_is
  case hcd => k_is
  case hroom => show ad < 1000; omega
  case hbind => exact BindsTo.of_eq rfl
  case hkind => rfl
  case hnd => decide
  case c2 => rfl
  case c3 => rfl
  case c4 => rfl
  intro L h₁ tk₁ cells F N Y hkeep
  have Y' : CellsAre _ [(Str.ofString "above", L + 2), (Str.ofString "deep", L + 1)] cells := Y
  obtain ⟨oa, oc, rfl, hoa, hoc⟩ := Y'.two
  have hoc' : oc.data = .cell (some (.int 0 tkk)) := hoc
  have hoa' : oa.data = .cell (some (.int ka tka)) := hoa
  clear hoc hoa Y Y'
  obtain ⟨h, g, dr, tk0, os⟩ := s
  dsimp only at F N hkeep h0 KX TT
  have ha1 : 1 ≤ a := hda rfl
  have ha4 : a ≤ 4 := by omega
  obtain ⟨hp1, hp2, hpm⟩ := pow_facts hka ha4
  obtain ⟨hr1, hr2, hrm⟩ := pow_facts (a := a - 1) (k := ka - 1) (by omega) (by omega)
  try dsimp only
  try k_fold
  have hxl3 : x.length ≤ 3 := by rw [← hx, len_L]; exact hf.1
  k_with "pyIter str" => k_state (fun pre form => FormP a pre form ∧ form.length ≤ 17 * pre.length) "form"
  k_with "state" => (first | with_reducible exact form_w0 _ | with_reducible exact form_w1 (by assumption) (by assumption) (by assumption) (by assumption) (by assumption) | with_reducible exact form_w2 (by assumption) (by assumption) (by assumption) (by assumption) (by assumption) (by assumption) | with_reducible exact form_w3 (by assumption) (by assumption) (by assumption) (by assumption))
  k_steps
  k_with_none
  (rename FormP _ _ _ => hfp)
  have e := form_end hx hfp
  exact (show Got ⟨h, g, dr, tk0, os⟩ (fun v _ => ∃ t', v = .str (strL (formL 0 t a)) t') (.str _ _) ⟨kH, g, dr, kTk, os⟩ from ⟨⟨fun b o _ e => kFr.keep b o e, id, rfl⟩, _, by rw [← e]⟩)
end Mine
end
section
open PySem PySem.W PyProof.Rows PySem.Calls
namespace Mine
theorem fillit28 : (∀ (w : World) (s : Shared), (Mine.kd.heap_1 w.params).In s.heap → PySem.Challenge.rw_br0007_01.prog = PySem.Challenge.rw_br0007_01.prog) := by
  k_fill
  intros; rfl
theorem escN_len : ∀ (a : Nat) (l : List Nat), (escN a l).length ≤ 2 ^ a * l.length
  | 0, l => by show l.length ≤ _; rw [Nat.pow_zero, Nat.one_mul]; exact Nat.le_refl _
  | a + 1, l => by
    show (escN a (escL l)).length ≤ _
    have h1 := escN_len a (escL l)
    have h2 := Nat.mul_le_mul_left (2 ^ a) (escL_len2 l)
    rw [Nat.pow_succ, Nat.mul_assoc]
    exact Nat.le_trans h1 h2
theorem form_len {d a : Nat} {t : TD d} (hf : Fine d t) (hd : d ≤ 3) (ha1 : 1 ≤ a) (ha : a ≤ 4) : (formL d t a).length ≤ 20000 := by
  rw [form_code d t a fun _ => ha1]
  have h1 := escN_len a (codeL d t)
  have h2 := code_len d t hf
  have h3 : lenB d ≤ 777 := by
    match d, hd with
    | 0, _ => decide
    | 1, _ => decide
    | 2, _ => decide
    | 3, _ => decide
  have h4 := pow_le16 ha
  have h5 : 2 ^ a * (codeL d t).length ≤ 16 * 777 := Nat.mul_le_mul h4 (Nat.le_trans h2 h3)
  omega
theorem join_LL (z : Str) : ∀ xs : List Str, (Str.join z xs).cps.toList = joinLL z.cps.toList (xs.map fun y => y.cps.toList)
  | [] => rfl
  | [x] => rfl
  | x :: y :: r => by
    have ih := join_LL z (y :: r)
    show ((x.cps ++ z.cps) ++ (Str.join z (y :: r)).cps).toList = _
    rw [Array.toList_append, Array.toList_append, ih]
    rfl
theorem join_form (a d m : Nat) (ks : List (TD d)) : Str.join (strL (barsL a ++ [m])) (ks.map fun k => strL (formL d k (a + 1))) = strL (joinLL (barsL a ++ [m]) (ks.map fun k => formL d k (a + 1))) := by
  refine toList_ext ?_
  rw [join_LL, List.map_map]
  rfl
/-- the comprehension's statement -/
def JForm (s₁ : Shared) (d a : Nat) (ks : List (TD d)) (Z : List Addr) (i : Nat) (ys : List Value) (s' : Shared) : Prop :=
  (∀ b ∈ Z, s₁.heap.get? b = none) ∧ Ext Non s₁ s' ∧ ys.length = i ∧ Ptw (fun v k => ∃ t, v = .str (strL (formL d k a)) t) ys ks
theorem JForm.stab {s₁ : Shared} {d a : Nat} {ks : List (TD d)} {Z : List Addr} {i : Nat} {ys : List Value} {s s' : Shared} (h : JForm s₁ d a ks Z i ys s) (k : ∀ b o, b ∉ Z → s.heap.get? b = some o → s'.heap.get? b = some o) (hg : s'.gens = s.gens) (ho : s'.os = s.os) : JForm s₁ d a ks Z i ys s' :=
  ⟨h.1, extZ h.1 h.2.1 k hg ho, h.2.2⟩
section
local macro_rules | `(tactic| walk_at "eval ListComp") => `(tactic| refine stop ?_)
set_option maxRecDepth 100000 in
set_option maxHeartbeats 8000000 in
theorem formS {w : World} {p : Program} {loose : List Str} {mg mb : Str → Option Value} {d : Nat} (ih : FormC w p loose mg mb d) : FormC w p loose mg mb (d + 1) := by
  intro A s P v t k ka tkk tka a hk0 hka had hda h0 hh hd hu ht hf
  refine wpAny_call ?_
  have KX := h0.K
  have TT := h0.T
  obtain ⟨lt, nt, vs, rfl, hlP, hlt, hvl, hvs⟩ := ht
  refine' enterC0 (binds := [(Str.ofString "tree", .ref lt), (Str.ofString "deep", .int k tkk), (Str.ofString "above", .int ka tka)]) KX TT.nolimit ?ho ?hcd ?hroom ?hbind ?hkind ?hnd ?_ ?c2 ?c3 ?c4
  case ho => k_is
  case hcd => k_is
  case hroom => unfold recursionLimit; omega
  case hbind => exact BindsTo.of_eq rfl
  case hkind => rfl
  case hnd => decide
  case c2 => rfl
  case c3 => rfl
  case c4 => rfl
  intro L h₁ tk₁ cells F N Y hkeep
  have Y' : CellsAre _ [(Str.ofString "above", L + 2), (Str.ofString "deep", L + 1)] cells := Y
  obtain ⟨oa, oc, rfl, hoa, hoc⟩ := Y'.two
  have hoc' : oc.data = .cell (some (.int k tkk)) := hoc
  have hoa' : oa.data = .cell (some (.int ka tka)) := hoa
  clear hoc hoa Y Y'
  obtain ⟨h, g, dr, tk0, os⟩ := s
  dsimp only at F N hkeep h0 KX TT hlt hvs
  have ha4 : a ≤ 4 := by omega
  have hkp : 0 < k := by omega
  obtain ⟨hp1, hp2, hpm⟩ := pow_facts hka ha4
  have hks : (kidsL t).length ≤ 3 := hf.2.1
  have hcast : ((2 ^ a : Nat) : Int) - 1 = ((2 ^ a - 1 : Nat) : Int) := by
    have := pow_pos2 a
    omega
  try dsimp only
  try k_fold
  k_steps
  all_goals (try (exfalso; omega))
  · refine ⟨?_⟩
    (rename Int.fmod _ _ = 1 => hm); (rename Fr _ _ _ _ => F3); (rename News _ _ _ _ => N3); (rename Heap => h3)
    have hmk : mkL (d + 1) = 59 := by
      rw [Int.fmod_eq_emod_of_nonneg _ (by decide)] at hm
      unfold mkL
      rw [if_pos (by omega)]
    have hsep : Txt.mul (Str.ofString "\\") (2 ^ ka.toNat - 1) ++ Str.ofString ";" = strL (barsL a ++ [mkL (d + 1)]) := by
      rw [hpm, hcast, mul_bars, show Str.ofString ";" = strL [59] by decide +kernel, strL_app, hmk]
      rfl
    refine LC_list (ax := lt) (vs := vs) (s₁ := ⟨h3, g, dr, _, os⟩) hh (JForm ⟨h3, g, dr, 0, os⟩ d (a + 1) (kidsL t)) (by with_unfolding_all rfl) (by decide) (by rfl) (by decide) (by rfl) (nameX_L F3 (by rfl) ⟨rfl, rfl⟩) ⟨_, F3.keep _ _ hlt, rfl, _, rfl⟩ (by omega) ?ok ?fin (by intro _; with_unfolding_all rfl)
    case ok =>
      intro I' h' k' hI0
      refine ⟨fun Z i ys s s' hJ k hg ho => hJ.stab k hg ho, fun Z hZ => ⟨zNone (s₁ := ⟨h3, g, dr, 0, os⟩) k' hI0 hZ, Ext.of k', rfl, Ptw.nil⟩, ?_⟩
      intro Z C i v ys s₃ m₃ E' hi hv hJ hZe hZ hCZ hnC hmx
      obtain ⟨hJ1, hJ2, hJ3, hJ4⟩ := hJ
      have F4 := frExt F3 hJ2.all
      have ha3 : s₃.heap.get? (L + 2) = some oa := hJ2.all _ _ (N3 _ (.head _)).1
      have hc3 : s₃.heap.get? (L + 1) = some oc := hJ2.all _ _ (N3 _ (.tail _ (.head _))).1
      have N4 := newsExt N3 hJ2.all
      have K4 := KX.keeps F4.keep
      have T4 := TT.keeps F4.keep
      have E4 := h0.keeps F4.keep
      have hil : i < (kidsL t).length := by omega
      have hxi : (kidsL t)[i]? = some (kidsL t)[i] := List.getElem?_eq_getElem hil
      have hmem : (kidsL t)[i] ∈ kidsL t := List.getElem_mem hil
      generalize (kidsL t)[i] = kid at hxi hmem
      have hkid : TIs P s₃.heap d v kid := (hvs i v kid hv hxi).keeps (fun _ z => z) (fun b o _ e => F4.keep _ _ e) d
      have hfk : Fine d kid := hf.2.2 kid hmem
      clear F3 N3
      k_with "eval Name" => (first | (refine cOwn hnC hmx ?_) | (refine cGlob K4 T4 (by k_is) ?_) | (refine cCell (by rfl) hc3 hoc' ?_) | (refine cCell (by rfl) ha3 hoa' ?_))
      k_with "call" => refine stop ?_
      k_steps
      k_with_none
      refine ⟨?_⟩
      refine wpAny_mono (ih (A.deeper _) ⟨s₃.heap, s₃.gens, s₃.drawn, _, s₃.os⟩ P v kid (k - 1) (ka + 1) _ _ (a + 1) (by omega) (by omega) (by omega) (by omega) E4 hh (show A.depth + 1 + 10 * d < 600 by omega) (show A.units + 3 + 20 * d ≤ 3500 by omega) hkid hfk) (fun y s₄ hy => ?_) (fun _ _ z => z.elim)
      obtain ⟨hx4, t4, rfl⟩ := hy
      have hx4' : Ext Non s₃ s₄ := ⟨hx4.keep, hx4.bare, hx4.os⟩
      exact ⟨⟨hJ1, hJ2.trans hx4', by rw [List.length_append, List.length_singleton, hJ3], Ptw.snoc hJ4 hJ3 hxi ⟨_, rfl⟩⟩, fun b o _ e => hx4.all _ _ e⟩
    case fin =>
      intro Z D ys s' hDZ hD0 hJ hpl hlenD
      obtain ⟨hJ1, hJ2, hJ3, hJ4⟩ := hJ
      obtain ⟨nn, hpl⟩ := hpl
      have F5 := frExt F3 hJ2.all
      have N5 : News h L s'.heap [(D, W.listOf ys.toArray nn)] := newsAdd F3 News.nil hpl hD0
      have hSS : StrsAre ys ((kidsL t).map fun k => strL (formL d k (a + 1))) := strs_of (by rw [List.length_map]; omega) fun j v hj => by
        have hjl : j < (kidsL t).length := by
          have := (List.getElem?_eq_some_iff.mp hj).1
          omega
        obtain ⟨t', rfl⟩ := hJ4 j v _ hj (List.getElem?_eq_getElem hjl)
        exact ⟨_, t', by rw [List.getElem?_map, List.getElem?_eq_getElem hjl]; rfl, rfl⟩
      have xb := hJ2.bare
      have xo := hJ2.os
      clear F3 N3
      obtain ⟨h5, g5, d5, t5, os5⟩ := s'
      dsimp only at F5 N5 xb xo
      k_with "call" => refine stop ?_
      k_steps
      k_with_none
      refine ⟨?_⟩
      (rename Fr _ _ _ _ => F6); (rename News _ _ _ _ => N6)
      refine PyProof.Rows.join_listW ⟨_, (N6 _ (.head _)).1, rfl, _, rfl⟩ hSS ?_ ?_ fun t7 k7 => ?_
      · rw [hsep, strL_len]
        unfold barsL
        rw [List.length_append, List.length_replicate, List.length_singleton]
        have := pow_le16 ha4
        omega
      · have hsum := sum_le (l := (kidsL t).map fun k => strL (formL d k (a + 1))) (B := 20000) (fun y hy => by
          obtain ⟨k, hk, rfl⟩ := List.mem_map.mp hy
          rw [strL_len]
          exact form_len (hf.2.2 k hk) (by omega) (by omega) (by omega))
        rw [List.length_map] at hsum ⊢
        omega
      · have e1 : Txt.join (Txt.mul (Str.ofString "\\") (2 ^ ka.toNat - 1) ++ Str.ofString ";") ((kidsL t).map fun k => strL (formL d k (a + 1))) = strL (formL (d + 1) t a) := by
          rw [hsep]
          refine (show Txt.join _ _ = Str.join _ _ from StrLaws.glued_eq_join _ _).trans ?_
          rw [join_form]
          rfl
        rw [e1]
        exact ⟨⟨fun b o _ e => F6.keep _ _ e, xb, xo⟩, _, rfl⟩
  · refine ⟨?_⟩
    (rename Int.fmod _ _ ≠ 1 => hm); (rename Fr _ _ _ _ => F3); (rename News _ _ _ _ => N3); (rename Heap => h3)
    have hmk : mkL (d + 1) = 44 := by
      rw [Int.fmod_eq_emod_of_nonneg _ (by decide)] at hm
      unfold mkL
      rw [if_neg (by omega)]
    have hsep : Txt.mul (Str.ofString "\\") (2 ^ ka.toNat - 1) ++ Str.ofString "," = strL (barsL a ++ [mkL (d + 1)]) := by
      rw [hpm, hcast, mul_bars, show Str.ofString "," = strL [44] by decide +kernel, strL_app, hmk]
      rfl
    refine LC_list (ax := lt) (vs := vs) (s₁ := ⟨h3, g, dr, _, os⟩) hh (JForm ⟨h3, g, dr, 0, os⟩ d (a + 1) (kidsL t)) (by with_unfolding_all rfl) (by decide) (by rfl) (by decide) (by rfl) (nameX_L F3 (by rfl) ⟨rfl, rfl⟩) ⟨_, F3.keep _ _ hlt, rfl, _, rfl⟩ (by omega) ?ok ?fin (by intro _; with_unfolding_all rfl)
    case ok =>
      intro I' h' k' hI0
      refine ⟨fun Z i ys s s' hJ k hg ho => hJ.stab k hg ho, fun Z hZ => ⟨zNone (s₁ := ⟨h3, g, dr, 0, os⟩) k' hI0 hZ, Ext.of k', rfl, Ptw.nil⟩, ?_⟩
      intro Z C i v ys s₃ m₃ E' hi hv hJ hZe hZ hCZ hnC hmx
      obtain ⟨hJ1, hJ2, hJ3, hJ4⟩ := hJ
      have F4 := frExt F3 hJ2.all
      have ha3 : s₃.heap.get? (L + 2) = some oa := hJ2.all _ _ (N3 _ (.head _)).1
      have hc3 : s₃.heap.get? (L + 1) = some oc := hJ2.all _ _ (N3 _ (.tail _ (.head _))).1
      have N4 := newsExt N3 hJ2.all
      have K4 := KX.keeps F4.keep
      have T4 := TT.keeps F4.keep
      have E4 := h0.keeps F4.keep
      have hil : i < (kidsL t).length := by omega
      have hxi : (kidsL t)[i]? = some (kidsL t)[i] := List.getElem?_eq_getElem hil
      have hmem : (kidsL t)[i] ∈ kidsL t := List.getElem_mem hil
      generalize (kidsL t)[i] = kid at hxi hmem
      have hkid : TIs P s₃.heap d v kid := (hvs i v kid hv hxi).keeps (fun _ z => z) (fun b o _ e => F4.keep _ _ e) d
      have hfk : Fine d kid := hf.2.2 kid hmem
      clear F3 N3
      k_with "eval Name" => (first | (refine cOwn hnC hmx ?_) | (refine cGlob K4 T4 (by k_is) ?_) | (refine cCell (by rfl) hc3 hoc' ?_) | (refine cCell (by rfl) ha3 hoa' ?_))
      k_with "call" => refine stop ?_
      k_steps
      k_with_none
      refine ⟨?_⟩
      refine wpAny_mono (ih (A.deeper _) ⟨s₃.heap, s₃.gens, s₃.drawn, _, s₃.os⟩ P v kid (k - 1) (ka + 1) _ _ (a + 1) (by omega) (by omega) (by omega) (by omega) E4 hh (show A.depth + 1 + 10 * d < 600 by omega) (show A.units + 3 + 20 * d ≤ 3500 by omega) hkid hfk) (fun y s₄ hy => ?_) (fun _ _ z => z.elim)
      obtain ⟨hx4, t4, rfl⟩ := hy
      have hx4' : Ext Non s₃ s₄ := ⟨hx4.keep, hx4.bare, hx4.os⟩
      exact ⟨⟨hJ1, hJ2.trans hx4', by rw [List.length_append, List.length_singleton, hJ3], Ptw.snoc hJ4 hJ3 hxi ⟨_, rfl⟩⟩, fun b o _ e => hx4.all _ _ e⟩
    case fin =>
      intro Z D ys s' hDZ hD0 hJ hpl hlenD
      obtain ⟨hJ1, hJ2, hJ3, hJ4⟩ := hJ
      obtain ⟨nn, hpl⟩ := hpl
      have F5 := frExt F3 hJ2.all
      have N5 : News h L s'.heap [(D, W.listOf ys.toArray nn)] := newsAdd F3 News.nil hpl hD0
      have hSS : StrsAre ys ((kidsL t).map fun k => strL (formL d k (a + 1))) := strs_of (by rw [List.length_map]; omega) fun j v hj => by
        have hjl : j < (kidsL t).length := by
          have := (List.getElem?_eq_some_iff.mp hj).1
          omega
        obtain ⟨t', rfl⟩ := hJ4 j v _ hj (List.getElem?_eq_getElem hjl)
        exact ⟨_, t', by rw [List.getElem?_map, List.getElem?_eq_getElem hjl]; rfl, rfl⟩
      have xb := hJ2.bare
      have xo := hJ2.os
      clear F3 N3
      obtain ⟨h5, g5, d5, t5, os5⟩ := s'
      dsimp only at F5 N5 xb xo
      k_with "call" => refine stop ?_
      k_steps
      k_with_none
      refine ⟨?_⟩
      (rename Fr _ _ _ _ => F6); (rename News _ _ _ _ => N6)
      refine PyProof.Rows.join_listW ⟨_, (N6 _ (.head _)).1, rfl, _, rfl⟩ hSS ?_ ?_ fun t7 k7 => ?_
      · rw [hsep, strL_len]
        unfold barsL
        rw [List.length_append, List.length_replicate, List.length_singleton]
        have := pow_le16 ha4
        omega
      · have hsum := sum_le (l := (kidsL t).map fun k => strL (formL d k (a + 1))) (B := 20000) (fun y hy => by
          obtain ⟨k, hk, rfl⟩ := List.mem_map.mp hy
          rw [strL_len]
          exact form_len (hf.2.2 k hk) (by omega) (by omega) (by omega))
        rw [List.length_map] at hsum ⊢
        omega
      · have e1 : Txt.join (Txt.mul (Str.ofString "\\") (2 ^ ka.toNat - 1) ++ Str.ofString ",") ((kidsL t).map fun k => strL (formL d k (a + 1))) = strL (formL (d + 1) t a) := by
          rw [hsep]
          refine (show Txt.join _ _ = Str.join _ _ from StrLaws.glued_eq_join _ _).trans ?_
          rw [join_form]
          rfl
        rw [e1]
        exact ⟨⟨fun b o _ e => F6.keep _ _ e, xb, xo⟩, _, rfl⟩
end
theorem formAll {w : World} {p : Program} {loose : List Str} {mg mb : Str → Option Value} : ∀ d : Nat, FormC w p loose mg mb d
  | 0 => form0
  | d + 1 => formS (formAll d)
end Mine
end
section
open PySem PySem.W PyProof.Rows PySem.Calls
namespace Mine
theorem fillit29 : (∀ (w : World) (s : Shared), (Mine.kd.heap_1 w.params).In s.heap → PySem.Challenge.rw_br0007_01.prog = PySem.Challenge.rw_br0007_01.prog) := by
  k_fill
  intros; rfl
/-- ints that the model holds -/
def AllInt (vs : List Value) : Prop := ∀ v ∈ vs, ∃ (i : Int) (t : Tok), v = .int i t
theorem hideOne {h : Heap} {a : Addr} : ∀ b o, (hideAll h [a]).get? b = some o → b ≠ a ∧ h.get? b = some o := fun b o e => by
  refine ⟨fun q => ?_, of_hideAll _ e⟩
  rw [q, hideAll_none [a] (by simp)] at e
  cases e
theorem seq0 (v : Value) (r : List Value) : seqIndex? 0 (v :: r).toArray.size = some 0 := by
  rw [List.size_toArray, List.length_cons]
  unfold seqIndex?
  simp
/-- what a call of _law_tree gives back: all stands but the list, which is shorter; a tree of new objects -/
def GotT (s : Shared) (l : Addr) (d : Nat) (v : Value) (s' : Shared) : Prop :=
  Ext (fun b => b = l) s s' ∧ (∃ vals' n', s'.heap.get? l = some (W.listOf (vals' : List Value).toArray n') ∧ AllInt vals' ∧ vals'.length ≤ 12) ∧ ∃ t : TD d, Fine d t ∧ TIs (fun a => s.heap.get? a = none) s'.heap d v t
/-- what _law_tree gives back, at this depth -/
def TreeC (w : World) (p : Program) (loose : List Str) (mg mb : Str → Option Value) (d : Nat) : Prop :=
  ∀ (A : Around) (s : Shared) (l : Addr) (vals : List Value) (n : Nat) (k : Int) (tk : Tok), k = (d : Int) → d ≤ 4 → Env0 w p loose mg mb (hideAll s.heap [l]) → A.handled = none → A.depth + 10 * d < 600 → A.units + 20 * d ≤ 3500 →
    s.heap.get? l = some (W.listOf vals.toArray n) → AllInt vals → vals.length ≤ 12 →
   wpAny (model prog0 w) A (call (.ref 522) [.ref l, .int k tk]) (GotT s l d) Nev s
abbrev SG : List Nat := [97, 92, 59, 44, 10, 58, 110, 34]
theorem sign_item (m : Int) : ∃ c ∈ SG, Txt.item (Str.ofString "a\\;,\n:n\"") (m.fmod 8) = strL [c] := by
  have e : (Str.ofString "a\\;,\n:n\"") = strL SG := by decide +kernel
  rw [e, Int.fmod_eq_emod_of_nonneg _ (by decide)]
  have h1 := Int.emod_nonneg m (b := 8) (by decide)
  have h2 := Int.emod_lt_of_pos m (b := 8) (by decide)
  generalize m % 8 = q at *
  have hq : q = 0 ∨ q = 1 ∨ q = 2 ∨ q = 3 ∨ q = 4 ∨ q = 5 ∨ q = 6 ∨ q = 7 := by omega
  rcases hq with rfl | rfl | rfl | rfl | rfl | rfl | rfl | rfl
  · exact ⟨97, by decide, by decide +kernel⟩
  · exact ⟨92, by decide, by decide +kernel⟩
  · exact ⟨59, by decide, by decide +kernel⟩
  · exact ⟨44, by decide, by decide +kernel⟩
  · exact ⟨10, by decide, by decide +kernel⟩
  · exact ⟨58, by decide, by decide +kernel⟩
  · exact ⟨110, by decide, by decide +kernel⟩
  · exact ⟨34, by decide, by decide +kernel⟩
theorem sub3 {x1 x2 x3 x : Str} {l : List Str} (hx : x ∈ l) (h : l = [x1] ∨ l = [x1, x2] ∨ l = [x1, x2, x3]) : x ∈ [x1, x2, x3] := by
  rcases h with rfl | rfl | rfl
  · simp only [List.mem_cons, List.not_mem_nil, or_false] at hx ⊢
    exact .inl hx
  · simp only [List.mem_cons, List.not_mem_nil, or_false] at hx ⊢
    rcases hx with hx | hx
    · exact .inl hx
    · exact .inr (.inl hx)
  · exact hx
theorem leaf_fine (xs : List Str) (h : ∀ x ∈ xs, ∃ c ∈ SG, x = strL [c]) (hl : xs.length ≤ 3) : ∃ t : TD 0, Fine 0 t ∧ Txt.join (Str.ofString "") xs = strL (textL t) := by
  have key : ∀ ys : List Str, (∀ x ∈ ys, ∃ c ∈ SG, x = strL [c]) → (ys.flatMap fun y => y.cps.toList).length = ys.length ∧ ∀ c ∈ (ys.flatMap fun y => y.cps.toList), c ∈ SG := by
    intro ys
    induction ys with
    | nil => intro _; exact ⟨rfl, fun c hc => by simp at hc⟩
    | cons y r ih =>
      intro hy
      obtain ⟨h1, h2⟩ := ih fun x hx => hy x (.tail _ hx)
      obtain ⟨c, hc, rfl⟩ := hy y (.head _)
      refine ⟨by rw [List.flatMap_cons, List.length_append, h1, List.length_cons]; simp [Nat.add_comm], fun d hd => ?_⟩
      rw [List.flatMap_cons] at hd
      rcases List.mem_append.mp hd with hd | hd
      · have : d = c := by simpa using hd
        rw [this]; exact hc
      · exact h2 d hd
  obtain ⟨h1, h2⟩ := key xs h
  refine ⟨(xs.flatMap fun y => y.cps.toList : List Nat), ⟨by show (xs.flatMap fun y => y.cps.toList).length ≤ 3; omega, h2⟩, ?_⟩
  refine (show Txt.join _ _ = Str.join _ _ from StrLaws.glued_eq_join _ _).trans (toList_ext ?_)
  rw [join_flat]
section
local macro_rules | `(tactic| walk_at "subscriptTail Name Slice ref ref") => `(tactic| k_extra "slice stop")
set_option maxRecDepth 100000 in
set_option maxHeartbeats 8000000 in
theorem tree0 {w : World} {p : Program} {loose : List Str} {mg mb : Str → Option Value} : TreeC w p loose mg mb 0 := by
  intro A s l vals n k tkk hk0 hd4 h0 hh hd hu hl hai hlen
  refine wpAny_call ?_
  have KX := h0.K
  have TT := h0.T
  have hk0 : k = 0 := hk0
  subst hk0
  have KS : (Mine.kd.heap_1 w.params).In s.heap := KX.keeps fun b o e => (hideOne b o e).2
  refine' enterC [l] (binds := [(Str.ofString "left", .ref l), (Str.ofString "deep", .int 0 tkk)]) KS (TT.nolimit.keeps fun b o e => (hideOne b o e).2) ?ho ?hcd ?hroom ?hbind ?hkind ?hnd ?_ ?c2 ?c3 ?c4
  case ho => k_is
  case hcd => k_is
  case hroom => unfold recursionLimit; omega
  case hbind => exact BindsTo.of_eq rfl
  case hkind => rfl
  case hnd => decide
  case c2 => rfl
  case c3 => rfl
  case c4 => rfl
  intro L h₁ tk₁ cells F N0 Y hkeep
  have Y' : CellsAre _ [(Str.ofString "deep", L + 2), (Str.ofString "left", L + 1)] cells := Y
  obtain ⟨od, ol, rfl, hod, hol⟩ := Y'.two
  have hod' : od.data = .cell (some (.int 0 tkk)) := hod
  have hol' : ol.data = .cell (some (.ref l)) := hol
  clear hod hol Y Y'
  obtain ⟨h, g, dr, tk0, os⟩ := s
  dsimp only at F N0 hkeep h0 KX TT hl
  have N : News (hideAll h [l]) L h₁ [(L + 2, od), (L + 1, ol), (l, W.listOf vals.toArray n)] := by
    intro q hq
    simp only [List.mem_cons, List.not_mem_nil, or_false] at hq
    rcases hq with rfl | rfl | rfl
    · exact N0 _ (.head _)
    · exact N0 _ (.tail _ (.head _))
    · exact ⟨(hkeep _ _ hl).1, (hkeep _ _ hl).2, hideAll_none [l] (by simp)⟩
  have hLl : l < L := by
    have q2 := F.above
    rw [hideAll_size] at q2
    exact Nat.lt_of_lt_of_le (Heap.lt_size hl) q2
  have hlc1 : L + 1 ≠ l := Nat.ne_of_gt (Nat.lt_succ_of_lt hLl)
  have hlc2 : L + 2 ≠ l := Nat.ne_of_gt (Nat.lt_succ_of_lt (Nat.lt_succ_of_lt hLl))
  have hlL : L ≠ l := Nat.ne_of_gt hLl
  clear N0
  cases vals with
  | nil =>
    try dsimp only
    try k_fold
    k_steps
    (rename Fr _ _ _ _ => F9); (rename News _ _ _ _ => N9)
    obtain ⟨t, ht, et⟩ := leaf_fine [] (by simp) (by decide)
    rw [et]
    exact ⟨⟨fun b o nb e => F9.keep b o (hideAll_get [l] e (by simpa using nb)), id, rfl⟩, ⟨[], n, (N9 (l, W.listOf #[] n) (by k_mem)).1, hai, by simp⟩, t, ht, _, rfl⟩
  | cons v r =>
    obtain ⟨i, ti, rfl⟩ := hai v (.head _)
    have hrl : r.length ≤ 11 := by simpa using hlen
    try dsimp only
    try k_fold
    k_with "truthy ref" => refine stop ?_
    k_steps
    k_with_none
    refine ⟨?_⟩
    refine wpAny_truthy_list ⟨_, (N _ (.tail _ (.tail _ (.head _)))).1, rfl, _, rfl⟩ (by rw [List.size_toArray, List.length_cons]; omega) ?_
    have hne : (!(Value.int i ti :: r).toArray.isEmpty) = true := by simp
    try rw [hne]
    k_with "call builtin:list.pop" => refine stop ?_
    k_steps
    k_with_none
    refine ⟨?_⟩
    refine kl_popAt F N (p := []) (q := r) (y := .int i ti) (k := 0) rfl (seq0 _ _) rfl (.tail hlc2 (.tail hlc1 (.head (List.forall_mem_nil _)))) (by rw [List.length_cons, sizeLine_eq]; omega) ?_
    intro h2 F2 N2
    dsimp only [List.nil_append] at N2
    clear F N
    k_with "slice stop" => refine stop ?_
    k_steps
    k_with_none
    refine ⟨?_⟩
    obtain ⟨c1, hc1, e1⟩ := sign_item (i.fdiv 4)
    obtain ⟨c2, hc2, e2⟩ := sign_item (i.fdiv 32)
    obtain ⟨c3, hc3, e3⟩ := sign_item (i.fdiv 256)
    generalize Txt.item (Str.ofString "a\\;,\n:n\"") ((i.fdiv 4).fmod 8) = x1 at *
    generalize Txt.item (Str.ofString "a\\;,\n:n\"") ((i.fdiv 32).fmod 8) = x2 at *
    generalize Txt.item (Str.ofString "a\\;,\n:n\"") ((i.fdiv 256).fmod 8) = x3 at *
    have hq : i.fmod 4 = 0 ∨ i.fmod 4 = 1 ∨ i.fmod 4 = 2 ∨ i.fmod 4 = 3 := by
      rw [Int.fmod_eq_emod_of_nonneg _ (by decide)]
      omega
    generalize i.fmod 4 = q at *
    have hair : AllInt r := fun v hv => hai v (.tail _ hv)
    have hxs : ∀ x ∈ [x1, x2, x3], ∃ c ∈ SG, x = strL [c] := by
      intro x hx
      simp only [List.mem_cons, List.not_mem_nil, or_false] at hx
      rcases hx with rfl | rfl | rfl
      · exact ⟨c1, hc1, e1⟩
      · exact ⟨c2, hc2, e2⟩
      · exact ⟨c3, hc3, e3⟩
    clear e1 e2 e3
    rcases hq with rfl | rfl | rfl | rfl
    · k_steps
      (rename Fr _ _ _ _ => F9); (rename News _ _ _ _ => N9)
      obtain ⟨t, ht, et⟩ := leaf_fine [] (by simp) (by simp)
      rw [et]
      exact ⟨⟨fun b o nb e => F9.keep b o (hideAll_get [l] e (by simpa using nb)), id, rfl⟩, ⟨r, n + 1, (N9 (l, W.listOf r.toArray (n + 1)) (by k_mem)).1, hair, by omega⟩, t, ht, _, rfl⟩
    · k_steps
      (rename Fr _ _ _ _ => F9); (rename News _ _ _ _ => N9)
      obtain ⟨t, ht, et⟩ := leaf_fine [x1] (fun x hx => hxs x (sub3 hx (.inl rfl))) (by simp)
      rw [et]
      exact ⟨⟨fun b o nb e => F9.keep b o (hideAll_get [l] e (by simpa using nb)), id, rfl⟩, ⟨r, n + 1, (N9 (l, W.listOf r.toArray (n + 1)) (by k_mem)).1, hair, by omega⟩, t, ht, _, rfl⟩
    · k_steps
      (rename Fr _ _ _ _ => F9); (rename News _ _ _ _ => N9)
      obtain ⟨t, ht, et⟩ := leaf_fine [x1, x2] (fun x hx => hxs x (sub3 hx (.inr (.inl rfl)))) (by simp)
      rw [et]
      exact ⟨⟨fun b o nb e => F9.keep b o (hideAll_get [l] e (by simpa using nb)), id, rfl⟩, ⟨r, n + 1, (N9 (l, W.listOf r.toArray (n + 1)) (by k_mem)).1, hair, by omega⟩, t, ht, _, rfl⟩
    · k_steps
      (rename Fr _ _ _ _ => F9); (rename News _ _ _ _ => N9)
      obtain ⟨t, ht, et⟩ := leaf_fine [x1, x2, x3] hxs (by simp)
      rw [et]
      exact ⟨⟨fun b o nb e => F9.keep b o (hideAll_get [l] e (by simpa using nb)), id, rfl⟩, ⟨r, n + 1, (N9 (l, W.listOf r.toArray (n + 1)) (by k_mem)).1, hair, by omega⟩, t, ht, _, rfl⟩
end
end Mine
end
section
open PySem PySem.W PyProof.Rows PySem.Calls
namespace Mine
theorem fillit30 : (∀ (w : World) (s : Shared), (Mine.kd.heap_1 w.params).In s.heap → PySem.Challenge.rw_br0007_01.prog = PySem.Challenge.rw_br0007_01.prog) := by
  k_fill
  intros; rfl
section
variable {prog : Program} {w : World} {A : Around} {E : Value → Shared → Prop} {env : Env}
/-- what the source of a comprehension over a range of one to three must give -/
def RgEnd (prog : Program) (w : World) (A : Around) (env : Env) (scope : Scope) (cl : List (Str × Addr)) (x : Str) (elt : PySem.Expr) (Q : Value → Shared → Prop) (xv : Value) (s₁ : Shared) : Prop :=
  ∃ (ax : Addr) (nn : Nat) (t u v : Tok) (J : List Addr → Nat → List Value → Shared → Prop), xv = .ref ax ∧ IsRange s₁.heap ax 0 nn 1 t u v ∧ (nn = 1 ∨ nn = 2 ∨ nn = 3) ∧
    (∀ I h', (∀ b o, s₁.heap.get? b = some o → h'.get? b = some o) → s₁.heap.get? I = none → LCok (prog := prog) (w := w) A env scope cl x elt [I] [I] nn (fun i v => ∃ t, v = .int (0 + (i : Int) * 1) t) J { s₁ with heap := h' }) ∧
    ∀ Z D ys s', D ∈ Z → s₁.heap.get? D = none → J Z nn ys s' → s'.heap.PlainList D ys.toArray → ys.length = nn → Q (.ref D) s'
theorem LC_rangeC {elt iter : PySem.Expr} {x : Str} {px : Pos} {scope : Scope} {cl : List (Str × Addr)} {pos : Pos} {s : Shared} {Q : Value → Shared → Prop} (hh : A.handled = none)
    (hclos : closureFor scope env = pure cl) (hcell : ∀ y ∈ scope.names, y.2 ≠ .cell) (hkind : scope.kind = .function) (hnames : ∀ y ∈ scope.names, y.2 = .local → scope.names.lookup y.1 = some .local) (hx : scope.names.lookup x = some .local)
    (h : wpAny (model prog w) A (eval iter env) (RgEnd prog w A env scope cl x elt Q) E s)
    (hs : ∀ x, foldedSetIterable iter env x = pure x) :
    wpAny (model prog w) A (eval (.ListComp elt [⟨.Name x px, iter, [], 0⟩] scope pos) env) Q E s := by
  rw [eval_ListComp]
  refine wpAny_comprehension_free (use := none) rfl hs hclos hkind hnames (wpAny_mono h (fun xv s' h₁ => ?_) fun _ _ e => e)
  obtain ⟨ax, nn, t, u, v, J, rfl, hl, h13, ok, fin⟩ := h₁
  have hsm : Builtin.Range.small 0 (nn : Int) 1 = true := by rcases h13 with rfl | rfl | rfl <;> decide +kernel
  have hrs : Builtin.Range.rangeSize 0 (nn : Int) 1 = (nn : Int) := by rcases h13 with rfl | rfl | rfl <;> decide +kernel
  have k₁ : ∀ b o, s'.heap.get? b = some o → (s'.heap.push ({ cls := .type "range_iterator", data := .fields #[rawInt 0, rawInt (Builtin.Range.rangeSize 0 nn 1), rawInt 1] } : Obj)).get? b = some o := fun b o e => Heap.get?_push_of_some _ e
  have hI0 : s'.heap.get? s'.heap.objs.size = none := by
    cases e : s'.heap.get? s'.heap.objs.size with
    | none => rfl
    | some o => exact absurd (Heap.lt_size e) (Nat.lt_irrefl _)
  obtain ⟨stab, start, step⟩ := ok s'.heap.objs.size _ k₁ hI0
  refine wpAny_pyIter_range hl hsm ?_
  refine LC_block (RR := fun acc C => compPost (model prog w) A E none Q acc C) (Walks.range hh _ 0 1 nn) (by rw [sizeLine_eq]; omega) J hcell hkind hx (by
      show IsRangeIter _ _ _ _ _
      have e := Heap.get?_push_size s'.heap (o := ({ cls := .type "range_iterator", data := .fields #[rawInt 0, rawInt (Builtin.Range.rangeSize 0 nn 1), rawInt 1] } : Obj)) rfl
      rw [hrs] at e ⊢
      simpa [IsRangeIter] using e) ?_ ?_ stab start ?_ ?_
  · intro b hb
    show b < (s'.heap.push _).objs.size
    rw [Heap.size_push]
    rcases List.mem_cons.mp hb with rfl | hb
    · exact Nat.lt_succ_self _
    · cases hb
  · intro h i st b hb
    rw [List.mem_singleton] at hb
    subst hb
    exact ⟨_, st⟩
  · intro Z C i v ys s₃ m₃ E' hi hv
    exact step Z C i v ys s₃ m₃ E' hi hv
  · intro Z D C ys s'' m' hD hC hDC hZ hD0 hC0 hJ hpl hlen hn
    have nq : ∀ b, (s'.heap.push ({ cls := .type "range_iterator", data := .fields #[rawInt 0, rawInt (Builtin.Range.rangeSize 0 nn 1), rawInt 1] } : Obj)).get? b = none → s'.heap.get? b = none := fun b e => by
      cases z : s'.heap.get? b with
      | none => rfl
      | some o => rw [k₁ _ _ z] at e; cases e
    exact ⟨m', hn, fun h' hs' => fin Z D ys _ hD (nq _ hD0) (stab _ _ _ _ _ hJ (fun b o hb e => hs'.extBut b o (fun h => hb (h ▸ hC)) e) rfl rfl) (hpl.extBut hs'.extBut hDC) hlen⟩
end
/-- the comprehension's statement -/
def JTree (s₁ : Shared) (l : Addr) (d : Nat) (Z : List Addr) (i : Nat) (ys : List Value) (s' : Shared) : Prop :=
  (∀ b ∈ Z, s₁.heap.get? b = none) ∧ Ext (fun b => b = l) s₁ s' ∧ (∃ vals' n', s'.heap.get? l = some (W.listOf (vals' : List Value).toArray n') ∧ AllInt vals' ∧ vals'.length ≤ 12) ∧ ys.length = i ∧
    ∃ ks : List (TD d), ks.length = i ∧ (∀ k ∈ ks, Fine d k) ∧ Ptw (TIs (fun a => a ∉ Z ∧ s₁.heap.get? a = none) s'.heap d) ys ks
theorem JTree.stab {s₁ : Shared} {l : Addr} {o₁ : Obj} {d : Nat} {Z : List Addr} {i : Nat} {ys : List Value} {s s' : Shared} (hl : s₁.heap.get? l = some o₁) (h : JTree s₁ l d Z i ys s) (k : ∀ b o, b ∉ Z → s.heap.get? b = some o → s'.heap.get? b = some o) (hg : s'.gens = s.gens) (ho : s'.os = s.os) : JTree s₁ l d Z i ys s' := by
  obtain ⟨h1, h2, ⟨vals', n', h3, h4, h5⟩, h6, ks, h7, h8, h9⟩ := h
  have nz : l ∉ Z := fun hb => by rw [h1 l hb] at hl; cases hl
  exact ⟨h1, ⟨fun b o n e => k b o (fun hb => by rw [h1 b hb] at e; cases e) (h2.keep b o n e), fun g => hg ▸ h2.bare g, ho.trans h2.os⟩, ⟨vals', n', k _ _ nz h3, h4, h5⟩, h6, ks, h7, h8, h9.mono fun _ _ z => z.keeps (fun _ q => q) (fun b o hb e => k b o hb.1 e) d⟩
theorem Ptw.push {α : Type} {R : Value → α → Prop} {ys : List Value} {xs : List α} {y : Value} {x : α} (h : Ptw R ys xs) (hl : ys.length = xs.length) (hy : R y x) : Ptw R (ys ++ [y]) (xs ++ [x]) := by
  refine Ptw.snoc (i := ys.length) (x := x) (fun j v z hv hz => ?_) rfl ?_ hy
  · have hj : j < xs.length := by
      have := (List.getElem?_eq_some_iff.mp hv).1
      omega
    rw [List.getElem?_append_left hj] at hz
    exact h j v z hv hz
  · rw [hl, List.getElem?_append_right (Nat.le_refl _), Nat.sub_self]
    rfl
theorem JTree.step {s₁ s₃ s₄ : Shared} {l : Addr} {o₁ : Obj} {d : Nat} {Z : List Addr} {i : Nat} {ys : List Value} {y : Value} (hl : s₁.heap.get? l = some o₁) (h : JTree s₁ l d Z i ys s₃) (hZe : ∀ b ∈ Z, ∃ o, s₃.heap.get? b = some o) (x : GotT s₃ l d y s₄) : JTree s₁ l d Z (i + 1) (ys ++ [y]) s₄ := by
  obtain ⟨h1, h2, ⟨vals', n', h3, h4, h5⟩, h6, ks, h7, h8, h9⟩ := h
  obtain ⟨x1, x2, t, x3, x4⟩ := x
  refine ⟨h1, h2.trans x1, x2, by rw [List.length_append, List.length_singleton, h6], ks ++ [t], by rw [List.length_append, List.length_singleton, h7], fun k hk => ?_, Ptw.push (h9.mono fun _ _ z => z.keeps (fun _ q => q) (fun b o hb e => x1.keep b o (fun q => ?_) e) d) (by omega) (x4.keeps (fun a ha => ⟨fun hz => ?_, ?_⟩) (fun _ _ _ e => e) d)⟩
  · rcases List.mem_append.mp hk with hk | hk
    · exact h8 k hk
    · rw [List.mem_singleton] at hk
      rw [hk]; exact x3
  · have q : b = l := q
    rw [q, hl] at hb
    cases hb.2
  · obtain ⟨o, e⟩ := hZe a hz
    rw [ha] at e
    cases e
  · cases z : s₁.heap.get? a with
    | none => rfl
    | some o =>
      by_cases q : a = l
      · rw [q, h3] at ha; cases ha
      · rw [h2.keep a o q z] at ha; cases ha
end Mine
end
section
open PySem PySem.W PyProof.Rows PySem.Calls
namespace Mine
theorem fillit31 : (∀ (w : World) (s : Shared), (Mine.kd.heap_1 w.params).In s.heap → PySem.Challenge.rw_br0007_01.prog = PySem.Challenge.rw_br0007_01.prog) := by
  k_fill
  intros; rfl
theorem one_three (i : Int) : ∃ nn : Nat, (nn = 1 ∨ nn = 2 ∨ nn = 3) ∧ 1 + i.fmod 3 = (nn : Int) := by
  rw [Int.fmod_eq_emod_of_nonneg _ (by decide)]
  have h1 := Int.emod_nonneg i (b := 3) (by decide)
  have h2 := Int.emod_lt_of_pos i (b := 3) (by decide)
  exact ⟨(1 + i % 3).toNat, by omega, by omega⟩
section
local macro_rules | `(tactic| walk_at "eval ListComp") => `(tactic| refine stop ?_)
local macro_rules | `(tactic| walk_at "call type:range") => `(tactic| k_extra "range stop")
set_option maxRecDepth 100000 in
set_option maxHeartbeats 8000000 in
theorem treeS {w : World} {p : Program} {loose : List Str} {mg mb : Str → Option Value} {d : Nat} (ih : TreeC w p loose mg mb d) : TreeC w p loose mg mb (d + 1) := by
  intro A s l vals n k tkk hk0 hd4 h0 hh hd hu hl hai hlen
  refine wpAny_call ?_
  have KX := h0.K
  have TT := h0.T
  have KS : (Mine.kd.heap_1 w.params).In s.heap := KX.keeps fun b o e => (hideOne b o e).2
  refine' enterC [l] (binds := [(Str.ofString "left", .ref l), (Str.ofString "deep", .int k tkk)]) KS (TT.nolimit.keeps fun b o e => (hideOne b o e).2) ?ho ?hcd ?hroom ?hbind ?hkind ?hnd ?_ ?c2 ?c3 ?c4
  case ho => k_is
  case hcd => k_is
  case hroom => unfold recursionLimit; omega
  case hbind => exact BindsTo.of_eq rfl
  case hkind => rfl
  case hnd => decide
  case c2 => rfl
  case c3 => rfl
  case c4 => rfl
  intro L h₁ tk₁ cells F N0 Y hkeep
  have Y' : CellsAre _ [(Str.ofString "deep", L + 2), (Str.ofString "left", L + 1)] cells := Y
  obtain ⟨od, ol, rfl, hod, hol⟩ := Y'.two
  have hod' : od.data = .cell (some (.int k tkk)) := hod
  have hol' : ol.data = .cell (some (.ref l)) := hol
  clear hod hol Y Y'
  obtain ⟨h, g, dr, tk0, os⟩ := s
  dsimp only at F N0 hkeep h0 KX TT hl
  have N : News (hideAll h [l]) L h₁ [(L + 2, od), (L + 1, ol), (l, W.listOf vals.toArray n)] := by
    intro q hq
    simp only [List.mem_cons, List.not_mem_nil, or_false] at hq
    rcases hq with rfl | rfl | rfl
    · exact N0 _ (.head _)
    · exact N0 _ (.tail _ (.head _))
    · exact ⟨(hkeep _ _ hl).1, (hkeep _ _ hl).2, hideAll_none [l] (by simp)⟩
  have hLl : l < L := by
    have q2 := F.above
    rw [hideAll_size] at q2
    exact Nat.lt_of_lt_of_le (Heap.lt_size hl) q2
  have hlc1 : L + 1 ≠ l := Nat.ne_of_gt (Nat.lt_succ_of_lt hLl)
  have hlc2 : L + 2 ≠ l := Nat.ne_of_gt (Nat.lt_succ_of_lt (Nat.lt_succ_of_lt hLl))
  have hlL : L ≠ l := Nat.ne_of_gt hLl
  clear N0
  have hkp : k ≠ 0 := by omega
  cases vals with
  | nil =>
    try dsimp only
    try k_fold
    k_steps
    all_goals (try (exfalso; omega))
    refine ⟨?_⟩
    refine LC_rangeC hh (by with_unfolding_all rfl) (by decide) (by rfl) (by decide) (by rfl) ?_ (by intro _; with_unfolding_all rfl)
    k_steps
    (rename Fr _ _ _ _ => F3); (rename News _ _ _ _ => N3); (rename IsRange _ _ _ _ _ _ _ _ => hrg)
    obtain ⟨nn, h13, hnn⟩ := one_three (0)
    rw [hnn] at hrg
    have hl3 := N3 (l, W.listOf [].toArray n) (by k_mem)
    have hd3 := N3 (L + 2, od) (by k_mem)
    have hc3 := N3 (L + 1, ol) (by k_mem)
    rename Heap => h3
    refine ⟨_, nn, _, _, _, JTree ⟨h3, g, dr, 0, os⟩ l d, rfl, hrg, h13, fun I' h' k' hI0 => ⟨fun Z i ys s s' hJ k hg ho => hJ.stab (s₁ := ⟨h3, g, dr, 0, os⟩) hl3.1 k hg ho, fun Z hZ => ⟨zNone (s₁ := ⟨h3, g, dr, 0, os⟩) k' hI0 hZ, ⟨fun b o _ e => k' b o e, id, rfl⟩, ⟨[], n, k' _ _ hl3.1, hai, by simp⟩, rfl, [], rfl, fun k hk => (by cases hk), Ptw.nil⟩, ?_⟩, ?_⟩
    · intro Z C i v ys s₃ m₃ E' hi hv hJ hZe hZ hCZ hnC hmx
      have hJ2 := hJ.2.1
      have nzl : ∀ b, b ≠ l → ∀ o, h3.get? b = some o → s₃.heap.get? b = some o := fun b nb o e => hJ2.keep b o nb e
      have F4 : Fr (hideAll h [l]) L s₃.heap _ := ⟨F3.ns.at' fun o e => nzl _ hlL o e, fun b o e => nzl b (hideOne b o e).1 o (F3.keep b o e), F3.above⟩
      have d4 := nzl _ hlc2 _ hd3.1
      have c4 := nzl _ hlc1 _ hc3.1
      have N4 : News (hideAll h [l]) L s₃.heap [(L + 2, od), (L + 1, ol)] := by
        intro q hq
        simp only [List.mem_cons, List.not_mem_nil, or_false] at hq
        rcases hq with rfl | rfl
        · exact ⟨d4, hd3.2⟩
        · exact ⟨c4, hc3.2⟩
      have K4 := KX.keeps F4.keep
      have T4 := TT.keeps F4.keep
      have E4 : Env0 w p loose mg mb (hideAll s₃.heap [l]) := h0.keeps fun b o e => hideAll_get [l] (F4.keep b o e) (by simpa using (hideOne b o e).1)
      obtain ⟨vals', n', hl4, hai4, hlen4⟩ := hJ.2.2.1
      clear F3 N3
      k_with "eval Name" => (first | (refine cGlob K4 T4 (by k_is) ?_) | (refine cCell (by rfl) c4 hol' ?_) | (refine cCell (by rfl) d4 hod' ?_))
      k_with "call" => refine stop ?_
      k_steps
      k_with_none
      refine ⟨?_⟩
      refine wpAny_mono (ih (A.deeper _) ⟨s₃.heap, s₃.gens, s₃.drawn, _, s₃.os⟩ l vals' n' (k - 1) _ (by omega) (by omega) E4 hh (show A.depth + 1 + 10 * d < 600 by omega) (show A.units + 3 + 20 * d ≤ 3500 by omega) hl4 hai4 hlen4) (fun y s₄ hy => ?_) (fun _ _ z => z.elim)
      have hy' : GotT s₃ l d y s₄ := ⟨⟨hy.1.keep, hy.1.bare, hy.1.os⟩, hy.2.1, hy.2.2⟩
      refine ⟨hJ.step (s₁ := ⟨h3, g, dr, 0, os⟩) hl3.1 hZe hy', fun b o hb e => hy'.1.keep b o (fun q => ?_) e⟩
      have q : b = l := q
      have hl3' : h3.get? l = _ := hl3.1
      rcases List.mem_append.mp hb with hb | hb
      · have z := hJ.1 b hb
        rw [q] at z
        have z : h3.get? l = none := z
        rw [hl3'] at z; cases z
      · rw [List.mem_singleton] at hb
        have z : h3.get? I' = none := hI0
        rw [← hb, q, hl3'] at z; cases z
    · intro Z D ys s' hDZ hD0 hJ hpl hlenD
      obtain ⟨hJ1, hJ2, hJ3, hJ4, ks, hk1, hk2, hk3⟩ := hJ
      obtain ⟨nm, hpl⟩ := hpl
      have hD0 : h3.get? D = none := hD0
      have back : ∀ a, h3.get? a = none → h.get? a = none := fun a e => by
        cases z : h.get? a with
        | none => rfl
        | some o =>
          by_cases q : a = l
          · rw [q, hl3.1] at e; cases e
          · rw [F3.keep a o (hideAll_get [l] z (by simpa using q))] at e; cases e
      refine ⟨⟨fun b o nb e => hJ2.keep b o nb (F3.keep b o (hideAll_get [l] e (by simpa using nb))), hJ2.bare, hJ2.os⟩, hJ3, (ks : List (TD d)), ⟨by show 1 ≤ ks.length; omega, by show ks.length ≤ 3; omega, hk2⟩, D, nm, ys, rfl, back _ hD0, hpl, by show ys.length = ks.length; omega, hk3.mono fun _ _ z => z.keeps (fun a ha => back a ha.2) (fun _ _ _ e => e) d⟩
  | cons v r =>
    obtain ⟨i, ti, rfl⟩ := hai v (.head _)
    have hrl : r.length ≤ 11 := by simpa using hlen
    have hair : AllInt r := fun v hv => hai v (.tail _ hv)
    try dsimp only
    try k_fold
    k_with "truthy ref" => refine stop ?_
    k_steps
    k_with_none
    refine ⟨?_⟩
    refine wpAny_truthy_list ⟨_, (N _ (.tail _ (.tail _ (.head _)))).1, rfl, _, rfl⟩ (by rw [List.size_toArray, List.length_cons]; omega) ?_
    have hne : (!(Value.int i ti :: r).toArray.isEmpty) = true := by simp
    rw [hne]
    k_with "call builtin:list.pop" => refine stop ?_
    k_steps
    k_with_none
    refine ⟨?_⟩
    refine kl_popAt F N (p := []) (q := r) (y := .int i ti) (k := 0) rfl (seq0 _ _) rfl (.tail hlc2 (.tail hlc1 (.head (List.forall_mem_nil _)))) (by rw [List.length_cons, sizeLine_eq]; omega) ?_
    intro h2 F2 N2
    dsimp only [List.nil_append] at N2
    clear F N
    k_steps
    all_goals (try (exfalso; omega))
    refine ⟨?_⟩
    refine LC_rangeC hh (by with_unfolding_all rfl) (by decide) (by rfl) (by decide) (by rfl) ?_ (by intro _; with_unfolding_all rfl)
    k_steps
    (rename Fr _ _ _ _ => F3); (rename News _ _ _ _ => N3); (rename IsRange _ _ _ _ _ _ _ _ => hrg)
    obtain ⟨nn, h13, hnn⟩ := one_three (i)
    rw [hnn] at hrg
    have hl3 := N3 (l, W.listOf r.toArray (n + 1)) (by k_mem)
    have hd3 := N3 (L + 2, od) (by k_mem)
    have hc3 := N3 (L + 1, ol) (by k_mem)
    rename Heap => h3
    refine ⟨_, nn, _, _, _, JTree ⟨h3, g, dr, 0, os⟩ l d, rfl, hrg, h13, fun I' h' k' hI0 => ⟨fun Z i ys s s' hJ k hg ho => hJ.stab (s₁ := ⟨h3, g, dr, 0, os⟩) hl3.1 k hg ho, fun Z hZ => ⟨zNone (s₁ := ⟨h3, g, dr, 0, os⟩) k' hI0 hZ, ⟨fun b o _ e => k' b o e, id, rfl⟩, ⟨r, (n + 1), k' _ _ hl3.1, hair, by omega⟩, rfl, [], rfl, fun k hk => (by cases hk), Ptw.nil⟩, ?_⟩, ?_⟩
    · intro Z C i v ys s₃ m₃ E' hi hv hJ hZe hZ hCZ hnC hmx
      have hJ2 := hJ.2.1
      have nzl : ∀ b, b ≠ l → ∀ o, h3.get? b = some o → s₃.heap.get? b = some o := fun b nb o e => hJ2.keep b o nb e
      have F4 : Fr (hideAll h [l]) L s₃.heap _ := ⟨F3.ns.at' fun o e => nzl _ hlL o e, fun b o e => nzl b (hideOne b o e).1 o (F3.keep b o e), F3.above⟩
      have d4 := nzl _ hlc2 _ hd3.1
      have c4 := nzl _ hlc1 _ hc3.1
      have N4 : News (hideAll h [l]) L s₃.heap [(L + 2, od), (L + 1, ol)] := by
        intro q hq
        simp only [List.mem_cons, List.not_mem_nil, or_false] at hq
        rcases hq with rfl | rfl
        · exact ⟨d4, hd3.2⟩
        · exact ⟨c4, hc3.2⟩
      have K4 := KX.keeps F4.keep
      have T4 := TT.keeps F4.keep
      have E4 : Env0 w p loose mg mb (hideAll s₃.heap [l]) := h0.keeps fun b o e => hideAll_get [l] (F4.keep b o e) (by simpa using (hideOne b o e).1)
      obtain ⟨vals', n', hl4, hai4, hlen4⟩ := hJ.2.2.1
      clear F3 N3
      k_with "eval Name" => (first | (refine cGlob K4 T4 (by k_is) ?_) | (refine cCell (by rfl) c4 hol' ?_) | (refine cCell (by rfl) d4 hod' ?_))
      k_with "call" => refine stop ?_
      k_steps
      k_with_none
      refine ⟨?_⟩
      refine wpAny_mono (ih (A.deeper _) ⟨s₃.heap, s₃.gens, s₃.drawn, _, s₃.os⟩ l vals' n' (k - 1) _ (by omega) (by omega) E4 hh (show A.depth + 1 + 10 * d < 600 by omega) (show A.units + 3 + 20 * d ≤ 3500 by omega) hl4 hai4 hlen4) (fun y s₄ hy => ?_) (fun _ _ z => z.elim)
      have hy' : GotT s₃ l d y s₄ := ⟨⟨hy.1.keep, hy.1.bare, hy.1.os⟩, hy.2.1, hy.2.2⟩
      refine ⟨hJ.step (s₁ := ⟨h3, g, dr, 0, os⟩) hl3.1 hZe hy', fun b o hb e => hy'.1.keep b o (fun q => ?_) e⟩
      have q : b = l := q
      have hl3' : h3.get? l = _ := hl3.1
      rcases List.mem_append.mp hb with hb | hb
      · have z := hJ.1 b hb
        rw [q] at z
        have z : h3.get? l = none := z
        rw [hl3'] at z; cases z
      · rw [List.mem_singleton] at hb
        have z : h3.get? I' = none := hI0
        rw [← hb, q, hl3'] at z; cases z
    · intro Z D ys s' hDZ hD0 hJ hpl hlenD
      obtain ⟨hJ1, hJ2, hJ3, hJ4, ks, hk1, hk2, hk3⟩ := hJ
      obtain ⟨nm, hpl⟩ := hpl
      have hD0 : h3.get? D = none := hD0
      have back : ∀ a, h3.get? a = none → h.get? a = none := fun a e => by
        cases z : h.get? a with
        | none => rfl
        | some o =>
          by_cases q : a = l
          · rw [q, hl3.1] at e; cases e
          · rw [F3.keep a o (hideAll_get [l] z (by simpa using q))] at e; cases e
      refine ⟨⟨fun b o nb e => hJ2.keep b o nb (F3.keep b o (hideAll_get [l] e (by simpa using nb))), hJ2.bare, hJ2.os⟩, hJ3, (ks : List (TD d)), ⟨by show 1 ≤ ks.length; omega, by show ks.length ≤ 3; omega, hk2⟩, D, nm, ys, rfl, back _ hD0, hpl, by show ys.length = ks.length; omega, hk3.mono fun _ _ z => z.keeps (fun a ha => back a ha.2) (fun _ _ _ e => e) d⟩
end
theorem treeAll {w : World} {p : Program} {loose : List Str} {mg mb : Str → Option Value} : ∀ d : Nat, TreeC w p loose mg mb d
  | 0 => tree0
  | d + 1 => treeS (treeAll d)
end Mine
end
section
open PySem PySem.W PyProof.Rows PySem.Calls PySem.Spec
namespace Mine
/-- a tree as plain data -/
def datL : (d : Nat) → TD d → Dat
  | 0, x => .str (strL (textL x))
  | d + 1, ks => .list (List.map (datL d) (kidsL ks))
theorem dat_ok : ∀ (d : Nat) (t : TD d) (n : Nat), Fine d t → d ≤ n → kqdOk n (datL d t) = true
  | 0, x, n, h, _ => by
    have e : kqdOk n (datL 0 x) = PyData.strOk (strL (textL x)) := by cases n <;> rfl
    rw [e]
    unfold PyData.strOk
    rw [Array.all_eq_true_iff_forall_mem]
    intro c hc
    have hc' : c ∈ textL x := by simpa using hc
    have := h.2 c hc'
    simp only [List.mem_cons, List.not_mem_nil, or_false] at this
    exact decide_eq_true (by omega)
  | d + 1, (ks : List (TD d)), n + 1, h, hn => by
    show (List.map (datL d) ks).all (kqdOk n) = true
    rw [List.all_eq_true]
    intro x hx
    obtain ⟨k, hk, rfl⟩ := List.mem_map.mp hx
    exact dat_ok d k n (h.2.2 k hk) (Nat.le_of_succ_le_succ hn)
theorem reads_of {P : Addr → Prop} {h : Heap} : ∀ (d : Nat) (v : Value) (t : TD d), TIs P h d v t → ∃ as, Reads h v (kqdP (datL d t)) as
  | 0, v, x, ⟨t, e⟩ => by
    subst e
    exact ⟨_, Reads.str _ t⟩
  | d + 1, v, (ks : List (TD d)), ⟨l, n, vs, e, _, g, q, r⟩ => by
    subst e
    have key : ∀ (vs : List Value) (ks : List (TD d)), vs.length = ks.length → Ptw (TIs P h d) vs ks → ∃ as, ReadsAll h vs (kqdPs (ks.map (datL d))) as := by
      intro vs
      induction vs with
      | nil =>
        intro ks hl _
        cases ks with
        | nil => exact ⟨_, ReadsAll.nil⟩
        | cons k ks => simp at hl
      | cons v vs ih =>
        intro ks hl hp
        cases ks with
        | nil => simp at hl
        | cons k ks =>
          obtain ⟨h1, h2⟩ := hp.tail
          obtain ⟨as, r1⟩ := reads_of d v k h1
          obtain ⟨bs, r2⟩ := ih ks (by simpa using hl) h2
          exact ⟨_, ReadsAll.cons r1 r2⟩
    obtain ⟨as, ra⟩ := key vs ks q r
    refine ⟨l :: as, ?_⟩
    show Reads h (.ref l) (kqdP (.list (List.map (datL d) ks))) (l :: as)
    rw [kqdP]
    exact reads_list_at g rfl rfl (by simpa [W.listOf] using ra)
/-- two trees of the same parts are equal -/
theorem eq_trees {prog : Program} {w : World} {A : Around} {E : Value → Shared → Prop} {s : Shared} {P P' : Addr → Prop} {d : Nat} {t : TD d} {a b : Value} {Q : Value → Shared → Prop} (ha : TIs P s.heap d a t) (hb : TIs P' s.heap d b t) (hf : Fine d t) (hd : d ≤ 4) (hu : A.units + 64 < cLine)
    (h : Q (.bool true) s) : wpAny (model prog w) A (compareOp .Eq a b) Q E s := by
  obtain ⟨as, ra⟩ := reads_of d a t ha
  obtain ⟨bs, rb⟩ := reads_of d b t hb
  have ok := dat_ok d t 4 hf hd
  have lay := kqd_lay 4 (datL d t) ok
  have sh : SeqAt.shaped (kqdP (datL d t)) = true := by
    unfold SeqAt.shaped
    rw [lay.1, Bool.true_and]
    exact decide_eq_true (Nat.le_trans lay.2 (by decide))
  refine eq_dataH ra rb sh sh hu ?_
  rw [(kqd_eqv 4 (datL d t) (datL d t) 4 ok ok).mpr rfl]
  exact h
theorem one_four (i : Int) : ∃ d : Nat, d ≤ 3 ∧ 1 + i.fmod 4 = ((d + 1 : Nat) : Int) := by
  rw [Int.fmod_eq_emod_of_nonneg _ (by decide)]
  have h1 := Int.emod_nonneg i (b := 4) (by decide)
  have h2 := Int.emod_lt_of_pos i (b := 4) (by decide)
  exact ⟨(i % 4).toNat, by omega, by omega⟩
theorem OrgTab.at3 {h h' : Heap} (x : OrgTab h) (k : ∀ b, b = 402 ∨ b = 406 → ∀ o, h.get? b = some o → h'.get? b = some o) : OrgTab h' := by
  obtain ⟨o, ps, e1, e2, mk⟩ := x.at
  exact mk _ (k _ (.inr rfl) _ e1) (k _ (.inl rfl) _ e2)
end Mine
end
section
open PySem PySem.W PyProof.Rows PySem.Calls
namespace Mine
theorem fillit32 : (∀ (w : World) (s : Shared), (Mine.kd.heap_1 w.params).In s.heap → PySem.Challenge.rw_br0007_01.prog = PySem.Challenge.rw_br0007_01.prog) := by
  k_fill
  intros; rfl
section
variable {M : Model} {A : Around} {E : Value → Shared → Prop} {s : Shared} {h₀ : Heap} {L a : Addr} {m : Str → Option Value} {cn : Str} {cs : Scope} {ccd : Value} {cl : List (Str × Addr)}
  {x : Str} {v : Value} {Q : Unit → Shared → Prop} {news : List (Addr × Obj)}
/-- a local name stored: all but the frame stands -/
theorem storeK (F : Fr h₀ L s.heap m) (N : News h₀ L s.heap news)
    (h : ∀ h', Fr h₀ L h' (fun y => if y = x then some v else m y) → News h₀ L h' news → (∀ b o, b ≠ L → s.heap.get? b = some o → h'.get? b = some o) → Q () { s with heap := h', toks := s.toks + 1 })
    (hk : cs.kind = .function := by rfl) (hx : (envX cn cs L a ccd cl).kindOf x = some .local := by rfl) : wpAny M A (storeName (envX cn cs L a ccd cl) x v) Q E s :=
  wpAny_storeName_local hx F.ns (fun h' hn hs => h h' (F.set hn hs) (N.set hs) fun b o n e => hs.extBut b o n e) (by show (cs.kind == .class || (cs.kind == .module && L != mainGlobals)) = false; rw [hk]; rfl)
end
theorem allInt_of : ∀ {vs : List Value} {ns : List Int}, IntsAre vs ns → AllInt vs
  | _, _, .nil => fun _ h => nomatch h
  | _, _, .cons k t r => fun v hv => by
    rcases List.mem_cons.mp hv with rfl | hv
    · exact ⟨k, t, rfl⟩
    · exact allInt_of r v hv
section
local macro_rules | `(tactic| walk_at "storeName") => `(tactic| k_extra "store stop")
local macro_rules | `(tactic| walk_at "truthy ref") => `(tactic| k_extra "truth stop")
local macro_rules | `(tactic| walk_at "call ref") => `(tactic| k_extra "call stop")
local macro_rules | `(tactic| walk_at "call builtin:list.pop") => `(tactic| k_extra "pop stop")
local macro_rules | `(tactic| walk_at "compareOp Eq ref ref") => `(tactic| k_extra "cmp stop")
set_option maxRecDepth 100000 in
set_option maxHeartbeats 8000000 in
theorem lawW {w : World} {p : Program} {loose : List Str} {mg mb : Str → Option Value} {A : Around} {s : Shared} {l : Addr} {vs : List Value} {ns : List Int}
   (h1 : Env1 w p loose mg mb s.heap) (hh : A.handled = none) (hd : A.depth ≤ 500) (hu : A.units ≤ 3000) (hl : s.heap.IsList l vs.toArray) (hi : IntsAre vs ns) (hlen : vs.length ≤ 63) :
   wpAny (model prog0 w) A (call (.ref 544) [.ref l]) (GotO s fun v _ => v = .bool true) Nev s := by
  refine wpAny_call ?_
  have h0 := h1.e0
  have KX := h0.K
  have TT := h0.T
  refine' enterX [402] (binds := [(Str.ofString "script", .ref l)]) KX TT.nolimit ?ho ?hcd ?hroom ?hbind ?hloc ?_ ?c1 ?c2 ?c3 ?c4
  case ho => k_is
  case hcd => k_is
  case hroom => unfold recursionLimit; omega
  case hbind => exact BindsTo.of_eq rfl
  case hloc => exact locs rfl
  case c1 => decide
  case c2 => rfl
  case c3 => rfl
  case c4 => rfl
  intro L h₁ F hkeep
  have E5 := ground402 h1
  have tab := h1.tab
  obtain ⟨o406, ps, e406, e402, hmk⟩ := tab.at
  have KX := E5.K
  have TT := E5.T
  obtain ⟨h, g, dr, tk0, os⟩ := s
  dsimp only at F hkeep e406 e402 hl E5 KX TT tab
  have N : News (hideAll h [402]) L h₁ [(402, ({ cls := .none, data := .fields ps } : Obj))] := by
    intro q hq
    rw [List.mem_singleton] at hq
    subst hq
    exact ⟨(hkeep _ _ e402).1, (hkeep _ _ e402).2, hideAll_none [402] (by simp)⟩
  have hL4 : L ≠ 402 := Ne.symm (hkeep _ _ e402).2
  have hl4 : l ≠ 402 := fun q => by
    obtain ⟨o, e, c, _⟩ := hl
    rw [q, e402] at e
    cases e
    cases c
  have hlb : (hideAll h [402]).IsList l vs.toArray := hl.at fun o e => hideAll_get [402] e (by simpa using hl4)
  try dsimp only
  try k_fold
  k_with "truth stop" => refine stop ?_
  k_steps
  k_with_none
  refine ⟨?_⟩
  (rename Fr _ _ _ _ => F2); (rename News _ _ _ _ => N2)
  rename IntsAre _ (List.take _ _) => hI
  rename List Value => ws
  have hw : ws.length ≤ 12 := by
    rw [hI.length, List.length_take]
    omega
  have hai := allInt_of hI
  rename_i D hh2 hC' hL' hl1 hh1
  cases ws with
  | nil =>
    k_with "call stop" => refine stop ?_
    k_steps
    k_with_none
    refine ⟨?_⟩
    (rename Fr _ _ _ _ => F3); (rename News _ _ _ _ => N3); (rename Heap => h3)
    obtain ⟨d, hd3, hdk⟩ := one_four (0)
    have hD3 := N3 (D, W.listOf [].toArray 0) (by k_mem)
    have ht3 := N3 (402, ({ cls := .none, data := .fields ps } : Obj)) (by k_mem)
    have bD : ∀ b o, (hideAll h [402]).get? b = some o → b ≠ D := fun b o e q => by
      rw [q, hD3.2.2] at e
      cases e
    refine wpAny_mono (treeAll (d + 1) (A.deeper _) ⟨h3, g, dr, _, os⟩ D [] 0 _ _ hdk (by omega) (E5.keeps fun b o e => hideAll_get [D] (F3.keep b o e) (by simpa using bD b o e)) hh (show A.depth + 1 + 10 * (d + 1) < 600 by omega) (show A.units + 3 + 20 * (d + 1) ≤ 3500 by omega) hD3.1 hai (by simp)) (fun v s4 hv => ?_) (fun _ _ z => z.elim)
    obtain ⟨hx4, _, t, hfine, hT⟩ := hv
    obtain ⟨lt, rfl⟩ : ∃ lt, v = .ref lt := by
      obtain ⟨lt, _, _, e, _⟩ := hT
      exact ⟨lt, e⟩
    have hx4k : ∀ b o, b ≠ D → h3.get? b = some o → s4.heap.get? b = some o := fun b o n e => hx4.keep b o n e
    have F4 : Fr (hideAll h [402]) L s4.heap _ := ⟨F3.ns.at' fun o e => hx4k _ o (Ne.symm hD3.2.1) e, fun b o e => hx4k b o (bD b o e) (F3.keep b o e), F3.above⟩
    have hD4 : D ≠ 402 := Nat.ne_of_gt hl1
    have t4 := hx4k _ _ (Ne.symm hD4) ht3.1
    have N4 : News (hideAll h [402]) L s4.heap [(402, ({ cls := .none, data := .fields ps } : Obj))] := fun q hq => by
      rw [List.mem_singleton] at hq
      subst hq
      exact ⟨t4, ht3.2⟩
    have xb4 := hx4.bare
    have xo4 := hx4.os
    have frL : ∀ a, h3.get? a = none → a ≠ L ∧ a ≠ 402 := by
      intro a e
      refine ⟨fun q => ?_, fun q => ?_⟩
      · obtain ⟨o, _, _, eo, _⟩ := F3.ns
        rw [q, eo] at e
        cases e
      · rw [q, ht3.1] at e
        cases e
    obtain ⟨h4, g4, d4, tk4, os4⟩ := s4
    dsimp only at F4 N4 xb4 xo4 hT
    generalize hPd : (fun a => h3.get? a = none) = P at hT
    have frP : ∀ a, P a → a ≠ L ∧ a ≠ 402 := fun a ha => frL a (by rw [← hPd] at ha; exact ha)
    have keepOf : ∀ h' : Heap, (∀ b o, b ≠ 402 → h.get? b = some o → (hideAll h [402]).get? b = some o) := fun _ b o n e => hideAll_get [402] e (by simpa using n)
    clear F3 N3 hx4 hx4k t4 hPd
    k_with "store stop" => refine stop ?_
    k_steps
    k_with_none
    refine ⟨?_⟩
    refine storeK F4 N4 ?_
    intro h5 F5 N5 k5
    have hT5 : TIs P h5 (d + 1) (.ref lt) t := hT.keeps (fun _ z => z) (fun b o hb e => k5 b o (frP b hb).1 e) (d + 1)
    have t5 : OrgTab h5 := hmk _ (F5.keep _ _ (hideAll_get [402] e406 (by decide))) (N5 _ (.head _)).1
    have E5' : Env1 w p loose mg mb h5 := h1.but (fun b o n e => F5.keep b o (hideAll_get [402] e (by simpa using n))) t5
    clear F4 N4
    k_with "call stop" => refine stop ?_
    k_steps
    k_with_none
    refine ⟨?_⟩
    (rename Fr _ _ _ _ => F5)
    refine wpAny_mono (codeAll (d + 1) (A.deeper _) ⟨h5, g4, d4, _, os4⟩ P (.ref lt) t _ _ hdk (by omega) E5' hh (show A.depth + 1 + 10 * (d + 1) < 600 by omega) (show A.units + 3 + 20 * (d + 1) ≤ 3500 by omega) (fun a ha => (frP a ha).2) hT5 hfine) (fun v s6 hv => ?_) (fun _ _ z => z.elim)
    obtain ⟨hx6, ht6, tc, rfl⟩ := hv
    have hx6k : ∀ b o, b ≠ 402 → h5.get? b = some o → s6.heap.get? b = some o := fun b o n e => hx6.keep b o n e
    have F6 : Fr (hideAll h [402]) L s6.heap _ := ⟨F5.ns.at' fun o e => hx6k _ o hL4 e, fun b o e => hx6k b o (hide402 b o e).1 (F5.keep b o e), F5.above⟩
    have N6 : News (hideAll h [402]) L s6.heap [] := News.nil
    have hT6 : TIs P s6.heap (d + 1) (.ref lt) t := hT5.keeps (fun _ z => z) (fun b o hb e => hx6k b o (frP b hb).2 e) (d + 1)
    have xb6 := hx6.bare
    have xo6 := hx6.os
    have hform := law_form d t
    generalize hxc : strL (codeL (d + 1) t) = x at *
    have hxf : strL (formL (d + 1) t 0) = x := by rw [← hform]; exact hxc
    obtain ⟨h6, g6, d6, tk6, os6⟩ := s6
    dsimp only at F6 N6 xb6 xo6 hT6 ht6
    clear F5 hx6 hx6k hT5 hT
    k_with "store stop" => refine stop ?_
    k_steps
    k_with_none
    refine ⟨?_⟩
    refine storeK F6 N6 ?_
    intro h7 F7 N7 k7
    have hT7 : TIs P h7 (d + 1) (.ref lt) t := hT6.keeps (fun _ z => z) (fun b o hb e => k7 b o (frP b hb).1 e) (d + 1)
    have t7 : OrgTab h7 := ht6.at3 (fun b hb o e => k7 b o (by
      rcases hb with rfl | rfl
      · exact Ne.symm hL4
      · exact (hkeep _ _ e406).2) e)
    clear F6 N6 hT6
    k_with "call stop" => refine stop ?_
    k_steps
    k_with_none
    refine ⟨?_⟩
    (rename Fr _ _ _ _ => F7)
    refine wpAny_mono (formAll (d + 1) (A.deeper _) ⟨h7, g6, d6, _, os6⟩ P (.ref lt) t _ _ _ _ 0 hdk rfl (by omega) (by omega) (E5.keeps F7.keep) hh (show A.depth + 1 + 10 * (d + 1) < 600 by omega) (show A.units + 3 + 20 * (d + 1) ≤ 3500 by omega) hT7 hfine) (fun v s8 hv => ?_) (fun _ _ z => z.elim)
    obtain ⟨hx8, tf, rfl⟩ := hv
    rw [hxf]
    have F8 := frExt F7 hx8.all
    have N8 : News (hideAll h [402]) L s8.heap [] := News.nil
    have xb8 := hx8.bare
    have xo8 := hx8.os
    have xk8 := hx8.all
    obtain ⟨h8, g8, d8, tk8, os8⟩ := s8
    dsimp only at F8 N8 xb8 xo8 xk8
    clear F7 hx8
    k_with "call stop" => refine stop ?_
    k_steps
    k_with_none
    rotate_left
    · (rename (x == x) = false => hxx)
      simp at hxx
    refine ⟨?_⟩
    (rename Fr _ _ _ _ => F8)
    refine wpAny_mono (toldAll (d + 1) (A.deeper _) ⟨h8, g8, d8, _, os8⟩ x _ t _ _ hxc.symm hdk (by omega) (E5.keeps F8.keep) hh (show A.depth + 1 + 10 * (d + 1) < 600 by omega) (show A.units + 3 + 20 * (d + 1) ≤ 3500 by omega) hfine) (fun v s9 hv => ?_) (fun _ _ z => z.elim)
    obtain ⟨hx9, hT9⟩ := hv
    obtain ⟨lv, rfl⟩ : ∃ lv, v = .ref lv := by
      obtain ⟨lv, _, _, e, _⟩ := hT9
      exact ⟨lv, e⟩
    have F9 := frExt F8 hx9.all
    have N9 : News (hideAll h [402]) L s9.heap [] := News.nil
    have hTl : TIs P s9.heap (d + 1) (.ref lt) t := hT7.keeps (fun _ z => z) (fun b o _ e => hx9.all _ _ (xk8 _ _ e)) (d + 1)
    clear F8
    k_with "cmp stop" => refine stop ?_
    k_steps
    k_with_none
    refine ⟨?_⟩
    refine eq_trees hT9 hTl hfine (by omega) (show A.units + 3 + 64 < 9900 by omega) ?_
    exact ⟨⟨fun b o n e => F9.keep b o (hideAll_get [402] e (by simpa using n)), fun G => hx9.bare (xb8 (xb6 (xb4 G))), hx9.os.trans (xo8.trans (xo6.trans xo4))⟩, (t7.keeps xk8).keeps hx9.all, rfl⟩
  | cons v r =>
    obtain ⟨i, ti, rfl⟩ := hai v (.head _)
    have hrl : r.length ≤ 11 := by simpa using hw
    have hair : AllInt r := fun v hv => hai v (.tail _ hv)
    refine wpAny_truthy_list ⟨_, (N2 (D, W.listOf (Value.int i ti :: r).toArray 0) (by k_mem)).1, rfl, _, rfl⟩ (by rw [List.size_toArray, List.length_cons]; omega) ?_
    have hne : (!(Value.int i ti :: r).toArray.isEmpty) = true := by simp
    rw [hne]
    k_with "pop stop" => refine stop ?_
    k_steps
    k_with_none
    refine ⟨?_⟩
    (rename Fr _ _ _ _ => F2); (rename News _ _ _ _ => N2)
    refine kl_popAt F2 N2 (p := []) (q := r) (y := .int i ti) (k := 0) rfl (seq0 _ _) rfl (.head (by k_all)) (by rw [List.length_cons, sizeLine_eq]; omega) ?_
    intro h2 F22 N22
    dsimp only [List.nil_append] at N22
    clear F2 N2
    k_with "call stop" => refine stop ?_
    k_steps
    k_with_none
    refine ⟨?_⟩
    (rename Fr _ _ _ _ => F3); (rename News _ _ _ _ => N3); (rename Heap => h3)
    obtain ⟨d, hd3, hdk⟩ := one_four (i)
    have hD3 := N3 (D, W.listOf r.toArray (0 + 1)) (by k_mem)
    have ht3 := N3 (402, ({ cls := .none, data := .fields ps } : Obj)) (by k_mem)
    have bD : ∀ b o, (hideAll h [402]).get? b = some o → b ≠ D := fun b o e q => by
      rw [q, hD3.2.2] at e
      cases e
    refine wpAny_mono (treeAll (d + 1) (A.deeper _) ⟨h3, g, dr, _, os⟩ D r (0 + 1) _ _ hdk (by omega) (E5.keeps fun b o e => hideAll_get [D] (F3.keep b o e) (by simpa using bD b o e)) hh (show A.depth + 1 + 10 * (d + 1) < 600 by omega) (show A.units + 3 + 20 * (d + 1) ≤ 3500 by omega) hD3.1 hair (by omega)) (fun v s4 hv => ?_) (fun _ _ z => z.elim)
    obtain ⟨hx4, _, t, hfine, hT⟩ := hv
    obtain ⟨lt, rfl⟩ : ∃ lt, v = .ref lt := by
      obtain ⟨lt, _, _, e, _⟩ := hT
      exact ⟨lt, e⟩
    have hx4k : ∀ b o, b ≠ D → h3.get? b = some o → s4.heap.get? b = some o := fun b o n e => hx4.keep b o n e
    have F4 : Fr (hideAll h [402]) L s4.heap _ := ⟨F3.ns.at' fun o e => hx4k _ o (Ne.symm hD3.2.1) e, fun b o e => hx4k b o (bD b o e) (F3.keep b o e), F3.above⟩
    have hD4 : D ≠ 402 := Nat.ne_of_gt hl1
    have t4 := hx4k _ _ (Ne.symm hD4) ht3.1
    have N4 : News (hideAll h [402]) L s4.heap [(402, ({ cls := .none, data := .fields ps } : Obj))] := fun q hq => by
      rw [List.mem_singleton] at hq
      subst hq
      exact ⟨t4, ht3.2⟩
    have xb4 := hx4.bare
    have xo4 := hx4.os
    have frL : ∀ a, h3.get? a = none → a ≠ L ∧ a ≠ 402 := by
      intro a e
      refine ⟨fun q => ?_, fun q => ?_⟩
      · obtain ⟨o, _, _, eo, _⟩ := F3.ns
        rw [q, eo] at e
        cases e
      · rw [q, ht3.1] at e
        cases e
    obtain ⟨h4, g4, d4, tk4, os4⟩ := s4
    dsimp only at F4 N4 xb4 xo4 hT
    generalize hPd : (fun a => h3.get? a = none) = P at hT
    have frP : ∀ a, P a → a ≠ L ∧ a ≠ 402 := fun a ha => frL a (by rw [← hPd] at ha; exact ha)
    have keepOf : ∀ h' : Heap, (∀ b o, b ≠ 402 → h.get? b = some o → (hideAll h [402]).get? b = some o) := fun _ b o n e => hideAll_get [402] e (by simpa using n)
    clear F3 N3 hx4 hx4k t4 hPd
    k_with "store stop" => refine stop ?_
    k_steps
    k_with_none
    refine ⟨?_⟩
    refine storeK F4 N4 ?_
    intro h5 F5 N5 k5
    have hT5 : TIs P h5 (d + 1) (.ref lt) t := hT.keeps (fun _ z => z) (fun b o hb e => k5 b o (frP b hb).1 e) (d + 1)
    have t5 : OrgTab h5 := hmk _ (F5.keep _ _ (hideAll_get [402] e406 (by decide))) (N5 _ (.head _)).1
    have E5' : Env1 w p loose mg mb h5 := h1.but (fun b o n e => F5.keep b o (hideAll_get [402] e (by simpa using n))) t5
    clear F4 N4
    k_with "call stop" => refine stop ?_
    k_steps
    k_with_none
    refine ⟨?_⟩
    (rename Fr _ _ _ _ => F5)
    refine wpAny_mono (codeAll (d + 1) (A.deeper _) ⟨h5, g4, d4, _, os4⟩ P (.ref lt) t _ _ hdk (by omega) E5' hh (show A.depth + 1 + 10 * (d + 1) < 600 by omega) (show A.units + 3 + 20 * (d + 1) ≤ 3500 by omega) (fun a ha => (frP a ha).2) hT5 hfine) (fun v s6 hv => ?_) (fun _ _ z => z.elim)
    obtain ⟨hx6, ht6, tc, rfl⟩ := hv
    have hx6k : ∀ b o, b ≠ 402 → h5.get? b = some o → s6.heap.get? b = some o := fun b o n e => hx6.keep b o n e
    have F6 : Fr (hideAll h [402]) L s6.heap _ := ⟨F5.ns.at' fun o e => hx6k _ o hL4 e, fun b o e => hx6k b o (hide402 b o e).1 (F5.keep b o e), F5.above⟩
    have N6 : News (hideAll h [402]) L s6.heap [] := News.nil
    have hT6 : TIs P s6.heap (d + 1) (.ref lt) t := hT5.keeps (fun _ z => z) (fun b o hb e => hx6k b o (frP b hb).2 e) (d + 1)
    have xb6 := hx6.bare
    have xo6 := hx6.os
    have hform := law_form d t
    generalize hxc : strL (codeL (d + 1) t) = x at *
    have hxf : strL (formL (d + 1) t 0) = x := by rw [← hform]; exact hxc
    obtain ⟨h6, g6, d6, tk6, os6⟩ := s6
    dsimp only at F6 N6 xb6 xo6 hT6 ht6
    clear F5 hx6 hx6k hT5 hT
    k_with "store stop" => refine stop ?_
    k_steps
    k_with_none
    refine ⟨?_⟩
    refine storeK F6 N6 ?_
    intro h7 F7 N7 k7
    have hT7 : TIs P h7 (d + 1) (.ref lt) t := hT6.keeps (fun _ z => z) (fun b o hb e => k7 b o (frP b hb).1 e) (d + 1)
    have t7 : OrgTab h7 := ht6.at3 (fun b hb o e => k7 b o (by
      rcases hb with rfl | rfl
      · exact Ne.symm hL4
      · exact (hkeep _ _ e406).2) e)
    clear F6 N6 hT6
    k_with "call stop" => refine stop ?_
    k_steps
    k_with_none
    refine ⟨?_⟩
    (rename Fr _ _ _ _ => F7)
    refine wpAny_mono (formAll (d + 1) (A.deeper _) ⟨h7, g6, d6, _, os6⟩ P (.ref lt) t _ _ _ _ 0 hdk rfl (by omega) (by omega) (E5.keeps F7.keep) hh (show A.depth + 1 + 10 * (d + 1) < 600 by omega) (show A.units + 3 + 20 * (d + 1) ≤ 3500 by omega) hT7 hfine) (fun v s8 hv => ?_) (fun _ _ z => z.elim)
    obtain ⟨hx8, tf, rfl⟩ := hv
    rw [hxf]
    have F8 := frExt F7 hx8.all
    have N8 : News (hideAll h [402]) L s8.heap [] := News.nil
    have xb8 := hx8.bare
    have xo8 := hx8.os
    have xk8 := hx8.all
    obtain ⟨h8, g8, d8, tk8, os8⟩ := s8
    dsimp only at F8 N8 xb8 xo8 xk8
    clear F7 hx8
    k_with "call stop" => refine stop ?_
    k_steps
    k_with_none
    rotate_left
    · (rename (x == x) = false => hxx)
      simp at hxx
    refine ⟨?_⟩
    (rename Fr _ _ _ _ => F8)
    refine wpAny_mono (toldAll (d + 1) (A.deeper _) ⟨h8, g8, d8, _, os8⟩ x _ t _ _ hxc.symm hdk (by omega) (E5.keeps F8.keep) hh (show A.depth + 1 + 10 * (d + 1) < 600 by omega) (show A.units + 3 + 20 * (d + 1) ≤ 3500 by omega) hfine) (fun v s9 hv => ?_) (fun _ _ z => z.elim)
    obtain ⟨hx9, hT9⟩ := hv
    obtain ⟨lv, rfl⟩ : ∃ lv, v = .ref lv := by
      obtain ⟨lv, _, _, e, _⟩ := hT9
      exact ⟨lv, e⟩
    have F9 := frExt F8 hx9.all
    have N9 : News (hideAll h [402]) L s9.heap [] := News.nil
    have hTl : TIs P s9.heap (d + 1) (.ref lt) t := hT7.keeps (fun _ z => z) (fun b o _ e => hx9.all _ _ (xk8 _ _ e)) (d + 1)
    clear F8
    k_with "cmp stop" => refine stop ?_
    k_steps
    k_with_none
    refine ⟨?_⟩
    refine eq_trees hT9 hTl hfine (by omega) (show A.units + 3 + 64 < 9900 by omega) ?_
    exact ⟨⟨fun b o n e => F9.keep b o (hideAll_get [402] e (by simpa using n)), fun G => hx9.bare (xb8 (xb6 (xb4 G))), hx9.os.trans (xo8.trans (xo6.trans xo4))⟩, (t7.keeps xk8).keeps hx9.all, rfl⟩
end
end Mine
end
section
open PySem PySem.W PyProof.Rows
namespace Mine
noncomputable def keysOf (l : Frag) : List Nat := List.map Prod.fst l
noncomputable def subIdx (p : Params) : Frag := (Mine.hd.heap_39 p).filter fun x => (keysOf (Mine.kd.heap_1 p)).contains x.1
set_option maxRecDepth 100000 in
set_option maxHeartbeats 4000000 in
theorem sub39 (p : Params) : Mine.kd.heap_1 p = subIdx p := by kernel_rfl
end Mine
end
section
open PySem PySem.W PyProof.Rows PySem.Calls
namespace Mine
theorem lookup_filter {f : Addr → Bool} {a : Addr} {o : Obj} : ∀ {l : Frag}, (l.filter fun x => f x.1).lookup a = some o → l.lookup a = some o
  | [], h => h
  | (b, ob) :: r, h => by
    rw [List.filter_cons] at h
    by_cases hb : a = b
    · subst hb
      cases hf : f a with
      | true =>
        simp only [hf, if_true, List.lookup_cons, beq_self_eq_true] at h ⊢
        exact h
      | false =>
        exfalso
        simp only [hf] at h
        have : ∀ l : Frag, (l.filter fun x => f x.1).lookup a = none := by
          intro l
          induction l with
          | nil => rfl
          | cons y l ih =>
            rw [List.filter_cons]
            cases hy : f y.1 with
            | false => simpa [hy] using ih
            | true =>
              have ne : (a == y.1) = false := by
                rw [beq_eq_false_iff_ne]
                intro e
                rw [← e, hf] at hy
                cases hy
              simp only [if_true]
              obtain ⟨y1, y2⟩ := y
              rw [List.lookup_cons, ne]
              exact ih
        have h : (r.filter fun x => f x.1).lookup a = some o := h
        rw [this r] at h
        cases h
    · have ne : (a == b) = false := beq_eq_false_iff_ne.mpr hb
      rw [List.lookup_cons, ne]
      cases hf : f b with
      | true =>
        simp only [hf, if_true, List.lookup_cons, ne] at h
        exact lookup_filter h
      | false =>
        simp only [hf] at h
        exact lookup_filter h
set_option maxRecDepth 100000 in
theorem env1_of {w : World} {p : Program} {loose : List Str} {mean : ExcName → Option Value} {mg mb : Str → Option Value} {h : Heap} (X : (Mine.hd.heap_39 w.params).In h) (T : Top p loose mean mg mb h) : Env1 w p loose mg mb h := by
  have hK : (Mine.kd.heap_1 w.params).In h := fun a o e => X a o (by
    rw [sub39] at e
    exact lookup_filter (f := fun a => (keysOf (Mine.kd.heap_1 w.params)).contains a) e)
  have hX : (Mine.hq w.params).In h := fun a o e => X a o (lookup_filter (f := fun a => !(a == 402)) e)
  have h402 : h.get? 402 = some ({ cls := .none, data := .fields #[] } : Obj) := X 402 _ (by rfl)
  have h406 := X 406 _ (by rfl)
  refine ⟨⟨hK, topRead_of T, hX, ⟨_, X sysModules _ (by rfl)⟩⟩, ⟨#[], ⟨_, _, _, _, _, _, _, _, _, _, h406, rfl, rfl, rfl, rfl, rfl, rfl, h402, rfl, ?_, by decide⟩, ⟨⟨_, _, h406, rfl, rfl, rfl⟩, h402⟩⟩, ?_⟩
  · first | trivial | exact TriplesOk.nil | decide
  · obtain ⟨bm, ob, B⟩ := bmod_of_top T
    refine ⟨bm, ob, B, fun q => ?_⟩
    have e := B.obj
    rw [q, h402] at e
    cases e
    have c := B.cls
    cases c
theorem oldK_of {s s' : Shared} (x : Ext P402 s s') (t : OrgTab s'.heap) (t₀ : s.heap.TableAt 406 402 #[]) : OldK s.heap s'.heap := by
  obtain ⟨o, ps, e1, e2, _⟩ := t.at
  refine ⟨fun b ob e => ?_, fun b ob e => ?_⟩
  · by_cases hb : b = 402
    · subst hb
      rw [t₀.2] at e
      cases e
      exact .inr (.inl ⟨t₀.isCodeTable, rfl, #[], ps, rfl, by rw [e2]; simp⟩)
    · exact .inl (x.keep b ob hb e)
  · by_cases hb : b = 402
    · subst hb
      exact ⟨_, e2⟩
    · exact ⟨_, x.keep b ob hb e⟩
theorem good_end {c : ClaimW} {cl : Str → Option Addr} {mean : ExcName → Option Value} {args : List WData} {s₁ s' : Shared} (x : Ext P402 s₁ s') (t : OrgTab s'.heap) (t₀ : s₁.heap.TableAt 406 402 #[]) (hg : s₁.gens = #[]) (hr : ∀ cls, c.raises args cls = false) (hp : c.post args (.bool true) args = true) :
    GoodWG c cl mean args s₁ (.ok (.ret (.bool true))) s' :=
  ⟨.inl ⟨_, _, [], rfl, hr, ReadsW.bool true, hp, fun _ => ⟨List.nodup_nil, fun _ hm => (nomatch hm)⟩⟩, oldK_of x t t₀, x.os, x.bare (.of_eq hg)⟩
set_option maxRecDepth 100000 in
theorem table0 {w : World} {h : Heap} (X : (Mine.hd.heap_39 w.params).In h) : h.TableAt 406 402 #[] :=
  ⟨⟨_, _, X 406 _ (by rfl), rfl, rfl, rfl⟩, X 402 _ (by rfl)⟩
end Mine
end
open PySem PySem.W PyProof.Rows PySem.Calls
set_option maxRecDepth 100000 in
set_option maxHeartbeats 8000000 in
theorem PySem.Challenge.cw_br0007_01_holds : PySem.Challenge.rw_br0007_01.Holds := by
  refine Mine.hd ?_
  k_fill
  intro w s₀ s₁ mg mb G Y fa o pm cd doc dV kV ho hd hcd hD hmg hg args vals as hpre hlay hrd hwl hlo
  have KX := kIn_of Y
  refine Ground.open G ?_
  intro T B D TE TW
  wrow_args hpre hlay hrd hwl hlo
  x_fa T KX hmg
  all_lens
  rename IntsAre _ _ => hi
  rename Heap.IsList _ _ _ => hl
  have hlen := hi.length
  refine wpAny_mono (Mine.lawW (A := callerA) (s := s₁) (Mine.env1_of KX T) rfl (by decide) (by decide) hl hi (by omega)) (fun v s' hv => ?_) (fun _ _ z => z.elim)
  obtain ⟨hx, ht, rfl⟩ := hv
  exact Mine.good_end hx ht (Mine.table0 KX) hg (fun _ => rfl) (by first | rfl | wrow_post)
