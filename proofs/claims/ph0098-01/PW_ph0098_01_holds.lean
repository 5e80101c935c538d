import PyProof.Rows.All
import Wide.All
import OpenK.AllK
import Wide.FinOn
import PySem.Challenge.RW_ph0098_01
set_option Elab.async false
section
open PySem PySem.W PyProof.Rows
namespace Mine
set_option maxRecDepth 100000 in
set_option maxHeartbeats 8000000 in
open_top hd for PySem.Challenge.rw_ph0098_01
end Mine
end
theorem Mine.wtop_off : True := by
  w_top off
  trivial
section
open PySem PySem.W PyProof.Rows PySem.Calls
namespace Mine

def KeepAll (h h' : Heap) : Prop := ∀ b o, h.get? b = some o → h'.get? b = some o
theorem sub_nil {α : Type} {p : α → Prop} : ∀ q ∈ ([] : List α), p q := fun _ h => nomatch h
theorem sub_cons {α : Type} {p : α → Prop} {a : α} {l : List α} (h : p a) (t : ∀ q ∈ l, p q) : ∀ q ∈ a :: l, p q := fun _ hq => match hq with | .head _ => h | .tail _ m => t _ m
theorem sub_app {α : Type} {p : α → Prop} {l m : List α} (h : ∀ q ∈ l, p q) (t : ∀ q ∈ m, p q) : ∀ q ∈ l ++ m, p q := fun q hq => (List.mem_append.mp hq).elim (h q) (t q)
theorem sub_use {α : Type} {p : α → Prop} {a : α} {l : List α} (m : a ∈ l) (h : ∀ q ∈ l, p q) : p a := h a m
theorem o_dp {d m k : Nat} (h : d + m < recursionLimit) (hk : k ≤ m) : d + k < recursionLimit := Nat.lt_of_le_of_lt (Nat.add_le_add_left hk d) h
theorem o_dp0 {d m : Nat} (h : d + m < recursionLimit) : d < recursionLimit := Nat.lt_of_le_of_lt (Nat.le_add_right d m) h
theorem o_dp2 {d m : Nat} (h : d + m < recursionLimit) (k l : Nat) (hk : k + l ≤ m) : d + k + l < recursionLimit := by rw [Nat.add_assoc]; exact o_dp h hk
theorem o_dp3 {d m : Nat} (h : d + m < recursionLimit) (k l j : Nat) (hk : k + l + j ≤ m) : d + k + l + j < recursionLimit := by rw [Nat.add_assoc, Nat.add_assoc]; exact o_dp h (by rw [← Nat.add_assoc]; exact hk)
theorem o_dpk {d k : Nat} (h : d + (k + 1) + 1 < recursionLimit) : d + 1 + k + 1 < recursionLimit := by rw [Nat.add_assoc d 1 k, Nat.add_comm 1 k]; exact h
theorem o_dpr {d k : Nat} (h : d + k + 1 < recursionLimit) : d < recursionLimit := Nat.lt_of_le_of_lt (Nat.le_add_right d (k + 1)) h
theorem o_tn {n : Int} (h : 0 ≤ n) : n = (n.toNat : Int) := (Int.toNat_of_nonneg h).symm
theorem o_tn1 {n : Int} (h : 1 ≤ n) : n = (n.toNat : Int) := (Int.toNat_of_nonneg (Int.le_trans (by decide) h)).symm
theorem o_tnc {n k : Int} (h : 1 ≤ n ∧ n ≤ k) : n = (n.toNat : Int) := o_tn1 h.1
theorem o_tnl {a : Nat} {b : Int} (h : (a : Int) < b) : b = (b.toNat : Int) := (Int.toNat_of_nonneg (Int.le_trans (Int.natCast_nonneg a) (Int.le_of_lt h))).symm
theorem o_half (a b : Nat) : ((a : Int) + b) / 2 = ((((a : Int) + b) / 2).toNat : Int) := (Int.toNat_of_nonneg (Int.ediv_nonneg (Int.add_nonneg (Int.natCast_nonneg a) (Int.natCast_nonneg b)) (by decide))).symm
theorem o_tn2 (a b : Nat) (h : 1 ≤ b) : ((a : Int) + b - 1).toNat = a + b - 1 := by
  obtain ⟨c, rfl⟩ : ∃ c, b = c + 1 := ⟨b - 1, (Nat.sub_add_cancel h).symm⟩
  rw [Int.natCast_succ, ← Int.add_assoc, Int.add_sub_cancel]; rfl
theorem o_sub2 {lo mid hi : Nat} (h : lo < mid ∧ mid < hi) : hi - lo = mid - lo + (hi - mid) := by
  rw [Nat.add_comm]; exact (Nat.sub_add_sub_cancel (Nat.le_of_lt h.2) (Nat.le_of_lt h.1)).symm
theorem o_min {lo mid n : Nat} (h1 : lo ≤ mid) (h2 : mid ≤ n) : min lo n + (mid - lo) + (n - mid) = n := by
  rw [Nat.min_eq_left (Nat.le_trans h1 h2), Nat.add_sub_cancel' h1, Nat.add_sub_cancel' h2]
theorem o_mid {lo hi mid : Nat} (h : (lo : Int) < hi) (hn : (lo : Int) + 1 ≠ hi) (hm : ((lo : Int) + hi) / 2 = mid) : lo < mid ∧ mid < hi := by lia
theorem o_pow {lo hi mid : Nat} {p : Int} (hm : ((lo : Int) + hi) / 2 = mid) (h : (hi : Int) - lo ≤ p * 2) : (mid : Int) - lo ≤ p ∧ (hi : Int) - mid ≤ p := by lia
theorem o_csub {lo mid hi : Nat} (h : lo < mid ∧ mid < hi) : (mid : Int) - lo = ((mid - lo : Nat) : Int) := (Int.ofNat_sub (Nat.le_of_lt h.1)).symm
theorem o_pos2 {n k : Int} (h : 1 ≤ n ∧ n ≤ k) : 0 ≤ n := Int.le_trans (by decide) h.1
theorem o_lit {n k m : Int} (h : n ≤ k) (hk : k < m) : n < m := Int.lt_of_le_of_lt h hk
theorem o_litc {n j k m : Int} (h : j ≤ n ∧ n ≤ k) (hk : k < m) : n < m := Int.lt_of_le_of_lt h.2 hk
theorem o_lec {n j k m : Int} (h : j ≤ n ∧ n ≤ k) (hk : k ≤ m) : n ≤ m := Int.le_trans h.2 hk
theorem o_neg {n k m : Int} (h : k ≤ n) (hk : m < k) : m < n := Int.lt_of_lt_of_le hk h
theorem o_negc {n j k m : Int} (h : k ≤ n ∧ n ≤ j) (hk : m < k) : m < n := Int.lt_of_lt_of_le hk h.1
theorem o_nege {n k m : Int} (h : k ≤ n) (hk : m ≤ k) : m ≤ n := Int.le_trans hk h
theorem o_negce {n j k m : Int} (h : k ≤ n ∧ n ≤ j) (hk : m ≤ k) : m ≤ n := Int.le_trans hk h.1
theorem o_szn {n k : Nat} (h : n ≤ k) (hk : k ≤ 16777216) : n ≤ sizeLine := Nat.le_trans h (sizeLine_eq ▸ hk)
theorem o_szi {m n k : Nat} (e : m = n) (h : n ≤ k) (hk : k ≤ 16777216) : m ≤ sizeLine := e ▸ o_szn h hk
theorem o_ncast {k : Int} (hk : k < 0) (n : Nat) : k < (n : Int) := Int.lt_of_lt_of_le hk (Int.natCast_nonneg n)
theorem o_ncaste {k : Int} (hk : k ≤ 0) (n : Nat) : k ≤ (n : Int) := Int.le_trans hk (Int.natCast_nonneg n)
theorem o_hoL {n j J : Nat} {k : Int} (h : j ≤ n ∧ n ≤ J) (hk : (J : Int) < k) : (n : Int) < k := Int.lt_of_le_of_lt (Int.ofNat_le.mpr h.2) hk
theorem o_ho1 {n J : Nat} (h : 1 ≤ n ∧ n ≤ J) : n = n - 1 + 1 := (Nat.sub_add_cancel h.1).symm
theorem o_ho0 {n J : Nat} (h : 1 ≤ n ∧ n ≤ J) : (0 : Int) < (n : Int) := Int.ofNat_lt.mpr h.1
theorem o_hos {n j J : Nat} (h : j ≤ n ∧ n ≤ J) (hk : J ≤ 16777216) : n ≤ sizeLine := Nat.le_trans h.2 (sizeLine_eq ▸ hk)
theorem o_hoe {m n j J : Nat} (e : m = n) (h : j ≤ n ∧ n ≤ J) (hk : J ≤ 16777216) : m ≤ sizeLine := e ▸ o_hos h hk
theorem o_il {i n j J : Nat} {k : Int} (hi : i < n) (h : j ≤ n ∧ n ≤ J) (hk : (J : Int) < k) : (i : Int) < k := Int.lt_trans (Int.ofNat_lt.mpr hi) (o_hoL h hk)
theorem o_il1 {i n j J : Nat} {k : Int} (hi : i < n) (h : j ≤ n ∧ n ≤ J) (hk : (J : Int) < k) : 1 + (i : Int) < k := Int.lt_of_le_of_lt (by rw [Int.add_comm]; exact Int.ofNat_lt.mpr hi) (o_hoL h hk)
theorem o_rr {r k : Int} {n j J : Nat} (hi : r < (n : Int)) (h : j ≤ n ∧ n ≤ J) (hk : (J : Int) < k) : r < k := Int.lt_trans hi (o_hoL h hk)
theorem o_iff (i n : Nat) : ((i : Int) + 1 = (n : Int) ↔ i + 1 = n) := ⟨fun h => Int.ofNat.inj h, fun h => congrArg Int.ofNat h⟩
theorem o_abs1 {a : Int} (h : a < 0) : -a = (a.natAbs : Int) := (Int.ofNat_natAbs_of_nonpos (Int.le_of_lt h)).symm
theorem o_abs2 {a : Int} (h : ¬ a < 0) : (a.natAbs : Int) = a := Int.natAbs_of_nonneg (Int.not_lt.mp h)
theorem o_abs4 {a : Int} (h : 0 < a) : (a.natAbs : Int) = a := Int.natAbs_of_nonneg (Int.le_of_lt h)
theorem o_abs3 {a : Int} (h : 0 ≤ a) : a.natAbs = a.toNat := Int.ofNat.inj ((Int.natAbs_of_nonneg h).trans (Int.toNat_of_nonneg h).symm)
theorem o_min1 {i n : Nat} (h : i < n) : min i n = i := Nat.min_eq_left (Nat.le_of_lt h)
theorem o_anti {k n : Nat} (h : ¬ k < n) (h2 : k < n + 1) : k = n := Nat.le_antisymm (Nat.le_of_lt_succ h2) (Nat.le_of_not_lt h)
theorem o_anti2 {j n i : Nat} (e : n = i) (h : ¬ j < n) (h2 : j < n + 1) : j = i := (o_anti h h2).trans e
theorem o_m1 (n : Nat) : (-1 + (n : Int)).toNat = n - 1 := by
  rw [Int.add_comm]; cases n with
  | zero => rfl
  | succ n => rw [Int.natCast_succ, Int.add_neg_cancel_right]; rfl
theorem o_m1e {n m : Nat} (e : n = m) : (-1 + (n : Int)).toNat = m - 1 := e ▸ o_m1 n
theorem o_pred {n i : Nat} (e : n = i + 1) : n - 1 < n := e ▸ Nat.lt_succ_self i
theorem o_predl {n k : Nat} (h : k < n) : n - (k + 1) < n := Nat.sub_lt (Nat.lt_of_le_of_lt (Nat.zero_le k) h) (Nat.succ_pos k)
theorem o_psub {n k : Nat} (h : k < n) : n - (k + 1) + 1 = n - k := by rw [Nat.sub_add_eq, Nat.sub_add_cancel (Nat.sub_pos_of_lt h)]
theorem o_psub' {n k : Nat} (h : k < n) : n - k = n - (k + 1) + 1 := (o_psub h).symm
theorem o_psub2 {n m k : Nat} (e : m = n) : n - (k + 1) = m - 1 - k := by rw [e, Nat.sub_sub, Nat.add_comm]
theorem o_tle {n j k : Int} {K : Nat} (h : j ≤ n ∧ n ≤ k) (hk : k ≤ (K : Int)) : n.toNat ≤ K := Int.toNat_le.mpr (Int.le_trans h.2 hk)
theorem o_pos3c {n k : Int} (h : 1 ≤ n ∧ n ≤ k) : 1 ≤ n.toNat := (Int.le_toNat (Int.le_trans (by decide) h.1)).mpr h.1
theorem o_natn {n : Nat} (h : 1 ≤ (n : Int)) : 0 < n := Int.ofNat_le.mp h
theorem o_nle {n k : Nat} (h : (n : Int) ≤ (k : Int)) : n ≤ k := Int.ofNat_le.mp h
theorem o_tlt {a : Int} {n : Nat} (h : 0 ≤ a) (h2 : a < (n : Int)) : a.toNat < n := (Int.toNat_lt h).mpr h2
theorem o_tlt2 {a : Int} {n : Nat} (h : 0 ≤ a) (h2 : a + 1 ≤ (n : Int)) : a.toNat < n := (Int.toNat_lt h).mpr h2
theorem o_addt {i : Nat} {k : Int} (h : i < k.toNat) : 0 + (i : Int) < k := by rw [Int.zero_add]; exact Int.lt_toNat.mp h
theorem o_addne {i : Nat} {k : Int} (hk : k ≤ 0) : k ≤ 0 + (i : Int) := by rw [Int.zero_add]; exact o_ncaste hk i
theorem o_szlt {m i : Nat} {n k : Int} (e : m = i) (h : i < n.toNat) (hk : n ≤ k) (hz : k ≤ 16777216) : m ≤ sizeLine := by
  rw [sizeLine_eq, e]; exact Nat.le_of_lt (Nat.lt_of_lt_of_le h (Int.toNat_le.mpr (Int.le_trans hk hz)))
theorem o_szlt1 {m l i : Nat} {n k : Int} (e : m = l) (e2 : l = i + 1) (h : i < n.toNat) (hk : n < k) (hz : k ≤ 16777216) : m ≤ sizeLine := by
  rw [sizeLine_eq, e, e2]; exact Nat.le_trans h (Int.toNat_le.mpr (Int.le_trans (Int.le_of_lt hk) hz))
theorem o_szll {m i n : Nat} {k : Nat} (e : m = i) (h : i < n) (hn : n ≤ k) (hz : k ≤ 16777216) : m ≤ sizeLine := by
  rw [sizeLine_eq, e]; exact Nat.le_trans (Nat.le_of_lt h) (Nat.le_trans hn hz)
theorem o_szll2 {m q i n d : Nat} {k : Nat} (e : m = q) (e2 : q = i) (h : i < d) (e3 : d = n) (hn : n ≤ k) (hz : k ≤ 16777216) : m ≤ sizeLine := by
  subst e3; subst e2; exact o_szll e h hn hz
theorem o_mulsub (n m : Nat) : n + n * m = n * m + n * 1 := by rw [Nat.mul_one, Nat.add_comm]
theorem o_mulsub2 (n m : Nat) : n * m + n * 1 = n + n * m := (o_mulsub n m).symm
theorem o_tnd {d : Int} (u w : Nat) (h : 0 ≤ d) : u * 2 ^ w + d.toNat = (d + ((u * 2 ^ w : Nat) : Int)).toNat := by
  rw [Int.toNat_add h (Int.natCast_nonneg _), Int.toNat_natCast, Nat.add_comm]
theorem o_notlt0 {n : Nat} : ¬ (n : Int) < 0 := Int.not_lt.mpr (Int.natCast_nonneg n)
theorem o_sl {a n : Nat} (h : a < n + 1) : a ≤ n := Nat.le_of_lt_succ h
theorem KeepAll.refl (h : Heap) : KeepAll h h := fun _ _ e => e
theorem KeepAll.trans {h h' h'' : Heap} (a : KeepAll h h') (b : KeepAll h' h'') : KeepAll h h'' := fun x o e => b x o (a x o e)

section
variable {prog : Program} {w : World} {A : Around} {s : Shared} {K : Frag} {p : Program} {loose : List Str} {mean : ExcName → Option Value} {mg mb : Str → Option Value} {R : Result → Shared → Prop} {name qual : Str} {params : Arguments} {body : List Stmt} {scope : Scope} {dV kV doc pm cdv ct oc : Value} {an od : Option Addr} {osl : Array (Option Value)} {f : Addr} {args : Args} {binds : List (Str × Value)}

theorem enter_plain (X : K.In s.heap) (T : Top p loose mean mg mb s.heap)
    (ho : K.lookup f = some ⟨oc, od, .func (fnOf name qual params body scope dV kV doc pm an cdv ct), osl⟩) (hcd : codeIn K cdv qual = true) (hroom : A.depth < recursionLimit)
    (hbind : BindsTo s (fnOf name qual params body scope dV kV doc pm an cdv ct) args binds) (hloc : ∀ y ∈ binds, scope.names.lookup y.1 = some .local)
    (h : ∀ L' h₁, Fr s.heap L' h₁ (fun y => binds.reverse.lookup y) → News s.heap L' h₁ [] →
      wpAny (model prog w) (A.deeper (envOf qual scope L' f cdv)) (execs body (envOf qual scope L' f cdv))
        (fun fl s' => R (.ok (.ret (match fl with | .ret v => v | _ => .none))) s')
        (fun _ _ => False)
        { s with heap := h₁, toks := s.toks + binds.length })
    (hco : scope.isCoroutine = false) (hgen : scope.isGenerator = false) (hk : scope.kind = .function)
    (hcell : ∀ x ∈ scope.names, x.2 ≠ .cell) : codeAny (model prog w) A (.call (.ref f) args) R s := by
  refine codeAny_call_def (fd := fnX name qual params body scope [] dV kV doc pm an cdv ct) (body := body) (binds := binds) hroom (X _ _ ho) rfl T.nolimit (codeRec_of X hcd) rfl hbind hcell hloc (fun h₁ hns hk₁ => ?_) hco hgen hk
  exact wpAny_mono (h _ h₁ ⟨hns, fun b o e => hk₁ b o e, Nat.le_refl _⟩ News.nil) (fun fl s' hl => hl) fun _ _ y => y.elim

theorem enter_cells (X : K.In s.heap) (T : Top p loose mean mg mb s.heap)
    (ho : K.lookup f = some ⟨oc, od, .func (fnOf name qual params body scope dV kV doc pm an cdv ct), osl⟩) (hcd : codeIn K cdv qual = true) (hroom : A.depth < recursionLimit)
    (hbind : BindsTo s (fnOf name qual params body scope dV kV doc pm an cdv ct) args binds)
    (hkind : (binds.all fun y => scope.names.lookup y.1 == some .local || scope.names.lookup y.1 == some .cell) = true)
    (hnd : ((cellsFrom 0 scope.names []).map (·.1)).Nodup)
    (h : ∀ L' h₁ tk cells, Fr s.heap L' h₁ (bindL (envOfC qual scope L' f cdv).kindOf binds fun _ => none) → News s.heap L' h₁ cells →
      CellsAre (bindC (envOfC qual scope L' f cdv).kindOf binds fun _ => none) (cellsFrom (L' + 1) scope.names []) cells →
      wpAny (model prog w) (A.deeper (envOfC qual scope L' f cdv)) (execs body (envOfC qual scope L' f cdv))
        (fun fl s' => R (.ok (.ret (match fl with | .ret v => v | _ => .none))) s')
        (fun _ _ => False)
        { s with heap := h₁, toks := tk })
    (hco : scope.isCoroutine = false) (hgen : scope.isGenerator = false) (hk : scope.kind = .function) : codeAny (model prog w) A (.call (.ref f) args) R s := by
  refine codeAny_call_function (fd := fnX name qual params body scope [] dV kV doc pm an cdv ct) hroom (X _ _ ho) rfl hco hgen rfl (codeRec_of X hcd) (hbind _ _ _ _ ?_)
  refine wpAny_newFunctionEnv_cells hk (kindsX hkind _) fun env' he s' x => ?_
  subst he
  refine ⟨T.nolimit.keeps x.toInCall.keep, codeAny_func ?_⟩
  obtain ⟨h₁, tk, rfl, _⟩ := x.done
  have hk₁ := x.toInCall.keep
  obtain ⟨cells, NC, Y⟩ := Cl.news (h₀ := s.heap) (Nat.le_refl _) fun n c hm => ⟨x.cell n c (lookup_of_mem_nodup (cellsFrom_names scope.names 0 (s.heap.objs.size + 1) [] [] rfl ▸ hnd) hm), x.above n c hm⟩
  exact wpAny_mono (h s.heap.objs.size h₁ tk cells ⟨x.toInCall.ns, fun b o e => hk₁ b o e, Nat.le_refl _⟩ NC Y) (fun fl s' hl => hl) fun _ _ y => y.elim
end
end Mine
end
section
open PySem PySem.W PyProof.Rows PySem.Calls
namespace Mine

/-- a list of ints in a heap -/
inductive LI (h : Heap) (a : Addr) (ns : List Int) : Prop
  | mk (vs : List Value) (n : Nat) (e : h.get? a = some { cls := .type "list", data := .seq (List.toArray vs) n }) (i : IntsAre vs ns)
theorem LI.keeps {h h' : Heap} {a : Addr} {ns : List Int} (x : LI h a ns) (k : KeepAll h h') : LI h' a ns := let ⟨vs, n, e, i⟩ := x; ⟨vs, n, k _ _ e, i⟩
theorem isList_of {h : Heap} {a : Addr} {vs : List Value} {n : Nat} (e : h.get? a = some { cls := .type "list", data := .seq (List.toArray vs) n }) : h.IsList a vs.toArray := ⟨_, e, rfl, n, rfl⟩
theorem LI.isList {h : Heap} {a : Addr} {ns : List Int} (x : LI h a ns) : ∃ vs, h.IsList a vs.toArray ∧ IntsAre vs ns := let ⟨vs, _, e, i⟩ := x; ⟨vs, isList_of e, i⟩

/-- what a comprehension over a list asks of its turns and gives at its end -/
inductive ListSrc (prog : Program) (w : World) (A : Around) (env : Env) (scope : Scope) (cl : List (Str × Addr)) (x : Str) (ifs : List Expr) (elt : Expr) (p : Value → Bool) (F : Value → Value → Prop) (Q : Addr → Heap → Nat → Shared → Prop) (xv : Value) (s₁ : Shared) : Prop
  | mk (l : Addr) (items : Array Value) (e : xv = .ref l) (hl : s₁.heap.IsList l items) (hsz : items.size ≤ sizeLine)
      (htests : ∀ (C : Addr) (i : Nat) (v : Value) (s₃ : Shared) (m₃ : Str → Option Value) (E' : Value → Shared → Prop), items[i]? = some v → s₃.heap.Ns C m₃ → m₃ x = some v → KeepAll s₁.heap s₃.heap →
        wpAny (model prog w) A (forIn ifs true fun c r => if r = true then do let ok ← isTrue c (compEnvC scope cl C env) (eval c (compEnvC scope cl C env)); pure (ForInStep.yield ok) else pure (ForInStep.yield r))
          (fun ok s₄ => ok = p v ∧ Keeps s₃ s₄) E' s₃)
      (helt : ∀ (C : Addr) (i : Nat) (v : Value) (s₃ : Shared) (m₃ : Str → Option Value) (E' : Value → Shared → Prop), items[i]? = some v → p v = true → s₃.heap.Ns C m₃ → m₃ x = some v → KeepAll s₁.heap s₃.heap →
        wpAny (model prog w) A (eval elt (compEnvC scope cl C env)) (fun y s₄ => F v y ∧ Keeps s₃ s₄) E' s₃)
      (fin : ∀ D h' tk ys, s₁.heap.get? D = none → h'.PlainList D ys → Paired F (items.toList.filter p) ys.toList → KeepAll s₁.heap h' → Q D h' tk s₁)
section
variable {prog : Program} {w : World} {A : Around} {E : Value → Shared → Prop} {env : Env} {s : Shared}
theorem comp_list {elt iter : Expr} {x : Str} {px : Pos} {ifs : List Expr} {scope : Scope} {cl : List (Str × Addr)} {pos : Pos} {Q : Value → Shared → Prop} (p : Value → Bool) (F : Value → Value → Prop)
    (hh : A.handled = none) (hclos : closureFor scope env = pure cl) (hcell : ∀ y ∈ scope.names, y.2 ≠ .cell) (hkind : scope.kind = .function)
    (hnames : ∀ y ∈ scope.names, y.2 = .local → scope.names.lookup y.1 = some .local) (hx : scope.names.lookup x = some .local)
    (h : wpAny (model prog w) A (eval iter env) (ListSrc prog w A env scope cl x ifs elt p F fun D h' tk s₁ => Q (.ref D) { s₁ with heap := h', toks := tk }) E s)
    (hs : ∀ x, foldedSetIterable iter env x = pure x := by intro _; rfl) :
    wpAny (model prog w) A (eval (.ListComp elt [⟨.Name x px, iter, ifs, 0⟩] scope pos) env) Q E s := by
  refine wpAny_ListComp_free p F hclos hcell hkind hnames hx (wpAny_mono h (fun xv s₁ h₁ => ?_) fun _ _ e => e) hs
  obtain ⟨l, items, rfl, hl, hsz, htests, helt, hQ⟩ := h₁
  refine wpAny_pyIter_list hl ?_
  obtain ⟨ol, hol, _⟩ := id hl
  have hlt : l < s₁.heap.objs.size := Heap.lt_size hol
  have hne : l ≠ s₁.heap.objs.size := Nat.ne_of_lt hlt
  have W := Walks.list (prog := prog) (w := w) hh s₁.heap.objs.size l hne items
  have up : ∀ (h' : Heap), (∀ b o, b ∉ [s₁.heap.objs.size] → (s₁.heap.push { cls := .type "list_iterator", data := .fields #[.ref l, .int 0 0] }).get? b = some o → h'.get? b = some o) → KeepAll s₁.heap h' :=
    fun h' k b o e => k b o (fun hb => absurd (Heap.lt_size e) (by rw [List.mem_singleton.mp hb]; exact Nat.lt_irrefl _)) (Heap.get?_push_of_some _ e)
  refine ⟨_, _, _, _, _, _, rfl, W, hsz, ⟨⟨_, Heap.get?_push_size _ rfl, rfl, rfl⟩, hl.push _⟩, ?_, ⟨?_, ?_⟩, ?_⟩
  · intro b hb
    rw [Heap.size_push]
    simp only [List.mem_cons, List.not_mem_nil, or_false] at hb
    rcases hb with rfl | rfl
    · exact Nat.lt_succ_self _
    · exact Nat.lt_succ_of_lt hlt
  · intro C i v s₃ m₃ E' _ hP hn hm hk _
    exact htests C i v s₃ m₃ E' hP hn hm (up _ hk)
  · intro C i v s₃ m₃ E' _ hP hp hn hm hk _
    exact helt C i v s₃ m₃ E' hP hp hn hm (up _ hk)
  · intro D h' tk ys vs hD _ hpl hlen hP hF hk
    have e : vs = items.toList := by
      apply List.ext_getElem?
      intro j
      by_cases hj : j < vs.length
      · have := hP j vs[j] (by simp [hj])
        rw [List.getElem?_eq_getElem hj, ← this]; simp
      · rw [List.getElem?_eq_none (by (with_reducible exact Nat.le_of_not_lt (by assumption))), List.getElem?_eq_none (by simp; (lia))]
    subst e
    refine hQ D h' tk ys ?_ hpl hF (up _ hk)
    cases q : s₁.heap.get? D with
    | none => rfl
    | some o => rw [Heap.get?_push_of_some _ q] at hD; cases hD
end
theorem paired_ints {α : Type} {F : α → Value → Prop} {g : α → Int} (hF : ∀ v y, F v y → ∃ t, y = .int (g v) t) {vs : List α} {ys : List Value} (h : Paired F vs ys) : IntsAre ys (vs.map g) := by
  induction h with
  | nil => exact .nil
  | cons h r ih => obtain ⟨t, rfl⟩ := hF _ _ h; exact .cons _ t ih
end Mine
end
section
open PySem PySem.W PyProof.Rows PySem.Calls
namespace Mine

/-- what the calls need of a heap: the text's objects and the top -/
structure Wd (w : World) (h : Heap) : Prop where
  X : (hd.heap_39 w.params).In h
  T : ∃ p loose mean mg mb, Top p loose mean mg mb h
theorem Wd.keeps {w : World} {h h' : Heap} (x : Wd w h) (k : KeepAll h h') : Wd w h' := ⟨x.X.keeps k, let ⟨p, l, m, a, b, t⟩ := x.T; ⟨p, l, m, a, b, t.keeps k⟩⟩

theorem wd_fill (w : World) (h : Heap) (_ : OpenLaw) (e : Challenge.rw_ph0098_01 = Challenge.rw_ph0098_01) : (hd.heap_39 w.params).In h → (hd.heap_39 w.params).In h ∧ Challenge.rw_ph0098_01 = Challenge.rw_ph0098_01 := by
  k_fill
  exact fun x => ⟨x, e⟩

theorem fresh_of {h h' : Heap} {D : Addr} (k : KeepAll h h') (e : h'.get? D = none) : h.get? D = none := by
  cases q : h.get? D with
  | none => rfl
  | some o => rw [k _ _ q] at e; cases e

section
variable {prog : Program} {w : World} {A : Around} {E : Value → Shared → Prop} {s : Shared}
theorem item_list {value slice : Expr} {l : Addr} {vs : List Value} {ns : List Int} {k : Int} {u : Tok} {Q : Value → Shared → Prop}
    (hl : s.heap.IsList l vs.toArray) (hi : IntsAre vs ns) (h0 : 0 ≤ k) (h1 : k < ns.length) (hz : ns.length ≤ sizeLine) (h : ∀ t, Q (.int (ns.getD k.toNat 0) t) s)
    (hs : subscripted slice false (.ref l) (.int k u) = operate [.ref l, .int k u] (getItem (.ref l) (.int k u)) := by with_unfolding_all rfl) :
    wpAny (model prog w) A (subscriptTail value slice (.ref l) (.int k u)) Q E s := by
  have hlt : k.toNat < ns.length := by (with_reducible exact o_tlt (by assumption) (by assumption))
  obtain ⟨t, ht⟩ := hi.get k.toNat ns[k.toNat] (by simp [hlt])
  have e : ns.getD k.toNat 0 = ns[k.toNat] := by simp [List.getD, hlt]
  refine tail_any hl.typeIs slot_list_getitem.lookup (wpAny_getItem_list hl h0 ?_ (by simpa using ht) (e ▸ h t)) hs
  have := sizeLine_eq
  (lia)
end

theorem paired_map {F : Value → Value → Prop} {g : Int → Int} (hF : ∀ n t y, F (.int n t) y → ∃ t', y = .int (g n) t') {vs : List Value} {ns : List Int} {ys : List Value} (h : IntsAre vs ns) (p : Paired F vs ys) : IntsAre ys (ns.map g) := by
  induction h generalizing ys with
  | nil => cases p; exact .nil
  | cons n t r ih =>
    cases p with
    | cons h p => obtain ⟨t', rfl⟩ := hF _ _ _ h; exact .cons _ t' (ih p)

def behindF (ds os : List Int) : List Int := os.map fun i => ds.getD i.toNat 0
def sideF (one two piles w0 w1 : Int) : Int :=
  if one.fmod piles ≠ two.fmod piles then (if two.fmod piles < one.fmod piles then w0 else -w0) else if one = two then 0 else if two < one then w1 else -w1

set_option maxRecDepth 100000 in
set_option maxHeartbeats 8000000 in
theorem behind_spec {w : World} {A : Around} {s : Shared} {d o : Addr} {ds os : List Int} {Q E : Value → Shared → Prop}
  (W : Wd w s.heap) (hd0 : A.depth + 1 < recursionLimit) (hh : A.handled = none)
  (L1 : LI s.heap d ds) (L2 : LI s.heap o os) (hbd : ∀ i ∈ os, 0 ≤ i ∧ i < ds.length) (hz1 : ds.length ≤ 100) (hz2 : os.length ≤ 100)
  (ret : ∀ a tk h', KeepAll s.heap h' → s.heap.get? a = none → LI h' a (behindF ds os) → Q (.ref a) { s with heap := h', toks := tk }) :
  wpAny (model Challenge.rw_ph0098_01.row.prog w) A (call (.ref 115) [.ref d, .ref o]) Q E s := by
  obtain ⟨X, p, loose, mean, mg, mb, T⟩ := W
  refine wpAny_call ?_
  k_dflt (refine' enter_cells ?k1 ?k2 ?k6 ?k7 ?k8 ?k9 ?kB ?c1 ?_ ?c2 ?c3 ?c4; (case k1 => k_asm); (case k2 => k_asm); (case k6 => k_is); (case k7 => k_is); (case k8 => (with_reducible exact o_dp0 (by assumption))); (case k9 => exact BindsTo.of_eq rfl); (case c1 => decide); (case kB => rfl);  (case c2 => exact rfl); (case c3 => exact rfl); (case c4 => exact rfl))
  intro L' h₁ tk cells F' N' C'
  dsimp only
  obtain ⟨oc, rfl, hoc⟩ := CellsAre.one C'
  refine wpAny_execs_cons (wpAny_Return_some ?_)
  refine comp_list (fun _ => true) (fun v y => ∃ i t t', v = .int i t ∧ y = .int (ds.getD i.toNat 0) t') hh rfl (by decide) rfl (by decide) rfl ?_ (by intro _; with_unfolding_all rfl)
  obtain ⟨vo, hlo, hio⟩ := L2.isList
  refine wpAny_Name (wpAny_loadName_local (m := _) rfl rfl F'.ns (v := .ref o) rfl ?_)
  refine ⟨o, vo.toArray, rfl, hlo.at fun _ e => F'.keep _ _ e, ?_, ?_, ?_, ?_⟩
  · have := hio.length; have := sizeLine_eq; simp; (with_reducible exact o_szi (by assumption) (by assumption) (by decide))
  · intro C i v s₃ m₃ E' _ _ _ _
    exact wpAny_tests_nil ⟨rfl, _, _, rfl, fun _ _ e => e⟩
  · intro C i v s₃ m₃ E' hv _ hn hm hk
    obtain ⟨n, t, rfl, hni⟩ := hio.at i v (by simpa using hv)
    refine Subscript_ ?_
    refine wpAny_Name (wpAny_loadName_cell (c := L' + 1) (v := .ref d) rfl rfl rfl ⟨oc, hk _ _ (N'.get (.head _)), hoc⟩ ?_)
    refine wpAny_Name (wpAny_loadName_local rfl rfl hn hm ?_)
    obtain ⟨vd, hld, hid⟩ := L1.isList
    have hb := hbd n (List.mem_of_getElem? hni)
    refine item_list (hld.at fun _ e => hk _ _ (F'.keep _ _ e)) hid hb.1 hb.2 (by have := sizeLine_eq; (with_reducible exact o_szn (by assumption) (by decide))) fun t' => ?_
    exact ⟨⟨n, t, t', rfl, rfl⟩, _, _, rfl, fun _ _ e => e⟩
  · intro D h' tk' ys hD hpl hP hk
    refine ret D tk' h' (fun b o e => hk _ _ (F'.keep _ _ e)) (fresh_of F'.keep hD) ?_
    obtain ⟨n, e⟩ := hpl
    rw [show List.filter (fun _ => true) vo.toArray.toList = vo from by simp] at hP
    refine ⟨ys.toList, n, by simpa using e, paired_map (g := fun i => ds.getD i.toNat 0) ?_ hio hP⟩
    rintro n t y ⟨i, t1, t', e1, e2⟩
    cases e1
    exact ⟨t', e2⟩

set_option maxRecDepth 100000 in
set_option maxHeartbeats 8000000 in
theorem side_spec {w : World} {A : Around} {s : Shared} {l : Addr} {one two piles w0 w1 : Int} {t1 t2 t3 : Tok} {Q E : Value → Shared → Prop}
  (W : Wd w s.heap) (hd0 : A.depth + 1 < recursionLimit) (hh : A.handled = none) (hp : piles ≠ 0)
  (hL : LI s.heap l [w0, w1])
  (ret : ∀ t tk h', KeepAll s.heap h' → Q (.int (sideF one two piles w0 w1) t) { s with heap := h', toks := tk }) :
  wpAny (model Challenge.rw_ph0098_01.row.prog w) A (call (.ref 110) [.int one t1, .int two t2, .int piles t3, .ref l]) Q E s := by
  obtain ⟨X, p, loose, mean, mg, mb, T⟩ := W
  obtain ⟨vl, hll, hil⟩ := hL.isList
  refine wpAny_call ?_
  k_dflt (refine' enter_plain ?k1 ?k2 ?k6 ?k7 ?k8 ?k9 ?kB ?_ ?c2 ?c3 ?c4 ?c5; (case k1 => k_asm); (case k2 => k_asm); (case k6 => k_is); (case k7 => k_is); (case k8 => (with_reducible exact o_dp0 (by assumption))); (case k9 => exact BindsTo.of_eq rfl); (case c5 => decide); (case kB => exact locs rfl); (case c2 => exact rfl); (case c3 => exact rfl); (case c4 => exact rfl))
  intro L' h₁ F' N'
  dsimp only
  k_steps
  all_goals dsimp only
  all_goals (refine cast (congrArg (fun r => Q (.int r _) _) ?_) (ret _ _ _ F'.keep))
  all_goals (unfold sideF; simp [*])
end Mine
end
section
open PySem PySem.W PyProof.Rows PySem.Calls
namespace Mine

/-- what a turn leaves when it goes on -/
inductive TurnN (h₀ : Heap) (L : Addr) (I : Addr) (io : Obj) (Jn : (Str → Option Value) → List (Addr × Obj) → Prop) (s₁ : Shared) (s₂ : Shared) : Prop
  | mk (h' : Heap) (tk : Nat) (m' : Str → Option Value) (news' : List (Addr × Obj)) (e : s₂ = { s₁ with heap := h', toks := tk }) (F : Fr h₀ L h' m') (N : News h₀ L h' ((I, io) :: news')) (hne : ∀ p ∈ news', p.1 ≠ I) (hJ : Jn m' news')
/-- the state behind a turn -/
def Turn (h₀ : Heap) (L : Addr) (I : Addr) (io : Obj) (Jn : (Str → Option Value) → List (Addr × Obj) → Prop) (s₁ : Shared) (Q : Flow → Shared → Prop) (f : Flow) (s₂ : Shared) : Prop :=
  match f with
  | .ret v => Q (.ret v) s₂
  | .brk => Q .next s₂
  | _ => TurnN h₀ L I io Jn s₁ s₂

theorem Turn.of {h₀ : Heap} {L I : Addr} {io : Obj} {Jn : (Str → Option Value) → List (Addr × Obj) → Prop} {s₁ s₂ : Shared} {Q : Flow → Shared → Prop} {f : Flow} {h0 : Heap} (x : Turn h₀ L I io Jn s₁ Q f s₂) : Turn h₀ L I io Jn { s₁ with heap := h0 } Q f s₂ :=
  match f, x with
  | .ret _, x => x
  | .brk, x => x
  | .next, ⟨a, b, c, d, e, f, g, h, i⟩ => ⟨a, b, c, d, e, f, g, h, i⟩
  | .cont, ⟨a, b, c, d, e, f, g, h, i⟩ => ⟨a, b, c, d, e, f, g, h, i⟩
/-- what holds between two turns -/
inductive LoopI (h₀ : Heap) (L I : Addr) (n : Nat) (St : Nat → Heap → Prop) (J : Nat → (Str → Option Value) → List (Addr × Obj) → Prop) (s : Shared) (k : Nat) (s' : Shared) : Prop
  | mk (h' : Heap) (tk : Nat) (m' : Str → Option Value) (news' : List (Addr × Obj)) (i : Nat) (e : s' = { s with heap := h', toks := tk }) (st : St i h') (F : Fr h₀ L h' m') (N : News h₀ L h' news') (hne : ∀ p ∈ news', p.1 ≠ I) (hJ : J i m' news') (hi : i ≤ n) (hk : k = n + 1 - i)
theorem loop_lt {n i : Nat} (h : i < n) : n + 1 - (i + 1) < n + 1 - i := by rw [Nat.add_sub_add_right, Nat.succ_sub (Nat.le_of_lt h)]; exact Nat.lt_succ_self _
/-- no code object -/
def NotCode (o : Obj) : Prop := ∀ vs qn t, o.data = .fields vs → vs[1]? = some (.str qn t) → False

inductive RangePN (prog : Program) (w : World) (A : Around) (env : Env) (h₀ : Heap) (x : Str) (body : List Stmt) (Q : Flow → Shared → Prop) (xv : Value) (s₁ : Shared) : Prop
  | mk (r : Addr) (a b : Int) (t u v : Tok) (n : Nat) (m : Str → Option Value) (news : List (Addr × Obj)) (J : Nat → (Str → Option Value) → List (Addr × Obj) → Prop) (e : xv = .ref r) (hr : IsRange s₁.heap r a b 1 t u v) (hs : Builtin.Range.small a b 1 = true) (hn : Builtin.Range.rangeSize a b 1 = ((n : Nat) : Int))
      (F : Fr h₀ env.locals s₁.heap m) (N : News h₀ env.locals s₁.heap news) (h0 : J 0 m news)
      (turn : ∀ i t m₁ news₁ h tk io I, NotCode io → i < n → J i m₁ news₁ → (∀ p ∈ news₁, p.1 ≠ I) → Fr h₀ env.locals h (fun y => if y = x then some (.int (a + (i : Int)) t) else m₁ y) → News h₀ env.locals h ((I, io) :: news₁) →
        wpAny (model prog w) A (execs body env) (Turn h₀ env.locals I io (J (i + 1)) s₁ Q) (fun _ _ => False) { s₁ with heap := h, toks := tk })
      (done : ∀ h tk m' news', Fr h₀ env.locals h m' → News h₀ env.locals h news' → J n m' news' → Q .next { s₁ with heap := h, toks := tk })
inductive RangeP (prog : Program) (w : World) (A : Around) (env : Env) (h₀ : Heap) (x : Str) (body : List Stmt) (Q : Flow → Shared → Prop) (xv : Value) (s₁ : Shared) : Prop
  | mk (r : Addr) (a b : Int) (t u v : Tok) (n : Nat) (m : Str → Option Value) (news : List (Addr × Obj)) (J : Nat → (Str → Option Value) → List (Addr × Obj) → Prop) (e : xv = .ref r) (hr : IsRange s₁.heap r a b 1 t u v) (hs : Builtin.Range.small a b 1 = true) (hn : Builtin.Range.rangeSize a b 1 = ((n : Nat) : Int))
      (F : Fr h₀ env.locals s₁.heap m) (N : News h₀ env.locals s₁.heap news) (h0 : J 0 m news)
      (turn : ∀ i t m₁ news₁ h tk io I, i < n → J i m₁ news₁ → (∀ p ∈ news₁, p.1 ≠ I) → Fr h₀ env.locals h (fun y => if y = x then some (.int (a + (i : Int)) t) else m₁ y) → News h₀ env.locals h ((I, io) :: news₁) →
        wpAny (model prog w) A (execs body env) (Turn h₀ env.locals I io (J (i + 1)) s₁ Q) (fun _ _ => False) { s₁ with heap := h, toks := tk })
      (done : ∀ h tk m' news', Fr h₀ env.locals h m' → News h₀ env.locals h news' → J n m' news' → Q .next { s₁ with heap := h, toks := tk })
inductive RevP (prog : Program) (w : World) (A : Around) (env : Env) (h₀ : Heap) (x : Str) (body : List Stmt) (Q : Flow → Shared → Prop) (xv : Value) (s₁ : Shared) : Prop
  | mk (I l : Addr) (items : Array Value) (m : Str → Option Value) (news : List (Addr × Obj)) (fpk : List (Addr × Obj)) (J : Nat → (Str → Option Value) → List (Addr × Obj) → Prop) (e : xv = .ref I) (hI : s₁.heap.get? I = some (revObj l ((items.size : Int) - 1))) (hl : s₁.heap.IsList l items) (hin : (∃ o, h₀.get? l = some o) ∨ ∃ o, (l, o) ∈ fpk)
      (hI0 : h₀.get? I = none) (F : Fr h₀ env.locals s₁.heap m) (N : News h₀ env.locals s₁.heap news) (hnI : ∀ p ∈ news, p.1 ≠ I) (hJk : ∀ i m news, J i m news → ∀ p ∈ fpk, p ∈ news) (h0 : J 0 m news)
      (turn : ∀ i v m₁ news₁ h tk io, i < items.size → items[items.size - 1 - i]? = some v → J i m₁ news₁ → (∀ p ∈ news₁, p.1 ≠ I) → Fr h₀ env.locals h (fun y => if y = x then some v else m₁ y) → News h₀ env.locals h ((I, io) :: news₁) →
        wpAny (model prog w) A (execs body env) (Turn h₀ env.locals I io (J (i + 1)) s₁ Q) (fun _ _ => False) { s₁ with heap := h, toks := tk })
      (done : ∀ h tk m' news', Fr h₀ env.locals h m' → News h₀ env.locals h news' → J items.size m' news' → Q .next { s₁ with heap := h, toks := tk })

section
variable {prog : Program} {w : World} {A : Around} {s : Shared} {env : Env} {h₀ : Heap}

theorem loop_fr {R : Result → Shared → Prop} {target : Expr} {body : List Stmt} {I : Addr} {fp : List Addr} {n : Nat} {P : Nat → Value → Prop} {St : Nat → Heap → Prop} {m : Str → Option Value}
    {news : List (Addr × Obj)} (W : Walks prog w A I fp [I] n P St) (fpk : List (Addr × Obj)) (hfp : ∀ b ∈ fp, b = I ∨ (∃ o, h₀.get? b = some o) ∨ ∃ o, (b, o) ∈ fpk) (ht : ∀ v, letOwnedTupleGo target (.ref I) v = pure ())
    (hLf : env.locals ∉ fp) (hwr : h₀.get? I = none) (hnw : ∀ p ∈ news, p.1 ≠ I)
    (hthere : ∀ i h, St i h → ∃ o, h.get? I = some o) (hst : St 0 s.heap) (F : Fr h₀ env.locals s.heap m) (N : News h₀ env.locals s.heap news)
    (J : Nat → (Str → Option Value) → List (Addr × Obj) → Prop) (hJk : ∀ i m news, J i m news → ∀ p ∈ fpk, p ∈ news) (h0 : J 0 m news)
    (step : ∀ i v m₁ news₁ s₁ io, (∃ h tk, s₁ = { s with heap := h, toks := tk }) → i < n → P i v → J i m₁ news₁ → (∀ p ∈ news₁, p.1 ≠ I) → St (i + 1) s₁.heap →
      Fr h₀ env.locals s₁.heap m₁ → News h₀ env.locals s₁.heap ((I, io) :: news₁) →
      wpAny (model prog w) A (assign target env v) (fun _ s₂ => wpAny (model prog w) A (execs body env) (Turn h₀ env.locals I io (J (i + 1)) s (fun f s' => R (.ok f) s')) (fun _ _ => False) s₂) (fun _ _ => False) s₁)
    (hR : ∀ h' tk m' news', Fr h₀ env.locals h' m' → News h₀ env.locals h' news' → (∀ p ∈ news', p.1 ≠ I) → J n m' news' → R (.ok .next) { s with heap := h', toks := tk }) :
    codeAny (model prog w) A (.forLoop target (.ref I) body [] env) R s := by
  have hLI : env.locals ≠ I := fun h => hLf (W.sub _ (List.mem_singleton.mpr h))
  refine codeAny_forLoop
    (LoopI h₀ env.locals I n St J s) ?_ (n + 1)
    ⟨s.heap, s.toks, m, news, 0, rfl, hst, F, N, hnw, h0, Nat.zero_le _, rfl⟩ ht
  rintro k s' ⟨h', tk, m', news', i, rfl, hst', F', N', hnw', hJ, hi, rfl⟩
  have next : ∀ h₁ : Heap, (∀ b o, b ∉ [I] → h'.get? b = some o → h₁.get? b = some o) → Fr h₀ env.locals h₁ m' ∧ News h₀ env.locals h₁ news' := fun h₁ hk₁ =>
    ⟨⟨F'.ns.at' fun o e => hk₁ _ o (fun h => hLI (List.mem_singleton.mp h)) e, fun b o e => hk₁ b o (fun h => by rw [List.mem_singleton.mp h, hwr] at e; cases e) (F'.keep b o e), F'.above⟩,
      fun p hp => ⟨hk₁ _ _ (fun h => hnw' p hp (List.mem_singleton.mp h)) (N' p hp).1, (N' p hp).2⟩⟩
  by_cases hlt : i < n
  · refine W.item i _ _ _ hlt hst' fun v h₁ tk₁ hP hst₁ hk₁ => ?_
    obtain ⟨F₁, N₁⟩ := next h₁ hk₁
    obtain ⟨io, hio⟩ := hthere _ _ hst₁
    have Nown : News h₀ env.locals h₁ ((I, io) :: news') := fun p hp => by
      rcases List.mem_cons.mp hp with rfl | hp
      · exact ⟨hio, Ne.symm hLI, hwr⟩
      · exact N₁ p hp
    refine wpAny_mono (step i v m' news' { s with heap := h₁, toks := tk₁ } io ⟨_, _, rfl⟩ hlt hP hJ hnw' hst₁ F₁ Nown) (fun _ s₂ h₂ => ?_) fun _ _ e => e.elim
    refine wpAny_mono h₂ (fun f s₃ h₃ => ?_) fun _ _ e => e.elim
    have fin : ∀ {s₃ : Shared}, TurnN h₀ env.locals I io (J (i + 1)) s s₃ → ∃ m, m < n + 1 - i ∧ LoopI h₀ env.locals I n St J s m s₃ := by
      rintro s₃ ⟨h₃', tk₃, m₂, news₂, rfl, F₃, N₃, ha₃, hJ₃⟩
      refine ⟨n + 1 - (i + 1), loop_lt hlt, h₃', tk₃, m₂, news₂, i + 1, rfl, ?_, F₃, fun p hp => N₃ p (.tail _ hp), ha₃, hJ₃, hlt, rfl⟩
      refine W.frame _ _ _ hst₁ fun b hb o e => ?_
      rcases hfp b hb with rfl | ⟨o₀, hn⟩ | ⟨o₀, hn⟩
      · rw [hio] at e; cases e; exact (N₃ _ (.head _)).1
      rotate_left
      · have e1 := (N₁ _ (hJk _ _ _ hJ _ hn)).1
        have e2 := (N₃ _ (.tail _ (hJk _ _ _ hJ₃ _ hn))).1
        dsimp only at e1 e2
        rw [e] at e1; cases e1; exact e2
      · have : o₀ = o := by have := F₁.keep b o₀ hn; rw [e] at this; exact (Option.some.inj this).symm
        exact this ▸ F₃.keep b o₀ hn
    cases f with
    | ret v => exact h₃
    | brk => exact h₃
    | cont => exact fin h₃
    | next => exact fin h₃
  · have hin : i = n := Nat.le_antisymm hi (Nat.le_of_not_lt hlt)
    subst hin
    refine W.done _ _ _ hst' fun h₁ tk₁ hk₁ => wpAny_execs_nil ?_
    obtain ⟨F₁, N₁⟩ := next h₁ hk₁
    exact hR h₁ tk₁ m' news' F₁ N₁ hnw' hJ

/-- the same loop, the iterator told to be no code -/
theorem range_forN {Q : Flow → Shared → Prop} {x : Str} {px pos : Pos} {iter : Expr} {body : List Stmt}
    (hh : A.handled = none) (hx : env.kindOf x = some .local) (hp : (env.scope.kind == .class || (env.scope.kind == .module && env.locals != env.globals)) = false)
    (h : wpAny (model prog w) A (eval iter env) (RangePN prog w A env h₀ x body Q) (fun _ _ => False) s)
    (hs : ∀ x, foldedSetIterable iter env x = pure x := by intro _; rfl) :
    wpAny (model prog w) A (exec (.For (.Name x px) iter body [] pos) env) Q (fun _ _ => False) s := by
  refine wpAny_For (wpAny_mono h (fun xv s₁ h₁ => ?_) fun _ _ e => e) hs
  obtain ⟨r, a, b, t, u, v, n, m, news, J, rfl, hr, hsm, hn, F, N, h0, turn, done⟩ := h₁
  refine wpAny_pyIter_range hr hsm ?_
  have W := (Walks.range (prog := prog) (w := w) hh s₁.heap.objs.size a 1 n).bound
  refine loop_fr (R := fun r s' => match r with | .ok f => Q f s' | .error e => cameBackBy (model prog w) A env (fun _ _ => False) e s') W [] (fun b hb => .inl (List.mem_singleton.mp hb)) (fun _ => rfl) ?_ (next_is_new F) ?_ (fun i h st => ⟨_, st⟩)
    (by show IsRangeIter _ _ _ _ _; rw [hn]; simpa using Heap.get?_push_size _ rfl) (F.push _) (fun p hp => ⟨Heap.get?_push_of_some _ (N p hp).1, (N p hp).2⟩) J (fun _ _ _ _ _ h => nomatch h) h0 ?_ ?_
  · intro hm
    exact absurd F.ns.lt ((List.mem_singleton.mp hm) ▸ Nat.lt_irrefl _)
  · intro p hp hI
    exact absurd (Heap.lt_size (N p hp).1) (hI ▸ Nat.lt_irrefl _)
  · rintro i v m₁ news₁ s₂ io ⟨h₂, tk₂, rfl⟩ hi ⟨_, t', rfl⟩ hJ hne hst F₁ N₁
    rw [Int.mul_one]
    have hnc : NotCode io := by
      have e : h₂.get? s₁.heap.objs.size = some _ := hst
      have e2 := (N₁ _ (.head _)).1
      dsimp only at e2
      rw [e] at e2; cases e2
      intro vs qn t e3 e4
      cases e3
      simp [rawInt] at e4
    refine wpAny_assign_Name (wpAny_storeName_local hx F₁.ns (fun h₃ hn₃ hs₃ => ?_) hp)
    exact wpAny_mono (turn i t' m₁ news₁ h₃ _ io _ hnc hi hJ hne (F₁.set hn₃ hs₃) (N₁.set hs₃)) (fun f s₄ h₄ => h₄.of) fun _ _ e => e
  · intro h' tk m' news' F' N' _ hJ
    exact done h' tk m' news' F' N' hJ

/-- for x in (a range object of n ints from a on) -/
theorem range_for {Q : Flow → Shared → Prop} {x : Str} {px pos : Pos} {iter : Expr} {body : List Stmt}
    (hh : A.handled = none) (hx : env.kindOf x = some .local) (hp : (env.scope.kind == .class || (env.scope.kind == .module && env.locals != env.globals)) = false)
    (h : wpAny (model prog w) A (eval iter env) (RangeP prog w A env h₀ x body Q) (fun _ _ => False) s)
    (hs : ∀ x, foldedSetIterable iter env x = pure x := by intro _; rfl) :
    wpAny (model prog w) A (exec (.For (.Name x px) iter body [] pos) env) Q (fun _ _ => False) s :=
  range_forN hh hx hp (wpAny_mono h (fun _ _ h₁ => match h₁ with | ⟨r, a, b, t, u, v, n, m, news, J, e, hr, hsm, hn, F, N, h0, turn, done⟩ => ⟨r, a, b, t, u, v, n, m, news, J, e, hr, hsm, hn, F, N, h0, fun i t m₁ news₁ h tk io I _ => turn i t m₁ news₁ h tk io I, done⟩) fun _ _ e => e) hs

theorem list_not_locals {h : Heap} {l L : Addr} {items : Array Value} {m : Str → Option Value} (hl : h.IsList l items) (hn : h.Ns L m) : L ≠ l := by
  rintro rfl
  obtain ⟨o, e1, _, n, d1⟩ := hl
  obtain ⟨o', es, ep, e2, d2, _⟩ := hn
  rw [e1] at e2; cases e2; rw [d1] at d2; cases d2

/-- for x in reversed(a list that stands through the loop) -/
theorem rev_for {Q : Flow → Shared → Prop} {x : Str} {px pos : Pos} {iter : Expr} {body : List Stmt}
    (hh : A.handled = none) (hx : env.kindOf x = some .local) (hp : (env.scope.kind == .class || (env.scope.kind == .module && env.locals != env.globals)) = false)
    (h : wpAny (model prog w) A (eval iter env) (RevP prog w A env h₀ x body Q) (fun _ _ => False) s)
    (hs : ∀ x, foldedSetIterable iter env x = pure x := by intro _; rfl) :
    wpAny (model prog w) A (exec (.For (.Name x px) iter body [] pos) env) Q (fun _ _ => False) s := by
  refine wpAny_For (wpAny_mono h (fun xv s₁ h₁ => ?_) fun _ _ e => e) hs
  obtain ⟨I, l, items, m, news, fpk, J, rfl, hI, hls, hin, hI0, F, N, hnI, hJk, h0, turn, done⟩ := h₁
  have hLl := list_not_locals hls F.ns
  have hLI : env.locals ≠ I := fun e => by
    obtain ⟨o', es, ep, e2, d2, _⟩ := F.ns
    rw [e, hI] at e2; cases e2; cases d2
  have hne : l ≠ I := fun e => by
    obtain ⟨o, e1, hc, _⟩ := hls
    rw [e, hI] at e1; cases e1; exact absurd hc (by unfold revObj; intro h; injection h with h; exact absurd h (by decide))
  have hit : s₁.heap.IsRevIter I l ((items.size : Int) - 1) := ⟨_, hI, rfl, rfl⟩
  refine wpAny_pyIter_revIter hit ?_
  have W := Walks.listRev (prog := prog) (w := w) hh I l hne items
  refine loop_fr (R := fun r s' => match r with | .ok f => Q f s' | .error e => cameBackBy (model prog w) A env (fun _ _ => False) e s') W fpk ?_ (fun _ => rfl) ?_ hI0 hnI ?_ ?_ F N J hJk h0 ?_ ?_
  · intro b hb
    rcases List.mem_cons.mp hb with e | hb
    · exact .inl e
    · exact .inr ((List.mem_singleton.mp hb) ▸ hin)
  · intro hm
    rcases List.mem_cons.mp hm with e | hm
    · exact hLI e
    · exact hLl (List.mem_singleton.mp hm)
  · exact fun i h st => let ⟨o, e, _⟩ := st.2.1; ⟨o, e⟩
  · exact ⟨Nat.zero_le _, by simpa using hit, hls⟩
  · rintro i v m₁ news₁ s₂ io ⟨h₂, tk₂, rfl⟩ hi hP hJ hne' _ F₁ N₁
    refine wpAny_assign_Name (wpAny_storeName_local hx F₁.ns (fun h₃ hn₃ hs₃ => ?_) hp)
    exact wpAny_mono (turn i v m₁ news₁ h₃ _ io hi hP hJ hne' (F₁.set hn₃ hs₃) (N₁.set hs₃)) (fun f s₄ h₄ => h₄.of) fun _ _ e => e
  · intro h' tk m' news' F' N' _ hJ
    exact done h' tk m' news' F' N' hJ
end
end Mine
end
section
open PySem PySem.W PyProof.Rows PySem.Calls
namespace Mine
/-- an object is a list of these ints -/
inductive LIo (o : Obj) (ns : List Int) : Prop
  | mk (vs : List Value) (n : Nat) (e : o = W.listOf (List.toArray vs) n) (i : IntsAre vs ns)
theorem LIo.push {vs : List Value} {n : Nat} {ns : List Int} {x : Int} {t : Tok} (h : IntsAre vs ns) : LIo (W.listOf (vs.toArray.push (.int x t)) (n + 1)) (ns ++ [x]) := ⟨vs ++ [.int x t], n + 1, by simp [W.listOf], h.append (.cons _ _ .nil)⟩
theorem map_again {x : Str} {a u : Option Value} {m : Str → Option Value} : (fun y => if y = x then a else (fun y => if y = x then u else m y) y) = fun y => if y = x then a else m y := by
  funext y; by_cases h : y = x <;> simp [h]
theorem LI.of_news {h₀ h : Heap} {L D : Addr} {o : Obj} {ns : List Int} {news : List (Addr × Obj)} (N : News h₀ L h news) (hm : (D, o) ∈ news) (x : LIo o ns) : LI h D ns := let ⟨vs, n, e, i⟩ := x; ⟨vs, n, (N.get hm).trans (by rw [e]), i⟩
section
variable {prog : Program} {w : World} {A : Around} {E : Value → Shared → Prop} {s : Shared}
end
end Mine
end
local macro_rules | `(tactic| size_fits) => `(tactic| first | with_reducible assumption | fail "mine: no size")
section
open PySem PySem.W PyProof.Rows PySem.Calls
namespace Mine
theorem wd_fill2 (w : World) (h : Heap) (_ : OpenLaw) (e : Challenge.rw_ph0098_01 = Challenge.rw_ph0098_01) : (hd.heap_39 w.params).In h → (hd.heap_39 w.params).In h ∧ Challenge.rw_ph0098_01 = Challenge.rw_ph0098_01 := by
  k_fill
  exact fun x => ⟨x, e⟩
def powsGo (factor base : Int) : Nat → List Int → List Int
  | 0, _ => []
  | k + 1, acc => if (acc.getLastD 1 * factor).fmod base = 1 then acc else powsGo factor base k (acc ++ [(acc.getLastD 1 * factor).fmod base])
def powersF (factor base : Int) : List Int := powsGo factor base base.toNat [1]
inductive PowJ (D : Addr) (base factor : Int) (t1 t2 : Tok) (i : Nat) (m : Str → Option Value) (news : List (Addr × Obj)) : Prop
  | mk (u : Option Value) (o : Obj) (acc : List Int) (em : m = (fun y => if y = Str.ofString "turn" then u else if y = Str.ofString "powers" then some (Value.ref D) else [(Str.ofString "base", Value.int base t2), (Str.ofString "factor", Value.int factor t1)].lookup y)) (en : news = [(D, o)])
    (hv : LIo o acc) (hlen : acc.length = i + 1) (hacc : ∀ x ∈ acc, 0 ≤ x ∧ x < 100) (hpow : powsGo factor base (base.toNat - i) acc = powersF factor base)
set_option maxRecDepth 100000 in
set_option maxHeartbeats 4000000 in
theorem powers_spec {w : World} {A : Around} {s : Shared} {factor base : Int} {t1 t2 : Tok} {Q E : Value → Shared → Prop}
  (W : Wd w s.heap) (hd0 : A.depth + 1 < recursionLimit) (hh : A.handled = none) (hb : 0 < base) (hb2 : base < 100) (hf1 : -100 < factor) (hf2 : factor < 100)
  (ret : ∀ a tk h', KeepAll s.heap h' → s.heap.get? a = none → LI h' a (powersF factor base) → Q (.ref a) { s with heap := h', toks := tk }) :
  wpAny (model Challenge.rw_ph0098_01.row.prog w) A (call (.ref 129) [.int factor t1, .int base t2]) Q E s := by
  obtain ⟨X, p, loose, mean, mg, mb, T⟩ := W
  refine wpAny_call ?_
  k_dflt (refine' enter_plain (binds := [(Str.ofString "factor", .int factor t1), (Str.ofString "base", .int base t2)]) ?k1 ?k2 ?k6 ?k7 ?k8 ?k9 ?kB ?_ ?c2 ?c3 ?c4 ?c5; (case k1 => k_asm); (case k2 => k_asm); (case k6 => k_is); (case k7 => k_is); (case k8 => (with_reducible exact o_dp0 (by assumption))); (case k9 => exact BindsTo.of_eq rfl); (case c5 => decide); (case kB => exact locs rfl); (case c2 => exact rfl); (case c3 => exact rfl); (case c4 => exact rfl))
  intro L' h₁ F' N'
  dsimp only
  (repeat' (first | (k_unfold; (try dsimp only)) | ((fail_if_success k_end); (fail_if_success (with_reducible show wpAny _ _ (exec (PySem.Stmt.For _ _ _ _ _) _) _ _ _)); walk1) | (dsimp only; (fail_if_success k_end); (fail_if_success (with_reducible show wpAny _ _ (exec (PySem.Stmt.For _ _ _ _ _) _) _ _ _)); walk1)))
  rename_i tk0 D h2 _ h3 F N
  refine range_for (h₀ := s.heap) hh rfl rfl ?_ (by intro _; with_unfolding_all rfl)
  (repeat' (first | (k_unfold; (try dsimp only)) | ((fail_if_success k_end); (fail_if_success (with_reducible show wpAny _ _ (exec (PySem.Stmt.For _ _ _ _ _) _) _ _ _)); walk1) | (dsimp only; (fail_if_success k_end); (fail_if_success (with_reducible show wpAny _ _ (exec (PySem.Stmt.For _ _ _ _ _) _) _ _ _)); walk1)))
  rename IsRange _ _ _ _ _ _ _ _ => hR
  rename Fr _ _ _ _ => F4
  rename News _ _ _ _ => N4
  refine ⟨_, 0, base, _, _, _, base.toNat, _, _, PowJ D base factor t1 t2, rfl, hR, small_one (by (with_reducible decide)) (by (with_reducible decide)) (by (lia)) (by (with_reducible exact Int.lt_of_lt_of_le (by assumption) (by decide))), ?_, F4, N4, ?_, ?_, ?_⟩
  · rw [rangeSize_nat]; simp
  · refine ⟨none, _, [1], ?_, rfl, ⟨[_], 0, rfl, .cons _ _ .nil⟩, rfl, by simp, rfl⟩
    funext y
    by_cases h : y = Str.ofString "turn"
    · subst h; rfl
    · rw [if_neg h]; rfl
  · rintro i t m₁ news₁ h tk io I hi ⟨u, o, acc, rfl, rfl, ⟨vs, n, rfl, hv⟩, hlen, hacc, hpow⟩ hne Fi Ni
    have hDI : D ≠ I := hne _ (.head _)
    have hz := sizeLine_eq
    have hvz : vs.toArray.size ≤ sizeLine := by have := hv.length; simp; (with_reducible exact o_szlt1 (by assumption) (by assumption) (by assumption) (by assumption) (by decide))
    have hlast : 0 ≤ acc.getLastD 1 ∧ acc.getLastD 1 < 100 := hacc _ (by cases acc with | nil => simp at hlen | cons a r => rw [List.getLastD_cons]; exact List.getLastD_mem_cons ..)
    have key := hpow
    rw [show base.toNat - i = (base.toNat - (i + 1)) + 1 by (with_reducible exact o_psub' (by assumption))] at key
    unfold powsGo at key
    obtain ⟨hl1, hl2⟩ := hlast
    have hgl : acc.getD (-1 + (acc.length : Int)).toNat 0 = acc.getLastD 1 := by
      rw [List.getLastD_eq_getLast?, List.getLast?_eq_getElem?, show (-1 + (acc.length : Int)).toNat = acc.length - 1 by (with_reducible exact o_m1 _)]
      simp [List.getD, show acc.length - 1 < acc.length by (with_reducible exact o_pred (by assumption))]
    (repeat' (first | (k_unfold; (try dsimp only)) | ((fail_if_success k_end); (fail_if_success (with_reducible show wpAny _ _ (exec (PySem.Stmt.For _ _ _ _ _) _) _ _ _)); walk1) | (dsimp only; (fail_if_success k_end); (fail_if_success (with_reducible show wpAny _ _ (exec (PySem.Stmt.For _ _ _ _ _) _) _ _ _)); walk1)))
    · rename _ = 1 => h1
      rw [hgl] at h1
      rw [if_pos h1] at key
      dsimp only [Turn]
      exact ret D _ _ Fi.keep (Ni.fresh (.tail _ (.head _))) ⟨vs, n, Ni.get (.tail _ (.head _)), key ▸ hv⟩
    · rename _ ≠ 1 => h1
      rw [hgl] at h1 ⊢
      rw [if_neg h1] at key
      refine append_K Fi Ni (Upd.tail (Ne.symm hDI) (Upd.head (List.forall_mem_nil _))) (fun h5 F5 N5 => ?_) hvz
      (repeat' (first | (k_unfold; (try dsimp only)) | ((fail_if_success k_end); (fail_if_success (with_reducible show wpAny _ _ (exec (PySem.Stmt.For _ _ _ _ _) _) _ _ _)); walk1) | (dsimp only; (fail_if_success k_end); (fail_if_success (with_reducible show wpAny _ _ (exec (PySem.Stmt.For _ _ _ _ _) _) _ _ _)); walk1)))
      refine ⟨h5, _, _, [(D, _)], rfl, F5, N5, (fun p hp => by rw [List.mem_singleton.mp hp]; exact hDI), _, _, _, map_again, rfl, LIo.push hv, by simp [hlen], ?_, key⟩
      intro x hx
      rcases List.mem_append.mp hx with hx | hx
      · exact hacc x hx
      · rw [List.mem_singleton.mp hx]
        exact ⟨Int.fmod_nonneg_of_pos _ hb, Int.lt_trans (Int.fmod_lt_of_pos _ hb) hb2⟩
  · rintro h tk m' news' Fi Ni ⟨u, o, acc, rfl, rfl, hv, hlen, hacc, hpow⟩
    have N0 : News s.heap L' h [] := News.nil
    (repeat' (first | (k_unfold; (try dsimp only)) | ((fail_if_success k_end); (fail_if_success (with_reducible show wpAny _ _ (exec (PySem.Stmt.For _ _ _ _ _) _) _ _ _)); walk1) | (dsimp only; (fail_if_success k_end); (fail_if_success (with_reducible show wpAny _ _ (exec (PySem.Stmt.For _ _ _ _ _) _) _ _ _)); walk1)))
    rename Fr _ _ _ _ => F6
    rename News _ _ _ _ => N6
    refine ret _ _ _ F6.keep (N6.fresh (.head _)) ⟨[], 0, N6.get (.head _), ?_⟩
    rw [Nat.sub_self] at hpow
    rw [← hpow]; exact .nil
end Mine
end
section
open PySem PySem.W PyProof.Rows PySem.Calls
namespace Mine
theorem wd_fill_due (w : World) (h : Heap) (_ : OpenLaw) (e : Challenge.rw_ph0098_01 = Challenge.rw_ph0098_01) : (hd.heap_39 w.params).In h → (hd.heap_39 w.params).In h ∧ Challenge.rw_ph0098_01 = Challenge.rw_ph0098_01 := by
  k_fill
  exact fun x => ⟨x, e⟩

theorem News.add {h₀ h h' : Heap} {L a : Addr} {m : Str → Option Value} {o : Obj} {news : List (Addr × Obj)} (F : Fr h₀ L h m) (N : News h₀ L h news) (hk : KeepAll h h') (hf : h.get? a = none) (hg : h'.get? a = some o) : News h₀ L h' ((a, o) :: news) := by
  intro p hp
  rcases List.mem_cons.mp hp with rfl | hp
  · refine ⟨hg, fun e => ?_, fresh_of F.keep hf⟩
    obtain ⟨oL, _, _, hL, _⟩ := F.ns
    have e' : a = L := e
    rw [e', hL] at hf; cases hf
  · exact N.grown hk p hp

def dueBase (size : Int) (same : Bool) : Int := if same then size - 1 else size + 1
def dueScale (size factor : Int) (same : Bool) (times : Int) : Int := (powersF factor (dueBase size same)).getD (times.fmod ((powersF factor (dueBase size same)).length : Int)).toNat 0
def dueIdx (size factor : Int) (same : Bool) (times place : Int) : Int :=
  if same = false then ((place + 1) * dueScale size factor same times).fmod (dueBase size same) - 1
  else if 0 < place ∧ place < size - 1 then (place * dueScale size factor same times).fmod (dueBase size same)
  else if factor < 0 ∧ times.fmod 2 = 1 then size - 1 - place else place
def dueF (size factor : Int) (same : Bool) (times : Int) : List Int :=
  (List.range size.toNat).foldl (fun (d : List Int) (p : Nat) => d.set (dueIdx size factor same times (p : Int)).toNat (p : Int)) (List.replicate size.toNat 0)

theorem cut_stmt {M : Model} {A : Around} {E : Value → Shared → Prop} {s : Shared} {env : Env} {st : Stmt} {rest : List Stmt} {Q : Flow → Shared → Prop} (Q' : Shared → Prop)
    (h1 : wpAny M A (exec st env) (fun f s' => f = .next ∧ Q' s') E s) (h2 : ∀ s', Q' s' → wpAny M A (execs rest env) Q E s') : wpAny M A (execs (st :: rest) env) Q E s :=
  wpAny_execs_cons (wpAny_mono h1 (fun f s' h => by obtain ⟨rfl, h⟩ := h; exact h2 s' h) fun _ _ e => e)

theorem set_at {prog : Program} {w : World} {A : Around} {E : Value → Shared → Prop} {s : Shared} {h₀ : Heap} {L D : Addr} {m : Str → Option Value} {news news' : List (Addr × Obj)} {vs : List Value} {ns : List Int} {n : Nat} {k idx x : Int} {t u : Tok} {Q : Unit → Shared → Prop}
    (hK : k = idx) (F : Fr h₀ L s.heap m) (N : News h₀ L s.heap news) (U : Upd D (W.listOf vs.toArray n) (W.listOf (vs.set idx.toNat (.int x u)).toArray n) news news') (hi : IntsAre vs ns) (h0 : 0 ≤ idx) (h1 : idx < ns.length) (hz : ns.length ≤ sizeLine)
    (h : ∀ h', Fr h₀ L h' m → News h₀ L h' news' → IntsAre (vs.set idx.toNat (.int x u)) (ns.set idx.toNat x) → Q () { s with heap := h' }) :
    wpAny (model prog w) A (setItem (.ref D) (.int k t) (.int x u)) Q E s := by
  subst hK
  exact ksa_set F N U hi h0 h1 (by have := sizeLine_eq; (lia)) fun h' F' N' i' _ _ => h h' F' N' i'

theorem not_f {b : Bool} (h : b = true) : ¬ b = false := fun q => Bool.noConfusion (h.symm.trans q)
theorem idx_a {same : Bool} {A B C D : Int} {c2 c3 : Prop} [Decidable c2] [Decidable c3] (h : same = false) : A = if same = false then A else if c2 then B else if c3 then C else D := (if_pos h).symm
theorem idx_b {same : Bool} {A B C D : Int} {c2 c3 : Prop} [Decidable c2] [Decidable c3] (h : same = true) (h2 : c2) : B = if same = false then A else if c2 then B else if c3 then C else D := ((if_neg (not_f h)).trans (if_pos h2)).symm
theorem idx_c {same : Bool} {A B C D : Int} {c2 c3 : Prop} [Decidable c2] [Decidable c3] (h : same = true) (h2 : ¬ c2) (h3 : c3) : C = if same = false then A else if c2 then B else if c3 then C else D := ((if_neg (not_f h)).trans ((if_neg h2).trans (if_pos h3))).symm
theorem idx_d {same : Bool} {A B C D : Int} {c2 c3 : Prop} [Decidable c2] [Decidable c3] (h : same = true) (h2 : ¬ c2) (h3 : ¬ c3) : D = if same = false then A else if c2 then B else if c3 then C else D := ((if_neg (not_f h)).trans ((if_neg h2).trans (if_neg h3))).symm
theorem lt_toNat {a b : Int} (h : a < b) : a < ((b.toNat : Nat) : Int) := by (lia)
theorem sz_toNat {b : Int} (h : b < 50) : b.toNat ≤ sizeLine := by have := sizeLine_eq; (lia)
inductive DueJ (D : Addr) (size : Int) (f : Int → Nat) (m0 : Str → Option Value) (i : Nat) (m : Str → Option Value) (news : List (Addr × Obj)) : Prop
  | mk (u : Option Value) (o : Obj) (d : List Int) (em : m = (fun y => if y = Str.ofString "place" then u else m0 y)) (en : news = [(D, o)]) (hv : LIo o d) (hlen : d.length = size.toNat) (hd : d = (List.range i).foldl (fun (d : List Int) (p : Nat) => d.set (f (p : Int)) (p : Int)) (List.replicate size.toNat 0))
set_option maxRecDepth 100000 in
set_option maxHeartbeats 4000000 in
theorem due_spec {w : World} {A : Around} {s : Shared} {size factor times : Int} {same : Bool} {t1 t2 t3 : Tok} {Q E : Value → Shared → Prop}
  (W : Wd w s.heap) (hd0 : A.depth + 2 < recursionLimit) (hh : A.handled = none) (hb : 3 < size) (hb2 : size < 50) (hf1 : -100 < factor) (hf2 : factor < 100)
  (hpl : 0 < (powersF factor (dueBase size same)).length) (hpl2 : (powersF factor (dueBase size same)).length < 100) (hpb : ∀ x ∈ powersF factor (dueBase size same), 0 ≤ x ∧ x < 100)
  (hidx : ∀ place, 0 ≤ place → place < size → 0 ≤ dueIdx size factor same times place ∧ dueIdx size factor same times place < size)
  (ret : ∀ a tk h', KeepAll s.heap h' → s.heap.get? a = none → LI h' a (dueF size factor same times) → Q (.ref a) { s with heap := h', toks := tk }) :
  wpAny (model Challenge.rw_ph0098_01.row.prog w) A (call (.ref 136) [.int size t1, .int factor t2, .bool same, .int times t3]) Q E s := by
  have W' := W
  obtain ⟨X, p, loose, mean, mg, mb, T⟩ := W
  refine wpAny_call ?_
  k_dflt (refine' enter_plain (binds := [(Str.ofString "size", .int size t1), (Str.ofString "factor", .int factor t2), (Str.ofString "same", .bool same), (Str.ofString "times", .int times t3)]) ?k1 ?k2 ?k6 ?k7 ?k8 ?k9 ?kB ?_ ?c2 ?c3 ?c4 ?c5; (case k1 => k_asm); (case k2 => k_asm); (case k6 => k_is); (case k7 => k_is); (case k8 => (with_reducible exact o_dp0 (by assumption))); (case k9 => exact BindsTo.of_eq rfl); (case c5 => decide); (case kB => exact locs rfl); (case c2 => exact rfl); (case c3 => exact rfl); (case c4 => exact rfl))
  intro L' h₁ F' N'
  dsimp only
  refine cut_stmt (fun s' => ∃ h t tk, s' = { s with heap := h, toks := tk } ∧ Fr s.heap L' h (fun y => if y = Str.ofString "base" then some (Value.int (dueBase size same) t) else [(Str.ofString "times", Value.int times t3), (Str.ofString "same", Value.bool same), (Str.ofString "factor", Value.int factor t2), (Str.ofString "size", Value.int size t1)].lookup y)) ?_ ?_
  · (repeat' (first | (k_unfold; (try dsimp only)) | ((fail_if_success k_end); (fail_if_success (with_reducible show wpAny _ _ (exec (PySem.Stmt.For _ _ _ _ _) _) _ _ _)); walk1) | (dsimp only; (fail_if_success k_end); (fail_if_success (with_reducible show wpAny _ _ (exec (PySem.Stmt.For _ _ _ _ _) _) _ _ _)); walk1)))
    all_goals (rename Fr _ _ _ _ => F5; rename same = _ => hs; subst hs; exact ⟨rfl, _, _, _, rfl, F5⟩)
  clear F' N'
  rintro _ ⟨h2, tb, tk2, rfl, F2⟩
  have N2 : News s.heap L' h2 [] := News.nil
  (repeat' (first | (k_unfold; (try dsimp only)) | ((fail_if_success k_end); (fail_if_success (with_reducible show wpAny _ _ (exec (PySem.Stmt.For _ _ _ _ _) _) _ _ _)); walk1) | (dsimp only; (fail_if_success k_end); (fail_if_success (with_reducible show wpAny _ _ (exec (PySem.Stmt.For _ _ _ _ _) _) _ _ _)); walk1)))
  rename Fr _ _ _ _ => F2
  refine ⟨X.keeps F2.keep, ?_⟩
  refine powers_spec (W'.keeps F2.keep) (by show A.depth + 1 + 1 < _; (with_reducible assumption)) hh (by unfold dueBase; split <;> (lia)) (by unfold dueBase; split <;> (lia)) hf1 hf2 fun D1 tk3 h3 hk3 hf3 hl3 => ?_
  obtain ⟨vp, np, hg3, hi3⟩ := hl3
  have F3 := F2.keeps hk3
  have N3 := News.add F2 N2 hk3 hf3 hg3
  clear N2 F2
  (repeat' (first | (k_unfold; (try dsimp only)) | ((fail_if_success k_end); (fail_if_success (with_reducible show wpAny _ _ (exec (PySem.Stmt.For _ _ _ _ _) _) _ _ _)); walk1) | (dsimp only; (fail_if_success k_end); (fail_if_success (with_reducible show wpAny _ _ (exec (PySem.Stmt.For _ _ _ _ _) _) _ _ _)); walk1)))
  rename_i D4 h4 i4 n4 s4 e4 e5 e6 l4 h5 F5 N5
  clear l4
  have hsc : dueScale size factor same times = (powersF factor (dueBase size same)).getD (times.fmod ((powersF factor (dueBase size same)).length : Int)).toNat 0 := rfl
  rw [← hsc] at F5
  have hixe0 : ∀ i : Nat, dueIdx size factor same times (0 + (i : Int)) = (if same = false then ((0 + (i : Int) + 1) * dueScale size factor same times).fmod (dueBase size same) - 1
    else if 0 < 0 + (i : Int) ∧ 0 + (i : Int) < size - 1 then ((0 + (i : Int)) * dueScale size factor same times).fmod (dueBase size same)
    else if factor < 0 ∧ times.fmod 2 = 1 then size - 1 - (0 + (i : Int)) else 0 + (i : Int)) := fun _ => rfl
  have hscb : 0 ≤ dueScale size factor same times ∧ dueScale size factor same times < 100 := by
    rw [hsc]
    have h1 := Int.fmod_nonneg_of_pos times (b := ((powersF factor (dueBase size same)).length : Int)) (by (lia))
    have h2 := Int.fmod_lt_of_pos times (b := ((powersF factor (dueBase size same)).length : Int)) (by (lia))
    have h3 : (times.fmod ((powersF factor (dueBase size same)).length : Int)).toNat < (powersF factor (dueBase size same)).length := (Int.toNat_lt h1).mpr h2
    rw [List.getD, List.getElem?_eq_getElem h3]
    exact hpb _ (List.getElem_mem h3)
  generalize dueScale size factor same times = sc at *
  have hbb : 3 ≤ dueBase size same ∧ dueBase size same ≤ 60 := by unfold dueBase; split <;> (lia)
  generalize hbs : dueBase size same = bs at *
  refine range_for (h₀ := s.heap) hh rfl rfl ?_ (by intro _; with_unfolding_all rfl)
  (repeat' (first | (k_unfold; (try dsimp only)) | ((fail_if_success k_end); (fail_if_success (with_reducible show wpAny _ _ (exec (PySem.Stmt.For _ _ _ _ _) _) _ _ _)); walk1) | (dsimp only; (fail_if_success k_end); (fail_if_success (with_reducible show wpAny _ _ (exec (PySem.Stmt.For _ _ _ _ _) _) _ _ _)); walk1)))
  rename IsRange _ _ _ _ _ _ _ _ => hR
  rename Fr _ _ _ _ => F7
  rename News _ _ _ _ => N7
  obtain ⟨m0, hm0, F8⟩ : ∃ m0, m0 = _ ∧ Fr s.heap L' _ m0 := ⟨_, rfl, F7⟩
  refine ⟨_, 0, size, _, _, _, size.toNat, _, [(D4, _)], DueJ D4 size (fun p => (dueIdx size factor same times p).toNat) m0, rfl, hR, small_one (by (with_reducible decide)) (by (with_reducible decide)) (by (lia)) (by (with_reducible exact Int.lt_of_lt_of_le (by assumption) (by decide))), ?_, F8, (fun p hp => N7 p (by rw [List.mem_singleton.mp hp]; exact .head _)), ?_, ?_, ?_⟩
  · rw [rangeSize_nat]; simp
  · refine ⟨none, _, List.replicate size.toNat 0, ?_, rfl, ⟨_, _, rfl, ?_⟩, by simp, by simp⟩
    · subst hm0
      funext y
      by_cases h : y = Str.ofString "place"
      · subst h; rfl
      · rw [if_neg h]
    · simpa using i4
  · subst hm0
    clear N7 F8 F7 
    rintro i t m₁ news₁ h tk io I hi ⟨u, o, d, rfl, rfl, ⟨vs, n, rfl, hv⟩, hlen, hd⟩ hne Fi Ni
    have hDI : D4 ≠ I := hne _ (.head _)
    have hix := hidx (0 + (i : Int)) (by (with_reducible exact o_addne (by decide))) (by (with_reducible exact o_addt (by assumption)))
    have hixe := hixe0 i
    have hzz := sizeLine_eq
    generalize hdx : dueIdx size factor same times (0 + (i : Int)) = dx at hixe hix
    have hdl : dx < (d.length : Int) := by rw [hlen]; exact lt_toNat hix.2
    have hdz : d.length ≤ sizeLine := by rw [hlen]; exact sz_toNat hb2
    (repeat' (first | (k_unfold; (try dsimp only)) | ((fail_if_success k_end); (fail_if_success (with_reducible show wpAny _ _ (exec (PySem.Stmt.For _ _ _ _ _) _) _ _ _)); walk1) | (dsimp only; (fail_if_success k_end); (fail_if_success (with_reducible show wpAny _ _ (exec (PySem.Stmt.For _ _ _ _ _) _) _ _ _)); walk1)))
    all_goals (refine set_at (idx := dx) (by rw [hixe]; clear hidx hpl hpl2 hpb; first | exact idx_a (by assumption) | exact idx_b (by assumption) ⟨(by assumption), (by assumption)⟩ | exact idx_c (by assumption) (fun h => absurd h.1 (by assumption)) ⟨(by assumption), (by assumption)⟩ | exact idx_d (by assumption) (fun h => absurd h.1 (by assumption)) (fun h => absurd h.1 (by assumption)) | exact idx_d (by assumption) (fun h => absurd h.1 (by assumption)) (fun h => absurd h.2 (by assumption)) | exact idx_c (by assumption) (fun h => absurd h.2 (by assumption)) ⟨(by assumption), (by assumption)⟩ | exact idx_d (by assumption) (fun h => absurd h.2 (by assumption)) (fun h => absurd h.1 (by assumption)) | exact idx_d (by assumption) (fun h => absurd h.2 (by assumption)) (fun h => absurd h.2 (by assumption))) Fi Ni (Upd.tail (Ne.symm hDI) (Upd.head (List.forall_mem_nil _))) hv hix.1 hdl hdz (fun h6 F6 N6 iv6 => ?_))
    all_goals ((repeat' (first | (k_unfold; (try dsimp only)) | ((fail_if_success k_end); (fail_if_success (with_reducible show wpAny _ _ (exec (PySem.Stmt.For _ _ _ _ _) _) _ _ _)); walk1) | (dsimp only; (fail_if_success k_end); (fail_if_success (with_reducible show wpAny _ _ (exec (PySem.Stmt.For _ _ _ _ _) _) _ _ _)); walk1))))
    all_goals (refine ⟨h6, _, _, [(D4, _)], rfl, F6, N6, (fun p hp => by rw [List.mem_singleton.mp hp]; exact hDI), _, _, _, map_again, rfl, ⟨_, _, rfl, iv6⟩, by simp [hlen], ?_⟩)
    all_goals (rw [List.range_succ, List.foldl_append, ← hd]; simp only [List.foldl_cons, List.foldl_nil]; rw [← hdx]; simp)
  · subst hm0
    rintro h tk m' news' Fi Ni ⟨u, o, d, rfl, rfl, hv, hlen, hd⟩
    (repeat' (first | (k_unfold; (try dsimp only)) | ((fail_if_success k_end); (fail_if_success (with_reducible show wpAny _ _ (exec (PySem.Stmt.For _ _ _ _ _) _) _ _ _)); walk1) | (dsimp only; (fail_if_success k_end); (fail_if_success (with_reducible show wpAny _ _ (exec (PySem.Stmt.For _ _ _ _ _) _) _ _ _)); walk1)))
    exact ret D4 _ _ Fi.keep (Ni.fresh (.head _)) (by unfold dueF; rw [← hd]; exact LI.of_news Ni (.head _) hv)
end Mine
end
section
open PySem PySem.W PyProof.Rows PySem.Calls
namespace Mine
theorem wd_fill_many (w : World) (h : Heap) (_ : OpenLaw) (e : Challenge.rw_ph0098_01 = Challenge.rw_ph0098_01) : (hd.heap_39 w.params).In h → (hd.heap_39 w.params).In h ∧ Challenge.rw_ph0098_01 = Challenge.rw_ph0098_01 := by
  k_fill
  exact fun x => ⟨x, e⟩

def idF (n : Nat) : List Int := (List.range n).map fun (i : Nat) => (i : Int)
def powP (order : List Int) : Nat → List Int
  | 0 => idF order.length
  | k + 1 => behindF (powP order k) order
def sqN : Nat → List Int → List Int
  | 0, d => d
  | k + 1, d => behindF (sqN k d) (sqN k d)
def manyStep (order : List Int) (width : Nat) (deck : List Int) (d : Int) : List Int := behindF (sqN width deck) (powP order d.toNat)
def manyF (order digits : List Int) (width : Nat) : List Int := digits.reverse.foldl (manyStep order width) (idF order.length)

def InR (n : Nat) (d : List Int) : Prop := d.length = n ∧ ∀ x ∈ d, 0 ≤ x ∧ x < (n : Int)
theorem inR_id (n : Nat) : InR n (idF n) := by
  refine ⟨by simp [idF], fun x hx => ?_⟩
  simp only [idF, List.mem_map, List.mem_range] at hx
  obtain ⟨i, hi, rfl⟩ := hx
  (lia)
theorem inR_behind {n : Nat} {d o : List Int} (hd : InR n d) (ho : InR n o) : InR n (behindF d o) := by
  refine ⟨by simp [behindF, ho.1], fun x hx => ?_⟩
  simp only [behindF, List.mem_map] at hx
  obtain ⟨i, hi, rfl⟩ := hx
  have := ho.2 i hi
  have h3 : i.toNat < d.length := by rw [hd.1]; (lia)
  rw [List.getD, List.getElem?_eq_getElem h3]
  exact hd.2 _ (List.getElem_mem h3)
theorem inR_pow {order : List Int} (ho : InR order.length order) : ∀ k, InR order.length (powP order k)
  | 0 => inR_id _
  | k + 1 => inR_behind (inR_pow ho k) ho
theorem inR_sq {n : Nat} {d : List Int} (hd : InR n d) : ∀ k, InR n (sqN k d)
  | 0 => hd
  | k + 1 => inR_behind (inR_sq hd k) (inR_sq hd k)

/-- the ledger bears a list of ints at a -/
def InL (news : List (Addr × Obj)) (a : Addr) (ns : List Int) : Prop := ∃ o, (a, o) ∈ news ∧ LIo o ns
theorem InL.mono {news news' : List (Addr × Obj)} {a : Addr} {ns : List Int} (x : InL news a ns) (h : ∀ p ∈ news, p ∈ news') : InL news' a ns := let ⟨o, m, r⟩ := x; ⟨o, h _ m, r⟩
theorem InL.li {h₀ h : Heap} {L a : Addr} {ns : List Int} {news : List (Addr × Obj)} (x : InL news a ns) (N : News h₀ L h news) : LI h a ns := let ⟨_, m, r⟩ := x; LI.of_news N m r
theorem News.sub {h₀ h : Heap} {L : Addr} {news news' : List (Addr × Obj)} (N : News h₀ L h news) (hs : ∀ p ∈ news', p ∈ news) : News h₀ L h news' := fun p hp => N p (hs p hp)
theorem LIo.of {h : Heap} {a : Addr} {ns : List Int} (x : LI h a ns) : ∃ o, h.get? a = some o ∧ LIo o ns := let ⟨vs, n, e, i⟩ := x; ⟨_, e, vs, n, rfl, i⟩
theorem new_li {g h h' : Heap} {L a : Addr} {m : Str → Option Value} {news : List (Addr × Obj)} {ns : List Int} {G : Prop} (F : Fr g L h m) (N : News g L h news) (k : KeepAll h h') (hf : h.get? a = none) (x : LI h' a ns)
    (c : ∀ vs n, Fr g L h' m → News g L h' ((a, W.listOf (List.toArray vs) n) :: news) → IntsAre vs ns → G) : G := let ⟨vs, n, e, i⟩ := x; c vs n (F.keeps k) (News.add F N k hf e) i
theorem new_lo {g h h' : Heap} {L a : Addr} {m : Str → Option Value} {news : List (Addr × Obj)} {ns : List Int} {G : Prop} (F : Fr g L h m) (N : News g L h news) (k : KeepAll h h') (hf : h.get? a = none) (x : LI h' a ns)
    (c : ∀ o, LIo o ns → Fr g L h' m → News g L h' ((a, o) :: news) → G) : G := let ⟨_, e, y⟩ := LIo.of x; c _ y (F.keeps k) (News.add F N k hf e)
section
variable {prog : Program} {w : World} {A : Around} {E : Value → Shared → Prop} {s : Shared}
theorem list_range_id {Q : Value → Shared → Prop} {r : Addr} {b : Int} {t u v : Tok} (hh : A.handled = none) (hr : IsRange s.heap r 0 b 1 t u v) (hb : 0 ≤ b) (hb2 : b ≤ 1000)
    (h : ∀ a tk h', KeepAll s.heap h' → s.heap.get? a = none → LI h' a (idF b.toNat) → Q (.ref a) { s with heap := h', toks := tk }) : wpAny (model prog w) A (call (.type "list") [.ref r]) Q E s := by
  refine call_list_range hh hr (small_one (by (with_reducible decide)) (by (with_reducible decide)) (by (with_reducible exact o_nege (by assumption) (by decide))) (by (with_reducible exact o_lit (by assumption) (by decide)))) (rangeSize_nat 0 b) (by (lia)) fun h' tk acc' c' hk hS' hacc => ?_
  refine h _ tk h' hk (Heap.get?_none_of_le (Nat.le_refl _)) ⟨acc'.toList, c', by simpa using hS', ?_⟩
  have key : ∀ (l : List Value) (k : Nat), (∀ i v, l[i]? = some v → ∃ t, v = Value.int (((k + i : Nat) : Int)) t) → IntsAre l ((List.range' k l.length).map fun (i : Nat) => (i : Int)) := by
    intro l
    induction l with
    | nil => intro k _; exact .nil
    | cons x l ih =>
      intro k hx
      obtain ⟨t, ht⟩ := hx 0 x rfl
      subst ht
      refine .cons _ _ (ih (k + 1) fun i v hv => ?_)
      obtain ⟨t, ht⟩ := hx (i + 1) v (by simpa using hv)
      exact ⟨t, by rw [ht]; congr 1; (lia)⟩
  have e1 : acc'.toList.length = b.toNat := by have := hacc.1; simpa using this
  have := key acc'.toList 0 fun i v hv => by
    obtain ⟨t, ht⟩ := hacc.2 i v (by simpa using hv)
    exact ⟨t, by rw [ht]; congr 1; simp⟩
  rw [e1] at this
  rw [idF, List.range_eq_range']
  exact this
theorem item_neg1 {value slice : Expr} {l : Addr} {items : Array Value} {x : Value} {u : Tok} {Q : Value → Shared → Prop}
    (hl : s.heap.IsList l items) (hx : items[items.size - 1]? = some x) (h : Q x s)
    (hs : subscripted slice false (.ref l) (.int (-1) u) = operate [.ref l, .int (-1) u] (getItem (.ref l) (.int (-1) u)) := by with_unfolding_all rfl) :
    wpAny (model prog w) A (subscriptTail value slice (.ref l) (.int (-1) u)) Q E s := by
  have hlt := (Array.getElem?_eq_some_iff.mp hx).1
  refine tail_any hl.typeIs slot_list_getitem.lookup (wpAny_getItem_list_neg hl (by (with_reducible decide)) (by (lia)) (by (with_reducible decide)) ?_ h) hs
  rw [← hx]; congr 1; (with_reducible exact o_m1 _)
theorem item_val {value slice : Expr} {l : Addr} {items : Array Value} {x : Value} {k : Int} {u : Tok} {Q : Value → Shared → Prop}
    (hl : s.heap.IsList l items) (h0 : 0 ≤ k) (hx : items[k.toNat]? = some x) (hz : items.size ≤ sizeLine) (h : Q x s)
    (hs : subscripted slice false (.ref l) (.int k u) = operate [.ref l, .int k u] (getItem (.ref l) (.int k u)) := by with_unfolding_all rfl) :
    wpAny (model prog w) A (subscriptTail value slice (.ref l) (.int k u)) Q E s := by
  have hlt := (Array.getElem?_eq_some_iff.mp hx).1
  exact tail_any hl.typeIs slot_list_getitem.lookup (wpAny_getItem_list hl h0 (by have := sizeLine_eq; (lia)) hx h) hs
end
theorem map_ext3 {f g : Str → Option Value} (a b c : Str) (ha : f a = g a) (hb : f b = g b) (hc : f c = g c) (h : ∀ y, y ≠ a → y ≠ b → y ≠ c → f y = g y) : f = g := by
  funext y
  by_cases h1 : y = a
  · rw [h1]; exact ha
  by_cases h2 : y = b
  · rw [h2]; exact hb
  by_cases h3 : y = c
  · rw [h3]; exact hc
  exact h y h1 h2 h3

inductive ManyA (D : Addr) (order : List Int) (m0 : Str → Option Value) (i : Nat) (m : Str → Option Value) (news : List (Addr × Obj)) : Prop
  | mk (u : Option Value) (vs : List Value) (n : Nat) (rest : List (Addr × Obj)) (em : m = (fun y => if y = Str.ofString "turn" then u else m0 y)) (en : news = (D, W.listOf (List.toArray vs) n) :: rest) (hlen : vs.length = i + 1)
    (hvs : ∀ k v, vs[k]? = some v → ∃ a, v = Value.ref a ∧ InL rest a (powP order k)) (hrest : ∀ p ∈ rest, p.1 ≠ D)
inductive ManyB (order : List Int) (wd : Nat) (digits : List Int) (tl : List (Addr × Obj)) (m1 : Str → Option Value) (i : Nat) (m : Str → Option Value) (news : List (Addr × Obj)) : Prop
  | mk (u1 u2 : Option Value) (a : Addr) (em : m = (fun y => if y = Str.ofString "deck" then some (Value.ref a) else if y = Str.ofString "turn" then u1 else if y = Str.ofString "digit" then u2 else m1 y))
    (hI : InL news a ((digits.reverse.take i).foldl (manyStep order wd) (idF order.length))) (hR : InR order.length ((digits.reverse.take i).foldl (manyStep order wd) (idF order.length))) (hsub : ∀ p ∈ tl, p ∈ news)
inductive ManyC (IR : Addr) (io : Obj) (news₁ : List (Addr × Obj)) (f : Nat → List Int) (m1 : Str → Option Value) (j : Nat) (m : Str → Option Value) (news : List (Addr × Obj)) : Prop
  | mk (u : Option Value) (a : Addr) (news₂ : List (Addr × Obj)) (em : m = (fun y => if y = Str.ofString "deck" then some (Value.ref a) else if y = Str.ofString "turn" then u else m1 y)) (en : news = (IR, io) :: news₂) (hne : ∀ p ∈ news₂, p.1 ≠ IR) (hsub : ∀ p ∈ news₁, p ∈ news₂) (hI : InL news₂ a (f j))
set_option maxRecDepth 100000 in
set_option maxHeartbeats 4000000 in
theorem many_spec {w : World} {A : Around} {s : Shared} {order digits : List Int} {width : Int} {oA dA : Addr} {t1 : Tok} {Q E : Value → Shared → Prop}
  (W : Wd w s.heap) (hd0 : A.depth + 2 < recursionLimit) (hh : A.handled = none) (ho : InR order.length order) (hn : order.length ≤ 50) (hw1 : 1 ≤ width) (hw2 : width ≤ 3)
  (LO : LI s.heap oA order) (LD : LI s.heap dA digits) (hdg : ∀ d ∈ digits, 0 ≤ d ∧ d < 2 ^ width.toNat) (hdl : digits.length ≤ sizeLine)
  (ret : ∀ a tk h', KeepAll s.heap h' → s.heap.get? a = none → LI h' a (manyF order digits width.toNat) → Q (.ref a) { s with heap := h', toks := tk }) :
  wpAny (model Challenge.rw_ph0098_01.row.prog w) A (call (.ref 122) [.ref oA, .ref dA, .int width t1]) Q E s := by
  have W' := W
  obtain ⟨X, p, loose, mean, mg, mb, T⟩ := W
  obtain ⟨vo, hlo, hio⟩ := LO.isList
  have hoz : vo.toArray.size ≤ sizeLine := by have := hio.length; have := sizeLine_eq; simp; (with_reducible exact o_szi (by assumption) (by assumption) (by decide))
  refine wpAny_call ?_
  k_dflt (refine' enter_plain (binds := [(Str.ofString "order", .ref oA), (Str.ofString "digits", .ref dA), (Str.ofString "width", .int width t1)]) ?k1 ?k2 ?k6 ?k7 ?k8 ?k9 ?kB ?_ ?c2 ?c3 ?c4 ?c5; (case k1 => k_asm); (case k2 => k_asm); (case k6 => k_is); (case k7 => k_is); (case k8 => (with_reducible exact o_dp0 (by assumption))); (case k9 => exact BindsTo.of_eq rfl); (case c5 => decide); (case kB => exact locs rfl); (case c2 => exact rfl); (case c3 => exact rfl); (case c4 => exact rfl))
  intro L' h₁ F' N'
  dsimp only
  (repeat' (first | (k_unfold; (try dsimp only)) | ((fail_if_success k_end); (fail_if_success (with_reducible show wpAny _ _ (exec (PySem.Stmt.For _ _ _ _ _) _) _ _ _)); walk1) | (dsimp only; (fail_if_success k_end); (fail_if_success (with_reducible show wpAny _ _ (exec (PySem.Stmt.For _ _ _ _ _) _) _ _ _)); walk1)))
  rename IsRange _ _ _ _ _ _ _ _ => hR
  rename Fr _ _ _ _ => F2
  rename News _ _ _ _ => N2
  refine list_range_id hh hR (by (with_reducible exact Int.natCast_nonneg _)) (by (lia)) fun a1 tk1 h2 hk2 hf2 hl2 => ?_
  refine new_lo F2 N2 hk2 hf2 hl2 fun o1 hl2 F3 N3 => ?_
  clear F2 N2
  (repeat' (first | (k_unfold; (try dsimp only)) | ((fail_if_success k_end); (fail_if_success (with_reducible show wpAny _ _ (exec (PySem.Stmt.For _ _ _ _ _) _) _ _ _)); walk1) | (dsimp only; (fail_if_success k_end); (fail_if_success (with_reducible show wpAny _ _ (exec (PySem.Stmt.For _ _ _ _ _) _) _ _ _)); walk1)))
  rename_i D h3 _ h4 F4 N4
  have hDa : a1 < D := by assumption
  refine range_for (h₀ := s.heap) hh rfl rfl ?_ (by intro _; with_unfolding_all rfl)
  (repeat' (first | (k_unfold; (try dsimp only)) | ((fail_if_success k_end); (fail_if_success (with_reducible show wpAny _ _ (exec (PySem.Stmt.For _ _ _ _ _) _) _ _ _)); walk1) | (dsimp only; (fail_if_success k_end); (fail_if_success (with_reducible show wpAny _ _ (exec (PySem.Stmt.For _ _ _ _ _) _) _ _ _)); walk1)))
  rename IsRange _ _ _ _ _ _ _ _ => hR2
  rename Fr _ _ _ _ => F5
  rename News _ _ _ _ => N5
  have hpw : ((2 ^ width.toNat - 1 : Nat) : Int) = (2 : Int) ^ width.toNat - 1 ∧ (2 : Int) ^ width.toNat ≤ 8 ∧ 2 ^ width.toNat ≤ 8 ∧ 1 ≤ 2 ^ width.toNat := by
    have hw : width = 1 ∨ width = 2 ∨ width = 3 := by (lia)
    rcases hw with rfl | rfl | rfl <;> decide
  have hzz := sizeLine_eq
  obtain ⟨m0, hm0, F6⟩ : ∃ m0, m0 = _ ∧ Fr s.heap L' _ m0 := ⟨_, rfl, F5⟩
  refine ⟨_, 0, _, _, _, _, 2 ^ width.toNat - 1, _, [(D, _), (a1, o1)], ManyA D order m0, rfl, hR2, small_one (by (with_reducible decide)) (by (with_reducible decide)) (by (lia)) (by (lia)), ?_, F6, N5, ?_, ?_, ?_⟩
  · rw [rangeSize_nat]; (lia)
  · refine ⟨none, [Value.ref a1], _, [(a1, o1)], ?_, rfl, rfl, ?_, ?_⟩
    · subst hm0
      funext y
      by_cases h : y = Str.ofString "turn"
      · subst h; rfl
      · rw [if_neg h]
    · intro k v hv
      cases k with
      | zero => cases hv; exact ⟨a1, rfl, o1, .head _, by simpa [powP] using hl2⟩
      | succ k => simp at hv
    · intro p hp
      rw [List.mem_singleton.mp hp]
      exact Nat.ne_of_lt hDa
  · subst hm0
    clear F5 F6 N5 hR2 hR
    rintro i t m₁ news₁ h tk io I hi ⟨u, vs, n, rest, rfl, rfl, hlen, hvs, hrest⟩ hne Fi Ni
    have hDI : D ≠ I := hne _ (.head _)
    have hvz : vs.toArray.size ≤ sizeLine := by simp; (lia)
    obtain ⟨aL, hvL, hIL⟩ := hvs i vs[i] (by simp)
    obtain ⟨oL, hmL, hoL⟩ := id hIL
    (repeat' (first | (k_unfold; (try dsimp only)) | ((fail_if_success k_end); (fail_if_success (with_reducible show wpAny _ _ (exec (PySem.Stmt.For _ _ _ _ _) _) _ _ _)); walk1) | (dsimp only; (fail_if_success k_end); (fail_if_success (with_reducible show wpAny _ _ (exec (PySem.Stmt.For _ _ _ _ _) _) _ _ _)); walk1)))
    refine item_neg1 (isList_of (Ni.get (.tail _ (.head _)))) (x := Value.ref aL) (by simp [hlen, ← hvL]) ?_
    (repeat' (first | (k_unfold; (try dsimp only)) | ((fail_if_success k_end); (fail_if_success (with_reducible show wpAny _ _ (exec (PySem.Stmt.For _ _ _ _ _) _) _ _ _)); walk1) | (dsimp only; (fail_if_success k_end); (fail_if_success (with_reducible show wpAny _ _ (exec (PySem.Stmt.For _ _ _ _ _) _) _ _ _)); walk1)))
    refine ⟨X.keeps Fi.keep, ?_⟩
    refine behind_spec (W'.keeps Fi.keep) (by show A.depth + 1 + 1 < _; (with_reducible assumption)) hh (hIL.li (News.sub Ni fun p hp => .tail _ (.tail _ hp))) (LO.keeps Fi.keep) (by rw [(inR_pow ho i).1]; exact ho.2) (by rw [(inR_pow ho i).1]; (with_reducible exact Nat.le_trans (by assumption) (by decide))) (by (with_reducible exact Nat.le_trans (by assumption) (by decide))) fun a3 tk3 h3 hk3 hf3 hl3 => ?_
    refine new_lo Fi Ni hk3 hf3 hl3 fun o3 hl3 F3 N3 => ?_
    have ha3 : ∀ p ∈ (I, io) :: (D, W.listOf (List.toArray vs) n) :: rest, p.1 ≠ a3 := fun p hp e => by
      have h1 := (Ni p hp).1
      rw [e] at h1; rw [h1] at hf3; cases hf3
    have haD : D ≠ a3 := ha3 _ (.tail _ (.head _))
    have haI : I ≠ a3 := ha3 _ (.head _)
    clear Ni Fi
    (repeat' (first | (k_unfold; (try dsimp only)) | ((fail_if_success k_end); (fail_if_success (with_reducible show wpAny _ _ (exec (PySem.Stmt.For _ _ _ _ _) _) _ _ _)); walk1) | (dsimp only; (fail_if_success k_end); (fail_if_success (with_reducible show wpAny _ _ (exec (PySem.Stmt.For _ _ _ _ _) _) _ _ _)); walk1)))
    refine append_K F3 N3 (Upd.tail (Ne.symm haD) (Upd.tail (Ne.symm hDI) (Upd.head hrest))) (fun h5 F5 N5 => ?_) hvz
    (repeat' (first | (k_unfold; (try dsimp only)) | ((fail_if_success k_end); (fail_if_success (with_reducible show wpAny _ _ (exec (PySem.Stmt.For _ _ _ _ _) _) _ _ _)); walk1) | (dsimp only; (fail_if_success k_end); (fail_if_success (with_reducible show wpAny _ _ (exec (PySem.Stmt.For _ _ _ _ _) _) _ _ _)); walk1)))
    refine ⟨h5, _, _, (D, W.listOf (vs.toArray.push (Value.ref a3)) (n + 1)) :: (a3, o3) :: rest, rfl, F5, News.sub N5 ?_, ?_, _, vs ++ [Value.ref a3], n + 1, (a3, o3) :: rest, map_again, by rw [show (vs ++ [Value.ref a3]).toArray = vs.toArray.push (Value.ref a3) from by simp], by simp [hlen], ?_, ?_⟩
    · intro p hp
      simp only [List.mem_cons] at hp ⊢
      rcases hp with h | h | h | h <;> simp [h]
    · intro p hp
      simp only [List.mem_cons] at hp
      rcases hp with h | h | h
      · rw [h]; exact hDI
      · rw [h]; exact Ne.symm haI
      · exact hne p (.tail _ h)
    · intro k v hv
      by_cases hk : k < vs.length
      · rw [List.getElem?_append_left hk] at hv
        obtain ⟨a, e, r⟩ := hvs k v hv
        exact ⟨a, e, r.mono fun p hp => .tail _ hp⟩
      · have hke : k = vs.length := by
          have := (List.getElem?_eq_some_iff.mp hv).1
          simp at this; (with_reducible exact o_anti (by assumption) (by assumption))
        subst hke
        simp at hv
        subst hv
        exact ⟨a3, rfl, o3, .head _, by rw [hlen]; exact hl3⟩
    · intro p hp
      rcases List.mem_cons.mp hp with h | h
      · rw [h]; exact Ne.symm haD
      · exact hrest p h
  · subst hm0
    clear F5 F6 N5 hR2 hR
    rintro h tk m' news' Fi Ni ⟨u, vs, n, rest, rfl, rfl, hlen, hvs, hrest⟩
    obtain ⟨vd, hld, hid⟩ := LD.isList
    obtain ⟨aL, hvL, hIL⟩ := hvs 0 vs[0] (by simp)
    have hvz : vs.toArray.size ≤ sizeLine := by simp; (lia)
    (repeat' (first | (k_unfold; (try dsimp only)) | ((fail_if_success k_end); (fail_if_success (with_reducible show wpAny _ _ (exec (PySem.Stmt.For _ _ _ _ _) _) _ _ _)); walk1) | (dsimp only; (fail_if_success k_end); (fail_if_success (with_reducible show wpAny _ _ (exec (PySem.Stmt.For _ _ _ _ _) _) _ _ _)); walk1)))
    refine item_val (isList_of (Ni.get (.head _))) (by (with_reducible exact Int.le_refl _)) (x := Value.ref aL) (by simp [← hvL]) hvz ?_
    (repeat' (first | (k_unfold; (try dsimp only)) | ((fail_if_success k_end); (fail_if_success (with_reducible show wpAny _ _ (exec (PySem.Stmt.For _ _ _ _ _) _) _ _ _)); walk1) | (dsimp only; (fail_if_success k_end); (fail_if_success (with_reducible show wpAny _ _ (exec (PySem.Stmt.For _ _ _ _ _) _) _ _ _)); walk1)))
    rename_i h7 F7 N7
    refine rev_for (h₀ := s.heap) hh rfl rfl ?_ (by intro _; with_unfolding_all rfl)
    (repeat' (first | (k_unfold; (try dsimp only)) | ((fail_if_success k_end); (fail_if_success (with_reducible show wpAny _ _ (exec (PySem.Stmt.For _ _ _ _ _) _) _ _ _)); walk1) | (dsimp only; (fail_if_success k_end); (fail_if_success (with_reducible show wpAny _ _ (exec (PySem.Stmt.For _ _ _ _ _) _) _ _ _)); walk1)))
    rename_i IR h8 F8 N8 l8
    obtain ⟨m1, hm1⟩ : ∃ m1 : Str → Option Value, m1 = fun y => if y = Str.ofString "powers" then some (Value.ref D) else [(Str.ofString "width", Value.int width t1), (Str.ofString "digits", Value.ref dA), (Str.ofString "order", Value.ref oA)].lookup y := ⟨_, rfl⟩
    have hds : vd.toArray.size = digits.length := by simp [hid.length]
    refine ⟨IR, dA, vd.toArray, _, (D, W.listOf vs.toArray n) :: rest, [], ManyB order width.toNat digits ((D, W.listOf vs.toArray n) :: rest) m1,
      rfl, ?_, hld.at fun _ e => F8.keep _ _ e, .inl ?_, N8.fresh (.head _), F8, News.sub N8 (fun p hp => .tail _ hp), ?_, (fun _ _ _ _ _ h => nomatch h), ?_, ?_, ?_⟩
    · rw [show ((vd.toArray.size : Nat) : Int) = (vd.length : Int) by simp]; exact N8.get (.head _)
    · obtain ⟨o, e, _⟩ := hld; exact ⟨o, e⟩
    · intro p hp
      have := ktn_ltOf (l := (D, W.listOf vs.toArray n) :: rest) (d := IR) l8 p hp
      exact Nat.ne_of_lt this
    · refine ⟨u, none, aL, ?_, hIL.mono fun p hp => .tail _ hp, inR_id _, fun p hp => hp⟩
      subst hm1
      exact map_ext3 (Str.ofString "deck") (Str.ofString "turn") (Str.ofString "digit") rfl rfl rfl fun y h1 h2 h3 => by simp only [if_neg h1, if_neg h2, if_neg h3]; rfl
    · rintro i v m₁ news₁ h tk io hi hv ⟨u1, u2, a, rfl, hIa, hRa, hsub⟩ hne Fi Ni
      generalize hdk : (digits.reverse.take i).foldl (manyStep order width.toNat) (idF order.length) = dk at hIa hRa
      obtain ⟨dg, tg, rfl, hdg'⟩ := hid.at _ v (by simpa using hv)
      subst hm1
      clear F8 N8
      (repeat' (first | (k_unfold; (try dsimp only)) | ((fail_if_success k_end); (fail_if_success (with_reducible show wpAny _ _ (exec (PySem.Stmt.For _ _ _ _ _) _) _ _ _)); walk1) | (dsimp only; (fail_if_success k_end); (fail_if_success (with_reducible show wpAny _ _ (exec (PySem.Stmt.For _ _ _ _ _) _) _ _ _)); walk1)))
      refine range_for (h₀ := s.heap) hh rfl rfl ?_ (by intro _; with_unfolding_all rfl)
      (repeat' (first | (k_unfold; (try dsimp only)) | ((fail_if_success k_end); (fail_if_success (with_reducible show wpAny _ _ (exec (PySem.Stmt.For _ _ _ _ _) _) _ _ _)); walk1) | (dsimp only; (fail_if_success k_end); (fail_if_success (with_reducible show wpAny _ _ (exec (PySem.Stmt.For _ _ _ _ _) _) _ _ _)); walk1)))
      rename IsRange _ _ _ _ _ _ _ _ => hR3
      rename Fr _ _ _ _ => F9
      rename News _ _ _ _ => N9
      refine ⟨_, 0, width, _, _, _, width.toNat, _, (IR, io) :: news₁, ManyC IR io news₁ (fun j => sqN j dk) (fun y => if y = Str.ofString "digit" then some (Value.int dg tg) else if y = Str.ofString "powers" then some (Value.ref D) else [(Str.ofString "width", Value.int width t1), (Str.ofString "digits", Value.ref dA), (Str.ofString "order", Value.ref oA)].lookup y), rfl, hR3, small_one (by (with_reducible decide)) (by (with_reducible decide)) (by (with_reducible exact o_nege (by assumption) (by decide))) (by (with_reducible exact o_lit (by assumption) (by decide))), ?_, F9, N9, ?_, ?_, ?_⟩
      · rw [rangeSize_nat]; simp
      · refine ⟨u1, a, news₁, ?_, rfl, hne, fun p hp => hp, hIa⟩
        exact map_ext3 (Str.ofString "deck") (Str.ofString "turn") (Str.ofString "digit") rfl rfl rfl fun y h1 h2 h3 => by simp only [if_neg h1, if_neg h2, if_neg h3]
      · clear F9 N9
        rintro j t m₂ news₃ h tk io2 I2 hj ⟨u, a, news₂, rfl, rfl, hne2, hsub2, hIa2⟩ hne3 F10 N10
        have hRs := inR_sq hRa j
        (repeat' (first | (k_unfold; (try dsimp only)) | ((fail_if_success k_end); (fail_if_success (with_reducible show wpAny _ _ (exec (PySem.Stmt.For _ _ _ _ _) _) _ _ _)); walk1) | (dsimp only; (fail_if_success k_end); (fail_if_success (with_reducible show wpAny _ _ (exec (PySem.Stmt.For _ _ _ _ _) _) _ _ _)); walk1)))
        refine ⟨X.keeps F10.keep, ?_⟩
        have hli := hIa2.li (News.sub N10 fun p hp => .tail _ (.tail _ hp))
        refine behind_spec (W'.keeps F10.keep) (by show A.depth + 1 + 1 < _; (with_reducible assumption)) hh hli hli (by rw [hRs.1]; exact hRs.2) (by rw [hRs.1]; (with_reducible exact Nat.le_trans (by assumption) (by decide))) (by rw [hRs.1]; (with_reducible exact Nat.le_trans (by assumption) (by decide))) fun a3 tk3 h3 hk3 hf3 hl3 => ?_
        refine new_lo F10 N10 hk3 hf3 hl3 fun o3 hl3 F11 N11 => ?_
        have ha3 : ∀ p ∈ (I2, io2) :: (IR, io) :: news₂, p.1 ≠ a3 := fun p hp e => by
          have h1 := (N10 p hp).1
          rw [e] at h1; rw [h1] at hf3; cases hf3
        clear F10 N10
        (repeat' (first | (k_unfold; (try dsimp only)) | ((fail_if_success k_end); (fail_if_success (with_reducible show wpAny _ _ (exec (PySem.Stmt.For _ _ _ _ _) _) _ _ _)); walk1) | (dsimp only; (fail_if_success k_end); (fail_if_success (with_reducible show wpAny _ _ (exec (PySem.Stmt.For _ _ _ _ _) _) _ _ _)); walk1)))
        rename Fr _ _ _ _ => F12
        rename News _ _ _ _ => N12
        refine ⟨_, _, _, (IR, io) :: (a3, o3) :: news₂, rfl, F12, News.sub N12 ?_, ?_, some (Value.int (0 + (j : Int)) t), a3, (a3, o3) :: news₂, ?_, rfl, ?_, (fun p hp => .tail _ (hsub2 p hp)), ⟨o3, .head _, hl3⟩⟩
        · intro p hp
          simp only [List.mem_cons] at hp ⊢
          rcases hp with h | h | h | h <;> simp [h]
        · intro p hp
          simp only [List.mem_cons] at hp
          rcases hp with h | h | h
          · exact hne3 p (by rw [h]; exact .head _)
          · rw [h]; exact Ne.symm (ha3 _ (.head _))
          · exact hne3 p (.tail _ h)
        · exact map_ext3 (Str.ofString "deck") (Str.ofString "turn") (Str.ofString "digit") rfl rfl rfl fun y h1 h2 h3 => by simp only [if_neg h1, if_neg h2, if_neg h3]
        · intro p hp
          rcases List.mem_cons.mp hp with h | h
          · rw [h]; exact Ne.symm (ha3 _ (.tail _ (.head _)))
          · exact hne2 p h
      · clear F9 N9
        rintro h tk m₂ news₃ F10 N10 ⟨u, a, news₂, rfl, rfl, hne2, hsub2, hIa2⟩
        have hRs := inR_sq hRa width.toNat
        have hdb := hdg dg (List.mem_of_getElem? hdg')
        have hdt : dg.toNat < vs.length := by
          have h1 : ((2 ^ width.toNat : Nat) : Int) = (2 : Int) ^ width.toNat := by simp
          (lia)
        obtain ⟨aP, hvP, hIP⟩ := hvs dg.toNat vs[dg.toNat] (by simp)
        have hRp := inR_pow ho dg.toNat
        have hIP2 := hIP.mono fun p hp => hsub2 p (hsub p (.tail _ hp))
        (repeat' (first | (k_unfold; (try dsimp only)) | ((fail_if_success k_end); (fail_if_success (with_reducible show wpAny _ _ (exec (PySem.Stmt.For _ _ _ _ _) _) _ _ _)); walk1) | (dsimp only; (fail_if_success k_end); (fail_if_success (with_reducible show wpAny _ _ (exec (PySem.Stmt.For _ _ _ _ _) _) _ _ _)); walk1)))
        refine item_val (isList_of (N10.get (.tail _ (hsub2 _ (hsub _ (.head _)))))) hdb.1 (x := Value.ref aP) (by simp [hdt, ← hvP]) hvz ?_
        (repeat' (first | (k_unfold; (try dsimp only)) | ((fail_if_success k_end); (fail_if_success (with_reducible show wpAny _ _ (exec (PySem.Stmt.For _ _ _ _ _) _) _ _ _)); walk1) | (dsimp only; (fail_if_success k_end); (fail_if_success (with_reducible show wpAny _ _ (exec (PySem.Stmt.For _ _ _ _ _) _) _ _ _)); walk1)))
        refine ⟨X.keeps F10.keep, ?_⟩
        have hli := hIa2.li (News.sub N10 fun p hp => .tail _ hp)
        have hlp := hIP2.li (News.sub N10 fun p hp => .tail _ hp)
        refine behind_spec (W'.keeps F10.keep) (by show A.depth + 1 + 1 < _; (with_reducible assumption)) hh hli hlp (by rw [hRs.1]; exact hRp.2) (by rw [hRs.1]; (with_reducible exact Nat.le_trans (by assumption) (by decide))) (by rw [hRp.1]; (with_reducible exact Nat.le_trans (by assumption) (by decide))) fun a3 tk3 h3 hk3 hf3 hl3 => ?_
        refine new_lo F10 N10 hk3 hf3 hl3 fun o3 hl3 F11 N11 => ?_
        have ha3 : ∀ p ∈ (IR, io) :: news₂, p.1 ≠ a3 := fun p hp e => by
          have h1 := (N10 p hp).1
          rw [e] at h1; rw [h1] at hf3; cases hf3
        clear F10 N10
        have hnext : (digits.reverse.take (i + 1)).foldl (manyStep order width.toNat) (idF order.length) = behindF (sqN width.toNat dk) (powP order dg.toNat) := by
          have h1 : digits.reverse[i]? = some dg := by
            rw [List.getElem?_reverse (by (with_reducible exact Nat.lt_of_lt_of_eq (by assumption) (by assumption))), ← hid.length]; exact hdg'
          rw [List.take_add_one, h1, List.foldl_append, hdk]
          rfl
        (repeat' (first | (k_unfold; (try dsimp only)) | ((fail_if_success k_end); (fail_if_success (with_reducible show wpAny _ _ (exec (PySem.Stmt.For _ _ _ _ _) _) _ _ _)); walk1) | (dsimp only; (fail_if_success k_end); (fail_if_success (with_reducible show wpAny _ _ (exec (PySem.Stmt.For _ _ _ _ _) _) _ _ _)); walk1)))
        rename Fr _ _ _ _ => F12
        rename News _ _ _ _ => N12
        refine ⟨_, _, _, (a3, o3) :: news₂, rfl, F12, News.sub N12 ?_, ?_, u, some (Value.int dg tg), a3, ?_, ⟨o3, .head _, hnext ▸ hl3⟩, hnext ▸ inR_behind hRs hRp, (fun p hp => .tail _ (hsub2 p (hsub p hp)))⟩
        · intro p hp
          simp only [List.mem_cons] at hp ⊢
          rcases hp with h | h | h <;> simp [h]
        · intro p hp
          rcases List.mem_cons.mp hp with h | h
          · rw [h]; exact Ne.symm (ha3 _ (.head _))
          · exact hne2 p h
        · exact map_ext3 (Str.ofString "deck") (Str.ofString "turn") (Str.ofString "digit") rfl rfl rfl fun y h1 h2 h3 => by simp only [if_neg h1, if_neg h2, if_neg h3]
    · rintro h tk m' news' Fi Ni ⟨u1, u2, a, rfl, hIa, hRa, hsub⟩
      subst hm1
      clear F8 N8
      (repeat' (first | (k_unfold; (try dsimp only)) | ((fail_if_success k_end); (fail_if_success (with_reducible show wpAny _ _ (exec (PySem.Stmt.For _ _ _ _ _) _) _ _ _)); walk1) | (dsimp only; (fail_if_success k_end); (fail_if_success (with_reducible show wpAny _ _ (exec (PySem.Stmt.For _ _ _ _ _) _) _ _ _)); walk1)))
      rw [hds, List.take_of_length_le (by simp)] at hIa
      obtain ⟨oa, hma, hla⟩ := id hIa
      exact ret a _ _ Fi.keep (Ni.fresh hma) (hIa.li Ni)
end Mine
end
section
open PySem PySem.W PyProof.Rows PySem.Calls
namespace Mine
theorem wd_fill_filled (w : World) (h : Heap) (_ : OpenLaw) (e : Challenge.rw_ph0098_01 = Challenge.rw_ph0098_01) : (hd.heap_39 w.params).In h → (hd.heap_39 w.params).In h ∧ Challenge.rw_ph0098_01 = Challenge.rw_ph0098_01 := by
  k_fill
  exact fun x => ⟨x, e⟩

def filledF (script spare : List Int) : List Int := (script ++ spare.drop script.length).take spare.length

set_option maxRecDepth 100000 in
set_option maxHeartbeats 4000000 in
theorem filled_spec {w : World} {A : Around} {s : Shared} {script spare : List Int} {sA pA : Addr} {t1 : Tok} {Q E : Value → Shared → Prop}
  (W : Wd w s.heap) (hd0 : A.depth + 2 < recursionLimit) (hh : A.handled = none) (hn : script.length ≤ 63) (hn2 : spare.length ≤ 63)
  (LS : ∃ vs, s.heap.IsList sA vs.toArray ∧ IntsAre vs script) (LP : LI s.heap pA spare)
  (ret : ∀ a tk h', KeepAll s.heap h' → s.heap.get? a = none → LI h' a (filledF script spare) → Q (.ref a) { s with heap := h', toks := tk }) :
  wpAny (model Challenge.rw_ph0098_01.row.prog w) A (call (.ref 91) [.ref sA, .int 0 t1, .ref pA]) Q E s := by
  have W' := W
  obtain ⟨X, p, loose, mean, mg, mb, T⟩ := W
  obtain ⟨vs, hls, his⟩ := LS
  obtain ⟨vp, hlp, hip⟩ := LP.isList
  have hsz : vs.toArray.size ≤ sizeLine := by have := his.length; have := sizeLine_eq; simp; (with_reducible exact o_szi (by assumption) (by assumption) (by decide))
  have hpz : vp.toArray.size ≤ sizeLine := by have := hip.length; have := sizeLine_eq; simp; (with_reducible exact o_szi (by assumption) (by assumption) (by decide))
  refine wpAny_call ?_
  k_dflt (refine' enter_plain (binds := [(Str.ofString "script", .ref sA), (Str.ofString "first", .int 0 t1), (Str.ofString "spare", .ref pA)]) ?k1 ?k2 ?k6 ?k7 ?k8 ?k9 ?kB ?_ ?c2 ?c3 ?c4 ?c5; (case k1 => k_asm); (case k2 => k_asm); (case k6 => k_is); (case k7 => k_is); (case k8 => (with_reducible exact o_dp0 (by assumption))); (case k9 => exact BindsTo.of_eq rfl); (case c5 => decide); (case kB => exact locs rfl); (case c2 => exact rfl); (case c3 => exact rfl); (case c4 => exact rfl))
  intro L' h₁ F' N'
  dsimp only
  have hzz := sizeLine_eq
  (repeat' (first | (k_unfold; (try dsimp only)) | ((fail_if_success k_end); (fail_if_success (with_reducible show wpAny _ _ (subscriptTail _ (PySem.Expr.Slice _ _ _ _) _ _) _ _ _)); walk1) | (dsimp only; (fail_if_success k_end); (fail_if_success (with_reducible show wpAny _ _ (subscriptTail _ (PySem.Expr.Slice _ _ _ _) _ _) _ _ _)); walk1)))
  refine kmk_slice_ints (by k_asm) (by k_asm) (hls.at fun _ e => F'.keep _ _ e) (.int _ _) .none his (kmk_from his (by (with_reducible exact Int.le_refl _))) rfl (fun D1 ws1 h2 F2 N2 l1 hI1 _ _ => ?_) (by with_unfolding_all rfl) (by kmk_pure) hsz
  clear F' N'
  (repeat' (first | (k_unfold; (try dsimp only)) | ((fail_if_success k_end); (fail_if_success (with_reducible show wpAny _ _ (subscriptTail _ (PySem.Expr.Slice _ _ _ _) _ _) _ _ _)); walk1) | (dsimp only; (fail_if_success k_end); (fail_if_success (with_reducible show wpAny _ _ (subscriptTail _ (PySem.Expr.Slice _ _ _ _) _ _) _ _ _)); walk1)))
  refine kmk_slice_ints (by k_asm) (by k_asm) (hls.at fun _ e => F2.keep _ _ e) (.int _ _) .none his (kmk_from his (by (with_reducible exact Int.le_refl _))) rfl (fun D2 ws2 h3 F3 N3 l2 hI2 _ _ => ?_) (by with_unfolding_all rfl) (by kmk_pure) hsz
  clear F2 N2
  have hz2 : ws2.toArray.size ≤ sizeLine := by have := hI2.length; simp at this ⊢; (with_reducible exact o_szi (by assumption) (by assumption) (by decide))
  have hz1 : ws1.toArray.size ≤ sizeLine := by have := hI1.length; simp at this ⊢; (with_reducible exact o_szi (by assumption) (by assumption) (by decide))
  (repeat' (first | (k_unfold; (try dsimp only)) | ((fail_if_success k_end); (fail_if_success (with_reducible show wpAny _ _ (subscriptTail _ (PySem.Expr.Slice _ _ _ _) _ _) _ _ _)); walk1) | (dsimp only; (fail_if_success k_end); (fail_if_success (with_reducible show wpAny _ _ (subscriptTail _ (PySem.Expr.Slice _ _ _ _) _ _) _ _ _)); walk1)))
  refine kmk_slice_ints (by k_asm) (by k_asm) (hlp.at fun _ e => F3.keep _ _ e) (.int _ _) .none hip (kmk_from hip (by (with_reducible exact Int.natCast_nonneg _))) rfl (fun D3 ws3 h4 F4 N4 l3 hI3 _ _ => ?_) (by with_unfolding_all rfl) (by kmk_pure) hpz
  clear F3 N3
  have hz3 : ws3.toArray.size ≤ sizeLine := by have := hI3.length; simp at this ⊢; (lia)
  (repeat' (first | (k_unfold; (try dsimp only)) | ((fail_if_success k_end); (fail_if_success (with_reducible show wpAny _ _ (subscriptTail _ (PySem.Expr.Slice _ _ _ _) _ _) _ _ _)); walk1) | (dsimp only; (fail_if_success k_end); (fail_if_success (with_reducible show wpAny _ _ (subscriptTail _ (PySem.Expr.Slice _ _ _ _) _ _) _ _ _)); walk1)))
  rename_i D4 ws4 h5 F5 N5 hI4 l4
  have hz4 : ws4.toArray.size ≤ sizeLine := by have := hI4.length; simp at this ⊢; (lia)
  refine kba_turn (value' := PySem.Expr.Name (PySem.Str.ofString "script") ⟨0, 0, 0, 0⟩) (fun _ => rfl) ?_
  refine kmk_slice_ints (by k_asm) (by k_asm) (isList_of (N5.get (.head _))) .none (.int _ _) hI4 (kmk_upto hI4 (by (with_reducible exact Int.natCast_nonneg _))) rfl (fun D6 ws6 h6 F6 N6 l6 hI6 _ _ => ?_) (by with_unfolding_all rfl) (by kmk_pure) hz4
  refine ret D6 _ _ F6.keep (N6.fresh (.head _)) ⟨ws6, _, N6.get (.head _), ?_⟩
  unfold filledF
  simpa using hI6
end Mine
end
section
open PySem PySem.W PyProof.Rows PySem.Calls
namespace Mine
inductive ListTP (prog : Program) (w : World) (A : Around) (env : Env) (h₀ : Heap) (target : Expr) (body : List Stmt) (Q : Flow → Shared → Prop) (xv : Value) (s₁ : Shared) : Prop
  | mk (l : Addr) (items : Array Value) (m : Str → Option Value) (news : List (Addr × Obj)) (fpk : List (Addr × Obj)) (J : Nat → (Str → Option Value) → List (Addr × Obj) → Prop) (e : xv = .ref l) (hl : s₁.heap.IsList l items) (hin : (∃ o, h₀.get? l = some o) ∨ ∃ o, (l, o) ∈ fpk)
      (F : Fr h₀ env.locals s₁.heap m) (N : News h₀ env.locals s₁.heap news) (hJk : ∀ i m news, J i m news → ∀ p ∈ fpk, p ∈ news) (h0 : J 0 m news)
      (turn : ∀ i v m₁ news₁ h tk io I, items[i]? = some v → J i m₁ news₁ → (∀ p ∈ news₁, p.1 ≠ I) → Fr h₀ env.locals h m₁ → News h₀ env.locals h ((I, io) :: news₁) →
        wpAny (model prog w) A (assign target env v) (fun _ s₂ => wpAny (model prog w) A (execs body env) (Turn h₀ env.locals I io (J (i + 1)) s₁ Q) (fun _ _ => False) s₂) (fun _ _ => False) { s₁ with heap := h, toks := tk })
      (done : ∀ h tk m' news', Fr h₀ env.locals h m' → News h₀ env.locals h news' → J items.size m' news' → Q .next { s₁ with heap := h, toks := tk })
section
variable {prog : Program} {w : World} {A : Around} {s : Shared} {env : Env} {h₀ : Heap}
theorem forLoopT {R : Result → Shared → Prop} {target it body orelse env} (I : Nat → Shared → Prop)
    (turn : ∀ n s, I n s → wpAny (model prog w) A (pyNext it) (fun r s₁ => match r with
      | none => wpAny (model prog w) A (execs orelse env) (fun f s₃ => R (.ok f) s₃) (notedBy (model prog w) A env fun e s' => R (.error e) s') s₁
      | some v => wpAny (model prog w) A (letOwnedTupleGo target it v) (fun _ s₁ => wpAny (model prog w) A (assign target env v) (fun _ s₂ => wpAny (model prog w) A (execs body env) (fun f s₃ => match f with
          | .next | .cont => ∃ m, m < n ∧ I m s₃
          | .brk => R (.ok .next) s₃
          | .ret v => R (.ok (.ret v)) s₃) (notedBy (model prog w) A env fun e s' => R (.error e) s') s₂) (notedBy (model prog w) A env fun e s' => R (.error e) s') s₁) (notedBy (model prog w) A env fun e s' => R (.error e) s') s₁) (notedBy (model prog w) A env fun e s' => R (.error e) s') s)
    (n : Nat) (h : I n s) : codeAny (model prog w) A (.forLoop target it body orelse env) R s := by
  refine codeAny_loop' rfl I (fun n s hI => ?_) n h
  show wpAny _ _ ((forTurn target it body orelse env).onRaise (fun x => do noteFrame x env; theTreesLotGoes x)) _ _ s
  refine wpAny_noted ?_
  simp only [forTurn]
  refine wpAny_bind (wpAny_standAt (wpAny_bind (wpAny_onRaise (wpAny_mono (turn n s hI) (fun r s₁ h₁ => ?_) fun _ _ h' => wpAny_standAt h'))))
  cases r with
  | none => exact wpAny_pure (.inr ⟨rfl, codeAny_block h₁⟩)
  | some v =>
    refine wpAny_bind (wpAny_mono h₁ (fun _ s₂ h₂ => ?_) fun _ _ h' => h')
    refine wpAny_bind (wpAny_mono h₂ (fun _ s₂ h₂ => wpAny_bind (wpAny_mono h₂ (fun f s₃ h₃ => ?_) fun _ _ h' => h')) fun _ _ h' => h')
    cases f with
    | next => exact wpAny_pure (.inl ⟨rfl, h₃⟩)
    | cont => exact wpAny_pure (.inl ⟨rfl, h₃⟩)
    | brk => exact wpAny_pure h₃
    | ret v => exact wpAny_pure h₃

theorem loop_frT {R : Result → Shared → Prop} {target : Expr} {body : List Stmt} {I : Addr} {fp : List Addr} {n : Nat} {P : Nat → Value → Prop} {St : Nat → Heap → Prop} {m : Str → Option Value}
    {news : List (Addr × Obj)} (W : Walks prog w A I fp [I] n P St) (fpk : List (Addr × Obj)) (hfp : ∀ b ∈ fp, b = I ∨ (∃ o, h₀.get? b = some o) ∨ ∃ o, (b, o) ∈ fpk) (ht : ∀ i v (s : Shared) (Q : Unit → Shared → Prop) (E : Value → Shared → Prop), St i s.heap → Q () s → wpAny (model prog w) A (letOwnedTupleGo target (.ref I) v) Q E s)
    (hLf : env.locals ∉ fp) (hwr : h₀.get? I = none) (hnw : ∀ p ∈ news, p.1 ≠ I)
    (hthere : ∀ i h, St i h → ∃ o, h.get? I = some o) (hst : St 0 s.heap) (F : Fr h₀ env.locals s.heap m) (N : News h₀ env.locals s.heap news)
    (J : Nat → (Str → Option Value) → List (Addr × Obj) → Prop) (hJk : ∀ i m news, J i m news → ∀ p ∈ fpk, p ∈ news) (h0 : J 0 m news)
    (step : ∀ i v m₁ news₁ s₁ io, (∃ h tk, s₁ = { s with heap := h, toks := tk }) → i < n → P i v → J i m₁ news₁ → (∀ p ∈ news₁, p.1 ≠ I) → St (i + 1) s₁.heap →
      Fr h₀ env.locals s₁.heap m₁ → News h₀ env.locals s₁.heap ((I, io) :: news₁) →
      wpAny (model prog w) A (assign target env v) (fun _ s₂ => wpAny (model prog w) A (execs body env) (Turn h₀ env.locals I io (J (i + 1)) s (fun f s' => R (.ok f) s')) (fun _ _ => False) s₂) (fun _ _ => False) s₁)
    (hR : ∀ h' tk m' news', Fr h₀ env.locals h' m' → News h₀ env.locals h' news' → (∀ p ∈ news', p.1 ≠ I) → J n m' news' → R (.ok .next) { s with heap := h', toks := tk }) :
    codeAny (model prog w) A (.forLoop target (.ref I) body [] env) R s := by
  have hLI : env.locals ≠ I := fun h => hLf (W.sub _ (List.mem_singleton.mpr h))
  refine forLoopT
    (LoopI h₀ env.locals I n St J s) ?_ (n + 1)
    ⟨s.heap, s.toks, m, news, 0, rfl, hst, F, N, hnw, h0, Nat.zero_le _, rfl⟩
  rintro k s' ⟨h', tk, m', news', i, rfl, hst', F', N', hnw', hJ, hi, rfl⟩
  have next : ∀ h₁ : Heap, (∀ b o, b ∉ [I] → h'.get? b = some o → h₁.get? b = some o) → Fr h₀ env.locals h₁ m' ∧ News h₀ env.locals h₁ news' := fun h₁ hk₁ =>
    ⟨⟨F'.ns.at' fun o e => hk₁ _ o (fun h => hLI (List.mem_singleton.mp h)) e, fun b o e => hk₁ b o (fun h => by rw [List.mem_singleton.mp h, hwr] at e; cases e) (F'.keep b o e), F'.above⟩,
      fun p hp => ⟨hk₁ _ _ (fun h => hnw' p hp (List.mem_singleton.mp h)) (N' p hp).1, (N' p hp).2⟩⟩
  by_cases hlt : i < n
  · refine W.item i _ _ _ hlt hst' fun v h₁ tk₁ hP hst₁ hk₁ => ?_
    refine ht _ v _ _ _ hst₁ ?_
    obtain ⟨F₁, N₁⟩ := next h₁ hk₁
    obtain ⟨io, hio⟩ := hthere _ _ hst₁
    have Nown : News h₀ env.locals h₁ ((I, io) :: news') := fun p hp => by
      rcases List.mem_cons.mp hp with rfl | hp
      · exact ⟨hio, Ne.symm hLI, hwr⟩
      · exact N₁ p hp
    refine wpAny_mono (step i v m' news' { s with heap := h₁, toks := tk₁ } io ⟨_, _, rfl⟩ hlt hP hJ hnw' hst₁ F₁ Nown) (fun _ s₂ h₂ => ?_) fun _ _ e => e.elim
    refine wpAny_mono h₂ (fun f s₃ h₃ => ?_) fun _ _ e => e.elim
    have fin : ∀ {s₃ : Shared}, TurnN h₀ env.locals I io (J (i + 1)) s s₃ → ∃ m, m < n + 1 - i ∧ LoopI h₀ env.locals I n St J s m s₃ := by
      rintro s₃ ⟨h₃', tk₃, m₂, news₂, rfl, F₃, N₃, ha₃, hJ₃⟩
      refine ⟨n + 1 - (i + 1), loop_lt hlt, h₃', tk₃, m₂, news₂, i + 1, rfl, ?_, F₃, fun p hp => N₃ p (.tail _ hp), ha₃, hJ₃, hlt, rfl⟩
      refine W.frame _ _ _ hst₁ fun b hb o e => ?_
      rcases hfp b hb with rfl | ⟨o₀, hn⟩ | ⟨o₀, hn⟩
      · rw [hio] at e; cases e; exact (N₃ _ (.head _)).1
      rotate_left
      · have e1 := (N₁ _ (hJk _ _ _ hJ _ hn)).1
        have e2 := (N₃ _ (.tail _ (hJk _ _ _ hJ₃ _ hn))).1
        dsimp only at e1 e2
        rw [e] at e1; cases e1; exact e2
      · have : o₀ = o := by have := F₁.keep b o₀ hn; rw [e] at this; exact (Option.some.inj this).symm
        exact this ▸ F₃.keep b o₀ hn
    cases f with
    | ret v => exact h₃
    | brk => exact h₃
    | cont => exact fin h₃
    | next => exact fin h₃
  · have hin : i = n := Nat.le_antisymm hi (Nat.le_of_not_lt hlt)
    subst hin
    refine W.done _ _ _ hst' fun h₁ tk₁ hk₁ => wpAny_execs_nil ?_
    obtain ⟨F₁, N₁⟩ := next h₁ hk₁
    exact hR h₁ tk₁ m' news' F₁ N₁ hnw' hJ

/-- for x in (a list that stands through the loop): items by their places -/
theorem list_forT {Q : Flow → Shared → Prop} {target : Expr} {pos : Pos} {iter : Expr} {body : List Stmt}
    (hh : A.handled = none)
    (h : wpAny (model prog w) A (eval iter env) (ListTP prog w A env h₀ target body Q) (fun _ _ => False) s)
    (hs : ∀ x, foldedSetIterable iter env x = pure x := by intro _; rfl) :
    wpAny (model prog w) A (exec (.For target iter body [] pos) env) Q (fun _ _ => False) s := by
  refine wpAny_For (wpAny_mono h (fun xv s₁ h₁ => ?_) fun _ _ e => e) hs
  obtain ⟨l, items, m, news, fpk, J, rfl, hls, hin, F, N, hJk, h0, turn, done⟩ := h₁
  have hLl := list_not_locals hls F.ns
  obtain ⟨ol, hol, _⟩ := id hls
  have hlt : l < s₁.heap.objs.size := Heap.lt_size hol
  have hne : l ≠ s₁.heap.objs.size := Nat.ne_of_lt hlt
  refine wpAny_pyIter_list hls ?_
  have W := Walks.list (prog := prog) (w := w) hh s₁.heap.objs.size l hne items
  refine loop_frT (R := fun r s' => match r with | .ok f => Q f s' | .error e => cameBackBy (model prog w) A env (fun _ _ => False) e s') W fpk ?_ (fun i v s Q E st q => letGo_listiter st.1 q) ?_ (next_is_new F) ?_ (fun i h st => let ⟨o, e, _⟩ := st.1; ⟨o, e⟩)
    ⟨⟨_, Heap.get?_push_size _ rfl, rfl, rfl⟩, hls.at fun o e => Heap.get?_push_of_some _ e⟩ (F.push _) (fun p hp => ⟨Heap.get?_push_of_some _ (N p hp).1, (N p hp).2⟩) J hJk h0 ?_ ?_
  · intro b hb
    rcases List.mem_cons.mp hb with e | hb
    · exact .inl e
    · exact .inr ((List.mem_singleton.mp hb) ▸ hin)
  · intro hm
    rcases List.mem_cons.mp hm with e | hm
    · exact absurd F.ns.lt (e ▸ Nat.lt_irrefl _)
    · exact hLl (List.mem_singleton.mp hm)
  · intro p hp hI
    exact absurd (Heap.lt_size (N p hp).1) (hI ▸ Nat.lt_irrefl _)
  · rintro i v m₁ news₁ s₂ io ⟨h₂, tk₂, rfl⟩ hi hP hJ hne' _ F₁ N₁
    exact wpAny_mono (turn i v m₁ news₁ h₂ tk₂ io _ hP hJ hne' F₁ N₁) (fun _ s₄ h₄ => wpAny_mono h₄ (fun f s₅ h₅ => h₅.of) fun _ _ e => e) fun _ _ e => e
  · intro h' tk m' news' F' N' _ hJ
    exact done h' tk m' news' F' N' hJ

end
end Mine
end
section
open PySem PySem.W PyProof.Rows PySem.Calls
namespace Mine
theorem wd_fill_cmp (w : World) (h : Heap) (_ : OpenLaw) (e : Challenge.rw_ph0098_01 = Challenge.rw_ph0098_01) : (hd.heap_39 w.params).In h → (hd.heap_39 w.params).In h ∧ Challenge.rw_ph0098_01 = Challenge.rw_ph0098_01 := by
  k_fill
  exact fun x => ⟨x, e⟩

/-- a tuple of ints in a heap -/
inductive TI (h : Heap) (a : Addr) (ns : List Int) : Prop
  | mk (vs : List Value) (n : Nat) (e : h.get? a = some { cls := .type "tuple", data := .seq (List.toArray vs) n }) (i : IntsAre vs ns)
theorem TI.keeps {h h' : Heap} {a : Addr} {ns : List Int} (x : TI h a ns) (k : KeepAll h h') : TI h' a ns := let ⟨vs, n, e, i⟩ := x; ⟨vs, n, k _ _ e, i⟩
theorem TI.isTup {h : Heap} {a : Addr} {ns : List Int} (x : TI h a ns) : ∃ vs, IsTup h a vs.toArray ∧ IntsAre vs ns := let ⟨vs, n, e, i⟩ := x; ⟨vs, ⟨_, e, rfl, n, rfl⟩, i⟩
/-- a TupleComp with its two (index, direction) pairs -/
inductive CompAt (h : Heap) (x : Addr) (i0 d0 i1 d1 : Int) : Prop
  | mk : ∀ dx hsh tk n sl a1 a2 nl, h.get? x = some (instObj 38 dx) → h.get? dx = some (dictOf [⟨hsh, .str (Str.ofString "comp_select_list") tk, .ref sl⟩] n) → h.get? sl = some (W.listOf #[.ref a1, .ref a2] nl) → TI h a1 [i0, d0] → TI h a2 [i1, d1] → CompAt h x i0 d0 i1 d1
theorem CompAt.keeps {h h' : Heap} {x : Addr} {i0 d0 i1 d1 : Int} (c : CompAt h x i0 d0 i1 d1) (k : KeepAll h h') : CompAt h' x i0 d0 i1 d1 :=
  let ⟨dx, hsh, tk, n, sl, a1, a2, nl, e1, e2, e3, e4, e5⟩ := c; ⟨dx, hsh, tk, n, sl, a1, a2, nl, k _ _ e1, k _ _ e2, k _ _ e3, e4.keeps k, e5.keeps k⟩
def cmpF (i0 d0 i1 d1 : Int) (l r : List Int) : Int :=
  if l.getD i0.toNat 0 < r.getD i0.toNat 0 then -d0 else if r.getD i0.toNat 0 < l.getD i0.toNat 0 then d0
  else if l.getD i1.toNat 0 < r.getD i1.toNat 0 then -d1 else if r.getD i1.toNat 0 < l.getD i1.toNat 0 then d1 else 0

theorem item_tup {prog : Program} {w : World} {A : Around} {E : Value → Shared → Prop} {s : Shared} {value slice : Expr} {l : Addr} {vs : List Value} {ns : List Int} {k : Int} {u : Tok} {Q : Value → Shared → Prop}
    (hl : IsTup s.heap l vs.toArray) (hi : IntsAre vs ns) (h0 : 0 ≤ k) (h1 : k < ns.length) (hz : ns.length ≤ sizeLine) (h : ∀ t, Q (.int (ns.getD k.toNat 0) t) s)
    (hs : subscripted slice false (.ref l) (.int k u) = operate [.ref l, .int k u] (getItem (.ref l) (.int k u)) := by with_unfolding_all rfl) :
    wpAny (model prog w) A (subscriptTail value slice (.ref l) (.int k u)) Q E s := by
  have hlt : k.toNat < ns.length := by (with_reducible exact o_tlt (by assumption) (by assumption))
  have hvl := hi.length
  obtain ⟨t, ht⟩ := hi.get k.toNat ns[k.toNat] (by simp [hlt])
  have e : ns.getD k.toNat 0 = ns[k.toNat] := by simp [List.getD, hlt]
  have hz' := sizeLine_eq
  refine item_tupleT hl (by (with_reducible exact o_nege (by assumption) (by decide))) (by (lia)) (j := k.toNat) ?_ ht (e ▸ h t) hs
  unfold seqIndex?
  simp only [show ¬ k < 0 by (lia), if_false]
  rw [if_pos (by simp; (lia))]

inductive CmpJ (rA lA x : Addr) (p q : Prop) (i : Nat) (m : Str → Option Value) (news : List (Addr × Obj)) : Prop
  | mk (u1 u2 u3 u4 : Option Value) (em : m = (fun y => if y = Str.ofString "index" then u1 else if y = Str.ofString "direction" then u2 else if y = Str.ofString "l" then u3 else if y = Str.ofString "r" then u4 else [(Str.ofString "right", Value.ref rA), (Str.ofString "left", Value.ref lA), (Str.ofString "self", Value.ref x)].lookup y)) (en : news = [])
    (hj1 : 0 < i → p) (hj2 : 1 < i → q)
set_option maxRecDepth 100000 in
set_option maxHeartbeats 4000000 in
theorem compare_spec {w : World} {A : Around} {s : Shared} {x lA rA : Addr} {i0 d0 i1 d1 l0 l1 l2 r0 r1 r2 : Int} {Q E : Value → Shared → Prop}
  (W : Wd w s.heap) (hd0 : A.depth + 2 < recursionLimit) (hh : A.handled = none) (hi0 : 0 ≤ i0 ∧ i0 < 2) (hi1 : 0 ≤ i1 ∧ i1 < 2)
  (C : CompAt s.heap x i0 d0 i1 d1) (TL : TI s.heap lA [l0, l1, l2]) (TR : TI s.heap rA [r0, r1, r2])
  (ret : ∀ t tk h', KeepAll s.heap h' → Q (.int (cmpF i0 d0 i1 d1 [l0, l1, l2] [r0, r1, r2]) t) { s with heap := h', toks := tk }) :
  wpAny (model Challenge.rw_ph0098_01.row.prog w) A (call (.ref 35) [.ref x, .ref lA, .ref rA]) Q E s := by
  have W' := W
  obtain ⟨X, p, loose, mean, mg, mb, T⟩ := W
  obtain ⟨dx, hsh, tkd, nd, sl, a1, a2, nl, e1, e2, e3, e4, e5⟩ := C
  have I0 : InstAt s.heap x (instObj 38 dx) 38 (some (dictOf [⟨hsh, .str (Str.ofString "comp_select_list") tkd, .ref sl⟩] nd)) := ⟨e1, rfl, rfl, e2⟩
  refine wpAny_call ?_
  k_dflt (refine' enter_plain (binds := [(Str.ofString "self", .ref x), (Str.ofString "left", .ref lA), (Str.ofString "right", .ref rA)]) ?k1 ?k2 ?k6 ?k7 ?k8 ?k9 ?kB ?_ ?c2 ?c3 ?c4 ?c5; (case k1 => k_asm); (case k2 => k_asm); (case k6 => k_is); (case k7 => k_is); (case k8 => (with_reducible exact o_dp0 (by assumption))); (case k9 => exact BindsTo.of_eq rfl); (case c5 => decide); (case kB => exact locs rfl); (case c2 => exact rfl); (case c3 => exact rfl); (case c4 => exact rfl))
  intro L' h₁ F' N'
  dsimp only
  (repeat' (first | (k_unfold; (try dsimp only)) | ((fail_if_success k_end); (fail_if_success (with_reducible show wpAny _ _ (exec (PySem.Stmt.For _ _ _ _ _) _) _ _ _)); walk1) | (dsimp only; (fail_if_success k_end); (fail_if_success (with_reducible show wpAny _ _ (exec (PySem.Stmt.For _ _ _ _ _) _) _ _ _)); walk1)))
  refine list_forT (h₀ := s.heap) hh ?_ (by intro _; with_unfolding_all rfl)
  (repeat' (first | (k_unfold; (try dsimp only)) | ((fail_if_success k_end); (fail_if_success (with_reducible show wpAny _ _ (exec (PySem.Stmt.For _ _ _ _ _) _) _ _ _)); walk1) | (dsimp only; (fail_if_success k_end); (fail_if_success (with_reducible show wpAny _ _ (exec (PySem.Stmt.For _ _ _ _ _) _) _ _ _)); walk1)))
  k_dflt (refine' get_own ?k1 ?k2 ?k3 ?k4 ?k5 ?k6 ?k7 ?k8 ?k9 ?_; (case k1 => k_asm); (case k2 => k_asm); (case k3 => exact ⟨F'.keep _ _ e1, rfl, rfl, F'.keep _ _ e2⟩); (case k4 => k_is); (case k5 => k_is); (case k6 => k_is); (case k7 => k_is); (case k8 => k_get); (case k9 => k_handed))
  have hcells : ∀ i : Nat, i = 0 ∨ i = 1 ∨ (2 ≤ i) := by (lia)
  refine ⟨sl, #[.ref a1, .ref a2], _, [], [], CmpJ rA lA x ([l0, l1, l2].getD i0.toNat 0 = [r0, r1, r2].getD i0.toNat 0) ([l0, l1, l2].getD i1.toNat 0 = [r0, r1, r2].getD i1.toNat 0), rfl, ⟨_, F'.keep _ _ e3, rfl, _, rfl⟩, .inl ⟨_, e3⟩, F', N', (fun _ _ _ _ _ h => nomatch h), ?_, ?_, ?_⟩
  · refine ⟨none, none, none, none, ?_, rfl, by (lia), by (lia)⟩
    funext y
    by_cases h1 : y = Str.ofString "index"
    · subst h1; rfl
    by_cases h2 : y = Str.ofString "direction"
    · subst h2; rfl
    by_cases h3 : y = Str.ofString "l"
    · subst h3; rfl
    by_cases h4 : y = Str.ofString "r"
    · subst h4; rfl
    simp only [if_neg h1, if_neg h2, if_neg h3, if_neg h4]; rfl
  · rintro i v m₁ news₁ h tk io I hv ⟨u1, u2, u3, u4, rfl, rfl, hj1, hj2⟩ hne Fi Ni
    clear F' N'
    obtain ⟨a, j, d, hva, hta, hjb, hjd⟩ : ∃ a j d, v = Value.ref a ∧ TI s.heap a [j, d] ∧ (0 ≤ j ∧ j < 2) ∧ ((i = 0 ∧ j = i0 ∧ d = d0) ∨ (i = 1 ∧ j = i1 ∧ d = d1)) := by
      rcases i with _ | _ | i
      · simp at hv; exact ⟨a1, i0, d0, hv.symm, e4, hi0, .inl ⟨rfl, rfl, rfl⟩⟩
      · simp at hv; exact ⟨a2, i1, d1, hv.symm, e5, hi1, .inr ⟨rfl, rfl, rfl⟩⟩
      · simp at hv
    subst hva
    obtain ⟨va, hva, hia⟩ := hta.isTup
    obtain ⟨tj, vb, rfl, hib⟩ := hia.cons_inv
    obtain ⟨td, vc, rfl, hic⟩ := hib.cons_inv
    obtain rfl := hic.nil_inv
    refine unpackN_ Fi Ni (hva.keeps Fi.keep) hh rfl rfl fun h5 F5 N5 => ?_
    clear Fi Ni
    (repeat' (first | (k_unfold; (try dsimp only)) | ((fail_if_success k_end); (fail_if_success (with_reducible show wpAny _ _ (exec (PySem.Stmt.For _ _ _ _ _) _) _ _ _)); walk1) | (dsimp only; (fail_if_success k_end); (fail_if_success (with_reducible show wpAny _ _ (exec (PySem.Stmt.For _ _ _ _ _) _) _ _ _)); walk1)))
    obtain ⟨vl, htl, hil⟩ := TL.isTup
    obtain ⟨vr, htr, hir⟩ := TR.isTup
    have hzz := sizeLine_eq
    rename Fr _ _ _ _ => F6
    refine item_tup (htl.keeps F6.keep) hil hjb.1 (by simp; (lia)) (by simp; (with_reducible decide)) fun t1 => ?_
    (repeat' (first | (k_unfold; (try dsimp only)) | ((fail_if_success k_end); (fail_if_success (with_reducible show wpAny _ _ (exec (PySem.Stmt.For _ _ _ _ _) _) _ _ _)); walk1) | (dsimp only; (fail_if_success k_end); (fail_if_success (with_reducible show wpAny _ _ (exec (PySem.Stmt.For _ _ _ _ _) _) _ _ _)); walk1)))
    rename Fr _ _ _ _ => F7
    refine item_tup (htr.keeps F7.keep) hir hjb.1 (by simp; (lia)) (by simp; (with_reducible decide)) fun t2 => ?_
    (repeat' (first | (k_unfold; (try dsimp only)) | ((fail_if_success k_end); (fail_if_success (with_reducible show wpAny _ _ (exec (PySem.Stmt.For _ _ _ _ _) _) _ _ _)); walk1) | (dsimp only; (fail_if_success k_end); (fail_if_success (with_reducible show wpAny _ _ (exec (PySem.Stmt.For _ _ _ _ _) _) _ _ _)); walk1)))
    · rename [l0, l1, l2].getD j.toNat 0 < [r0, r1, r2].getD j.toNat 0 => hc
      rename Fr _ _ _ _ => F8
      dsimp only [Turn]
      have hres : -d = cmpF i0 d0 i1 d1 [l0, l1, l2] [r0, r1, r2] := by
        unfold cmpF
        rcases hjd with ⟨rfl, rfl, rfl⟩ | ⟨rfl, rfl, rfl⟩
        · rw [if_pos hc]
        · rw [hj1 (by (with_reducible exact Nat.lt_succ_self _)), if_neg (Int.lt_irrefl _), if_neg (Int.lt_irrefl _), if_pos hc]
      rw [hres]
      exact ret _ _ _ F8.keep
    · rename [r0, r1, r2].getD j.toNat 0 < [l0, l1, l2].getD j.toNat 0 => hc
      rename Fr _ _ _ _ => F8
      dsimp only [Turn]
      have hres : d = cmpF i0 d0 i1 d1 [l0, l1, l2] [r0, r1, r2] := by
        unfold cmpF
        rcases hjd with ⟨rfl, rfl, rfl⟩ | ⟨rfl, rfl, rfl⟩
        · rw [if_neg (by (with_reducible assumption)), if_pos hc]
        · rw [hj1 (by (with_reducible exact Nat.lt_succ_self _)), if_neg (Int.lt_irrefl _), if_neg (Int.lt_irrefl _), if_neg (by (with_reducible assumption)), if_pos hc]
      rw [hres]
      exact ret _ _ _ F8.keep
    · rename ¬ [l0, l1, l2].getD j.toNat 0 < [r0, r1, r2].getD j.toNat 0 => hc1
      rename ¬ [r0, r1, r2].getD j.toNat 0 < [l0, l1, l2].getD j.toNat 0 => hc2
      rename Fr _ _ _ _ => F8
      rename News _ _ _ _ => N8
      refine ⟨_, _, _, [], rfl, F8, N8, (fun _ h => nomatch h), some (Value.int j tj), some (Value.int d td), some (Value.int ([l0, l1, l2].getD j.toNat 0) t1), some (Value.int ([r0, r1, r2].getD j.toNat 0) t2), ?_, rfl, ?_, ?_⟩
      · funext y
        by_cases h1 : y = Str.ofString "index"
        · subst h1; rfl
        by_cases h2 : y = Str.ofString "direction"
        · subst h2; rfl
        by_cases h3 : y = Str.ofString "l"
        · subst h3; rfl
        by_cases h4 : y = Str.ofString "r"
        · subst h4; rfl
        simp only [if_neg h1, if_neg h2, if_neg h3, if_neg h4]
      · intro _
        rcases hjd with ⟨rfl, rfl, rfl⟩ | ⟨rfl, rfl, rfl⟩
        · (lia)
        · exact hj1 (by (with_reducible exact Nat.lt_succ_self _))
      · intro hi2
        rcases hjd with ⟨rfl, rfl, rfl⟩ | ⟨rfl, rfl, rfl⟩
        · (lia)
        · (lia)
  · rintro h tk m' news' Fi Ni ⟨u1, u2, u3, u4, rfl, rfl, hj1, hj2⟩
    (repeat' (first | (k_unfold; (try dsimp only)) | ((fail_if_success k_end); (fail_if_success (with_reducible show wpAny _ _ (exec (PySem.Stmt.For _ _ _ _ _) _) _ _ _)); walk1) | (dsimp only; (fail_if_success k_end); (fail_if_success (with_reducible show wpAny _ _ (exec (PySem.Stmt.For _ _ _ _ _) _) _ _ _)); walk1)))
    have hres : 0 = cmpF i0 d0 i1 d1 [l0, l1, l2] [r0, r1, r2] := by
      unfold cmpF
      rw [hj1 (by simp), hj2 (by simp)]
      simp
    rw [hres]
    exact ret _ _ _ Fi.keep
end Mine
end
section
open PySem PySem.W PyProof.Rows PySem.Calls
namespace Mine
theorem wd_fill_deal (w : World) (h : Heap) (_ : OpenLaw) (e : Challenge.rw_ph0098_01 = Challenge.rw_ph0098_01) : (hd.heap_39 w.params).In h → (hd.heap_39 w.params).In h ∧ Challenge.rw_ph0098_01 = Challenge.rw_ph0098_01 := by
  k_fill
  exact fun x => ⟨x, e⟩

/-- the ints of a tuple that v refers to -/
def rowOf (h : Heap) (v : Value) : List Int := match v with
  | .ref b => (match h.get? b with
    | some o => (match o.data with | .seq vs _ => vs.toList.map numOf | _ => [])
    | none => [])
  | _ => []
def IsRow (h : Heap) (v : Value) : Prop := ∃ b r0 r1 r2, v = Value.ref b ∧ TI h b [r0, r1, r2]
theorem rowOf_ti {h : Heap} {b : Addr} {ns : List Int} (x : TI h b ns) : rowOf h (.ref b) = ns := by
  obtain ⟨vs, n, e, i⟩ := x
  simp only [rowOf, e]
  simpa using i.nums
theorem IsRow.row {h : Heap} {v : Value} (x : IsRow h v) : ∃ b r0 r1 r2, v = Value.ref b ∧ TI h b [r0, r1, r2] ∧ rowOf h v = [r0, r1, r2] :=
  let ⟨b, r0, r1, r2, e, t⟩ := x; ⟨b, r0, r1, r2, e, t, e ▸ rowOf_ti t⟩

def insV (lt : Value → Value → Bool) (vs : List Value) (v : Value) : List Value := vs.take (vs.filter fun one => lt one v).length ++ v :: vs.drop (vs.filter fun one => lt one v).length
def insF (lt : List Int → List Int → Bool) (vs : List (List Int)) (v : List Int) : List (List Int) := vs.take (vs.filter fun one => lt one v).length ++ v :: vs.drop (vs.filter fun one => lt one v).length
def dealF (lt : List Int → List Int → Bool) (rows : List (List Int)) : List Int := (rows.foldl (insF lt) []).map (·.getD 2 0)
theorem ins_map (f : Value → List Int) (lt : List Int → List Int → Bool) (v : Value) (vs : List Value) : (insV (fun a b => lt (f a) (f b)) vs v).map f = insF lt (vs.map f) (f v) := by
  have e : ((vs.map f).filter fun one => lt one (f v)).length = (vs.filter fun one => lt (f one) (f v)).length := by
    rw [List.filter_map, List.length_map]; rfl
  unfold insV insF
  rw [e]
  simp [List.map_take, List.map_drop]
theorem ins_fold (f : Value → List Int) (lt : List Int → List Int → Bool) : ∀ (vr vs : List Value), (vr.foldl (insV fun a b => lt (f a) (f b)) vs).map f = (vr.map f).foldl (insF lt) (vs.map f)
  | [], _ => rfl
  | v :: r, vs => by rw [List.foldl_cons, ins_fold f lt r, ins_map]; rfl
theorem ins_mem {lt : Value → Value → Bool} {P : Value → Prop} {vs : List Value} {v : Value} (h : ∀ x ∈ vs, P x) (hv : P v) : ∀ x ∈ insV lt vs v, P x := by
  intro x hx
  unfold insV at hx
  rcases List.mem_append.mp hx with hx | hx
  · exact h x (List.mem_of_mem_take hx)
  · rcases List.mem_cons.mp hx with rfl | hx
    · exact hv
    · exact h x (List.mem_of_mem_drop hx)
theorem ins_length {lt : Value → Value → Bool} {vs : List Value} {v : Value} : (insV lt vs v).length = vs.length + 1 := by
  unfold insV
  simp; (lia)

theorem ins_mems {lt : Value → Value → Bool} {P : Value → Prop} : ∀ (l acc : List Value), (∀ y ∈ l, P y) → (∀ y ∈ acc, P y) → ∀ y ∈ l.foldl (insV lt) acc, P y
  | [], _, _, h => h
  | a :: l, _, h1, h2 => ins_mems l _ (fun y hy => h1 y (.tail _ hy)) (ins_mem h2 (h1 a (.head _)))
theorem ins_lengths {lt : Value → Value → Bool} : ∀ (l acc : List Value), (l.foldl (insV lt) acc).length = acc.length + l.length
  | [], _ => rfl
  | a :: l, acc => by rw [List.foldl_cons, ins_lengths l, ins_length, List.length_cons]; (lia)

set_option maxRecDepth 100000 in
set_option maxHeartbeats 4000000 in
theorem deal_spec {w : World} {A : Around} {s : Shared} {x rA : Addr} {i0 d0 i1 d1 : Int} {vr : List Value} {Q E : Value → Shared → Prop}
  (W : Wd w s.heap) (hd0 : A.depth + 3 < recursionLimit) (hh : A.handled = none) (hi0 : 0 ≤ i0 ∧ i0 < 2) (hi1 : 0 ≤ i1 ∧ i1 < 2)
  (C : CompAt s.heap x i0 d0 i1 d1) (hl : s.heap.IsList rA vr.toArray) (hr : ∀ v ∈ vr, IsRow s.heap v) (hz : vr.length ≤ 100)
  (ret : ∀ a tk h', KeepAll s.heap h' → s.heap.get? a = none → LI h' a (dealF (fun a b => decide (cmpF i0 d0 i1 d1 a b < 0)) (vr.map (rowOf s.heap))) → Q (.ref a) { s with heap := h', toks := tk }) :
  wpAny (model Challenge.rw_ph0098_01.row.prog w) A (call (.ref 103) [.ref rA, .ref x]) Q E s := by
  have W' := W
  obtain ⟨X, p, loose, mean, mg, mb, T⟩ := W
  have C' := C
  obtain ⟨dx, hsh, tkd, nd, sl, a1, a2, nl, e1, e2, e3, e4, e5⟩ := C'
  refine wpAny_call ?_
  k_dflt (refine' enter_cells (binds := [(Str.ofString "rows", .ref rA), (Str.ofString "comp", .ref x)]) ?k1 ?k2 ?k6 ?k7 ?k8 ?k9 ?kB ?c1 ?_ ?c2 ?c3 ?c4; (case k1 => k_asm); (case k2 => k_asm); (case k6 => k_is); (case k7 => k_is); (case k8 => (with_reducible exact o_dp0 (by assumption))); (case k9 => exact BindsTo.of_eq rfl); (case c1 => decide); (case kB => rfl);  (case c2 => exact rfl); (case c3 => exact rfl); (case c4 => exact rfl))
  intro L' h₁ tk cells F' N' CA
  dsimp only
  obtain ⟨oR, oC, rfl, hoR, hoC⟩ := CellsAre.two CA
  replace hoC : oC.data = .cell (some (.ref x)) := hoC
  replace hoR : oR.data = .cell none := hoR
  clear CA
  (repeat' (first | (k_unfold; (try dsimp only)) | ((fail_if_success k_end); (fail_if_success (with_reducible show wpAny _ _ (exec (PySem.Stmt.For _ _ _ _ _) _) _ _ _)); (fail_if_success (with_reducible show wpAny _ _ (eval (PySem.Expr.ListComp _ _ _ _) _) _ _ _)); walk1) | (dsimp only; (fail_if_success k_end); (fail_if_success (with_reducible show wpAny _ _ (exec (PySem.Stmt.For _ _ _ _ _) _) _ _ _)); (fail_if_success (with_reducible show wpAny _ _ (eval (PySem.Expr.ListComp _ _ _ _) _) _ _ _)); walk1)))
  rename_i D h2 l2 h3 F3 N3
  obtain ⟨lD1, lD2⟩ := l2
  refine list_forT (h₀ := s.heap) hh ?_ (by intro _; with_unfolding_all rfl)
  (repeat' (first | (k_unfold; (try dsimp only)) | ((fail_if_success k_end); (fail_if_success (with_reducible show wpAny _ _ (exec (PySem.Stmt.For _ _ _ _ _) _) _ _ _)); (fail_if_success (with_reducible show wpAny _ _ (eval (PySem.Expr.ListComp _ _ _ _) _) _ _ _)); walk1) | (dsimp only; (fail_if_success k_end); (fail_if_success (with_reducible show wpAny _ _ (exec (PySem.Stmt.For _ _ _ _ _) _) _ _ _)); (fail_if_success (with_reducible show wpAny _ _ (eval (PySem.Expr.ListComp _ _ _ _) _) _ _ _)); walk1)))
  obtain ⟨m0, hm0, F6⟩ : ∃ m0, m0 = _ ∧ Fr s.heap L' _ m0 := ⟨_, rfl, F3⟩
  refine ⟨rA, vr.toArray, _, _, [], fun i m news => m = m0 ∧ ∃ o n u, news = [(D, W.listOf (List.toArray ((vr.take i).foldl (insV fun a b => decide (cmpF i0 d0 i1 d1 (rowOf s.heap a) (rowOf s.heap b) < 0)) [])) n), (L' + 1 + 1, o), (L' + 1, oC)] ∧ o.data = .cell u, rfl, hl.at fun _ e => F6.keep _ _ e, .inl (let ⟨o, e, _⟩ := hl; ⟨o, e⟩), F6, N3, (fun _ _ _ _ _ h => nomatch h), ⟨rfl, oR, 0, none, rfl, hoR⟩, ?_, ?_⟩
  · subst hm0
    clear F6
    rintro i v m₁ news₁ h tk io I hv ⟨rfl, oi, n, u, rfl, hoi⟩ hne Fi Ni
    have hDI : D ≠ I := hne _ (.head _)
    have hRI : L' + 1 + 1 ≠ I := hne _ (.tail _ (.head _))
    have hCI : L' + 1 ≠ I := hne _ (.tail _ (.tail _ (.head _)))
    have hDL : D ≠ L' + 1 + 1 ∧ D ≠ L' + 1 := ⟨Nat.ne_of_gt lD1, Nat.ne_of_gt lD2⟩
    generalize hvs : (vr.take i).foldl (insV fun a b => decide (cmpF i0 d0 i1 d1 (rowOf s.heap a) (rowOf s.heap b) < 0)) [] = vs at *
    have hrow := hr v (List.mem_of_getElem? (by simpa using hv))
    obtain ⟨bv, v0, v1, v2, rfl, tv, hrv⟩ := hrow.row
    have hvsr : ∀ y ∈ vs, IsRow s.heap y := by
      rw [← hvs]
      exact ins_mems _ _ (fun y hy => hr y (List.mem_of_mem_take hy)) (fun _ h => nomatch h)
    have hvsl : vs.length = i := by
      rw [← hvs]
      have := (Array.getElem?_eq_some_iff.mp hv).1
      rw [ins_lengths, List.length_take]; simp at this ⊢; (with_reducible exact o_min1 (by assumption))
    have hil : i < vr.length := by have := (Array.getElem?_eq_some_iff.mp hv).1; simpa using this
    refine wpAny_assign_Name ?_
    refine storeX_C Fi Ni rfl (UpdF.tail (Ne.symm hRI) (UpdF.tail hDL.1 (UpdF.head (fun p hp => by rw [List.mem_singleton.mp hp]; exact Nat.ne_of_lt (Nat.lt_succ_self _))))) hoi (fun h5 o5 F5 N5 ho5 => ?_)
    clear Fi Ni
    (repeat' (first | (k_unfold; (try dsimp only)) | ((fail_if_success k_end); (fail_if_success (with_reducible show wpAny _ _ (exec (PySem.Stmt.For _ _ _ _ _) _) _ _ _)); (fail_if_success (with_reducible show wpAny _ _ (eval (PySem.Expr.ListComp _ _ _ _) _) _ _ _)); walk1) | (dsimp only; (fail_if_success k_end); (fail_if_success (with_reducible show wpAny _ _ (exec (PySem.Stmt.For _ _ _ _ _) _) _ _ _)); (fail_if_success (with_reducible show wpAny _ _ (eval (PySem.Expr.ListComp _ _ _ _) _) _ _ _)); walk1)))
    refine comp_list (fun one => decide (cmpF i0 d0 i1 d1 (rowOf s.heap one) [v0, v1, v2] < 0)) (fun _ _ => True) hh rfl (by decide) rfl (by decide) rfl ?_ (by intro _; with_unfolding_all rfl)
    refine wpAny_Name (wpAny_loadName_local (m := _) rfl rfl F5.ns (v := .ref D) rfl ?_)
    refine ⟨D, vs.toArray, rfl, isList_of (N5.get (.tail _ (.head _))), ?_, ?_, ?_, ?_⟩
    · have := sizeLine_eq; simp; (with_reducible exact o_szll (by assumption) (by assumption) (by assumption) (by decide))
    · intro C1 j y s₃ m₃ E' hy hn hm hk
      obtain ⟨by1, y0, y1, y2, rfl, ty, hry⟩ := (hvsr y (List.mem_of_getElem? (by simpa using hy))).row
      have hks : KeepAll s.heap s₃.heap := fun b o e => hk _ _ (F5.keep _ _ e)
      refine wpAny_tests_one (wpAny_isTrue_Compare1 (MethodCall_ (wpAny_Name (wpAny_loadName_cell (c := L' + 1) (v := .ref x) rfl rfl rfl ⟨oC, hk _ _ (N5.get (.tail _ (.tail _ (.tail _ (.head _))))), hoC⟩ ?_))))
      have I3 : InstAt s₃.heap x (instObj 38 dx) 38 (some (dictOf [⟨hsh, .str (Str.ofString "comp_select_list") tkd, .ref sl⟩] nd)) := ⟨hks _ _ e1, rfl, rfl, hks _ _ e2⟩
      k_dflt (refine' method_fn (X.keeps hks) I3 ?h1 ?h2 ?h3 ?h4 ?h5 ?_; (case h1 => k_is); (case h2 => k_is); (case h3 => k_is); (case h4 => k_is); (case h5 => rfl))
      refine callWith_K X (by k_is) ?_ 
      refine spliced_more (wpAny_Name (wpAny_loadName_local rfl rfl hn hm ?_))
      refine spliced_more (wpAny_Name (wpAny_loadName_cell (c := L' + 1 + 1) (v := .ref bv) rfl rfl rfl ⟨o5, hk _ _ (N5.get (.tail _ (.tail _ (.head _)))), ho5⟩ ?_))
      refine spliced_none ⟨X.keeps hks, ?_⟩
      refine compare_spec (W'.keeps hks) (by show A.depth + 1 + 2 < _; (with_reducible assumption)) hh hi0 hi1 (C.keeps hks) (ty.keeps hks) (tv.keeps hks) fun t6 tk6 h6 hk6 => ?_
      refine wpAny_Constant_int ?_
      refine lt_int (wpAny_truthy_bool ⟨?_, _, _, rfl, hk6⟩)
      rw [hry]
    · intro C1 j y s₃ m₃ E' hy _ hn hm hk
      exact wpAny_Name (wpAny_loadName_local rfl rfl hn hm ⟨trivial, _, _, rfl, fun _ _ e => e⟩)
    · intro D6 h6 tk6 ys hD6 hpl hP hk6
      obtain ⟨n6, hg6⟩ := hpl
      have hlen6 : ys.size = (vs.filter fun one => decide (cmpF i0 d0 i1 d1 (rowOf s.heap one) [v0, v1, v2] < 0)).length := by
        have := hP.length; simpa using this.symm
      have F7 := F5.keeps hk6
      have N7 := News.add F5 N5 hk6 hD6 hg6
      have hfil : (vs.filter fun one => decide (cmpF i0 d0 i1 d1 (rowOf s.heap one) [v0, v1, v2] < 0)).length ≤ vs.length := List.length_filter_le _ _
      have hvz : ys.size ≤ sizeLine := by have := sizeLine_eq; (lia)
      have hD6D : D ≠ D6 := fun e => by rw [← e, N5.get (.tail _ (.head _))] at hD6; cases hD6
      clear F5 N5
      (repeat' (first | (k_unfold; (try dsimp only)) | ((fail_if_success k_end); (fail_if_success (with_reducible show wpAny _ _ (exec (PySem.Stmt.For _ _ _ _ _) _) _ _ _)); (fail_if_success (with_reducible show wpAny _ _ (eval (PySem.Expr.ListComp _ _ _ _) _) _ _ _)); walk1) | (dsimp only; (fail_if_success k_end); (fail_if_success (with_reducible show wpAny _ _ (exec (PySem.Stmt.For _ _ _ _ _) _) _ _ _)); (fail_if_success (with_reducible show wpAny _ _ (eval (PySem.Expr.ListComp _ _ _ _) _) _ _ _)); walk1)))
      have hins : kl_ins vs.toArray.toList (((vs.filter fun one => decide (cmpF i0 d0 i1 d1 (rowOf s.heap one) [v0, v1, v2] < 0)).length : Nat) : Int) (Value.ref bv) =
          insV (fun a b => decide (cmpF i0 d0 i1 d1 (rowOf s.heap a) (rowOf s.heap b) < 0)) vs (Value.ref bv) := by
        unfold kl_ins insV
        simp only [hrv]
        rw [if_neg (by (with_reducible exact o_notlt0))]
        simp only [Int.toNat_natCast]
        rw [Nat.min_eq_left (by simpa using hfil)]
      have hnext : (vr.take (i + 1)).foldl (insV fun a b => decide (cmpF i0 d0 i1 d1 (rowOf s.heap a) (rowOf s.heap b) < 0)) [] = insV (fun a b => decide (cmpF i0 d0 i1 d1 (rowOf s.heap a) (rowOf s.heap b) < 0)) vs (Value.ref bv) := by
        have h1 : vr[i]? = some (Value.ref bv) := by simpa using hv
        rw [List.take_add_one, h1, List.foldl_append, hvs]
        rfl
      refine kl_insert F7 N7 ?_ hins (Upd.tail (Ne.symm hD6D) (Upd.tail (Ne.symm hDI) (Upd.head ?_))) (by have := sizeLine_eq; simp; (with_reducible exact o_szll (by assumption) (by assumption) (by assumption) (by decide))) (fun h8 F8 N8 => ?_)
      · have := sizeLine_eq
        unfold Builtin.List.listFitsIndex
        simp
        (lia)
      · intro p hp
        simp only [List.mem_cons, List.not_mem_nil, or_false] at hp
        rcases hp with h | h
        · rw [h]; exact Ne.symm hDL.1
        · rw [h]; exact Ne.symm hDL.2
      clear F7 N7
      (repeat' (first | (k_unfold; (try dsimp only)) | ((fail_if_success k_end); (fail_if_success (with_reducible show wpAny _ _ (exec (PySem.Stmt.For _ _ _ _ _) _) _ _ _)); (fail_if_success (with_reducible show wpAny _ _ (eval (PySem.Expr.ListComp _ _ _ _) _) _ _ _)); walk1) | (dsimp only; (fail_if_success k_end); (fail_if_success (with_reducible show wpAny _ _ (exec (PySem.Stmt.For _ _ _ _ _) _) _ _ _)); (fail_if_success (with_reducible show wpAny _ _ (eval (PySem.Expr.ListComp _ _ _ _) _) _ _ _)); walk1)))
      refine ⟨h8, _, _, [(D, _), (L' + 1 + 1, o5), (L' + 1, oC)], rfl, F8, News.sub N8 (fun p hp => .tail _ hp), ?_, rfl, o5, n + 1, some (Value.ref bv), ?_, ho5⟩
      · intro p hp
        simp only [List.mem_cons, List.not_mem_nil, or_false] at hp
        rcases hp with h | h | h
        · rw [h]; exact hDI
        · rw [h]; exact hRI
        · rw [h]; exact hCI
      · rw [hnext]
  · subst hm0
    clear F6
    rintro h tk m' news' Fi Ni ⟨rfl, oi, n, u, rfl, hoi⟩
    (repeat' (first | (k_unfold; (try dsimp only)) | ((fail_if_success k_end); (fail_if_success (with_reducible show wpAny _ _ (exec (PySem.Stmt.For _ _ _ _ _) _) _ _ _)); (fail_if_success (with_reducible show wpAny _ _ (eval (PySem.Expr.ListComp _ _ _ _) _) _ _ _)); walk1) | (dsimp only; (fail_if_success k_end); (fail_if_success (with_reducible show wpAny _ _ (exec (PySem.Stmt.For _ _ _ _ _) _) _ _ _)); (fail_if_success (with_reducible show wpAny _ _ (eval (PySem.Expr.ListComp _ _ _ _) _) _ _ _)); walk1)))
    rw [show vr.toArray.size = vr.length by simp, List.take_length] at Ni
    generalize hvs : vr.foldl (insV fun a b => decide (cmpF i0 d0 i1 d1 (rowOf s.heap a) (rowOf s.heap b) < 0)) [] = vs at *
    have hvsr : ∀ y ∈ vs, IsRow s.heap y := by
      rw [← hvs]
      exact ins_mems _ _ hr (fun _ h => nomatch h)
    have hvsl : vs.length = vr.length := by
      rw [← hvs, ins_lengths]; simp
    refine comp_list (fun _ => true) (fun v y => ∃ t, y = .int ((rowOf s.heap v).getD 2 0) t) hh rfl (by decide) rfl (by decide) rfl ?_ (by intro _; with_unfolding_all rfl)
    refine wpAny_Name (wpAny_loadName_local (m := _) rfl rfl Fi.ns (v := .ref D) rfl ?_)
    refine ⟨D, vs.toArray, rfl, isList_of (Ni.get (.head _)), ?_, ?_, ?_, ?_⟩
    · have := sizeLine_eq; simp; (with_reducible exact o_szi (by assumption) (by assumption) (by decide))
    · intro C i v s₃ m₃ E' _ _ _ _
      exact wpAny_tests_nil ⟨rfl, _, _, rfl, fun _ _ e => e⟩
    · intro C1 j y s₃ m₃ E' hy _ hn hm hk
      obtain ⟨by1, y0, y1, y2, rfl, ty, hry⟩ := (hvsr y (List.mem_of_getElem? (by simpa using hy))).row
      obtain ⟨vy, hty, hiy⟩ := ty.isTup
      refine Subscript_ (wpAny_Name (wpAny_loadName_local rfl rfl hn hm (wpAny_Constant_int ?_)))
      refine item_tup (hty.keeps fun b o e => hk _ _ (Fi.keep _ _ e)) hiy (by (with_reducible decide)) (by simp) (by have := sizeLine_eq; simp; (with_reducible decide)) fun t' => ?_
      exact ⟨⟨t', by rw [hry]; rfl⟩, _, _, rfl, fun _ _ e => e⟩
    · intro D6 h6 tk6 ys hD6 hpl hP hk6
      refine ret D6 tk6 h6 (fun b o e => hk6 _ _ (Fi.keep _ _ e)) (fresh_of Fi.keep hD6) ?_
      obtain ⟨n6, e6⟩ := hpl
      rw [show List.filter (fun _ => true) vs.toArray.toList = vs from by simp] at hP
      refine ⟨ys.toList, n6, by simpa using e6, ?_⟩
      have := paired_ints (g := fun v => (rowOf s.heap v).getD 2 0) (fun v y h => h) hP
      unfold dealF
      have hf := ins_fold (rowOf s.heap) (fun a b => decide (cmpF i0 d0 i1 d1 a b < 0)) vr []
      rw [hvs, List.map_nil] at hf
      rw [← hf, List.map_map]
      exact this
end Mine
end
section
open PySem PySem.W PyProof.Rows PySem.Calls
namespace Mine
theorem wd_fill_div (w : World) (h : Heap) (_ : OpenLaw) (e : Challenge.rw_ph0098_01 = Challenge.rw_ph0098_01) : (hd.heap_39 w.params).In h → (hd.heap_39 w.params).In h ∧ Challenge.rw_ph0098_01 = Challenge.rw_ph0098_01 := by
  k_fill
  exact fun x => ⟨x, e⟩
set_option maxRecDepth 100000 in
set_option maxHeartbeats 4000000 in
theorem div2_spec {w : World} {A : Around} {s : Shared} {a b n : Int} {t1 t2 t3 : Tok} {Q E : Value → Shared → Prop}
  (W : Wd w s.heap) (hd0 : A.depth + 2 < recursionLimit) (hh : A.handled = none) (ha : 0 ≤ a) (ha2 : a < 2 ^ 1000) (hb : 0 < b) (hb2 : b < 1000000) (hn : 0 ≤ n)
  (ret : ∀ x tk h', KeepAll s.heap h' → s.heap.get? x = none → TI h' x [a.fdiv b, a.fmod b] → Q (.ref x) { s with heap := h', toks := tk }) :
  wpAny (model Challenge.rw_ph0098_01.row.prog w) A (call (.ref 49) [.int a t1, .int b t2, .int n t3]) Q E s := by
  have W' := W
  obtain ⟨X, p, loose, mean, mg, mb, T⟩ := W
  refine wpAny_call ?_
  k_dflt (refine' enter_plain (binds := [(Str.ofString "a", .int a t1), (Str.ofString "b", .int b t2), (Str.ofString "n", .int n t3)]) ?k1 ?k2 ?k6 ?k7 ?k8 ?k9 ?kB ?_ ?c2 ?c3 ?c4 ?c5; (case k1 => k_asm); (case k2 => k_asm); (case k6 => k_is); (case k7 => k_is); (case k8 => (with_reducible exact o_dp0 (by assumption))); (case k9 => exact BindsTo.of_eq rfl); (case c5 => decide); (case kB => exact locs rfl); (case c2 => exact rfl); (case c3 => exact rfl); (case c4 => exact rfl))
  intro L' h₁ F' N'
  dsimp only
  have hbits : (Builtin.Int.intBits a : Int) - n ≤ 4000 := by
    have h1 : a.natAbs < 2 ^ 1000 := by (lia)
    have := intBits_le h1
    (lia)
  (repeat' (first | (k_unfold; (try dsimp only)) | ((fail_if_success k_end); (fail_if_success (with_reducible show wpAny _ _ (exec (PySem.Stmt.For _ _ _ _ _) _) _ _ _)); walk1) | (dsimp only; (fail_if_success k_end); (fail_if_success (with_reducible show wpAny _ _ (exec (PySem.Stmt.For _ _ _ _ _) _) _ _ _)); walk1)))
  rename Fr _ _ _ _ => F2
  rename News _ _ _ _ => N2
  exact ret _ _ _ F2.keep (N2.fresh (.head _)) ⟨[_, _], _, N2.get (.head _), .cons _ _ (.cons _ _ .nil)⟩
end Mine
end
section
open PySem PySem.W PyProof.Rows PySem.Calls
namespace Mine
/-- the two tables that the nested defs fill -/
abbrev ts : List Addr := [58, 65]
def KeepBut (h h' : Heap) : Prop := ∀ b o, b ∉ ts → h.get? b = some o → h'.get? b = some o
theorem KeepBut.refl (h : Heap) : KeepBut h h := fun _ _ _ e => e
theorem KeepBut.trans {h h' h'' : Heap} (a : KeepBut h h') (b : KeepBut h' h'') : KeepBut h h'' := fun x o n e => b x o n (a x o n e)
theorem KeepAll.but {h h' : Heap} (a : KeepAll h h') : KeepBut h h' := fun x o _ e => a x o e
abbrev Gh (h : Heap) : Heap := hideAll h ts
theorem gh_keep {h h' : Heap} (k : KeepBut h h') : KeepAll (Gh h) (Gh h') := fun b o e => by
  have hb : b ∉ ts := fun q => by rw [hideAll_none ts q] at e; cases e
  exact hideAll_get ts (k b o hb (of_hideAll ts e)) hb
theorem gh_sub (h : Heap) : KeepAll (Gh h) h := fun _ _ e => of_hideAll ts e
theorem gh_up {g h : Heap} (k : KeepAll (Gh g) h) : KeepAll (Gh g) (Gh h) := fun b o e => by
  have hb : b ∉ ts := fun q => by rw [hideAll_none ts q] at e; cases e
  exact hideAll_get ts (k b o e) hb
theorem but_of_gh {g h : Heap} (k : KeepAll (Gh g) h) : KeepBut g h := fun b o n e => k b o (hideAll_get ts e n)

/-- a table, empty or with the one code in it -/
def TabOk (h : Heap) (P : Addr) (line col : Int) (qual : Str) : Prop :=
  h.get? P = some (tabObj #[]) ∨ ∃ c', h.get? P = some (tabObj #[rawInt line, rawInt col, .ref c']) ∧ c' ∉ ts ∧ h.CodeRec (.ref c') qual
theorem TabOk.obj {h : Heap} {P : Addr} {line col : Int} {qual : Str} (x : TabOk h P line col qual) : ∃ ps, h.get? P = some (tabObj ps) := by
  rcases x with e | ⟨c, e, _⟩
  · exact ⟨_, e⟩
  · exact ⟨_, e⟩
theorem TabOk.keeps {h h' : Heap} {P : Addr} {line col : Int} {qual : Str} (x : TabOk h P line col qual) (k : KeepAll h h') : TabOk h' P line col qual := by
  rcases x with e | ⟨c, e, hc, r⟩
  · exact .inl (k _ _ e)
  · exact .inr ⟨c, k _ _ e, hc, r.keeps k⟩
abbrev digQual : Str := Str.ofString "_int2digits.<locals>.inner"
abbrev intQual : Str := Str.ofString "_digits2int.<locals>.inner"
structure Wt (w : World) (h : Heap) : Prop where
  base : Wd w (Gh h)
  c1 : CodeHd (Gh h) 62 58
  c2 : CodeHd (Gh h) 69 65
  t1 : TabOk h 58 47 4 digQual
  t2 : TabOk h 65 62 4 intQual
theorem Wt.wd {w : World} {h : Heap} (x : Wt w h) : Wd w h := x.base.keeps (gh_sub h)
theorem Wt.keeps {w : World} {h h' : Heap} (x : Wt w h) (k : KeepAll h h') : Wt w h' := ⟨x.base.keeps (gh_keep k.but), x.c1.keeps (gh_keep k.but), x.c2.keeps (gh_keep k.but), x.t1.keeps k, x.t2.keeps k⟩
theorem Wt.notin {w : World} {h : Heap} (x : Wt w h) {b : Addr} {o : Obj} (e : h.get? b = some o) (hn : ∀ ps, o.data ≠ .fields ps) : b ∉ ts := by
  intro hb
  rcases List.mem_cons.mp hb with rfl | hb
  · obtain ⟨ps, e2⟩ := x.t1.obj
    rw [e] at e2; cases e2; exact hn _ rfl
  · rw [List.mem_singleton.mp hb] at e
    obtain ⟨ps, e2⟩ := x.t2.obj
    rw [e] at e2; cases e2; exact hn _ rfl
theorem Wt.notinC {w : World} {h : Heap} (x : Wt w h) {b : Addr} {o : Obj} (e : h.get? b = some o) (hn : o.cls ≠ .none) : b ∉ ts := by
  intro hb
  rcases List.mem_cons.mp hb with rfl | hb
  · obtain ⟨ps, e2⟩ := x.t1.obj
    rw [e] at e2; cases e2; exact hn rfl
  · rw [List.mem_singleton.mp hb] at e
    obtain ⟨ps, e2⟩ := x.t2.obj
    rw [e] at e2; cases e2; exact hn rfl

theorem Fr.but {w : World} {g h h' : Heap} {L : Addr} {m : Str → Option Value} (W : Wt w h) (F : Fr (Gh g) L h m) (k : KeepBut h h') : Fr (Gh g) L h' m := by
  have hL : L ∉ ts := by
    obtain ⟨o, es, ep, e, hd, _⟩ := F.ns
    exact W.notin e (by rw [hd]; nofun)
  refine ⟨F.ns.at' fun o e => k _ _ hL e, fun b o e => ?_, F.above⟩
  exact k b o (fun q => by rw [hideAll_none ts q] at e; cases e) (F.keep b o e)
def NoTab (o : Obj) : Prop := o.cls ≠ .none ∨ ∀ ps, o.data ≠ .fields ps
theorem News.but {w : World} {g h h' : Heap} {L : Addr} {news : List (Addr × Obj)} (W : Wt w h) (N : News (Gh g) L h news) (hn : ∀ p ∈ news, NoTab p.2) (k : KeepBut h h') : News (Gh g) L h' news := fun p hp => by
  have e := (N p hp).1
  refine ⟨k _ _ ?_ e, (N p hp).2⟩
  rcases hn p hp with q | q
  · exact W.notinC e q
  · exact W.notin e q
theorem gh_fr {g h : Heap} {L : Addr} {m : Str → Option Value} (F : Fr g L h m) : Fr (Gh g) L h m := ⟨F.ns, fun b o e => F.keep b o (of_hideAll _ e), Nat.le_trans (Nat.le_of_eq (hideAll_size _ _)) F.above⟩
theorem gh_fresh {g : Heap} {b : Addr} (e : g.get? b = none) : (Gh g).get? b = none := by
  cases q : (Gh g).get? b with
  | none => rfl
  | some o => rw [of_hideAll _ q] at e; cases e
theorem gh_news {g h : Heap} {L : Addr} {news : List (Addr × Obj)} (N : News g L h news) : News (Gh g) L h news := fun p hp => ⟨(N p hp).1, (N p hp).2.1, gh_fresh (N p hp).2.2⟩
/-- everything that the frame bears, behind a call that may fill the tables -/
theorem wt_of_fr {w : World} {g h : Heap} {L : Addr} {m : Str → Option Value} (W : Wt w g) (F : Fr (Gh g) L h m) (h1 : TabOk h 58 47 4 digQual) (h2 : TabOk h 65 62 4 intQual) : Wt w h := ⟨W.base.keeps (gh_up F.keep), W.c1.keeps (gh_up F.keep), W.c2.keeps (gh_up F.keep), h1, h2⟩
theorem News.addB {w : World} {g h h' : Heap} {L a : Addr} {m : Str → Option Value} {o : Obj} {news : List (Addr × Obj)} (W : Wt w h) (F : Fr (Gh g) L h m) (N : News (Gh g) L h news) (hn : ∀ p ∈ news, NoTab p.2) (k : KeepBut h h') (hf : h.get? a = none) (hg : h'.get? a = some o) : News (Gh g) L h' ((a, o) :: news) := by
  intro p hp
  rcases List.mem_cons.mp hp with rfl | hp
  · refine ⟨hg, fun e => ?_, fresh_of F.keep hf⟩
    obtain ⟨oL, _, _, hL, _⟩ := F.ns
    have e' : a = L := e
    rw [e', hL] at hf; cases hf
  · exact News.but W N hn k p hp
/-- kept, but for a table that was empty -/
def KeepC (h h' : Heap) : Prop := ∀ b o, (b ∈ ts → o ≠ tabObj #[]) → h.get? b = some o → h'.get? b = some o
theorem KeepC.trans {h h' h'' : Heap} (a : KeepC h h') (b : KeepC h' h'') : KeepC h h'' := fun x o n e => b x o n (a x o n e)
theorem KeepC.but {h h' : Heap} (a : KeepC h h') : KeepBut h h' := fun x o n e => a x o (fun q => absurd q n) e
theorem KeepAll.toC {h h' : Heap} (a : KeepAll h h') : KeepC h h' := fun x o _ e => a x o e
def Hot (h : Heap) (P : Addr) : Prop := ∃ ps, h.get? P = some (tabObj ps) ∧ ps ≠ #[]
theorem tabObj_ne {ps : Array Value} (h : ps ≠ #[]) : tabObj ps ≠ tabObj #[] := fun e => h (by unfold tabObj at e; injection e with _ _ e; injection e)
theorem Hot.keeps {h h' : Heap} {P : Addr} (x : Hot h P) (k : KeepC h h') : Hot h' P := let ⟨ps, e, n⟩ := x; ⟨ps, k _ _ (fun _ => tabObj_ne n) e, n⟩
theorem keepC_of {g h : Heap} (k : KeepBut g h) (ht : ∀ P ∈ ts, ∀ o, g.get? P = some o → o ≠ tabObj #[] → h.get? P = some o) : KeepC g h := fun b o n e => by
  by_cases hb : b ∈ ts
  · exact ht b hb o e (n hb)
  · exact k b o hb e
theorem keepC_hot {g h : Heap} (k : KeepC g h) (h58 : Hot g 58) (h65 : Hot g 65) : KeepAll g h := fun b o e => by
  refine k b o (fun hb => ?_) e
  rcases List.mem_cons.mp hb with rfl | hb
  · obtain ⟨ps, e2, n⟩ := h58; rw [e2] at e; cases e; exact tabObj_ne n
  · rw [List.mem_singleton.mp hb] at e; obtain ⟨ps, e2, n⟩ := h65; rw [e2] at e; cases e; exact tabObj_ne n
end Mine
end
section
open PySem PySem.W PyProof.Rows PySem.Calls
namespace Mine
/-- all but one object kept -/
def KeepX (d : Addr) (h h' : Heap) : Prop := ∀ b o, b ≠ d → h.get? b = some o → h'.get? b = some o
theorem Fr.keepX {g h h' : Heap} {L d : Addr} {m : Str → Option Value} (F : Fr g L h m) (hg : g.get? d = none) (hd : d ≠ L) (k : KeepX d h h') : Fr g L h' m :=
  ⟨F.ns.at' fun o e => k _ _ (Ne.symm hd) e, fun b o e => k _ _ (fun q => by rw [q, hg] at e; cases e) (F.keep b o e), F.above⟩
theorem News.keepX {g h h' : Heap} {L d : Addr} {o o' : Obj} {news : List (Addr × Obj)} (N : News g L h ((d, o) :: news)) (hn : ∀ p ∈ news, p.1 ≠ d) (k : KeepX d h h') (hg : h'.get? d = some o') : News g L h' ((d, o') :: news) := fun p hp => by
  rcases List.mem_cons.mp hp with rfl | hp
  · exact ⟨hg, (N _ (.head _)).2⟩
  · have e := N p (.tail _ hp)
    exact ⟨k _ _ (hn p hp) e.1, e.2⟩
section
variable {prog : Program} {w : World} {A : Around} {s : Shared} {p : Program} {loose : List Str} {mean : ExcName → Option Value} {mg mb : Str → Option Value} {R : Result → Shared → Prop} {name qual : Str} {params : Arguments} {body : List Stmt} {scope : Scope} {cl : List (Str × Addr)} {doc pm ctv : Value} {c' f : Addr} {args : Args} {binds : List (Str × Value)} {hs : List Addr} {news : List (Addr × Obj)}
theorem enter_nest (T : Top p loose mean mg mb (hideAll s.heap hs)) (hn : ∀ p ∈ news, s.heap.get? p.1 = some p.2 ∧ p.1 ∈ hs)
    (ho : s.heap.get? f = some (fnMade name qual params body scope cl doc pm c' ctv)) (hcd : s.heap.CodeRec (.ref c') qual) (hroom : A.depth < recursionLimit)
    (hbind : BindsTo s (fnX name qual params body scope cl .none .none doc pm none (.ref c') ctv) args binds) (hloc : ∀ y ∈ binds, scope.names.lookup y.1 = some .local)
    (h : ∀ L' h₁, Fr (hideAll s.heap hs) L' h₁ (fun y => binds.reverse.lookup y) → News (hideAll s.heap hs) L' h₁ news →
      wpAny (model prog w) (A.deeper (envX qual scope L' f (.ref c') cl)) (execs body (envX qual scope L' f (.ref c') cl))
        (fun fl s' => R (.ok (.ret (match fl with | .ret v => v | _ => .none))) s')
        (fun _ _ => False)
        { s with heap := h₁, toks := s.toks + binds.length })
    (hco : scope.isCoroutine = false) (hgen : scope.isGenerator = false) (hk : scope.kind = .function)
    (hcell : ∀ x ∈ scope.names, x.2 ≠ .cell) : codeAny (model prog w) A (.call (.ref f) args) R s := by
  have hsub : KeepAll (hideAll s.heap hs) s.heap := fun _ _ e => of_hideAll hs e
  refine codeAny_call_def (fd := fnX name qual params body scope cl .none .none doc pm none (.ref c') ctv) (body := body) (binds := binds) hroom ho rfl (T.keeps hsub).nolimit hcd rfl hbind hcell hloc (fun h₁ hns hk₁ => ?_) hco hgen hk
  refine wpAny_mono (h _ h₁ ⟨hns, fun b o e => hk₁ b o (of_hideAll hs e), Nat.le_of_eq (hideAll_size _ _)⟩ fun q hq => ⟨hk₁ _ _ (hn q hq).1, ?_, hideAll_none hs (hn q hq).2⟩) (fun fl s' hl => hl) fun _ _ y => y.elim
  exact Nat.ne_of_lt (Heap.lt_size (hn q hq).1)
end

section
variable {M : Model} {A : Around} {E : Value → Shared → Prop} {s : Shared} {g : Heap} {L a c P : Addr} {m mg mb : Str → Option Value} {cn : Str} {cs : Scope} {ccd : Value} {cl : List (Str × Addr)} {news : List (Addr × Obj)}
  {p : Program} {loose : List Str} {mean : ExcName → Option Value} {name qual : Str} {params : Arguments} {body : List Stmt} {scope : Scope} {pos : Pos} {firstLine : Nat} {clos : List (Str × Addr)}
/-- the words of a table that is empty or has the one code in it -/
def TabP (h : Heap) (ps : Array Value) (line col : Int) (qual : Str) : Prop := ps = #[] ∨ ∃ c', ps = #[rawInt line, rawInt col, .ref c'] ∧ c' ∉ ts ∧ h.CodeRec (.ref c') qual
theorem TabP.ok {h : Heap} {P : Addr} {ps : Array Value} {line col : Int} {q : Str} (x : TabP h ps line col q) (e : h.get? P = some (tabObj ps)) : TabOk h P line col q := by
  rcases x with rfl | ⟨c, rfl, a, b⟩
  · exact .inl e
  · exact .inr ⟨c, e, a, b⟩
theorem TabP.of {h : Heap} {P : Addr} {line col : Int} {q : Str} (x : TabOk h P line col q) : ∃ ps, h.get? P = some (tabObj ps) ∧ TabP (Gh h) ps line col q := by
  rcases x with e | ⟨c, e, a, b⟩
  · exact ⟨_, e, .inl rfl⟩
  · refine ⟨_, e, .inr ⟨c, rfl, a, ?_⟩⟩
    obtain ⟨c2, o, vs, t, e1, e2, r⟩ := b
    cases e1
    exact ⟨c, o, vs, t, rfl, hideAll_get ts e2 a, r⟩
theorem TabP.keeps {h h' : Heap} {ps : Array Value} {line col : Int} {q : Str} (x : TabP h ps line col q) (k : KeepAll h h') : TabP h' ps line col q := by
  rcases x with rfl | ⟨c, rfl, a, b⟩
  · exact .inl rfl
  · exact .inr ⟨c, rfl, a, b.keeps k⟩
theorem nest_led {Q : Value → Shared → Prop} {ps : Array Value} (hPt : P ∈ ts) (F : Fr (Gh g) L s.heap m) (N : News (Gh g) L s.heap ((P, tabObj ps) :: news)) (hne : ∀ q ∈ news, q.1 ≠ P) (T : Top p loose mean mg mb (Gh g)) (C : CodeHd (Gh g) c P) (hcd : ccd = .ref c)
    (hsz : ∀ b ∈ ts, b < s.heap.objs.size) (hT : TabP (Gh g) ps pos.line pos.col qual)
    (hcl : closureFor scope (envX cn cs L a ccd cl) = pure clos)
    (h : ∀ f c' ctv doc h' tk ps' extra, ps' ≠ #[] → (ps ≠ #[] → ps' = ps) → Fr (Gh g) L h' m → News (Gh g) L h' ((f, fnMade name qual params body scope clos doc ((mg "__name__").getD .none) c' ctv) :: (P, tabObj ps') :: (news ++ extra)) →
      (∀ h'', KeepAll (Gh g) h'' → (∀ q ∈ extra, h''.get? q.1 = some q.2) → TabP h'' ps' pos.line pos.col qual ∧ h''.CodeRec (.ref c') qual) → (∀ q ∈ news, q.1 < f) → P < f → L < f →
      (∀ q ∈ extra, (∀ r ∈ news, r.1 < q.1) ∧ P < q.1 ∧ L < q.1 ∧ q.1 < f) → Q (.ref f) { s with heap := h', toks := tk }) :
    wpAny M A (makeFunction name qual params (.stmts body) scope (envX cn cs L a ccd cl) [] [] [] pos firstLine) Q E s := by
  have hgs := T.g.keeps F.keep
  obtain ⟨bm, ob, b1, b2, b3, b4, b5, b6⟩ := T.bmain
  have hPs := (N _ (.head _)).1
  dsimp only at hPs
  have hgP : mainGlobals ≠ P := fun q => by
    obtain ⟨o, es, ep, e, hd, _⟩ := hgs
    rw [q, hPs] at e; cases e; cases hd
  have hbP : bm ≠ P := fun q => by
    have e := F.keep _ _ b3
    rw [q, hPs] at e; cases e; cases b4
  have hbG : bm ≠ mainGlobals := fun q => by
    obtain ⟨o, es, ep, e, hd, _⟩ := T.g
    rw [q, e] at b3; cases b3; rw [hd] at b6; cases b6
  have hPL : P ≠ L := (N _ (.head _)).2.1
  have hPg : (Gh g).get? P = none := hideAll_none ts hPt
  have fresh : ∀ b, L < b → (Gh g).get? b = none := fun b hb => Heap.get?_none_of_le (Nat.le_trans F.above (Nat.le_of_lt hb))
  have nts : ∀ c', s.heap.objs.size ≤ c' → c' ∉ ts := fun c' hc q => absurd (hsz _ q) (Nat.not_lt.mpr hc)
  have hLs : L < s.heap.objs.size := F.ns.lt
  have hPs2 : P < s.heap.objs.size := Heap.lt_size hPs
  rcases hT with rfl | ⟨c2, rfl, hc2, hrec2⟩
  · refine makeFunction_K (mg := mg) hcl rfl hgs hcd (C.keeps F.keep) hPs True.intro rfl hgP ⟨bm, ob, b1, b2, hbG, hbP, F.keep _ _ b3, b4, b5, b6⟩ fun c' ctv doc h' tk hx hge hlt hrec htb => ?_
    have kx : KeepX P s.heap (h'.push (fnMade name qual params body scope clos doc ((mg "__name__").getD .none) c' ctv)) := fun b o hb e => Heap.get?_push_of_some _ (hx b o hb e)
    obtain ⟨c3, oc, vs, t, e1, e2, e3, e4⟩ := hrec
    cases e1
    have hLf : L < h'.objs.size := Nat.lt_trans (Nat.lt_of_lt_of_le hLs hge) hlt
    have hLc : L < c' := Nat.lt_of_lt_of_le hLs hge
    have hPc : P < c' := Nat.lt_of_lt_of_le hPs2 hge
    refine h h'.objs.size c' ctv doc _ tk #[rawInt pos.line, rawInt pos.col, .ref c'] [(c', oc)] (by simp) (fun q => absurd rfl q) (Fr.keepX F hPg hPL kx) (fun q hq => ?_) (fun h'' hk he => ?_) (fun q hq => Nat.lt_trans (Nat.lt_of_lt_of_le (Heap.lt_size (N q (.tail _ hq)).1) hge) hlt) (Nat.lt_trans hPc hlt) hLf ?_
    · rcases List.mem_cons.mp hq with rfl | hq
      · exact ⟨Heap.get?_push_size _ rfl, Nat.ne_of_gt hLf, fresh _ hLf⟩
      rcases List.mem_cons.mp hq with rfl | hq
      · exact ⟨Heap.get?_push_of_some _ (by simpa using htb), hPL, hPg⟩
      rcases List.mem_append.mp hq with hq | hq
      · exact ⟨kx _ _ (hne q hq) (N q (.tail _ hq)).1, (N q (.tail _ hq)).2⟩
      · rw [List.mem_singleton.mp hq]
        exact ⟨Heap.get?_push_of_some _ e2, Nat.ne_of_gt hLc, fresh _ hLc⟩
    · have := he _ (.head _)
      exact ⟨.inr ⟨c', rfl, nts _ hge, ⟨c', oc, vs, t, rfl, this, e3, e4⟩⟩, ⟨c', oc, vs, t, rfl, this, e3, e4⟩⟩
    · intro q hq
      rw [List.mem_singleton.mp hq]
      exact ⟨fun r hr => Nat.lt_of_lt_of_le (Heap.lt_size (N r (.tail _ hr)).1) hge, hPc, hLc, hlt⟩
  · refine makeFunction_hit (mg := mg) (cv := .ref c2) hcl rfl hgs hcd (C.keeps F.keep) hPs (by simp [TriplesOk, rawInt]) (by simp [codeAmong, rawInt]) ⟨bm, ob, b1, b2, hbG, hbP, F.keep _ _ b3, b4, b5, b6⟩ fun ctv doc h' tk hk hsz => ?_
    have kk : KeepAll s.heap (h'.push { cls := .type "function", data := .func (fnX name qual params body scope clos .none .none doc ((mg "__name__").getD .none) none (.ref c2) ctv) }) := fun b o e => Heap.get?_push_of_some _ (hk b o e)
    have hLf : L < h'.objs.size := Nat.lt_of_lt_of_le hLs hsz
    refine h h'.objs.size c2 ctv doc _ tk #[rawInt pos.line, rawInt pos.col, .ref c2] [] (by simp) (fun _ => rfl) (F.keeps kk) (fun q hq => ?_) (fun h'' hk he => ?_) (fun q hq => Nat.lt_of_lt_of_le (Heap.lt_size (N q (.tail _ hq)).1) hsz) (Nat.lt_of_lt_of_le hPs2 hsz) hLf (fun _ h => nomatch h)
    · rcases List.mem_cons.mp hq with rfl | hq
      · exact ⟨Heap.get?_push_size _ rfl, Nat.ne_of_gt hLf, fresh _ hLf⟩
      rw [List.append_nil] at hq
      exact ⟨kk _ _ (N q hq).1, (N q hq).2⟩
    · exact ⟨.inr ⟨c2, rfl, hc2, hrec2.keeps hk⟩, hrec2.keeps hk⟩
end
end Mine
end
section
open PySem PySem.W PyProof.Rows PySem.Calls
namespace Mine
def digs (n : Nat) : Nat → Nat → List Int
  | 0, _ => []
  | k + 1, x => ((x % 2 ^ n : Nat) : Int) :: digs n k (x / 2 ^ n)
def undig (n : Nat) : List Int → Int
  | [] => 0
  | d :: r => d + 2 ^ n * undig n r
theorem digs_length (n : Nat) : ∀ k x, (digs n k x).length = k
  | 0, _ => rfl
  | k + 1, x => by simp [digs, digs_length n k]
theorem digs_add (n : Nat) : ∀ p q x, digs n (p + q) x = digs n p x ++ digs n q (x / 2 ^ (n * p))
  | 0, q, x => by simp [digs]
  | p + 1, q, x => by
    rw [show p + 1 + q = (p + q) + 1 by (lia)]
    simp only [digs, List.cons_append]
    rw [digs_add n p q (x / 2 ^ n), Nat.div_div_eq_div_mul, ← Nat.pow_add, show n + n * p = n * (p + 1) by rw [Nat.mul_add]; (with_reducible exact o_mulsub _ _)]
theorem digs_mod (n : Nat) : ∀ p x, digs n p (x % 2 ^ (n * p)) = digs n p x
  | 0, x => rfl
  | p + 1, x => by
    have e : 2 ^ (n * (p + 1)) = 2 ^ n * 2 ^ (n * p) := by rw [← Nat.pow_add]; congr 1; rw [Nat.mul_add]; (with_reducible exact o_mulsub2 _ _)
    simp only [digs]
    rw [e, Nat.mod_mul_right_mod, Nat.mod_mul_right_div_self, digs_mod n p]
theorem digs_bound (n : Nat) : ∀ k x, ∀ d ∈ digs n k x, 0 ≤ d ∧ d < 2 ^ n
  | 0, _, _, h => nomatch h
  | k + 1, x, d, h => by
    rcases List.mem_cons.mp h with rfl | h
    · have := Nat.mod_lt x (Nat.two_pow_pos n)
      refine ⟨by (with_reducible exact Int.natCast_nonneg _), ?_⟩
      have e : ((2 ^ n : Nat) : Int) = (2 : Int) ^ n := by simp
      rw [← e]; exact Int.ofNat_lt.mpr this
    · exact digs_bound n k _ d h
theorem undig_append (n : Nat) : ∀ xs ys, undig n (xs ++ ys) = undig n xs + 2 ^ (n * xs.length) * undig n ys
  | [], ys => by simp [undig]
  | d :: xs, ys => by
    simp only [List.cons_append, undig, List.length_cons]
    rw [undig_append n xs ys, Int.mul_add, ← Int.mul_assoc, ← Int.pow_add, show n + n * xs.length = n * (xs.length + 1) by rw [Nat.mul_add]; (with_reducible exact o_mulsub _ _)]
    (lia)
theorem undig_bound (n : Nat) : ∀ ds : List Int, (∀ d ∈ ds, 0 ≤ d ∧ d < 2 ^ n) → 0 ≤ undig n ds ∧ undig n ds < 2 ^ (n * ds.length)
  | [], _ => by simp [undig]
  | d :: r, h => by
    have ih := undig_bound n r fun x hx => h x (.tail _ hx)
    have hd := h d (.head _)
    have hp : (0 : Int) < 2 ^ n := kbt_pos n
    simp only [undig, List.length_cons]
    have e : (2 : Int) ^ (n * (r.length + 1)) = 2 ^ n * 2 ^ (n * r.length) := by rw [← Int.pow_add]; congr 1; rw [Nat.mul_add]; (with_reducible exact o_mulsub2 _ _)
    rw [e]
    have h1 := Int.mul_nonneg (Int.le_of_lt hp) ih.1
    have h2 : (2 : Int) ^ n * (undig n r + 1) ≤ 2 ^ n * 2 ^ (n * r.length) := Int.mul_le_mul_of_nonneg_left (by (lia)) (Int.le_of_lt hp)
    rw [Int.mul_add, Int.mul_one] at h2
    (lia)
theorem undig_digs (n : Nat) : ∀ k x, undig n (digs n k x) = ((x % 2 ^ (n * k) : Nat) : Int)
  | 0, x => by simp [undig, digs, Nat.mod_one]
  | k + 1, x => by
    simp only [digs, undig]
    rw [undig_digs n k]
    have e : 2 ^ (n * (k + 1)) = 2 ^ n * 2 ^ (n * k) := by rw [← Nat.pow_add]; congr 1; rw [Nat.mul_add]; (with_reducible exact o_mulsub2 _ _)
    rw [e, Nat.mod_mul]
    simp
theorem and_high (x s : Nat) : x &&& (x / 2 ^ s * 2 ^ s) = x / 2 ^ s * 2 ^ s := by
  apply Nat.eq_of_testBit_eq
  intro i
  rw [Nat.testBit_and, ← Nat.shiftRight_eq_div_pow, ← Nat.shiftLeft_eq, Nat.testBit_shiftLeft, Nat.testBit_shiftRight]
  by_cases h : i < s
  · simp [Nat.not_le.mpr h]
  · have : s + (i - s) = i := by (lia)
    simp [Nat.not_lt.mp h, this]
theorem xor_low (x s : Nat) : Builtin.bitXor (x : Int) (((x / 2 ^ s * 2 ^ s : Nat)) : Int) = ((x % 2 ^ s : Nat) : Int) := by
  rw [bitXor_and, bitAnd_pp (by (with_reducible exact Int.natCast_nonneg _)) (by (with_reducible exact Int.natCast_nonneg _)), Int.toNat_natCast, Int.toNat_natCast, and_high]
  have := Nat.div_add_mod x (2 ^ s)
  rw [Nat.mul_comm] at this
  (lia)
theorem fdiv_pow_nat (x s : Nat) : (x : Int).fdiv (2 ^ s) = ((x / 2 ^ s : Nat) : Int) := by
  rw [Int.fdiv_eq_ediv_of_nonneg _ (Int.le_of_lt (kbt_pos s))]
  simp
theorem two_parts {ns A B : List Int} {lo mid hi : Nat} (hA : A.length = mid - lo) (h1 : lo ≤ mid) (h2 : mid ≤ hi) (h3 : hi ≤ ns.length) :
    (ns.take lo ++ A ++ ns.drop mid).take mid ++ B ++ (ns.take lo ++ A ++ ns.drop mid).drop hi = ns.take lo ++ (A ++ B) ++ ns.drop hi := by
  have hl : (ns.take lo ++ A).length = mid := by
    rw [List.length_append, List.length_take, hA]; (lia)
  have e1 : (ns.take lo ++ A ++ ns.drop mid).take mid = ns.take lo ++ A := by
    rw [List.take_append_of_le_length (by (with_reducible exact Nat.le_of_eq (Eq.symm (by assumption)))), List.take_of_length_le (by (with_reducible exact Nat.le_of_eq (by assumption)))]
  have e2 : (ns.take lo ++ A ++ ns.drop mid).drop hi = ns.drop hi := by
    rw [List.drop_append, List.drop_of_length_le (by (lia)), List.nil_append, List.drop_drop, hl]
    congr 1; (with_reducible exact Nat.add_sub_cancel' (by assumption))
  rw [e1, e2]
  simp
theorem one_part {ns : List Int} {x : Int} {lo : Nat} (h : lo < ns.length) : ns.set lo x = ns.take lo ++ [x] ++ ns.drop (lo + 1) := by
  rw [List.set_eq_take_append_cons_drop, if_pos h]
  simp
theorem undig_split (n : Nat) (ds : List Int) {lo mid hi : Nat} (h1 : lo ≤ mid) (h2 : mid ≤ hi) (h3 : hi ≤ ds.length) :
    undig n ((ds.drop lo).take (hi - lo)) = undig n ((ds.drop lo).take (mid - lo)) + 2 ^ (n * (mid - lo)) * undig n ((ds.drop mid).take (hi - mid)) := by
  have e : (ds.drop lo).take (hi - lo) = (ds.drop lo).take (mid - lo) ++ (ds.drop mid).take (hi - mid) := by
    rw [show hi - lo = (mid - lo) + (hi - mid) by (lia), List.take_add, List.drop_drop, show lo + (mid - lo) = mid by (with_reducible exact Nat.add_sub_cancel' (by assumption))]
  rw [e, undig_append, List.length_take, List.length_drop, Nat.min_eq_left (by (lia))]
theorem undig_one (n : Nat) (ds : List Int) {lo : Nat} (h : lo < ds.length) : undig n ((ds.drop lo).take 1) = ds.getD lo 0 := by
  have e : (ds.drop lo).take 1 = [ds[lo]] := by
    rw [List.drop_eq_getElem_cons h]; rfl
  rw [e]
  simp only [undig, Int.mul_zero, Int.add_zero]
  simp [List.getD, h]
end Mine
end
section
open PySem PySem.W PyProof.Rows PySem.Calls
namespace Mine
theorem wd_fill_dig (w : World) (h : Heap) (_ : OpenLaw) (e : Challenge.rw_ph0098_01 = Challenge.rw_ph0098_01) : (hd.heap_39 w.params).In h → (hd.heap_39 w.params).In h ∧ Challenge.rw_ph0098_01 = Challenge.rw_ph0098_01 := by
  k_fill
  exact fun x => ⟨x, e⟩
/-- how many digits of n bits an int has -/
def digN (n a : Int) : Nat := ((Builtin.Int.intBits a : Int) + n - 1).toNat / n.toNat
def digF (n a : Int) : List Int := digs n.toNat (digN n a) a.toNat

theorem keepX_of {h h' : Heap} {L D : Addr} {m : Str → Option Value} {o' : Obj} {news : List (Addr × Obj)} (F : Fr (hideAll h (D :: news.map (·.1))) L h' m) (N : News (hideAll h (D :: news.map (·.1))) L h' ((D, o') :: news)) (g : ∀ p ∈ news, h.get? p.1 = some p.2) : KeepX D h h' := by
  intro b o hb e
  by_cases hm : b ∈ news.map (·.1)
  · obtain ⟨p, hp, rfl⟩ := List.mem_map.mp hm
    rw [g p hp] at e; cases e
    exact (N p (.tail _ hp)).1
  · refine F.keep b o (hideAll_get _ e ?_)
    intro q
    rcases List.mem_cons.mp q with q | q
    · exact hb q
    · exact hm q
theorem KeepX.trans {h h' h'' : Heap} {D : Addr} (a : KeepX D h h') (b : KeepX D h' h'') : KeepX D h h'' := fun x o n e => b x o n (a x o n e)

theorem codeRec_x {h h' : Heap} {c D : Addr} {q : Str} {vs : Array Value} {n : Nat} (x : h.CodeRec (.ref c) q) (k : KeepX D h h') (e : h.get? D = some (W.listOf vs n)) : h'.CodeRec (.ref c) q := by
  obtain ⟨c2, o, ws, t, e1, e2, e3, e4⟩ := x
  cases e1
  refine ⟨c, o, ws, t, rfl, k _ _ (fun q => ?_) e2, e3, e4⟩
  rw [q, e] at e2; cases e2; cases e3

set_option maxRecDepth 100000 in
set_option maxHeartbeats 1000000 in
theorem dig_spec {w : World} {A : Around} {s : Shared} {a n : Int} {t1 t2 : Tok} {Q E : Value → Shared → Prop}
  (W : Wt w s.heap) (hd0 : A.depth + 25 < recursionLimit) (hh : A.handled = none) (ha : 0 ≤ a) (ha2 : Builtin.Int.intBits a ≤ 1048600) (hn : 1 ≤ n) (hn2 : n ≤ 20)
  (ret : ∀ x tk h', KeepC s.heap h' → Wt w h' → Hot h' 58 → s.heap.get? x = none → LI h' x (digF n a) → Q (.ref x) { s with heap := h', toks := tk }) :
  wpAny (model Challenge.rw_ph0098_01.row.prog w) A (call (.ref 63) [.int a t1, .int n t2]) Q E s := by
  have W' := W
  obtain ⟨⟨X, p, loose, mean, mg, mb, T⟩, C1, C2, K1, K2⟩ := W
  have X0 : (hd.heap_39 w.params).In s.heap := X.keeps (gh_sub _)
  have T0 := T.keeps (gh_sub _)
  refine wpAny_call ?_
  k_dflt (refine' enter_cells (binds := [(Str.ofString "a", .int a t1), (Str.ofString "n", .int n t2)]) X0 T0 ?k6 ?k7 ?k8 ?k9 ?kB ?c1 ?_ ?c2 ?c3 ?c4; (case k6 => k_is); (case k7 => k_is); (case k8 => (with_reducible exact o_dp0 (by assumption))); (case k9 => exact BindsTo.of_eq rfl); (case c1 => decide); (case kB => rfl);  (case c2 => exact rfl); (case c3 => exact rfl); (case c4 => exact rfl))
  intro L' h₁ tk cells F' N' CA
  dsimp only
  clear X0 T0
  obtain ⟨ps1, hp1, tp1⟩ := TabP.of K1
  obtain ⟨ps2, hp2, tp2⟩ := TabP.of K2
  have hL58 : (58 : Nat) < L' := Nat.lt_of_lt_of_le (Heap.lt_size hp1) F'.above
  have hL65 : (65 : Nat) < L' := Nat.lt_of_lt_of_le (Heap.lt_size hp2) F'.above
  replace N' : News (Gh s.heap) L' h₁ (cells ++ [(58, tabObj ps1), (65, tabObj ps2)]) := by
    intro q hq
    rcases List.mem_append.mp hq with hq | hq
    · exact gh_news N' q hq
    exact (sub_cons (p := fun q : Addr × Obj => h₁.get? q.1 = some q.2 ∧ q.1 ≠ L' ∧ (Gh s.heap).get? q.1 = none) ⟨F'.keep _ _ hp1, Nat.ne_of_lt hL58, hideAll_none ts (.head _)⟩ (sub_cons ⟨F'.keep _ _ hp2, Nat.ne_of_lt hL65, hideAll_none ts (.tail _ (.head _))⟩ sub_nil)) q hq
  replace F' := gh_fr F'
  obtain ⟨oI, oD, oN, rfl, hoI, hoD, hoN⟩ := CellsAre.three CA
  replace hoN : oN.data = .cell (some (.int n t2)) := hoN
  replace hoD : oD.data = .cell none := hoD
  replace hoI : oI.data = .cell none := hoI
  clear CA
  simp only [List.cons_append, List.nil_append] at N'
  (repeat' (first | (k_unfold; (try dsimp only)) | ((((fail_if_success k_end); (fail_if_success (with_reducible show wpAny _ _ (exec (PySem.Stmt.For _ _ _ _ _) _) _ _ _)); (fail_if_success (with_reducible show wpAny _ _ (exec (PySem.Stmt.FunctionDef _ _ _ _ _ _ _ _ _ _) _) _ _ _)); (fail_if_success (with_reducible show wpAny _ _ (callWith _ (Value.ref _) _ _ _) _ _ _)); (fail_if_success (with_reducible show wpAny _ _ (setItem _ _ _) _ _ _)); (fail_if_success (with_reducible show wpAny _ _ (binaryOp PySem.Operator.LShift _ _) _ _ _)))); walk1) | (dsimp only; (((fail_if_success k_end); (fail_if_success (with_reducible show wpAny _ _ (exec (PySem.Stmt.For _ _ _ _ _) _) _ _ _)); (fail_if_success (with_reducible show wpAny _ _ (exec (PySem.Stmt.FunctionDef _ _ _ _ _ _ _ _ _ _) _) _ _ _)); (fail_if_success (with_reducible show wpAny _ _ (callWith _ (Value.ref _) _ _ _) _ _ _)); (fail_if_success (with_reducible show wpAny _ _ (setItem _ _ _) _ _ _)); (fail_if_success (with_reducible show wpAny _ _ (binaryOp PySem.Operator.LShift _ _) _ _ _)))); walk1)))
  have hk : ((Builtin.Int.intBits a : Int) + n - 1).fdiv n = (digN n a : Nat) := by
    unfold digN
    obtain ⟨m, rfl⟩ : ∃ m : Nat, n = m := ⟨n.toNat, by (with_reducible exact o_tn1 (by assumption))⟩
    rw [Int.fdiv_eq_ediv_of_nonneg _ (by (with_reducible exact Int.natCast_nonneg _)), Int.toNat_natCast, Int.natCast_ediv, Int.toNat_of_nonneg (by (lia))]
  have hkb : digN n a ≤ 1048700 := by
    unfold digN
    exact Nat.le_trans (Nat.div_le_self _ _) (by (lia))
  rw [hk]
  generalize hkk : digN n a = kk at hk hkb
  (repeat' (first | (k_unfold; (try dsimp only)) | ((((fail_if_success k_end); (fail_if_success (with_reducible show wpAny _ _ (exec (PySem.Stmt.For _ _ _ _ _) _) _ _ _)); (fail_if_success (with_reducible show wpAny _ _ (exec (PySem.Stmt.FunctionDef _ _ _ _ _ _ _ _ _ _) _) _ _ _)); (fail_if_success (with_reducible show wpAny _ _ (callWith _ (Value.ref _) _ _ _) _ _ _)); (fail_if_success (with_reducible show wpAny _ _ (setItem _ _ _) _ _ _)); (fail_if_success (with_reducible show wpAny _ _ (binaryOp PySem.Operator.LShift _ _) _ _ _)))); walk1) | (dsimp only; (((fail_if_success k_end); (fail_if_success (with_reducible show wpAny _ _ (exec (PySem.Stmt.For _ _ _ _ _) _) _ _ _)); (fail_if_success (with_reducible show wpAny _ _ (exec (PySem.Stmt.FunctionDef _ _ _ _ _ _ _ _ _ _) _) _ _ _)); (fail_if_success (with_reducible show wpAny _ _ (callWith _ (Value.ref _) _ _ _) _ _ _)); (fail_if_success (with_reducible show wpAny _ _ (setItem _ _ _) _ _ _)); (fail_if_success (with_reducible show wpAny _ _ (binaryOp PySem.Operator.LShift _ _) _ _ _)))); walk1)))
  rename_i tk0 lz h2a l1 D h1a i1 n1 s1 e1 e2 e3 l2 h2 oD2 F2 N2 hoD2
  refine nestDef_K rfl rfl rfl ?_
  refine nest_led (P := 58) (c := 62) (news := [(D, W.listOf (List.replicate (kk : Int).toNat [Value.int 0 tk0]).flatten.toArray 0), (L' + 1 + 1 + 1, oI), (L' + 1 + 1, oD2), (L' + 1, oN), (65, tabObj ps2)]) (.head _) F2 (News.sub N2 ?_) ?_ T C1 rfl ?_ tp1 rfl ?_
  · (repeat' (first | with_reducible exact sub_nil | with_reducible refine sub_cons ?_ ?_ | with_reducible assumption | with_reducible exact List.mem_cons_self | with_reducible refine List.mem_cons_of_mem _ ?_ | with_reducible refine List.mem_append_left _ ?_ | intro _ _))
  · have e3 : (58 : Nat) < L' + 1 + 1 + 1 := Nat.lt_add_right 3 hL58
    exact sub_cons (Nat.ne_of_gt (Nat.lt_trans hL58 (by (lia)))) (sub_cons (Nat.ne_of_gt e3) (sub_cons (Nat.ne_of_gt (Nat.lt_add_right 2 hL58)) (sub_cons (Nat.ne_of_gt (Nat.lt_add_right 1 hL58)) (sub_cons (by decide : (65 : Nat) ≠ 58) sub_nil))))
  · intro b hb
    have := F2.ns.lt
    rcases List.mem_cons.mp hb with rfl | hb
    · exact Nat.lt_trans hL58 this
    · rw [List.mem_singleton.mp hb]; exact Nat.lt_trans hL65 this
  intro f c' ctv doc h3 tk3 ps' ex hps1 hps2 F3 N3 hex lf1 lf2 lf3 lf4
  obtain ⟨fo, hfo, hfd⟩ : ∃ fo, h3.get? f = some fo ∧ fo = _ := ⟨_, N3.get (.head _), rfl⟩
  rw [← hfd] at N3
  have lfI : L' + 1 + 1 + 1 < f := lf1 _ (.tail _ (.head _))
  have lfD : D < f := lf1 _ (.head _)
  refine storeX_C F3 N3 rfl (UpdF.tail (Nat.ne_of_gt lfI) (UpdF.tail (Nat.ne_of_lt (Nat.lt_trans hL58 (by (lia)))) (UpdF.tail (Nat.ne_of_gt l2.2.1) (UpdF.head (fun q hq => ?_))))) hoI (fun h4 oI4 F4 N4 hoI4 => ?_)
  · replace hq : q ∈ (L' + 1 + 1, oD2) :: (L' + 1, oN) :: (65, tabObj ps2) :: ex := hq
    exact (sub_cons (p := fun q : Addr × Obj => @Ne Nat q.1 (L' + 1 + 1 + 1)) (Nat.ne_of_lt (Nat.lt_succ_self _)) (sub_cons (Nat.ne_of_lt (Nat.lt_add_of_pos_right (by decide : 0 < 2))) (sub_cons (Nat.ne_of_lt (Nat.lt_add_right 3 hL65)) fun q h => Nat.ne_of_gt ((lf4 q h).1 _ (.tail _ (.head _)))))) q hq
  simp only [List.nil_append, List.cons_append, List.append_eq] at N4
  dsimp only
  have fresh : ∀ b, L' < b → (Gh s.heap).get? b = none := fun b hb => Heap.get?_none_of_le (Nat.le_trans F4.above (Nat.le_of_lt hb))
  have key : ∀ (k : Nat) (A' : Around) (s' : Shared) (x lo hi : Int) (tx tl th : Tok) (vs : List Value) (cp : Nat) (ns : List Int) (Q' E' : Value → Shared → Prop),
      A'.depth + k + 1 < recursionLimit → A'.handled = none → KeepAll (Gh s.heap) s'.heap →
      s'.heap.get? f = some fo → s'.heap.CodeRec (.ref c') digQual → s'.heap.get? (L' + 1 + 1) = some oD2 → s'.heap.get? (L' + 1 + 1 + 1) = some oI4 → s'.heap.get? (L' + 1) = some oN →
      s'.heap.get? D = some (W.listOf vs.toArray cp) → IntsAre vs ns → ns.length ≤ 1048700 → 0 ≤ lo → lo < hi → hi ≤ ns.length → hi - lo ≤ 2 ^ k → 0 ≤ x → x.toNat < 2 ^ (n.toNat * (hi - lo).toNat) →
      (∀ h' tk vs', KeepX D s'.heap h' → h'.get? D = some (W.listOf (List.toArray vs') cp) → IntsAre vs' (ns.take lo.toNat ++ digs n.toNat (hi - lo).toNat x.toNat ++ ns.drop hi.toNat) → Q' .none { s' with heap := h', toks := tk }) →
      wpAny (model Challenge.rw_ph0098_01.row.prog w) A' (call (.ref f) [.int x tx, .int lo tl, .int hi th]) Q' E' s' := by
    clear F4 N4 F3 N3 F2 N2 ret hex lf4 hfo
    intro k
    induction k using Nat.strongRecOn with
    | ind k ih =>
      intro A' s' x lo hi tx tl th vs cp ns Q' E' hroom hh' hka gf grec g2 g3 g1 gD hvs hsz hlo hlh hhi hpw hx hx2 ret
      have gf' := gf
      rw [hfd] at gf'
      have hDh : ∀ q ∈ [(L' + 1 + 1, oD2), (L' + 1 + 1 + 1, oI4), (L' + 1, oN), (f, fo)], q.1 ≠ D := by
        have d3 : L' + 1 + 1 + 1 < D := l2.2.1
        have d2 : L' + 1 + 1 < D := Nat.lt_of_succ_lt d3
        exact sub_cons (Nat.ne_of_lt d2) (sub_cons (Nat.ne_of_lt d3) (sub_cons (Nat.ne_of_lt (Nat.lt_of_succ_lt d2)) (sub_cons (Nat.ne_of_gt lfD) sub_nil)))
      have hgs : ∀ q ∈ [(L' + 1 + 1, oD2), (L' + 1 + 1 + 1, oI4), (L' + 1, oN), (f, fo)], s'.heap.get? q.1 = some q.2 := by
        refine sub_cons ?_ (sub_cons ?_ (sub_cons ?_ (sub_cons ?_ sub_nil))) <;> assumption
      have hFn : ∀ h : Heap, h.get? f = some fo → FnAt f h := fun h e => by rw [hfd] at e; exact ⟨_, _, _, _, e⟩
      have hK0 : KeepAll (Gh s.heap) (hideAll s'.heap [D, L' + 1 + 1, L' + 1 + 1 + 1, L' + 1, f]) := by
        intro b o e
        refine hideAll_get _ (hka b o e) (fun q => ?_)
        have hb : L' < b := by
          have d1 : L' < D := Nat.lt_of_succ_lt (Nat.lt_of_succ_lt (Nat.lt_of_succ_lt l2.2.1))
          exact (sub_cons (p := fun b : Nat => L' < b) d1 (sub_cons (Nat.lt_add_of_pos_right (by decide : 0 < 2)) (sub_cons (Nat.lt_add_of_pos_right (by decide : 0 < 3)) (sub_cons (Nat.lt_succ_self _) (sub_cons lf3 sub_nil))))) b q
        rw [fresh b hb] at e; cases e
      refine wpAny_call ?_
      refine enter_nest (p := p) (loose := loose) (mean := mean) (mg := mg) (mb := mb) (hs := [D, L' + 1 + 1, L' + 1 + 1 + 1, L' + 1, f]) (news := [(D, W.listOf vs.toArray cp), (L' + 1 + 1, oD2), (L' + 1 + 1 + 1, oI4), (L' + 1, oN), (f, fo)]) (binds := [(Str.ofString "x", .int x tx), (Str.ofString "L", .int lo tl), (Str.ofString "R", .int hi th)]) (T.keeps hK0) ?_ gf' grec (by (with_reducible exact o_dpr (by assumption))) (BindsTo.of_eq rfl) (locs rfl) ?_ rfl rfl rfl (by decide)
      · intro q hq
        rcases List.mem_cons.mp hq with h | h
        · rw [h]; exact ⟨gD, .head _⟩
        · exact ⟨hgs q h, sub_use (p := fun q : Addr × Obj => q.1 ∈ [D, L' + 1 + 1, L' + 1 + 1 + 1, L' + 1, f]) h (by (repeat' (first | with_reducible exact sub_nil | with_reducible refine sub_cons ?_ ?_ | with_reducible assumption | with_reducible exact List.mem_cons_self | with_reducible refine List.mem_cons_of_mem _ ?_ | with_reducible refine List.mem_append_left _ ?_ | intro _ _)))⟩
      intro L2 h5 F5 N5
      dsimp only
      have hzz := sizeLine_eq
      (repeat' (first | (k_unfold; (try dsimp only)) | ((((fail_if_success k_end); (fail_if_success (with_reducible show wpAny _ _ (exec (PySem.Stmt.For _ _ _ _ _) _) _ _ _)); (fail_if_success (with_reducible show wpAny _ _ (exec (PySem.Stmt.FunctionDef _ _ _ _ _ _ _ _ _ _) _) _ _ _)); (fail_if_success (with_reducible show wpAny _ _ (callWith _ (Value.ref _) _ _ _) _ _ _)); (fail_if_success (with_reducible show wpAny _ _ (setItem _ _ _) _ _ _)); (fail_if_success (with_reducible show wpAny _ _ (binaryOp PySem.Operator.LShift _ _) _ _ _)))); walk1) | (dsimp only; (((fail_if_success k_end); (fail_if_success (with_reducible show wpAny _ _ (exec (PySem.Stmt.For _ _ _ _ _) _) _ _ _)); (fail_if_success (with_reducible show wpAny _ _ (exec (PySem.Stmt.FunctionDef _ _ _ _ _ _ _ _ _ _) _) _ _ _)); (fail_if_success (with_reducible show wpAny _ _ (callWith _ (Value.ref _) _ _ _) _ _ _)); (fail_if_success (with_reducible show wpAny _ _ (setItem _ _ _) _ _ _)); (fail_if_success (with_reducible show wpAny _ _ (binaryOp PySem.Operator.LShift _ _) _ _ _)))); walk1)))
      · rename lo + 1 = hi => hend
        refine set_at (idx := lo) rfl F5 N5 (Upd.head hDh) hvs hlo (by (with_reducible exact Int.lt_of_lt_of_le (by assumption) (by assumption))) (by (with_reducible exact o_szn (by assumption) (by decide))) (fun h7 F7 N7 i7 => ?_)
        (repeat' (first | (k_unfold; (try dsimp only)) | ((((fail_if_success k_end); (fail_if_success (with_reducible show wpAny _ _ (exec (PySem.Stmt.For _ _ _ _ _) _) _ _ _)); (fail_if_success (with_reducible show wpAny _ _ (exec (PySem.Stmt.FunctionDef _ _ _ _ _ _ _ _ _ _) _) _ _ _)); (fail_if_success (with_reducible show wpAny _ _ (callWith _ (Value.ref _) _ _ _) _ _ _)); (fail_if_success (with_reducible show wpAny _ _ (setItem _ _ _) _ _ _)); (fail_if_success (with_reducible show wpAny _ _ (binaryOp PySem.Operator.LShift _ _) _ _ _)))); walk1) | (dsimp only; (((fail_if_success k_end); (fail_if_success (with_reducible show wpAny _ _ (exec (PySem.Stmt.For _ _ _ _ _) _) _ _ _)); (fail_if_success (with_reducible show wpAny _ _ (exec (PySem.Stmt.FunctionDef _ _ _ _ _ _ _ _ _ _) _) _ _ _)); (fail_if_success (with_reducible show wpAny _ _ (callWith _ (Value.ref _) _ _ _) _ _ _)); (fail_if_success (with_reducible show wpAny _ _ (setItem _ _ _) _ _ _)); (fail_if_success (with_reducible show wpAny _ _ (binaryOp PySem.Operator.LShift _ _) _ _ _)))); walk1)))
        refine ret _ _ _ (keepX_of (news := [(L' + 1 + 1, oD2), (L' + 1 + 1 + 1, oI4), (L' + 1, oN), (f, fo)]) F7 N7 hgs) (N7.get (.head _)) ?_
        subst hend
        rw [one_part (by (with_reducible exact o_tlt2 (by assumption) (by assumption)))] at i7
        rw [show (lo + 1 - lo).toNat = 1 by rw [Int.add_comm, Int.add_sub_cancel]; rfl] at hx2 ⊢
        rw [Nat.mul_one] at hx2
        rw [show (lo + 1).toNat = lo.toNat + 1 from Int.toNat_add hlo (by decide)]
        simp only [digs]
        rw [Nat.mod_eq_of_lt hx2, Int.toNat_of_nonneg hx]
        exact i7
      · rename lo + 1 ≠ hi => hend
        rename Fr _ _ _ _ => F6
        rename News _ _ _ _ => N6
        rw [show (lo + hi).fdiv (2 ^ Int.toNat 1) = (lo + hi) / 2 by rw [Int.fdiv_eq_ediv_of_nonneg _ (by decide)]; rfl] at F6 ⊢
        obtain ⟨lo, rfl⟩ : ∃ q : Nat, lo = q := ⟨lo.toNat, by (with_reducible exact o_tn (by assumption))⟩
        obtain ⟨hi, rfl⟩ : ∃ q : Nat, hi = q := ⟨hi.toNat, by (with_reducible exact o_tnl (by assumption))⟩
        obtain ⟨n, rfl⟩ : ∃ q : Nat, n = q := ⟨n.toNat, by (with_reducible exact o_tn1 (by assumption))⟩
        obtain ⟨x, rfl⟩ : ∃ q : Nat, x = q := ⟨x.toNat, by (with_reducible exact o_tn (by assumption))⟩
        obtain ⟨mid, hmid⟩ : ∃ q : Nat, ((lo : Int) + hi) / 2 = q := ⟨(((lo : Int) + hi) / 2).toNat, by (with_reducible exact o_half _ _)⟩
        rw [hmid] at F6 ⊢
        have hm1 : lo < mid ∧ mid < hi := by (with_reducible exact o_mid (by assumption) (by assumption) (by assumption))
        obtain ⟨k, rfl⟩ : ∃ q, k = q + 1 := by
          cases k with
          | zero => simp at hpw; (lia)
          | succ k => exact ⟨k, rfl⟩
        rw [Int.pow_succ] at hpw
        obtain ⟨p2, hpk⟩ : ∃ p2, p2 = (2 : Int) ^ k := ⟨_, rfl⟩
        rw [← hpk] at hpw
        have hm2 : (mid : Int) - lo ≤ p2 ∧ (hi : Int) - mid ≤ p2 := by (with_reducible exact o_pow (by assumption) (by assumption))
        have hsh : ((mid : Int) - lo) * n = ((n * (mid - lo) : Nat) : Int) := by
          rw [show (mid : Int) - lo = ((mid - lo : Nat) : Int) by (with_reducible exact o_csub (by assumption)), ← Int.natCast_mul, Nat.mul_comm]
        rw [hsh] at F6 ⊢
        refine rshift_int (by (with_reducible exact Int.natCast_nonneg _)) ?_
        rw [Int.toNat_natCast, fdiv_pow_nat]
        dsimp only
        have hxb : x < 2 ^ (n * (hi - lo)) := by
          have : ((hi : Int) - lo).toNat = hi - lo := by (with_reducible exact Int.toNat_sub _ _)
          rw [this] at hx2
          simpa using hx2
        have hSb : n * (hi - lo) ≤ 21000000 := by
          have h1 : n * (hi - lo) ≤ 20 * 1048700 := Nat.mul_le_mul (by (lia)) (Nat.le_trans (Nat.sub_le _ _) (Nat.le_trans (Int.ofNat_le.mp hhi) hsz))
          (with_reducible exact Nat.le_trans (by assumption) (by decide))
        have hSl : n * (mid - lo) + n * (hi - mid) = n * (hi - lo) := by
          rw [← Nat.mul_add, ← o_sub2 hm1]
        generalize hS : n * (mid - lo) = S at *
        have hUb : Builtin.Int.intBits ((x / 2 ^ S : Nat) : Int) ≤ 21000000 := by
          refine intBits_le_iff.mpr ?_
          rw [Int.natAbs_natCast]
          exact Nat.lt_of_le_of_lt (Nat.div_le_self _ _) (Nat.lt_of_lt_of_le hxb (Nat.pow_le_pow_right (by decide) hSb))
        have hUx : x / 2 ^ S < 2 ^ (n * (hi - mid)) := by
          refine (Nat.div_lt_iff_lt_mul (Nat.two_pow_pos _)).mpr ?_
          rw [← Nat.pow_add, Nat.add_comm, hSl]
          exact hxb
        have hLx : x % 2 ^ S < 2 ^ S := Nat.mod_lt _ (Nat.two_pow_pos _)
        (repeat' (first | (k_unfold; (try dsimp only)) | ((((fail_if_success k_end); (fail_if_success (with_reducible show wpAny _ _ (exec (PySem.Stmt.For _ _ _ _ _) _) _ _ _)); (fail_if_success (with_reducible show wpAny _ _ (exec (PySem.Stmt.FunctionDef _ _ _ _ _ _ _ _ _ _) _) _ _ _)); (fail_if_success (with_reducible show wpAny _ _ (callWith _ (Value.ref _) _ _ _) _ _ _)); (fail_if_success (with_reducible show wpAny _ _ (setItem _ _ _) _ _ _)); (fail_if_success (with_reducible show wpAny _ _ (binaryOp PySem.Operator.LShift _ _) _ _ _)))); walk1) | (dsimp only; (((fail_if_success k_end); (fail_if_success (with_reducible show wpAny _ _ (exec (PySem.Stmt.For _ _ _ _ _) _) _ _ _)); (fail_if_success (with_reducible show wpAny _ _ (exec (PySem.Stmt.FunctionDef _ _ _ _ _ _ _ _ _ _) _) _ _ _)); (fail_if_success (with_reducible show wpAny _ _ (callWith _ (Value.ref _) _ _ _) _ _ _)); (fail_if_success (with_reducible show wpAny _ _ (setItem _ _ _) _ _ _)); (fail_if_success (with_reducible show wpAny _ _ (binaryOp PySem.Operator.LShift _ _) _ _ _)))); walk1)))
        refine lshift_int (by (with_reducible exact Int.natCast_nonneg _)) (by (lia)) ?_
        (repeat' (first | (k_unfold; (try dsimp only)) | ((((fail_if_success k_end); (fail_if_success (with_reducible show wpAny _ _ (exec (PySem.Stmt.For _ _ _ _ _) _) _ _ _)); (fail_if_success (with_reducible show wpAny _ _ (exec (PySem.Stmt.FunctionDef _ _ _ _ _ _ _ _ _ _) _) _ _ _)); (fail_if_success (with_reducible show wpAny _ _ (callWith _ (Value.ref _) _ _ _) _ _ _)); (fail_if_success (with_reducible show wpAny _ _ (setItem _ _ _) _ _ _)); (fail_if_success (with_reducible show wpAny _ _ (binaryOp PySem.Operator.LShift _ _) _ _ _)))); walk1) | (dsimp only; (((fail_if_success k_end); (fail_if_success (with_reducible show wpAny _ _ (exec (PySem.Stmt.For _ _ _ _ _) _) _ _ _)); (fail_if_success (with_reducible show wpAny _ _ (exec (PySem.Stmt.FunctionDef _ _ _ _ _ _ _ _ _ _) _) _ _ _)); (fail_if_success (with_reducible show wpAny _ _ (callWith _ (Value.ref _) _ _ _) _ _ _)); (fail_if_success (with_reducible show wpAny _ _ (setItem _ _ _) _ _ _)); (fail_if_success (with_reducible show wpAny _ _ (binaryOp PySem.Operator.LShift _ _) _ _ _)))); walk1)))
        rename Fr _ _ _ _ => F7
        rename News _ _ _ _ => N7

        rw [Int.toNat_natCast, show (((x / 2 ^ S : Nat) : Int) * 2 ^ S) = ((x / 2 ^ S * 2 ^ S : Nat) : Int) by simp, xor_low] at F7
        have kx7 := keepX_of (news := [(L' + 1 + 1, oD2), (L' + 1 + 1 + 1, oI4), (L' + 1, oN), (f, fo)]) F7 N7 hgs
        refine callWith_F (hFn _ (N7.get (.tail _ (.tail _ (.tail _ (.tail _ (.head _))))))) ?_
        (repeat' (first | (k_unfold; (try dsimp only)) | ((((fail_if_success k_end); (fail_if_success (with_reducible show wpAny _ _ (exec (PySem.Stmt.For _ _ _ _ _) _) _ _ _)); (fail_if_success (with_reducible show wpAny _ _ (exec (PySem.Stmt.FunctionDef _ _ _ _ _ _ _ _ _ _) _) _ _ _)); (fail_if_success (with_reducible show wpAny _ _ (callWith _ (Value.ref _) _ _ _) _ _ _)); (fail_if_success (with_reducible show wpAny _ _ (setItem _ _ _) _ _ _)); (fail_if_success (with_reducible show wpAny _ _ (binaryOp PySem.Operator.LShift _ _) _ _ _)))); walk1) | (dsimp only; (((fail_if_success k_end); (fail_if_success (with_reducible show wpAny _ _ (exec (PySem.Stmt.For _ _ _ _ _) _) _ _ _)); (fail_if_success (with_reducible show wpAny _ _ (exec (PySem.Stmt.FunctionDef _ _ _ _ _ _ _ _ _ _) _) _ _ _)); (fail_if_success (with_reducible show wpAny _ _ (callWith _ (Value.ref _) _ _ _) _ _ _)); (fail_if_success (with_reducible show wpAny _ _ (setItem _ _ _) _ _ _)); (fail_if_success (with_reducible show wpAny _ _ (binaryOp PySem.Operator.LShift _ _) _ _ _)))); walk1)))
        refine ⟨hFn _ (N7.get (.tail _ (.tail _ (.tail _ (.tail _ (.head _)))))), ?_⟩
        refine ih k (Nat.lt_succ_self _) _ _ ((x % 2 ^ S : Nat) : Int) (lo : Int) (mid : Int) _ _ _ vs cp ns _ _ (by show A'.depth + 1 + k + 1 < _; (with_reducible exact o_dpk (by assumption))) hh' (hK0.trans F7.keep) (N7.get (.tail _ (.tail _ (.tail _ (.tail _ (.head _)))))) (codeRec_x grec kx7 gD)
          (N7.get (.tail _ (.head _))) (N7.get (.tail _ (.tail _ (.head _)))) (N7.get (.tail _ (.tail _ (.tail _ (.head _))))) (N7.get (.head _)) hvs hsz hlo (by (with_reducible exact Int.ofNat_lt.mpr (And.left (by assumption)))) (by (with_reducible exact Int.le_trans (Int.le_of_lt (Int.ofNat_lt.mpr (And.right (by assumption)))) (by assumption))) (by rw [← hpk]; (with_reducible exact And.left (by assumption))) (by (with_reducible exact Int.natCast_nonneg _)) (by rw [Int.toNat_natCast, show ((mid : Int) - lo).toNat = mid - lo by (with_reducible exact Int.toNat_sub _ _), Int.toNat_natCast, hS]; exact hLx) (fun h8 tk8 vs8 kx8 gD8 i8 => ?_)
        have F8 := Fr.keepX F7 (hideAll_none _ (.head _)) (N7 _ (.head _)).2.1 kx8
        have N8 := News.keepX N7 hDh kx8 gD8
        try clear F7 N7
        (repeat' (first | (k_unfold; (try dsimp only)) | ((((fail_if_success k_end); (fail_if_success (with_reducible show wpAny _ _ (exec (PySem.Stmt.For _ _ _ _ _) _) _ _ _)); (fail_if_success (with_reducible show wpAny _ _ (exec (PySem.Stmt.FunctionDef _ _ _ _ _ _ _ _ _ _) _) _ _ _)); (fail_if_success (with_reducible show wpAny _ _ (callWith _ (Value.ref _) _ _ _) _ _ _)); (fail_if_success (with_reducible show wpAny _ _ (setItem _ _ _) _ _ _)); (fail_if_success (with_reducible show wpAny _ _ (binaryOp PySem.Operator.LShift _ _) _ _ _)))); walk1) | (dsimp only; (((fail_if_success k_end); (fail_if_success (with_reducible show wpAny _ _ (exec (PySem.Stmt.For _ _ _ _ _) _) _ _ _)); (fail_if_success (with_reducible show wpAny _ _ (exec (PySem.Stmt.FunctionDef _ _ _ _ _ _ _ _ _ _) _) _ _ _)); (fail_if_success (with_reducible show wpAny _ _ (callWith _ (Value.ref _) _ _ _) _ _ _)); (fail_if_success (with_reducible show wpAny _ _ (setItem _ _ _) _ _ _)); (fail_if_success (with_reducible show wpAny _ _ (binaryOp PySem.Operator.LShift _ _) _ _ _)))); walk1)))
        have kx8' := kx7.trans kx8
        refine callWith_F (hFn _ (N8.get (.tail _ (.tail _ (.tail _ (.tail _ (.head _))))))) ?_
        (repeat' (first | (k_unfold; (try dsimp only)) | ((((fail_if_success k_end); (fail_if_success (with_reducible show wpAny _ _ (exec (PySem.Stmt.For _ _ _ _ _) _) _ _ _)); (fail_if_success (with_reducible show wpAny _ _ (exec (PySem.Stmt.FunctionDef _ _ _ _ _ _ _ _ _ _) _) _ _ _)); (fail_if_success (with_reducible show wpAny _ _ (callWith _ (Value.ref _) _ _ _) _ _ _)); (fail_if_success (with_reducible show wpAny _ _ (setItem _ _ _) _ _ _)); (fail_if_success (with_reducible show wpAny _ _ (binaryOp PySem.Operator.LShift _ _) _ _ _)))); walk1) | (dsimp only; (((fail_if_success k_end); (fail_if_success (with_reducible show wpAny _ _ (exec (PySem.Stmt.For _ _ _ _ _) _) _ _ _)); (fail_if_success (with_reducible show wpAny _ _ (exec (PySem.Stmt.FunctionDef _ _ _ _ _ _ _ _ _ _) _) _ _ _)); (fail_if_success (with_reducible show wpAny _ _ (callWith _ (Value.ref _) _ _ _) _ _ _)); (fail_if_success (with_reducible show wpAny _ _ (setItem _ _ _) _ _ _)); (fail_if_success (with_reducible show wpAny _ _ (binaryOp PySem.Operator.LShift _ _) _ _ _)))); walk1)))
        refine ⟨hFn _ (N8.get (.tail _ (.tail _ (.tail _ (.tail _ (.head _)))))), ?_⟩
        have hsz8 : ((ns.take lo ++ digs n (mid - lo) (x % 2 ^ S)) ++ ns.drop mid).length = ns.length := by
          rw [List.length_append, List.length_append, List.length_take, List.length_drop, digs_length]; exact o_min (Nat.le_of_lt hm1.1) (Nat.le_trans (Nat.le_of_lt hm1.2) (Int.ofNat_le.mp hhi))
        simp only [Int.toNat_natCast, show ((mid : Int) - lo).toNat = mid - lo by (with_reducible exact Int.toNat_sub _ _)] at i8
        refine ih k (Nat.lt_succ_self _) _ _ ((x / 2 ^ S : Nat) : Int) (mid : Int) (hi : Int) _ _ _ vs8 cp _ _ _ (by show A'.depth + 1 + k + 1 < _; (with_reducible exact o_dpk (by assumption))) hh' (hK0.trans F8.keep) (N8.get (.tail _ (.tail _ (.tail _ (.tail _ (.head _)))))) (codeRec_x grec kx8' gD)
          (N8.get (.tail _ (.head _))) (N8.get (.tail _ (.tail _ (.head _)))) (N8.get (.tail _ (.tail _ (.tail _ (.head _))))) (N8.get (.head _)) i8 (by rw [hsz8]; exact hsz) (by (with_reducible exact Int.natCast_nonneg _)) (by (with_reducible exact Int.ofNat_lt.mpr (And.right (by assumption)))) (by rw [hsz8]; (with_reducible assumption)) (by rw [← hpk]; (with_reducible exact And.right (by assumption))) (Int.natCast_nonneg _) (by rw [Int.toNat_natCast, show ((hi : Int) - mid).toNat = hi - mid by (with_reducible exact Int.toNat_sub _ _), Int.toNat_natCast]; exact hUx) (fun h9 tk9 vs9 kx9 gD9 i9 => ?_)
        (repeat' (first | (k_unfold; (try dsimp only)) | ((((fail_if_success k_end); (fail_if_success (with_reducible show wpAny _ _ (exec (PySem.Stmt.For _ _ _ _ _) _) _ _ _)); (fail_if_success (with_reducible show wpAny _ _ (exec (PySem.Stmt.FunctionDef _ _ _ _ _ _ _ _ _ _) _) _ _ _)); (fail_if_success (with_reducible show wpAny _ _ (callWith _ (Value.ref _) _ _ _) _ _ _)); (fail_if_success (with_reducible show wpAny _ _ (setItem _ _ _) _ _ _)); (fail_if_success (with_reducible show wpAny _ _ (binaryOp PySem.Operator.LShift _ _) _ _ _)))); walk1) | (dsimp only; (((fail_if_success k_end); (fail_if_success (with_reducible show wpAny _ _ (exec (PySem.Stmt.For _ _ _ _ _) _) _ _ _)); (fail_if_success (with_reducible show wpAny _ _ (exec (PySem.Stmt.FunctionDef _ _ _ _ _ _ _ _ _ _) _) _ _ _)); (fail_if_success (with_reducible show wpAny _ _ (callWith _ (Value.ref _) _ _ _) _ _ _)); (fail_if_success (with_reducible show wpAny _ _ (setItem _ _ _) _ _ _)); (fail_if_success (with_reducible show wpAny _ _ (binaryOp PySem.Operator.LShift _ _) _ _ _)))); walk1)))
        refine ret _ _ _ (kx8'.trans kx9) gD9 ?_
        simp only [Int.toNat_natCast, show ((hi : Int) - mid).toNat = hi - mid by (with_reducible exact Int.toNat_sub _ _), show ((hi : Int) - lo).toNat = hi - lo by (with_reducible exact Int.toNat_sub _ _)] at i9 ⊢
        rw [two_parts (by rw [digs_length]) (by (with_reducible exact Nat.le_of_lt (And.left (by assumption)))) (by (with_reducible exact Nat.le_of_lt (And.right (by assumption)))) (by (with_reducible exact Int.ofNat_le.mp (by assumption)))] at i9
        rw [show hi - lo = (mid - lo) + (hi - mid) by (with_reducible exact o_sub2 (by assumption)), digs_add, hS]
        rw [← hS, digs_mod, hS] at i9
        exact i9
  have hfr : s.heap.get? D = none := by
    refine Heap.get?_none_of_le ?_
    have := F4.above
    rw [show (Gh s.heap).objs.size = s.heap.objs.size from hideAll_size _ _] at this
    exact Nat.le_trans this (Nat.le_of_lt (Nat.lt_of_succ_lt l2.2.2.2.1))
  have fin : ∀ (hE : Heap) (tkE : Nat) (m : Str → Option Value) (vsE : List Value), Fr (Gh s.heap) L' hE m →
      News (Gh s.heap) L' hE ((f, fo) :: (58, tabObj ps') :: (D, W.listOf (List.toArray vsE) 0) :: (L' + 1 + 1 + 1, oI4) :: (L' + 1 + 1, oD2) :: (L' + 1, oN) :: (65, tabObj ps2) :: ex) →
      IntsAre vsE (digF n a) → Q (.ref D) { heap := hE, gens := s.gens, drawn := s.drawn, toks := tkE, os := s.os } := by
    intro hE tkE m vsE F N i
    refine ret D tkE hE (keepC_of (but_of_gh F.keep) ?_) (wt_of_fr W' F ((hex hE F.keep fun q hq => (N q ?_).1).1.ok (N.get (.tail _ (.head _)))) ((tp2.keeps F.keep).ok (N.get ?_))) ⟨ps', N.get (.tail _ (.head _)), hps1⟩ hfr ⟨vsE, 0, N.get (.tail _ (.tail _ (.head _))), i⟩
    · intro P hP o e hc
      rcases List.mem_cons.mp hP with rfl | hP
      · rw [hp1] at e; cases e
        rw [← hps2 (fun q => hc (by rw [q]))]
        exact N.get (.tail _ (.head _))
      · rw [List.mem_singleton.mp hP] at e ⊢
        rw [hp2] at e; cases e
        exact N.get (by (repeat' (first | with_reducible assumption | with_reducible exact List.mem_cons_self | with_reducible refine List.mem_cons_of_mem _ ?_ | with_reducible refine List.mem_append_left _ ?_)))
    · (repeat' (first | with_reducible assumption | with_reducible exact List.mem_cons_self | with_reducible refine List.mem_cons_of_mem _ ?_ | with_reducible refine List.mem_append_left _ ?_))
    · (repeat' (first | with_reducible assumption | with_reducible exact List.mem_cons_self | with_reducible refine List.mem_cons_of_mem _ ?_ | with_reducible refine List.mem_append_left _ ?_))
  have hn1 : n1 = kk := by have := e3 (by (with_reducible exact Int.natCast_nonneg _)); (lia)
  have hbase : digF n a = digs n.toNat kk a.toNat := by unfold digF; rw [hkk]
  (repeat' (first | (k_unfold; (try dsimp only)) | ((((fail_if_success k_end); (fail_if_success (with_reducible show wpAny _ _ (exec (PySem.Stmt.For _ _ _ _ _) _) _ _ _)); (fail_if_success (with_reducible show wpAny _ _ (exec (PySem.Stmt.FunctionDef _ _ _ _ _ _ _ _ _ _) _) _ _ _)); (fail_if_success (with_reducible show wpAny _ _ (callWith _ (Value.ref _) _ _ _) _ _ _)); (fail_if_success (with_reducible show wpAny _ _ (setItem _ _ _) _ _ _)); (fail_if_success (with_reducible show wpAny _ _ (binaryOp PySem.Operator.LShift _ _) _ _ _)))); walk1) | (dsimp only; (((fail_if_success k_end); (fail_if_success (with_reducible show wpAny _ _ (exec (PySem.Stmt.For _ _ _ _ _) _) _ _ _)); (fail_if_success (with_reducible show wpAny _ _ (exec (PySem.Stmt.FunctionDef _ _ _ _ _ _ _ _ _ _) _) _ _ _)); (fail_if_success (with_reducible show wpAny _ _ (callWith _ (Value.ref _) _ _ _) _ _ _)); (fail_if_success (with_reducible show wpAny _ _ (setItem _ _ _) _ _ _)); (fail_if_success (with_reducible show wpAny _ _ (binaryOp PySem.Operator.LShift _ _) _ _ _)))); walk1)))
  · rename a ≠ 0 => ha0
    have hfn4 : FnAt f h4 := by have := N4.get (.head _); rw [hfd] at this; exact ⟨_, _, _, _, this⟩
    refine callWith_F hfn4 ?_
    (repeat' (first | (k_unfold; (try dsimp only)) | ((((fail_if_success k_end); (fail_if_success (with_reducible show wpAny _ _ (exec (PySem.Stmt.For _ _ _ _ _) _) _ _ _)); (fail_if_success (with_reducible show wpAny _ _ (exec (PySem.Stmt.FunctionDef _ _ _ _ _ _ _ _ _ _) _) _ _ _)); (fail_if_success (with_reducible show wpAny _ _ (callWith _ (Value.ref _) _ _ _) _ _ _)); (fail_if_success (with_reducible show wpAny _ _ (setItem _ _ _) _ _ _)); (fail_if_success (with_reducible show wpAny _ _ (binaryOp PySem.Operator.LShift _ _) _ _ _)))); walk1) | (dsimp only; (((fail_if_success k_end); (fail_if_success (with_reducible show wpAny _ _ (exec (PySem.Stmt.For _ _ _ _ _) _) _ _ _)); (fail_if_success (with_reducible show wpAny _ _ (exec (PySem.Stmt.FunctionDef _ _ _ _ _ _ _ _ _ _) _) _ _ _)); (fail_if_success (with_reducible show wpAny _ _ (callWith _ (Value.ref _) _ _ _) _ _ _)); (fail_if_success (with_reducible show wpAny _ _ (setItem _ _ _) _ _ _)); (fail_if_success (with_reducible show wpAny _ _ (binaryOp PySem.Operator.LShift _ _) _ _ _)))); walk1)))
    refine ⟨hfn4, ?_⟩
    have hbp : 1 ≤ Builtin.Int.intBits a := by
      rcases Nat.eq_zero_or_pos (Builtin.Int.intBits a) with q | q
      · have := intBits_le_iff.mp (Nat.le_of_eq q)
        simp at this; (with_reducible exact absurd (by assumption) (by assumption))
      · exact q
    obtain ⟨n0, rfl⟩ : ∃ q : Nat, n = q := ⟨n.toNat, by (with_reducible exact o_tn1 (by assumption))⟩
    have hkd : kk = (Builtin.Int.intBits a + n0 - 1) / n0 := by
      rw [← hkk]; unfold digN
      rw [Int.toNat_natCast, o_tn2 _ _ (Int.ofNat_le.mp hn)]
    have hk1 : 1 ≤ kk := by
      rw [hkd]; exact (Nat.le_div_iff_mul_le (by (with_reducible exact o_natn (by assumption)))).mpr (by (lia))
    have hk2 : Builtin.Int.intBits a ≤ n0 * kk := by
      have := Nat.div_add_mod (Builtin.Int.intBits a + n0 - 1) n0
      have h2 := Nat.mod_lt (Builtin.Int.intBits a + n0 - 1) (show n0 > 0 by (with_reducible exact o_natn (by assumption)))
      rw [← hkd] at this
      (lia)
    have hax : a.toNat < 2 ^ (n0 * kk) := by
      have := intBits_le_iff.mp hk2
      rwa [show a.natAbs = a.toNat from Int.ofNat.inj ((Int.natAbs_of_nonneg ha).trans (Int.toNat_of_nonneg ha).symm)] at this
    subst hn1
    refine key 21 _ _ a 0 (n1 : Int) _ _ _ _ 0 _ _ _ (by show A.depth + 1 + 21 + 1 < _; (with_reducible exact o_dp3 (by assumption) _ _ _ (by decide))) hh F4.keep (N4.get (.head _)) ((hex h4 F4.keep fun q hq => (N4 q ?_).1).2) (N4.get (.tail _ (.tail _ (.tail _ (.tail _ (.head _)))))) (N4.get (.tail _ (.tail _ (.tail _ (.head _))))) (N4.get (.tail _ (.tail _ (.tail _ (.tail _ (.tail _ (.head _))))))) (N4.get (.tail _ (.tail _ (.head _)))) i1 (by (with_reducible exact Nat.le_trans (Nat.le_of_eq (by assumption)) (Nat.le_trans (by assumption) (by decide)))) (by (with_reducible exact Int.le_refl _)) (by (lia)) (by (lia)) (by simp only [Int.reducePow]; (lia)) ha (by rw [Int.toNat_natCast, Int.sub_zero, Int.toNat_natCast]; exact hax) (fun h8 tk8 vs8 kx8 gD8 i8 => ?_)
    · (repeat' (first | with_reducible assumption | with_reducible exact List.mem_cons_self | with_reducible refine List.mem_cons_of_mem _ ?_ | with_reducible refine List.mem_append_left _ ?_))
    have F8 := Fr.keepX F4 (fresh _ (Nat.lt_of_succ_lt l2.2.2.2.1)) (Nat.ne_of_gt (Nat.lt_of_succ_lt l2.2.2.2.1)) kx8
    have N8 : News (Gh s.heap) L' h8 ((f, fo) :: (58, tabObj ps') :: (D, W.listOf (List.toArray vs8) 0) :: (L' + 1 + 1 + 1, oI4) :: (L' + 1 + 1, oD2) :: (L' + 1, oN) :: (65, tabObj ps2) :: ex) := by
      have hb := News.keepX (d := D) (news := (f, fo) :: (58, tabObj ps') :: (L' + 1 + 1 + 1, oI4) :: (L' + 1 + 1, oD2) :: (L' + 1, oN) :: (65, tabObj ps2) :: ex) (o := W.listOf (List.replicate (n1 : Int).toNat [Value.int 0 tk0]).flatten.toArray 0) (News.sub N4 fun q hq => ?_) (fun q hq => ?_) kx8 gD8
      · refine News.sub hb fun q hq => ?_
        exact sub_use hq (by (repeat' (first | with_reducible exact sub_nil | with_reducible refine sub_cons ?_ ?_ | with_reducible assumption | with_reducible exact List.mem_cons_self | with_reducible refine List.mem_cons_of_mem _ ?_ | with_reducible refine List.mem_append_left _ ?_ | intro _ _)))
      · exact sub_use hq (by (repeat' (first | with_reducible exact sub_nil | with_reducible refine sub_cons ?_ ?_ | with_reducible assumption | with_reducible exact List.mem_cons_self | with_reducible refine List.mem_cons_of_mem _ ?_ | with_reducible refine List.mem_append_left _ ?_ | intro _ _)))
      · exact (sub_cons (p := fun q : Addr × Obj => @Ne Nat q.1 D) (Nat.ne_of_gt lfD) (sub_cons (Nat.ne_of_lt l2.2.2.2.2.1) (sub_cons (Nat.ne_of_lt l2.2.1) (sub_cons (Nat.ne_of_lt l2.2.2.1) (sub_cons (Nat.ne_of_lt l2.2.2.2.1) (sub_cons (Nat.ne_of_lt l2.2.2.2.2.2)
          fun q h => Nat.ne_of_gt ((lf4 q h).1 _ (.head _)))))))) q hq
    clear F4 N4
    (repeat' (first | (k_unfold; (try dsimp only)) | ((((fail_if_success k_end); (fail_if_success (with_reducible show wpAny _ _ (exec (PySem.Stmt.For _ _ _ _ _) _) _ _ _)); (fail_if_success (with_reducible show wpAny _ _ (exec (PySem.Stmt.FunctionDef _ _ _ _ _ _ _ _ _ _) _) _ _ _)); (fail_if_success (with_reducible show wpAny _ _ (callWith _ (Value.ref _) _ _ _) _ _ _)); (fail_if_success (with_reducible show wpAny _ _ (setItem _ _ _) _ _ _)); (fail_if_success (with_reducible show wpAny _ _ (binaryOp PySem.Operator.LShift _ _) _ _ _)))); walk1) | (dsimp only; (((fail_if_success k_end); (fail_if_success (with_reducible show wpAny _ _ (exec (PySem.Stmt.For _ _ _ _ _) _) _ _ _)); (fail_if_success (with_reducible show wpAny _ _ (exec (PySem.Stmt.FunctionDef _ _ _ _ _ _ _ _ _ _) _) _ _ _)); (fail_if_success (with_reducible show wpAny _ _ (callWith _ (Value.ref _) _ _ _) _ _ _)); (fail_if_success (with_reducible show wpAny _ _ (setItem _ _ _) _ _ _)); (fail_if_success (with_reducible show wpAny _ _ (binaryOp PySem.Operator.LShift _ _) _ _ _)))); walk1)))
    refine fin h8 tk8 _ vs8 F8 N8 ?_
    rw [hbase]
    simp only [Int.toNat_natCast, Int.sub_zero] at i8 ⊢
    rw [List.drop_of_length_le (by simp), List.append_nil] at i8
    exact i8
  · rename a = 0 => ha0
    refine fin h4 _ _ _ F4 N4 ?_
    have hk0 : kk = 0 := by
      rw [← hkk]; unfold digN; subst ha0
      refine Nat.div_eq_of_lt ?_
      have : Builtin.Int.intBits 0 = 0 := rfl
      (lia)
    rw [hbase]
    subst hk0
    exact .nil
end Mine
end
section
open PySem PySem.W PyProof.Rows PySem.Calls
namespace Mine
theorem wd_fill_int (w : World) (h : Heap) (_ : OpenLaw) (e : Challenge.rw_ph0098_01 = Challenge.rw_ph0098_01) : (hd.heap_39 w.params).In h → (hd.heap_39 w.params).In h ∧ Challenge.rw_ph0098_01 = Challenge.rw_ph0098_01 := by
  k_fill
  exact fun x => ⟨x, e⟩
theorem keepAll_of {h h' : Heap} {L : Addr} {m : Str → Option Value} {news : List (Addr × Obj)} (F : Fr (hideAll h (news.map (·.1))) L h' m) (N : News (hideAll h (news.map (·.1))) L h' news) (g : ∀ p ∈ news, h.get? p.1 = some p.2) : KeepAll h h' := by
  intro b o e
  by_cases hm : b ∈ news.map (·.1)
  · obtain ⟨p, hp, rfl⟩ := List.mem_map.mp hm
    rw [g p hp] at e; cases e
    exact (N p hp).1
  · exact F.keep b o (hideAll_get _ e hm)
theorem Wt.gh {w : World} {h : Heap} (x : Wt w h) {b : Addr} {o : Obj} (e : h.get? b = some o) (hn : o.cls ≠ .none) : (Gh h).get? b = some o := hideAll_get ts e (x.notinC e hn)
theorem LI.gh {w : World} {h : Heap} {a : Addr} {ns : List Int} (W : Wt w h) (x : LI h a ns) : LI (Gh h) a ns := let ⟨vs, n, e, i⟩ := x; ⟨vs, n, W.gh e (by nofun), i⟩

set_option maxRecDepth 100000 in
set_option maxHeartbeats 1000000 in
theorem int_spec {w : World} {A : Around} {s : Shared} {n : Int} {dA : Addr} {ds : List Int} {t2 : Tok} {Q E : Value → Shared → Prop}
  (W : Wt w s.heap) (hd0 : A.depth + 25 < recursionLimit) (hh : A.handled = none) (LD : LI s.heap dA ds) (hdl : ds.length ≤ 1048700) (hn : 1 ≤ n) (hn2 : n ≤ 20) (hdb : ∀ d ∈ ds, 0 ≤ d ∧ d < 2 ^ n.toNat)
  (ret : ∀ t tk h', KeepC s.heap h' → Wt w h' → Hot h' 65 → Q (.int (undig n.toNat ds) t) { s with heap := h', toks := tk }) :
  wpAny (model Challenge.rw_ph0098_01.row.prog w) A (call (.ref 70) [.ref dA, .int n t2]) Q E s := by
  have W' := W
  have LG := LD.gh W
  obtain ⟨vd0, hld0, hid0⟩ := LG.isList
  have hdz : vd0.toArray.size ≤ sizeLine := by have := hid0.length; have := sizeLine_eq; simp; (with_reducible exact o_szi (by assumption) (by assumption) (by decide))
  obtain ⟨⟨X, p, loose, mean, mg, mb, T⟩, C1, C2, K1, K2⟩ := W
  have X0 : (hd.heap_39 w.params).In s.heap := X.keeps (gh_sub _)
  have T0 := T.keeps (gh_sub _)
  refine wpAny_call ?_
  k_dflt (refine' enter_cells (binds := [(Str.ofString "digits", .ref dA), (Str.ofString "n", .int n t2)]) X0 T0 ?k6 ?k7 ?k8 ?k9 ?kB ?c1 ?_ ?c2 ?c3 ?c4; (case k6 => k_is); (case k7 => k_is); (case k8 => (with_reducible exact o_dp0 (by assumption))); (case k9 => exact BindsTo.of_eq rfl); (case c1 => decide); (case kB => rfl);  (case c2 => exact rfl); (case c3 => exact rfl); (case c4 => exact rfl))
  intro L' h₁ tk cells F' N' CA
  dsimp only
  clear X0 T0
  obtain ⟨ps1, hp1, tp1⟩ := TabP.of K1
  obtain ⟨ps2, hp2, tp2⟩ := TabP.of K2
  have hL58 : (58 : Nat) < L' := Nat.lt_of_lt_of_le (Heap.lt_size hp1) F'.above
  have hL65 : (65 : Nat) < L' := Nat.lt_of_lt_of_le (Heap.lt_size hp2) F'.above
  replace N' : News (Gh s.heap) L' h₁ (cells ++ [(58, tabObj ps1), (65, tabObj ps2)]) := by
    intro q hq
    rcases List.mem_append.mp hq with hq | hq
    · exact gh_news N' q hq
    exact (sub_cons (p := fun q : Addr × Obj => h₁.get? q.1 = some q.2 ∧ q.1 ≠ L' ∧ (Gh s.heap).get? q.1 = none) ⟨F'.keep _ _ hp1, Nat.ne_of_lt hL58, hideAll_none ts (.head _)⟩ (sub_cons ⟨F'.keep _ _ hp2, Nat.ne_of_lt hL65, hideAll_none ts (.tail _ (.head _))⟩ sub_nil)) q hq
  replace F' := gh_fr F'
  obtain ⟨oI, oN, oD, rfl, hoI, hoN, hoD⟩ := CellsAre.three CA
  replace hoN : oN.data = .cell (some (.int n t2)) := hoN
  replace hoD : oD.data = .cell (some (.ref dA)) := hoD
  replace hoI : oI.data = .cell none := hoI
  clear CA
  simp only [List.cons_append, List.nil_append] at N'
  (repeat' (first | (k_unfold; (try dsimp only)) | ((((fail_if_success k_end); (fail_if_success (with_reducible show wpAny _ _ (exec (PySem.Stmt.For _ _ _ _ _) _) _ _ _)); (fail_if_success (with_reducible show wpAny _ _ (exec (PySem.Stmt.FunctionDef _ _ _ _ _ _ _ _ _ _) _) _ _ _)); (fail_if_success (with_reducible show wpAny _ _ (callWith _ (Value.ref _) _ _ _) _ _ _)); (fail_if_success (with_reducible show wpAny _ _ (subscriptTail _ _ _ _) _ _ _)); (fail_if_success (with_reducible show wpAny _ _ (binaryOp PySem.Operator.LShift _ _) _ _ _)))); walk1) | (dsimp only; (((fail_if_success k_end); (fail_if_success (with_reducible show wpAny _ _ (exec (PySem.Stmt.For _ _ _ _ _) _) _ _ _)); (fail_if_success (with_reducible show wpAny _ _ (exec (PySem.Stmt.FunctionDef _ _ _ _ _ _ _ _ _ _) _) _ _ _)); (fail_if_success (with_reducible show wpAny _ _ (callWith _ (Value.ref _) _ _ _) _ _ _)); (fail_if_success (with_reducible show wpAny _ _ (subscriptTail _ _ _ _) _ _ _)); (fail_if_success (with_reducible show wpAny _ _ (binaryOp PySem.Operator.LShift _ _) _ _ _)))); walk1)))
  refine nestDef_K rfl rfl rfl ?_
  refine nest_led (P := 65) (c := 69) (news := [(L' + 1 + 1 + 1, oI), (L' + 1 + 1, oN), (L' + 1, oD), (58, tabObj ps1)]) (.tail _ (.head _)) F' (News.sub N' ?_) ?_ T C2 rfl ?_ tp2 rfl ?_
  · (repeat' (first | with_reducible exact sub_nil | with_reducible refine sub_cons ?_ ?_ | with_reducible assumption | with_reducible exact List.mem_cons_self | with_reducible refine List.mem_cons_of_mem _ ?_ | with_reducible refine List.mem_append_left _ ?_ | intro _ _))
  · exact sub_cons (Nat.ne_of_gt (Nat.lt_add_right 3 hL65)) (sub_cons (Nat.ne_of_gt (Nat.lt_add_right 2 hL65)) (sub_cons (Nat.ne_of_gt (Nat.lt_add_right 1 hL65)) (sub_cons (by decide : (58 : Nat) ≠ 65) sub_nil)))
  · intro b hb
    have := F'.ns.lt
    rcases List.mem_cons.mp hb with rfl | hb
    · exact Nat.lt_trans hL58 this
    · rw [List.mem_singleton.mp hb]; exact Nat.lt_trans hL65 this
  intro f c' ctv doc h3 tk3 ps' ex hps1 hps2 F3 N3 hex lf1 lf2 lf3 lf4
  obtain ⟨fo, hfo, hfd⟩ : ∃ fo, h3.get? f = some fo ∧ fo = _ := ⟨_, N3.get (.head _), rfl⟩
  rw [← hfd] at N3
  have lfI : L' + 1 + 1 + 1 < f := lf1 _ (.head _)
  refine storeX_C F3 N3 rfl (UpdF.tail (Nat.ne_of_gt lfI) (UpdF.tail (Nat.ne_of_lt (Nat.lt_trans hL65 (by (lia)))) (UpdF.head (fun q hq => ?_)))) hoI (fun h4 oI4 F4 N4 hoI4 => ?_)
  · replace hq : q ∈ (L' + 1 + 1, oN) :: (L' + 1, oD) :: (58, tabObj ps1) :: ex := hq
    exact (sub_cons (p := fun q : Addr × Obj => @Ne Nat q.1 (L' + 1 + 1 + 1)) (Nat.ne_of_lt (Nat.lt_succ_self _)) (sub_cons (Nat.ne_of_lt (Nat.lt_add_of_pos_right (by decide : 0 < 2))) (sub_cons (Nat.ne_of_lt (Nat.lt_add_right 3 hL58)) fun q h => Nat.ne_of_gt ((lf4 q h).1 _ (.head _))))) q hq
  simp only [List.nil_append, List.cons_append, List.append_eq] at N4
  dsimp only
  have fresh : ∀ b, L' < b → (Gh s.heap).get? b = none := fun b hb => Heap.get?_none_of_le (Nat.le_trans F4.above (Nat.le_of_lt hb))
  have key : ∀ (k : Nat) (A' : Around) (s' : Shared) (lo hi : Int) (tl th : Tok) (Q' E' : Value → Shared → Prop),
      A'.depth + k + 1 < recursionLimit → A'.handled = none → KeepAll (Gh s.heap) s'.heap →
      s'.heap.get? f = some fo → s'.heap.CodeRec (.ref c') intQual → s'.heap.get? (L' + 1 + 1 + 1) = some oI4 → s'.heap.get? (L' + 1 + 1) = some oN → s'.heap.get? (L' + 1) = some oD →
      0 ≤ lo → lo < hi → hi ≤ ds.length → hi - lo ≤ 2 ^ k →
      (∀ t h' tk, KeepAll s'.heap h' → Q' (.int (undig n.toNat ((ds.drop lo.toNat).take (hi - lo).toNat)) t) { s' with heap := h', toks := tk }) →
      wpAny (model Challenge.rw_ph0098_01.row.prog w) A' (call (.ref f) [.int lo tl, .int hi th]) Q' E' s' := by
    clear F4 N4 F3 N3 ret hex lf4 hfo
    intro k
    induction k using Nat.strongRecOn with
    | ind k ih =>
      intro A' s' lo hi tl th Q' E' hroom hh' hka gf grec g1 g2 g3 hlo hlh hhi hpw ret
      have gf' := gf
      rw [hfd] at gf'
      have hgs : ∀ q ∈ [(L' + 1 + 1 + 1, oI4), (L' + 1 + 1, oN), (L' + 1, oD), (f, fo)], s'.heap.get? q.1 = some q.2 := by
        refine sub_cons ?_ (sub_cons ?_ (sub_cons ?_ (sub_cons ?_ sub_nil))) <;> assumption
      have hFn : ∀ h : Heap, h.get? f = some fo → FnAt f h := fun h e => by rw [hfd] at e; exact ⟨_, _, _, _, e⟩
      have hK0 : KeepAll (Gh s.heap) (hideAll s'.heap [L' + 1 + 1 + 1, L' + 1 + 1, L' + 1, f]) := by
        intro b o e
        refine hideAll_get _ (hka b o e) (fun q => ?_)
        have hb : L' < b := (sub_cons (p := fun b : Nat => L' < b) (Nat.lt_add_of_pos_right (by decide : 0 < 3)) (sub_cons (Nat.lt_add_of_pos_right (by decide : 0 < 2)) (sub_cons (Nat.lt_succ_self _) (sub_cons lf3 sub_nil)))) b q
        rw [fresh b hb] at e; cases e
      refine wpAny_call ?_
      refine enter_nest (p := p) (loose := loose) (mean := mean) (mg := mg) (mb := mb) (hs := [L' + 1 + 1 + 1, L' + 1 + 1, L' + 1, f]) (news := [(L' + 1 + 1 + 1, oI4), (L' + 1 + 1, oN), (L' + 1, oD), (f, fo)]) (binds := [(Str.ofString "L", .int lo tl), (Str.ofString "R", .int hi th)]) (T.keeps hK0) ?_ gf' grec (by (with_reducible exact o_dpr (by assumption))) (BindsTo.of_eq rfl) (locs rfl) ?_ rfl rfl rfl (by decide)
      · intro q hq
        exact ⟨hgs q hq, sub_use (p := fun q : Addr × Obj => q.1 ∈ [L' + 1 + 1 + 1, L' + 1 + 1, L' + 1, f]) hq (by (repeat' (first | with_reducible exact sub_nil | with_reducible refine sub_cons ?_ ?_ | with_reducible assumption | with_reducible exact List.mem_cons_self | with_reducible refine List.mem_cons_of_mem _ ?_ | with_reducible refine List.mem_append_left _ ?_ | intro _ _)))⟩
      intro L2 h5 F5 N5
      dsimp only
      have hzz := sizeLine_eq
      (repeat' (first | (k_unfold; (try dsimp only)) | ((((fail_if_success k_end); (fail_if_success (with_reducible show wpAny _ _ (exec (PySem.Stmt.For _ _ _ _ _) _) _ _ _)); (fail_if_success (with_reducible show wpAny _ _ (exec (PySem.Stmt.FunctionDef _ _ _ _ _ _ _ _ _ _) _) _ _ _)); (fail_if_success (with_reducible show wpAny _ _ (callWith _ (Value.ref _) _ _ _) _ _ _)); (fail_if_success (with_reducible show wpAny _ _ (subscriptTail _ _ _ _) _ _ _)); (fail_if_success (with_reducible show wpAny _ _ (binaryOp PySem.Operator.LShift _ _) _ _ _)))); walk1) | (dsimp only; (((fail_if_success k_end); (fail_if_success (with_reducible show wpAny _ _ (exec (PySem.Stmt.For _ _ _ _ _) _) _ _ _)); (fail_if_success (with_reducible show wpAny _ _ (exec (PySem.Stmt.FunctionDef _ _ _ _ _ _ _ _ _ _) _) _ _ _)); (fail_if_success (with_reducible show wpAny _ _ (callWith _ (Value.ref _) _ _ _) _ _ _)); (fail_if_success (with_reducible show wpAny _ _ (subscriptTail _ _ _ _) _ _ _)); (fail_if_success (with_reducible show wpAny _ _ (binaryOp PySem.Operator.LShift _ _) _ _ _)))); walk1)))
      · rename lo + 1 = hi => hend
        refine item_list (hld0.at fun _ e => F5.keep _ _ (hK0 _ _ e)) hid0 hlo (by (with_reducible exact Int.lt_of_lt_of_le (by assumption) (by assumption))) (by (with_reducible exact o_szn (by assumption) (by decide))) fun t5 => ?_
        (repeat' (first | (k_unfold; (try dsimp only)) | ((((fail_if_success k_end); (fail_if_success (with_reducible show wpAny _ _ (exec (PySem.Stmt.For _ _ _ _ _) _) _ _ _)); (fail_if_success (with_reducible show wpAny _ _ (exec (PySem.Stmt.FunctionDef _ _ _ _ _ _ _ _ _ _) _) _ _ _)); (fail_if_success (with_reducible show wpAny _ _ (callWith _ (Value.ref _) _ _ _) _ _ _)); (fail_if_success (with_reducible show wpAny _ _ (subscriptTail _ _ _ _) _ _ _)); (fail_if_success (with_reducible show wpAny _ _ (binaryOp PySem.Operator.LShift _ _) _ _ _)))); walk1) | (dsimp only; (((fail_if_success k_end); (fail_if_success (with_reducible show wpAny _ _ (exec (PySem.Stmt.For _ _ _ _ _) _) _ _ _)); (fail_if_success (with_reducible show wpAny _ _ (exec (PySem.Stmt.FunctionDef _ _ _ _ _ _ _ _ _ _) _) _ _ _)); (fail_if_success (with_reducible show wpAny _ _ (callWith _ (Value.ref _) _ _ _) _ _ _)); (fail_if_success (with_reducible show wpAny _ _ (subscriptTail _ _ _ _) _ _ _)); (fail_if_success (with_reducible show wpAny _ _ (binaryOp PySem.Operator.LShift _ _) _ _ _)))); walk1)))
        refine cast (congrArg (fun r => Q' (.int r t5) _) ?_) (ret t5 h5 _ (keepAll_of (news := [(L' + 1 + 1 + 1, oI4), (L' + 1 + 1, oN), (L' + 1, oD), (f, fo)]) F5 N5 hgs))
        subst hend
        rw [show (lo + 1 - lo).toNat = 1 by rw [Int.add_comm, Int.add_sub_cancel]; rfl, undig_one _ _ (by (with_reducible exact o_tlt2 (by assumption) (by assumption)))]
      · rename lo + 1 ≠ hi => hend
        rename Fr _ _ _ _ => F6
        rename News _ _ _ _ => N6
        rw [show (lo + hi).fdiv (2 ^ Int.toNat 1) = (lo + hi) / 2 by rw [Int.fdiv_eq_ediv_of_nonneg _ (by decide)]; rfl] at F6
        obtain ⟨lo, rfl⟩ : ∃ q : Nat, lo = q := ⟨lo.toNat, by (with_reducible exact o_tn (by assumption))⟩
        obtain ⟨hi, rfl⟩ : ∃ q : Nat, hi = q := ⟨hi.toNat, by (with_reducible exact o_tnl (by assumption))⟩
        obtain ⟨n, rfl⟩ : ∃ q : Nat, n = q := ⟨n.toNat, by (with_reducible exact o_tn1 (by assumption))⟩
        obtain ⟨mid, hmid⟩ : ∃ q : Nat, ((lo : Int) + hi) / 2 = q := ⟨(((lo : Int) + hi) / 2).toNat, by (with_reducible exact o_half _ _)⟩
        rw [hmid] at F6
        have hm1 : lo < mid ∧ mid < hi := by (with_reducible exact o_mid (by assumption) (by assumption) (by assumption))
        obtain ⟨k, rfl⟩ : ∃ q, k = q + 1 := by
          cases k with
          | zero => simp at hpw; (lia)
          | succ k => exact ⟨k, rfl⟩
        rw [Int.pow_succ] at hpw
        obtain ⟨p2, hpk⟩ : ∃ p2, p2 = (2 : Int) ^ k := ⟨_, rfl⟩
        rw [← hpk] at hpw
        have hm2 : (mid : Int) - lo ≤ p2 ∧ (hi : Int) - mid ≤ p2 := by (with_reducible exact o_pow (by assumption) (by assumption))
        have hsh : ((mid : Int) - lo) * n = ((n * (mid - lo) : Nat) : Int) := by
          rw [show (mid : Int) - lo = ((mid - lo : Nat) : Int) by (with_reducible exact o_csub (by assumption)), ← Int.natCast_mul, Nat.mul_comm]
        rw [hsh] at F6
        have kx6 := keepAll_of (news := [(L' + 1 + 1 + 1, oI4), (L' + 1 + 1, oN), (L' + 1, oD), (f, fo)]) F6 N6 hgs
        refine callWith_F (hFn _ (N6.get (.tail _ (.tail _ (.tail _ (.head _)))))) ?_
        (repeat' (first | (k_unfold; (try dsimp only)) | ((((fail_if_success k_end); (fail_if_success (with_reducible show wpAny _ _ (exec (PySem.Stmt.For _ _ _ _ _) _) _ _ _)); (fail_if_success (with_reducible show wpAny _ _ (exec (PySem.Stmt.FunctionDef _ _ _ _ _ _ _ _ _ _) _) _ _ _)); (fail_if_success (with_reducible show wpAny _ _ (callWith _ (Value.ref _) _ _ _) _ _ _)); (fail_if_success (with_reducible show wpAny _ _ (subscriptTail _ _ _ _) _ _ _)); (fail_if_success (with_reducible show wpAny _ _ (binaryOp PySem.Operator.LShift _ _) _ _ _)))); walk1) | (dsimp only; (((fail_if_success k_end); (fail_if_success (with_reducible show wpAny _ _ (exec (PySem.Stmt.For _ _ _ _ _) _) _ _ _)); (fail_if_success (with_reducible show wpAny _ _ (exec (PySem.Stmt.FunctionDef _ _ _ _ _ _ _ _ _ _) _) _ _ _)); (fail_if_success (with_reducible show wpAny _ _ (callWith _ (Value.ref _) _ _ _) _ _ _)); (fail_if_success (with_reducible show wpAny _ _ (subscriptTail _ _ _ _) _ _ _)); (fail_if_success (with_reducible show wpAny _ _ (binaryOp PySem.Operator.LShift _ _) _ _ _)))); walk1)))
        refine ⟨hFn _ (N6.get (.tail _ (.tail _ (.tail _ (.head _))))), ?_⟩
        refine ih k (Nat.lt_succ_self _) _ _ (mid : Int) (hi : Int) _ _ _ _ (by show A'.depth + 1 + k + 1 < _; (with_reducible exact o_dpk (by assumption))) hh' (hK0.trans F6.keep) (N6.get (.tail _ (.tail _ (.tail _ (.head _))))) (grec.keeps kx6)
          (N6.get (.head _)) (N6.get (.tail _ (.head _))) (N6.get (.tail _ (.tail _ (.head _)))) (by (with_reducible exact Int.natCast_nonneg _)) (by (with_reducible exact Int.ofNat_lt.mpr (And.right (by assumption)))) (by (with_reducible assumption)) (by rw [← hpk]; (with_reducible exact And.right (by assumption))) (fun t8 h8 tk8 kx8 => ?_)
        have F8 := F6.keeps kx8
        have N8 : News _ _ h8 _ := fun p hp => N6.grown kx8 p hp
        clear F6 N6
        simp only [Int.toNat_natCast, show ((hi : Int) - mid).toNat = hi - mid by (with_reducible exact Int.toNat_sub _ _)]
        have hV := undig_bound n ((ds.drop mid).take (hi - mid)) fun d hd => by simpa using hdb d (List.mem_of_mem_drop (List.mem_of_mem_take hd))
        have hVl : ((ds.drop mid).take (hi - mid)).length = hi - mid := by rw [List.length_take, List.length_drop]; exact Nat.min_eq_left (Nat.sub_le_sub_right (Int.ofNat_le.mp hhi) mid)
        rw [hVl] at hV
        have hSb : n * (hi - mid) ≤ 21000000 := by
          have h1 : n * (hi - mid) ≤ 20 * 1048700 := Nat.mul_le_mul (by (lia)) (Nat.le_trans (Nat.sub_le _ _) (Nat.le_trans (Int.ofNat_le.mp hhi) hdl))
          (with_reducible exact Nat.le_trans (by assumption) (by decide))
        have hSb2 : n * (mid - lo) ≤ 21000000 := by
          have h1 : n * (mid - lo) ≤ 20 * 1048700 := Nat.mul_le_mul (by (lia)) (Nat.le_trans (Nat.sub_le _ _) (Nat.le_trans (Nat.le_of_lt hm1.2) (Nat.le_trans (Int.ofNat_le.mp hhi) hdl)))
          (with_reducible exact Nat.le_trans (by assumption) (by decide))
        have hVb : Builtin.Int.intBits (undig n ((ds.drop mid).take (hi - mid))) ≤ 21000000 := by
          refine Nat.le_trans (intBits_le_iff.mpr ?_) hSb
          have h1 : ((2 ^ (n * (hi - mid)) : Nat) : Int) = (2 : Int) ^ (n * (hi - mid)) := by simp
          rw [← h1] at hV
          (lia)
        have hsum := undig_split n ds (lo := lo) (mid := mid) (hi := hi) (by (with_reducible exact Nat.le_of_lt (And.left (by assumption)))) (by (with_reducible exact Nat.le_of_lt (And.right (by assumption)))) (by (with_reducible exact Int.ofNat_le.mp (by assumption)))
        generalize undig n ((ds.drop mid).take (hi - mid)) = V at *
        generalize hS : n * (mid - lo) = S at *
        (repeat' (first | (k_unfold; (try dsimp only)) | ((((fail_if_success k_end); (fail_if_success (with_reducible show wpAny _ _ (exec (PySem.Stmt.For _ _ _ _ _) _) _ _ _)); (fail_if_success (with_reducible show wpAny _ _ (exec (PySem.Stmt.FunctionDef _ _ _ _ _ _ _ _ _ _) _) _ _ _)); (fail_if_success (with_reducible show wpAny _ _ (callWith _ (Value.ref _) _ _ _) _ _ _)); (fail_if_success (with_reducible show wpAny _ _ (subscriptTail _ _ _ _) _ _ _)); (fail_if_success (with_reducible show wpAny _ _ (binaryOp PySem.Operator.LShift _ _) _ _ _)))); walk1) | (dsimp only; (((fail_if_success k_end); (fail_if_success (with_reducible show wpAny _ _ (exec (PySem.Stmt.For _ _ _ _ _) _) _ _ _)); (fail_if_success (with_reducible show wpAny _ _ (exec (PySem.Stmt.FunctionDef _ _ _ _ _ _ _ _ _ _) _) _ _ _)); (fail_if_success (with_reducible show wpAny _ _ (callWith _ (Value.ref _) _ _ _) _ _ _)); (fail_if_success (with_reducible show wpAny _ _ (subscriptTail _ _ _ _) _ _ _)); (fail_if_success (with_reducible show wpAny _ _ (binaryOp PySem.Operator.LShift _ _) _ _ _)))); walk1)))
        refine lshift_int (by (with_reducible exact Int.natCast_nonneg _)) (by (lia)) ?_
        rw [Int.toNat_natCast]
        (repeat' (first | (k_unfold; (try dsimp only)) | ((((fail_if_success k_end); (fail_if_success (with_reducible show wpAny _ _ (exec (PySem.Stmt.For _ _ _ _ _) _) _ _ _)); (fail_if_success (with_reducible show wpAny _ _ (exec (PySem.Stmt.FunctionDef _ _ _ _ _ _ _ _ _ _) _) _ _ _)); (fail_if_success (with_reducible show wpAny _ _ (callWith _ (Value.ref _) _ _ _) _ _ _)); (fail_if_success (with_reducible show wpAny _ _ (subscriptTail _ _ _ _) _ _ _)); (fail_if_success (with_reducible show wpAny _ _ (binaryOp PySem.Operator.LShift _ _) _ _ _)))); walk1) | (dsimp only; (((fail_if_success k_end); (fail_if_success (with_reducible show wpAny _ _ (exec (PySem.Stmt.For _ _ _ _ _) _) _ _ _)); (fail_if_success (with_reducible show wpAny _ _ (exec (PySem.Stmt.FunctionDef _ _ _ _ _ _ _ _ _ _) _) _ _ _)); (fail_if_success (with_reducible show wpAny _ _ (callWith _ (Value.ref _) _ _ _) _ _ _)); (fail_if_success (with_reducible show wpAny _ _ (subscriptTail _ _ _ _) _ _ _)); (fail_if_success (with_reducible show wpAny _ _ (binaryOp PySem.Operator.LShift _ _) _ _ _)))); walk1)))
        refine callWith_F (hFn _ (N8.get (.tail _ (.tail _ (.tail _ (.head _)))))) ?_
        (repeat' (first | (k_unfold; (try dsimp only)) | ((((fail_if_success k_end); (fail_if_success (with_reducible show wpAny _ _ (exec (PySem.Stmt.For _ _ _ _ _) _) _ _ _)); (fail_if_success (with_reducible show wpAny _ _ (exec (PySem.Stmt.FunctionDef _ _ _ _ _ _ _ _ _ _) _) _ _ _)); (fail_if_success (with_reducible show wpAny _ _ (callWith _ (Value.ref _) _ _ _) _ _ _)); (fail_if_success (with_reducible show wpAny _ _ (subscriptTail _ _ _ _) _ _ _)); (fail_if_success (with_reducible show wpAny _ _ (binaryOp PySem.Operator.LShift _ _) _ _ _)))); walk1) | (dsimp only; (((fail_if_success k_end); (fail_if_success (with_reducible show wpAny _ _ (exec (PySem.Stmt.For _ _ _ _ _) _) _ _ _)); (fail_if_success (with_reducible show wpAny _ _ (exec (PySem.Stmt.FunctionDef _ _ _ _ _ _ _ _ _ _) _) _ _ _)); (fail_if_success (with_reducible show wpAny _ _ (callWith _ (Value.ref _) _ _ _) _ _ _)); (fail_if_success (with_reducible show wpAny _ _ (subscriptTail _ _ _ _) _ _ _)); (fail_if_success (with_reducible show wpAny _ _ (binaryOp PySem.Operator.LShift _ _) _ _ _)))); walk1)))
        refine ⟨hFn _ (N8.get (.tail _ (.tail _ (.tail _ (.head _))))), ?_⟩
        have kx8' := kx6.trans kx8
        refine ih k (Nat.lt_succ_self _) _ _ (lo : Int) (mid : Int) _ _ _ _ (by show A'.depth + 1 + k + 1 < _; (with_reducible exact o_dpk (by assumption))) hh' (hK0.trans F8.keep) (N8.get (.tail _ (.tail _ (.tail _ (.head _))))) (grec.keeps kx8')
          (N8.get (.head _)) (N8.get (.tail _ (.head _))) (N8.get (.tail _ (.tail _ (.head _)))) (by (with_reducible assumption)) (by (with_reducible exact Int.ofNat_lt.mpr (And.left (by assumption)))) (by (with_reducible exact Int.le_trans (Int.le_of_lt (Int.ofNat_lt.mpr (And.right (by assumption)))) (by assumption))) (by rw [← hpk]; (with_reducible exact And.left (by assumption))) (fun t9 h9 tk9 kx9 => ?_)
        simp only [Int.toNat_natCast, show ((mid : Int) - lo).toNat = mid - lo by (with_reducible exact Int.toNat_sub _ _)]
        (repeat' (first | (k_unfold; (try dsimp only)) | ((((fail_if_success k_end); (fail_if_success (with_reducible show wpAny _ _ (exec (PySem.Stmt.For _ _ _ _ _) _) _ _ _)); (fail_if_success (with_reducible show wpAny _ _ (exec (PySem.Stmt.FunctionDef _ _ _ _ _ _ _ _ _ _) _) _ _ _)); (fail_if_success (with_reducible show wpAny _ _ (callWith _ (Value.ref _) _ _ _) _ _ _)); (fail_if_success (with_reducible show wpAny _ _ (subscriptTail _ _ _ _) _ _ _)); (fail_if_success (with_reducible show wpAny _ _ (binaryOp PySem.Operator.LShift _ _) _ _ _)))); walk1) | (dsimp only; (((fail_if_success k_end); (fail_if_success (with_reducible show wpAny _ _ (exec (PySem.Stmt.For _ _ _ _ _) _) _ _ _)); (fail_if_success (with_reducible show wpAny _ _ (exec (PySem.Stmt.FunctionDef _ _ _ _ _ _ _ _ _ _) _) _ _ _)); (fail_if_success (with_reducible show wpAny _ _ (callWith _ (Value.ref _) _ _ _) _ _ _)); (fail_if_success (with_reducible show wpAny _ _ (subscriptTail _ _ _ _) _ _ _)); (fail_if_success (with_reducible show wpAny _ _ (binaryOp PySem.Operator.LShift _ _) _ _ _)))); walk1)))
        refine cast (congrArg (fun r => Q' (.int r _) _) ?_) (ret _ h9 _ (kx8'.trans kx9))
        simp only [Int.toNat_natCast, show ((hi : Int) - lo).toNat = hi - lo by (with_reducible exact Int.toNat_sub _ _)]
        rw [hsum, Int.add_comm, Int.mul_comm]
  have fin : ∀ (hE : Heap) (tkE : Nat) (m : Str → Option Value) (v : Int) (t : Tok), Fr (Gh s.heap) L' hE m →
      News (Gh s.heap) L' hE ((f, fo) :: (65, tabObj ps') :: (L' + 1 + 1 + 1, oI4) :: (L' + 1 + 1, oN) :: (L' + 1, oD) :: (58, tabObj ps1) :: ex) →
      v = undig n.toNat ds → Q (.int v t) { heap := hE, gens := s.gens, drawn := s.drawn, toks := tkE, os := s.os } := by
    intro hE tkE m v t F N i
    subst i
    refine ret t tkE hE (keepC_of (but_of_gh F.keep) ?_) (wt_of_fr W' F ((tp1.keeps F.keep).ok (N.get ?_)) ((hex hE F.keep fun q hq => (N q ?_).1).1.ok (N.get (.tail _ (.head _))))) ⟨ps', N.get (.tail _ (.head _)), hps1⟩
    · intro P hP o e hc
      rcases List.mem_cons.mp hP with rfl | hP
      · rw [hp1] at e; cases e
        exact N.get (by (repeat' (first | with_reducible assumption | with_reducible exact List.mem_cons_self | with_reducible refine List.mem_cons_of_mem _ ?_ | with_reducible refine List.mem_append_left _ ?_)))
      · rw [List.mem_singleton.mp hP] at e ⊢
        rw [hp2] at e; cases e
        rw [← hps2 (fun q => hc (by rw [q]))]
        exact N.get (.tail _ (.head _))
    · (repeat' (first | with_reducible assumption | with_reducible exact List.mem_cons_self | with_reducible refine List.mem_cons_of_mem _ ?_ | with_reducible refine List.mem_append_left _ ?_))
    · (repeat' (first | with_reducible assumption | with_reducible exact List.mem_cons_self | with_reducible refine List.mem_cons_of_mem _ ?_ | with_reducible refine List.mem_append_left _ ?_))
  (repeat' (first | (k_unfold; (try dsimp only)) | ((((fail_if_success k_end); (fail_if_success (with_reducible show wpAny _ _ (exec (PySem.Stmt.For _ _ _ _ _) _) _ _ _)); (fail_if_success (with_reducible show wpAny _ _ (exec (PySem.Stmt.FunctionDef _ _ _ _ _ _ _ _ _ _) _) _ _ _)); (fail_if_success (with_reducible show wpAny _ _ (callWith _ (Value.ref _) _ _ _) _ _ _)); (fail_if_success (with_reducible show wpAny _ _ (subscriptTail _ _ _ _) _ _ _)); (fail_if_success (with_reducible show wpAny _ _ (binaryOp PySem.Operator.LShift _ _) _ _ _)))); walk1) | (dsimp only; (((fail_if_success k_end); (fail_if_success (with_reducible show wpAny _ _ (exec (PySem.Stmt.For _ _ _ _ _) _) _ _ _)); (fail_if_success (with_reducible show wpAny _ _ (exec (PySem.Stmt.FunctionDef _ _ _ _ _ _ _ _ _ _) _) _ _ _)); (fail_if_success (with_reducible show wpAny _ _ (callWith _ (Value.ref _) _ _ _) _ _ _)); (fail_if_success (with_reducible show wpAny _ _ (subscriptTail _ _ _ _) _ _ _)); (fail_if_success (with_reducible show wpAny _ _ (binaryOp PySem.Operator.LShift _ _) _ _ _)))); walk1)))
  · have hfn4 : FnAt f h4 := by have := N4.get (.head _); rw [hfd] at this; exact ⟨_, _, _, _, this⟩
    have hd1 : 1 ≤ ds.length := by
      have := hid0.length
      cases vd0 with
      | nil => simp_all
      | cons a r => simp at this; (with_reducible exact Nat.succ_le_of_lt (by assumption))
    refine callWith_F hfn4 ?_
    (repeat' (first | (k_unfold; (try dsimp only)) | ((((fail_if_success k_end); (fail_if_success (with_reducible show wpAny _ _ (exec (PySem.Stmt.For _ _ _ _ _) _) _ _ _)); (fail_if_success (with_reducible show wpAny _ _ (exec (PySem.Stmt.FunctionDef _ _ _ _ _ _ _ _ _ _) _) _ _ _)); (fail_if_success (with_reducible show wpAny _ _ (callWith _ (Value.ref _) _ _ _) _ _ _)); (fail_if_success (with_reducible show wpAny _ _ (subscriptTail _ _ _ _) _ _ _)); (fail_if_success (with_reducible show wpAny _ _ (binaryOp PySem.Operator.LShift _ _) _ _ _)))); walk1) | (dsimp only; (((fail_if_success k_end); (fail_if_success (with_reducible show wpAny _ _ (exec (PySem.Stmt.For _ _ _ _ _) _) _ _ _)); (fail_if_success (with_reducible show wpAny _ _ (exec (PySem.Stmt.FunctionDef _ _ _ _ _ _ _ _ _ _) _) _ _ _)); (fail_if_success (with_reducible show wpAny _ _ (callWith _ (Value.ref _) _ _ _) _ _ _)); (fail_if_success (with_reducible show wpAny _ _ (subscriptTail _ _ _ _) _ _ _)); (fail_if_success (with_reducible show wpAny _ _ (binaryOp PySem.Operator.LShift _ _) _ _ _)))); walk1)))
    refine ⟨hfn4, ?_⟩
    refine key 21 _ _ 0 (ds.length : Int) _ _ _ _ (by show A.depth + 1 + 21 + 1 < _; (with_reducible exact o_dp3 (by assumption) _ _ _ (by decide))) hh F4.keep (N4.get (.head _)) ((hex h4 F4.keep fun q hq => (N4 q ?_).1).2) (N4.get (.tail _ (.tail _ (.head _)))) (N4.get (.tail _ (.tail _ (.tail _ (.head _))))) (N4.get (.tail _ (.tail _ (.tail _ (.tail _ (.head _))))))
      (by (with_reducible exact Int.le_refl _)) (by (lia)) (by (with_reducible exact Int.le_refl _)) (by simp only [Int.reducePow]; (lia)) (fun t8 h8 tk8 kx8 => ?_)
    · (repeat' (first | with_reducible assumption | with_reducible exact List.mem_cons_self | with_reducible refine List.mem_cons_of_mem _ ?_ | with_reducible refine List.mem_append_left _ ?_))
    refine fin h8 tk8 _ _ _ (F4.keeps kx8) (fun p hp => N4.grown kx8 p hp) ?_
    simp
  · refine fin h4 _ _ _ _ F4 N4 ?_
    have hd1 : ds = [] := by
      cases hid0 with
      | nil => rfl
      | cons => simp_all
    subst hd1
    rfl
end Mine
end
section
open PySem PySem.W PyProof.Rows PySem.Calls
namespace Mine
/-- the tables' part of a ledger: it brings Wt back -/
structure Led (w : World) (g : Heap) (L : Addr) (h : Heap) (tl : List (Addr × Obj)) : Prop where
  N : News (Gh g) L h tl
  re : ∀ h'', KeepAll (Gh g) h'' → (∀ q ∈ tl, h''.get? q.1 = some q.2) → Wt w h''
  kind : ∀ q ∈ tl, ∃ vs, q.2.data = .fields vs ∧ (q.1 ∈ ts ∨ ∃ qn t, vs[1]? = some (.str qn t))
  has : ∀ b ∈ ts, ∃ o, (b, o) ∈ tl
  old : ∀ q ∈ tl, q.1 < h.objs.size
theorem tab_led {g h : Heap} {L P : Addr} {line col : Int} {qual : Str} {m : Str → Option Value} (hP : P ∈ ts) (F : Fr (Gh g) L h m) (x : TabOk h P line col qual) :
    ∃ tl : List (Addr × Obj), News (Gh g) L h tl ∧ (∀ h'', KeepAll (Gh g) h'' → (∀ q ∈ tl, h''.get? q.1 = some q.2) → TabOk h'' P line col qual) ∧ (∀ q ∈ tl, ∃ vs, q.2.data = .fields vs ∧ (q.1 ∈ ts ∨ ∃ qn t, vs[1]? = some (.str qn t))) ∧ ∃ o, (P, o) ∈ tl := by
  obtain ⟨oL, _, _, hL, hLd, _⟩ := F.ns
  have hPg : (Gh g).get? P = none := hideAll_none ts hP
  have hPL : ∀ ps, h.get? P = some (tabObj ps) → P ≠ L := fun ps e q => by rw [q, hL] at e; cases e; cases hLd
  rcases x with e | ⟨c, e, hc, c2, o, vs, t, e1, e2, e3, e4⟩
  · refine ⟨[(P, tabObj #[])], fun q hq => ?_, fun h'' _ k => .inl (k _ (.head _)), fun q hq => ?_, _, .head _⟩
    · rw [List.mem_singleton.mp hq]; exact ⟨e, hPL _ e, hPg⟩
    · rw [List.mem_singleton.mp hq]; exact ⟨_, rfl, .inl hP⟩
  · cases e1
    cases hb : (Gh g).get? c with
    | some o' =>
      have e5 := F.keep _ _ hb
      rw [e2] at e5; cases e5
      refine ⟨[(P, tabObj _)], fun q hq => ?_, fun h'' kk k => .inr ⟨c, k _ (.head _), hc, c, o, vs, t, rfl, kk _ _ hb, e3, e4⟩, fun q hq => ?_, _, .head _⟩
      · rw [List.mem_singleton.mp hq]; exact ⟨e, hPL _ e, hPg⟩
      · rw [List.mem_singleton.mp hq]; exact ⟨_, rfl, .inl hP⟩
    | none =>
      refine ⟨[(P, tabObj _), (c, o)], fun q hq => ?_, fun h'' kk k => .inr ⟨c, k _ (.head _), hc, c, o, vs, t, rfl, k _ (.tail _ (.head _)), e3, e4⟩, fun q hq => ?_, _, .head _⟩
      · rcases List.mem_cons.mp hq with rfl | hq
        · exact ⟨e, hPL _ e, hPg⟩
        · rw [List.mem_singleton.mp hq]
          refine ⟨e2, fun q => ?_, hb⟩
          have q' : c = L := q
          rw [q', hL] at e2; cases e2; rw [hLd] at e3; cases e3
      · rcases List.mem_cons.mp hq with rfl | hq
        · exact ⟨_, rfl, .inl hP⟩
        · rw [List.mem_singleton.mp hq]; exact ⟨_, e3, .inr ⟨_, _, e4⟩⟩
theorem led_of {w : World} {g h : Heap} {L : Addr} {m : Str → Option Value} (W : Wt w g) (F : Fr (Gh g) L h m) (Wh : Wt w h) : ∃ tl, Led w g L h tl := by
  obtain ⟨t1, n1, r1, k1, a1⟩ := tab_led (.head _) F Wh.t1
  obtain ⟨t2, n2, r2, k2, a2⟩ := tab_led (.tail _ (.head _)) F Wh.t2
  refine ⟨t1 ++ t2, fun q hq => ?_, fun h'' kk k => ⟨W.base.keeps (gh_up kk), W.c1.keeps (gh_up kk), W.c2.keeps (gh_up kk), r1 h'' kk fun q hq => k q (List.mem_append_left _ hq), r2 h'' kk fun q hq => k q (List.mem_append_right _ hq)⟩, fun q hq => ?_, fun b hb => ?_, fun q hq => ?_⟩
  · rcases List.mem_append.mp hq with hq | hq
    · exact n1 q hq
    · exact n2 q hq
  · rcases List.mem_append.mp hq with hq | hq
    · exact k1 q hq
    · exact k2 q hq
  · rcases List.mem_cons.mp hb with rfl | hb
    · exact let ⟨o, h⟩ := a1; ⟨o, List.mem_append_left _ h⟩
    · rw [List.mem_singleton.mp hb]; exact let ⟨o, h⟩ := a2; ⟨o, List.mem_append_right _ h⟩
  · rcases List.mem_append.mp hq with hq | hq
    · exact Heap.lt_size (n1 q hq).1
    · exact Heap.lt_size (n2 q hq).1
theorem Led.ne {w : World} {g h : Heap} {L : Addr} {tl : List (Addr × Obj)} (X : Led w g L h tl) {a : Addr} {o : Obj} (e : h.get? a = some o) (hd : ∀ vs, o.data ≠ .fields vs) : ∀ q ∈ tl, q.1 ≠ a := fun q hq r => by
  obtain ⟨vs, hv, _⟩ := X.kind q hq
  have := (X.N q hq).1
  rw [r, e] at this
  exact hd vs (by rw [Option.some.inj this]; exact hv)
theorem Led.ne_nc {w : World} {g h : Heap} {L : Addr} {tl : List (Addr × Obj)} (X : Led w g L h tl) {a : Addr} {o : Obj} (e : h.get? a = some o) (ha : a ∉ ts) (hd : NotCode o) : ∀ q ∈ tl, q.1 ≠ a := fun q hq r => by
  obtain ⟨vs, hv, k⟩ := X.kind q hq
  have := (X.N q hq).1
  rw [r, e] at this
  rcases k with k | ⟨qn, t, k⟩
  · exact ha (r ▸ k)
  · exact hd vs qn t (by rw [Option.some.inj this]; exact hv) k
theorem News.butT {g h h' : Heap} {L : Addr} {news : List (Addr × Obj)} (N : News (Gh g) L h news) (hn : ∀ p ∈ news, p.1 ∉ ts) (k : KeepBut h h') : News (Gh g) L h' news := fun p hp => ⟨k _ _ (hn p hp) (N p hp).1, (N p hp).2⟩
/-- the words of a ledger's tables alone -/
structure LedR (w : World) (g : Heap) (tl : List (Addr × Obj)) : Prop where
  re : ∀ h'', KeepAll (Gh g) h'' → (∀ q ∈ tl, h''.get? q.1 = some q.2) → Wt w h''
  kind : ∀ q ∈ tl, ∃ vs, q.2.data = .fields vs ∧ (q.1 ∈ ts ∨ ∃ qn t, vs[1]? = some (.str qn t))
  has : ∀ b ∈ ts, ∃ o, (b, o) ∈ tl
theorem Led.toR {w : World} {g h : Heap} {L : Addr} {tl : List (Addr × Obj)} (x : Led w g L h tl) : LedR w g tl := ⟨x.re, x.kind, x.has⟩
theorem LedR.notin {w : World} {g : Heap} {tl : List (Addr × Obj)} (x : LedR w g tl) {a : Addr} (h : ∀ q ∈ tl, q.1 ≠ a) : a ∉ ts := fun q => let ⟨_, m⟩ := x.has a q; h _ m rfl
theorem after_newT {w : World} {g h h' : Heap} {L a : Addr} {o : Obj} {m : Str → Option Value} {news : List (Addr × Obj)} (W : Wt w g) (F : Fr (Gh g) L h m) (N : News (Gh g) L h news) (hn : ∀ p ∈ news, p.1 ∉ ts) (Wh : Wt w h) (k : KeepBut h h') (Wh' : Wt w h')
    (hf : h.get? a = none) (hg : h'.get? a = some o) :
    Fr (Gh g) L h' m ∧ (∀ p ∈ news, p.1 ≠ a) ∧ ∃ tl, Led w g L h' tl ∧ News (Gh g) L h' ((a, o) :: (news ++ tl)) := by
  have F' := Fr.but Wh F k
  obtain ⟨tl, X⟩ := led_of W F' Wh'
  refine ⟨F', fun p hp q => ?_, tl, X, fun q hq => ?_⟩
  · have := (N p hp).1
    rw [q, hf] at this; cases this
  rcases List.mem_cons.mp hq with rfl | hq
  · refine ⟨hg, fun e => ?_, fresh_of F.keep hf⟩
    obtain ⟨oL, _, _, hL, _⟩ := F.ns
    have e' : a = L := e
    rw [e', hL] at hf; cases hf
  rcases List.mem_append.mp hq with hq | hq
  · exact News.butT N hn k q hq
  · exact X.N q hq
/-- behind a call that may fill the tables -/
theorem after_but {w : World} {g h h' : Heap} {L : Addr} {m : Str → Option Value} {news : List (Addr × Obj)} (W : Wt w g) (F : Fr (Gh g) L h m) (N : News (Gh g) L h news) (hn : ∀ p ∈ news, NoTab p.2) (Wh : Wt w h) (k : KeepBut h h') (Wh' : Wt w h') :
    Fr (Gh g) L h' m ∧ ∃ tl, Led w g L h' tl ∧ News (Gh g) L h' (news ++ tl) := by
  have F' := Fr.but Wh F k
  obtain ⟨tl, X⟩ := led_of W F' Wh'
  refine ⟨F', tl, X, fun q hq => ?_⟩
  rcases List.mem_append.mp hq with hq | hq
  · exact News.but Wh N hn k q hq
  · exact X.N q hq
/-- the same with the object that the call made -/
theorem after_new {w : World} {g h h' : Heap} {L a : Addr} {o : Obj} {m : Str → Option Value} {news : List (Addr × Obj)} (W : Wt w g) (F : Fr (Gh g) L h m) (N : News (Gh g) L h news) (hn : ∀ p ∈ news, NoTab p.2) (Wh : Wt w h) (k : KeepBut h h') (Wh' : Wt w h')
    (hf : h.get? a = none) (hg : h'.get? a = some o) :
    Fr (Gh g) L h' m ∧ (∀ p ∈ news, p.1 ≠ a) ∧ ∃ tl, Led w g L h' tl ∧ News (Gh g) L h' ((a, o) :: (news ++ tl)) := by
  have F' := Fr.but Wh F k
  obtain ⟨tl, X⟩ := led_of W F' Wh'
  refine ⟨F', fun p hp q => ?_, tl, X, fun q hq => ?_⟩
  · have := (N p hp).1
    rw [q, hf] at this; cases this
  have NB := News.addB Wh F N hn k hf hg
  rcases List.mem_cons.mp hq with rfl | hq
  · exact NB _ (.head _)
  rcases List.mem_append.mp hq with hq | hq
  · exact NB q (.tail _ hq)
  · exact X.N q hq

def TabC (g h : Heap) : Prop := ∀ P ∈ ts, ∀ o, g.get? P = some o → o ≠ tabObj #[] → h.get? P = some o
theorem TabC.trans {g h k : Heap} (a : TabC g h) (b : TabC h k) : TabC g k := fun P hP o e n => b P hP o (a P hP o e n) n
theorem KeepC.tab {g h : Heap} (k : KeepC g h) : TabC g h := fun _ _ o e n => k _ o (fun _ => n) e
theorem KeepAll.tab {g h : Heap} (k : KeepAll g h) : TabC g h := fun _ _ o e _ => k _ o e
theorem Led.tab {w : World} {g h h'' : Heap} {L : Addr} {tl : List (Addr × Obj)} (X : Led w g L h tl) (k : ∀ q ∈ tl, h''.get? q.1 = some q.2) : TabC h h'' := fun P hP o e n => by
  obtain ⟨o', m⟩ := X.has P hP
  have := (X.N _ m).1
  rw [e] at this; cases this
  exact k _ m
theorem Led.hot {w : World} {g h : Heap} {L : Addr} {tl : List (Addr × Obj)} (X : Led w g L h tl) {P : Addr} (hP : P ∈ ts) (x : Hot h P) : ∃ ps, (P, tabObj ps) ∈ tl ∧ ps ≠ #[] := by
  obtain ⟨ps, e, n⟩ := x
  obtain ⟨o', m⟩ := X.has P hP
  have := (X.N _ m).1
  rw [e] at this; cases this
  exact ⟨ps, m, n⟩
theorem Hot.tab {g h : Heap} {P : Addr} (hP : P ∈ ts) (x : Hot g P) (k : TabC g h) : Hot h P := let ⟨ps, e, n⟩ := x; ⟨ps, k P hP _ e (tabObj_ne n), n⟩
theorem keepC_tab {g h : Heap} (k : KeepBut g h) (t : TabC g h) : KeepC g h := keepC_of k t
end Mine
end
section
open PySem PySem.W PyProof.Rows PySem.Calls
namespace Mine
theorem wd_fill_pos (w : World) (h : Heap) (_ : OpenLaw) (e : Challenge.rw_ph0098_01 = Challenge.rw_ph0098_01) : (hd.heap_39 w.params).In h → (hd.heap_39 w.params).In h ∧ Challenge.rw_ph0098_01 = Challenge.rw_ph0098_01 := by
  k_fill
  exact fun x => ⟨x, e⟩

theorem gh_none {g : Heap} {x : Addr} (e : (Gh g).get? x = none) (hx : x ∉ ts) : g.get? x = none := by
  cases q : g.get? x with
  | none => rfl
  | some o => rw [hideAll_get ts q hx] at e; cases e
theorem digN_bits {n : Nat} {a : Int} (hn : 1 ≤ n) : Builtin.Int.intBits a ≤ n * digN n a := by
  have hkd : digN n a = (Builtin.Int.intBits a + n - 1) / n := by
    unfold digN
    rw [Int.toNat_natCast]; congr 1; (with_reducible exact o_tn2 _ _ (by assumption))
  rw [hkd]
  have := Nat.div_add_mod (Builtin.Int.intBits a + n - 1) n
  have h2 := Nat.mod_lt (Builtin.Int.intBits a + n - 1) (show n > 0 by (lia))
  (lia)
theorem digN_mod {n : Nat} {a : Int} (hn : 1 ≤ n) (ha : 0 ≤ a) : ((a.toNat % 2 ^ (n * digN n a) : Nat) : Int) = a := by
  have := intBits_le_iff.mp (digN_bits (a := a) hn)
  rw [show a.natAbs = a.toNat by (with_reducible exact o_abs3 (by assumption))] at this
  rw [Nat.mod_eq_of_lt this, Int.toNat_of_nonneg ha]
theorem digF_bound {n : Nat} {a : Int} : ∀ d ∈ digF n a, 0 ≤ d ∧ d < 2 ^ n := by
  unfold digF; rw [Int.toNat_natCast]; exact digs_bound _ _ _
theorem digF_undig {n : Nat} {a : Int} (hn : 1 ≤ n) (ha : 0 ≤ a) : undig n (digF n a) = a := by
  unfold digF; rw [Int.toNat_natCast, undig_digs, digN_mod hn ha]
theorem digF_length {n : Nat} {a : Int} (hn : 1 ≤ n) (hn2 : n ≤ 20) (ha2 : Builtin.Int.intBits a ≤ 1048600) : (digF n a).length ≤ 1048700 := by
  unfold digF digN
  rw [digs_length, Int.toNat_natCast]
  exact Nat.le_trans (Nat.div_le_self _ _) (by (lia))

/-- what holds between two turns of _pos's loop -/
inductive PosJ (D : Addr) (tl : List (Addr × Obj)) (nb : Nat) (ds : List Int) (b P : Int) (m0 : Str → Option Value) (i : Nat) (m : Str → Option Value) (news : List (Addr × Obj)) : Prop
  | mk (u1 u2 : Option Value) (r : Int) (tr : Tok) (qs : List Int) (vq : List Value) (nq : Nat) (em : m = (fun y => if y = Str.ofString "r" then some (Value.int r tr) else if y = Str.ofString "a_digit" then u1 else if y = Str.ofString "q_digit" then u2 else m0 y))
    (en : news = (D, W.listOf (List.toArray vq) nq) :: tl) (hiq : IntsAre vq qs) (hql : qs.length = i) (hqb : ∀ q ∈ qs, 0 ≤ q ∧ q < P) (hr0 : 0 ≤ r) (hrb : r < b) (hinv : undig nb (ds.drop (ds.length - i)) = undig nb qs.reverse * b + r)

set_option maxRecDepth 100000 in
set_option maxHeartbeats 1000000 in
theorem pos_spec {w : World} {A : Around} {s : Shared} {a b : Int} {t1 t2 : Tok} {Q E : Value → Shared → Prop}
  (W : Wt w s.heap) (hd0 : A.depth + 26 < recursionLimit) (hh : A.handled = none) (ha : 0 ≤ a) (ha2 : Builtin.Int.intBits a ≤ 1048600) (hb : 0 < b) (hb2 : b < 1000)
  (ret : ∀ x tk h', KeepC s.heap h' → Wt w h' → Hot h' 58 → Hot h' 65 → s.heap.get? x = none → TI h' x [a / b, a % b] → Q (.ref x) { s with heap := h', toks := tk }) :
  wpAny (model Challenge.rw_ph0098_01.row.prog w) A (call (.ref 77) [.int a t1, .int b t2]) Q E s := by
  have W' := W
  obtain ⟨⟨X, p, loose, mean, mg, mb, T⟩, C1, C2, K1, K2⟩ := W
  have X0 : (hd.heap_39 w.params).In s.heap := X.keeps (gh_sub _)
  have T0 := T.keeps (gh_sub _)
  refine wpAny_call ?_
  k_dflt (refine' enter_plain (binds := [(Str.ofString "a", .int a t1), (Str.ofString "b", .int b t2)]) X0 T0 ?k6 ?k7 ?k8 ?k9 ?kB ?_ ?c2 ?c3 ?c4 ?c5; (case k6 => k_is); (case k7 => k_is); (case k8 => (with_reducible exact o_dp0 (by assumption))); (case k9 => exact BindsTo.of_eq rfl); (case c5 => decide); (case kB => exact locs rfl); (case c2 => exact rfl); (case c3 => exact rfl); (case c4 => exact rfl))
  intro L' h₁ F0 N0
  dsimp only
  clear X0 T0
  have F' := gh_fr F0
  obtain ⟨tl1, LE1⟩ := led_of W' F' (W'.keeps F0.keep)
  have N' := LE1.N
  have tc1 : TabC s.heap h₁ := KeepAll.tab F0.keep
  clear F0 N0
  have hb1 : 1 ≤ Builtin.Int.intBits b ∧ Builtin.Int.intBits b ≤ 10 := by
    constructor
    · rcases Nat.eq_zero_or_pos (Builtin.Int.intBits b) with q | q
      · have := intBits_le_iff.mp (Nat.le_of_eq q)
        simp at this; (lia)
      · exact q
    · exact intBits_le_iff.mpr (by (lia))
  have hbn : b < 2 ^ Builtin.Int.intBits b := by
    have := intBits_le_iff.mp (Nat.le_refl (Builtin.Int.intBits b))
    have h1 : ((2 ^ Builtin.Int.intBits b : Nat) : Int) = (2 : Int) ^ Builtin.Int.intBits b := by simp
    rw [← h1]; (lia)
  (repeat' (first | (k_unfold; (try dsimp only)) | ((fail_if_success k_end); (fail_if_success (with_reducible show wpAny _ _ (exec (PySem.Stmt.For _ _ _ _ _) _) _ _ _)); walk1) | (dsimp only; (fail_if_success k_end); (fail_if_success (with_reducible show wpAny _ _ (exec (PySem.Stmt.For _ _ _ _ _) _) _ _ _)); walk1)))
  generalize hnb : Builtin.Int.intBits b = nb at *
  rename Fr _ _ _ _ => F2
  rename News _ _ _ _ => N2
  have W2 : Wt w _ := LE1.re _ F2.keep fun q hq => (N2 q hq).1
  have tc2 := tc1.trans (LE1.tab fun q hq => (N2 q hq).1)
  refine ⟨X.keeps F2.keep, ?_⟩
  refine dig_spec W2 (by show A.depth + 1 + 25 < _; (with_reducible assumption)) hh ha ha2 (by (lia)) (by (lia)) fun xd tk3 h3 kc3 W3 hot3 hf3 hl3 => ?_
  have kb3 := kc3.but
  have tc3 := tc2.trans kc3.tab
  obtain ⟨od, hg3, hod⟩ := LIo.of hl3
  obtain ⟨F3, _, tl3, LE3, N3⟩ := after_new (news := []) W' F2 News.nil (fun _ h => nomatch h) W2 kb3 W3 hf3 hg3
  simp only [List.nil_append] at N3
  clear F2 N2 kb3 kc3 W2 tc1 tc2
  (repeat' (first | (k_unfold; (try dsimp only)) | ((fail_if_success k_end); (fail_if_success (with_reducible show wpAny _ _ (exec (PySem.Stmt.For _ _ _ _ _) _) _ _ _)); walk1) | (dsimp only; (fail_if_success k_end); (fail_if_success (with_reducible show wpAny _ _ (exec (PySem.Stmt.For _ _ _ _ _) _) _ _ _)); walk1)))
  rename_i h2 h3a tk4 h3b D h3c lD h4 F4 N4
  obtain ⟨lD, lDt⟩ := lD
  obtain ⟨vd, nd, rfl, hid⟩ := hod
  have hdigl : (digF (nb : Int) a).length ≤ 1048700 := digF_length hb1.1 (by (lia)) ha2
  have hdigb := digF_bound (n := nb) (a := a)
  have hdigu := digF_undig hb1.1 ha
  generalize hds : digF (nb : Int) a = ds at *
  have hdz : vd.toArray.size ≤ sizeLine := by have := hid.length; have := sizeLine_eq; simp; (with_reducible exact o_szi (by assumption) (by assumption) (by decide))
  have hls := isList_of (N4.get (.tail _ (.head _)))
  refine rev_for (h₀ := Gh s.heap) hh rfl rfl ?_ (by intro _; with_unfolding_all rfl)
  (repeat' (first | (k_unfold; (try dsimp only)) | ((fail_if_success k_end); (fail_if_success (with_reducible show wpAny _ _ (exec (PySem.Stmt.For _ _ _ _ _) _) _ _ _)); walk1) | (dsimp only; (fail_if_success k_end); (fail_if_success (with_reducible show wpAny _ _ (exec (PySem.Stmt.For _ _ _ _ _) _) _ _ _)); walk1)))
  rename_i IR h5 F5 N5 lI
  obtain ⟨lI1, lI2, lIt⟩ := lI
  have hxD : xd ≠ D := Nat.ne_of_lt lD
  have htD : ∀ q ∈ tl3, q.1 ≠ D := fun q hq => Nat.ne_of_lt (ktn_ltOf (l := tl3) (d := D) lDt q hq)
  obtain ⟨m0, hm0, F6⟩ : ∃ m0, m0 = _ ∧ Fr (Gh s.heap) L' _ m0 := ⟨_, rfl, F5⟩
  have hds2 : vd.toArray.size = ds.length := by simp [hid.length]
  have hP : (1 : Int) ≤ 2 ^ nb ∧ (2 : Int) ^ nb ≤ 1024 := by
    have h1 : (2 : Nat) ^ nb ≤ 2 ^ 10 := Nat.pow_le_pow_right (by decide) hb1.2
    have h2 : ((2 ^ nb : Nat) : Int) = (2 : Int) ^ nb := by simp
    have h3 := kbt_pos nb
    (lia)
  refine ⟨IR, xd, vd.toArray, _, (D, W.listOf #[] 0) :: (xd, W.listOf vd.toArray nd) :: tl3, [(xd, W.listOf vd.toArray nd)], PosJ D ((xd, W.listOf vd.toArray nd) :: tl3) nb ds b (2 ^ nb) m0,
    rfl, ?_, isList_of (N5.get (.tail _ (.tail _ (.head _)))), .inr ⟨_, .head _⟩, N5.fresh (.head _), F6, News.sub N5 (fun p hp => .tail _ hp), ?_, ?_, ?_, ?_, ?_⟩
  · rw [show ((vd.toArray.size : Nat) : Int) = (vd.length : Int) by simp]; exact N5.get (.head _)
  · intro q hq
    simp only [List.mem_cons] at hq
    rcases hq with h | h | h
    · rw [h]; exact Nat.ne_of_lt lI1
    · rw [h]; exact Nat.ne_of_lt lI2
    · exact Nat.ne_of_lt (ktn_ltOf (l := tl3) (d := IR) lIt q h)
  · rintro i m news ⟨u1, u2, r, tr, qs, vq, nq, rfl, rfl, _, _, _, _, _, _⟩ q hq
    rw [List.mem_singleton.mp hq]; exact .tail _ (.head _)
  · obtain ⟨tr0, htr⟩ : ∃ t, m0 (Str.ofString "r") = some (Value.int 0 t) := ⟨_, by rw [hm0]; rfl⟩
    refine ⟨none, none, 0, tr0, [], [], 0, ?_, rfl, .nil, rfl, (fun _ h => nomatch h), by (with_reducible exact Int.le_refl _), hb, ?_⟩
    · exact map_ext3 (Str.ofString "r") (Str.ofString "a_digit") (Str.ofString "q_digit") htr (by rw [hm0]; rfl) (by rw [hm0]; rfl) fun y h1 h2 h3 => by simp only [if_neg h1, if_neg h2, if_neg h3]
    · rw [Nat.sub_zero, List.drop_length]; simp [undig]
  · subst hm0
    clear F6 F5 N5 hls
    rintro i v m₁ news₁ h tk io hi hv ⟨u1, u2, r, tr, qs, vq, nq, rfl, rfl, hiq, hql, hqb, hr0, hrb, hinv⟩ hne Fi Ni
    obtain ⟨dg, tg, rfl, hdg'⟩ := hid.at _ v (by simpa using hv)
    have hdb := hdigb dg (List.mem_of_getElem? hdg')
    have hDI : D ≠ IR := Nat.ne_of_lt lI1
    (repeat' (first | (k_unfold; (try dsimp only)) | ((fail_if_success k_end); (fail_if_success (with_reducible show wpAny _ _ (exec (PySem.Stmt.For _ _ _ _ _) _) _ _ _)); walk1) | (dsimp only; (fail_if_success k_end); (fail_if_success (with_reducible show wpAny _ _ (exec (PySem.Stmt.For _ _ _ _ _) _) _ _ _)); walk1)))
    refine ⟨X.keeps Fi.keep, ?_⟩
    simp only [Int.toNat_natCast]
    obtain ⟨P, hPe⟩ : ∃ P, P = (2 : Int) ^ nb := ⟨_, rfl⟩
    rw [← hPe] at hP hdb hbn ⊢
    have hrP : 0 ≤ r * P := Int.mul_nonneg hr0 (by (with_reducible exact o_pos2 (by assumption)))
    have hrP2 : r * P ≤ (b - 1) * P := Int.mul_le_mul_of_nonneg_right (by (lia)) (by (with_reducible exact o_pos2 (by assumption)))
    have hrP3 : r * P ≤ r * 1024 := Int.mul_le_mul_of_nonneg_left (by (with_reducible exact And.right (by assumption))) hr0
    have hbP : (b - 1) * P = b * P - P := by rw [Int.sub_mul, Int.one_mul]
    refine div2_spec (W'.base.keeps Fi.keep) (by show A.depth + 1 + 2 < _; (with_reducible exact o_dp2 (by assumption) _ _ (by decide))) hh (by (lia)) (by (lia)) hb (by (lia)) (by (with_reducible exact Int.natCast_nonneg _)) fun xt tk5 h5 hk5 hf5 ht5 => ?_
    have F5 := Fi.keeps hk5
    have N5 : News (Gh s.heap) L' h5 _ := fun p hp => Ni.grown hk5 p hp
    clear Fi Ni
    obtain ⟨vt, hit, hiv⟩ := ht5.isTup
    obtain ⟨tq, v2, rfl, hiv2⟩ := hiv.cons_inv
    obtain ⟨tr2, v3, rfl, hiv3⟩ := hiv2.cons_inv
    obtain rfl := hiv3.nil_inv
    have hq1 : (r * P + dg).fdiv b = (r * P + dg) / b := Int.fdiv_eq_ediv_of_nonneg _ (by (with_reducible exact Int.le_of_lt (by assumption)))
    have hq2 : (r * P + dg).fmod b = (r * P + dg) % b := Int.fmod_eq_emod_of_nonneg _ (by (with_reducible exact Int.le_of_lt (by assumption)))
    have hq3 : 0 ≤ (r * P + dg) / b := Int.ediv_nonneg (by (lia)) (by (with_reducible exact Int.le_of_lt (by assumption)))
    have hq4 : (r * P + dg) / b < P := Int.ediv_lt_of_lt_mul hb (by rw [Int.mul_comm P b]; (lia))
    have hq5 : 0 ≤ (r * P + dg) % b := Int.emod_nonneg _ (by (lia))
    have hq6 : (r * P + dg) % b < b := Int.emod_lt_of_pos _ hb
    have hq7 := Int.emod_add_mul_ediv (r * P + dg) b
    rw [hq1, hq2] at hit
    generalize hqq : (r * P + dg) / b = qq at *
    generalize hrr : (r * P + dg) % b = rr at *
    have hvz : vq.toArray.size ≤ sizeLine := by have := hiq.length; have := sizeLine_eq; simp; (with_reducible exact o_szll2 (by assumption) (by assumption) (by assumption) (by assumption) (by assumption) (by decide))
    refine unpackN_ F5 N5 hit hh rfl rfl fun h6 F6 N6 => ?_
    clear F5 N5
    (repeat' (first | (k_unfold; (try dsimp only)) | ((fail_if_success k_end); (fail_if_success (with_reducible show wpAny _ _ (exec (PySem.Stmt.For _ _ _ _ _) _) _ _ _)); walk1) | (dsimp only; (fail_if_success k_end); (fail_if_success (with_reducible show wpAny _ _ (exec (PySem.Stmt.For _ _ _ _ _) _) _ _ _)); walk1)))
    rename Fr _ _ _ _ => F7
    rename News _ _ _ _ => N7
    refine ⟨_, _, _, (D, W.listOf (vq.toArray.push (Value.int qq tq)) (nq + 1)) :: (xd, W.listOf vd.toArray nd) :: tl3, rfl, F7, N7, ?_, some (Value.int dg tg), some (Value.int qq tq), rr, tr2, qs ++ [qq], vq ++ [Value.int qq tq], nq + 1, ?_, by rw [show (vq ++ [Value.int qq tq]).toArray = vq.toArray.push (Value.int qq tq) from by simp], hiq.append (.cons _ _ .nil), by simp [hql], ?_, hq5, hq6, ?_⟩
    · intro q hq
      simp only [List.mem_cons] at hq
      rcases hq with h | h | h
      · rw [h]; exact hDI
      · rw [h]; exact Nat.ne_of_lt lI2
      · exact Nat.ne_of_lt (ktn_ltOf (l := tl3) (d := IR) lIt q h)
    · exact map_ext3 (Str.ofString "r") (Str.ofString "a_digit") (Str.ofString "q_digit") rfl rfl rfl fun y h1 h2 h3 => by simp only [if_neg h1, if_neg h2, if_neg h3]
    · intro q hq
      rcases List.mem_append.mp hq with hq | hq
      · rw [hPe]; exact hqb q hq
      · rw [List.mem_singleton.mp hq]; exact ⟨hq3, hq4⟩
    · rw [hds2] at hi
      have hix : ds.length - (i + 1) < ds.length := by (with_reducible exact o_predl (by assumption))
      have hge : ds[ds.length - (i + 1)] = dg := by
        have e : ds[ds.length - (i + 1)]? = some dg := by rw [← hdg']; congr 1; have := hid.length; (with_reducible exact o_psub2 (by assumption))
        rw [List.getElem?_eq_getElem hix] at e
        exact Option.some.inj e
      rw [List.drop_eq_getElem_cons hix, hge, show ds.length - (i + 1) + 1 = ds.length - i by (with_reducible exact o_psub (by assumption))]
      rw [List.reverse_append]
      simp only [List.reverse_cons, List.reverse_nil, List.nil_append, List.cons_append, undig]
      rw [hinv, ← hPe]
      clear hit hdigu hinv hdg' hge
      grind
  · subst hm0
    clear F6 F5 N5 hls
    rintro h tk m' news' Fi Ni ⟨u1, u2, r, tr, qs, vq, nq, rfl, rfl, hiq, hql, hqb, hr0, hrb, hinv⟩
    have hvz : vq.toArray.toList.length ≤ sizeLine := by have := hiq.length; have := sizeLine_eq; simp; (lia)
    (repeat' (first | (k_unfold; (try dsimp only)) | ((fail_if_success k_end); (fail_if_success (with_reducible show wpAny _ _ (call (Value.builtin "list.reverse") _) _ _ _)); walk1) | (dsimp only; (fail_if_success k_end); (fail_if_success (with_reducible show wpAny _ _ (call (Value.builtin "list.reverse") _) _ _ _)); walk1)))
    refine kl_reverse Fi Ni rfl (Upd.head ?_) hvz (fun h5 F5 N5 => ?_)
    · intro q hq
      rcases List.mem_cons.mp hq with h | h
      · rw [h]; exact hxD
      · exact htD q h
    have tc5 := LE3.tab (h'' := h5) fun q hq => (N5 q (.tail _ (.tail _ hq))).1
    have W5 : Wt w h5 := LE3.re _ F5.keep fun q hq => (N5 q (.tail _ (.tail _ hq))).1
    (repeat' (first | (k_unfold; (try dsimp only)) | ((fail_if_success k_end); (fail_if_success (with_reducible show wpAny _ _ (exec (PySem.Stmt.For _ _ _ _ _) _) _ _ _)); walk1) | (dsimp only; (fail_if_success k_end); (fail_if_success (with_reducible show wpAny _ _ (exec (PySem.Stmt.For _ _ _ _ _) _) _ _ _)); walk1)))
    refine ⟨X.keeps F5.keep, ?_⟩
    have hlq : LI h5 D qs.reverse := ⟨vq.reverse, nq, by simpa [W.listOf] using N5.get (.head _), hiq.reverse⟩
    refine int_spec W5 (by show A.depth + 1 + 25 < _; (with_reducible assumption)) hh hlq (by rw [List.length_reverse, hql, hds2]; exact hdigl) (by (lia)) (by (lia)) (fun d hd => by rw [Int.toNat_natCast]; exact hqb d (List.mem_reverse.mp hd)) fun tQ tk6 h6 kc6 W6 hot6 => ?_
    have kb6 := kc6.but
    obtain ⟨F6, tl6, LE6, N6⟩ := after_but (news := []) W' F5 News.nil (fun _ h => nomatch h) W5 kb6 W6
    simp only [List.nil_append] at N6
    clear F5 N5
    rw [hds2, Nat.sub_self, List.drop_zero, hdigu] at hinv
    rw [Int.toNat_natCast]
    have hqr : undig nb qs.reverse = a / b ∧ r = a % b := by
      obtain ⟨h1, h2⟩ := (Int.ediv_emod_unique (a := a) (q := undig nb qs.reverse) (r := r) hb).mpr ⟨by rw [hinv, Int.mul_comm, Int.add_comm], hr0, hrb⟩
      exact ⟨h1.symm, h2.symm⟩
    rw [hqr.1]
    obtain rfl := hqr.2
    (repeat' (first | (k_unfold; (try dsimp only)) | ((fail_if_success k_end); (fail_if_success (with_reducible show wpAny _ _ (exec (PySem.Stmt.For _ _ _ _ _) _) _ _ _)); walk1) | (dsimp only; (fail_if_success k_end); (fail_if_success (with_reducible show wpAny _ _ (exec (PySem.Stmt.For _ _ _ _ _) _) _ _ _)); walk1)))
    rename Fr _ _ _ _ => F7
    rename News _ _ _ _ => N7
    have W7 := LE6.re _ F7.keep fun q hq => (N7 q (.tail _ hq)).1
    have tc7 := LE6.tab fun q hq => (N7 q (.tail _ hq)).1
    exact ret _ _ _ (keepC_tab (but_of_gh F7.keep) (((tc3.trans tc5).trans kc6.tab).trans tc7)) W7 (hot3.tab (.head _) ((tc5.trans kc6.tab).trans tc7)) (hot6.tab (.tail _ (.head _)) tc7) (gh_none (N7.fresh (.head _)) (W7.notinC (N7.get (.head _)) (by nofun))) ⟨[_, _], _, N7.get (.head _), .cons _ _ (.cons _ _ .nil)⟩
end Mine
end
section
open PySem PySem.W PyProof.Rows PySem.Calls
namespace Mine
theorem wd_fill_dm (w : World) (h : Heap) (_ : OpenLaw) (e : Challenge.rw_ph0098_01 = Challenge.rw_ph0098_01) : (hd.heap_39 w.params).In h → (hd.heap_39 w.params).In h ∧ Challenge.rw_ph0098_01 = Challenge.rw_ph0098_01 := by
  k_fill
  exact fun x => ⟨x, e⟩
def divF (a b : Int) : Int := if b < 0 then (-a) / (-b) else a / b
def modF (a b : Int) : Int := if b < 0 then -((-a) % (-b)) else a % b

set_option maxRecDepth 100000 in
set_option maxHeartbeats 1000000 in
theorem dm1_spec {w : World} {A : Around} {s : Shared} {a b : Int} {t1 t2 : Tok} {Q E : Value → Shared → Prop}
  (W : Wt w s.heap) (hd0 : A.depth + 27 < recursionLimit) (hh : A.handled = none) (ha : 0 ≤ a) (hb : 0 < b) (hb2 : b < 1000) (ha2 : Builtin.Int.intBits a ≤ 1048598)
  (ret : ∀ x tk h', KeepC s.heap h' → Wt w h' → Hot h' 58 → Hot h' 65 → s.heap.get? x = none → TI h' x [divF a b, modF a b] → Q (.ref x) { s with heap := h', toks := tk }) :
  wpAny (model Challenge.rw_ph0098_01.row.prog w) A (call (.ref 84) [.int a t1, .int b t2]) Q E s := by
  have W' := W
  obtain ⟨⟨X, p, loose, mean, mg, mb, T⟩, C1, C2, K1, K2⟩ := W
  have X0 : (hd.heap_39 w.params).In s.heap := X.keeps (gh_sub _)
  have T0 := T.keeps (gh_sub _)
  refine wpAny_call ?_
  k_dflt (refine' enter_plain (binds := [(Str.ofString "a", .int a t1), (Str.ofString "b", .int b t2)]) X0 T0 ?k6 ?k7 ?k8 ?k9 ?kB ?_ ?c2 ?c3 ?c4 ?c5; (case k6 => k_is); (case k7 => k_is); (case k8 => (with_reducible exact o_dp0 (by assumption))); (case k9 => exact BindsTo.of_eq rfl); (case c5 => decide); (case kB => exact locs rfl); (case c2 => exact rfl); (case c3 => exact rfl); (case c4 => exact rfl))
  intro L' h₁ F0 N0
  dsimp only
  clear X0 T0
  have F' := gh_fr F0
  obtain ⟨tl1, LE1⟩ := led_of W' F' (W'.keeps F0.keep)
  have N' := LE1.N
  have tc1 : TabC s.heap h₁ := KeepAll.tab F0.keep
  clear F0 N0
  (repeat' (first | (k_unfold; (try dsimp only)) | ((fail_if_success k_end); (fail_if_success (with_reducible show wpAny _ _ (assign (PySem.Expr.Tuple _ _ _) _ _) _ _ _)); walk1) | (dsimp only; (fail_if_success k_end); (fail_if_success (with_reducible show wpAny _ _ (assign (PySem.Expr.Tuple _ _ _) _ _) _ _ _)); walk1)))
  · rename b = 0 => hb0; exfalso; (lia)
  rename Fr _ _ _ _ => F2
  rename News _ _ _ _ => N2
  have W2 : Wt w _ := LE1.re _ F2.keep fun q hq => (N2 q hq).1
  have tc2 := tc1.trans (LE1.tab fun q hq => (N2 q hq).1)
  refine ⟨X.keeps F2.keep, ?_⟩
  refine pos_spec W2 (by show A.depth + 1 + 26 < _; (with_reducible assumption)) hh ha (by (with_reducible exact Nat.le_trans (by assumption) (by decide))) hb hb2 fun x3 tk3 h3 kc3 W3 hot5 hot6 hf3 ht3 => ?_
  have kb3 := kc3.but
  have tc3 := tc2.trans kc3.tab
  obtain ⟨o3, hg3, _⟩ := (show ∃ o, h3.get? x3 = some o ∧ True from let ⟨vs, n, e, _⟩ := ht3; ⟨_, e, trivial⟩)
  obtain ⟨F3, _, tl3, LE3, N3⟩ := after_new (news := []) W' F2 News.nil (fun _ h => nomatch h) W2 kb3 W3 hf3 hg3
  simp only [List.nil_append] at N3
  clear F2 N2
  refine ret x3 _ h3 (keepC_tab (but_of_gh F3.keep) tc3) W3 hot5 hot6 (gh_none (N3.fresh (.head _)) (by obtain ⟨vs, n, e, _⟩ := ht3; exact W3.notinC e (by nofun))) ?_
  unfold divF modF
  rw [if_neg (by (lia)), if_neg (by (lia))]
  exact ht3

set_option maxRecDepth 100000 in
set_option maxHeartbeats 1000000 in
theorem dm2_spec {w : World} {A : Around} {s : Shared} {a b : Int} {t1 t2 : Tok} {Q E : Value → Shared → Prop}
  (W : Wt w s.heap) (hd0 : A.depth + 28 < recursionLimit) (hh : A.handled = none) (ha : a < 0) (hb : 0 < b) (hb2 : b < 1000) (ha2 : Builtin.Int.intBits a ≤ 1048598)
  (ret : ∀ x tk h', KeepC s.heap h' → Wt w h' → Hot h' 58 → Hot h' 65 → s.heap.get? x = none → TI h' x [divF a b, modF a b] → Q (.ref x) { s with heap := h', toks := tk }) :
  wpAny (model Challenge.rw_ph0098_01.row.prog w) A (call (.ref 84) [.int a t1, .int b t2]) Q E s := by
  have W' := W
  obtain ⟨⟨X, p, loose, mean, mg, mb, T⟩, C1, C2, K1, K2⟩ := W
  have X0 : (hd.heap_39 w.params).In s.heap := X.keeps (gh_sub _)
  have T0 := T.keeps (gh_sub _)
  refine wpAny_call ?_
  k_dflt (refine' enter_plain (binds := [(Str.ofString "a", .int a t1), (Str.ofString "b", .int b t2)]) X0 T0 ?k6 ?k7 ?k8 ?k9 ?kB ?_ ?c2 ?c3 ?c4 ?c5; (case k6 => k_is); (case k7 => k_is); (case k8 => (with_reducible exact o_dp0 (by assumption))); (case k9 => exact BindsTo.of_eq rfl); (case c5 => decide); (case kB => exact locs rfl); (case c2 => exact rfl); (case c3 => exact rfl); (case c4 => exact rfl))
  intro L' h₁ F0 N0
  dsimp only
  clear X0 T0
  have F' := gh_fr F0
  obtain ⟨tl1, LE1⟩ := led_of W' F' (W'.keeps F0.keep)
  have N' := LE1.N
  have tc1 : TabC s.heap h₁ := KeepAll.tab F0.keep
  clear F0 N0
  (repeat' (first | (k_unfold; (try dsimp only)) | ((fail_if_success k_end); (fail_if_success (with_reducible show wpAny _ _ (assign (PySem.Expr.Tuple _ _ _) _ _) _ _ _)); walk1) | (dsimp only; (fail_if_success k_end); (fail_if_success (with_reducible show wpAny _ _ (assign (PySem.Expr.Tuple _ _ _) _ _) _ _ _)); walk1)))
  · rename b = 0 => hb0; exfalso; (lia)
  rename Fr _ _ _ _ => F2
  rename News _ _ _ _ => N2
  have W2 : Wt w _ := LE1.re _ F2.keep fun q hq => (N2 q hq).1
  have tc2 := tc1.trans (LE1.tab fun q hq => (N2 q hq).1)
  refine ⟨X.keeps F2.keep, ?_⟩
  have hnot : Builtin.bitNot a = -a - 1 := by unfold Builtin.bitNot; (lia)
  rw [hnot]
  have hbits : Builtin.Int.intBits (-a - 1) ≤ 1048598 := intBits_le_of_natAbs (by (lia)) ha2
  refine dm1_spec W2 (by show A.depth + 1 + 27 < _; (with_reducible assumption)) hh (by (lia)) hb hb2 hbits fun x3 tk3 h3 kc3 W3 hot5 hot6 hf3 ht3 => ?_
  have kb3 := kc3.but
  have tc3 := tc2.trans kc3.tab
  obtain ⟨F3, tl3, LE3, N3⟩ := after_but (news := []) W' F2 News.nil (fun _ h => nomatch h) W2 kb3 W3
  simp only [List.nil_append] at N3
  clear F2 N2
  obtain ⟨vt, hit, hiv⟩ := ht3.isTup
  obtain ⟨tq, v2, rfl, hiv2⟩ := hiv.cons_inv
  obtain ⟨tr2, v3, rfl, hiv3⟩ := hiv2.cons_inv
  obtain rfl := hiv3.nil_inv
  refine unpackN_ F3 N3 hit hh rfl rfl fun h6 F6 N6 => ?_
  clear F3 N3
  (repeat' (first | (k_unfold; (try dsimp only)) | ((fail_if_success k_end); (fail_if_success (with_reducible show wpAny _ _ (assign (PySem.Expr.Tuple _ _ _) _ _) _ _ _)); walk1) | (dsimp only; (fail_if_success k_end); (fail_if_success (with_reducible show wpAny _ _ (assign (PySem.Expr.Tuple _ _ _) _ _) _ _ _)); walk1)))
  rename Fr _ _ _ _ => F7
  rename News _ _ _ _ => N7
  have W7 := LE3.re _ F7.keep fun q hq => (N7 q (.tail _ hq)).1
  have tc7 := LE3.tab fun q hq => (N7 q (.tail _ hq)).1
  refine ret _ _ _ (keepC_tab (but_of_gh F7.keep) (tc3.trans tc7)) W7 (hot5.tab (.head _) tc7) (hot6.tab (.tail _ (.head _)) tc7) (gh_none (N7.fresh (.head _)) (W7.notinC (N7.get (.head _)) (by nofun))) ⟨[_, _], _, N7.get (.head _), ?_⟩
  have hq := kbt_below a hb
  have e1 : Builtin.bitNot (divF (-a - 1) b) = divF a b := by unfold Builtin.bitNot divF; rw [if_neg (by (lia)), if_neg (by (lia))]; (lia)
  have e2 : b + Builtin.bitNot (modF (-a - 1) b) = modF a b := by unfold Builtin.bitNot modF; rw [if_neg (by (lia)), if_neg (by (lia))]; (lia)
  rw [← e1, ← e2]
  exact .cons _ _ (.cons _ _ .nil)

theorem dmp_spec {w : World} {A : Around} {s : Shared} {a b : Int} {t1 t2 : Tok} {Q E : Value → Shared → Prop}
  (W : Wt w s.heap) (hd0 : A.depth + 28 < recursionLimit) (hh : A.handled = none) (hb : 0 < b) (hb2 : b < 1000) (ha2 : Builtin.Int.intBits a ≤ 1048598)
  (ret : ∀ x tk h', KeepC s.heap h' → Wt w h' → Hot h' 58 → Hot h' 65 → s.heap.get? x = none → TI h' x [divF a b, modF a b] → Q (.ref x) { s with heap := h', toks := tk }) :
  wpAny (model Challenge.rw_ph0098_01.row.prog w) A (call (.ref 84) [.int a t1, .int b t2]) Q E s := by
  by_cases h : a < 0
  · exact dm2_spec W hd0 hh h hb hb2 ha2 ret
  · exact dm1_spec W (by (with_reducible exact Nat.lt_of_succ_lt (by assumption))) hh (by (with_reducible exact Int.not_lt.mp (by assumption))) hb hb2 ha2 ret

set_option maxRecDepth 100000 in
set_option maxHeartbeats 1000000 in
theorem dm3_spec {w : World} {A : Around} {s : Shared} {a b : Int} {t1 t2 : Tok} {Q E : Value → Shared → Prop}
  (W : Wt w s.heap) (hd0 : A.depth + 29 < recursionLimit) (hh : A.handled = none) (hb : b < 0) (hb2 : -1000 < b) (ha2 : Builtin.Int.intBits a ≤ 1048598)
  (ret : ∀ x tk h', KeepC s.heap h' → Wt w h' → Hot h' 58 → Hot h' 65 → s.heap.get? x = none → TI h' x [divF a b, modF a b] → Q (.ref x) { s with heap := h', toks := tk }) :
  wpAny (model Challenge.rw_ph0098_01.row.prog w) A (call (.ref 84) [.int a t1, .int b t2]) Q E s := by
  have W' := W
  obtain ⟨⟨X, p, loose, mean, mg, mb, T⟩, C1, C2, K1, K2⟩ := W
  have X0 : (hd.heap_39 w.params).In s.heap := X.keeps (gh_sub _)
  have T0 := T.keeps (gh_sub _)
  refine wpAny_call ?_
  k_dflt (refine' enter_plain (binds := [(Str.ofString "a", .int a t1), (Str.ofString "b", .int b t2)]) X0 T0 ?k6 ?k7 ?k8 ?k9 ?kB ?_ ?c2 ?c3 ?c4 ?c5; (case k6 => k_is); (case k7 => k_is); (case k8 => (with_reducible exact o_dp0 (by assumption))); (case k9 => exact BindsTo.of_eq rfl); (case c5 => decide); (case kB => exact locs rfl); (case c2 => exact rfl); (case c3 => exact rfl); (case c4 => exact rfl))
  intro L' h₁ F0 N0
  dsimp only
  clear X0 T0
  have F' := gh_fr F0
  obtain ⟨tl1, LE1⟩ := led_of W' F' (W'.keeps F0.keep)
  have N' := LE1.N
  have tc1 : TabC s.heap h₁ := KeepAll.tab F0.keep
  clear F0 N0
  (repeat' (first | (k_unfold; (try dsimp only)) | ((fail_if_success k_end); (fail_if_success (with_reducible show wpAny _ _ (assign (PySem.Expr.Tuple _ _ _) _ _) _ _ _)); walk1) | (dsimp only; (fail_if_success k_end); (fail_if_success (with_reducible show wpAny _ _ (assign (PySem.Expr.Tuple _ _ _) _ _) _ _ _)); walk1)))
  · rename b = 0 => hb0; exfalso; (lia)
  rename Fr _ _ _ _ => F2
  rename News _ _ _ _ => N2
  have W2 : Wt w _ := LE1.re _ F2.keep fun q hq => (N2 q hq).1
  have tc2 := tc1.trans (LE1.tab fun q hq => (N2 q hq).1)
  refine ⟨X.keeps F2.keep, ?_⟩
  have hbits : Builtin.Int.intBits (-a) ≤ 1048598 := intBits_le_of_natAbs (by (lia)) ha2
  refine dmp_spec W2 (by show A.depth + 1 + 28 < _; (with_reducible assumption)) hh (by (lia)) (by (lia)) hbits fun x3 tk3 h3 kc3 W3 hot5 hot6 hf3 ht3 => ?_
  have kb3 := kc3.but
  have tc3 := tc2.trans kc3.tab
  obtain ⟨F3, tl3, LE3, N3⟩ := after_but (news := []) W' F2 News.nil (fun _ h => nomatch h) W2 kb3 W3
  simp only [List.nil_append] at N3
  clear F2 N2
  obtain ⟨vt, hit, hiv⟩ := ht3.isTup
  obtain ⟨tq, v2, rfl, hiv2⟩ := hiv.cons_inv
  obtain ⟨tr2, v3, rfl, hiv3⟩ := hiv2.cons_inv
  obtain rfl := hiv3.nil_inv
  refine unpackN_ F3 N3 hit hh rfl rfl fun h6 F6 N6 => ?_
  clear F3 N3
  (repeat' (first | (k_unfold; (try dsimp only)) | ((fail_if_success k_end); (fail_if_success (with_reducible show wpAny _ _ (assign (PySem.Expr.Tuple _ _ _) _ _) _ _ _)); walk1) | (dsimp only; (fail_if_success k_end); (fail_if_success (with_reducible show wpAny _ _ (assign (PySem.Expr.Tuple _ _ _) _ _) _ _ _)); walk1)))
  rename Fr _ _ _ _ => F7
  rename News _ _ _ _ => N7
  have W7 := LE3.re _ F7.keep fun q hq => (N7 q (.tail _ hq)).1
  have tc7 := LE3.tab fun q hq => (N7 q (.tail _ hq)).1
  refine ret _ _ _ (keepC_tab (but_of_gh F7.keep) (tc3.trans tc7)) W7 (hot5.tab (.head _) tc7) (hot6.tab (.tail _ (.head _)) tc7) (gh_none (N7.fresh (.head _)) (W7.notinC (N7.get (.head _)) (by nofun))) ⟨[_, _], _, N7.get (.head _), ?_⟩
  have e1 : divF (-a) (-b) = divF a b := by unfold divF; rw [if_neg (by (lia)), if_pos (by (with_reducible assumption))]
  have e2 : -modF (-a) (-b) = modF a b := by unfold modF; rw [if_neg (by (lia)), if_pos (by (with_reducible assumption))]
  rw [← e1, ← e2]
  exact .cons _ _ (.cons _ _ .nil)

theorem dm_spec {w : World} {A : Around} {s : Shared} {a b : Int} {t1 t2 : Tok} {Q E : Value → Shared → Prop}
  (W : Wt w s.heap) (hd0 : A.depth + 29 < recursionLimit) (hh : A.handled = none) (hb : b ≠ 0) (hb1 : -1000 < b) (hb2 : b < 1000) (ha2 : Builtin.Int.intBits a ≤ 1048598)
  (ret : ∀ x tk h', KeepC s.heap h' → Wt w h' → Hot h' 58 → Hot h' 65 → s.heap.get? x = none → TI h' x [divF a b, modF a b] → Q (.ref x) { s with heap := h', toks := tk }) :
  wpAny (model Challenge.rw_ph0098_01.row.prog w) A (call (.ref 84) [.int a t1, .int b t2]) Q E s := by
  by_cases h : b < 0
  · exact dm3_spec W hd0 hh h hb1 ha2 ret
  · exact dmp_spec W (by (with_reducible exact Nat.lt_of_succ_lt (by assumption))) hh (by (lia)) hb2 ha2 ret
end Mine
end
section
open PySem PySem.W PyProof.Rows PySem.Calls
namespace Mine
theorem wd_fill_cards (w : World) (h : Heap) (_ : OpenLaw) (e : Challenge.rw_ph0098_01 = Challenge.rw_ph0098_01) : (hd.heap_39 w.params).In h → (hd.heap_39 w.params).In h ∧ Challenge.rw_ph0098_01 = Challenge.rw_ph0098_01 := by
  k_fill
  exact fun x => ⟨x, e⟩
def cardF (piles side place : Int) : List Int :=
  if side < 0 then [divF (side * place) (side * piles), modF (side * place) (side * piles), place] else [modF (side * place) (side * piles), divF (side * place) (side * piles), place]
def cardsF (piles size side : Int) : List (List Int) := (List.range size.toNat).map fun (i : Nat) => cardF piles side (i : Int)
/-- an object is a tuple of these ints -/
inductive TIo (o : Obj) (ns : List Int) : Prop
  | mk (vs : List Value) (n : Nat) (e : o = { cls := .type "tuple", data := .seq (List.toArray vs) n }) (i : IntsAre vs ns)
theorem TIo.of {h : Heap} {a : Addr} {ns : List Int} (x : TI h a ns) : ∃ o, h.get? a = some o ∧ TIo o ns := let ⟨vs, n, e, i⟩ := x; ⟨_, e, vs, n, rfl, i⟩
def InT (news : List (Addr × Obj)) (a : Addr) (ns : List Int) : Prop := ∃ o, (a, o) ∈ news ∧ TIo o ns
theorem InT.mono {news news' : List (Addr × Obj)} {a : Addr} {ns : List Int} (x : InT news a ns) (h : ∀ p ∈ news, p ∈ news') : InT news' a ns := let ⟨o, m, r⟩ := x; ⟨o, h _ m, r⟩
theorem InT.ti {h₀ h : Heap} {L a : Addr} {ns : List Int} {news : List (Addr × Obj)} (x : InT news a ns) (N : News h₀ L h news) : TI h a ns := let ⟨_, m, vs, n, e, i⟩ := x; ⟨vs, n, (N.get m).trans (by rw [e]), i⟩

/-- what holds between two turns of the loop over the cards -/
inductive CardJ (w : World) (g : Heap) (D : Addr) (piles side : Int) (m0 : Str → Option Value) (i : Nat) (m : Str → Option Value) (news : List (Addr × Obj)) : Prop
  | mk (u1 u2 : Option Value) (vs : List Value) (n : Nat) (ros tl : List (Addr × Obj)) (em : m = (fun y => if y = Str.ofString "place" then u1 else if y = Str.ofString "told" then u2 else m0 y)) (en : news = (D, W.listOf (List.toArray vs) n) :: (ros ++ tl)) (LE : LedR w g tl) (htl : ∀ q ∈ tl, q.1 ≠ D) (hros : ∀ q ∈ ros, q.1 ≠ D ∧ q.1 ∉ ts) (hlen : vs.length = i)
    (hvs : ∀ (k : Nat) v, vs[k]? = some v → ∃ a, v = Value.ref a ∧ InT ros a (cardF piles side (k : Int))) (hot : 0 < i → ∀ P ∈ ts, ∃ ps, (P, tabObj ps) ∈ tl ∧ ps ≠ #[])

set_option maxRecDepth 100000 in
set_option maxHeartbeats 2000000 in
theorem cards_spec {w : World} {A : Around} {s : Shared} {piles size side : Int} {t1 t2 t3 : Tok} {Q E : Value → Shared → Prop}
  (W0 : Wt w s.heap) (hd0 : A.depth + 31 < recursionLimit) (hh : A.handled = none) (hp1 : 2 ≤ piles) (hp2 : piles ≤ 4) (hs1 : 0 < size) (hs2 : size ≤ 16) (hsd : side = 1 ∨ side = -1)
  (ret : ∀ x tk h', KeepBut s.heap h' → Wt w h' → Hot h' 58 → Hot h' 65 → s.heap.get? x = none → (∃ (vr : List Value) (n : Nat), h'.get? x = some (W.listOf (List.toArray vr) n) ∧ (∀ v ∈ vr, IsRow h' v) ∧ vr.map (rowOf h') = cardsF piles size side) → Q (.ref x) { s with heap := h', toks := tk }) :
  wpAny (model Challenge.rw_ph0098_01.row.prog w) A (call (.ref 98) [.int piles t1, .int size t2, .int side t3]) Q E s := by
  have W' := W0
  obtain ⟨⟨X, p, loose, mean, mg, mb, T⟩, C1, C2, K1, K2⟩ := W0
  have X0 : (hd.heap_39 w.params).In s.heap := X.keeps (gh_sub _)
  have T0 := T.keeps (gh_sub _)
  refine wpAny_call ?_
  k_dflt (refine' enter_plain (binds := [(Str.ofString "piles", .int piles t1), (Str.ofString "size", .int size t2), (Str.ofString "side", .int side t3)]) X0 T0 ?k6 ?k7 ?k8 ?k9 ?kB ?_ ?c2 ?c3 ?c4 ?c5; (case k6 => k_is); (case k7 => k_is); (case k8 => (with_reducible exact o_dp0 (by assumption))); (case k9 => exact BindsTo.of_eq rfl); (case c5 => decide); (case kB => exact locs rfl); (case c2 => exact rfl); (case c3 => exact rfl); (case c4 => exact rfl))
  intro L' h₁ F0 N0
  dsimp only
  clear X0 T0
  have F' := gh_fr F0
  obtain ⟨tl1, LE1⟩ := led_of W' F' (W'.keeps F0.keep)
  have N' := LE1.N
  replace LE1 := LE1.toR
  clear F0 N0
  (repeat' (first | (k_unfold; (try dsimp only)) | ((fail_if_success k_end); (fail_if_success (with_reducible show wpAny _ _ (exec (PySem.Stmt.For _ _ _ _ _) _) _ _ _)); walk1) | (dsimp only; (fail_if_success k_end); (fail_if_success (with_reducible show wpAny _ _ (exec (PySem.Stmt.For _ _ _ _ _) _) _ _ _)); walk1)))
  rename_i D h2 lD h3 F3 N3
  have htD : ∀ q ∈ tl1, q.1 ≠ D := fun q hq => Nat.ne_of_lt (lD q hq)
  refine range_forN (h₀ := Gh s.heap) hh rfl rfl ?_ (by intro _; with_unfolding_all rfl)
  (repeat' (first | (k_unfold; (try dsimp only)) | ((fail_if_success k_end); (fail_if_success (with_reducible show wpAny _ _ (exec (PySem.Stmt.For _ _ _ _ _) _) _ _ _)); walk1) | (dsimp only; (fail_if_success k_end); (fail_if_success (with_reducible show wpAny _ _ (exec (PySem.Stmt.For _ _ _ _ _) _) _ _ _)); walk1)))
  rename IsRange _ _ _ _ _ _ _ _ => hR
  rename Fr _ _ _ _ => F4
  rename News _ _ _ _ => N4
  obtain ⟨m0, hm0, F5⟩ : ∃ m0, m0 = _ ∧ Fr (Gh s.heap) L' _ m0 := ⟨_, rfl, F4⟩
  refine ⟨_, 0, size, _, _, _, size.toNat, _, (D, W.listOf #[] 0) :: tl1, CardJ w s.heap D piles side m0, rfl, hR, small_one (by (with_reducible decide)) (by (with_reducible decide)) (by (lia)) (by (with_reducible exact o_lit (by assumption) (by decide))), ?_, F5, N4, ?_, ?_, ?_⟩
  · rw [rangeSize_nat]; simp
  · refine ⟨none, none, [], 0, [], tl1, ?_, rfl, LE1, htD, (fun _ h => nomatch h), rfl, (fun k v h => by simp at h), fun h => absurd h (Nat.lt_irrefl _)⟩
    subst hm0
    funext y
    by_cases h : y = Str.ofString "place"
    · subst h; rfl
    by_cases h2 : y = Str.ofString "told"
    · subst h2; rfl
    · rw [if_neg h, if_neg h2]
  · subst hm0
    clear F5 F4 N4
    rintro i t m₁ news₁ h tk io I hnc hi ⟨u1, u2, vs, n, ros, tl, rfl, rfl, LE, htl, hros, hlen, hvs, _⟩ hne Fi Ni
    have hsb : -20 ≤ side * (0 + (i : Int)) ∧ side * (0 + (i : Int)) ≤ 20 ∧ -20 ≤ side * piles ∧ side * piles ≤ 20 ∧ side * piles ≠ 0 := by rcases hsd with rfl | rfl <;> (lia)
    have hDI : D ≠ I := hne _ (.head _)
    have Wi : Wt w h := LE.re _ Fi.keep fun q hq => (Ni q (.tail _ (.tail _ (List.mem_append_right _ hq)))).1
    have hnt : ∀ q ∈ (I, io) :: (D, W.listOf (List.toArray vs) n) :: ros, q.1 ∉ ts := by
      exact sub_cons (LE.notin fun q hq => hne q (.tail _ (List.mem_append_right _ hq))) (sub_cons (LE.notin htl) fun q h => (hros q h).2)
    (repeat' (first | (k_unfold; (try dsimp only)) | ((fail_if_success k_end); (fail_if_success (with_reducible show wpAny _ _ (exec (PySem.Stmt.For _ _ _ _ _) _) _ _ _)); walk1) | (dsimp only; (fail_if_success k_end); (fail_if_success (with_reducible show wpAny _ _ (exec (PySem.Stmt.For _ _ _ _ _) _) _ _ _)); walk1)))
    refine ⟨X.keeps Fi.keep, ?_⟩
    refine dm_spec Wi (by show A.depth + 1 + 29 < _; (with_reducible exact Nat.lt_of_succ_lt (by assumption))) hh (by (lia)) (by (lia)) (by (lia)) (Nat.le_trans (intBits_le_64 (by (lia)) (by (lia))) (by decide)) fun x3 tk5 h5 kc5 W5 hot5 hot6 hf5 ht5 => ?_
    have kb5 := kc5.but
    obtain ⟨o5, hg5, vt5, n5, rfl, hi5⟩ := TIo.of ht5
    obtain ⟨F5, hne5, tl5, LE5, N5⟩ := after_newT (news := (I, io) :: (D, W.listOf (List.toArray vs) n) :: ros) W' Fi (News.sub Ni (by (repeat' (first | with_reducible exact sub_nil | with_reducible refine sub_cons ?_ ?_ | with_reducible assumption | with_reducible exact List.mem_cons_self | with_reducible refine List.mem_cons_of_mem _ ?_ | with_reducible refine List.mem_append_left _ ?_ | intro _ _)))) hnt Wi kb5 W5 hf5 hg5
    obtain ⟨tq, v2, rfl, hi6⟩ := hi5.cons_inv
    obtain ⟨tr, v3, rfl, hi7⟩ := hi6.cons_inv
    obtain rfl := hi7.nil_inv
    simp only [List.cons_append] at N5
    clear Fi Ni
    have hdv : cardF piles side (i : Int) = if side < 0 then [divF (side * (0 + (i : Int))) (side * piles), modF (side * (0 + (i : Int))) (side * piles), 0 + (i : Int)] else [modF (side * (0 + (i : Int))) (side * piles), divF (side * (0 + (i : Int))) (side * piles), 0 + (i : Int)] := by
      unfold cardF; simp only [Int.zero_add]
    generalize divF (side * (0 + (i : Int))) (side * piles) = dq at *
    generalize modF (side * (0 + (i : Int))) (side * piles) = dr at *
    have hId : I ∉ ts := hnt _ (.head _)
    have hI5 : ∀ q ∈ tl5, q.1 ≠ I := LE5.ne_nc (N5.get (.tail _ (.head _))) hId hnc
    have htl5 : ∀ q ∈ tl5, q.1 ≠ D := LE5.ne (N5.get (.tail _ (.tail _ (.head _)))) (fun _ h => by cases h)
    have hrD : ∀ q ∈ ros ++ tl5, q.1 ≠ D := fun q hq => (List.mem_append.mp hq).elim (fun h => (hros q h).1) (htl5 q)
    have hvz : vs.toArray.size ≤ sizeLine := by have := sizeLine_eq; simp; (with_reducible exact o_szlt (by assumption) (by assumption) (by assumption) (by decide))
    (repeat' (first | (k_unfold; (try dsimp only)) | ((fail_if_success k_end); (fail_if_success (with_reducible show wpAny _ _ (exec (PySem.Stmt.For _ _ _ _ _) _) _ _ _)); walk1) | (dsimp only; (fail_if_success k_end); (fail_if_success (with_reducible show wpAny _ _ (exec (PySem.Stmt.For _ _ _ _ _) _) _ _ _)); walk1)))
    · rename_i hsd0 DP h6a l6a DT h6 F6 N6 l6
      obtain ⟨_, _, hDTI, hDD, hAl⟩ := l6
      have N7 : News (Gh s.heap) L' h6 ((DT, ({ cls := .type "tuple", data := .seq #[Value.int dq tq, Value.int dr tr, Value.int (0 + (i : Int)) t] } : Obj)) :: (I, io) :: (D, W.listOf vs.toArray n) :: (ros ++ tl5)) := News.sub N6 (by (repeat' (first | with_reducible exact sub_nil | with_reducible refine sub_cons ?_ ?_ | with_reducible refine sub_app ?_ ?_ | with_reducible assumption | with_reducible exact List.mem_cons_self | with_reducible refine List.mem_cons_of_mem _ ?_ | with_reducible exact List.mem_append_left _ (by assumption) | with_reducible exact List.mem_append_right _ (by assumption) | with_reducible refine List.mem_append_left _ ?_ | intro _ _)))
      clear N6
      have hDTt : DT ∉ ts := LE5.toR.notin fun q hq => Nat.ne_of_lt (ktn_ltOf (l := ros ++ tl5) (d := DT) hAl q (List.mem_append_right _ hq))
      refine append_K F6 N7 (Upd.tail (Nat.ne_of_gt hDD) (Upd.tail (Ne.symm hDI) (Upd.head hrD))) (fun h8 F8 N8 => ?_) hvz
      (repeat' (first | (k_unfold; (try dsimp only)) | ((fail_if_success k_end); (fail_if_success (with_reducible show wpAny _ _ (exec (PySem.Stmt.For _ _ _ _ _) _) _ _ _)); walk1) | (dsimp only; (fail_if_success k_end); (fail_if_success (with_reducible show wpAny _ _ (exec (PySem.Stmt.For _ _ _ _ _) _) _ _ _)); walk1)))
      refine ⟨h8, _, _, (D, W.listOf (vs.toArray.push (Value.ref DT)) (n + 1)) :: ((DT, ({ cls := .type "tuple", data := .seq #[Value.int dq tq, Value.int dr tr, Value.int (0 + (i : Int)) t] } : Obj)) :: ros ++ tl5), rfl, F8, News.sub N8 ?_, ?_, some (Value.int (0 + (i : Int)) t), some (Value.ref x3), vs ++ [Value.ref DT], n + 1, (DT, ({ cls := .type "tuple", data := .seq #[Value.int dq tq, Value.int dr tr, Value.int (0 + (i : Int)) t] } : Obj)) :: ros, tl5, ?_, by rw [show (vs ++ [Value.ref DT]).toArray = vs.toArray.push (Value.ref DT) from by simp], LE5.toR, htl5, ?_, by simp [hlen], ?_, ?_⟩
      · (repeat' (first | with_reducible exact sub_nil | with_reducible refine sub_cons ?_ ?_ | with_reducible refine sub_app ?_ ?_ | with_reducible assumption | with_reducible exact List.mem_cons_self | with_reducible refine List.mem_cons_of_mem _ ?_ | with_reducible exact List.mem_append_left _ (by assumption) | with_reducible exact List.mem_append_right _ (by assumption) | with_reducible refine List.mem_append_left _ ?_ | intro _ _))
      · exact sub_cons (p := fun q : Addr × Obj => q.1 ≠ I) hDI (sub_app (sub_cons (Nat.ne_of_gt hDTI) fun q h => hne q (.tail _ (List.mem_append_left _ h))) hI5)
      · funext y
        by_cases h : y = Str.ofString "place"
        · subst h; rfl
        by_cases h2 : y = Str.ofString "told"
        · subst h2; rfl
        · simp only [if_neg h, if_neg h2]
      · intro q hq
        rcases List.mem_cons.mp hq with h | h
        · rw [h]; exact ⟨Nat.ne_of_gt hDD, hDTt⟩
        · exact hros q h
      · intro k v hv
        by_cases hk : k < vs.length
        · rw [List.getElem?_append_left hk] at hv
          obtain ⟨a, e, r⟩ := hvs k v hv
          exact ⟨a, e, r.mono fun q hq => .tail _ hq⟩
        · have hke : k = vs.length := by
            have := (List.getElem?_eq_some_iff.mp hv).1
            simp at this; (with_reducible exact o_anti (by assumption) (by assumption))
          subst hke
          simp at hv
          subst hv
          refine ⟨DT, rfl, _, .head _, _, _, rfl, ?_⟩
          rw [hlen, hdv]
          rw [if_pos hsd0]
          exact .cons _ _ (.cons _ _ (.cons _ _ .nil))
      · intro _ P hP
        rcases List.mem_cons.mp hP with rfl | hP2
        · exact LE5.hot hP hot5
        · rw [List.mem_singleton.mp hP2] at hP ⊢; exact LE5.hot hP hot6
    · rename_i h6a hsd0 DT h6 F6 N6 l6
      obtain ⟨_, hDTI, hDD, hAl⟩ := l6
      have N7 : News (Gh s.heap) L' h6 ((DT, ({ cls := .type "tuple", data := .seq #[Value.int dr tr, Value.int dq tq, Value.int (0 + (i : Int)) t] } : Obj)) :: (I, io) :: (D, W.listOf vs.toArray n) :: (ros ++ tl5)) := News.sub N6 (by (repeat' (first | with_reducible exact sub_nil | with_reducible refine sub_cons ?_ ?_ | with_reducible refine sub_app ?_ ?_ | with_reducible assumption | with_reducible exact List.mem_cons_self | with_reducible refine List.mem_cons_of_mem _ ?_ | with_reducible exact List.mem_append_left _ (by assumption) | with_reducible exact List.mem_append_right _ (by assumption) | with_reducible refine List.mem_append_left _ ?_ | intro _ _)))
      clear N6
      have hDTt : DT ∉ ts := LE5.toR.notin fun q hq => Nat.ne_of_lt (ktn_ltOf (l := ros ++ tl5) (d := DT) hAl q (List.mem_append_right _ hq))
      refine append_K F6 N7 (Upd.tail (Nat.ne_of_gt hDD) (Upd.tail (Ne.symm hDI) (Upd.head hrD))) (fun h8 F8 N8 => ?_) hvz
      (repeat' (first | (k_unfold; (try dsimp only)) | ((fail_if_success k_end); (fail_if_success (with_reducible show wpAny _ _ (exec (PySem.Stmt.For _ _ _ _ _) _) _ _ _)); walk1) | (dsimp only; (fail_if_success k_end); (fail_if_success (with_reducible show wpAny _ _ (exec (PySem.Stmt.For _ _ _ _ _) _) _ _ _)); walk1)))
      refine ⟨h8, _, _, (D, W.listOf (vs.toArray.push (Value.ref DT)) (n + 1)) :: ((DT, ({ cls := .type "tuple", data := .seq #[Value.int dr tr, Value.int dq tq, Value.int (0 + (i : Int)) t] } : Obj)) :: ros ++ tl5), rfl, F8, News.sub N8 ?_, ?_, some (Value.int (0 + (i : Int)) t), some (Value.ref x3), vs ++ [Value.ref DT], n + 1, (DT, ({ cls := .type "tuple", data := .seq #[Value.int dr tr, Value.int dq tq, Value.int (0 + (i : Int)) t] } : Obj)) :: ros, tl5, ?_, by rw [show (vs ++ [Value.ref DT]).toArray = vs.toArray.push (Value.ref DT) from by simp], LE5.toR, htl5, ?_, by simp [hlen], ?_, ?_⟩
      · (repeat' (first | with_reducible exact sub_nil | with_reducible refine sub_cons ?_ ?_ | with_reducible refine sub_app ?_ ?_ | with_reducible assumption | with_reducible exact List.mem_cons_self | with_reducible refine List.mem_cons_of_mem _ ?_ | with_reducible exact List.mem_append_left _ (by assumption) | with_reducible exact List.mem_append_right _ (by assumption) | with_reducible refine List.mem_append_left _ ?_ | intro _ _))
      · exact sub_cons (p := fun q : Addr × Obj => q.1 ≠ I) hDI (sub_app (sub_cons (Nat.ne_of_gt hDTI) fun q h => hne q (.tail _ (List.mem_append_left _ h))) hI5)
      · funext y
        by_cases h : y = Str.ofString "place"
        · subst h; rfl
        by_cases h2 : y = Str.ofString "told"
        · subst h2; rfl
        · simp only [if_neg h, if_neg h2]
      · intro q hq
        rcases List.mem_cons.mp hq with h | h
        · rw [h]; exact ⟨Nat.ne_of_gt hDD, hDTt⟩
        · exact hros q h
      · intro k v hv
        by_cases hk : k < vs.length
        · rw [List.getElem?_append_left hk] at hv
          obtain ⟨a, e, r⟩ := hvs k v hv
          exact ⟨a, e, r.mono fun q hq => .tail _ hq⟩
        · have hke : k = vs.length := by
            have := (List.getElem?_eq_some_iff.mp hv).1
            simp at this; (with_reducible exact o_anti (by assumption) (by assumption))
          subst hke
          simp at hv
          subst hv
          refine ⟨DT, rfl, _, .head _, _, _, rfl, ?_⟩
          rw [hlen, hdv]
          rw [if_neg hsd0]
          exact .cons _ _ (.cons _ _ (.cons _ _ .nil))
      · intro _ P hP
        rcases List.mem_cons.mp hP with rfl | hP2
        · exact LE5.hot hP hot5
        · rw [List.mem_singleton.mp hP2] at hP ⊢; exact LE5.hot hP hot6
  · subst hm0
    clear F5 F4 N4
    rintro h tk m' news' Fi Ni ⟨u1, u2, vs, n, ros, tl, rfl, rfl, LE, htl, hros, hlen, hvs, hhot⟩
    (repeat' (first | (k_unfold; (try dsimp only)) | ((fail_if_success k_end); (fail_if_success (with_reducible show wpAny _ _ (exec (PySem.Stmt.For _ _ _ _ _) _) _ _ _)); walk1) | (dsimp only; (fail_if_success k_end); (fail_if_success (with_reducible show wpAny _ _ (exec (PySem.Stmt.For _ _ _ _ _) _) _ _ _)); walk1)))
    have WE : Wt w h := LE.re _ Fi.keep fun q hq => (Ni q (.tail _ (List.mem_append_right _ hq))).1
    have hhot' := hhot (by (lia))
    have hotP : ∀ P ∈ ts, Hot h P := fun P hP => let ⟨ps, m, n⟩ := hhot' P hP; ⟨ps, (Ni _ (.tail _ (List.mem_append_right _ m))).1, n⟩
    have Nr : News (Gh s.heap) L' h ros := News.sub Ni fun q hq => .tail _ (List.mem_append_left _ hq)
    refine ret D _ h (but_of_gh Fi.keep) WE (hotP _ (.head _)) (hotP _ (.tail _ (.head _))) (gh_none (Ni.fresh (.head _)) (LE.notin htl)) ⟨vs, n, Ni.get (.head _), ?_, ?_⟩
    · intro v hv
      obtain ⟨k, hk, rfl⟩ := List.getElem_of_mem hv
      obtain ⟨a, e, r⟩ := hvs k vs[k] (by simp)
      rw [e]
      have := r.ti Nr
      unfold cardF at this
      split at this
      · exact ⟨a, _, _, _, rfl, this⟩
      · exact ⟨a, _, _, _, rfl, this⟩
    · unfold cardsF
      apply List.ext_getElem
      · simp [hlen]
      · intro k h1 h2
        simp only [List.getElem_map, List.getElem_range]
        have h3 : k < vs.length := by simpa using h1
        obtain ⟨a, e, r⟩ := hvs k vs[k] (by simp)
        rw [e, rowOf_ti (r.ti Nr)]
end Mine
end
section
open PySem PySem.W PyProof.Rows PySem.Calls
namespace Mine
/-- the text's objects, and both tables filled -/
structure Wh (w : World) (h : Heap) : Prop where
  wt : Wt w h
  h58 : Hot h 58
  h65 : Hot h 65
theorem Wh.keeps {w : World} {h h' : Heap} (x : Wh w h) (k : KeepAll h h') : Wh w h' := ⟨x.wt.keeps k, x.h58.keeps k.toC, x.h65.keeps k.toC⟩
theorem Wh.wd {w : World} {h : Heap} (x : Wh w h) : Wd w h := x.wt.wd
theorem dig_hot {w : World} {A : Around} {s : Shared} {a n : Int} {t1 t2 : Tok} {Q E : Value → Shared → Prop}
  (W : Wh w s.heap) (hd0 : A.depth + 25 < recursionLimit) (hh : A.handled = none) (ha : 0 ≤ a) (ha2 : Builtin.Int.intBits a ≤ 1048600) (hn : 1 ≤ n) (hn2 : n ≤ 20)
  (ret : ∀ x tk h', KeepAll s.heap h' → s.heap.get? x = none → LI h' x (digF n a) → Q (.ref x) { s with heap := h', toks := tk }) :
  wpAny (model Challenge.rw_ph0098_01.row.prog w) A (call (.ref 63) [.int a t1, .int n t2]) Q E s :=
  dig_spec W.wt hd0 hh ha ha2 hn hn2 fun x tk h' k _ _ hf hl => ret x tk h' (keepC_hot k W.h58 W.h65) hf hl
theorem int_hot {w : World} {A : Around} {s : Shared} {n : Int} {dA : Addr} {ds : List Int} {t2 : Tok} {Q E : Value → Shared → Prop}
  (W : Wh w s.heap) (hd0 : A.depth + 25 < recursionLimit) (hh : A.handled = none) (LD : LI s.heap dA ds) (hdl : ds.length ≤ 1048700) (hn : 1 ≤ n) (hn2 : n ≤ 20) (hdb : ∀ d ∈ ds, 0 ≤ d ∧ d < 2 ^ n.toNat)
  (ret : ∀ t tk h', KeepAll s.heap h' → Q (.int (undig n.toNat ds) t) { s with heap := h', toks := tk }) :
  wpAny (model Challenge.rw_ph0098_01.row.prog w) A (call (.ref 70) [.ref dA, .int n t2]) Q E s :=
  int_spec W.wt hd0 hh LD hdl hn hn2 hdb fun t tk h' k _ _ => ret t tk h' (keepC_hot k W.h58 W.h65)
theorem dm_hot {w : World} {A : Around} {s : Shared} {a b : Int} {t1 t2 : Tok} {Q E : Value → Shared → Prop}
  (W : Wh w s.heap) (hd0 : A.depth + 29 < recursionLimit) (hh : A.handled = none) (hb : b ≠ 0) (hb1 : -1000 < b) (hb2 : b < 1000) (ha2 : Builtin.Int.intBits a ≤ 1048598)
  (ret : ∀ x tk h', KeepAll s.heap h' → s.heap.get? x = none → TI h' x [divF a b, modF a b] → Q (.ref x) { s with heap := h', toks := tk }) :
  wpAny (model Challenge.rw_ph0098_01.row.prog w) A (call (.ref 84) [.int a t1, .int b t2]) Q E s :=
  dm_spec W.wt hd0 hh hb hb1 hb2 ha2 fun x tk h' k _ _ _ hf hl => ret x tk h' (keepC_hot k W.h58 W.h65) hf hl
/-- a tail of the ledger that keeps the tables -/
def LedH (w : World) (g : Heap) (tl : List (Addr × Obj)) : Prop := ∀ h'', KeepAll (Gh g) h'' → (∀ q ∈ tl, h''.get? q.1 = some q.2) → Wh w h''
theorem Led.toH {w : World} {g h : Heap} {L : Addr} {tl : List (Addr × Obj)} (x : Led w g L h tl) (a : Hot h 58) (b : Hot h 65) : LedH w g tl := fun h'' k q => by
  obtain ⟨p1, m1, n1⟩ := x.hot (P := 58) (.head _) a
  obtain ⟨p2, m2, n2⟩ := x.hot (P := 65) (.tail _ (.head _)) b
  exact ⟨x.re h'' k q, ⟨p1, q _ m1, n1⟩, ⟨p2, q _ m2, n2⟩⟩
/-- between the library's ghost and ours -/
theorem ghost_gh {h : Heap} : KeepAll (ghostOf h [(69, 65), (62, 58)]) (Gh h) := fun b o e => by
  have e1 : (hideAll h [65, 58]).get? b = some o := e
  have hb : b ∉ [65, 58] := fun q => by rw [hideAll_none _ q] at e1; cases e1
  refine hideAll_get ts (of_hideAll _ e1) fun q => hb ?_
  simp only [List.mem_cons, List.not_mem_nil, or_false] at q ⊢
  exact q.symm
theorem gh_ghost {h : Heap} : KeepAll (Gh h) (ghostOf h [(69, 65), (62, 58)]) := fun b o e => by
  have hb : b ∉ ts := fun q => by rw [hideAll_none _ q] at e; cases e
  refine hideAll_get [65, 58] (of_hideAll _ e) fun q => hb ?_
  simp only [List.mem_cons, List.not_mem_nil, or_false] at q ⊢
  exact q.symm
theorem fr_conv {g g' h : Heap} {L : Addr} {m : Str → Option Value} (F : Fr g L h m) (k : KeepAll g' g) (hs : g'.objs.size = g.objs.size) : Fr g' L h m := ⟨F.ns, fun b o e => F.keep b o (k b o e), by rw [hs]; exact F.above⟩
theorem news_conv {g g' h : Heap} {L : Addr} {news : List (Addr × Obj)} (N : News g L h news) (k : KeepAll g' g) : News g' L h news := fun p hp => ⟨(N p hp).1, (N p hp).2.1, fresh_of k (N p hp).2.2⟩
end Mine
end
section
open PySem PySem.W PyProof.Rows PySem.Calls
namespace Mine
section
variable {prog : Program} {w : World} {A : Around} {E : Value → Shared → Prop} {env : Env} {s : Shared}
theorem push_keep (h : Heap) (o : Obj) : KeepAll h (h.push o) := fun _ _ e => Heap.get?_push_of_some _ e
theorem up1 {h : Heap} {o : Obj} {h' : Heap} (k : ∀ b o', b ∉ [h.objs.size] → (h.push o).get? b = some o' → h'.get? b = some o') : KeepAll h h' :=
  fun b o' e => k b o' (fun hb => absurd (Heap.lt_size e) (by rw [List.mem_singleton.mp hb]; exact Nat.lt_irrefl _)) (Heap.get?_push_of_some _ e)
/-- what a comprehension over a range asks of its turns and gives at its end -/
inductive RngSrc (prog : Program) (w : World) (A : Around) (env : Env) (scope : Scope) (cl : List (Str × Addr)) (x : Str) (ifs : List Expr) (elt : Expr) (p : Value → Bool) (F : Value → Value → Prop) (Q : Addr → Heap → Tok → Shared → Prop) (xv : Value) (s₁ : Shared) : Prop
  | mk (r : Addr) (a b : Int) (t u v : Tok) (n : Nat) (e : xv = .ref r) (hr : IsRange s₁.heap r a b 1 t u v) (hsm : Builtin.Range.small a b 1 = true) (hn : Builtin.Range.rangeSize a b 1 = ((n : Nat) : Int)) (hsz : n ≤ sizeLine)
      (htests : ∀ (C : Addr) (i : Nat) (t : Tok) (s₃ : Shared) (m₃ : Str → Option Value) (E' : Value → Shared → Prop), i < n → s₃.heap.Ns C m₃ → m₃ x = some (.int (a + (i : Int)) t) → KeepAll s₁.heap s₃.heap →
        wpAny (model prog w) A (forIn ifs true fun c r => if r = true then do let ok ← isTrue c (compEnvC scope cl C env) (eval c (compEnvC scope cl C env)); pure (ForInStep.yield ok) else pure (ForInStep.yield r))
          (fun ok s₄ => ok = p (.int (a + (i : Int)) t) ∧ Keeps s₃ s₄) E' s₃)
      (helt : ∀ (C : Addr) (i : Nat) (t : Tok) (s₃ : Shared) (m₃ : Str → Option Value) (E' : Value → Shared → Prop), i < n → p (.int (a + (i : Int)) t) = true → s₃.heap.Ns C m₃ → m₃ x = some (.int (a + (i : Int)) t) → KeepAll s₁.heap s₃.heap →
        wpAny (model prog w) A (eval elt (compEnvC scope cl C env)) (fun y s₄ => F (.int (a + (i : Int)) t) y ∧ Keeps s₃ s₄) E' s₃)
      (fin : ∀ D h' tk ys (vs : List Value), s₁.heap.get? D = none → h'.PlainList D ys → vs.length = n → (∀ (j : Nat) v, vs[j]? = some v → ∃ t, v = .int (a + (j : Int)) t) → Paired F (vs.filter p) ys.toList → KeepAll s₁.heap h' → Q D h' tk s₁)
inductive RngASrc (prog : Program) (w : World) (A : Around) (env : Env) (scope : Scope) (cl : List (Str × Addr)) (x y : Str) (ifs : List Expr) (elt : Expr) (p : Value → Bool) (F : Value → Value → Prop) (Q : Flow → Shared → Prop) (xv : Value) (s₁ : Shared) : Prop
  | mk (m : Str → Option Value) (r : Addr) (a b : Int) (t u v : Tok) (n : Nat) (hNs : s₁.heap.Ns env.locals m) (e : xv = .ref r) (hr : IsRange s₁.heap r a b 1 t u v) (hsm : Builtin.Range.small a b 1 = true) (hn : Builtin.Range.rangeSize a b 1 = ((n : Nat) : Int)) (hsz : n ≤ sizeLine)
      (htests : ∀ (C : Addr) (i : Nat) (t : Tok) (s₃ : Shared) (m₃ : Str → Option Value) (E' : Value → Shared → Prop), i < n → s₃.heap.Ns C m₃ → m₃ x = some (.int (a + (i : Int)) t) → KeepAll s₁.heap s₃.heap →
        wpAny (model prog w) A (forIn ifs true fun c r => if r = true then do let ok ← isTrue c (compEnvC scope cl C env) (eval c (compEnvC scope cl C env)); pure (ForInStep.yield ok) else pure (ForInStep.yield r))
          (fun ok s₄ => ok = p (.int (a + (i : Int)) t) ∧ Keeps s₃ s₄) E' s₃)
      (helt : ∀ (C : Addr) (i : Nat) (t : Tok) (s₃ : Shared) (m₃ : Str → Option Value) (E' : Value → Shared → Prop), i < n → p (.int (a + (i : Int)) t) = true → s₃.heap.Ns C m₃ → m₃ x = some (.int (a + (i : Int)) t) → KeepAll s₁.heap s₃.heap →
        wpAny (model prog w) A (eval elt (compEnvC scope cl C env)) (fun y s₄ => F (.int (a + (i : Int)) t) y ∧ Keeps s₃ s₄) E' s₃)
      (fin : ∀ D h' tk ys (vs : List Value), s₁.heap.get? D = none → h'.PlainList D ys → vs.length = n → (∀ (j : Nat) v, vs[j]? = some v → ∃ t, v = .int (a + (j : Int)) t) → Paired F (vs.filter p) ys.toList →
        h'.Ns env.locals (fun z => if z = y then some (.ref D) else m z) → KeepX env.locals s₁.heap h' → Q .next { s₁ with heap := h', toks := tk })
inductive RngOSrc (prog : Program) (w : World) (A : Around) (env : Env) (scope : Scope) (cl : List (Str × Addr)) (x : Str) (elt : Expr) (G : Value → Array Value → Prop) (Q : Value → Shared → Prop) (xv : Value) (s₁ : Shared) : Prop
  | mk (r : Addr) (a b : Int) (t u v : Tok) (n : Nat) (e : xv = .ref r) (hr : IsRange s₁.heap r a b 1 t u v) (hsm : Builtin.Range.small a b 1 = true) (hn : Builtin.Range.rangeSize a b 1 = ((n : Nat) : Int)) (hsz : n ≤ sizeLine)
      (helt : ∀ (C : Addr) (i : Nat) (t : Tok) (s₃ : Shared) (m₃ : Str → Option Value) (E' : Value → Shared → Prop), i < n → s₃.heap.Ns C m₃ → m₃ x = some (.int (a + (i : Int)) t) → KeepAll s₁.heap s₃.heap →
        wpAny (model prog w) A (eval elt (compEnvC scope cl C env)) (fun y s₄ => (∃ T its, y = .ref T ∧ s₃.heap.get? T = none ∧ s₄.heap.IsList T its ∧ G (.int (a + (i : Int)) t) its) ∧ Keeps s₃ s₄) E' s₃)
      (fin : ∀ D h' tk ys (vs : List Value), s₁.heap.get? D = none → h'.PlainList D ys → vs.length = n → (∀ (j : Nat) v, vs[j]? = some v → ∃ t, v = .int (a + (j : Int)) t) → Paired (fun v y => ∃ T its, y = .ref T ∧ h'.IsList T its ∧ G v its) vs ys.toList →
        KeepAll s₁.heap h' → Q (.ref D) { s₁ with heap := h', toks := tk })
theorem comp_rng {elt iter : Expr} {x : Str} {px : Pos} {ifs : List Expr} {scope : Scope} {cl : List (Str × Addr)} {pos : Pos} {Q : Value → Shared → Prop} (p : Value → Bool) (F : Value → Value → Prop)
    (hh : A.handled = none) (hclos : closureFor scope env = pure cl) (hcell : ∀ y ∈ scope.names, y.2 ≠ .cell) (hkind : scope.kind = .function)
    (hnames : ∀ y ∈ scope.names, y.2 = .local → scope.names.lookup y.1 = some .local) (hx : scope.names.lookup x = some .local)
    (h : wpAny (model prog w) A (eval iter env) (RngSrc prog w A env scope cl x ifs elt p F fun D h' tk s₁ => Q (.ref D) { s₁ with heap := h', toks := tk }) E s)
    (hs : ∀ x, foldedSetIterable iter env x = pure x := by intro _; rfl) :
    wpAny (model prog w) A (eval (.ListComp elt [⟨.Name x px, iter, ifs, 0⟩] scope pos) env) Q E s := by
  refine wpAny_ListComp_free p F hclos hcell hkind hnames hx (wpAny_mono h (fun xv s₁ h₁ => ?_) fun _ _ e => e) hs
  obtain ⟨r, a, b, t, u, v, n, rfl, hr, hsm, hn, hsz, htests, helt, hQ⟩ := h₁
  refine wpAny_pyIter_range hr hsm ?_
  have W := (Walks.range (prog := prog) (w := w) hh s₁.heap.objs.size a 1 n).bound
  refine ⟨_, _, _, _, _, _, rfl, W, hsz, ?_, ?_, ⟨?_, ?_⟩, ?_⟩
  · show IsRangeIter _ _ _ _ _; rw [hn]; simpa using Heap.get?_push_size _ rfl
  · intro b hb
    rw [List.mem_singleton.mp hb, Heap.size_push]; exact Nat.lt_succ_self _
  · rintro C i v s₃ m₃ E' _ ⟨hi, t, rfl⟩ hn hm hk _
    rw [Int.mul_one] at hm ⊢
    exact htests C i t s₃ m₃ E' hi hn hm (up1 hk)
  · rintro C i v s₃ m₃ E' _ ⟨hi, t, rfl⟩ hp hn hm hk _
    rw [Int.mul_one] at hm hp ⊢
    exact helt C i t s₃ m₃ E' hi hp hn hm (up1 hk)
  · intro D h' tk ys vs hD _ hpl hlen hP hF hk
    refine hQ D h' tk ys vs ?_ hpl hlen (fun j v hv => ?_) hF (up1 hk)
    · exact fresh_of (push_keep _ _) hD
    · obtain ⟨_, t, e⟩ := hP j v hv
      exact ⟨t, by rw [e, Int.mul_one]⟩
/-- the same for `y = [..]`, y a local -/
theorem comp_rngA {elt iter : Expr} {x y : Str} {px py : Pos} {ifs : List Expr} {scope : Scope} {cl : List (Str × Addr)} {pos spos : Pos} {Q : Flow → Shared → Prop} (p : Value → Bool) (F : Value → Value → Prop)
    (hh : A.handled = none)
    (hsw : swapsWith (.ListComp elt [⟨.Name x px, iter, ifs, 0⟩] scope pos) (some (.Name y py)) spos.line env = pure true)
    (hclos : closureFor scope env = pure cl) (hcell : ∀ y ∈ scope.names, y.2 ≠ .cell) (hkind : scope.kind = .function)
    (hnames : ∀ y ∈ scope.names, y.2 = .local → scope.names.lookup y.1 = some .local) (hx : scope.names.lookup x = some .local)
    (hy : env.kindOf y = some .local) (hp : (env.scope.kind == .class || (env.scope.kind == .module && env.locals != env.globals)) = false)
    (h : wpAny (model prog w) A (eval iter env) (RngASrc prog w A env scope cl x y ifs elt p F Q) E s)
    (hs : ∀ x, foldedSetIterable iter env x = pure x := by intro _; rfl) :
    wpAny (model prog w) A (exec (.Assign [.Name y py] (.ListComp elt [⟨.Name x px, iter, ifs, 0⟩] scope pos) spos) env) Q E s := by
  refine wpAny_Assign_ListComp_free p F hsw hclos hcell hkind hnames hx hy hp (wpAny_mono h (fun xv s₁ h₁ => ?_) fun _ _ e => e) hs
  obtain ⟨m, r, a, b, t, u, v, n, hNs, rfl, hr, hsm, hn, hsz, htests, helt, hQ⟩ := h₁
  refine wpAny_pyIter_range hr hsm ?_
  have W := (Walks.range (prog := prog) (w := w) hh s₁.heap.objs.size a 1 n).bound
  refine ⟨_, _, _, _, _, _, m, rfl, W, hsz, ?_, ?_, ?_, hNs.at' fun o e => push_keep _ _ _ _ e, ⟨?_, ?_⟩, ?_⟩
  · show IsRangeIter _ _ _ _ _; rw [hn]; simpa using Heap.get?_push_size _ rfl
  · intro b hb
    rw [List.mem_singleton.mp hb, Heap.size_push]; exact Nat.lt_succ_self _
  · intro hb
    exact absurd hNs.lt (by rw [List.mem_singleton.mp hb]; exact Nat.lt_irrefl _)
  · rintro C i v s₃ m₃ E' _ ⟨hi, t, rfl⟩ hn hm hk _
    rw [Int.mul_one] at hm ⊢
    exact htests C i t s₃ m₃ E' hi hn hm (up1 hk)
  · rintro C i v s₃ m₃ E' _ ⟨hi, t, rfl⟩ hp hn hm hk _
    rw [Int.mul_one] at hm hp ⊢
    exact helt C i t s₃ m₃ E' hi hp hn hm (up1 hk)
  · intro D h' tk ys vs hD _ hpl hlen hP hF hNs' hk
    refine hQ D h' tk ys vs (fresh_of (push_keep _ _) hD) hpl hlen (fun j v hv => ?_) hF hNs' fun b o hb e => hk b o hb (fun q => absurd (Heap.lt_size e) (by rw [List.mem_singleton.mp q]; exact Nat.lt_irrefl _)) (push_keep _ _ _ _ e)
    obtain ⟨_, t, e⟩ := hP j v hv
    exact ⟨t, by rw [e, Int.mul_one]⟩
/-- a comprehension over a range whose elements are new lists -/
theorem comp_rngO {elt iter : Expr} {x : Str} {px : Pos} {scope : Scope} {cl : List (Str × Addr)} {pos : Pos} {Q : Value → Shared → Prop} (G : Value → Array Value → Prop)
    (hh : A.handled = none) (hclos : closureFor scope env = pure cl) (hcell : ∀ y ∈ scope.names, y.2 ≠ .cell) (hkind : scope.kind = .function)
    (hnames : ∀ y ∈ scope.names, y.2 = .local → scope.names.lookup y.1 = some .local) (hx : scope.names.lookup x = some .local)
    (h : wpAny (model prog w) A (eval iter env) (RngOSrc prog w A env scope cl x elt G Q) E s)
    (hs : ∀ x, foldedSetIterable iter env x = pure x := by intro _; rfl) :
    wpAny (model prog w) A (eval (.ListComp elt [⟨.Name x px, iter, [], 0⟩] scope pos) env) Q E s := by
  refine wpAny_ListComp_freeO (fun _ => true) G hclos hcell hkind hnames hx (wpAny_mono h (fun xv s₁ h₁ => ?_) fun _ _ e => e) hs
  obtain ⟨r, a, b, t, u, v, n, rfl, hr, hsm, hn, hsz, helt, hQ⟩ := h₁
  refine wpAny_pyIter_range hr hsm ?_
  have W := (Walks.range (prog := prog) (w := w) hh s₁.heap.objs.size a 1 n).bound
  refine ⟨_, _, _, _, _, _, rfl, W, hsz, ?_, ?_, ?_, ⟨?_, ?_⟩, ?_⟩
  · intro i h st b hb
    rw [List.mem_singleton.mp hb]; exact ⟨_, st⟩
  · show IsRangeIter _ _ _ _ _; rw [hn]; simpa using Heap.get?_push_size _ rfl
  · intro b hb
    rw [List.mem_singleton.mp hb, Heap.size_push]; exact Nat.lt_succ_self _
  · intro C i v s₃ m₃ E' _ _ _ _ _ _
    exact wpAny_tests_nil ⟨rfl, _, _, rfl, fun _ _ e => e⟩
  · rintro C i v s₃ m₃ E' _ ⟨hi, t, rfl⟩ hp hn hm hk _
    rw [Int.mul_one] at hm ⊢
    exact helt C i t s₃ m₃ E' hi hn hm (up1 hk)
  · intro D h' tk ys vs hD _ hpl hlen hP hF _ _ hk
    refine hQ D h' tk ys vs (fresh_of (push_keep _ _) hD) hpl hlen (fun j v hv => ?_) ?_ (up1 hk)
    · obtain ⟨_, t, e⟩ := hP j v hv
      exact ⟨t, by rw [e, Int.mul_one]⟩
    · rw [show List.filter (fun _ => true) vs = vs from by simp] at hF
      exact hF.mono fun _ _ hy => by
        obtain ⟨T, its, rfl, _, hl, hG⟩ := hy
        exact ⟨T, its, rfl, hl, hG⟩
end
end Mine
end
section
open PySem PySem.W PyProof.Rows PySem.Calls
namespace Mine
inductive PairSrc (prog : Program) (w : World) (A : Around) (env : Env) (scope : Scope) (cl : List (Str × Addr)) (x x₂ : Str) (elt : Expr) (Pa : Nat → Value → Value → Prop) (F : Nat → Value → Prop) (Q : Value → Shared → Prop) (it : Value) (s₂ : Shared) : Prop
  | mk (I : Addr) (fp wr : List Addr) (n : Nat) (Pt : Nat → Array Value → Prop) (St : Nat → Heap → Prop) (Mid : Nat → Addr → Heap → Prop) (e : it = .ref I) (W : WalksU prog w A I fp wr n Pt St Mid) (hPt : ∀ i vals, Pt i vals → ∃ a b, vals = #[a, b] ∧ Pa i a b) (hsz : n ≤ sizeLine) (hst : St 0 s₂.heap) (hfp : ∀ b ∈ fp, b < s₂.heap.objs.size)
      (helt : ∀ (C : Addr) (i : Nat) (a b : Value) (s₃ : Shared) (m₃ : Str → Option Value) (E' : Value → Shared → Prop), i < n → Pa i a b → s₃.heap.Ns C m₃ → m₃ x = some a → m₃ x₂ = some b →
        wpAny (model prog w) A (eval elt (compEnvC scope cl C env)) (fun y s₄ => F i y ∧ Keeps s₃ s₄) E' s₃)
      (fin : ∀ D h' tk (ys : List Value), s₂.heap.get? D = none → h'.PlainList D ys.toArray → ys.length = n → (∀ (j : Nat) y, ys[j]? = some y → F j y) → (∀ b o, b ∉ wr → s₂.heap.get? b = some o → h'.get? b = some o) → Q (.ref D) { s₂ with heap := h', toks := tk })
inductive PairI (s₂ : Shared) (n : Nat) (F : Nat → Value → Prop) (St : Nat → Heap → Prop) (C D : Addr) (wr : List Addr) (k : Nat) (s' : Shared) : Prop
  | mk (h' : Heap) (tk i : Nat) (ys : List Value) (m' : Str → Option Value) (e : s' = { s₂ with heap := h', toks := tk }) (hi : i ≤ n) (hk : k = n + 1 - i) (hl : ys.length = i) (hF : ∀ (j : Nat) y, ys[j]? = some y → F j y) (st : St i h') (hn : h'.Ns C m') (hD : h'.PlainList D (List.toArray ys))
        (hkp : ∀ b o, b ∉ wr → s₂.heap.get? b = some o → h'.get? b = some o)
section
variable {prog : Program} {w : World} {A : Around} {E : Value → Shared → Prop} {env : Env} {s : Shared}
/-- a comprehension that unpacks pairs from an iterator that makes them -/
theorem comp_pairU {elt iter : Expr} {x x₂ : Str} {px px₂ tp : Pos} {tk : Nat} {scope : Scope} {cl : List (Str × Addr)} {pos : Pos} {Q : Value → Shared → Prop} (Pa : Nat → Value → Value → Prop) (F : Nat → Value → Prop)
    (hh : A.handled = none) (hclos : closureFor scope env = pure cl) (hcell : ∀ y ∈ scope.names, y.2 ≠ .cell) (hkind : scope.kind = .function)
    (hnames : ∀ y ∈ scope.names, y.2 = .local → scope.names.lookup y.1 = some .local) (hx : scope.names.lookup x = some .local) (hx₂ : scope.names.lookup x₂ = some .local) (hxx : x ≠ x₂)
    (h : wpAny (model prog w) A (eval iter env) (fun xv s₁ => wpAny (model prog w) A (pyIter xv) (PairSrc prog w A env scope cl x x₂ elt Pa F Q) E s₁) E s)
    (hs : ∀ x, foldedSetIterable iter env x = pure x := by intro _; rfl) :
    wpAny (model prog w) A (eval (.ListComp elt [⟨.Tuple [.Name x px, .Name x₂ px₂] tk tp, iter, [], 0⟩] scope pos) env) Q E s := by
  rw [eval_ListComp]
  refine wpAny_comprehension_free (use := none) rfl hs hclos hkind hnames (wpAny_mono h (fun xv s₁ h₁ => wpAny_mono h₁ (fun it s₂ h₂ => ?_) fun _ _ e => e) fun _ _ e => e)
  obtain ⟨I, fp, wr, n, Pt, St, Mid, rfl, W, hPt, hsz, hst, hfp, helt, fin⟩ := h₂
  refine wpAny_newObj_type (wpAny_newFunctionEnv hcell (by intro y hy; simp at hy) (fun h₁ hns₁ hsb₁ => ?_) hkind)
  dsimp only at hns₁ hsb₁ ⊢
  generalize hH2 : s₂.heap.push { cls := .type "list", dict := none, data := .seq ([] : List Value).toArray } = H2 at hns₁ hsb₁ ⊢
  have hC : H2.objs.size = s₂.heap.objs.size + 1 := by rw [← hH2, Heap.size_push]
  have hDC : s₂.heap.objs.size ≠ H2.objs.size := by rw [hC]; exact Nat.ne_of_lt (Nat.lt_succ_self _)
  have below : ∀ b, b < s₂.heap.objs.size → b ≠ H2.objs.size ∧ b ≠ s₂.heap.objs.size := fun b hb => ⟨by rw [hC]; exact Nat.ne_of_lt (Nat.lt_succ_of_lt hb), Nat.ne_of_lt hb⟩
  have hDf : s₂.heap.objs.size ∉ fp := fun hm => Nat.lt_irrefl _ (hfp _ hm)
  have hCf : H2.objs.size ∉ fp := fun hm => by have := hfp _ hm; rw [hC] at this; exact Nat.lt_irrefl _ (Nat.lt_of_succ_lt this)
  have hDw : s₂.heap.objs.size ∉ wr := fun q => hDf (W.sub _ q)
  have hCw : H2.objs.size ∉ wr := fun q => hCf (W.sub _ q)
  have old : ∀ b o, s₂.heap.get? b = some o → h₁.get? b = some o := fun b o e => hsb₁.extBut b o (below b (Heap.lt_size e)).1 (Heap.get?_push_of_some _ (hH2 ▸ Heap.get?_push_of_some _ e))
  have hacc : h₁.PlainList s₂.heap.objs.size ([] : List Value).toArray := ⟨_, hsb₁.extBut _ _ hDC (Heap.get?_push_of_some _ (hH2 ▸ Heap.get?_push_size _ rfl))⟩
  have hst₁ : St 0 h₁ := W.frame _ _ _ hst fun b _ o e => old b o e
  have fresh : ∀ a, s₂.heap.objs.size ≤ a → s₂.heap.get? a = none := fun a ha => by
    cases e : s₂.heap.get? a with
    | none => rfl
    | some o' => exact absurd (Heap.lt_size e) (Nat.not_lt.mpr ha)
  have loop : ∀ s₃ : Shared, s₃ = { s₂ with heap := h₁, toks := s₂.toks + ([] : List (Str × Value)).length } →
      codeAny (model prog w) A (.compLoop (.ListComp elt [⟨.Tuple [.Name x px, .Name x₂ px₂] tk tp, iter, [], 0⟩] scope pos) 0 (.ref I) (.ref s₂.heap.objs.size) (compEnvC scope cl H2.objs.size env))
        (compPost (model prog w) A E none Q (.ref s₂.heap.objs.size) H2.objs.size) s₃ := by
    rintro s₃ rfl
    refine LCp.codeAny_compLoop_pair
      (PairI s₂ n F St H2.objs.size s₂.heap.objs.size wr) ?_ (n + 1)
      ⟨h₁, _, 0, [], _, rfl, Nat.zero_le _, rfl, rfl, by simp, hst₁, hns₁, hacc, fun b o _ e => old b o e⟩
    rintro k s' ⟨h', tk, i, ys, m', rfl, hi, rfl, hyl, hyF, hst', hn', hD', hk'⟩
    by_cases hlt : i < n
    · refine W.item i _ _ _ hlt hst' fun T vals h₂ tk₂ hPv hT hm hk₂ => ?_
      obtain ⟨a, b, rfl, hPab⟩ := hPt i vals hPv
      have hTw := W.apart _ _ _ hm
      refine W.go _ _ _ i T _ _ _ hm fun h₃ hst₃ hk₃ => ?_
      dsimp only at hk₃ ⊢
      have hT3 : h₃.IsTuple T #[a, b] := hT.at fun o e => hk₃ _ _ hTw e
      have hn3 : h₃.Ns H2.objs.size m' := (hn'.at' fun o e => hk₂ _ o hCw e).at' fun o e => hk₃ _ o hCw e
      have hD3 : h₃.PlainList s₂.heap.objs.size ys.toArray := let ⟨c, e⟩ := hD'; ⟨c, hk₃ _ _ hDw (hk₂ _ _ hDw e)⟩
      have kk3 : ∀ b o, b ∉ wr → s₂.heap.get? b = some o → h₃.get? b = some o := fun b o hb e => hk₃ _ _ hb (hk₂ _ _ hb (hk' b o hb e))
      refine assign_Tuple_tuple hh hT3 rfl rfl fun h₅ he => ?_
      have he' : ∀ b o, h₃.get? b = some o → h₅.get? b = some o := fun b o e => he b o (Nat.ne_of_lt (Heap.lt_size e)) e
      refine assignInOrder_cons (wpAny_assign_Name (wpAny_storeName_local (lookup_relabel_local hx) (hn3.at' fun o e => he' _ o e) (fun h₆ hn₆ hs₆ => ?_) (by simp [compEnvC, relabel, hkind])))
      refine assignInOrder_cons (wpAny_assign_Name (wpAny_storeName_local (lookup_relabel_local hx₂) hn₆ (fun h₇ hn₇ hs₇ => ?_) (by simp [compEnvC, relabel, hkind])))
      refine assignInOrder_nil ?_
      have old7 : ∀ b o, b ≠ H2.objs.size → h₃.get? b = some o → h₇.get? b = some o := fun b o hb e => hs₇.extBut b o hb (hs₆.extBut b o hb (he' b o e))
      have hst₇ : St (i + 1) h₇ := W.frame _ _ _ hst₃ fun b hb o e => old7 b o (fun q => hCf (by rw [← q]; exact hb)) e
      refine wpAny_mono (helt H2.objs.size i a b _ _ _ hlt hPab hn₇ (by simp [hxx]) (by simp)) (fun y s₄ h₄ => ?_) fun _ _ e => e
      obtain ⟨hFy, h₈, tk₈, rfl, hk₈⟩ := h₄
      have hD8 : h₈.PlainList s₂.heap.objs.size ys.toArray := let ⟨c, e⟩ := hD3; ⟨c, hk₈ _ _ (old7 _ _ hDC e)⟩
      refine wpAny_list_append_plain (hsz := by rw [List.size_toArray, hyl]; exact Nat.le_trans hi hsz) hD8 (fun h₉ hD₉ hs₉ => ?_)
      refine ⟨n + 1 - (i + 1), loop_lt hlt, h₉, tk₈, i + 1, ys ++ [y], _, rfl, hlt, rfl, by rw [List.length_append, List.length_singleton, hyl], ?_, ?_, (hn₇.at' fun o e => hk₈ _ o e).sameBut hs₉ (Ne.symm hDC), ?_, ?_⟩
      · intro j z hz
        by_cases hj : j < ys.length
        · rw [List.getElem?_append_left hj] at hz; exact hyF j z hz
        · have hje : j = i := by
            have := (List.getElem?_eq_some_iff.mp hz).1
            simp at this; (with_reducible exact o_anti2 (by assumption) (by assumption) (by assumption))
          subst hje
          rw [← hyl] at hz
          simp at hz
          subst hz
          exact hFy
      · exact W.frame _ _ _ (W.frame _ _ _ hst₇ fun b _ o e => hk₈ b o e) fun b hb o e => hs₉.extBut b o (fun q => hDf (q ▸ hb)) e
      · rw [show (ys ++ [y]).toArray = ys.toArray.push y from by simp]; exact hD₉
      · intro b o hb e
        exact hs₉.extBut b o (fun q => by rw [q, fresh _ (Nat.le_refl _)] at e; cases e) (hk₈ _ _ (old7 b o (fun q => by rw [q, fresh _ (by rw [hC]; exact Nat.le_succ _)] at e; cases e) (kk3 b o hb e)))
    · obtain rfl : i = n := Nat.le_antisymm hi (Nat.not_lt.mp hlt)
      refine W.done _ _ _ hst' fun h₂ tk₂ hk₂ => ?_
      refine ⟨m', hn'.at' fun o e => hk₂ _ o hCw e, fun h'' hs'' => fin s₂.heap.objs.size h'' tk₂ ys (fresh _ (Nat.le_refl _)) ?_ hyl hyF fun b o hb e => ?_⟩
      · obtain ⟨c, e⟩ := hD'
        exact ⟨c, hs''.extBut _ _ hDC (hk₂ _ _ hDw e)⟩
      · exact hs''.extBut b o (fun q => by rw [q, fresh _ (by rw [hC]; exact Nat.le_succ _)] at e; cases e) (hk₂ _ _ hb (hk' b o hb e))
  exact codeAny_compStart_list (loop _ rfl) (W.self 0 _ _ _ hst₁ (loop _ rfl))
end
end Mine
end
section
open PySem PySem.W PyProof.Rows PySem.Calls
namespace Mine
inductive TwoSrc (prog : Program) (w : World) (A : Around) (env : Env) (scope : Scope) (cl : List (Str × Addr)) (x y : Str) (i2 : Expr) (ifs : List Expr) (Q : Value → Shared → Prop) (xv : Value) (s₁ : Shared) : Prop
  | mk (l : Addr) (items : Array Value) (e : xv = .ref l) (hl : s₁.heap.IsList l items) (hsz : items.size ≤ sizeLine)
      (hit2 : ∀ (C : Addr) (s₃ : Shared) (m₃ : Str → Option Value) (E' : Value → Shared → Prop) (Q' : Value → Shared → Prop), s₃.heap.Ns C m₃ → KeepAll s₁.heap s₃.heap → Q' (.ref l) s₃ → wpAny (model prog w) A (eval i2 (compEnvC scope cl C env)) Q' E' s₃)
      (htests : ∀ (C : Addr) (v v2 : Value) (s₃ : Shared) (m₃ : Str → Option Value) (E' : Value → Shared → Prop), v ∈ items → v2 ∈ items → s₃.heap.Ns C m₃ → m₃ x = some v → m₃ y = some v2 → KeepAll s₁.heap s₃.heap →
        wpAny (model prog w) A (forIn ifs true fun c r => if r = true then do let ok ← isTrue c (compEnvC scope cl C env) (eval c (compEnvC scope cl C env)); pure (ForInStep.yield ok) else pure (ForInStep.yield r))
          (fun ok s₄ => ok = false ∧ Keeps s₃ s₄) E' s₃)
      (fin : ∀ D h' tk, s₁.heap.get? D = none → h'.PlainList D #[] → KeepAll s₁.heap h' → Q (.ref D) { s₁ with heap := h', toks := tk })
inductive InnerI (s : Shared) (I L l : Addr) (items : Array Value) (x : Str) (v : Value) (k : Nat) (s' : Shared) : Prop
  | mk (h' : Heap) (tk : Nat) (m' : Str → Option Value) (i : Nat) (e : s' = { s with heap := h', toks := tk }) (hit : h'.IsListIter I l i) (hl : h'.IsList l items) (hn : h'.Ns L m') (hm : m' x = some v) (hi : i ≤ items.size) (hk : k = items.size + 1 - i)
      (hkp : ∀ b o, b ≠ L → b ≠ I → s.heap.get? b = some o → h'.get? b = some o)
inductive OuterI (s₁ : Shared) (I1 l C D : Addr) (items : Array Value) (k : Nat) (s' : Shared) : Prop
  | mk (h' : Heap) (tk : Nat) (m' : Str → Option Value) (i : Nat) (e : s' = { s₁ with heap := h', toks := tk }) (hit : h'.IsListIter I1 l i) (hn : h'.Ns C m') (hD : h'.PlainList D #[]) (hi : i ≤ items.size) (hk : k = items.size + 1 - i) (hkp : KeepAll s₁.heap h')
section
variable {prog : Program} {w : World} {A : Around} {E : Value → Shared → Prop} {R : Result → Shared → Prop} {env : Env} {s : Shared}
variable {elt i1 i2 t1 t2 : Expr} {ifs : List Expr} {scope : Scope} {pos : Pos} {it acc : Value}
theorem compTurn2_0 : compTurn (.ListComp elt [⟨t1, i1, [], 0⟩, ⟨t2, i2, ifs, 0⟩] scope pos) 0 it acc env = (do
      standAt i1.pos
      match ← pyNext it with
      | none => pure (.done .next)
      | some v =>
        letOwnedTupleGo t1 it v
        assign t1 env v
        let mut ok := true
        for c in ([] : List Expr) do
          if ok then ok ← isTrue c env (eval c env)
        if ok then do
          let x ← eval i2 env
          standAt i2.pos
          let x ← foldedSetIterable i2 env x
          let it2 ← holding [x] (pyIter x)
          let _ ← runOwn (.compStart (.ListComp elt [⟨t1, i1, [], 0⟩, ⟨t2, i2, ifs, 0⟩] scope pos) 1 it2 acc env) env
          again (.compLoop (.ListComp elt [⟨t1, i1, [], 0⟩, ⟨t2, i2, ifs, 0⟩] scope pos) 0 it acc env)
        else again (.compLoop (.ListComp elt [⟨t1, i1, [], 0⟩, ⟨t2, i2, ifs, 0⟩] scope pos) 0 it acc env)) := by rfl
theorem compTurn2_1 : compTurn (.ListComp elt [⟨t1, i1, [], 0⟩, ⟨t2, i2, ifs, 0⟩] scope pos) 1 it acc env = (do
      standAt i2.pos
      match ← pyNext it with
      | none => pure (.done .next)
      | some v =>
        letOwnedTupleGo t2 it v
        assign t2 env v
        let mut ok := true
        for c in ifs do
          if ok then ok ← isTrue c env (eval c env)
        if ok then
          (do let _ ← call (.builtin "list.append") [acc, ← eval elt env])
        again (.compLoop (.ListComp elt [⟨t1, i1, [], 0⟩, ⟨t2, i2, ifs, 0⟩] scope pos) 1 it acc env)) := by rfl

theorem compStart2_1 {x y : Str} {px py : Pos}
    (h0 : codeAny (model prog w) A (.compLoop (.ListComp elt [⟨.Name x px, i1, [], 0⟩, ⟨.Name y py, i2, ifs, 0⟩] scope pos) 1 it acc env) R s)
    (h : wpAny (model prog w) A (pyIter it) (fun it' s' => codeAny (model prog w) A (.compLoop (.ListComp elt [⟨.Name x px, i1, [], 0⟩, ⟨.Name y py, i2, ifs, 0⟩] scope pos) 1 it' acc env) R s')
      (notedBy (model prog w) A env fun x s' => R (.error x) s') s) :
    codeAny (model prog w) A (.compStart (.ListComp elt [⟨.Name x px, i1, [], 0⟩, ⟨.Name y py, i2, ifs, 0⟩] scope pos) 1 it acc env) R s := by
  refine codeAny_of_tree ?_
  show wpAny _ _ ((compStart (.ListComp elt [⟨.Name x px, i1, [], 0⟩, ⟨.Name y py, i2, ifs, 0⟩] scope pos) 1 it acc env).onRaise (fun x => do noteFrame x env; standAt theWindowsPlace)) _ _ s
  refine wpAny_notedAt ?_
  unfold compStart
  show wpAny _ _ (ask >>= _) _ _ s
  refine wpAny_bind (wpAny_askSetting (wpAny_ite ?_))
  split
  · first
      | exact wpAny_bind (wpAny_pure (wpAny_pure (And.intro rfl h0)))
      | exact wpAny_pure (And.intro rfl h0)
  · first
      | exact wpAny_bind (wpAny_rule (wpAny_bind (wpAny_standAt (wpAny_bind (wpAny_mono h (fun it' s' h' => wpAny_pure (And.intro rfl h')) fun _ _ x => x)))))
      | (refine wpAny_bind (wpAny_rule ?_); show wpAny _ _ (standAt i2.pos >>= _) _ _ s; exact wpAny_bind (wpAny_standAt (wpAny_bind (wpAny_mono h (fun it' s' h' => wpAny_pure (And.intro rfl h')) fun _ _ x => x))))

/-- the inner clause, no pair passing its test -/
theorem loop2_1 {x y : Str} {px py : Pos} {I l : Addr} {items : Array Value} {m : Str → Option Value} {v : Value}
    (hh : A.handled = none) (hy : env.kindOf y = some .local) (hp : (env.scope.kind == .class || (env.scope.kind == .module && env.locals != env.globals)) = false)
    (hIC : I ≠ env.locals) (haI : l ≠ I) (haC : l ≠ env.locals) (hit : s.heap.IsListIter I l 0) (hl : s.heap.IsList l items) (hn : s.heap.Ns env.locals m) (hmx : m x = some v) (hxy : x ≠ y)
    (htests : ∀ v2 s₂ m₂ (E' : Value → Shared → Prop), v2 ∈ items → s₂.heap.Ns env.locals m₂ → m₂ x = some v → m₂ y = some v2 → (∀ b o, b ≠ env.locals → b ≠ I → s.heap.get? b = some o → s₂.heap.get? b = some o) →
      wpAny (model prog w) A (forIn ifs true fun c r => if r = true then do let ok ← isTrue c env (eval c env); pure (ForInStep.yield ok) else pure (ForInStep.yield r))
        (fun ok s₃ => ok = false ∧ Keeps s₂ s₃) E' s₂)
    (hR : ∀ h' tk m', h'.Ns env.locals m' → (∀ b o, b ≠ env.locals → b ≠ I → s.heap.get? b = some o → h'.get? b = some o) → R (.ok .next) { s with heap := h', toks := tk }) :
    codeAny (model prog w) A (.compLoop (.ListComp elt [⟨.Name x px, i1, [], 0⟩, ⟨.Name y py, i2, ifs, 0⟩] scope pos) 1 (.ref I) acc env) R s := by
  refine codeAny_loop rfl
    (InnerI s I env.locals l items x v) ?_ (items.size + 1)
    ⟨s.heap, s.toks, m, 0, rfl, hit, hl, hn, hmx, Nat.zero_le _, rfl, fun _ _ _ _ e => e⟩
  rintro k s' ⟨H, tk, m', i, rfl, hit', hl', hn', hmx', hi, rfl, hk⟩
  show wpAny _ A ((compTurn (.ListComp elt [⟨.Name x px, i1, [], 0⟩, ⟨.Name y py, i2, ifs, 0⟩] scope pos) 1 (.ref I) acc env).onRaise (fun x => do noteFrame x env; theTreesLotGoes x)) _ _ _
  refine wpAny_noted ?_
  rw [compTurn2_1]
  refine wpAny_bind (wpAny_standAt (wpAny_bind ?_))
  cases hv : items[i]? with
  | none =>
    refine wpAny_pyNext_list_end hh hit' hl' hv fun h₁ he₁ => ?_
    exact wpAny_pure (hR h₁ tk m' (hn'.extBut he₁ (Ne.symm hIC)) fun b o hbC hbI e => he₁ b o hbI (hk b o hbC hbI e))
  | some v2 =>
    have hlt : i < items.size := (Array.getElem?_eq_some_iff.mp hv).1
    have hmem : v2 ∈ items := by obtain ⟨h1, rfl⟩ := Array.getElem?_eq_some_iff.mp hv; exact Array.getElem_mem h1
    refine wpAny_pyNext_list_item hit' hl' hv fun h₁ hit₁ hs₁ => ?_
    refine wpAny_bind (wpAny_of_eq (show letOwnedTupleGo (.Name y py) (.ref I) v2 = pure () from rfl) ?_)
    refine wpAny_bind (wpAny_assign_Name (wpAny_storeName_local hy (hn'.sameBut hs₁ (Ne.symm hIC)) (fun h₂ hn₂ hs₂ => ?_) hp))
    refine wpAny_bind (wpAny_mono (htests v2 _ _ _ hmem hn₂ (by simp [hxy, hmx']) (by simp) fun b o hbC hbI e => hs₂.extBut b o hbC (hs₁.extBut b o hbI (hk b o hbC hbI e))) (fun ok s₃ h₃ => ?_) fun _ _ e => e)
    obtain ⟨rfl, h₃, tk₃, rfl, hk₃⟩ := h₃
    have up₃ : ∀ b o, b ≠ env.locals → b ≠ I → H.get? b = some o → h₃.get? b = some o := fun b o hbC hbI e => hk₃ b o (hs₂.extBut b o hbC (hs₁.extBut b o hbI e))
    refine wpAny_pure ⟨rfl, items.size + 1 - (i + 1), loop_lt hlt, h₃, tk₃, _, i + 1, rfl, (hit₁.extBut hs₂.extBut hIC).at fun o e => hk₃ _ o e, hl'.at fun o e => up₃ l o haC haI e, hn₂.keeps hk₃, by simp [hxy, hmx'], hlt, rfl, fun b o hbC hbI e => up₃ b o hbC hbI (hk b o hbC hbI e)⟩

/-- a comprehension with two clauses over one list, no pair passing its test -/
theorem comp2_none {x y : Str} {px py : Pos} {cl : List (Str × Addr)} {Q : Value → Shared → Prop}
    (hh : A.handled = none) (hclos : closureFor scope env = pure cl) (hcell : ∀ y ∈ scope.names, y.2 ≠ .cell) (hkind : scope.kind = .function)
    (hnames : ∀ y ∈ scope.names, y.2 = .local → scope.names.lookup y.1 = some .local) (hx : scope.names.lookup x = some .local) (hy : scope.names.lookup y = some .local) (hxy : x ≠ y)
    (h : wpAny (model prog w) A (eval i1 env) (TwoSrc prog w A env scope cl x y i2 ifs Q) E s)
    (hs : ∀ x, foldedSetIterable i1 env x = pure x := by intro _; rfl) (hs2 : ∀ (env : Env) x, foldedSetIterable i2 env x = pure x := by intro _ _; rfl) :
    wpAny (model prog w) A (eval (.ListComp elt [⟨.Name x px, i1, [], 0⟩, ⟨.Name y py, i2, ifs, 0⟩] scope pos) env) Q E s := by
  rw [eval_ListComp]
  refine wpAny_comprehension_free (use := none) rfl hs hclos hkind hnames (wpAny_mono h (fun xv s₁ h₁ => ?_) fun _ _ e => e)
  obtain ⟨l, items, rfl, hl0, hsz, hit2, htests, fin⟩ := h₁
  have hlt0 : l < s₁.heap.objs.size := by obtain ⟨_, e, _⟩ := hl0; exact Heap.lt_size e
  refine wpAny_pyIter_list hl0 ?_
  have hpk : KeepAll s₁.heap (s₁.heap.push { cls := .type "list_iterator", data := .fields #[.ref l, .int 0 0] }) := push_keep _ _
  have hitI : (s₁.heap.push { cls := .type "list_iterator", data := .fields #[.ref l, .int 0 0] }).IsListIter s₁.heap.objs.size l 0 := ⟨_, Heap.get?_push_size _ rfl, rfl, rfl⟩
  have hI1s : s₁.heap.objs.size < (s₁.heap.push { cls := .type "list_iterator", data := .fields #[.ref l, .int 0 0] }).objs.size := by rw [Heap.size_push]; exact Nat.lt_succ_self _
  generalize hHp : s₁.heap.push { cls := .type "list_iterator", data := .fields #[.ref l, .int 0 0] } = Hp at hpk hitI hI1s ⊢
  generalize hI1 : s₁.heap.objs.size = I1 at hitI hI1s ⊢
  have hlI : l ≠ I1 := by rw [← hI1]; exact Nat.ne_of_lt hlt0
  refine wpAny_newObj_type (wpAny_newFunctionEnv hcell (by intro y hy; simp at hy) (fun h₁ hns₁ hsb₁ => ?_) hkind)
  dsimp only at hns₁ hsb₁ ⊢
  generalize hH2 : Hp.push { cls := .type "list", dict := none, data := .seq ([] : List Value).toArray } = H2 at hns₁ hsb₁ ⊢
  have hC : H2.objs.size = Hp.objs.size + 1 := by rw [← hH2, Heap.size_push]
  have hDC : Hp.objs.size ≠ H2.objs.size := by rw [hC]; exact Nat.ne_of_lt (Nat.lt_succ_self _)
  have below : ∀ b, b < Hp.objs.size → b ≠ H2.objs.size ∧ b ≠ Hp.objs.size := fun b hb => ⟨by rw [hC]; exact Nat.ne_of_lt (Nat.lt_succ_of_lt hb), Nat.ne_of_lt hb⟩
  have old : KeepAll Hp h₁ := fun b o e => hsb₁.extBut b o (below b (Heap.lt_size e)).1 (Heap.get?_push_of_some _ (hH2 ▸ Heap.get?_push_of_some _ e))
  have hacc : h₁.PlainList Hp.objs.size #[] := ⟨_, hsb₁.extBut _ _ hDC (Heap.get?_push_of_some _ (hH2 ▸ Heap.get?_push_size _ rfl))⟩
  have hfresh : ∀ a, Hp.objs.size ≤ a → s₁.heap.get? a = none := fun a ha => by
    cases e : s₁.heap.get? a with
    | none => rfl
    | some o' => exact absurd (Heap.lt_size (hpk _ _ e)) (Nat.not_lt.mpr ha)
  have hfI : s₁.heap.get? I1 = none := Heap.get?_none_of_le (Nat.le_of_eq hI1)
  have hCne : ∀ b o, s₁.heap.get? b = some o → b ≠ H2.objs.size := fun b o e q => by rw [q, hfresh _ (by rw [hC]; exact Nat.le_succ _)] at e; cases e
  have hIC : I1 ≠ H2.objs.size := (below I1 hI1s).1
  have hID : I1 ≠ Hp.objs.size := (below I1 hI1s).2
  have hlC : l ≠ H2.objs.size := let ⟨o, e, _⟩ := hl0; hCne l o e
  have loop : ∀ s₃ : Shared, s₃ = { s₁ with heap := h₁, toks := s₁.toks + ([] : List (Str × Value)).length } →
      codeAny (model prog w) A (.compLoop (.ListComp elt [⟨.Name x px, i1, [], 0⟩, ⟨.Name y py, i2, ifs, 0⟩] scope pos) 0 (.ref I1) (.ref Hp.objs.size) (compEnvC scope cl H2.objs.size env))
        (compPost (model prog w) A E none Q (.ref Hp.objs.size) H2.objs.size) s₃ := by
    rintro s₃ rfl
    refine codeAny_loop rfl
      (OuterI s₁ I1 l H2.objs.size Hp.objs.size items) ?_ (items.size + 1)
      ⟨h₁, _, _, 0, rfl, hitI.at fun o e => old _ o e, hns₁, hacc, Nat.zero_le _, rfl, hpk.trans old⟩
    rintro k s' ⟨H, tk, m', i, rfl, hit', hn', hD', hi, rfl, hk⟩
    show wpAny _ A ((compTurn (.ListComp elt [⟨.Name x px, i1, [], 0⟩, ⟨.Name y py, i2, ifs, 0⟩] scope pos) 0 (.ref I1) (.ref Hp.objs.size) (compEnvC scope cl H2.objs.size env)).onRaise (fun x => do noteFrame x (compEnvC scope cl H2.objs.size env); theTreesLotGoes x)) _ _ _
    refine wpAny_noted ?_
    rw [compTurn2_0]
    refine wpAny_bind (wpAny_standAt (wpAny_bind ?_))
    have hl' : H.IsList l items := hl0.at fun o e => hk _ o e
    cases hv : items[i]? with
    | none =>
      refine wpAny_pyNext_list_end hh hit' hl' hv fun h₂ he₂ => ?_
      refine wpAny_pure ⟨m', hn'.extBut he₂ (Ne.symm hIC), fun h'' hs'' => fin _ h'' tk (hfresh _ (Nat.le_refl _)) ?_ fun b o e => ?_⟩
      · obtain ⟨c, e⟩ := hD'
        exact ⟨c, hs''.extBut _ _ hDC (he₂ _ _ (Ne.symm hID) e)⟩
      · exact hs''.extBut b o (hCne b o e) (he₂ b o (fun q => by rw [q, hfI] at e; cases e) (hk b o e))
    | some v =>
      have hlt : i < items.size := (Array.getElem?_eq_some_iff.mp hv).1
      have hmem : v ∈ items := by obtain ⟨h1, rfl⟩ := Array.getElem?_eq_some_iff.mp hv; exact Array.getElem_mem h1
      refine wpAny_pyNext_list_item hit' hl' hv fun h₂ hit₂ hs₂ => ?_
      refine wpAny_bind (wpAny_of_eq (show letOwnedTupleGo (.Name x px) (.ref I1) v = pure () from rfl) ?_)
      refine wpAny_bind (wpAny_assign_Name (wpAny_storeName_local (lookup_relabel_local hx) (hn'.sameBut hs₂ (Ne.symm hIC)) (fun h₃ hn₃ hs₃ => ?_) (by simp [compEnvC, relabel, hkind])))
      have kk3 : KeepAll s₁.heap h₃ := fun b o e => hs₃.extBut b o (hCne b o e) (hs₂.extBut b o (fun q => by rw [q, hfI] at e; cases e) (hk b o e))
      have hit3 : h₃.IsListIter I1 l (i + 1) := hit₂.extBut hs₃.extBut hIC
      have hD3 : h₃.PlainList Hp.objs.size #[] := let ⟨c, e⟩ := hD'; ⟨c, hs₃.extBut _ _ hDC (hs₂.extBut _ _ (Ne.symm hID) e)⟩
      refine wpAny_bind (wpAny_pure ?_)
      simp only [if_true]
      refine wpAny_bind (hit2 H2.objs.size _ _ _ _ hn₃ kk3 ?_)
      refine wpAny_bind (wpAny_standAt (wpAny_bind (wpAny_of_eq (hs2 _ _) ?_)))
      have hl3 : h₃.IsList l items := hl0.at fun o e => kk3 _ o e
      refine wpAny_bind (wpAny_holding (wpAny_pyIter_list hl3 ?_))
      dsimp only
      have hp4 : KeepAll h₃ (h₃.push { cls := .type "list_iterator", data := .fields #[.ref l, .int 0 0] }) := push_keep _ _
      have hit4 : (h₃.push { cls := .type "list_iterator", data := .fields #[.ref l, .int 0 0] }).IsListIter h₃.objs.size l 0 := ⟨_, Heap.get?_push_size _ rfl, rfl, rfl⟩
      generalize h₃.push { cls := .type "list_iterator", data := .fields #[.ref l, .int 0 0] } = h4 at hp4 hit4 ⊢
      have hI2C : h₃.objs.size ≠ H2.objs.size := Ne.symm (Nat.ne_of_lt hn₃.lt)
      have hlI2 : l ≠ h₃.objs.size := by obtain ⟨o, e, _⟩ := hl3; exact Nat.ne_of_lt (Heap.lt_size e)
      refine wpAny_bind (wpAny_runOwn ?_)
      show codeAny (model prog w) A _ _ _
      have inner : ∀ R' : Result → Shared → Prop, (∀ h' tk' m'', h'.Ns H2.objs.size m'' → (∀ b o, b ≠ H2.objs.size → b ≠ h₃.objs.size → h4.get? b = some o → h'.get? b = some o) → R' (.ok .next) { s₁ with heap := h', toks := tk' }) →
          codeAny (model prog w) A (.compLoop (.ListComp elt [⟨.Name x px, i1, [], 0⟩, ⟨.Name y py, i2, ifs, 0⟩] scope pos) 1 (.ref h₃.objs.size) (.ref Hp.objs.size) (compEnvC scope cl H2.objs.size env)) R'
            { heap := h4, gens := s₁.gens, drawn := s₁.drawn, toks := tk + 1, os := s₁.os } := fun R' hR' => by
        refine loop2_1 (m := fun z => if z = x then some v else m' z) (v := v) hh (lookup_relabel_local hy) (by simp [compEnvC, relabel, hkind]) hI2C hlI2 hlC hit4 (hl3.at fun o e => hp4 _ o e) (hn₃.keeps hp4) (by simp) hxy (fun v2 s₂ m₂ E' hv2 hn2 hmx hmy hk2 => ?_) fun h' tk' m'' hn'' hk'' => hR' h' tk' m'' hn'' hk''
        exact htests H2.objs.size v v2 s₂ m₂ E' hmem hv2 hn2 hmx hmy fun b o e => hk2 b o (hCne b o e) (fun q => by have := Heap.lt_size (kk3 b o e); rw [q] at this; exact Nat.lt_irrefl _ this) (hp4 _ _ (kk3 b o e))
      have hfin : ∀ h' tk' m'', h'.Ns H2.objs.size m'' → (∀ b o, b ≠ H2.objs.size → b ≠ h₃.objs.size → h4.get? b = some o → h'.get? b = some o) → (fun s' => ∃ m, m < items.size + 1 - i ∧ OuterI s₁ I1 l H2.objs.size Hp.objs.size items m s') { s₁ with heap := h', toks := tk' } := by
        intro h' tk' m'' hn'' hk''
        have up : ∀ b o, b ≠ H2.objs.size → h₃.get? b = some o → h'.get? b = some o := fun b o hb e => hk'' b o hb (Nat.ne_of_lt (Heap.lt_size e)) (hp4 _ _ e)
        refine ⟨items.size + 1 - (i + 1), loop_lt hlt, h', tk', m'', i + 1, rfl, hit3.at fun o e => up _ o hIC e, hn'', ?_, hlt, rfl, fun b o e => up b o (hCne b o e) (kk3 b o e)⟩
        obtain ⟨c, e⟩ := hD3
        exact ⟨c, up _ _ hDC e⟩
      refine compStart2_1 (inner _ fun h' tk' m'' hn'' hk'' => wpAny_pure ⟨rfl, hfin h' tk' m'' hn'' hk''⟩) (wpAny_pyIter_listiter hit4 (inner _ fun h' tk' m'' hn'' hk'' => wpAny_pure ⟨rfl, hfin h' tk' m'' hn'' hk''⟩))
  exact codeAny_compStart_list (loop _ rfl) (wpAny_pyIter_listiter (hitI.at fun o e => old _ o e) (loop _ rfl))
end
end Mine
end
section
open PySem PySem.W PyProof.Rows PySem.Calls
namespace Mine
theorem wd_fill_new (w : World) (h : Heap) (_ : OpenLaw) (e : Challenge.rw_ph0098_01 = Challenge.rw_ph0098_01) : (hd.heap_39 w.params).In h → (hd.heap_39 w.params).In h ∧ Challenge.rw_ph0098_01 = Challenge.rw_ph0098_01 := by
  k_fill
  exact fun x => ⟨x, e⟩
section
variable {prog : Program} {w : World} {A : Around} {s : Shared} {K : Frag} {p : Program} {loose : List Str} {mean : ExcName → Option Value} {mg mb : Str → Option Value} {R : Result → Shared → Prop} {name qual : Str} {params : Arguments} {body : List Stmt} {scope : Scope} {dV kV doc pm cdv ct oc : Value} {an od : Option Addr} {osl : Array (Option Value)} {f : Addr} {args : Args} {binds : List (Str × Value)} {hs : List Addr} {news : List (Addr × Obj)}
theorem enter_hide (X : K.In (hideAll s.heap hs)) (T : Top p loose mean mg mb (hideAll s.heap hs)) (hn : ∀ p ∈ news, s.heap.get? p.1 = some p.2 ∧ p.1 ∈ hs)
    (ho : K.lookup f = some ⟨oc, od, .func (fnOf name qual params body scope dV kV doc pm an cdv ct), osl⟩) (hcd : codeIn K cdv qual = true) (hroom : A.depth < recursionLimit)
    (hbind : BindsTo s (fnOf name qual params body scope dV kV doc pm an cdv ct) args binds) (hloc : ∀ y ∈ binds, scope.names.lookup y.1 = some .local)
    (h : ∀ L' h₁, Fr (hideAll s.heap hs) L' h₁ (fun y => binds.reverse.lookup y) → News (hideAll s.heap hs) L' h₁ news →
      wpAny (model prog w) (A.deeper (envOf qual scope L' f cdv)) (execs body (envOf qual scope L' f cdv))
        (fun fl s' => R (.ok (.ret (match fl with | .ret v => v | _ => .none))) s')
        (fun _ _ => False)
        { s with heap := h₁, toks := s.toks + binds.length })
    (hco : scope.isCoroutine = false) (hgen : scope.isGenerator = false) (hk : scope.kind = .function)
    (hcell : ∀ x ∈ scope.names, x.2 ≠ .cell) : codeAny (model prog w) A (.call (.ref f) args) R s := by
  have hsub : KeepAll (hideAll s.heap hs) s.heap := fun _ _ e => of_hideAll hs e
  refine codeAny_call_def (fd := fnX name qual params body scope [] dV kV doc pm an cdv ct) (body := body) (binds := binds) hroom (X.keeps hsub _ _ ho) rfl (T.keeps hsub).nolimit (codeRec_of (X.keeps hsub) hcd) rfl hbind hcell hloc (fun h₁ hns hk₁ => ?_) hco hgen hk
  refine wpAny_mono (h _ h₁ ⟨hns, fun b o e => hk₁ b o (of_hideAll hs e), Nat.le_of_eq (hideAll_size _ _)⟩ fun q hq => ⟨hk₁ _ _ (hn q hq).1, ?_, hideAll_none hs (hn q hq).2⟩) (fun fl s' hl => hl) fun _ _ y => y.elim
  exact Nat.ne_of_lt (Heap.lt_size (hn q hq).1)
end
set_option maxRecDepth 100000 in
set_option maxHeartbeats 1000000 in
theorem new_spec {w : World} {A : Around} {s : Shared} {g : Heap} {L : Addr} {m : Str → Option Value} {news : List (Addr × Obj)} {sl : Addr} {Q : Value → Shared → Prop}
  (X : (hd.heap_39 w.params).In g) {p : Program} {loose : List Str} {mean : ExcName → Option Value} {mg mb : Str → Option Value} (T : Top p loose mean mg mb g) (F : Fr g L s.heap m) (N : News g L s.heap news) (hd0 : A.depth + 3 < recursionLimit) (hh : A.handled = none)
  (ret : ∀ x dx hsh tk nd tk' h', Fr g L h' m → News g L h' ((x, instObj 38 dx) :: (dx, dictOf [⟨hsh, .str (Str.ofString "comp_select_list") tk, .ref sl⟩] nd) :: news) → Q (.ref x) { s with heap := h', toks := tk' }) :
  wpAny (model Challenge.rw_ph0098_01.row.prog w) A (call (.ref 38) [.ref sl]) Q (fun _ _ => False) s := by
  k_dflt (refine' call_cls F X N ?k1 ?k2 ?k3 ?_; (case k1 => k_is); (case k2 => k_is); (case k3 => k_is))
  intro x dx h1 F1 N1 l1 l2
  have gx : g.get? x = none := N1.fresh (.head _)
  have gdx : g.get? dx = none := N1.fresh (.tail _ (.head _))
  have kg : KeepAll g (hideAll h1 [x, dx]) := fun b o e => by
    refine hideAll_get _ (F1.keep b o e) fun q => ?_
    simp only [List.mem_cons, List.not_mem_nil, or_false] at q
    rcases q with q | q
    · rw [q, gx] at e; cases e
    · rw [q, gdx] at e; cases e
  k_dflt (refine' enter_hide (hs := [x, dx]) (news := [(x, instObj 38 dx), (dx, dictOf [] 0)]) (binds := [(Str.ofString "self", .ref x), (Str.ofString "comp_select_list", .ref sl)]) (X.keeps kg) (T.keeps kg) ?kn ?k6 ?k7 ?k8 ?k9 ?kB ?_ ?c2 ?c3 ?c4 ?c5; (case k6 => k_is); (case k7 => k_is); (case k8 => show A.depth + 1 < _; (with_reducible exact o_dp (by assumption) (by decide))); (case k9 => exact BindsTo.of_eq rfl); (case c5 => decide); (case kB => exact locs rfl); (case c2 => exact rfl); (case c3 => exact rfl); (case c4 => exact rfl))
  case kn =>
    intro q hq
    simp only [List.mem_cons, List.not_mem_nil, or_false] at hq
    rcases hq with h | h <;> (rw [h])
    · exact ⟨N1.get (.head _), by simp⟩
    · exact ⟨N1.get (.tail _ (.head _)), by simp⟩
  intro L2 h2 F2 N2
  dsimp only
  have X2 := X.keeps kg
  have T2 := T.keeps kg
  replace F2 : Fr (hideAll h1 [x, dx]) L2 h2 _ := F2
  replace N2 : News (hideAll h1 [x, dx]) L2 h2 _ := N2
  have hxd : (dx : Nat) ≠ x := Nat.ne_of_lt l2
  (repeat' (first | (k_unfold; (try dsimp only)) | ((fail_if_success k_end); (fail_if_success (with_reducible show wpAny _ _ (exec (PySem.Stmt.For _ _ _ _ _) _) _ _ _)); walk1) | (dsimp only; (fail_if_success k_end); (fail_if_success (with_reducible show wpAny _ _ (exec (PySem.Stmt.For _ _ _ _ _) _) _ _ _)); walk1)))
  k_dflt (refine' set_dict F2 X2 N2 (ox := instObj 38 dx) (C := 38) (es := []) (n := 0) ?k4 rfl ?k6 ?k7 ?k8 ?k9 ?k10 ?k11 ?k12 ?k13 ?_; (case k4 => exact ⟨N2.get (.head _), rfl, rfl, N2.get (.tail _ (.head _))⟩); (case k6 => k_is); (case k7 => k_is); (case k8 => k_is); (case k9 => k_is); (case k10 => k_get); (case k11 => k_put); (case k12 => exact Upd.tail (Nat.ne_of_gt l2) (Upd.head (List.forall_mem_nil _))); (case k13 => exact Nat.le_of_ble_eq_true rfl))
  intro h3 F3 N3
  (repeat' (first | (k_unfold; (try dsimp only)) | ((fail_if_success k_end); (fail_if_success (with_reducible show wpAny _ _ (exec (PySem.Stmt.For _ _ _ _ _) _) _ _ _)); walk1) | (dsimp only; (fail_if_success k_end); (fail_if_success (with_reducible show wpAny _ _ (exec (PySem.Stmt.For _ _ _ _ _) _) _ _ _)); walk1)))
  obtain ⟨hsh, tkk, N3⟩ : ∃ hsh tkk, News (hideAll h1 [x, dx]) L2 h3 [(x, instObj 38 dx), (dx, dictOf [⟨hsh, .str (Str.ofString "comp_select_list") tkk, .ref sl⟩] 1)] := ⟨_, _, N3⟩
  have up : ∀ b o, b ≠ x → b ≠ dx → h1.get? b = some o → h3.get? b = some o := fun b o hb1 hb2 e => F3.keep _ _ (hideAll_get _ e fun q => by
    simp only [List.mem_cons, List.not_mem_nil, or_false] at q
    rcases q with q | q
    · exact hb1 q
    · exact hb2 q)
  refine ⟨rfl, ret x dx hsh tkk 1 _ h3 ⟨F1.ns.at' fun o e => up _ _ (Ne.symm (N1 _ (.head _)).2.1) (Ne.symm (N1 _ (.tail _ (.head _))).2.1) e, fun b o e => F3.keep _ _ (kg _ _ e), F1.above⟩ fun q hq => ?_⟩
  rcases List.mem_cons.mp hq with rfl | hq
  · exact ⟨N3.get (.head _), (N1 _ (.head _)).2⟩
  rcases List.mem_cons.mp hq with rfl | hq
  · exact ⟨N3.get (.tail _ (.head _)), (N1 _ (.tail _ (.head _))).2⟩
  · have n := N1 q (.tail _ (.tail _ hq))
    exact ⟨up _ _ (Nat.ne_of_lt (Nat.lt_trans (l1 q hq) l2)) (Nat.ne_of_lt (l1 q hq)) n.1, n.2⟩
end Mine
end
section
open PySem PySem.W PyProof.Rows PySem.Calls
namespace Mine
theorem cut_exec {M : Model} {A : Around} {E : Value → Shared → Prop} {s : Shared} {env : Env} {st : Stmt} {Q : Flow → Shared → Prop} (Q' : Shared → Prop)
    (h1 : wpAny M A (exec st env) (fun f s' => f = .next ∧ Q' s') E s) (h2 : ∀ s', Q' s' → Q .next s') : wpAny M A (exec st env) Q E s :=
  wpAny_mono h1 (fun f s' h => by obtain ⟨rfl, h⟩ := h; exact h2 s' h) fun _ _ e => e
/-- the frame and the ledger stand as they stood -/
inductive Kept (s₁ : Shared) (g : Heap) (L : Addr) (m : Str → Option Value) (nl : List (Addr × Obj)) (s' : Shared) : Prop
  | mk (h : Heap) (tk : Nat) (e : s' = { s₁ with heap := h, toks := tk }) (F : Fr g L h m) (N : News g L h nl)
/-- the same, one name turned to an int of which c holds -/
inductive KeptV (s₁ : Shared) (g : Heap) (L : Addr) (x : Str) (c : Int → Prop) (m : Str → Option Value) (nl : List (Addr × Obj)) (s' : Shared) : Prop
  | mk (h : Heap) (tk : Nat) (v : Int) (t : Tok) (hp : c v) (e : s' = { s₁ with heap := h, toks := tk }) (F : Fr g L h (fun y => if y = x then some (Value.int v t) else m y)) (N : News g L h nl)
inductive KeptT (s₁ : Shared) (g : Heap) (L : Addr) (x : Str) (n : Int) (m : Str → Option Value) (nl : List (Addr × Obj)) (s' : Shared) : Prop
  | mk (h : Heap) (tk : Nat) (t : Tok) (e : s' = { s₁ with heap := h, toks := tk }) (F : Fr g L h (fun y => if y = x then some (Value.int n t) else m y)) (N : News g L h nl)
section
variable {M : Model} {A : Around} {E : Value → Shared → Prop} {s₁ : Shared} {g h0 : Heap} {t0 : Nat} {L : Addr} {m : Str → Option Value} {nl : List (Addr × Obj)} {env : Env} {st : Stmt} {Q : Flow → Shared → Prop}
theorem cut_kept (_ : Fr g L h0 m) (_ : News g L h0 nl) (h1 : wpAny M A (exec st env) (fun f s' => f = .next ∧ Kept s₁ g L m nl s') E { s₁ with heap := h0, toks := t0 })
    (h2 : ∀ h tk, Fr g L h m → News g L h nl → Q .next { s₁ with heap := h, toks := tk }) : wpAny M A (exec st env) Q E { s₁ with heap := h0, toks := t0 } :=
  wpAny_mono h1 (fun _ _ h => by obtain ⟨rfl, h, tk, rfl, F, N⟩ := h; exact h2 h tk F N) fun _ _ e => e
theorem cut_keptV {x : Str} (c : Int → Prop) (_ : Fr g L h0 m) (_ : News g L h0 nl) (h1 : wpAny M A (exec st env) (fun f s' => f = .next ∧ KeptV s₁ g L x c m nl s') E { s₁ with heap := h0, toks := t0 })
    (h2 : ∀ h tk v t, c v → Fr g L h (fun y => if y = x then some (Value.int v t) else m y) → News g L h nl → Q .next { s₁ with heap := h, toks := tk }) : wpAny M A (exec st env) Q E { s₁ with heap := h0, toks := t0 } :=
  wpAny_mono h1 (fun _ _ h => by obtain ⟨rfl, h, tk, v, t, hp, rfl, F, N⟩ := h; exact h2 h tk v t hp F N) fun _ _ e => e
theorem cut_keptT {x : Str} (n : Int) (_ : Fr g L h0 m) (_ : News g L h0 nl) (h1 : wpAny M A (exec st env) (fun f s' => f = .next ∧ KeptT s₁ g L x n m nl s') E { s₁ with heap := h0, toks := t0 })
    (h2 : ∀ h tk t, Fr g L h (fun y => if y = x then some (Value.int n t) else m y) → News g L h nl → Q .next { s₁ with heap := h, toks := tk }) : wpAny M A (exec st env) Q E { s₁ with heap := h0, toks := t0 } :=
  wpAny_mono h1 (fun _ _ h => by obtain ⟨rfl, h, tk, t, rfl, F, N⟩ := h; exact h2 h tk t F N) fun _ _ e => e
end
theorem two_ints {ys : List Value} {a b : Int} (hl : ys.length = 2) (hF : ∀ (j : Nat) y, ys[j]? = some y → ∃ t, y = .int ([a, b].getD j 0) t) : ∃ t0 t1, ys = [Value.int a t0, Value.int b t1] := by
  rcases ys with _ | ⟨y0, _ | ⟨y1, _ | ⟨y2, r⟩⟩⟩
  · cases hl
  · cases hl
  · obtain ⟨t0, rfl⟩ := hF 0 y0 rfl
    obtain ⟨t1, rfl⟩ := hF 1 y1 rfl
    exact ⟨t0, t1, rfl⟩
  · cases hl
theorem wd_bound (x : Int) : 1 ≤ 1 + x.fmod 3 ∧ 1 + x.fmod 3 ≤ 3 := by
  have h1 := Int.fmod_nonneg_of_pos x (show (0 : Int) < 3 by decide)
  have h2 := Int.fmod_lt_of_pos x (show (0 : Int) < 3 by decide)
  (lia)
/-- the rows' tuples in the ledger -/
theorem rows_led {g h : Heap} {L : Addr} {m : Str → Option Value} (F : Fr (Gh g) L h m) : ∀ vr : List Value, (∀ v ∈ vr, IsRow h v) →
    ∃ ros : List (Addr × Obj), News (Gh g) L h ros ∧ (∀ h'', KeepAll (Gh g) h'' → (∀ q ∈ ros, h''.get? q.1 = some q.2) → (∀ v ∈ vr, IsRow h'' v) ∧ vr.map (rowOf h'') = vr.map (rowOf h)) ∧ ∀ q ∈ ros, ∃ vs n, q.2.data = .seq vs n
  | [], _ => ⟨[], News.nil, fun _ _ _ => ⟨(fun _ h => nomatch h), rfl⟩, (fun _ h => nomatch h)⟩
  | v :: vr, hr => by
    obtain ⟨ros, N, re, kd⟩ := rows_led F vr fun v hv => hr v (.tail _ hv)
    obtain ⟨b, r0, r1, r2, rfl, ht⟩ := hr v (.head _)
    obtain ⟨vs, n, e, i⟩ := ht
    have hrow : rowOf h (.ref b) = [r0, r1, r2] := rowOf_ti ⟨vs, n, e, i⟩
    cases hb : (Gh g).get? b with
    | some o =>
      have e2 := F.keep _ _ hb
      rw [e] at e2; cases e2
      refine ⟨ros, N, fun h'' k kq => ?_, kd⟩
      have ht' : TI h'' b [r0, r1, r2] := ⟨vs, n, k _ _ hb, i⟩
      obtain ⟨a1, a2⟩ := re h'' k kq
      refine ⟨fun v hv => ?_, ?_⟩
      · rcases List.mem_cons.mp hv with rfl | hv
        · exact ⟨b, r0, r1, r2, rfl, ht'⟩
        · exact a1 v hv
      · rw [List.map_cons, List.map_cons, a2, hrow, rowOf_ti ht']
    | none =>
      refine ⟨(b, ({ cls := .type "tuple", data := .seq (List.toArray vs) n } : Obj)) :: ros, fun q hq => ?_, fun h'' k kq => ?_, fun q hq => ?_⟩
      · rcases List.mem_cons.mp hq with rfl | hq
        · refine ⟨e, fun q => ?_, hb⟩
          obtain ⟨oL, _, _, hL, hd, _⟩ := F.ns
          have q' : b = L := q
          rw [q', hL] at e; cases e; cases hd
        · exact N q hq
      · have ht' : TI h'' b [r0, r1, r2] := ⟨vs, n, kq _ (.head _), i⟩
        obtain ⟨a1, a2⟩ := re h'' k fun q hq => kq q (.tail _ hq)
        refine ⟨fun v hv => ?_, ?_⟩
        · rcases List.mem_cons.mp hv with rfl | hv
          · exact ⟨b, r0, r1, r2, rfl, ht'⟩
          · exact a1 v hv
        · rw [List.map_cons, List.map_cons, a2, hrow, rowOf_ti ht']
      · rcases List.mem_cons.mp hq with rfl | hq
        · exact ⟨_, _, rfl⟩
        · exact kd q hq
theorem ne_cell {g h : Heap} {L a c : Addr} {o oc : Obj} {v : Option Value} {news : List (Addr × Obj)} (N : News g L h news) (ha : (a, o) ∈ news) (hc : (c, oc) ∈ news) (hd : oc.data = .cell v) (ho : ∀ v, o.data ≠ .cell v) : @Ne Nat a c := fun q => by
  have e1 := (N _ ha).1
  have e2 := (N _ hc).1
  have q' : a = c := q
  dsimp only at e1 e2
  rw [q', e2] at e1
  cases e1
  exact ho v hd
def AllNe (a : Nat) : List (Addr × Obj) → Prop
  | [] => True
  | p :: r => @Ne Nat p.1 a ∧ AllNe a r
theorem allNe {g h : Heap} {L a : Addr} : ∀ {news : List (Addr × Obj)}, News g L h news → h.get? a = none → AllNe a news
  | [], _, _ => trivial
  | p :: r, N, hf => by
    refine ⟨fun q => ?_, allNe (fun q hq => N q (.tail _ hq)) hf⟩
    have e := (N p (.head _)).1
    have q' : p.1 = a := q
    rw [q', hf] at e; cases e
theorem filled6 {script : List Int} (hx : ∀ d ∈ script, Builtin.Int.intBits d ≤ 1048576) :
    ∃ d0 d1 d2 d3 d4 d5, filledF script [1, 2, 1, -2, -100, 3] = [d0, d1, d2, d3, d4, d5] ∧ ∀ d ∈ [d0, d1, d2, d3, d4, d5], Builtin.Int.intBits d ≤ 1048576 := by
  have hl : (filledF script [1, 2, 1, -2, -100, 3]).length = 6 := by unfold filledF; simp; (lia)
  have hb : ∀ d ∈ filledF script [1, 2, 1, -2, -100, 3], Builtin.Int.intBits d ≤ 1048576 := by
    intro d hd
    unfold filledF at hd
    rcases List.mem_append.mp (List.mem_of_mem_take hd) with h | h
    · exact hx d h
    · have h2 := List.mem_of_mem_drop h
      simp only [List.mem_cons, List.not_mem_nil, or_false] at h2
      rcases h2 with h | h | h | h | h | h <;> (subst h; exact Nat.le_trans (intBits_le_64 (by decide) (by decide)) (by decide))
  generalize filledF script [1, 2, 1, -2, -100, 3] = l at hl hb
  rcases l with _ | ⟨d0, _ | ⟨d1, _ | ⟨d2, _ | ⟨d3, _ | ⟨d4, _ | ⟨d5, r⟩⟩⟩⟩⟩⟩
  iterate 6 (cases hl)
  cases r with
  | nil => exact ⟨d0, d1, d2, d3, d4, d5, rfl, hb⟩
  | cons a r => simp at hl

/-- the law's own text, out of the given program -/
def lawParts : List Stmt × Scope := match Challenge.pw_ph0098_01.main.body.drop 19 with
  | .FunctionDef _ _ b _ _ _ sc _ _ _ :: _ => (b, sc)
  | _ => ([], default)
end Mine
end
section
open PySem PySem.W PyProof.Rows PySem.Calls
namespace Mine
theorem gname {M : Model} {A : Around} {E : Value → Shared → Prop} {s : Shared} {env : Env} {x : Str} {pos : Pos} {v : Value} {Q : Value → Shared → Prop} {K : Frag} {p : Program} {loose : List Str} {mean : ExcName → Option Value} {mg mb : Str → Option Value}
    (X : K.In s.heap) (T : Top p loose mean mg mb s.heap) (e : nsIn K mainGlobals x = some (some v)) (hg : env.globals = mainGlobals) (hk : env.scope.kind = .function) (hx : env.kindOf x = some .globalImplicit) (h : Q v s)
    (hd : (x == ("__debug__" : Str)) = false := by decide) : wpAny M A (eval (.Name x pos) env) Q E s :=
  Name_function_global hk hx (loadGlobal_global (by rw [hg]; exact T.g) (mg_of X T.g e) h) hd
theorem ints_rng : ∀ (vs : List Value) (a : Int) (k : Nat), (∀ (j : Nat) v, vs[j]? = some v → ∃ t, v = Value.int (a + ((k + j : Nat) : Int)) t) → IntsAre vs ((List.range' k vs.length).map fun (j : Nat) => a + (j : Int))
  | [], _, _, _ => .nil
  | v :: vs, a, k, h => by
    obtain ⟨t, rfl⟩ := h 0 v rfl
    refine .cons _ _ (ints_rng vs a (k + 1) fun j v hv => ?_)
    obtain ⟨t, e⟩ := h (j + 1) v (by simpa using hv)
    exact ⟨t, by rw [e]; congr 2; omega⟩
def ltF (side w0 w1 : Int) (a b : List Int) : Int := cmpF (if side < 0 then 1 else 0) (if side < 0 then -w0 else w0) (if side < 0 then 0 else 1) w1 a b
def orderF (P S side w0 w1 : Int) : List Int := dealF (fun a b => decide (ltF side w0 w1 a b < 0)) (cardsF P S side)
def backF (order : List Int) (n : Nat) : List Int := (List.range n).map fun (i : Nat) => ((order.idxOf (i : Int) : Nat) : Int)
def cntF (S fac : Int) (sm : Bool) : Nat := (powersF fac (dueBase S sm)).length
def homeF (S fac : Int) (sm : Bool) : Nat := if sm = true ∧ fac < 0 ∧ cntF S fac sm % 2 = 1 then 2 * cntF S fac sm else cntF S fac sm
/-- what plain mathematics has to say of the law -/
structure Facts (P S side w0 w1 fac : Int) (sm : Bool) : Prop where
  pl : 0 < cntF S fac sm
  pl2 : cntF S fac sm < 40
  pb : ∀ x ∈ powersF fac (dueBase S sm), 0 ≤ x ∧ x < 100
  idx : ∀ times place, 0 ≤ place → place < S → 0 ≤ dueIdx S fac sm times place ∧ dueIdx S fac sm times place < S
  ord : orderF P S side w0 w1 = dueF S fac sm 1
  len : (orderF P S side w0 w1).length = S.toNat
  inr : InR (orderF P S side w0 w1).length (orderF P S side w0 w1)
  binr : InR (backF (orderF P S side w0 w1) S.toNat).length (backF (orderF P S side w0 w1) S.toNat)
  has : ∀ i : Nat, i < S.toNat → (i : Int) ∈ orderF P S side w0 w1
  perm : (orderF P S side w0 w1).Perm (idF S.toNat)
  cmp : ∀ a ∈ cardsF P S side, ∀ b ∈ cardsF P S side, ltF side w0 w1 a b = sideF (a.getD 2 0) (b.getD 2 0) P w0 w1
  many : ∀ (wd : Nat) (times : Int), 1 ≤ wd → manyF (if 0 < times then orderF P S side w0 w1 else backF (orderF P S side w0 w1) S.toNat) (digF wd (times.natAbs : Int)) wd = dueF S fac sm times
  decks : ∀ (wd k : Nat), 1 ≤ wd → k < homeF S fac sm → (manyF (orderF P S side w0 w1) (digF wd ((1 + k : Nat) : Int)) wd = idF S.toNat ↔ k + 1 = homeF S fac sm)
  rest : ∀ (wd : Nat) (times : Int), 1 ≤ wd → manyF (orderF P S side w0 w1) (digF wd (modF times (homeF S fac sm))) wd = dueF S fac sm times
def Tail2 (w : World) (g : Heap) (L : Addr) (tl : List (Addr × Obj)) (x aR : Addr) (vr : List Value) (rows : List (List Int)) (side w0 w1 : Int) : Prop :=
  (∀ h'', KeepAll (Gh g) h'' → (∀ q ∈ tl, h''.get? q.1 = some q.2) → Wh w h'' ∧ (∀ v ∈ vr, IsRow h'' v) ∧ vr.map (rowOf h'') = rows ∧ h''.IsList aR vr.toArray ∧ CompAt h'' x (if side < 0 then 1 else 0) (if side < 0 then -w0 else w0) (if side < 0 then 0 else 1) w1) ∧
  (∀ p ∈ tl, p.1 ≠ L + 1 + 1 + 1 + 1 + 1 + 1) ∧ (∀ p ∈ tl, p.1 ≠ L + 1 + 1 + 1 + 1 + 1 + 1 + 1)
end Mine
end
section
open PySem PySem.W PyProof.Rows PySem.Calls
namespace Mine
def chk2 (S fac : Int) (sm : Bool) (o b : List Int) (H : Nat) : Bool :=
  decide (0 < cntF S fac sm) && decide (cntF S fac sm < 40) && (powersF fac (dueBase S sm)).all (fun x => decide (0 ≤ x) && decide (x < 100)) &&
  (List.range H).all (fun t => (List.range S.toNat).all fun p => decide (0 ≤ dueIdx S fac sm (t : Nat) (p : Nat)) && decide (dueIdx S fac sm (t : Nat) (p : Nat) < S)) &&
  (o == dueF S fac sm 1) && (o.length == S.toNat) && o.all (fun x => decide (0 ≤ x) && decide (x < S)) && b.all (fun x => decide (0 ≤ x) && decide (x < S)) &&
  (List.range S.toNat).all (fun i => o.contains ((i : Nat) : Int)) && o.isPerm (idF S.toNat) &&
  (List.range H).all (fun k => (powP o k == dueF S fac sm (k : Nat)) && (powP b k == dueF S fac sm (-(k : Nat)))) &&
  (powP o H == idF S.toNat) && (powP b H == idF S.toNat) &&
  (List.range H).all (fun k => decide (k + 1 = H) || !(powP o (k + 1) == idF S.toNat)) && decide (0 < H)
def chk1 (P R s0 s1 side : Int) : Bool :=
  chk2 (P * R) (if 0 < s0 then R else -R) (decide (0 < s0 * s1)) (orderF P (P * R) side s0 s1) (backF (orderF P (P * R) side s0 s1) (P * R).toNat) (homeF (P * R) (if 0 < s0 then R else -R) (decide (0 < s0 * s1)))
set_option maxRecDepth 100000 in
theorem chk_all : ∀ P ∈ [2, 3, 4], ∀ R ∈ [2, 3, 4], ∀ s0 ∈ [1, -1], ∀ s1 ∈ [1, -1], ∀ side ∈ [1, -1], chk1 P R s0 s1 side = true := by decide +kernel
/-! composition -/
theorem behind_assoc {n : Nat} {a b c : List Int} (hb : InR n b) (hc : InR n c) : behindF (behindF a b) c = behindF a (behindF b c) := by
  unfold behindF
  rw [List.map_map]
  refine List.map_congr_left fun i hi => ?_
  have h := hc.2 i hi
  have hl : i.toNat < b.length := by rw [hb.1]; (lia)
  simp [List.getD, hl]
theorem id_behind {n : Nat} {o : List Int} (ho : InR n o) : behindF (idF n) o = o := by
  unfold behindF idF
  conv => rhs; rw [← List.map_id o]
  refine List.map_congr_left fun i hi => ?_
  have h := ho.2 i hi
  have hl : i.toNat < n := by (lia)
  simp [List.getD, hl]
  (lia)
theorem behind_id {n : Nat} {d : List Int} (hd : d.length = n) : behindF d (idF n) = d := by
  unfold behindF idF
  rw [List.map_map]
  refine List.ext_getElem (by simp [hd]) fun i h1 h2 => ?_
  simp [List.getD, h2]
theorem inR_powN {n : Nat} {o : List Int} (ho : InR n o) : ∀ k, InR n (powP o k)
  | 0 => by unfold powP; rw [ho.1]; exact inR_id n
  | k + 1 => inR_behind (inR_powN ho k) ho
theorem pow_add {n : Nat} {o : List Int} (ho : InR n o) (a : Nat) : ∀ b, behindF (powP o a) (powP o b) = powP o (a + b)
  | 0 => by
    show behindF (powP o a) (idF o.length) = _
    rw [ho.1, behind_id (inR_powN ho a).1]; rfl
  | b + 1 => by
    show behindF (powP o a) (behindF (powP o b) o) = behindF (powP o (a + b)) o
    rw [← behind_assoc (inR_powN ho b) ho, pow_add ho a b]
theorem sq_pow {n : Nat} {o : List Int} (ho : InR n o) : ∀ (w m : Nat), sqN w (powP o m) = powP o (m * 2 ^ w)
  | 0, m => by simp [sqN]
  | w + 1, m => by
    show behindF (sqN w (powP o m)) (sqN w (powP o m)) = _
    rw [sq_pow ho w m, pow_add ho]
    congr 1
    rw [Nat.pow_succ, ← Nat.mul_assoc]; (lia)
theorem many_pow {n : Nat} {o : List Int} (ho : InR n o) (w : Nat) : ∀ ds : List Int, (∀ d ∈ ds, 0 ≤ d) → 0 ≤ undig w ds ∧ manyF o ds w = powP o (undig w ds).toNat
  | [], _ => ⟨by simp [undig], by simp [manyF, undig, powP]⟩
  | d :: ds, h => by
    obtain ⟨h1, h2⟩ := many_pow ho w ds fun x hx => h x (.tail _ hx)
    have hd := h d (.head _)
    have hp : (0 : Int) ≤ 2 ^ w * undig w ds := Int.mul_nonneg (Int.pow_nonneg (by decide)) h1
    have e : manyF o (d :: ds) w = manyStep o w (manyF o ds w) d := by unfold manyF; rw [List.reverse_cons, List.foldl_append]; rfl
    refine ⟨by show 0 ≤ d + 2 ^ w * undig w ds; (lia), ?_⟩
    rw [e, h2]
    unfold manyStep
    rw [sq_pow ho, pow_add ho]
    congr 1
    show _ = (d + 2 ^ w * undig w ds).toNat
    obtain ⟨u, hu⟩ : ∃ u : Nat, undig w ds = u := ⟨_, (Int.toNat_of_nonneg h1).symm⟩
    rw [hu] at hp ⊢
    rw [show ((2 : Int) ^ w * (u : Int)) = ((u * 2 ^ w : Nat) : Int) from by rw [Int.natCast_mul, Int.natCast_pow, Int.mul_comm]; rfl]
    rw [Int.toNat_natCast]; (with_reducible exact o_tnd _ _ (by assumption))
theorem many_dig {n : Nat} {o : List Int} (ho : InR n o) {w : Nat} (hw : 1 ≤ w) {t : Int} (ht : 0 ≤ t) : manyF o (digF w t) w = powP o t.toNat := by
  have h := (many_pow ho w (digF w t) fun d hd => (digF_bound d hd).1).2
  rwa [digF_undig hw ht] at h
theorem pow_mod {n : Nat} {o : List Int} (ho : InR n o) {H : Nat} (hH : powP o H = idF n) (k : Nat) : powP o k = powP o (k % H) := by
  have hm : ∀ q, powP o (H * q) = idF n := by
    intro q
    induction q with
    | zero => show idF o.length = _; rw [ho.1]
    | succ q ih =>
      rw [Nat.mul_succ, ← pow_add ho, ih, hH, id_behind (inR_id n)]
  conv => lhs; rw [← Nat.div_add_mod k H, ← pow_add ho, hm, id_behind (inR_powN ho _)]
/-! the finite check, read -/
theorem due_per {S fac : Int} {sm : Bool} (h0 : 0 < cntF S fac sm) (t p : Int) : dueIdx S fac sm t p = dueIdx S fac sm (t % (homeF S fac sm : Int)) p := by
  have hd : (cntF S fac sm : Int) ∣ (homeF S fac sm : Int) := by
    unfold homeF
    split
    · exact ⟨2, by (lia)⟩
    · exact ⟨1, by (lia)⟩
  have hs : dueScale S fac sm t = dueScale S fac sm (t % (homeF S fac sm : Int)) := by
    unfold dueScale
    have e : ∀ x : Int, x.fmod ((powersF fac (dueBase S sm)).length : Int) = x % (cntF S fac sm : Int) := fun x => Int.fmod_eq_emod_of_nonneg _ (Int.natCast_nonneg _)
    rw [e, e, Int.emod_emod_of_dvd _ hd]
  unfold dueIdx
  rw [← hs]
  by_cases hsm : sm = false
  · rw [if_pos hsm, if_pos hsm]
  rw [if_neg hsm, if_neg hsm]
  split
  · rfl
  by_cases hf : fac < 0
  · have h2 : (2 : Int) ∣ (homeF S fac sm : Int) := by
      have hst : sm = true := by cases sm <;> simp_all
      unfold homeF
      split
      · exact ⟨cntF S fac sm, by (lia)⟩
      · rename_i hn
        have hev : ¬ cntF S fac sm % 2 = 1 := fun h => hn ⟨hst, hf, h⟩
        exact ⟨(cntF S fac sm / 2 : Nat), by (lia)⟩
    have e : (t % (homeF S fac sm : Int)).fmod 2 = t.fmod 2 := by
      rw [Int.fmod_eq_emod_of_nonneg _ (by decide), Int.fmod_eq_emod_of_nonneg _ (by decide), Int.emod_emod_of_dvd _ h2]
    rw [e]
  · rw [if_neg (fun h => hf h.1), if_neg (fun h => hf h.1)]
theorem dueF_per {S fac : Int} {sm : Bool} (h0 : 0 < cntF S fac sm) (t : Int) : dueF S fac sm t = dueF S fac sm (t % (homeF S fac sm : Int)) := by
  have e : (fun (d : List Int) (p : Nat) => d.set (dueIdx S fac sm t (p : Int)).toNat (p : Int)) = (fun (d : List Int) (p : Nat) => d.set (dueIdx S fac sm (t % (homeF S fac sm : Int)) (p : Int)).toNat (p : Int)) := by
    funext d p
    rw [due_per h0 t]
  unfold dueF
  rw [e]
theorem facts2 {P S side w0 w1 fac : Int} {sm : Bool} {o : List Int} (ho : orderF P S side w0 w1 = o) (hc : chk2 S fac sm o (backF o S.toNat) (homeF S fac sm) = true) (hS : 4 ≤ S)
    (hcmp : ∀ a ∈ cardsF P S side, ∀ b ∈ cardsF P S side, ltF side w0 w1 a b = sideF (a.getD 2 0) (b.getD 2 0) P w0 w1) : Facts P S side w0 w1 fac sm := by
  unfold chk2 at hc
  simp only [Bool.and_eq_true, decide_eq_true_eq, List.all_eq_true, List.mem_range, beq_iff_eq, Bool.or_eq_true, Bool.not_eq_true', beq_eq_false_iff_ne] at hc
  obtain ⟨⟨⟨⟨⟨⟨⟨⟨⟨⟨⟨⟨⟨⟨c1, c2⟩, c3⟩, c4⟩, c5⟩, c6⟩, c7⟩, c8⟩, c9⟩, c10⟩, c11⟩, c12⟩, c13⟩, c14⟩, c15⟩ := hc
  have hol : InR S.toNat o := ⟨c6, fun x hx => by have := c7 x hx; (lia)⟩
  have hbl : (backF o S.toNat).length = S.toNat := by simp [backF]
  have hob : InR S.toNat (backF o S.toNat) := ⟨hbl, fun x hx => by have := c8 x hx; (lia)⟩
  have hH : (0 : Int) < (homeF S fac sm : Int) := by (lia)
  refine ⟨c1, c2, c3, fun t p h0 h1 => ?_, by rw [ho]; exact c5, by rw [ho]; exact c6, ?_, ?_, ?_, ?_, hcmp, ?_, ?_, ?_⟩
  · rw [due_per c1 t]
    have a1 := Int.emod_nonneg t (show (homeF S fac sm : Int) ≠ 0 by (lia))
    have a2 := Int.emod_lt_of_pos t hH
    obtain ⟨n, hn⟩ : ∃ n : Nat, t % (homeF S fac sm : Int) = n := ⟨_, (Int.toNat_of_nonneg a1).symm⟩
    obtain ⟨q, rfl⟩ : ∃ q : Nat, p = q := ⟨_, (Int.toNat_of_nonneg h0).symm⟩
    rw [hn]
    exact c4 n (by (lia)) q (by (lia))
  · rw [ho, c6]; exact hol
  · rw [ho, hbl]; exact hob
  · intro i hi
    rw [ho]
    have := c9 i hi
    simpa using this
  · rw [ho]; exact List.isPerm_iff.mp c10
  · intro wd t hw
    rw [ho]
    have hpm : ((t.natAbs % homeF S fac sm : Nat)) < homeF S fac sm := Nat.mod_lt _ c15
    by_cases ht : 0 < t
    · rw [if_pos ht, many_dig hol hw (by (with_reducible exact Int.natCast_nonneg _)), Int.toNat_natCast, pow_mod hol c12, (c11 _ hpm).1, dueF_per c1 t]
      congr 1
      rw [Int.natCast_emod]
      congr 1
      (with_reducible exact o_abs4 (by assumption))
    · rw [if_neg ht, many_dig hob hw (by (with_reducible exact Int.natCast_nonneg _)), Int.toNat_natCast, pow_mod hob c13, (c11 _ hpm).2, dueF_per c1 t, dueF_per c1 (-((t.natAbs % homeF S fac sm : Nat) : Int))]
      congr 1
      have e : t = -((t.natAbs % homeF S fac sm : Nat) : Int) - (homeF S fac sm : Int) * ((t.natAbs / homeF S fac sm : Nat) : Int) := by
        have := Nat.mod_add_div t.natAbs (homeF S fac sm)
        have h2 : ((t.natAbs % homeF S fac sm : Nat) : Int) + (homeF S fac sm : Int) * ((t.natAbs / homeF S fac sm : Nat) : Int) = (t.natAbs : Int) := by exact_mod_cast this
        (lia)
      conv => rhs; rw [e]
      rw [Int.sub_mul_emod_self_left]
  · intro wd k hw hk
    rw [ho, many_dig hol hw (by (with_reducible exact Int.natCast_nonneg _)), Int.toNat_natCast]
    have h14 := c14 k hk
    rw [show 1 + k = k + 1 from by (lia)]
    constructor
    · intro e
      rcases h14 with h | h
      · exact h
      · exact absurd e h
    · intro e
      rw [e]; exact c12
  · intro wd t hw
    have e : modF t (homeF S fac sm) = t % (homeF S fac sm : Int) := by unfold modF; rw [if_neg (by (with_reducible exact o_notlt0))]
    have a1 := Int.emod_nonneg t (show (homeF S fac sm : Int) ≠ 0 by (lia))
    have a2 := Int.emod_lt_of_pos t hH
    rw [ho, e, many_dig hol hw a1, (c11 _ (by (with_reducible exact o_tlt (by assumption) (by assumption)))).1, dueF_per c1 t, Int.toNat_of_nonneg a1]
theorem cmp_sg {i0 d0 i1 d1 e0 e1 : Int} {l r : List Int} (a : 0 < d0 ↔ 0 < e0) (a' : d0 < 0 ↔ e0 < 0) (b : 0 < d1 ↔ 0 < e1) (b' : d1 < 0 ↔ e1 < 0) :
    decide (cmpF i0 d0 i1 d1 l r < 0) = decide (cmpF i0 e0 i1 e1 l r < 0) := by
  refine decide_eq_decide.mpr ?_
  unfold cmpF
  by_cases h1 : l.getD i0.toNat 0 < r.getD i0.toNat 0
  · rw [if_pos h1, if_pos h1]; (lia)
  rw [if_neg h1, if_neg h1]
  by_cases h2 : r.getD i0.toNat 0 < l.getD i0.toNat 0
  · rw [if_pos h2, if_pos h2]; (with_reducible assumption)
  rw [if_neg h2, if_neg h2]
  by_cases h3 : l.getD i1.toNat 0 < r.getD i1.toNat 0
  · rw [if_pos h3, if_pos h3]; (lia)
  rw [if_neg h3, if_neg h3]
  by_cases h4 : r.getD i1.toNat 0 < l.getD i1.toNat 0
  · rw [if_pos h4, if_pos h4]; (with_reducible assumption)
  rw [if_neg h4, if_neg h4]
def sg (x : Int) : Int := if 0 < x then 1 else -1
theorem sg_pos {x : Int} : 0 < x ↔ 0 < sg x := by unfold sg; split <;> (lia)
theorem sg_neg {x : Int} (h : x ≠ 0) : x < 0 ↔ sg x < 0 := by unfold sg; split <;> (lia)
theorem order_sg {P S side w0 w1 : Int} (h0 : w0 ≠ 0) (h1 : w1 ≠ 0) : orderF P S side w0 w1 = orderF P S side (sg w0) (sg w1) := by
  unfold orderF
  congr 1
  funext a b
  unfold ltF
  have p0 := sg_pos (x := w0)
  have p1 := sg_pos (x := w1)
  have n0 := sg_neg h0
  have n1 := sg_neg h1
  refine cmp_sg ?_ ?_ p1 n1 <;> (split <;> (first | with_reducible assumption | (lia)))
theorem div_lt' {P i j : Int} (hP : 0 < P) (h : i % P = j % P) : i / P < j / P ↔ i < j := by
  have a := Int.mul_ediv_add_emod i P
  have b := Int.mul_ediv_add_emod j P
  constructor
  · intro hl
    have := Int.mul_lt_mul_of_pos_left hl hP
    (lia)
  · intro hl
    exact Int.lt_of_mul_lt_mul_left (by (lia) : P * (i / P) < P * (j / P)) (Int.le_of_lt hP)
theorem side_a {r r' q q' i j w0 w1 : Int} (h1 : r = r' → (q < q' ↔ i < j)) (h2 : r = r' → (q' < q ↔ j < i)) :
    (if r < r' then -w0 else if r' < r then w0 else if q < q' then -w1 else if q' < q then w1 else 0) =
    (if r ≠ r' then (if r' < r then w0 else -w0) else if i = j then 0 else if j < i then w1 else -w1) := by
  by_cases hr : r = r'
  · have a := h1 hr
    have b := h2 hr
    clear h1 h2
    subst hr
    rw [if_neg (Int.lt_irrefl r), if_neg (Int.lt_irrefl r), if_neg (show ¬ (r ≠ r) from fun h => h rfl)]
    rcases Int.lt_trichotomy i j with h | h | h
    · rw [if_pos (a.mpr h), if_neg (Int.ne_of_lt h), if_neg (Int.not_lt.mpr (Int.le_of_lt h))]
    · subst h
      rw [if_neg (fun h => Int.lt_irrefl _ (a.mp h)), if_neg (fun h => Int.lt_irrefl _ (b.mp h)), if_pos rfl]
    · rw [if_neg (fun k => Int.lt_irrefl _ (Int.lt_trans h (a.mp k))), if_pos (b.mpr h), if_neg (Int.ne_of_gt h), if_pos h]
  · clear h1 h2
    rw [if_pos hr]
    rcases Int.lt_or_gt_of_ne hr with h | h
    · rw [if_pos h, if_neg (Int.not_lt.mpr (Int.le_of_lt h))]
    · rw [if_neg (Int.not_lt.mpr (Int.le_of_lt h)), if_pos h, if_pos h]
theorem side_b {r r' q q' i j w0 w1 : Int} (h1 : r = r' → (q < q' ↔ i < j)) (h2 : r = r' → (q' < q ↔ j < i)) :
    (if -r < -r' then - -w0 else if -r' < -r then -w0 else if q < q' then -w1 else if q' < q then w1 else 0) =
    (if r ≠ r' then (if r' < r then w0 else -w0) else if i = j then 0 else if j < i then w1 else -w1) := by
  rw [← side_a h1 h2]
  by_cases h : r < r'
  · rw [if_pos h, if_neg (by (lia)), if_pos (by (lia))]
  · rw [if_neg h]
    by_cases k : r' < r
    · rw [if_pos k, if_pos (by (lia)), Int.neg_neg]
    · rw [if_neg k, if_neg (by (lia)), if_neg (by (lia))]
theorem facts {P R side w0 w1 : Int} (hP : 2 ≤ P ∧ P ≤ 4) (hR : 2 ≤ R ∧ R ≤ 4) (hside : side = 1 ∨ side = -1) (h0 : w0 ≠ 0) (h1 : w1 ≠ 0) :
    Facts P (P * R) side w0 w1 (if 0 < w0 then R else -R) (decide (0 < w0 * w1)) := by
  have hc := chk_all P (by simp only [List.mem_cons, List.not_mem_nil, or_false]; (lia)) R (by simp only [List.mem_cons, List.not_mem_nil, or_false]; (lia))
    (sg w0) (by unfold sg; split <;> simp) (sg w1) (by unfold sg; split <;> simp) side (by simp only [List.mem_cons, List.not_mem_nil, or_false]; exact hside)
  unfold chk1 at hc
  have e1 : (if 0 < sg w0 then R else -R) = (if 0 < w0 then R else -R) := by simp only [← sg_pos]
  have e2 : decide (0 < sg w0 * sg w1) = decide (0 < w0 * w1) := by
    refine decide_eq_decide.mpr ?_
    unfold sg
    rcases Int.lt_or_gt_of_ne h0 with q0 | q0 <;> rcases Int.lt_or_gt_of_ne h1 with q1 | q1
    · rw [if_neg (by (lia)), if_neg (by (lia))]
      exact ⟨fun _ => Int.mul_pos_of_neg_of_neg q0 q1, fun _ => by decide⟩
    · rw [if_neg (by (lia)), if_pos q1]
      exact ⟨fun h => absurd h (by decide), fun h => absurd h (by have := Int.mul_neg_of_neg_of_pos q0 q1; (lia))⟩
    · rw [if_pos q0, if_neg (by (lia))]
      exact ⟨fun h => absurd h (by decide), fun h => absurd h (by have := Int.mul_neg_of_pos_of_neg q0 q1; (lia))⟩
    · rw [if_pos q0, if_pos q1]
      exact ⟨fun _ => Int.mul_pos q0 q1, fun _ => by decide⟩
  rw [e1, e2] at hc
  have hS : 4 ≤ P * R := by
    have := Int.mul_le_mul hP.1 hR.1 (by decide) (by (with_reducible exact o_negce (by assumption) (by decide)))
    (with_reducible exact o_nege (by assumption) (by decide))
  refine facts2 (order_sg h0 h1) hc hS ?_
  intro a ha b hb
  unfold cardsF at ha hb
  obtain ⟨i, hi, rfl⟩ := List.mem_map.mp ha
  obtain ⟨j, hj, rfl⟩ := List.mem_map.mp hb
  clear hi hj ha hb hc e1 e2 hS
  have hPp : 0 < P := by (with_reducible exact o_negc (by assumption) (by decide))
  have fi : ∀ x : Nat, (x : Int).fmod P = (x : Int) % P := fun x => Int.fmod_eq_emod_of_nonneg _ (Int.le_of_lt hPp)
  have hn : ¬ P < 0 := Int.not_lt.mpr (Int.le_of_lt hPp)
  rcases hside with rfl | rfl
  · have hcard : ∀ x : Nat, cardF P 1 x = [(x : Int) % P, (x : Int) / P, x] := fun x => by
      unfold cardF modF divF
      rw [if_neg (by decide), Int.one_mul, Int.one_mul, if_neg hn, if_neg hn]
    rw [hcard, hcard]
    unfold ltF cmpF sideF
    simp only [List.getD_cons_zero, List.getD_cons_succ, fi, show (0 : Int).toNat = 0 from rfl, show (1 : Int).toNat = 1 from rfl, show ¬ (1 : Int) < 0 from by decide, if_false]
    exact side_a (fun h => div_lt' hPp h) (fun h => div_lt' hPp h.symm)
  · have hcard : ∀ x : Nat, cardF P (-1) x = [(x : Int) / P, -((x : Int) % P), x] := fun x => by
      unfold cardF modF divF
      have e1 : - (-1 * (x : Int)) = x := by (lia)
      have e2 : - (-1 * P) = P := by (lia)
      have hp : -1 * P < 0 := by (lia)
      rw [if_pos (by decide), if_pos hp, if_pos hp, e1, e2]
    rw [hcard, hcard]
    unfold ltF cmpF sideF
    simp only [List.getD_cons_zero, List.getD_cons_succ, fi, show (0 : Int).toNat = 0 from rfl, show (1 : Int).toNat = 1 from rfl, show (-1 : Int) < 0 from by decide, if_true]
    exact side_b (fun h => div_lt' hPp h) (fun h => div_lt' hPp h.symm)
end Mine
end
local macro_rules | `(tactic| k_all) => `(tactic| with_reducible assumption)
section
open PySem PySem.W PyProof.Rows PySem.Calls
namespace Mine
theorem wd_fill_law5 (w : World) (h : Heap) (_ : OpenLaw) (e : Challenge.rw_ph0098_01 = Challenge.rw_ph0098_01) : (hd.heap_39 w.params).In h → (hd.heap_39 w.params).In h ∧ Challenge.rw_ph0098_01 = Challenge.rw_ph0098_01 := by
  k_fill
  exact fun x => ⟨x, e⟩

theorem gbuilt {M : Model} {A : Around} {E : Value → Shared → Prop} {s : Shared} {env : Env} {x : Str} {pos : Pos} {v : Value} {Q : Value → Shared → Prop} {K : Frag} {p : Program} {loose : List Str} {mean : ExcName → Option Value} {mg mb : Str → Option Value}
    (X : K.In s.heap) (T : Top p loose mean mg mb s.heap) (e : nsIn K mainGlobals x = some none) (hv : bootBuiltins x = some v) (hnm : x ≠ "__name__") (hg : env.globals = mainGlobals) (hb : env.builtins = builtinsNs) (hk : env.scope.kind = .function) (hx : env.kindOf x = some .globalImplicit) (h : Q v s)
    (hd : (x == ("__debug__" : Str)) = false := by decide) : wpAny M A (eval (.Name x pos) env) Q E s :=
  Name_function_global hk hx (loadGlobal_builtin (by rw [hg]; exact T.g) (mg_none_of X T.g e) (by rw [hb]; exact T.b) ((T.builtins x hnm).trans hv) h) hd
theorem ints_filter {p : Value → Bool} {q : Int → Bool} (hp : ∀ n t, p (.int n t) = q n) {vs : List Value} {ns : List Int} (h : IntsAre vs ns) : IntsAre (vs.filter p) (ns.filter q) := by
  induction h with
  | nil => exact .nil
  | cons n t h ih =>
    rw [List.filter_cons, List.filter_cons, hp]
    split
    · exact .cons n t ih
    · exact ih
theorem sorted_id {ns : List Int} {n : Nat} (p : ns.Perm (idF n)) (o : ns.Pairwise (· ≤ ·)) : ns = idF n := by
  refine List.Perm.eq_of_pairwise (fun a b _ _ h1 h2 => Int.le_antisymm h1 h2) o ?_ p
  unfold idF
  rw [List.pairwise_map]
  exact List.Pairwise.imp (fun h => by (lia)) (List.pairwise_lt_range (n := n))
theorem filter_last (n : Nat) : ((List.range (n + 1)).map fun (i : Nat) => (i : Int)).filter (fun x => decide (x + 1 = ((n + 1 : Nat) : Int))) = [(n : Int)] := by
  rw [List.range_succ, List.map_append, List.filter_append]
  rw [List.filter_eq_nil_iff.mpr]
  · simp
  · intro a ha
    obtain ⟨i, hi, rfl⟩ := List.mem_map.mp ha
    have := List.mem_range.mp hi
    simp; (lia)
theorem lists_led {g h : Heap} {L : Addr} {m : Str → Option Value} {G : Value → Array Value → Prop} (F : Fr (Gh g) L h m) : ∀ {vs ys : List Value}, Paired (fun v y => ∃ T its, y = .ref T ∧ h.IsList T its ∧ G v its) vs ys →
    ∃ ros : List (Addr × Obj), News (Gh g) L h ros ∧ (∀ h'', KeepAll (Gh g) h'' → (∀ q ∈ ros, h''.get? q.1 = some q.2) → Paired (fun v y => ∃ T its, y = .ref T ∧ h''.IsList T its ∧ G v its) vs ys) ∧ ∀ q ∈ ros, ∃ vs n, q.2.data = .seq vs n
  | _, _, .nil => ⟨[], News.nil, fun _ _ _ => .nil, (fun _ h => nomatch h)⟩
  | _, _, .cons hd r => by
    obtain ⟨ros, N, re, kd⟩ := lists_led F r
    obtain ⟨T, its, rfl, ⟨o, e, hc, n, hdt⟩, hG⟩ := hd
    cases hb : (Gh g).get? T with
    | some o2 =>
      have e2 := F.keep _ _ hb
      rw [e] at e2; cases e2
      exact ⟨ros, N, fun h'' k kq => .cons ⟨T, its, rfl, ⟨o, k _ _ hb, hc, n, hdt⟩, hG⟩ (re h'' k kq), kd⟩
    | none =>
      refine ⟨(T, o) :: ros, fun q hq => ?_, fun h'' k kq => .cons ⟨T, its, rfl, ⟨o, kq _ (.head _), hc, n, hdt⟩, hG⟩ (re h'' k fun q hq => kq q (.tail _ hq)), fun q hq => ?_⟩
      · rcases List.mem_cons.mp hq with rfl | hq
        · refine ⟨e, fun q => ?_, hb⟩
          obtain ⟨oL, _, _, hL, hd2, _⟩ := F.ns
          have q' : T = L := q
          rw [q', hL] at e; cases e; rw [hd2] at hdt; cases hdt
        · exact N q hq
      · rcases List.mem_cons.mp hq with rfl | hq
        · exact ⟨_, _, hdt⟩
        · exact kd q hq
theorem paired_get {α β : Type} {F : α → β → Prop} {vs : List α} {ys : List β} (h : Paired F vs ys) : ∀ {j : Nat} {v : α}, vs[j]? = some v → ∃ y, ys[j]? = some y ∧ F v y := by
  induction h with
  | nil => intro j v e; cases e
  | cons h r ih =>
    intro j v e
    cases j with
    | zero => cases e; exact ⟨_, rfl, h⟩
    | succ j => exact ih e
theorem paired_length {α β : Type} {F : α → β → Prop} {vs : List α} {ys : List β} (h : Paired F vs ys) : vs.length = ys.length := by
  induction h with
  | nil => rfl
  | cons _ _ ih => exact congrArg (· + 1) ih
set_option maxRecDepth 100000 in
set_option maxHeartbeats 4000000 in
theorem part5 {w : World} {s₁ : Shared} {A : Around} {L' fa aD aR aO aG aB x : Addr} {cd : Value} {h : Heap} {tk : Tok} {m₀ : Str → Option Value} {d4 w0 w1 P R S wd side fac : Int} {sm : Bool} {tWd tS tR tsd tfc tti : Tok}
    {kO kG kB : Nat} {vr vO vG vB : List Value} {oWd oO oK : Obj} {tl : List (Addr × Obj)} {p : Program} {loose : List Str} {mean : ExcName → Option Value} {mg mb : Str → Option Value} {Q : Flow → Shared → Prop}
    (X : (hd.heap_39 w.params).In (Gh s₁.heap)) (T : Top p loose mean mg mb (Gh s₁.heap)) (W' : Wt w s₁.heap)
    (hA1 : A.depth + 100 < recursionLimit) (hA2 : A.handled = none) (hA3 : A.units + 64 < cLine)
    (F : Fr (Gh s₁.heap) L' h (fun y => if y = Str.ofString "back" then some (Value.ref aB) else if y = Str.ofString "digits" then some (Value.ref aG) else if y = Str.ofString "times" then some (Value.int d4 tti) else if y = Str.ofString "factor" then some (Value.int fac tfc) else if y = Str.ofString "same" then some (Value.bool sm) else if y = Str.ofString "side" then some (Value.int side tsd) else if y = Str.ofString "size" then some (Value.int S tS) else if y = Str.ofString "rounds" then some (Value.int R tR) else if y = Str.ofString "drawn" then some (Value.ref aD) else m₀ y))
    (N : News (Gh s₁.heap) L' h ((aB, W.listOf (List.toArray vB) kB) :: (aG, W.listOf (List.toArray vG) kG) :: (aO, W.listOf (List.toArray vO) kO) ::
      (L' + 1 + 1 + 1 + 1 + 1 + 1 + 1, oK) :: (L' + 1 + 1 + 1 + 1 + 1 + 1, oO) :: (L' + 1 + 1 + 1, oWd) :: tl))
    (iO : IntsAre vO (orderF P S side w0 w1)) (iG : IntsAre vG (digF wd (d4.natAbs : Int))) (iB : IntsAre vB (backF (orderF P S side w0 w1) S.toNat))
    (hK : oK.data = .cell none) (hO : oO.data = .cell (some (.ref aO))) (hWd : oWd.data = .cell (some (.int wd tWd)))
    (hTl : Tail2 w s₁.heap L' tl x aR vr (cardsF P S side) side w0 w1)
    (hPb : 2 ≤ P ∧ P ≤ 4) (hSb : 4 ≤ S ∧ S ≤ 16) (hwd : 1 ≤ wd ∧ wd ≤ 3) (hfb : -5 < fac ∧ fac < 5) (hd4 : Builtin.Int.intBits d4 ≤ 1048576)
    (PF : Facts P S side w0 w1 fac sm)
    (ret : ∀ h' tk', Wt w h' → KeepBut s₁.heap h' → Q (.ret (.bool true)) { s₁ with heap := h', toks := tk' }) :
    wpAny (model Challenge.rw_ph0098_01.row.prog w) A (execs (lawParts.1.drop 18) (envOfC (Str.ofString "law") lawParts.2 L' fa cd)) Q (fun _ _ => False) { s₁ with heap := h, toks := tk } := by
  unfold lawParts Challenge.pw_ph0098_01
  dsimp only [List.drop_succ_cons, List.drop_zero, List.drop]
  obtain ⟨hTr, hT6, hT7⟩ := id hTl
  have hOl := PF.len
  have hOr := PF.inr
  have hgl : (digF wd (d4.natAbs : Int)).length ≤ 1048700 := by
    obtain ⟨n, rfl⟩ : ∃ n : Nat, wd = n := ⟨wd.toNat, by (with_reducible exact o_tnc (by assumption))⟩
    exact digF_length (by (lia)) (by (lia)) (by have := intBits_natAbs_le hd4; (with_reducible exact Nat.le_trans (by assumption) (by decide)))
  have hgb : ∀ d ∈ digF wd (d4.natAbs : Int), 0 ≤ d ∧ d < 2 ^ wd.toNat := by
    obtain ⟨n, rfl⟩ : ∃ n : Nat, wd = n := ⟨wd.toNat, by (with_reducible exact o_tnc (by assumption))⟩
    rw [Int.toNat_natCast]; exact digF_bound
  walk1
  (repeat' (first | (k_unfold; (try dsimp only)) | ((((fail_if_success k_end); (fail_if_success (with_reducible show wpAny _ _ (exec (PySem.Stmt.For _ _ _ _ _) _) _ _ _)); (fail_if_success (with_reducible show wpAny _ _ (eval (PySem.Expr.ListComp _ _ _ _) _) _ _ _)); (fail_if_success (with_reducible show wpAny _ _ (call (Value.ref _) _) _ _ _)); (fail_if_success (with_reducible show wpAny _ _ (compareOp _ (Value.ref _) (Value.ref _)) _ _ _)); (fail_if_success (with_reducible show wpAny _ _ (exec _ _) _ _ _)); (fail_if_success (with_reducible show wpAny _ _ (subscriptTail _ (PySem.Expr.Slice _ _ _ _) _ _) _ _ _)); (fail_if_success (with_reducible show wpAny _ _ (call (Value.type "zip") _) _ _ _)))); walk1) | (dsimp only; (((fail_if_success k_end); (fail_if_success (with_reducible show wpAny _ _ (exec (PySem.Stmt.For _ _ _ _ _) _) _ _ _)); (fail_if_success (with_reducible show wpAny _ _ (eval (PySem.Expr.ListComp _ _ _ _) _) _ _ _)); (fail_if_success (with_reducible show wpAny _ _ (call (Value.ref _) _) _ _ _)); (fail_if_success (with_reducible show wpAny _ _ (compareOp _ (Value.ref _) (Value.ref _)) _ _ _)); (fail_if_success (with_reducible show wpAny _ _ (exec _ _) _ _ _)); (fail_if_success (with_reducible show wpAny _ _ (subscriptTail _ (PySem.Expr.Slice _ _ _ _) _ _) _ _ _)); (fail_if_success (with_reducible show wpAny _ _ (call (Value.type "zip") _) _ _ _)))); walk1)))
  walk1
  (repeat' (first | (k_unfold; (try dsimp only)) | ((((fail_if_success k_end); (fail_if_success (with_reducible show wpAny _ _ (exec (PySem.Stmt.For _ _ _ _ _) _) _ _ _)); (fail_if_success (with_reducible show wpAny _ _ (eval (PySem.Expr.ListComp _ _ _ _) _) _ _ _)); (fail_if_success (with_reducible show wpAny _ _ (call (Value.ref _) _) _ _ _)); (fail_if_success (with_reducible show wpAny _ _ (compareOp _ (Value.ref _) (Value.ref _)) _ _ _)); (fail_if_success (with_reducible show wpAny _ _ (exec _ _) _ _ _)); (fail_if_success (with_reducible show wpAny _ _ (subscriptTail _ (PySem.Expr.Slice _ _ _ _) _ _) _ _ _)); (fail_if_success (with_reducible show wpAny _ _ (call (Value.type "zip") _) _ _ _)))); walk1) | (dsimp only; (((fail_if_success k_end); (fail_if_success (with_reducible show wpAny _ _ (exec (PySem.Stmt.For _ _ _ _ _) _) _ _ _)); (fail_if_success (with_reducible show wpAny _ _ (eval (PySem.Expr.ListComp _ _ _ _) _) _ _ _)); (fail_if_success (with_reducible show wpAny _ _ (call (Value.ref _) _) _ _ _)); (fail_if_success (with_reducible show wpAny _ _ (compareOp _ (Value.ref _) (Value.ref _)) _ _ _)); (fail_if_success (with_reducible show wpAny _ _ (exec _ _) _ _ _)); (fail_if_success (with_reducible show wpAny _ _ (subscriptTail _ (PySem.Expr.Slice _ _ _ _) _ _) _ _ _)); (fail_if_success (with_reducible show wpAny _ _ (call (Value.type "zip") _) _ _ _)))); walk1)))
  have Wh1 := (hTr _ F.keep fun q hq => (N q (by (repeat' (first | with_reducible assumption | with_reducible exact List.mem_cons_self | with_reducible refine List.mem_cons_of_mem _ ?_ | with_reducible refine List.mem_append_left _ ?_)))).1).1
  refine ⟨X.keeps F.keep, ?_⟩
  refine due_spec Wh1.wd (by (with_reducible exact o_dp (by assumption) (by decide))) hA2 (by (with_reducible exact o_negc (by assumption) (by decide))) (by (with_reducible exact o_litc (by assumption) (by decide))) (by (lia)) (by (lia)) PF.pl (Nat.lt_trans PF.pl2 (by decide)) PF.pb (PF.idx d4) fun aE tk2 h2 hk2 hf2 hl2 => ?_
  refine new_li F N hk2 hf2 hl2 fun vE kE F2 N2 iE => ?_
  clear F N
  (repeat' (first | (k_unfold; (try dsimp only)) | ((((fail_if_success k_end); (fail_if_success (with_reducible show wpAny _ _ (exec (PySem.Stmt.For _ _ _ _ _) _) _ _ _)); (fail_if_success (with_reducible show wpAny _ _ (eval (PySem.Expr.ListComp _ _ _ _) _) _ _ _)); (fail_if_success (with_reducible show wpAny _ _ (call (Value.ref _) _) _ _ _)); (fail_if_success (with_reducible show wpAny _ _ (compareOp _ (Value.ref _) (Value.ref _)) _ _ _)); (fail_if_success (with_reducible show wpAny _ _ (exec _ _) _ _ _)); (fail_if_success (with_reducible show wpAny _ _ (subscriptTail _ (PySem.Expr.Slice _ _ _ _) _ _) _ _ _)); (fail_if_success (with_reducible show wpAny _ _ (call (Value.type "zip") _) _ _ _)))); walk1) | (dsimp only; (((fail_if_success k_end); (fail_if_success (with_reducible show wpAny _ _ (exec (PySem.Stmt.For _ _ _ _ _) _) _ _ _)); (fail_if_success (with_reducible show wpAny _ _ (eval (PySem.Expr.ListComp _ _ _ _) _) _ _ _)); (fail_if_success (with_reducible show wpAny _ _ (call (Value.ref _) _) _ _ _)); (fail_if_success (with_reducible show wpAny _ _ (compareOp _ (Value.ref _) (Value.ref _)) _ _ _)); (fail_if_success (with_reducible show wpAny _ _ (exec _ _) _ _ _)); (fail_if_success (with_reducible show wpAny _ _ (subscriptTail _ (PySem.Expr.Slice _ _ _ _) _ _) _ _ _)); (fail_if_success (with_reducible show wpAny _ _ (call (Value.type "zip") _) _ _ _)))); walk1)))
  rename Fr _ _ _ _ => F3
  rename News _ _ _ _ => N3
  have hOB : InR (backF (orderF P S side w0 w1) S.toNat).length (backF (orderF P S side w0 w1) S.toNat) := PF.binr
  have hBl : (backF (orderF P S side w0 w1) S.toNat).length ≤ 50 := by unfold backF; simp; (with_reducible exact o_lec (by assumption) (by decide))
  refine cut_kept (s₁ := s₁) F3 N3 ?_ ?_
  · walk1
    (repeat' (first | (k_unfold; (try dsimp only)) | ((((fail_if_success k_end); (fail_if_success (with_reducible show wpAny _ _ (exec (PySem.Stmt.For _ _ _ _ _) _) _ _ _)); (fail_if_success (with_reducible show wpAny _ _ (eval (PySem.Expr.ListComp _ _ _ _) _) _ _ _)); (fail_if_success (with_reducible show wpAny _ _ (call (Value.ref _) _) _ _ _)); (fail_if_success (with_reducible show wpAny _ _ (compareOp _ (Value.ref _) (Value.ref _)) _ _ _)); (fail_if_success (with_reducible show wpAny _ _ (exec _ _) _ _ _)); (fail_if_success (with_reducible show wpAny _ _ (subscriptTail _ (PySem.Expr.Slice _ _ _ _) _ _) _ _ _)); (fail_if_success (with_reducible show wpAny _ _ (call (Value.type "zip") _) _ _ _)))); walk1) | (dsimp only; (((fail_if_success k_end); (fail_if_success (with_reducible show wpAny _ _ (exec (PySem.Stmt.For _ _ _ _ _) _) _ _ _)); (fail_if_success (with_reducible show wpAny _ _ (eval (PySem.Expr.ListComp _ _ _ _) _) _ _ _)); (fail_if_success (with_reducible show wpAny _ _ (call (Value.ref _) _) _ _ _)); (fail_if_success (with_reducible show wpAny _ _ (compareOp _ (Value.ref _) (Value.ref _)) _ _ _)); (fail_if_success (with_reducible show wpAny _ _ (exec _ _) _ _ _)); (fail_if_success (with_reducible show wpAny _ _ (subscriptTail _ (PySem.Expr.Slice _ _ _ _) _ _) _ _ _)); (fail_if_success (with_reducible show wpAny _ _ (call (Value.type "zip") _) _ _ _)))); walk1)))
    all_goals (
      rename Fr _ _ _ _ => F4
      rename News _ _ _ _ => N4
      have Wh2 := (hTr _ F4.keep fun q hq => (N4 q (by (repeat' (first | with_reducible assumption | with_reducible exact List.mem_cons_self | with_reducible refine List.mem_cons_of_mem _ ?_ | with_reducible refine List.mem_append_left _ ?_)))).1).1
      refine ⟨X.keeps F4.keep, ?_⟩)
    · rename (0 : Int) < _ => hp
      refine many_spec Wh2.wd (by (with_reducible exact o_dp (by assumption) (by decide))) hA2 hOr (by (lia)) hwd.1 hwd.2 ⟨vO, kO, N4.get (.tail _ (.tail _ (.tail _ (.head _)))), iO⟩ ⟨vG, kG, N4.get (.tail _ (.tail _ (.head _))), iG⟩ hgb (by have := sizeLine_eq; (with_reducible exact o_szn (by assumption) (by decide))) fun aM tkM hM kM fM lM => ?_
      refine new_li F4 N4 kM fM lM fun vM nM F5 N5 iM => ?_
      clear F4 N4
      (repeat' (first | (k_unfold; (try dsimp only)) | ((((fail_if_success k_end); (fail_if_success (with_reducible show wpAny _ _ (exec (PySem.Stmt.For _ _ _ _ _) _) _ _ _)); (fail_if_success (with_reducible show wpAny _ _ (eval (PySem.Expr.ListComp _ _ _ _) _) _ _ _)); (fail_if_success (with_reducible show wpAny _ _ (call (Value.ref _) _) _ _ _)); (fail_if_success (with_reducible show wpAny _ _ (compareOp _ (Value.ref _) (Value.ref _)) _ _ _)); (fail_if_success (with_reducible show wpAny _ _ (exec _ _) _ _ _)); (fail_if_success (with_reducible show wpAny _ _ (subscriptTail _ (PySem.Expr.Slice _ _ _ _) _ _) _ _ _)); (fail_if_success (with_reducible show wpAny _ _ (call (Value.type "zip") _) _ _ _)))); walk1) | (dsimp only; (((fail_if_success k_end); (fail_if_success (with_reducible show wpAny _ _ (exec (PySem.Stmt.For _ _ _ _ _) _) _ _ _)); (fail_if_success (with_reducible show wpAny _ _ (eval (PySem.Expr.ListComp _ _ _ _) _) _ _ _)); (fail_if_success (with_reducible show wpAny _ _ (call (Value.ref _) _) _ _ _)); (fail_if_success (with_reducible show wpAny _ _ (compareOp _ (Value.ref _) (Value.ref _)) _ _ _)); (fail_if_success (with_reducible show wpAny _ _ (exec _ _) _ _ _)); (fail_if_success (with_reducible show wpAny _ _ (subscriptTail _ (PySem.Expr.Slice _ _ _ _) _ _) _ _ _)); (fail_if_success (with_reducible show wpAny _ _ (call (Value.type "zip") _) _ _ _)))); walk1)))
      rename Fr _ _ _ _ => F6
      rename News _ _ _ _ => N6
      refine ke_ne_ints (N6.isList (.head _)) (N6.isList (.tail _ (.head _))) iM iE hA3 ?_
      have e := PF.many wd.toNat d4 (by (with_reducible exact o_pos3c (by assumption)))
      rw [if_pos hp, Int.toNat_of_nonneg (by (with_reducible exact o_pos2 (by assumption)))] at e
      rw [e, show (!decide (dueF S fac sm d4 = dueF S fac sm d4)) = false from by simp]
      (repeat' (first | (k_unfold; (try dsimp only)) | ((((fail_if_success k_end); (fail_if_success (with_reducible show wpAny _ _ (exec (PySem.Stmt.For _ _ _ _ _) _) _ _ _)); (fail_if_success (with_reducible show wpAny _ _ (eval (PySem.Expr.ListComp _ _ _ _) _) _ _ _)); (fail_if_success (with_reducible show wpAny _ _ (call (Value.ref _) _) _ _ _)); (fail_if_success (with_reducible show wpAny _ _ (compareOp _ (Value.ref _) (Value.ref _)) _ _ _)); (fail_if_success (with_reducible show wpAny _ _ (exec _ _) _ _ _)); (fail_if_success (with_reducible show wpAny _ _ (subscriptTail _ (PySem.Expr.Slice _ _ _ _) _ _) _ _ _)); (fail_if_success (with_reducible show wpAny _ _ (call (Value.type "zip") _) _ _ _)))); walk1) | (dsimp only; (((fail_if_success k_end); (fail_if_success (with_reducible show wpAny _ _ (exec (PySem.Stmt.For _ _ _ _ _) _) _ _ _)); (fail_if_success (with_reducible show wpAny _ _ (eval (PySem.Expr.ListComp _ _ _ _) _) _ _ _)); (fail_if_success (with_reducible show wpAny _ _ (call (Value.ref _) _) _ _ _)); (fail_if_success (with_reducible show wpAny _ _ (compareOp _ (Value.ref _) (Value.ref _)) _ _ _)); (fail_if_success (with_reducible show wpAny _ _ (exec _ _) _ _ _)); (fail_if_success (with_reducible show wpAny _ _ (subscriptTail _ (PySem.Expr.Slice _ _ _ _) _ _) _ _ _)); (fail_if_success (with_reducible show wpAny _ _ (call (Value.type "zip") _) _ _ _)))); walk1)))
      rename Fr _ _ _ _ => F7
      rename News _ _ _ _ => N7
      exact ⟨rfl, _, _, rfl, F7, News.sub N7 fun q hq => .tail _ hq⟩
    · rename ¬ (0 : Int) < _ => hp
      refine many_spec Wh2.wd (by (with_reducible exact o_dp (by assumption) (by decide))) hA2 hOB hBl hwd.1 hwd.2 ⟨vB, kB, N4.get (.tail _ (.head _)), iB⟩ ⟨vG, kG, N4.get (.tail _ (.tail _ (.head _))), iG⟩ hgb (by have := sizeLine_eq; (with_reducible exact o_szn (by assumption) (by decide))) fun aM tkM hM kM fM lM => ?_
      refine new_li F4 N4 kM fM lM fun vM nM F5 N5 iM => ?_
      clear F4 N4
      (repeat' (first | (k_unfold; (try dsimp only)) | ((((fail_if_success k_end); (fail_if_success (with_reducible show wpAny _ _ (exec (PySem.Stmt.For _ _ _ _ _) _) _ _ _)); (fail_if_success (with_reducible show wpAny _ _ (eval (PySem.Expr.ListComp _ _ _ _) _) _ _ _)); (fail_if_success (with_reducible show wpAny _ _ (call (Value.ref _) _) _ _ _)); (fail_if_success (with_reducible show wpAny _ _ (compareOp _ (Value.ref _) (Value.ref _)) _ _ _)); (fail_if_success (with_reducible show wpAny _ _ (exec _ _) _ _ _)); (fail_if_success (with_reducible show wpAny _ _ (subscriptTail _ (PySem.Expr.Slice _ _ _ _) _ _) _ _ _)); (fail_if_success (with_reducible show wpAny _ _ (call (Value.type "zip") _) _ _ _)))); walk1) | (dsimp only; (((fail_if_success k_end); (fail_if_success (with_reducible show wpAny _ _ (exec (PySem.Stmt.For _ _ _ _ _) _) _ _ _)); (fail_if_success (with_reducible show wpAny _ _ (eval (PySem.Expr.ListComp _ _ _ _) _) _ _ _)); (fail_if_success (with_reducible show wpAny _ _ (call (Value.ref _) _) _ _ _)); (fail_if_success (with_reducible show wpAny _ _ (compareOp _ (Value.ref _) (Value.ref _)) _ _ _)); (fail_if_success (with_reducible show wpAny _ _ (exec _ _) _ _ _)); (fail_if_success (with_reducible show wpAny _ _ (subscriptTail _ (PySem.Expr.Slice _ _ _ _) _ _) _ _ _)); (fail_if_success (with_reducible show wpAny _ _ (call (Value.type "zip") _) _ _ _)))); walk1)))
      rename Fr _ _ _ _ => F6
      rename News _ _ _ _ => N6
      refine ke_ne_ints (N6.isList (.head _)) (N6.isList (.tail _ (.head _))) iM iE hA3 ?_
      have e := PF.many wd.toNat d4 (by (with_reducible exact o_pos3c (by assumption)))
      rw [if_neg hp, Int.toNat_of_nonneg (by (with_reducible exact o_pos2 (by assumption)))] at e
      rw [e, show (!decide (dueF S fac sm d4 = dueF S fac sm d4)) = false from by simp]
      (repeat' (first | (k_unfold; (try dsimp only)) | ((((fail_if_success k_end); (fail_if_success (with_reducible show wpAny _ _ (exec (PySem.Stmt.For _ _ _ _ _) _) _ _ _)); (fail_if_success (with_reducible show wpAny _ _ (eval (PySem.Expr.ListComp _ _ _ _) _) _ _ _)); (fail_if_success (with_reducible show wpAny _ _ (call (Value.ref _) _) _ _ _)); (fail_if_success (with_reducible show wpAny _ _ (compareOp _ (Value.ref _) (Value.ref _)) _ _ _)); (fail_if_success (with_reducible show wpAny _ _ (exec _ _) _ _ _)); (fail_if_success (with_reducible show wpAny _ _ (subscriptTail _ (PySem.Expr.Slice _ _ _ _) _ _) _ _ _)); (fail_if_success (with_reducible show wpAny _ _ (call (Value.type "zip") _) _ _ _)))); walk1) | (dsimp only; (((fail_if_success k_end); (fail_if_success (with_reducible show wpAny _ _ (exec (PySem.Stmt.For _ _ _ _ _) _) _ _ _)); (fail_if_success (with_reducible show wpAny _ _ (eval (PySem.Expr.ListComp _ _ _ _) _) _ _ _)); (fail_if_success (with_reducible show wpAny _ _ (call (Value.ref _) _) _ _ _)); (fail_if_success (with_reducible show wpAny _ _ (compareOp _ (Value.ref _) (Value.ref _)) _ _ _)); (fail_if_success (with_reducible show wpAny _ _ (exec _ _) _ _ _)); (fail_if_success (with_reducible show wpAny _ _ (subscriptTail _ (PySem.Expr.Slice _ _ _ _) _ _) _ _ _)); (fail_if_success (with_reducible show wpAny _ _ (call (Value.type "zip") _) _ _ _)))); walk1)))
      rename Fr _ _ _ _ => F7
      rename News _ _ _ _ => N7
      exact ⟨rfl, _, _, rfl, F7, News.sub N7 fun q hq => .tail _ hq⟩
  clear F3 N3
  intro hC1 tkC1 F4 N4
  (repeat' (first | (k_unfold; (try dsimp only)) | ((((fail_if_success k_end); (fail_if_success (with_reducible show wpAny _ _ (exec (PySem.Stmt.For _ _ _ _ _) _) _ _ _)); (fail_if_success (with_reducible show wpAny _ _ (eval (PySem.Expr.ListComp _ _ _ _) _) _ _ _)); (fail_if_success (with_reducible show wpAny _ _ (call (Value.ref _) _) _ _ _)); (fail_if_success (with_reducible show wpAny _ _ (compareOp _ (Value.ref _) (Value.ref _)) _ _ _)); (fail_if_success (with_reducible show wpAny _ _ (exec _ _) _ _ _)); (fail_if_success (with_reducible show wpAny _ _ (subscriptTail _ (PySem.Expr.Slice _ _ _ _) _ _) _ _ _)); (fail_if_success (with_reducible show wpAny _ _ (call (Value.type "zip") _) _ _ _)))); walk1) | (dsimp only; (((fail_if_success k_end); (fail_if_success (with_reducible show wpAny _ _ (exec (PySem.Stmt.For _ _ _ _ _) _) _ _ _)); (fail_if_success (with_reducible show wpAny _ _ (eval (PySem.Expr.ListComp _ _ _ _) _) _ _ _)); (fail_if_success (with_reducible show wpAny _ _ (call (Value.ref _) _) _ _ _)); (fail_if_success (with_reducible show wpAny _ _ (compareOp _ (Value.ref _) (Value.ref _)) _ _ _)); (fail_if_success (with_reducible show wpAny _ _ (exec _ _) _ _ _)); (fail_if_success (with_reducible show wpAny _ _ (subscriptTail _ (PySem.Expr.Slice _ _ _ _) _ _) _ _ _)); (fail_if_success (with_reducible show wpAny _ _ (call (Value.type "zip") _) _ _ _)))); walk1)))
  have pl0 := PF.pl
  have pl2 := PF.pl2
  have hcl : cntF S fac sm = (powersF fac (dueBase S sm)).length := rfl
  refine cut_keptT (s₁ := s₁) (x := Str.ofString "count") (cntF S fac sm) F4 N4 ?_ ?_
  · walk1
    (repeat' (first | (k_unfold; (try dsimp only)) | ((((fail_if_success k_end); (fail_if_success (with_reducible show wpAny _ _ (exec (PySem.Stmt.For _ _ _ _ _) _) _ _ _)); (fail_if_success (with_reducible show wpAny _ _ (eval (PySem.Expr.ListComp _ _ _ _) _) _ _ _)); (fail_if_success (with_reducible show wpAny _ _ (call (Value.ref _) _) _ _ _)); (fail_if_success (with_reducible show wpAny _ _ (compareOp _ (Value.ref _) (Value.ref _)) _ _ _)); (fail_if_success (with_reducible show wpAny _ _ (exec _ _) _ _ _)); (fail_if_success (with_reducible show wpAny _ _ (subscriptTail _ (PySem.Expr.Slice _ _ _ _) _ _) _ _ _)); (fail_if_success (with_reducible show wpAny _ _ (call (Value.type "zip") _) _ _ _)))); walk1) | (dsimp only; (((fail_if_success k_end); (fail_if_success (with_reducible show wpAny _ _ (exec (PySem.Stmt.For _ _ _ _ _) _) _ _ _)); (fail_if_success (with_reducible show wpAny _ _ (eval (PySem.Expr.ListComp _ _ _ _) _) _ _ _)); (fail_if_success (with_reducible show wpAny _ _ (call (Value.ref _) _) _ _ _)); (fail_if_success (with_reducible show wpAny _ _ (compareOp _ (Value.ref _) (Value.ref _)) _ _ _)); (fail_if_success (with_reducible show wpAny _ _ (exec _ _) _ _ _)); (fail_if_success (with_reducible show wpAny _ _ (subscriptTail _ (PySem.Expr.Slice _ _ _ _) _ _) _ _ _)); (fail_if_success (with_reducible show wpAny _ _ (call (Value.type "zip") _) _ _ _)))); walk1)))
    all_goals (
      rename sm = _ => hsm
      have Wh2 := (hTr _ F4.keep fun q hq => (N4 q (by (repeat' (first | with_reducible assumption | with_reducible exact List.mem_cons_self | with_reducible refine List.mem_cons_of_mem _ ?_ | with_reducible refine List.mem_append_left _ ?_)))).1).1
      refine ⟨X.keeps F4.keep, ?_⟩
      refine powers_spec Wh2.wd (by (with_reducible exact o_dp (by assumption) (by decide))) hA2 (by (lia)) (by (lia)) (by (lia)) (by (lia)) fun aM tkM hM kM fM lM => ?_
      refine new_li F4 N4 kM fM lM fun vM nM F5 N5 iM => ?_
      clear F4 N4
      have hlM := iM.length
      have hzM : vM.toArray.size ≤ sizeLine := by have := sizeLine_eq; have hx : vM.length = cntF S fac sm := by rw [hlM, hcl, hsm]; rfl
                                                  simp; (lia)
      (repeat' (first | (k_unfold; (try dsimp only)) | ((((fail_if_success k_end); (fail_if_success (with_reducible show wpAny _ _ (exec (PySem.Stmt.For _ _ _ _ _) _) _ _ _)); (fail_if_success (with_reducible show wpAny _ _ (eval (PySem.Expr.ListComp _ _ _ _) _) _ _ _)); (fail_if_success (with_reducible show wpAny _ _ (call (Value.ref _) _) _ _ _)); (fail_if_success (with_reducible show wpAny _ _ (compareOp _ (Value.ref _) (Value.ref _)) _ _ _)); (fail_if_success (with_reducible show wpAny _ _ (exec _ _) _ _ _)); (fail_if_success (with_reducible show wpAny _ _ (subscriptTail _ (PySem.Expr.Slice _ _ _ _) _ _) _ _ _)); (fail_if_success (with_reducible show wpAny _ _ (call (Value.type "zip") _) _ _ _)))); walk1) | (dsimp only; (((fail_if_success k_end); (fail_if_success (with_reducible show wpAny _ _ (exec (PySem.Stmt.For _ _ _ _ _) _) _ _ _)); (fail_if_success (with_reducible show wpAny _ _ (eval (PySem.Expr.ListComp _ _ _ _) _) _ _ _)); (fail_if_success (with_reducible show wpAny _ _ (call (Value.ref _) _) _ _ _)); (fail_if_success (with_reducible show wpAny _ _ (compareOp _ (Value.ref _) (Value.ref _)) _ _ _)); (fail_if_success (with_reducible show wpAny _ _ (exec _ _) _ _ _)); (fail_if_success (with_reducible show wpAny _ _ (subscriptTail _ (PySem.Expr.Slice _ _ _ _) _ _) _ _ _)); (fail_if_success (with_reducible show wpAny _ _ (call (Value.type "zip") _) _ _ _)))); walk1)))
      refine len_list (isList_of (n := nM) (N5.get (.head _))) (by have := sizeLine_eq; simp; simp at hzM; (lia)) ?_
      (repeat' (first | (k_unfold; (try dsimp only)) | ((((fail_if_success k_end); (fail_if_success (with_reducible show wpAny _ _ (exec (PySem.Stmt.For _ _ _ _ _) _) _ _ _)); (fail_if_success (with_reducible show wpAny _ _ (eval (PySem.Expr.ListComp _ _ _ _) _) _ _ _)); (fail_if_success (with_reducible show wpAny _ _ (call (Value.ref _) _) _ _ _)); (fail_if_success (with_reducible show wpAny _ _ (compareOp _ (Value.ref _) (Value.ref _)) _ _ _)); (fail_if_success (with_reducible show wpAny _ _ (exec _ _) _ _ _)); (fail_if_success (with_reducible show wpAny _ _ (subscriptTail _ (PySem.Expr.Slice _ _ _ _) _ _) _ _ _)); (fail_if_success (with_reducible show wpAny _ _ (call (Value.type "zip") _) _ _ _)))); walk1) | (dsimp only; (((fail_if_success k_end); (fail_if_success (with_reducible show wpAny _ _ (exec (PySem.Stmt.For _ _ _ _ _) _) _ _ _)); (fail_if_success (with_reducible show wpAny _ _ (eval (PySem.Expr.ListComp _ _ _ _) _) _ _ _)); (fail_if_success (with_reducible show wpAny _ _ (call (Value.ref _) _) _ _ _)); (fail_if_success (with_reducible show wpAny _ _ (compareOp _ (Value.ref _) (Value.ref _)) _ _ _)); (fail_if_success (with_reducible show wpAny _ _ (exec _ _) _ _ _)); (fail_if_success (with_reducible show wpAny _ _ (subscriptTail _ (PySem.Expr.Slice _ _ _ _) _ _) _ _ _)); (fail_if_success (with_reducible show wpAny _ _ (call (Value.type "zip") _) _ _ _)))); walk1)))
      rename Fr _ _ _ _ => F7
      rename News _ _ _ _ => N7
      try dsimp only at F7
      have e : cntF S fac sm = vM.length := by rw [hlM, hcl, hsm]; rfl
      rw [e]
      exact ⟨by first | rfl | trivial, _, _, _, rfl, by simpa using F7, News.sub N7 fun q hq => .tail _ hq⟩)
  clear F4 N4
  intro hC2 tkC2 tct F4 N4
  (repeat' (first | (k_unfold; (try dsimp only)) | ((((fail_if_success k_end); (fail_if_success (with_reducible show wpAny _ _ (exec (PySem.Stmt.For _ _ _ _ _) _) _ _ _)); (fail_if_success (with_reducible show wpAny _ _ (eval (PySem.Expr.ListComp _ _ _ _) _) _ _ _)); (fail_if_success (with_reducible show wpAny _ _ (call (Value.ref _) _) _ _ _)); (fail_if_success (with_reducible show wpAny _ _ (compareOp _ (Value.ref _) (Value.ref _)) _ _ _)); (fail_if_success (with_reducible show wpAny _ _ (exec _ _) _ _ _)); (fail_if_success (with_reducible show wpAny _ _ (subscriptTail _ (PySem.Expr.Slice _ _ _ _) _ _) _ _ _)); (fail_if_success (with_reducible show wpAny _ _ (call (Value.type "zip") _) _ _ _)))); walk1) | (dsimp only; (((fail_if_success k_end); (fail_if_success (with_reducible show wpAny _ _ (exec (PySem.Stmt.For _ _ _ _ _) _) _ _ _)); (fail_if_success (with_reducible show wpAny _ _ (eval (PySem.Expr.ListComp _ _ _ _) _) _ _ _)); (fail_if_success (with_reducible show wpAny _ _ (call (Value.ref _) _) _ _ _)); (fail_if_success (with_reducible show wpAny _ _ (compareOp _ (Value.ref _) (Value.ref _)) _ _ _)); (fail_if_success (with_reducible show wpAny _ _ (exec _ _) _ _ _)); (fail_if_success (with_reducible show wpAny _ _ (subscriptTail _ (PySem.Expr.Slice _ _ _ _) _ _) _ _ _)); (fail_if_success (with_reducible show wpAny _ _ (call (Value.type "zip") _) _ _ _)))); walk1)))
  have hho : homeF S fac sm = if sm = true ∧ fac < 0 ∧ cntF S fac sm % 2 = 1 then 2 * cntF S fac sm else cntF S fac sm := rfl
  have hhb : 1 ≤ homeF S fac sm ∧ homeF S fac sm ≤ 80 := by rw [hho]; split <;> (lia)
  generalize hoe : homeF S fac sm = ho at *
  generalize hce : cntF S fac sm = ct at *
  refine cut_keptT (s₁ := s₁) (x := Str.ofString "home") ho F4 N4 ?_ ?_
  · skip
    have hm2 : ∀ v : Int, (ct : Int).fmod 2 = v ↔ ((ct % 2 : Nat) : Int) = v := fun v => by rw [Int.fmod_eq_emod_of_nonneg _ (by decide)]; rfl
    walk1
    (repeat' (first | (k_unfold; (try dsimp only)) | ((((fail_if_success k_end); (fail_if_success (with_reducible show wpAny _ _ (exec (PySem.Stmt.For _ _ _ _ _) _) _ _ _)); (fail_if_success (with_reducible show wpAny _ _ (eval (PySem.Expr.ListComp _ _ _ _) _) _ _ _)); (fail_if_success (with_reducible show wpAny _ _ (call (Value.ref _) _) _ _ _)); (fail_if_success (with_reducible show wpAny _ _ (compareOp _ (Value.ref _) (Value.ref _)) _ _ _)); (fail_if_success (with_reducible show wpAny _ _ (exec _ _) _ _ _)); (fail_if_success (with_reducible show wpAny _ _ (subscriptTail _ (PySem.Expr.Slice _ _ _ _) _ _) _ _ _)); (fail_if_success (with_reducible show wpAny _ _ (call (Value.type "zip") _) _ _ _)))); walk1) | (dsimp only; (((fail_if_success k_end); (fail_if_success (with_reducible show wpAny _ _ (exec (PySem.Stmt.For _ _ _ _ _) _) _ _ _)); (fail_if_success (with_reducible show wpAny _ _ (eval (PySem.Expr.ListComp _ _ _ _) _) _ _ _)); (fail_if_success (with_reducible show wpAny _ _ (call (Value.ref _) _) _ _ _)); (fail_if_success (with_reducible show wpAny _ _ (compareOp _ (Value.ref _) (Value.ref _)) _ _ _)); (fail_if_success (with_reducible show wpAny _ _ (exec _ _) _ _ _)); (fail_if_success (with_reducible show wpAny _ _ (subscriptTail _ (PySem.Expr.Slice _ _ _ _) _ _) _ _ _)); (fail_if_success (with_reducible show wpAny _ _ (call (Value.type "zip") _) _ _ _)))); walk1)))
    all_goals (
      rename Fr _ _ _ _ => F7
      rename News _ _ _ _ => N7
      try dsimp only at F7
      first
        | (rename Int.fmod _ _ = _ => h1; rename fac < 0 => h2; rename sm = true => h3; have h4 := (hm2 _).mp h1; rw [if_pos ⟨h3, h2, by (lia)⟩] at hho; have e : (ho : Int) = 2 * (ct : Int) := by (lia)
           rw [e]; exact ⟨rfl, _, _, _, rfl, F7, N7⟩)
        | (rename Int.fmod _ _ ≠ _ => h1; rw [if_neg (fun h => h1 ((hm2 _).mpr (by (lia))))] at hho; rw [hho]; exact ⟨rfl, _, _, _, rfl, F7, N7⟩)
        | (rename ¬ fac < 0 => h1; rw [if_neg (fun h => h1 h.2.1)] at hho; rw [hho]; exact ⟨rfl, _, _, _, rfl, F7, N7⟩)
        | (rename sm = false => h1; rw [if_neg (fun h => by rw [h1] at h; cases h.1)] at hho; rw [hho]; exact ⟨rfl, _, _, _, rfl, F7, N7⟩))
  clear F4 N4
  intro hC3 tkC3 tho F4 N4
  (repeat' (first | (k_unfold; (try dsimp only)) | ((((fail_if_success k_end); (fail_if_success (with_reducible show wpAny _ _ (exec (PySem.Stmt.For _ _ _ _ _) _) _ _ _)); (fail_if_success (with_reducible show wpAny _ _ (eval (PySem.Expr.ListComp _ _ _ _) _) _ _ _)); (fail_if_success (with_reducible show wpAny _ _ (call (Value.ref _) _) _ _ _)); (fail_if_success (with_reducible show wpAny _ _ (compareOp _ (Value.ref _) (Value.ref _)) _ _ _)); (fail_if_success (with_reducible show wpAny _ _ (exec _ _) _ _ _)); (fail_if_success (with_reducible show wpAny _ _ (subscriptTail _ (PySem.Expr.Slice _ _ _ _) _ _) _ _ _)); (fail_if_success (with_reducible show wpAny _ _ (call (Value.type "zip") _) _ _ _)))); walk1) | (dsimp only; (((fail_if_success k_end); (fail_if_success (with_reducible show wpAny _ _ (exec (PySem.Stmt.For _ _ _ _ _) _) _ _ _)); (fail_if_success (with_reducible show wpAny _ _ (eval (PySem.Expr.ListComp _ _ _ _) _) _ _ _)); (fail_if_success (with_reducible show wpAny _ _ (call (Value.ref _) _) _ _ _)); (fail_if_success (with_reducible show wpAny _ _ (compareOp _ (Value.ref _) (Value.ref _)) _ _ _)); (fail_if_success (with_reducible show wpAny _ _ (exec _ _) _ _ _)); (fail_if_success (with_reducible show wpAny _ _ (subscriptTail _ (PySem.Expr.Slice _ _ _ _) _ _) _ _ _)); (fail_if_success (with_reducible show wpAny _ _ (call (Value.type "zip") _) _ _ _)))); walk1)))
  walk1
  (repeat' (first | (k_unfold; (try dsimp only)) | ((((fail_if_success k_end); (fail_if_success (with_reducible show wpAny _ _ (exec (PySem.Stmt.For _ _ _ _ _) _) _ _ _)); (fail_if_success (with_reducible show wpAny _ _ (eval (PySem.Expr.ListComp _ _ _ _) _) _ _ _)); (fail_if_success (with_reducible show wpAny _ _ (call (Value.ref _) _) _ _ _)); (fail_if_success (with_reducible show wpAny _ _ (compareOp _ (Value.ref _) (Value.ref _)) _ _ _)); (fail_if_success (with_reducible show wpAny _ _ (exec _ _) _ _ _)); (fail_if_success (with_reducible show wpAny _ _ (subscriptTail _ (PySem.Expr.Slice _ _ _ _) _ _) _ _ _)); (fail_if_success (with_reducible show wpAny _ _ (call (Value.type "zip") _) _ _ _)))); walk1) | (dsimp only; (((fail_if_success k_end); (fail_if_success (with_reducible show wpAny _ _ (exec (PySem.Stmt.For _ _ _ _ _) _) _ _ _)); (fail_if_success (with_reducible show wpAny _ _ (eval (PySem.Expr.ListComp _ _ _ _) _) _ _ _)); (fail_if_success (with_reducible show wpAny _ _ (call (Value.ref _) _) _ _ _)); (fail_if_success (with_reducible show wpAny _ _ (compareOp _ (Value.ref _) (Value.ref _)) _ _ _)); (fail_if_success (with_reducible show wpAny _ _ (exec _ _) _ _ _)); (fail_if_success (with_reducible show wpAny _ _ (subscriptTail _ (PySem.Expr.Slice _ _ _ _) _ _) _ _ _)); (fail_if_success (with_reducible show wpAny _ _ (call (Value.type "zip") _) _ _ _)))); walk1)))
  refine comp_rngO (fun v its => ∃ (n : Int) (t : Tok), v = Value.int n t ∧ IntsAre its.toList (manyF (orderF P S side w0 w1) (digF wd n) wd.toNat)) hA2 (by with_unfolding_all rfl) (by decide) rfl (by decide) rfl ?_ (by intro _; with_unfolding_all rfl)
  (repeat' (first | (k_unfold; (try dsimp only)) | ((((fail_if_success k_end); (fail_if_success (with_reducible show wpAny _ _ (exec (PySem.Stmt.For _ _ _ _ _) _) _ _ _)); (fail_if_success (with_reducible show wpAny _ _ (eval (PySem.Expr.ListComp _ _ _ _) _) _ _ _)); (fail_if_success (with_reducible show wpAny _ _ (call (Value.ref _) _) _ _ _)); (fail_if_success (with_reducible show wpAny _ _ (compareOp _ (Value.ref _) (Value.ref _)) _ _ _)); (fail_if_success (with_reducible show wpAny _ _ (exec _ _) _ _ _)); (fail_if_success (with_reducible show wpAny _ _ (subscriptTail _ (PySem.Expr.Slice _ _ _ _) _ _) _ _ _)); (fail_if_success (with_reducible show wpAny _ _ (call (Value.type "zip") _) _ _ _)))); walk1) | (dsimp only; (((fail_if_success k_end); (fail_if_success (with_reducible show wpAny _ _ (exec (PySem.Stmt.For _ _ _ _ _) _) _ _ _)); (fail_if_success (with_reducible show wpAny _ _ (eval (PySem.Expr.ListComp _ _ _ _) _) _ _ _)); (fail_if_success (with_reducible show wpAny _ _ (call (Value.ref _) _) _ _ _)); (fail_if_success (with_reducible show wpAny _ _ (compareOp _ (Value.ref _) (Value.ref _)) _ _ _)); (fail_if_success (with_reducible show wpAny _ _ (exec _ _) _ _ _)); (fail_if_success (with_reducible show wpAny _ _ (subscriptTail _ (PySem.Expr.Slice _ _ _ _) _ _) _ _ _)); (fail_if_success (with_reducible show wpAny _ _ (call (Value.type "zip") _) _ _ _)))); walk1)))
  rename IsRange _ _ _ _ _ _ _ _ => hR
  rename Fr _ _ _ _ => F7
  rename News _ _ _ _ => N7
  have Wh7 := (hTr _ F7.keep fun q hq => (N7 q (by (repeat' (first | with_reducible assumption | with_reducible exact List.mem_cons_self | with_reducible refine List.mem_cons_of_mem _ ?_ | with_reducible refine List.mem_append_left _ ?_)))).1).1
  refine ⟨_, 1, ((ho + 1 : Nat) : Int), _, _, _, ho, rfl, hR, small_one (by (with_reducible decide)) (by (with_reducible decide)) (by (with_reducible exact o_ncaste (by decide) _)) (by (lia)), ?_, by have := sizeLine_eq; (with_reducible exact o_hos (by assumption) (by decide)), ?_, ?_⟩
  · show Builtin.Range.rangeSize 1 ((ho + 1 : Nat) : Int) 1 = _
    rw [rangeSize_nat]; simp
  · intro C i t s₃ m₃ E' hi hn hm hk
    have hks : KeepAll (Gh s₁.heap) s₃.heap := KeepAll.trans F7.keep hk
    refine Call_ (gname (X.keeps hks) (T.keeps hks) (v := .ref 122) (by kernel_rfl) rfl rfl rfl ?_)
    refine callWith_K X (by k_is) ?_
    refine spliced_more (wpAny_Name (wpAny_loadName_cell (c := L' + 1 + 1 + 1 + 1 + 1 + 1) (v := .ref aO) rfl rfl rfl ⟨oO, hk _ _ (N7.get (by (repeat' (first | with_reducible assumption | with_reducible exact List.mem_cons_self | with_reducible refine List.mem_cons_of_mem _ ?_ | with_reducible refine List.mem_append_left _ ?_)))), hO⟩ ?_))
    refine spliced_more (Call_ (gname (X.keeps hks) (T.keeps hks) (v := .ref 63) (by kernel_rfl) rfl rfl rfl ?_))
    refine callWith_K X (by k_is) ?_
    refine spliced_more (wpAny_Name (wpAny_loadName_local rfl rfl hn hm ?_))
    refine spliced_more (wpAny_Name (wpAny_loadName_cell (c := L' + 1 + 1 + 1) (v := .int wd tWd) rfl rfl rfl ⟨oWd, hk _ _ (N7.get (by (repeat' (first | with_reducible assumption | with_reducible exact List.mem_cons_self | with_reducible refine List.mem_cons_of_mem _ ?_ | with_reducible refine List.mem_append_left _ ?_)))), hWd⟩ ?_))
    refine spliced_none ⟨X.keeps hks, ?_⟩
    refine dig_hot (Wh7.keeps hk) (by (with_reducible exact o_dp (by assumption) (by decide))) hA2 (by (lia)) (Nat.le_trans (intBits_le_64 (by (lia)) (by (with_reducible exact o_il1 (by assumption) (by assumption) (by decide)))) (by decide)) hwd.1 (by (with_reducible exact o_lec (by assumption) (by decide))) fun aX tk6 h6 hk6 hf6 hl6 => ?_
    have hks6 := KeepAll.trans hks hk6
    refine spliced_more (wpAny_Name (wpAny_loadName_cell (c := L' + 1 + 1 + 1) (v := .int wd tWd) rfl rfl rfl ⟨oWd, hk6 _ _ (hk _ _ (N7.get (by (repeat' (first | with_reducible assumption | with_reducible exact List.mem_cons_self | with_reducible refine List.mem_cons_of_mem _ ?_ | with_reducible refine List.mem_append_left _ ?_))))), hWd⟩ ?_))
    refine spliced_none ⟨X.keeps hks6, ?_⟩
    refine many_spec ((Wh7.keeps hk).keeps hk6).wd (by (with_reducible exact o_dp (by assumption) (by decide))) hA2 hOr (by (lia)) hwd.1 hwd.2 ⟨vO, kO, hk6 _ _ (hk _ _ (N7.get (by (repeat' (first | with_reducible assumption | with_reducible exact List.mem_cons_self | with_reducible refine List.mem_cons_of_mem _ ?_ | with_reducible refine List.mem_append_left _ ?_))))), iO⟩ hl6 ?_ ?_ fun aM tkM hM kM fM lM => ?_
    · obtain ⟨n, rfl⟩ : ∃ n : Nat, wd = n := ⟨wd.toNat, by (with_reducible exact o_tnc (by assumption))⟩
      rw [Int.toNat_natCast]; exact digF_bound
    · obtain ⟨n, rfl⟩ : ∃ n : Nat, wd = n := ⟨wd.toNat, by (with_reducible exact o_tnc (by assumption))⟩
      have := digF_length (n := n) (a := 1 + (i : Int)) (by (lia)) (by (lia)) (Nat.le_trans (intBits_le_64 (by (lia)) (by (with_reducible exact o_il1 (by assumption) (by assumption) (by decide)))) (by decide))
      have := sizeLine_eq
      (with_reducible exact o_szn (by assumption) (by decide))
    · obtain ⟨vM, nM, gM, iM⟩ := lM
      exact ⟨⟨aM, vM.toArray, rfl, fresh_of hk6 fM, isList_of gM, _, _, rfl, by simpa using iM⟩, _, _, rfl, KeepAll.trans hk6 kM⟩
  intro aK hK8 tkK ysK vsK hfK hpK hlenK hPK hFK hkK
  obtain ⟨kK, eK⟩ := hpK
  have F8 := F7.keeps hkK
  obtain ⟨ros, NR, hros, hrod⟩ := lists_led F8 hFK
  have hT72 : ∀ p ∈ ros ++ tl, p.1 ≠ L' + 1 + 1 + 1 + 1 + 1 + 1 + 1 := by
    intro q hq
    rcases List.mem_append.mp hq with hq | hq
    · obtain ⟨vs, n, e⟩ := hrod q hq
      intro r
      have e1 := (NR q hq).1
      have e2 := hkK _ _ (N7.get (a := L' + 1 + 1 + 1 + 1 + 1 + 1 + 1) (o := oK) (by (repeat' (first | with_reducible assumption | with_reducible exact List.mem_cons_self | with_reducible refine List.mem_cons_of_mem _ ?_ | with_reducible refine List.mem_append_left _ ?_))))
      rw [r, e2] at e1
      cases e1
      rw [hK] at e; cases e
    · exact hT7 q hq
  have N8 : News (Gh s₁.heap) L' hK8 ((aK, W.listOf (List.toArray ysK.toList) kK) :: (aE, W.listOf vE.toArray kE) :: (aB, W.listOf vB.toArray kB) :: (aG, W.listOf vG.toArray kG) :: (aO, W.listOf vO.toArray kO) ::
      (L' + 1 + 1 + 1 + 1 + 1 + 1 + 1, oK) :: (L' + 1 + 1 + 1 + 1 + 1 + 1, oO) :: (L' + 1 + 1 + 1, oWd) :: (ros ++ tl)) := by
    have NA := News.add (o := W.listOf (List.toArray ysK.toList) kK) F7 N7 hkK hfK (by simpa using eK)
    have NT : ∀ q ∈ tl, _ := fun q h => NA q (by (repeat' (first | with_reducible assumption | with_reducible exact List.mem_cons_self | with_reducible refine List.mem_cons_of_mem _ ?_ | with_reducible refine List.mem_append_left _ ?_)))
    repeat' (first | exact sub_app NR NT | refine sub_cons ?_ ?_ | exact NA _ (by (repeat' (first | with_reducible assumption | with_reducible exact List.mem_cons_self | with_reducible refine List.mem_cons_of_mem _ ?_ | with_reducible refine List.mem_append_left _ ?_))))
  have hTr2 : ∀ h'', KeepAll (Gh s₁.heap) h'' → (∀ q ∈ ros ++ tl, h''.get? q.1 = some q.2) → Wh w h'' ∧ ∀ j : Nat, j < ho → ∃ T vs', ysK.toList[j]? = some (Value.ref T) ∧ h''.IsList T (List.toArray vs') ∧ IntsAre vs' (manyF (orderF P S side w0 w1) (digF wd ((1 + j : Nat) : Int)) wd.toNat) := by
    intro h'' k kq
    refine ⟨(hTr h'' k fun q hq => kq q (List.mem_append.mpr (.inr hq))).1, fun j hj => ?_⟩
    obtain ⟨v, hv⟩ : ∃ v, vsK[j]? = some v := ⟨vsK[j]'(by (with_reducible exact Nat.lt_of_lt_of_eq (by assumption) (Eq.symm (by assumption)))), by simp⟩
    obtain ⟨y, hy, T, its, rfl, hl, n, t, e1, e2⟩ := paired_get (hros h'' k fun q hq => kq q (List.mem_append.mpr (.inl hq))) hv
    obtain ⟨t', e3⟩ := hPK j v hv
    rw [e1] at e3; cases e3
    exact ⟨T, its.toList, hy, by simpa using hl, by simpa using e2⟩
  have hyl : ysK.toList.length = ho := by rw [← paired_length hFK]; exact hlenK
  have hyz : ysK.toList.toArray.size ≤ sizeLine := by have := sizeLine_eq; simp; simp at hyl; (with_reducible exact o_hoe (by assumption) (by assumption) (by decide))
  clear hros hrod NR hFK hPK hTr hT7 hTl F7 N7
  generalize ysK.toList = vK at *
  generalize ros ++ tl = tl2 at *
  have nK := ne_cell N8 (.head _) (c := L' + 1 + 1 + 1 + 1 + 1 + 1 + 1) (by (repeat' (first | with_reducible assumption | with_reducible exact List.mem_cons_self | with_reducible refine List.mem_cons_of_mem _ ?_ | with_reducible refine List.mem_append_left _ ?_))) hK (fun _ h => by cases h)
  have nE := ne_cell N8 (.tail _ (.head _)) (c := L' + 1 + 1 + 1 + 1 + 1 + 1 + 1) (by (repeat' (first | with_reducible assumption | with_reducible exact List.mem_cons_self | with_reducible refine List.mem_cons_of_mem _ ?_ | with_reducible refine List.mem_append_left _ ?_))) hK (fun _ h => by cases h)
  have nB := ne_cell N8 (.tail _ (.tail _ (.head _))) (c := L' + 1 + 1 + 1 + 1 + 1 + 1 + 1) (by (repeat' (first | with_reducible assumption | with_reducible exact List.mem_cons_self | with_reducible refine List.mem_cons_of_mem _ ?_ | with_reducible refine List.mem_append_left _ ?_))) hK (fun _ h => by cases h)
  have nG := ne_cell N8 (.tail _ (.tail _ (.tail _ (.head _)))) (c := L' + 1 + 1 + 1 + 1 + 1 + 1 + 1) (by (repeat' (first | with_reducible assumption | with_reducible exact List.mem_cons_self | with_reducible refine List.mem_cons_of_mem _ ?_ | with_reducible refine List.mem_append_left _ ?_))) hK (fun _ h => by cases h)
  have nO := ne_cell N8 (.tail _ (.tail _ (.tail _ (.tail _ (.head _))))) (c := L' + 1 + 1 + 1 + 1 + 1 + 1 + 1) (by (repeat' (first | with_reducible assumption | with_reducible exact List.mem_cons_self | with_reducible refine List.mem_cons_of_mem _ ?_ | with_reducible refine List.mem_append_left _ ?_))) hK (fun _ h => by cases h)
  (repeat' (first | (k_unfold; (try dsimp only)) | ((((fail_if_success k_end); (fail_if_success (with_reducible show wpAny _ _ (exec (PySem.Stmt.For _ _ _ _ _) _) _ _ _)); (fail_if_success (with_reducible show wpAny _ _ (eval (PySem.Expr.ListComp _ _ _ _) _) _ _ _)); (fail_if_success (with_reducible show wpAny _ _ (call (Value.ref _) _) _ _ _)); (fail_if_success (with_reducible show wpAny _ _ (compareOp _ (Value.ref _) (Value.ref _)) _ _ _)); (fail_if_success (with_reducible show wpAny _ _ (exec _ _) _ _ _)); (fail_if_success (with_reducible show wpAny _ _ (subscriptTail _ (PySem.Expr.Slice _ _ _ _) _ _) _ _ _)); (fail_if_success (with_reducible show wpAny _ _ (call (Value.type "zip") _) _ _ _)))); walk1) | (dsimp only; (((fail_if_success k_end); (fail_if_success (with_reducible show wpAny _ _ (exec (PySem.Stmt.For _ _ _ _ _) _) _ _ _)); (fail_if_success (with_reducible show wpAny _ _ (eval (PySem.Expr.ListComp _ _ _ _) _) _ _ _)); (fail_if_success (with_reducible show wpAny _ _ (call (Value.ref _) _) _ _ _)); (fail_if_success (with_reducible show wpAny _ _ (compareOp _ (Value.ref _) (Value.ref _)) _ _ _)); (fail_if_success (with_reducible show wpAny _ _ (exec _ _) _ _ _)); (fail_if_success (with_reducible show wpAny _ _ (subscriptTail _ (PySem.Expr.Slice _ _ _ _) _ _) _ _ _)); (fail_if_success (with_reducible show wpAny _ _ (call (Value.type "zip") _) _ _ _)))); walk1)))
  rename_i hH9 oK' F9 N9 hK2
  walk1
  (repeat' (first | (k_unfold; (try dsimp only)) | ((((fail_if_success k_end); (fail_if_success (with_reducible show wpAny _ _ (exec (PySem.Stmt.For _ _ _ _ _) _) _ _ _)); (fail_if_success (with_reducible show wpAny _ _ (eval (PySem.Expr.ListComp _ _ _ _) _) _ _ _)); (fail_if_success (with_reducible show wpAny _ _ (call (Value.ref _) _) _ _ _)); (fail_if_success (with_reducible show wpAny _ _ (compareOp _ (Value.ref _) (Value.ref _)) _ _ _)); (fail_if_success (with_reducible show wpAny _ _ (exec _ _) _ _ _)); (fail_if_success (with_reducible show wpAny _ _ (subscriptTail _ (PySem.Expr.Slice _ _ _ _) _ _) _ _ _)); (fail_if_success (with_reducible show wpAny _ _ (call (Value.type "zip") _) _ _ _)))); walk1) | (dsimp only; (((fail_if_success k_end); (fail_if_success (with_reducible show wpAny _ _ (exec (PySem.Stmt.For _ _ _ _ _) _) _ _ _)); (fail_if_success (with_reducible show wpAny _ _ (eval (PySem.Expr.ListComp _ _ _ _) _) _ _ _)); (fail_if_success (with_reducible show wpAny _ _ (call (Value.ref _) _) _ _ _)); (fail_if_success (with_reducible show wpAny _ _ (compareOp _ (Value.ref _) (Value.ref _)) _ _ _)); (fail_if_success (with_reducible show wpAny _ _ (exec _ _) _ _ _)); (fail_if_success (with_reducible show wpAny _ _ (subscriptTail _ (PySem.Expr.Slice _ _ _ _) _ _) _ _ _)); (fail_if_success (with_reducible show wpAny _ _ (call (Value.type "zip") _) _ _ _)))); walk1)))
  have hperm := PF.perm
  refine comp_rng (fun v => match v with | .int n _ => decide (n + 1 = (ho : Int)) | _ => false) (fun v y => ∃ n t t', v = Value.int n t ∧ y = Value.int n t') hA2 (by with_unfolding_all rfl) (by decide) rfl (by decide) rfl ?_ (by intro _; with_unfolding_all rfl)
  (repeat' (first | (k_unfold; (try dsimp only)) | ((((fail_if_success k_end); (fail_if_success (with_reducible show wpAny _ _ (exec (PySem.Stmt.For _ _ _ _ _) _) _ _ _)); (fail_if_success (with_reducible show wpAny _ _ (eval (PySem.Expr.ListComp _ _ _ _) _) _ _ _)); (fail_if_success (with_reducible show wpAny _ _ (call (Value.ref _) _) _ _ _)); (fail_if_success (with_reducible show wpAny _ _ (compareOp _ (Value.ref _) (Value.ref _)) _ _ _)); (fail_if_success (with_reducible show wpAny _ _ (exec _ _) _ _ _)); (fail_if_success (with_reducible show wpAny _ _ (subscriptTail _ (PySem.Expr.Slice _ _ _ _) _ _) _ _ _)); (fail_if_success (with_reducible show wpAny _ _ (call (Value.type "zip") _) _ _ _)))); walk1) | (dsimp only; (((fail_if_success k_end); (fail_if_success (with_reducible show wpAny _ _ (exec (PySem.Stmt.For _ _ _ _ _) _) _ _ _)); (fail_if_success (with_reducible show wpAny _ _ (eval (PySem.Expr.ListComp _ _ _ _) _) _ _ _)); (fail_if_success (with_reducible show wpAny _ _ (call (Value.ref _) _) _ _ _)); (fail_if_success (with_reducible show wpAny _ _ (compareOp _ (Value.ref _) (Value.ref _)) _ _ _)); (fail_if_success (with_reducible show wpAny _ _ (exec _ _) _ _ _)); (fail_if_success (with_reducible show wpAny _ _ (subscriptTail _ (PySem.Expr.Slice _ _ _ _) _ _) _ _ _)); (fail_if_success (with_reducible show wpAny _ _ (call (Value.type "zip") _) _ _ _)))); walk1)))
  rename IsRange _ _ _ _ _ _ _ _ => hR
  rename Fr _ _ _ _ => F10
  rename News _ _ _ _ => N10
  obtain ⟨Wh10, hdk⟩ := hTr2 _ F10.keep fun q hq => (N10 q (by (repeat' (first | with_reducible assumption | with_reducible exact List.mem_cons_self | with_reducible refine List.mem_cons_of_mem _ ?_ | with_reducible refine List.mem_append_left _ ?_)))).1
  refine ⟨_, 0, (ho : Int), _, _, _, ho, rfl, hR, small_one (by (with_reducible decide)) (by (with_reducible decide)) (by (with_reducible exact o_ncaste (by decide) _)) (by (with_reducible exact o_hoL (by assumption) (by decide))), ?_, by have := sizeLine_eq; (with_reducible exact o_hos (by assumption) (by decide)), ?_, ?_, ?_⟩
  · show Builtin.Range.rangeSize 0 (ho : Int) 1 = _
    rw [rangeSize_nat]; simp
  · intro C i t s₃ m₃ E' hi hn hm hk
    have hks : KeepAll (Gh s₁.heap) s₃.heap := KeepAll.trans F10.keep hk
    obtain ⟨T', vs', eT, lT, iT⟩ := hdk i hi
    refine wpAny_tests_one (wpAny_isTrue_Compare1 (Subscript_ (wpAny_Name (wpAny_loadName_cell (c := L' + 1 + 1 + 1 + 1 + 1 + 1 + 1) (v := .ref aK) rfl rfl rfl ⟨oK', hk _ _ (N10.get (by (repeat' (first | with_reducible assumption | with_reducible exact List.mem_cons_self | with_reducible refine List.mem_cons_of_mem _ ?_ | with_reducible refine List.mem_append_left _ ?_)))), hK2⟩ ?_))))
    refine wpAny_Name (wpAny_loadName_local rfl rfl hn hm ?_)
    rw [Int.zero_add]
    refine PyProof.Rows.item_listL (isList_of (hk _ _ (N10.get (.head _)))) (by (with_reducible exact Int.natCast_nonneg _)) (by (with_reducible exact o_il (by assumption) (by assumption) (by decide))) (x := .ref T') (by simpa using eT) ?_
    refine Call_ (gbuilt (X.keeps hks) (T.keeps hks) (v := .builtin "sorted") (by kernel_rfl) (by kernel_rfl) (by decide) rfl rfl rfl rfl ?_)
    refine PyProof.Rows.callWith_builtin1 ?_
    refine spliced_more (wpAny_Name (wpAny_loadName_cell (c := L' + 1 + 1 + 1 + 1 + 1 + 1) (v := .ref aO) rfl rfl rfl ⟨oO, hk _ _ (N10.get (by (repeat' (first | with_reducible assumption | with_reducible exact List.mem_cons_self | with_reducible refine List.mem_cons_of_mem _ ?_ | with_reducible refine List.mem_append_left _ ?_)))), hO⟩ ?_))
    refine spliced_none ?_
    refine sorted_ints (isList_of (hk _ _ (N10.get (.tail _ (.tail _ (.tail _ (.tail _ (.head _)))))))) iO (by have := iO.length; (lia)) fun out ns' i1 p1 p2 => ?_
    obtain ⟨eS, hS⟩ := sortedAll_at s₃.heap vO out
    refine ke_eq_ints ?_ (isList_of (vs := out.toList) hS) iT i1 hA3 ?_
    · obtain ⟨o, eo, r⟩ := lT
      exact ⟨o, sortedAll_old (hk _ _ eo), r⟩
    refine wpAny_truthy_bool ⟨?_, _, _, rfl, fun _ _ e => sortedAll_old e⟩
    rw [sorted_id (p1.trans hperm) p2]
    have e := PF.decks wd.toNat i (by (with_reducible exact o_pos3c (by assumption))) (by rw [hoe]; exact hi)
    rw [Int.toNat_of_nonneg (by (with_reducible exact o_pos2 (by assumption))), hoe] at e
    have e2 : ((i : Int) + 1 = (ho : Int)) ↔ i + 1 = ho := by (with_reducible exact o_iff _ _)
    simp only [e2, ← e]
  · intro C i t s₃ m₃ E' hi hp hn hm hk
    exact wpAny_Name (wpAny_loadName_local rfl rfl hn hm ⟨⟨_, _, _, rfl, rfl⟩, _, _, rfl, fun _ _ e => e⟩)
  intro aZ hZ tkZ ysZ vsZ hfZ hpZ hlenZ hPZ hFZ hkZ
  have iZ : IntsAre ysZ.toList [(ho : Int) - 1] := by
    have h1 := ints_rng vsZ 0 0 (fun j v hv => by obtain ⟨t, e⟩ := hPZ j v hv; exact ⟨t, by rw [e]; congr 2; (lia)⟩)
    have h2 := ints_filter (p := fun v => match v with | .int n _ => decide (n + 1 = (ho : Int)) | _ => false) (q := fun n => decide (n + 1 = (ho : Int))) (fun _ _ => rfl) h1
    have h3 := paired_map (g := fun n => n) (fun n t y ⟨n', t', t'', e1, e2⟩ => by cases e1; exact ⟨t'', e2⟩) h2 hFZ
    rw [hlenZ] at h3
    obtain ⟨k, rfl⟩ : ∃ k, ho = k + 1 := ⟨ho - 1, by (with_reducible exact o_ho1 (by assumption))⟩
    rw [show ((k + 1 : Nat) : Int) - 1 = (k : Int) from by (lia), ← filter_last k, List.range_eq_range']
    simpa using h3
  obtain ⟨kZ, eZ⟩ := hpZ
  have F11 := F10.keeps hkZ
  have N11 := News.add (o := W.listOf (List.toArray ysZ.toList) kZ) F10 N10 hkZ hfZ (by simpa using eZ)
  clear F10 N10
  generalize ysZ.toList = vZ at *
  (repeat' (first | (k_unfold; (try dsimp only)) | ((((fail_if_success k_end); (fail_if_success (with_reducible show wpAny _ _ (exec (PySem.Stmt.For _ _ _ _ _) _) _ _ _)); (fail_if_success (with_reducible show wpAny _ _ (eval (PySem.Expr.ListComp _ _ _ _) _) _ _ _)); (fail_if_success (with_reducible show wpAny _ _ (call (Value.ref _) _) _ _ _)); (fail_if_success (with_reducible show wpAny _ _ (compareOp _ (Value.ref _) (Value.ref _)) _ _ _)); (fail_if_success (with_reducible show wpAny _ _ (exec _ _) _ _ _)); (fail_if_success (with_reducible show wpAny _ _ (subscriptTail _ (PySem.Expr.Slice _ _ _ _) _ _) _ _ _)); (fail_if_success (with_reducible show wpAny _ _ (call (Value.type "zip") _) _ _ _)))); walk1) | (dsimp only; (((fail_if_success k_end); (fail_if_success (with_reducible show wpAny _ _ (exec (PySem.Stmt.For _ _ _ _ _) _) _ _ _)); (fail_if_success (with_reducible show wpAny _ _ (eval (PySem.Expr.ListComp _ _ _ _) _) _ _ _)); (fail_if_success (with_reducible show wpAny _ _ (call (Value.ref _) _) _ _ _)); (fail_if_success (with_reducible show wpAny _ _ (compareOp _ (Value.ref _) (Value.ref _)) _ _ _)); (fail_if_success (with_reducible show wpAny _ _ (exec _ _) _ _ _)); (fail_if_success (with_reducible show wpAny _ _ (subscriptTail _ (PySem.Expr.Slice _ _ _ _) _ _) _ _ _)); (fail_if_success (with_reducible show wpAny _ _ (call (Value.type "zip") _) _ _ _)))); walk1)))
  rename Fr _ _ _ _ => F12
  rename News _ _ _ _ => N12
  refine ke_ne_ints (isList_of (n := kZ) (N12.get (.tail _ (.head _)))) (isList_of (vs := [_]) (N12.get (.head _))) iZ (.cons _ _ .nil) hA3 ?_
  rw [show (!decide ([(ho : Int) - 1] = [(ho : Int) - 1])) = false from by simp]
  replace N12 := News.sub (news' := (aK, W.listOf (List.toArray vK) kK) :: (aE, W.listOf vE.toArray kE) :: (aB, W.listOf vB.toArray kB) :: (aG, W.listOf vG.toArray kG) :: (aO, W.listOf vO.toArray kO) ::
      (L' + 1 + 1 + 1 + 1 + 1 + 1 + 1, oK') :: (L' + 1 + 1 + 1 + 1 + 1 + 1, oO) :: (L' + 1 + 1 + 1, oWd) :: tl2) N12 (fun q hq => .tail _ (.tail _ hq))
  (repeat' (first | (k_unfold; (try dsimp only)) | ((((fail_if_success k_end); (fail_if_success (with_reducible show wpAny _ _ (exec (PySem.Stmt.For _ _ _ _ _) _) _ _ _)); (fail_if_success (with_reducible show wpAny _ _ (eval (PySem.Expr.ListComp _ _ _ _) _) _ _ _)); (fail_if_success (with_reducible show wpAny _ _ (call (Value.ref _) _) _ _ _)); (fail_if_success (with_reducible show wpAny _ _ (compareOp _ (Value.ref _) (Value.ref _)) _ _ _)); (fail_if_success (with_reducible show wpAny _ _ (exec _ _) _ _ _)); (fail_if_success (with_reducible show wpAny _ _ (subscriptTail _ (PySem.Expr.Slice _ _ _ _) _ _) _ _ _)); (fail_if_success (with_reducible show wpAny _ _ (call (Value.type "zip") _) _ _ _)))); walk1) | (dsimp only; (((fail_if_success k_end); (fail_if_success (with_reducible show wpAny _ _ (exec (PySem.Stmt.For _ _ _ _ _) _) _ _ _)); (fail_if_success (with_reducible show wpAny _ _ (eval (PySem.Expr.ListComp _ _ _ _) _) _ _ _)); (fail_if_success (with_reducible show wpAny _ _ (call (Value.ref _) _) _ _ _)); (fail_if_success (with_reducible show wpAny _ _ (compareOp _ (Value.ref _) (Value.ref _)) _ _ _)); (fail_if_success (with_reducible show wpAny _ _ (exec _ _) _ _ _)); (fail_if_success (with_reducible show wpAny _ _ (subscriptTail _ (PySem.Expr.Slice _ _ _ _) _ _) _ _ _)); (fail_if_success (with_reducible show wpAny _ _ (call (Value.type "zip") _) _ _ _)))); walk1)))
  walk1
  (repeat' (first | (k_unfold; (try dsimp only)) | ((((fail_if_success k_end); (fail_if_success (with_reducible show wpAny _ _ (exec (PySem.Stmt.For _ _ _ _ _) _) _ _ _)); (fail_if_success (with_reducible show wpAny _ _ (eval (PySem.Expr.ListComp _ _ _ _) _) _ _ _)); (fail_if_success (with_reducible show wpAny _ _ (call (Value.ref _) _) _ _ _)); (fail_if_success (with_reducible show wpAny _ _ (compareOp _ (Value.ref _) (Value.ref _)) _ _ _)); (fail_if_success (with_reducible show wpAny _ _ (exec _ _) _ _ _)); (fail_if_success (with_reducible show wpAny _ _ (subscriptTail _ (PySem.Expr.Slice _ _ _ _) _ _) _ _ _)); (fail_if_success (with_reducible show wpAny _ _ (call (Value.type "zip") _) _ _ _)))); walk1) | (dsimp only; (((fail_if_success k_end); (fail_if_success (with_reducible show wpAny _ _ (exec (PySem.Stmt.For _ _ _ _ _) _) _ _ _)); (fail_if_success (with_reducible show wpAny _ _ (eval (PySem.Expr.ListComp _ _ _ _) _) _ _ _)); (fail_if_success (with_reducible show wpAny _ _ (call (Value.ref _) _) _ _ _)); (fail_if_success (with_reducible show wpAny _ _ (compareOp _ (Value.ref _) (Value.ref _)) _ _ _)); (fail_if_success (with_reducible show wpAny _ _ (exec _ _) _ _ _)); (fail_if_success (with_reducible show wpAny _ _ (subscriptTail _ (PySem.Expr.Slice _ _ _ _) _ _) _ _ _)); (fail_if_success (with_reducible show wpAny _ _ (call (Value.type "zip") _) _ _ _)))); walk1)))
  rename Fr _ _ _ _ => F13
  rename News _ _ _ _ => N13
  have Wh13 := (hTr2 _ F13.keep fun q hq => (N13 q (by (repeat' (first | with_reducible assumption | with_reducible exact List.mem_cons_self | with_reducible refine List.mem_cons_of_mem _ ?_ | with_reducible refine List.mem_append_left _ ?_)))).1).1
  refine ⟨X.keeps F13.keep, ?_⟩
  refine dm_hot Wh13 (by (with_reducible exact o_dp (by assumption) (by decide))) hA2 (by (lia)) (by (with_reducible exact o_ncast (by decide) _)) (by (with_reducible exact o_hoL (by assumption) (by decide))) (Nat.le_trans hd4 (by decide)) fun aT tk14 h14 hk14 hf14 ht14 => ?_
  have e1 : divF d4 ho = d4 / (ho : Int) := by unfold divF; rw [if_neg (by (with_reducible exact o_notlt0))]
  have e2 : modF d4 ho = d4 % (ho : Int) := by unfold modF; rw [if_neg (by (with_reducible exact o_notlt0))]
  have hrest := PF.rest wd.toNat d4 (by (with_reducible exact o_pos3c (by assumption)))
  rw [hoe, Int.toNat_of_nonneg (by (with_reducible exact o_pos2 (by assumption))), e2] at hrest
  rw [e1, e2] at ht14
  have hr0 : 0 ≤ d4 % (ho : Int) := Int.emod_nonneg _ (by (lia))
  have hr1 : d4 % (ho : Int) < ho := Int.emod_lt_of_pos _ (by (with_reducible exact o_ho0 (by assumption)))
  have hqr : d4 / (ho : Int) * ho + d4 % (ho : Int) = d4 := Int.ediv_mul_add_emod d4 ho
  have hqb : Builtin.Int.intBits (d4 / (ho : Int)) ≤ 1048576 := intBits_le_of_natAbs (Int.natAbs_ediv_le_natAbs _ _) hd4
  generalize d4 / (ho : Int) = qq at *
  generalize d4 % (ho : Int) = rr at *
  have hmul : IntMulOk qq (ho : Int) := IntMulOk.of_le hqb (intBits_le_64 (by (with_reducible exact o_ncast (by decide) _)) (by (with_reducible exact o_hoL (by assumption) (by decide)))) (by decide)
  obtain ⟨vt, nt, gt, it⟩ := ht14
  have F14 := F13.keeps hk14
  have N14 := News.add F13 N13 hk14 hf14 gt
  clear F13 N13
  obtain ⟨tq, v2, rfl, hiv2⟩ := it.cons_inv
  obtain ⟨tr2, v3, rfl, hiv3⟩ := hiv2.cons_inv
  obtain rfl := hiv3.nil_inv
  refine unpackN_ F14 N14 ⟨_, gt, rfl, nt, rfl⟩ hA2 rfl rfl fun h15 F15 N15 => ?_
  clear F14 N14
  (repeat' (first | (k_unfold; (try dsimp only)) | ((((fail_if_success k_end); (fail_if_success (with_reducible show wpAny _ _ (exec (PySem.Stmt.For _ _ _ _ _) _) _ _ _)); (fail_if_success (with_reducible show wpAny _ _ (eval (PySem.Expr.ListComp _ _ _ _) _) _ _ _)); (fail_if_success (with_reducible show wpAny _ _ (call (Value.ref _) _) _ _ _)); (fail_if_success (with_reducible show wpAny _ _ (compareOp _ (Value.ref _) (Value.ref _)) _ _ _)); (fail_if_success (with_reducible show wpAny _ _ (exec _ _) _ _ _)); (fail_if_success (with_reducible show wpAny _ _ (subscriptTail _ (PySem.Expr.Slice _ _ _ _) _ _) _ _ _)); (fail_if_success (with_reducible show wpAny _ _ (call (Value.type "zip") _) _ _ _)))); walk1) | (dsimp only; (((fail_if_success k_end); (fail_if_success (with_reducible show wpAny _ _ (exec (PySem.Stmt.For _ _ _ _ _) _) _ _ _)); (fail_if_success (with_reducible show wpAny _ _ (eval (PySem.Expr.ListComp _ _ _ _) _) _ _ _)); (fail_if_success (with_reducible show wpAny _ _ (call (Value.ref _) _) _ _ _)); (fail_if_success (with_reducible show wpAny _ _ (compareOp _ (Value.ref _) (Value.ref _)) _ _ _)); (fail_if_success (with_reducible show wpAny _ _ (exec _ _) _ _ _)); (fail_if_success (with_reducible show wpAny _ _ (subscriptTail _ (PySem.Expr.Slice _ _ _ _) _ _) _ _ _)); (fail_if_success (with_reducible show wpAny _ _ (call (Value.type "zip") _) _ _ _)))); walk1)))
  walk1
  (repeat' (first | (k_unfold; (try dsimp only)) | ((((fail_if_success k_end); (fail_if_success (with_reducible show wpAny _ _ (exec (PySem.Stmt.For _ _ _ _ _) _) _ _ _)); (fail_if_success (with_reducible show wpAny _ _ (eval (PySem.Expr.ListComp _ _ _ _) _) _ _ _)); (fail_if_success (with_reducible show wpAny _ _ (call (Value.ref _) _) _ _ _)); (fail_if_success (with_reducible show wpAny _ _ (compareOp _ (Value.ref _) (Value.ref _)) _ _ _)); (fail_if_success (with_reducible show wpAny _ _ (exec _ _) _ _ _)); (fail_if_success (with_reducible show wpAny _ _ (subscriptTail _ (PySem.Expr.Slice _ _ _ _) _ _) _ _ _)); (fail_if_success (with_reducible show wpAny _ _ (call (Value.type "zip") _) _ _ _)))); walk1) | (dsimp only; (((fail_if_success k_end); (fail_if_success (with_reducible show wpAny _ _ (exec (PySem.Stmt.For _ _ _ _ _) _) _ _ _)); (fail_if_success (with_reducible show wpAny _ _ (eval (PySem.Expr.ListComp _ _ _ _) _) _ _ _)); (fail_if_success (with_reducible show wpAny _ _ (call (Value.ref _) _) _ _ _)); (fail_if_success (with_reducible show wpAny _ _ (compareOp _ (Value.ref _) (Value.ref _)) _ _ _)); (fail_if_success (with_reducible show wpAny _ _ (exec _ _) _ _ _)); (fail_if_success (with_reducible show wpAny _ _ (subscriptTail _ (PySem.Expr.Slice _ _ _ _) _ _) _ _ _)); (fail_if_success (with_reducible show wpAny _ _ (call (Value.type "zip") _) _ _ _)))); walk1)))
  all_goals try (rename (_ : Int) ≠ _ => q; exact absurd hqr q)
  rename Fr _ _ _ _ => F16
  rename News _ _ _ _ => N16
  have Wh16 := (hTr2 _ F16.keep fun q hq => (N16 q (by (repeat' (first | with_reducible assumption | with_reducible exact List.mem_cons_self | with_reducible refine List.mem_cons_of_mem _ ?_ | with_reducible refine List.mem_append_left _ ?_)))).1).1
  refine ⟨X.keeps F16.keep, ?_⟩
  refine dig_hot Wh16 (by (with_reducible exact o_dp (by assumption) (by decide))) hA2 hr0 (Nat.le_trans (intBits_le_64 (by (with_reducible exact o_neg (by assumption) (by decide))) (by (with_reducible exact o_rr (by assumption) (by assumption) (by decide)))) (by decide)) hwd.1 (by (with_reducible exact o_lec (by assumption) (by decide))) fun aX tk17 h17 hk17 hf17 hl17 => ?_
  refine new_li F16 N16 hk17 hf17 hl17 fun vX kX F17 N17 iX => ?_
  clear F16 N16
  (repeat' (first | (k_unfold; (try dsimp only)) | ((((fail_if_success k_end); (fail_if_success (with_reducible show wpAny _ _ (exec (PySem.Stmt.For _ _ _ _ _) _) _ _ _)); (fail_if_success (with_reducible show wpAny _ _ (eval (PySem.Expr.ListComp _ _ _ _) _) _ _ _)); (fail_if_success (with_reducible show wpAny _ _ (call (Value.ref _) _) _ _ _)); (fail_if_success (with_reducible show wpAny _ _ (compareOp _ (Value.ref _) (Value.ref _)) _ _ _)); (fail_if_success (with_reducible show wpAny _ _ (exec _ _) _ _ _)); (fail_if_success (with_reducible show wpAny _ _ (subscriptTail _ (PySem.Expr.Slice _ _ _ _) _ _) _ _ _)); (fail_if_success (with_reducible show wpAny _ _ (call (Value.type "zip") _) _ _ _)))); walk1) | (dsimp only; (((fail_if_success k_end); (fail_if_success (with_reducible show wpAny _ _ (exec (PySem.Stmt.For _ _ _ _ _) _) _ _ _)); (fail_if_success (with_reducible show wpAny _ _ (eval (PySem.Expr.ListComp _ _ _ _) _) _ _ _)); (fail_if_success (with_reducible show wpAny _ _ (call (Value.ref _) _) _ _ _)); (fail_if_success (with_reducible show wpAny _ _ (compareOp _ (Value.ref _) (Value.ref _)) _ _ _)); (fail_if_success (with_reducible show wpAny _ _ (exec _ _) _ _ _)); (fail_if_success (with_reducible show wpAny _ _ (subscriptTail _ (PySem.Expr.Slice _ _ _ _) _ _) _ _ _)); (fail_if_success (with_reducible show wpAny _ _ (call (Value.type "zip") _) _ _ _)))); walk1)))
  rename Fr _ _ _ _ => F18
  rename News _ _ _ _ => N18
  have Wh18 := (hTr2 _ F18.keep fun q hq => (N18 q (by (repeat' (first | with_reducible assumption | with_reducible exact List.mem_cons_self | with_reducible refine List.mem_cons_of_mem _ ?_ | with_reducible refine List.mem_append_left _ ?_)))).1).1
  refine ⟨X.keeps F18.keep, ?_⟩
  refine many_spec Wh18.wd (by (with_reducible exact o_dp (by assumption) (by decide))) hA2 hOr (by (lia)) hwd.1 hwd.2 ⟨vO, kO, N18.get (by (repeat' (first | with_reducible assumption | with_reducible exact List.mem_cons_self | with_reducible refine List.mem_cons_of_mem _ ?_ | with_reducible refine List.mem_append_left _ ?_))), iO⟩ ⟨vX, kX, N18.get (.head _), iX⟩ ?_ ?_ fun aM tkM hM kM fM lM => ?_
  · obtain ⟨n, rfl⟩ : ∃ n : Nat, wd = n := ⟨wd.toNat, by (with_reducible exact o_tnc (by assumption))⟩
    rw [Int.toNat_natCast]; exact digF_bound
  · obtain ⟨n, rfl⟩ : ∃ n : Nat, wd = n := ⟨wd.toNat, by (with_reducible exact o_tnc (by assumption))⟩
    have := digF_length (n := n) (a := rr) (by (lia)) (by (lia)) (Nat.le_trans (intBits_le_64 (by (with_reducible exact o_neg (by assumption) (by decide))) (by (with_reducible exact o_rr (by assumption) (by assumption) (by decide)))) (by decide))
    have := sizeLine_eq
    (with_reducible exact o_szn (by assumption) (by decide))
  refine new_li F18 N18 kM fM lM fun vM nM F19 N19 iM => ?_
  clear F18 N18
  (repeat' (first | (k_unfold; (try dsimp only)) | ((((fail_if_success k_end); (fail_if_success (with_reducible show wpAny _ _ (exec (PySem.Stmt.For _ _ _ _ _) _) _ _ _)); (fail_if_success (with_reducible show wpAny _ _ (eval (PySem.Expr.ListComp _ _ _ _) _) _ _ _)); (fail_if_success (with_reducible show wpAny _ _ (call (Value.ref _) _) _ _ _)); (fail_if_success (with_reducible show wpAny _ _ (compareOp _ (Value.ref _) (Value.ref _)) _ _ _)); (fail_if_success (with_reducible show wpAny _ _ (exec _ _) _ _ _)); (fail_if_success (with_reducible show wpAny _ _ (subscriptTail _ (PySem.Expr.Slice _ _ _ _) _ _) _ _ _)); (fail_if_success (with_reducible show wpAny _ _ (call (Value.type "zip") _) _ _ _)))); walk1) | (dsimp only; (((fail_if_success k_end); (fail_if_success (with_reducible show wpAny _ _ (exec (PySem.Stmt.For _ _ _ _ _) _) _ _ _)); (fail_if_success (with_reducible show wpAny _ _ (eval (PySem.Expr.ListComp _ _ _ _) _) _ _ _)); (fail_if_success (with_reducible show wpAny _ _ (call (Value.ref _) _) _ _ _)); (fail_if_success (with_reducible show wpAny _ _ (compareOp _ (Value.ref _) (Value.ref _)) _ _ _)); (fail_if_success (with_reducible show wpAny _ _ (exec _ _) _ _ _)); (fail_if_success (with_reducible show wpAny _ _ (subscriptTail _ (PySem.Expr.Slice _ _ _ _) _ _) _ _ _)); (fail_if_success (with_reducible show wpAny _ _ (call (Value.type "zip") _) _ _ _)))); walk1)))
  rename Fr _ _ _ _ => F20
  rename News _ _ _ _ => N20
  refine ke_eq_ints (N20.isList (.head _)) (N20.isList (.tail _ (.tail _ (.tail _ (.tail _ (.head _)))))) iM iE hA3 ?_
  rw [hrest, show decide (dueF S fac sm d4 = dueF S fac sm d4) = true from by simp]
  have Wh20 := (hTr2 _ F20.keep fun q hq => (N20 q (by (repeat' (first | with_reducible assumption | with_reducible exact List.mem_cons_self | with_reducible refine List.mem_cons_of_mem _ ?_ | with_reducible refine List.mem_append_left _ ?_)))).1).1
  exact ret _ _ Wh20.wt (but_of_gh F20.keep)
end Mine
end
section
open PySem PySem.W PyProof.Rows PySem.Calls
namespace Mine
theorem wd_fill_law4 (w : World) (h : Heap) (_ : OpenLaw) (e : Challenge.rw_ph0098_01 = Challenge.rw_ph0098_01) : (hd.heap_39 w.params).In h → (hd.heap_39 w.params).In h ∧ Challenge.rw_ph0098_01 = Challenge.rw_ph0098_01 := by
  k_fill
  exact fun x => ⟨x, e⟩

theorem digF_last {wd : Int} {n : Nat} (h1 : 1 ≤ wd) : (digF wd (n : Int)).drop ((digF wd (n : Int)).length - (-(-1 : Int)).toNat) ≠ [0] := by
  obtain ⟨k, rfl⟩ : ∃ k : Nat, wd = k := ⟨wd.toNat, by (with_reducible exact o_tn1 (by assumption))⟩
  rw [show (-(-1 : Int)).toNat = 1 from rfl]
  intro he
  have hu := digF_undig (n := k) (a := (n : Int)) (by (lia)) (by (with_reducible exact Int.natCast_nonneg _))
  have hl : (digF k (n : Int)).length = digN k (n : Int) := by unfold digF; rw [digs_length]
  have hb := digF_bound (n := k) (a := (n : Int))
  generalize hds : digF k (n : Int) = ds at *
  have hne : 0 < ds.length := by
    rcases Nat.eq_zero_or_pos ds.length with q | q
    · rw [List.drop_of_length_le (by (lia))] at he; cases he
    · exact q
  have hsp : ds = ds.take (ds.length - 1) ++ [0] := by rw [← he, List.take_append_drop]
  have hu2 := undig_bound k (ds.take (ds.length - 1)) fun d hd => hb d (List.mem_of_mem_take hd)
  rw [hsp, undig_append] at hu
  simp only [undig, Int.mul_zero, Int.add_zero] at hu
  rw [hu] at hu2
  have hlt := hu2.2
  rw [List.length_take, Nat.min_eq_left (by (lia))] at hlt
  have hn : n < 2 ^ (k * (ds.length - 1)) := by
    have h3 : ((2 ^ (k * (ds.length - 1)) : Nat) : Int) = (2 : Int) ^ (k * (ds.length - 1)) := by simp
    rw [← h3] at hlt
    exact Int.ofNat_lt.mp hlt
  have hbits : Builtin.Int.intBits (n : Int) ≤ k * (ds.length - 1) := intBits_le_iff.mpr (by rw [Int.natAbs_natCast]; exact hn)
  have hkd : digN k (n : Int) = (Builtin.Int.intBits (n : Int) + k - 1) / k := by
    unfold digN
    rw [Int.toNat_natCast]; congr 1; (lia)
  rw [hkd] at hl
  have h4 : (Builtin.Int.intBits (n : Int) + k - 1) / k ≤ ds.length - 1 := by
    refine Nat.le_of_lt_succ ((Nat.div_lt_iff_lt_mul (by (with_reducible exact o_natn (by assumption)))).mpr ?_)
    have : k * (ds.length - 1) + k = (ds.length - 1 + 1) * k := by rw [Nat.add_mul, Nat.mul_comm]; (lia)
    rw [Nat.succ_eq_add_one, ← this]
    (lia)
  (lia)
theorem weight_small : ∀ ns : List Int, (∀ n ∈ ns, 0 ≤ n ∧ n < 50) → PyData.weightAll (ns.map PyData.int) ≤ ns.length * 8
  | [], _ => by simp [PyData.weightAll]
  | n :: ns, h => by
    have ih := weight_small ns fun m hm => h m (.tail _ hm)
    have hn := h n (.head _)
    simp only [List.map_cons, PyData.weightAll, PyData.weight, List.length_cons]
    have hw : (if n == 0 then 0 else n.natAbs.log2 + 1) ≤ 7 := by
      split
      · (with_reducible exact Nat.zero_le _)
      · have : n.natAbs.log2 < 6 := (Nat.log2_lt (by simp_all)).mpr (by (lia))
        (lia)
    (lia)
theorem layable_small {ns : List Int} (h : ∀ n ∈ ns, 0 ≤ n ∧ n < 50) (hl : ns.length ≤ 100) : PyData.layable0 (.list (ns.map PyData.int)) = true := by
  unfold PyData.layable0
  have h1 : PyData.canLay0 (.list (ns.map PyData.int)) = true := by simp [PyData.canLay0, ke_canLayAll0]
  have h2 : PyData.depth (.list (ns.map PyData.int)) ≤ 64 := by simp [PyData.depth, ke_depthAll]
  have h3 : PyData.weight (.list (ns.map PyData.int)) ≤ 2 ^ 20 := by
    have := weight_small ns h
    simp only [PyData.weight]
    (lia)
  rw [h1, decide_eq_true h2, decide_eq_true h3]; rfl
set_option maxRecDepth 100000 in
set_option maxHeartbeats 4000000 in
theorem part4 {w : World} {s₁ : Shared} {A : Around} {L' fa aD aR aO aG x : Addr} {cd : Value} {h : Heap} {tk : Tok} {m₀ : Str → Option Value} {d4 w0 w1 P R S wd side fac : Int} {sm : Bool} {tWd tS tR tsd tfc tti : Tok}
    {kO kG : Nat} {vr vO vG : List Value} {oWd oO oK : Obj} {tl : List (Addr × Obj)} {p : Program} {loose : List Str} {mean : ExcName → Option Value} {mg mb : Str → Option Value} {Q : Flow → Shared → Prop}
    (X : (hd.heap_39 w.params).In (Gh s₁.heap)) (T : Top p loose mean mg mb (Gh s₁.heap)) (W' : Wt w s₁.heap)
    (hA1 : A.depth + 100 < recursionLimit) (hA2 : A.handled = none) (hA3 : A.units + 64 < cLine)
    (F : Fr (Gh s₁.heap) L' h (fun y => if y = Str.ofString "digits" then some (Value.ref aG) else if y = Str.ofString "times" then some (Value.int d4 tti) else if y = Str.ofString "factor" then some (Value.int fac tfc) else if y = Str.ofString "same" then some (Value.bool sm) else if y = Str.ofString "side" then some (Value.int side tsd) else if y = Str.ofString "size" then some (Value.int S tS) else if y = Str.ofString "rounds" then some (Value.int R tR) else if y = Str.ofString "drawn" then some (Value.ref aD) else m₀ y))
    (N : News (Gh s₁.heap) L' h ((aG, W.listOf (List.toArray vG) kG) :: (aO, W.listOf (List.toArray vO) kO) ::
      (L' + 1 + 1 + 1 + 1 + 1 + 1 + 1, oK) :: (L' + 1 + 1 + 1 + 1 + 1 + 1, oO) :: (L' + 1 + 1 + 1, oWd) :: tl))
    (iO : IntsAre vO (orderF P S side w0 w1)) (iG : IntsAre vG (digF wd (d4.natAbs : Int)))
    (hK : oK.data = .cell none) (hO : oO.data = .cell (some (.ref aO))) (hWd : oWd.data = .cell (some (.int wd tWd)))
    (hTl : Tail2 w s₁.heap L' tl x aR vr (cardsF P S side) side w0 w1)
    (hPb : 2 ≤ P ∧ P ≤ 4) (hSb : 4 ≤ S ∧ S ≤ 16) (hwd : 1 ≤ wd ∧ wd ≤ 3) (hfb : -5 < fac ∧ fac < 5) (hd4 : Builtin.Int.intBits d4 ≤ 1048576)
    (PF : Facts P S side w0 w1 fac sm)
    (ret : ∀ h' tk', Wt w h' → KeepBut s₁.heap h' → Q (.ret (.bool true)) { s₁ with heap := h', toks := tk' }) :
    wpAny (model Challenge.rw_ph0098_01.row.prog w) A (execs (lawParts.1.drop 16) (envOfC (Str.ofString "law") lawParts.2 L' fa cd)) Q (fun _ _ => False) { s₁ with heap := h, toks := tk } := by
  unfold lawParts Challenge.pw_ph0098_01
  dsimp only [List.drop_succ_cons, List.drop_zero, List.drop]
  obtain ⟨hTr, hT6, hT7⟩ := id hTl
  have hgl : (digF wd (d4.natAbs : Int)).length ≤ 1048700 := by
    obtain ⟨n, rfl⟩ : ∃ n : Nat, wd = n := ⟨wd.toNat, by (with_reducible exact o_tnc (by assumption))⟩
    exact digF_length (by (lia)) (by (lia)) (by have := intBits_natAbs_le hd4; (with_reducible exact Nat.le_trans (by assumption) (by decide)))
  have hgz : vG.toArray.size ≤ sizeLine := by have := iG.length; have := sizeLine_eq; simp; (with_reducible exact o_szi (by assumption) (by assumption) (by decide))
  walk1
  (repeat' (first | (k_unfold; (try dsimp only)) | ((((fail_if_success k_end); (fail_if_success (with_reducible show wpAny _ _ (exec (PySem.Stmt.For _ _ _ _ _) _) _ _ _)); (fail_if_success (with_reducible show wpAny _ _ (eval (PySem.Expr.ListComp _ _ _ _) _) _ _ _)); (fail_if_success (with_reducible show wpAny _ _ (call (Value.ref _) _) _ _ _)); (fail_if_success (with_reducible show wpAny _ _ (compareOp _ (Value.ref _) (Value.ref _)) _ _ _)); (fail_if_success (with_reducible show wpAny _ _ (exec _ _) _ _ _)); (fail_if_success (with_reducible show wpAny _ _ (subscriptTail _ (PySem.Expr.Slice _ _ _ _) _ _) _ _ _)); (fail_if_success (with_reducible show wpAny _ _ (call (Value.type "zip") _) _ _ _)))); walk1) | (dsimp only; (((fail_if_success k_end); (fail_if_success (with_reducible show wpAny _ _ (exec (PySem.Stmt.For _ _ _ _ _) _) _ _ _)); (fail_if_success (with_reducible show wpAny _ _ (eval (PySem.Expr.ListComp _ _ _ _) _) _ _ _)); (fail_if_success (with_reducible show wpAny _ _ (call (Value.ref _) _) _ _ _)); (fail_if_success (with_reducible show wpAny _ _ (compareOp _ (Value.ref _) (Value.ref _)) _ _ _)); (fail_if_success (with_reducible show wpAny _ _ (exec _ _) _ _ _)); (fail_if_success (with_reducible show wpAny _ _ (subscriptTail _ (PySem.Expr.Slice _ _ _ _) _ _) _ _ _)); (fail_if_success (with_reducible show wpAny _ _ (call (Value.type "zip") _) _ _ _)))); walk1)))
  walk1
  (repeat' (first | (k_unfold; (try dsimp only)) | ((((fail_if_success k_end); (fail_if_success (with_reducible show wpAny _ _ (exec (PySem.Stmt.For _ _ _ _ _) _) _ _ _)); (fail_if_success (with_reducible show wpAny _ _ (eval (PySem.Expr.ListComp _ _ _ _) _) _ _ _)); (fail_if_success (with_reducible show wpAny _ _ (call (Value.ref _) _) _ _ _)); (fail_if_success (with_reducible show wpAny _ _ (compareOp _ (Value.ref _) (Value.ref _)) _ _ _)); (fail_if_success (with_reducible show wpAny _ _ (exec _ _) _ _ _)); (fail_if_success (with_reducible show wpAny _ _ (subscriptTail _ (PySem.Expr.Slice _ _ _ _) _ _) _ _ _)); (fail_if_success (with_reducible show wpAny _ _ (call (Value.type "zip") _) _ _ _)))); walk1) | (dsimp only; (((fail_if_success k_end); (fail_if_success (with_reducible show wpAny _ _ (exec (PySem.Stmt.For _ _ _ _ _) _) _ _ _)); (fail_if_success (with_reducible show wpAny _ _ (eval (PySem.Expr.ListComp _ _ _ _) _) _ _ _)); (fail_if_success (with_reducible show wpAny _ _ (call (Value.ref _) _) _ _ _)); (fail_if_success (with_reducible show wpAny _ _ (compareOp _ (Value.ref _) (Value.ref _)) _ _ _)); (fail_if_success (with_reducible show wpAny _ _ (exec _ _) _ _ _)); (fail_if_success (with_reducible show wpAny _ _ (subscriptTail _ (PySem.Expr.Slice _ _ _ _) _ _) _ _ _)); (fail_if_success (with_reducible show wpAny _ _ (call (Value.type "zip") _) _ _ _)))); walk1)))
  refine kmk_slice_ints F N (isList_of (N.get (.head _))) (.int _ _) .none iG (kmk_from_neg iG (by (with_reducible decide))) rfl (fun aL vL h2 F2 N2 l2 iL _ _ => ?_) (by with_unfolding_all rfl) (by kmk_pure) hgz
  clear F N
  (repeat' (first | (k_unfold; (try dsimp only)) | ((((fail_if_success k_end); (fail_if_success (with_reducible show wpAny _ _ (exec (PySem.Stmt.For _ _ _ _ _) _) _ _ _)); (fail_if_success (with_reducible show wpAny _ _ (eval (PySem.Expr.ListComp _ _ _ _) _) _ _ _)); (fail_if_success (with_reducible show wpAny _ _ (call (Value.ref _) _) _ _ _)); (fail_if_success (with_reducible show wpAny _ _ (compareOp _ (Value.ref _) (Value.ref _)) _ _ _)); (fail_if_success (with_reducible show wpAny _ _ (exec _ _) _ _ _)); (fail_if_success (with_reducible show wpAny _ _ (subscriptTail _ (PySem.Expr.Slice _ _ _ _) _ _) _ _ _)); (fail_if_success (with_reducible show wpAny _ _ (call (Value.type "zip") _) _ _ _)))); walk1) | (dsimp only; (((fail_if_success k_end); (fail_if_success (with_reducible show wpAny _ _ (exec (PySem.Stmt.For _ _ _ _ _) _) _ _ _)); (fail_if_success (with_reducible show wpAny _ _ (eval (PySem.Expr.ListComp _ _ _ _) _) _ _ _)); (fail_if_success (with_reducible show wpAny _ _ (call (Value.ref _) _) _ _ _)); (fail_if_success (with_reducible show wpAny _ _ (compareOp _ (Value.ref _) (Value.ref _)) _ _ _)); (fail_if_success (with_reducible show wpAny _ _ (exec _ _) _ _ _)); (fail_if_success (with_reducible show wpAny _ _ (subscriptTail _ (PySem.Expr.Slice _ _ _ _) _ _) _ _ _)); (fail_if_success (with_reducible show wpAny _ _ (call (Value.type "zip") _) _ _ _)))); walk1)))
  rename Fr _ _ _ _ => F3
  rename News _ _ _ _ => N3
  refine ke_eq_ints (ys := [Value.int 0 _]) (isList_of (N3.get (.tail _ (.head _)))) (isList_of (n := 0) (N3.get (.head _))) iL (.cons _ _ .nil) hA3 ?_
  rw [show decide (List.drop ((digF wd (d4.natAbs : Int)).length - (-(-1 : Int)).toNat) (digF wd (d4.natAbs : Int)) = [0]) = false from decide_eq_false (digF_last hwd.1)]
  (repeat' (first | (k_unfold; (try dsimp only)) | ((((fail_if_success k_end); (fail_if_success (with_reducible show wpAny _ _ (exec (PySem.Stmt.For _ _ _ _ _) _) _ _ _)); (fail_if_success (with_reducible show wpAny _ _ (eval (PySem.Expr.ListComp _ _ _ _) _) _ _ _)); (fail_if_success (with_reducible show wpAny _ _ (call (Value.ref _) _) _ _ _)); (fail_if_success (with_reducible show wpAny _ _ (compareOp _ (Value.ref _) (Value.ref _)) _ _ _)); (fail_if_success (with_reducible show wpAny _ _ (exec _ _) _ _ _)); (fail_if_success (with_reducible show wpAny _ _ (subscriptTail _ (PySem.Expr.Slice _ _ _ _) _ _) _ _ _)); (fail_if_success (with_reducible show wpAny _ _ (call (Value.type "zip") _) _ _ _)))); walk1) | (dsimp only; (((fail_if_success k_end); (fail_if_success (with_reducible show wpAny _ _ (exec (PySem.Stmt.For _ _ _ _ _) _) _ _ _)); (fail_if_success (with_reducible show wpAny _ _ (eval (PySem.Expr.ListComp _ _ _ _) _) _ _ _)); (fail_if_success (with_reducible show wpAny _ _ (call (Value.ref _) _) _ _ _)); (fail_if_success (with_reducible show wpAny _ _ (compareOp _ (Value.ref _) (Value.ref _)) _ _ _)); (fail_if_success (with_reducible show wpAny _ _ (exec _ _) _ _ _)); (fail_if_success (with_reducible show wpAny _ _ (subscriptTail _ (PySem.Expr.Slice _ _ _ _) _ _) _ _ _)); (fail_if_success (with_reducible show wpAny _ _ (call (Value.type "zip") _) _ _ _)))); walk1)))
  have Wh3 := (hTr _ F3.keep fun q hq => (N3 q (by (repeat' (first | with_reducible assumption | with_reducible exact List.mem_cons_self | with_reducible refine List.mem_cons_of_mem _ ?_ | with_reducible refine List.mem_append_left _ ?_)))).1).1
  refine ⟨X.keeps F3.keep, ?_⟩
  have hgu : undig wd.toNat (digF wd (d4.natAbs : Int)) = if d4 < 0 then -d4 else d4 := by
    obtain ⟨n, rfl⟩ : ∃ n : Nat, wd = n := ⟨wd.toNat, by (with_reducible exact o_tnc (by assumption))⟩
    rw [Int.toNat_natCast, digF_undig (by (lia)) (by (with_reducible exact Int.natCast_nonneg _))]
    split <;> (first | with_reducible exact o_abs2 (by assumption) | (lia))
  have hgb : ∀ d ∈ digF wd (d4.natAbs : Int), 0 ≤ d ∧ d < 2 ^ wd.toNat := by
    obtain ⟨n, rfl⟩ : ∃ n : Nat, wd = n := ⟨wd.toNat, by (with_reducible exact o_tnc (by assumption))⟩
    rw [Int.toNat_natCast]; exact digF_bound
  refine int_hot Wh3 (by (with_reducible exact o_dp (by assumption) (by decide))) hA2 ⟨vG, kG, N3.get (.tail _ (.tail _ (.head _))), iG⟩ hgl hwd.1 (by (with_reducible exact o_lec (by assumption) (by decide))) hgb fun t4 tk4 h4 hk4 => ?_
  rw [hgu]
  have F4 := F3.keeps hk4
  have N4 : News (Gh s₁.heap) L' h4 ((aG, W.listOf vG.toArray kG) :: (aO, W.listOf vO.toArray kO) :: (L' + 1 + 1 + 1 + 1 + 1 + 1 + 1, oK) :: (L' + 1 + 1 + 1 + 1 + 1 + 1, oO) :: (L' + 1 + 1 + 1, oWd) :: tl) := News.sub (fun p hp => N3.grown hk4 p hp) (fun q hq => .tail _ (.tail _ hq))
  clear F3 N3
  (repeat' (first | (k_unfold; (try dsimp only)) | ((((fail_if_success k_end); (fail_if_success (with_reducible show wpAny _ _ (exec (PySem.Stmt.For _ _ _ _ _) _) _ _ _)); (fail_if_success (with_reducible show wpAny _ _ (eval (PySem.Expr.ListComp _ _ _ _) _) _ _ _)); (fail_if_success (with_reducible show wpAny _ _ (call (Value.ref _) _) _ _ _)); (fail_if_success (with_reducible show wpAny _ _ (compareOp _ (Value.ref _) (Value.ref _)) _ _ _)); (fail_if_success (with_reducible show wpAny _ _ (exec _ _) _ _ _)); (fail_if_success (with_reducible show wpAny _ _ (subscriptTail _ (PySem.Expr.Slice _ _ _ _) _ _) _ _ _)); (fail_if_success (with_reducible show wpAny _ _ (call (Value.type "zip") _) _ _ _)))); walk1) | (dsimp only; (((fail_if_success k_end); (fail_if_success (with_reducible show wpAny _ _ (exec (PySem.Stmt.For _ _ _ _ _) _) _ _ _)); (fail_if_success (with_reducible show wpAny _ _ (eval (PySem.Expr.ListComp _ _ _ _) _) _ _ _)); (fail_if_success (with_reducible show wpAny _ _ (call (Value.ref _) _) _ _ _)); (fail_if_success (with_reducible show wpAny _ _ (compareOp _ (Value.ref _) (Value.ref _)) _ _ _)); (fail_if_success (with_reducible show wpAny _ _ (exec _ _) _ _ _)); (fail_if_success (with_reducible show wpAny _ _ (subscriptTail _ (PySem.Expr.Slice _ _ _ _) _ _) _ _ _)); (fail_if_success (with_reducible show wpAny _ _ (call (Value.type "zip") _) _ _ _)))); walk1)))
  all_goals try (rename (_ : Int) ≠ _ => q; exact absurd rfl q)
  refine comp_list (fun _ => false) (fun _ _ => True) hA2 rfl (by decide) rfl (by decide) rfl ?_ (by intro _; with_unfolding_all rfl)
  refine wpAny_Name (wpAny_loadName_local (m := _) rfl rfl F4.ns (v := .ref aG) rfl ?_)
  refine ⟨aG, vG.toArray, rfl, isList_of (N4.get (.head _)), hgz, ?_, ?_, ?_⟩
  · intro C i v s₃ m₃ E' hv hn hm hk
    obtain ⟨d, td, rfl, hdi⟩ := iG.at i v (by simpa using hv)
    have hdb := hgb d (List.mem_of_getElem? hdi)
    refine wpAny_tests_one (isTrue_not (isTrue_chain (wpAny_Constant_int ?_)))
    refine test_link (wpAny_Name (wpAny_loadName_local rfl rfl hn hm (le_int (wpAny_truthy_bool ?_))))
    rw [show decide (0 ≤ d) = true from decide_eq_true hdb.1, if_pos rfl]
    refine test_last (wpAny_BinOp (wpAny_Constant_int (wpAny_Name (wpAny_loadName_cell (c := L' + 1 + 1 + 1) (v := .int wd tWd) rfl rfl rfl ⟨oWd, hk _ _ (N4.get (by (repeat' (first | with_reducible assumption | with_reducible exact List.mem_cons_self | with_reducible refine List.mem_cons_of_mem _ ?_ | with_reducible refine List.mem_append_left _ ?_)))), hWd⟩ ?_))))
    refine pow_int_small (by (with_reducible exact o_pos2 (by assumption))) (by (with_reducible exact o_lec (by assumption) (by decide))) (by decide) ?_
    refine lt_int (wpAny_truthy_bool ⟨?_, _, _, rfl, fun _ _ e => e⟩)
    rw [show decide (d < 2 ^ wd.toNat) = true from decide_eq_true hdb.2]
    rfl
  · intro C i v s₃ m₃ E' _ h
    cases h
  · intro aZ hZ tkZ ysZ hfZ hpZ hP hkZ
    obtain ⟨nZ, eZ⟩ := hpZ
    have hys : ysZ = #[] := by
      have e : List.filter (fun _ => false) vG.toArray.toList = [] := by simp
      rw [e] at hP
      have := hP.length
      exact Array.toList_inj.mp (List.eq_nil_of_length_eq_zero this.symm)
    subst hys
    have F5 := F4.keeps hkZ
    have N5 := News.add F4 N4 hkZ hfZ eZ
    clear F4 N4
    (repeat' (first | (k_unfold; (try dsimp only)) | ((((fail_if_success k_end); (fail_if_success (with_reducible show wpAny _ _ (exec (PySem.Stmt.For _ _ _ _ _) _) _ _ _)); (fail_if_success (with_reducible show wpAny _ _ (eval (PySem.Expr.ListComp _ _ _ _) _) _ _ _)); (fail_if_success (with_reducible show wpAny _ _ (call (Value.ref _) _) _ _ _)); (fail_if_success (with_reducible show wpAny _ _ (compareOp _ (Value.ref _) (Value.ref _)) _ _ _)); (fail_if_success (with_reducible show wpAny _ _ (exec _ _) _ _ _)); (fail_if_success (with_reducible show wpAny _ _ (subscriptTail _ (PySem.Expr.Slice _ _ _ _) _ _) _ _ _)); (fail_if_success (with_reducible show wpAny _ _ (call (Value.type "zip") _) _ _ _)))); walk1) | (dsimp only; (((fail_if_success k_end); (fail_if_success (with_reducible show wpAny _ _ (exec (PySem.Stmt.For _ _ _ _ _) _) _ _ _)); (fail_if_success (with_reducible show wpAny _ _ (eval (PySem.Expr.ListComp _ _ _ _) _) _ _ _)); (fail_if_success (with_reducible show wpAny _ _ (call (Value.ref _) _) _ _ _)); (fail_if_success (with_reducible show wpAny _ _ (compareOp _ (Value.ref _) (Value.ref _)) _ _ _)); (fail_if_success (with_reducible show wpAny _ _ (exec _ _) _ _ _)); (fail_if_success (with_reducible show wpAny _ _ (subscriptTail _ (PySem.Expr.Slice _ _ _ _) _ _) _ _ _)); (fail_if_success (with_reducible show wpAny _ _ (call (Value.type "zip") _) _ _ _)))); walk1)))
    rename Fr _ _ _ _ => F6
    rename News _ _ _ _ => N6
    refine ke_ne_ints (xs := []) (ys := []) (isList_of (n := nZ) (N6.get (.tail _ (.head _)))) (N6.isList (.head _)) .nil .nil hA3 ?_
    rw [show (!decide (([] : List Int) = [])) = false from rfl]
    replace N6 := News.sub (news' := (aG, W.listOf vG.toArray kG) :: (aO, W.listOf vO.toArray kO) :: (L' + 1 + 1 + 1 + 1 + 1 + 1 + 1, oK) :: (L' + 1 + 1 + 1 + 1 + 1 + 1, oO) :: (L' + 1 + 1 + 1, oWd) :: tl) N6 (fun q hq => .tail _ (.tail _ hq))
    (repeat' (first | (k_unfold; (try dsimp only)) | ((((fail_if_success k_end); (fail_if_success (with_reducible show wpAny _ _ (exec (PySem.Stmt.For _ _ _ _ _) _) _ _ _)); (fail_if_success (with_reducible show wpAny _ _ (eval (PySem.Expr.ListComp _ _ _ _) _) _ _ _)); (fail_if_success (with_reducible show wpAny _ _ (call (Value.ref _) _) _ _ _)); (fail_if_success (with_reducible show wpAny _ _ (compareOp _ (Value.ref _) (Value.ref _)) _ _ _)); (fail_if_success (with_reducible show wpAny _ _ (exec _ _) _ _ _)); (fail_if_success (with_reducible show wpAny _ _ (subscriptTail _ (PySem.Expr.Slice _ _ _ _) _ _) _ _ _)); (fail_if_success (with_reducible show wpAny _ _ (call (Value.type "zip") _) _ _ _)))); walk1) | (dsimp only; (((fail_if_success k_end); (fail_if_success (with_reducible show wpAny _ _ (exec (PySem.Stmt.For _ _ _ _ _) _) _ _ _)); (fail_if_success (with_reducible show wpAny _ _ (eval (PySem.Expr.ListComp _ _ _ _) _) _ _ _)); (fail_if_success (with_reducible show wpAny _ _ (call (Value.ref _) _) _ _ _)); (fail_if_success (with_reducible show wpAny _ _ (compareOp _ (Value.ref _) (Value.ref _)) _ _ _)); (fail_if_success (with_reducible show wpAny _ _ (exec _ _) _ _ _)); (fail_if_success (with_reducible show wpAny _ _ (subscriptTail _ (PySem.Expr.Slice _ _ _ _) _ _) _ _ _)); (fail_if_success (with_reducible show wpAny _ _ (call (Value.type "zip") _) _ _ _)))); walk1)))
    have hOl := PF.len
    have hOr := PF.inr
    have hOb : ∀ n ∈ orderF P S side w0 w1, 0 ≤ n ∧ n < 50 := fun n hn => by have := hOr.2 n hn; (lia)
    have hlay := layable_small hOb (by (lia))
    refine comp_rngA (fun _ => true) (fun v y => ∃ n t t', v = .int n t ∧ y = .int (((orderF P S side w0 w1).idxOf n : Nat) : Int) t') hA2 (by with_unfolding_all rfl) rfl (by decide) rfl (by decide) rfl rfl rfl ?_ (by intro _; with_unfolding_all rfl)
    (repeat' (first | (k_unfold; (try dsimp only)) | ((((fail_if_success k_end); (fail_if_success (with_reducible show wpAny _ _ (exec (PySem.Stmt.For _ _ _ _ _) _) _ _ _)); (fail_if_success (with_reducible show wpAny _ _ (eval (PySem.Expr.ListComp _ _ _ _) _) _ _ _)); (fail_if_success (with_reducible show wpAny _ _ (call (Value.ref _) _) _ _ _)); (fail_if_success (with_reducible show wpAny _ _ (compareOp _ (Value.ref _) (Value.ref _)) _ _ _)); (fail_if_success (with_reducible show wpAny _ _ (exec _ _) _ _ _)); (fail_if_success (with_reducible show wpAny _ _ (subscriptTail _ (PySem.Expr.Slice _ _ _ _) _ _) _ _ _)); (fail_if_success (with_reducible show wpAny _ _ (call (Value.type "zip") _) _ _ _)))); walk1) | (dsimp only; (((fail_if_success k_end); (fail_if_success (with_reducible show wpAny _ _ (exec (PySem.Stmt.For _ _ _ _ _) _) _ _ _)); (fail_if_success (with_reducible show wpAny _ _ (eval (PySem.Expr.ListComp _ _ _ _) _) _ _ _)); (fail_if_success (with_reducible show wpAny _ _ (call (Value.ref _) _) _ _ _)); (fail_if_success (with_reducible show wpAny _ _ (compareOp _ (Value.ref _) (Value.ref _)) _ _ _)); (fail_if_success (with_reducible show wpAny _ _ (exec _ _) _ _ _)); (fail_if_success (with_reducible show wpAny _ _ (subscriptTail _ (PySem.Expr.Slice _ _ _ _) _ _) _ _ _)); (fail_if_success (with_reducible show wpAny _ _ (call (Value.type "zip") _) _ _ _)))); walk1)))
    rename IsRange _ _ _ _ _ _ _ _ => hR
    rename Fr _ _ _ _ => F7
    rename News _ _ _ _ => N7
    refine ⟨_, _, 0, S, _, _, _, S.toNat, F7.ns, rfl, hR, small_one (by (with_reducible decide)) (by (with_reducible decide)) (by (with_reducible exact o_negce (by assumption) (by decide))) (by (with_reducible exact o_litc (by assumption) (by decide))), (by rw [rangeSize_nat]; simp), by have := sizeLine_eq; (with_reducible exact o_tle (by assumption) (by decide)), ?_, ?_, ?_⟩
    · intro C i t s₃ m₃ E' _ _ _ _
      exact wpAny_tests_nil ⟨rfl, _, _, rfl, fun _ _ e => e⟩
    · intro C i t s₃ m₃ E' hi _ hn hm hk
      have hl3 := isList_of (hk _ _ (N7.get (.tail _ (.head _))))
      refine MethodCall_ (wpAny_Name (wpAny_loadName_cell (c := L' + 1 + 1 + 1 + 1 + 1 + 1) (v := .ref aO) rfl rfl rfl ⟨oO, hk _ _ (N7.get (by (repeat' (first | with_reducible assumption | with_reducible exact List.mem_cons_self | with_reducible refine List.mem_cons_of_mem _ ?_ | with_reducible refine List.mem_append_left _ ?_)))), hO⟩ ?_))
      refine getMethod_list_of PySem.F.slot_list_index PySem.F.type_list_index hl3 ⟨_, hk _ _ (N7.get (.tail _ (.head _))), rfl⟩ ?_
      refine callWith_method1 (spliced_more (wpAny_Name (wpAny_loadName_local rfl rfl hn hm (spliced_none ?_))))
      refine index_list_ints hl3 iO hlay ?_ ⟨⟨_, _, _, rfl, rfl⟩, _, _, rfl, fun _ _ e => e⟩
      rw [Int.zero_add]
      exact PF.has i hi
    · intro aB hB tkB ys vs hfB hpB hlenB hPB hFB hNsB hkB
      have gL : (Gh s₁.heap).get? L' = none := Heap.get?_none_of_le F7.above
      have F8 : Fr (Gh s₁.heap) L' hB _ := ⟨hNsB, fun b o e => hkB b o (fun q => by rw [q] at e; exact absurd (e.symm.trans gL) (by simp)) (F7.keep b o e), F7.above⟩
      have iB : IntsAre ys.toList (backF (orderF P S side w0 w1) S.toNat) := by
        have h1 := ints_rng vs 0 0 (fun j v hv => by obtain ⟨t, e⟩ := hPB j v hv; exact ⟨t, by rw [e]; congr 2; (lia)⟩)
        rw [show List.filter (fun _ => true) vs = vs from by simp] at hFB
        have h2 := paired_map (g := fun n => (((orderF P S side w0 w1).idxOf n : Nat) : Int)) (fun n t y ⟨n', t', t'', e1, e2⟩ => by cases e1; exact ⟨t'', e2⟩) h1 hFB
        rw [hlenB] at h2
        unfold backF
        rw [List.range_eq_range']
        simpa [Function.comp_def] using h2
      obtain ⟨kB, eB⟩ := hpB
      have N8 : News (Gh s₁.heap) L' hB ((aB, W.listOf (List.toArray ys.toList) kB) :: (aG, W.listOf vG.toArray kG) :: (aO, W.listOf vO.toArray kO) :: (L' + 1 + 1 + 1 + 1 + 1 + 1 + 1, oK) :: (L' + 1 + 1 + 1 + 1 + 1 + 1, oO) :: (L' + 1 + 1 + 1, oWd) :: tl) := by
        intro q hq
        rcases List.mem_cons.mp hq with rfl | hq
        · refine ⟨by simpa using eB, fun q => ?_, fresh_of F7.keep hfB⟩
          obtain ⟨oL, _, _, hL, _⟩ := F7.ns
          have q' : aB = L' := q
          rw [q', hL] at hfB; cases hfB
        · have n := N7 q hq
          exact ⟨hkB _ _ n.2.1 n.1, n.2⟩
      clear F7 N7
      generalize ys.toList = vB at iB N8
      have fin := part5 (fa := fa) (cd := cd) (tk := tkB) (Q := Q) X T W' hA1 hA2 hA3 F8 N8 iO iG iB hK hO hWd hTl hPb hSb hwd hfb hd4 PF ret
      unfold lawParts Challenge.pw_ph0098_01 at fin
      dsimp only [List.drop_succ_cons, List.drop_zero, List.drop] at fin
      exact fin
end Mine
end
section
open PySem PySem.W PyProof.Rows PySem.Calls
namespace Mine
theorem wd_fill_law3 (w : World) (h : Heap) (_ : OpenLaw) (e : Challenge.rw_ph0098_01 = Challenge.rw_ph0098_01) : (hd.heap_39 w.params).In h → (hd.heap_39 w.params).In h ∧ Challenge.rw_ph0098_01 = Challenge.rw_ph0098_01 := by
  k_fill
  exact fun x => ⟨x, e⟩

set_option maxRecDepth 100000 in
set_option maxHeartbeats 4000000 in
theorem part3 {w : World} {s₁ : Shared} {A : Around} {L' fa aD aW aR x : Addr} {cd : Value} {h : Heap} {tk : Tok} {m₀ : Str → Option Value} {d0 d1 d2 d3 d4 d5 w0 w1 P R S wd side fac : Int} {sm : Bool} {u0 u1 u2 u3 u4 u5 tw0 tw1 tP tWd tS tR tsd tfc : Tok}
    {nD nW : Nat} {vr : List Value} {oP oWy oWd oRw oC oO oK : Obj} {tl : List (Addr × Obj)} {p : Program} {loose : List Str} {mean : ExcName → Option Value} {mg mb : Str → Option Value} {Q : Flow → Shared → Prop}
    (X : (hd.heap_39 w.params).In (Gh s₁.heap)) (T : Top p loose mean mg mb (Gh s₁.heap)) (W' : Wt w s₁.heap)
    (hA1 : A.depth + 100 < recursionLimit) (hA2 : A.handled = none) (hA3 : A.units + 64 < cLine)
    (F : Fr (Gh s₁.heap) L' h (fun y => if y = Str.ofString "factor" then some (Value.int fac tfc) else if y = Str.ofString "same" then some (Value.bool sm) else if y = Str.ofString "side" then some (Value.int side tsd) else if y = Str.ofString "size" then some (Value.int S tS) else if y = Str.ofString "rounds" then some (Value.int R tR) else if y = Str.ofString "drawn" then some (Value.ref aD) else m₀ y))
    (N : News (Gh s₁.heap) L' h ((aW, W.listOf #[Value.int w0 tw0, Value.int w1 tw1] nW) :: (aD, W.listOf #[Value.int d0 u0, Value.int d1 u1, Value.int d2 u2, Value.int d3 u3, Value.int d4 u4, Value.int d5 u5] nD) ::
      (L' + 1 + 1 + 1 + 1 + 1 + 1 + 1, oK) :: (L' + 1 + 1 + 1 + 1 + 1 + 1, oO) :: (L' + 1 + 1 + 1 + 1 + 1, oC) :: (L' + 1 + 1 + 1 + 1, oRw) :: (L' + 1 + 1 + 1, oWd) :: (L' + 1 + 1, oWy) :: (L' + 1, oP) :: tl))
    (hK : oK.data = .cell none) (hO : oO.data = .cell none) (hC : oC.data = .cell (some (.ref x))) (hRw : oRw.data = .cell (some (.ref aR))) (hWd : oWd.data = .cell (some (.int wd tWd))) (hWy : oWy.data = .cell (some (.ref aW))) (hP : oP.data = .cell (some (.int P tP)))
    (hTl : Tail2 w s₁.heap L' tl x aR vr (cardsF P S side) side w0 w1)
    (hPb : 2 ≤ P ∧ P ≤ 4) (hRb : 2 ≤ R ∧ R ≤ 4) (hSb : 4 ≤ S ∧ S ≤ 16) (hwd : 1 ≤ wd ∧ wd ≤ 3) (hfb : -5 < fac ∧ fac < 5) (hd4 : Builtin.Int.intBits d4 ≤ 1048576)
    (PF : Facts P S side w0 w1 fac sm)
    (ret : ∀ h' tk', Wt w h' → KeepBut s₁.heap h' → Q (.ret (.bool true)) { s₁ with heap := h', toks := tk' }) :
    wpAny (model Challenge.rw_ph0098_01.row.prog w) A (execs (lawParts.1.drop 11) (envOfC (Str.ofString "law") lawParts.2 L' fa cd)) Q (fun _ _ => False) { s₁ with heap := h, toks := tk } := by
  unfold lawParts Challenge.pw_ph0098_01
  dsimp only [List.drop_succ_cons, List.drop_zero, List.drop]
  obtain ⟨hTr, hT6, hT7⟩ := id hTl
  walk1
  (repeat' (first | (k_unfold; (try dsimp only)) | ((((fail_if_success k_end); (fail_if_success (with_reducible show wpAny _ _ (exec (PySem.Stmt.For _ _ _ _ _) _) _ _ _)); (fail_if_success (with_reducible show wpAny _ _ (eval (PySem.Expr.ListComp _ _ _ _) _) _ _ _)); (fail_if_success (with_reducible show wpAny _ _ (call (Value.ref _) _) _ _ _)); (fail_if_success (with_reducible show wpAny _ _ (compareOp _ (Value.ref _) (Value.ref _)) _ _ _)); (fail_if_success (with_reducible show wpAny _ _ (exec _ _) _ _ _)); (fail_if_success (with_reducible show wpAny _ _ (subscriptTail _ (PySem.Expr.Slice _ _ _ _) _ _) _ _ _)); (fail_if_success (with_reducible show wpAny _ _ (call (Value.type "zip") _) _ _ _)))); walk1) | (dsimp only; (((fail_if_success k_end); (fail_if_success (with_reducible show wpAny _ _ (exec (PySem.Stmt.For _ _ _ _ _) _) _ _ _)); (fail_if_success (with_reducible show wpAny _ _ (eval (PySem.Expr.ListComp _ _ _ _) _) _ _ _)); (fail_if_success (with_reducible show wpAny _ _ (call (Value.ref _) _) _ _ _)); (fail_if_success (with_reducible show wpAny _ _ (compareOp _ (Value.ref _) (Value.ref _)) _ _ _)); (fail_if_success (with_reducible show wpAny _ _ (exec _ _) _ _ _)); (fail_if_success (with_reducible show wpAny _ _ (subscriptTail _ (PySem.Expr.Slice _ _ _ _) _ _) _ _ _)); (fail_if_success (with_reducible show wpAny _ _ (call (Value.type "zip") _) _ _ _)))); walk1)))
  walk1
  (repeat' (first | (k_unfold; (try dsimp only)) | ((((fail_if_success k_end); (fail_if_success (with_reducible show wpAny _ _ (exec (PySem.Stmt.For _ _ _ _ _) _) _ _ _)); (fail_if_success (with_reducible show wpAny _ _ (eval (PySem.Expr.ListComp _ _ _ _) _) _ _ _)); (fail_if_success (with_reducible show wpAny _ _ (call (Value.ref _) _) _ _ _)); (fail_if_success (with_reducible show wpAny _ _ (compareOp _ (Value.ref _) (Value.ref _)) _ _ _)); (fail_if_success (with_reducible show wpAny _ _ (exec _ _) _ _ _)); (fail_if_success (with_reducible show wpAny _ _ (subscriptTail _ (PySem.Expr.Slice _ _ _ _) _ _) _ _ _)); (fail_if_success (with_reducible show wpAny _ _ (call (Value.type "zip") _) _ _ _)))); walk1) | (dsimp only; (((fail_if_success k_end); (fail_if_success (with_reducible show wpAny _ _ (exec (PySem.Stmt.For _ _ _ _ _) _) _ _ _)); (fail_if_success (with_reducible show wpAny _ _ (eval (PySem.Expr.ListComp _ _ _ _) _) _ _ _)); (fail_if_success (with_reducible show wpAny _ _ (call (Value.ref _) _) _ _ _)); (fail_if_success (with_reducible show wpAny _ _ (compareOp _ (Value.ref _) (Value.ref _)) _ _ _)); (fail_if_success (with_reducible show wpAny _ _ (exec _ _) _ _ _)); (fail_if_success (with_reducible show wpAny _ _ (subscriptTail _ (PySem.Expr.Slice _ _ _ _) _ _) _ _ _)); (fail_if_success (with_reducible show wpAny _ _ (call (Value.type "zip") _) _ _ _)))); walk1)))
  obtain ⟨Wh1, hr1, hrw1, hlR, hcm⟩ := hTr _ F.keep fun q hq => (N q (by (repeat' (first | with_reducible assumption | with_reducible exact List.mem_cons_self | with_reducible refine List.mem_cons_of_mem _ ?_ | with_reducible refine List.mem_append_left _ ?_)))).1
  refine ⟨X.keeps F.keep, ?_⟩
  have hvrl : vr.length ≤ 16 := by
    have := congrArg List.length hrw1
    rw [List.length_map] at this
    unfold cardsF at this
    simp at this
    (lia)
  refine deal_spec Wh1.wd (by (with_reducible exact o_dp (by assumption) (by decide))) hA2 (by split <;> (with_reducible decide)) (by split <;> (with_reducible decide)) hcm hlR hr1 (by (with_reducible exact Nat.le_trans (by assumption) (by decide))) fun aO tk2 h2 hk2 hf2 hl2 => ?_
  rw [hrw1] at hl2
  replace hl2 : LI h2 aO (orderF P S side w0 w1) := hl2
  refine new_lo F N hk2 hf2 hl2 fun oOr hOr F2 N2 => ?_
  clear F N
  obtain ⟨vO, kO, rfl, iO⟩ := hOr
  have nO := ne_cell N2 (.head _) (c := L' + 1 + 1 + 1 + 1 + 1 + 1) (by (repeat' (first | with_reducible assumption | with_reducible exact List.mem_cons_self | with_reducible refine List.mem_cons_of_mem _ ?_ | with_reducible refine List.mem_append_left _ ?_))) hO (fun _ h => by cases h)
  have nW6 := ne_cell N2 (.tail _ (.head _)) (c := L' + 1 + 1 + 1 + 1 + 1 + 1) (by (repeat' (first | with_reducible assumption | with_reducible exact List.mem_cons_self | with_reducible refine List.mem_cons_of_mem _ ?_ | with_reducible refine List.mem_append_left _ ?_))) hO (fun _ h => by cases h)
  have nD6 := ne_cell N2 (.tail _ (.tail _ (.head _))) (c := L' + 1 + 1 + 1 + 1 + 1 + 1) (by (repeat' (first | with_reducible assumption | with_reducible exact List.mem_cons_self | with_reducible refine List.mem_cons_of_mem _ ?_ | with_reducible refine List.mem_append_left _ ?_))) hO (fun _ h => by cases h)
  (repeat' (first | (k_unfold; (try dsimp only)) | ((((fail_if_success k_end); (fail_if_success (with_reducible show wpAny _ _ (exec (PySem.Stmt.For _ _ _ _ _) _) _ _ _)); (fail_if_success (with_reducible show wpAny _ _ (eval (PySem.Expr.ListComp _ _ _ _) _) _ _ _)); (fail_if_success (with_reducible show wpAny _ _ (call (Value.ref _) _) _ _ _)); (fail_if_success (with_reducible show wpAny _ _ (compareOp _ (Value.ref _) (Value.ref _)) _ _ _)); (fail_if_success (with_reducible show wpAny _ _ (exec _ _) _ _ _)); (fail_if_success (with_reducible show wpAny _ _ (subscriptTail _ (PySem.Expr.Slice _ _ _ _) _ _) _ _ _)); (fail_if_success (with_reducible show wpAny _ _ (call (Value.type "zip") _) _ _ _)))); walk1) | (dsimp only; (((fail_if_success k_end); (fail_if_success (with_reducible show wpAny _ _ (exec (PySem.Stmt.For _ _ _ _ _) _) _ _ _)); (fail_if_success (with_reducible show wpAny _ _ (eval (PySem.Expr.ListComp _ _ _ _) _) _ _ _)); (fail_if_success (with_reducible show wpAny _ _ (call (Value.ref _) _) _ _ _)); (fail_if_success (with_reducible show wpAny _ _ (compareOp _ (Value.ref _) (Value.ref _)) _ _ _)); (fail_if_success (with_reducible show wpAny _ _ (exec _ _) _ _ _)); (fail_if_success (with_reducible show wpAny _ _ (subscriptTail _ (PySem.Expr.Slice _ _ _ _) _ _) _ _ _)); (fail_if_success (with_reducible show wpAny _ _ (call (Value.type "zip") _) _ _ _)))); walk1)))
  rename_i hH3 oO' F3 N3 hO2
  walk1
  (repeat' (first | (k_unfold; (try dsimp only)) | ((((fail_if_success k_end); (fail_if_success (with_reducible show wpAny _ _ (exec (PySem.Stmt.For _ _ _ _ _) _) _ _ _)); (fail_if_success (with_reducible show wpAny _ _ (eval (PySem.Expr.ListComp _ _ _ _) _) _ _ _)); (fail_if_success (with_reducible show wpAny _ _ (call (Value.ref _) _) _ _ _)); (fail_if_success (with_reducible show wpAny _ _ (compareOp _ (Value.ref _) (Value.ref _)) _ _ _)); (fail_if_success (with_reducible show wpAny _ _ (exec _ _) _ _ _)); (fail_if_success (with_reducible show wpAny _ _ (subscriptTail _ (PySem.Expr.Slice _ _ _ _) _ _) _ _ _)); (fail_if_success (with_reducible show wpAny _ _ (call (Value.type "zip") _) _ _ _)))); walk1) | (dsimp only; (((fail_if_success k_end); (fail_if_success (with_reducible show wpAny _ _ (exec (PySem.Stmt.For _ _ _ _ _) _) _ _ _)); (fail_if_success (with_reducible show wpAny _ _ (eval (PySem.Expr.ListComp _ _ _ _) _) _ _ _)); (fail_if_success (with_reducible show wpAny _ _ (call (Value.ref _) _) _ _ _)); (fail_if_success (with_reducible show wpAny _ _ (compareOp _ (Value.ref _) (Value.ref _)) _ _ _)); (fail_if_success (with_reducible show wpAny _ _ (exec _ _) _ _ _)); (fail_if_success (with_reducible show wpAny _ _ (subscriptTail _ (PySem.Expr.Slice _ _ _ _) _ _) _ _ _)); (fail_if_success (with_reducible show wpAny _ _ (call (Value.type "zip") _) _ _ _)))); walk1)))
  have Wd3 := (hTr _ F3.keep fun q hq => (N3 q (by (repeat' (first | with_reducible assumption | with_reducible exact List.mem_cons_self | with_reducible refine List.mem_cons_of_mem _ ?_ | with_reducible refine List.mem_append_left _ ?_)))).1).1.wd
  refine ⟨X.keeps F3.keep, ?_⟩
  refine due_spec Wd3 (by (with_reducible exact o_dp (by assumption) (by decide))) hA2 (by (with_reducible exact o_negc (by assumption) (by decide))) (by (with_reducible exact o_litc (by assumption) (by decide))) (by (lia)) (by (lia)) PF.pl (Nat.lt_trans PF.pl2 (by decide)) PF.pb (PF.idx 1) fun aE tk4 h4 hk4 hf4 hl4 => ?_
  refine new_li F3 N3 hk4 hf4 hl4 fun vE kE F4 N4 iE => ?_
  clear F3 N3
  (repeat' (first | (k_unfold; (try dsimp only)) | ((((fail_if_success k_end); (fail_if_success (with_reducible show wpAny _ _ (exec (PySem.Stmt.For _ _ _ _ _) _) _ _ _)); (fail_if_success (with_reducible show wpAny _ _ (eval (PySem.Expr.ListComp _ _ _ _) _) _ _ _)); (fail_if_success (with_reducible show wpAny _ _ (call (Value.ref _) _) _ _ _)); (fail_if_success (with_reducible show wpAny _ _ (compareOp _ (Value.ref _) (Value.ref _)) _ _ _)); (fail_if_success (with_reducible show wpAny _ _ (exec _ _) _ _ _)); (fail_if_success (with_reducible show wpAny _ _ (subscriptTail _ (PySem.Expr.Slice _ _ _ _) _ _) _ _ _)); (fail_if_success (with_reducible show wpAny _ _ (call (Value.type "zip") _) _ _ _)))); walk1) | (dsimp only; (((fail_if_success k_end); (fail_if_success (with_reducible show wpAny _ _ (exec (PySem.Stmt.For _ _ _ _ _) _) _ _ _)); (fail_if_success (with_reducible show wpAny _ _ (eval (PySem.Expr.ListComp _ _ _ _) _) _ _ _)); (fail_if_success (with_reducible show wpAny _ _ (call (Value.ref _) _) _ _ _)); (fail_if_success (with_reducible show wpAny _ _ (compareOp _ (Value.ref _) (Value.ref _)) _ _ _)); (fail_if_success (with_reducible show wpAny _ _ (exec _ _) _ _ _)); (fail_if_success (with_reducible show wpAny _ _ (subscriptTail _ (PySem.Expr.Slice _ _ _ _) _ _) _ _ _)); (fail_if_success (with_reducible show wpAny _ _ (call (Value.type "zip") _) _ _ _)))); walk1)))
  refine ke_ne_ints (isList_of (N4.get (.tail _ (.head _)))) (isList_of (N4.get (.head _))) iO iE hA3 ?_
  rw [show (!decide (orderF P S side w0 w1 = dueF S fac sm 1)) = false by simp [PF.ord]]
  (repeat' (first | (k_unfold; (try dsimp only)) | ((((fail_if_success k_end); (fail_if_success (with_reducible show wpAny _ _ (exec (PySem.Stmt.For _ _ _ _ _) _) _ _ _)); (fail_if_success (with_reducible show wpAny _ _ (eval (PySem.Expr.ListComp _ _ _ _) _) _ _ _)); (fail_if_success (with_reducible show wpAny _ _ (call (Value.ref _) _) _ _ _)); (fail_if_success (with_reducible show wpAny _ _ (compareOp _ (Value.ref _) (Value.ref _)) _ _ _)); (fail_if_success (with_reducible show wpAny _ _ (exec _ _) _ _ _)); (fail_if_success (with_reducible show wpAny _ _ (subscriptTail _ (PySem.Expr.Slice _ _ _ _) _ _) _ _ _)); (fail_if_success (with_reducible show wpAny _ _ (call (Value.type "zip") _) _ _ _)))); walk1) | (dsimp only; (((fail_if_success k_end); (fail_if_success (with_reducible show wpAny _ _ (exec (PySem.Stmt.For _ _ _ _ _) _) _ _ _)); (fail_if_success (with_reducible show wpAny _ _ (eval (PySem.Expr.ListComp _ _ _ _) _) _ _ _)); (fail_if_success (with_reducible show wpAny _ _ (call (Value.ref _) _) _ _ _)); (fail_if_success (with_reducible show wpAny _ _ (compareOp _ (Value.ref _) (Value.ref _)) _ _ _)); (fail_if_success (with_reducible show wpAny _ _ (exec _ _) _ _ _)); (fail_if_success (with_reducible show wpAny _ _ (subscriptTail _ (PySem.Expr.Slice _ _ _ _) _ _) _ _ _)); (fail_if_success (with_reducible show wpAny _ _ (call (Value.type "zip") _) _ _ _)))); walk1)))
  have hTr4 := hTr _ F4.keep fun q hq => (N4 q (by (repeat' (first | with_reducible assumption | with_reducible exact List.mem_cons_self | with_reducible refine List.mem_cons_of_mem _ ?_ | with_reducible refine List.mem_append_left _ ?_)))).1
  obtain ⟨Wh4, hr4, hrw4, hlR4, hcm4⟩ := hTr4
  walk1
  (repeat' (first | (k_unfold; (try dsimp only)) | ((((fail_if_success k_end); (fail_if_success (with_reducible show wpAny _ _ (exec (PySem.Stmt.For _ _ _ _ _) _) _ _ _)); (fail_if_success (with_reducible show wpAny _ _ (eval (PySem.Expr.ListComp _ _ _ _) _) _ _ _)); (fail_if_success (with_reducible show wpAny _ _ (call (Value.ref _) _) _ _ _)); (fail_if_success (with_reducible show wpAny _ _ (compareOp _ (Value.ref _) (Value.ref _)) _ _ _)); (fail_if_success (with_reducible show wpAny _ _ (exec _ _) _ _ _)); (fail_if_success (with_reducible show wpAny _ _ (subscriptTail _ (PySem.Expr.Slice _ _ _ _) _ _) _ _ _)); (fail_if_success (with_reducible show wpAny _ _ (call (Value.type "zip") _) _ _ _)))); walk1) | (dsimp only; (((fail_if_success k_end); (fail_if_success (with_reducible show wpAny _ _ (exec (PySem.Stmt.For _ _ _ _ _) _) _ _ _)); (fail_if_success (with_reducible show wpAny _ _ (eval (PySem.Expr.ListComp _ _ _ _) _) _ _ _)); (fail_if_success (with_reducible show wpAny _ _ (call (Value.ref _) _) _ _ _)); (fail_if_success (with_reducible show wpAny _ _ (compareOp _ (Value.ref _) (Value.ref _)) _ _ _)); (fail_if_success (with_reducible show wpAny _ _ (exec _ _) _ _ _)); (fail_if_success (with_reducible show wpAny _ _ (subscriptTail _ (PySem.Expr.Slice _ _ _ _) _ _) _ _ _)); (fail_if_success (with_reducible show wpAny _ _ (call (Value.type "zip") _) _ _ _)))); walk1)))
  refine comp2_none hA2 rfl (by decide) rfl (by decide) rfl rfl (by decide) ?_ (by intro _; with_unfolding_all rfl) (by intro _ _; with_unfolding_all rfl)
  refine wpAny_Name (wpAny_loadName_cell (c := L' + 1 + 1 + 1 + 1) (v := .ref aR) rfl rfl rfl ⟨oRw, N4.get (by (repeat' (first | with_reducible assumption | with_reducible exact List.mem_cons_self | with_reducible refine List.mem_cons_of_mem _ ?_ | with_reducible refine List.mem_append_left _ ?_))), hRw⟩ ?_)
  refine ⟨aR, vr.toArray, rfl, hlR4, ?_, ?_, ?_, ?_⟩
  · have := sizeLine_eq; simp; (with_reducible exact o_szn (by assumption) (by decide))
  · intro C s₃ m₃ E' Q' hn hk hq
    exact wpAny_Name (wpAny_loadName_cell (c := L' + 1 + 1 + 1 + 1) (v := .ref aR) rfl rfl rfl ⟨oRw, hk _ _ (N4.get (by (repeat' (first | with_reducible assumption | with_reducible exact List.mem_cons_self | with_reducible refine List.mem_cons_of_mem _ ?_ | with_reducible refine List.mem_append_left _ ?_)))), hRw⟩ hq)
  · intro C v1 v2 s₃ m₃ E' hv1 hv2 hn hm1 hm2 hk
    have hks : KeepAll (Gh s₁.heap) s₃.heap := KeepAll.trans F4.keep hk
    have hm1' : rowOf h4 v1 ∈ cardsF P S side := by rw [← hrw4]; exact List.mem_map_of_mem (by simpa using hv1)
    have hm2' : rowOf h4 v2 ∈ cardsF P S side := by rw [← hrw4]; exact List.mem_map_of_mem (by simpa using hv2)
    obtain ⟨b1, x0, x1, x2, rfl, ty1, hry1⟩ := (hr4 v1 (by simpa using hv1)).row
    obtain ⟨b2, y0, y1, y2, rfl, ty2, hry2⟩ := (hr4 v2 (by simpa using hv2)).row
    rw [hry1] at hm1'
    rw [hry2] at hm2'
    have hcm3 := hcm4.keeps hk
    have hcm3' := hcm3
    obtain ⟨dx, hsh, tkd, nd, sl, a1, a2, nl, e1, e2, e3, e4, e5⟩ := hcm3'
    refine wpAny_tests_one (wpAny_isTrue_Compare1 (MethodCall_ (wpAny_Name (wpAny_loadName_cell (c := L' + 1 + 1 + 1 + 1 + 1) (v := .ref x) rfl rfl rfl ⟨oC, hk _ _ (N4.get (by (repeat' (first | with_reducible assumption | with_reducible exact List.mem_cons_self | with_reducible refine List.mem_cons_of_mem _ ?_ | with_reducible refine List.mem_append_left _ ?_)))), hC⟩ ?_))))
    have I3 : InstAt s₃.heap x (instObj 38 dx) 38 (some (dictOf [⟨hsh, .str (Str.ofString "comp_select_list") tkd, .ref sl⟩] nd)) := ⟨e1, rfl, rfl, e2⟩
    k_dflt (refine' method_fn (X.keeps hks) I3 ?h1 ?h2 ?h3 ?h4 ?h5 ?_; (case h1 => k_is); (case h2 => k_is); (case h3 => k_is); (case h4 => k_is); (case h5 => rfl))
    refine callWith_K X (by k_is) ?_
    refine spliced_more (wpAny_Name (wpAny_loadName_local rfl rfl hn hm1 ?_))
    refine spliced_more (wpAny_Name (wpAny_loadName_local rfl rfl hn hm2 ?_))
    refine spliced_none ⟨X.keeps hks, ?_⟩
    refine compare_spec (Wh4.wd.keeps hk) (by (with_reducible exact o_dp (by assumption) (by decide))) hA2 (by split <;> (with_reducible decide)) (by split <;> (with_reducible decide)) hcm3 (ty1.keeps hk) (ty2.keeps hk) fun t6 tk6 h6 hk6 => ?_
    have hk46 := KeepAll.trans hk hk6
    have hks6 := KeepAll.trans hks hk6
    have hn6 := hn.keeps hk6
    refine Call_ (gname (X.keeps hks6) (T.keeps hks6) (v := .ref 110) (by kernel_rfl) rfl rfl rfl ?_)
    refine callWith_K X (by k_is) ?_
    obtain ⟨vt1, hty1, hiy1⟩ := ty1.isTup
    obtain ⟨vt2, hty2, hiy2⟩ := ty2.isTup
    refine spliced_more (Subscript_ (wpAny_Name (wpAny_loadName_local rfl rfl hn6 hm1 (wpAny_Constant_int ?_))))
    refine item_tup (hty1.keeps fun b o e => hk46 _ _ e) hiy1 (by (with_reducible decide)) (by simp) (by have := sizeLine_eq; simp; (with_reducible decide)) fun t7 => ?_
    refine spliced_more (Subscript_ (wpAny_Name (wpAny_loadName_local rfl rfl hn6 hm2 (wpAny_Constant_int ?_))))
    refine item_tup (hty2.keeps fun b o e => hk46 _ _ e) hiy2 (by (with_reducible decide)) (by simp) (by have := sizeLine_eq; simp; (with_reducible decide)) fun t8 => ?_
    refine spliced_more (wpAny_Name (wpAny_loadName_cell (c := L' + 1) (v := .int P tP) rfl rfl rfl ⟨oP, hk46 _ _ (N4.get (by (repeat' (first | with_reducible assumption | with_reducible exact List.mem_cons_self | with_reducible refine List.mem_cons_of_mem _ ?_ | with_reducible refine List.mem_append_left _ ?_)))), hP⟩ ?_))
    refine spliced_more (wpAny_Name (wpAny_loadName_cell (c := L' + 1 + 1) (v := .ref aW) rfl rfl rfl ⟨oWy, hk46 _ _ (N4.get (by (repeat' (first | with_reducible assumption | with_reducible exact List.mem_cons_self | with_reducible refine List.mem_cons_of_mem _ ?_ | with_reducible refine List.mem_append_left _ ?_)))), hWy⟩ ?_))
    refine spliced_none ⟨X.keeps hks6, ?_⟩
    refine side_spec ((Wh4.wd.keeps hk).keeps hk6) (by (with_reducible exact o_dp (by assumption) (by decide))) hA2 (by (lia)) ⟨[.int w0 tw0, .int w1 tw1], nW, hk46 _ _ (N4.get (.tail _ (.tail _ (.head _)))), .cons _ _ (.cons _ _ .nil)⟩ fun t9 tk9 h9 hk9 => ?_
    refine ne_int (wpAny_truthy_bool ⟨?_, _, _, rfl, KeepAll.trans hk6 hk9⟩)
    have := PF.cmp _ hm1' _ hm2'
    unfold ltF at this
    rw [this]
    simp
  intro aZ hZ tkZ hfZ hpZ hkZ
  obtain ⟨nZ, eZ⟩ := hpZ
  have F5 := F4.keeps hkZ
  have N5 := News.add F4 N4 hkZ hfZ eZ
  clear F4 N4
  (repeat' (first | (k_unfold; (try dsimp only)) | ((((fail_if_success k_end); (fail_if_success (with_reducible show wpAny _ _ (exec (PySem.Stmt.For _ _ _ _ _) _) _ _ _)); (fail_if_success (with_reducible show wpAny _ _ (eval (PySem.Expr.ListComp _ _ _ _) _) _ _ _)); (fail_if_success (with_reducible show wpAny _ _ (call (Value.ref _) _) _ _ _)); (fail_if_success (with_reducible show wpAny _ _ (compareOp _ (Value.ref _) (Value.ref _)) _ _ _)); (fail_if_success (with_reducible show wpAny _ _ (exec _ _) _ _ _)); (fail_if_success (with_reducible show wpAny _ _ (subscriptTail _ (PySem.Expr.Slice _ _ _ _) _ _) _ _ _)); (fail_if_success (with_reducible show wpAny _ _ (call (Value.type "zip") _) _ _ _)))); walk1) | (dsimp only; (((fail_if_success k_end); (fail_if_success (with_reducible show wpAny _ _ (exec (PySem.Stmt.For _ _ _ _ _) _) _ _ _)); (fail_if_success (with_reducible show wpAny _ _ (eval (PySem.Expr.ListComp _ _ _ _) _) _ _ _)); (fail_if_success (with_reducible show wpAny _ _ (call (Value.ref _) _) _ _ _)); (fail_if_success (with_reducible show wpAny _ _ (compareOp _ (Value.ref _) (Value.ref _)) _ _ _)); (fail_if_success (with_reducible show wpAny _ _ (exec _ _) _ _ _)); (fail_if_success (with_reducible show wpAny _ _ (subscriptTail _ (PySem.Expr.Slice _ _ _ _) _ _) _ _ _)); (fail_if_success (with_reducible show wpAny _ _ (call (Value.type "zip") _) _ _ _)))); walk1)))
  rename Fr _ _ _ _ => F6
  rename News _ _ _ _ => N6
  refine ke_ne_ints (xs := []) (ys := []) (isList_of (n := nZ) (N6.get (.tail _ (.head _)))) (N6.isList (.head _)) .nil .nil hA3 ?_
  rw [show (!decide (([] : List Int) = [])) = false from rfl]
  replace N6 := News.sub (news' := (aO, W.listOf vO.toArray kO) :: (aW, W.listOf #[Value.int w0 tw0, Value.int w1 tw1] nW) :: (aD, W.listOf #[Value.int d0 u0, Value.int d1 u1, Value.int d2 u2, Value.int d3 u3, Value.int d4 u4, Value.int d5 u5] nD) ::
      (L' + 1 + 1 + 1 + 1 + 1 + 1 + 1, oK) :: (L' + 1 + 1 + 1 + 1 + 1 + 1, oO') :: (L' + 1 + 1 + 1 + 1 + 1, oC) :: (L' + 1 + 1 + 1 + 1, oRw) :: (L' + 1 + 1 + 1, oWd) :: (L' + 1 + 1, oWy) :: (L' + 1, oP) :: tl) N6 (fun q hq => .tail _ (.tail _ (.tail _ hq)))
  (repeat' (first | (k_unfold; (try dsimp only)) | ((((fail_if_success k_end); (fail_if_success (with_reducible show wpAny _ _ (exec (PySem.Stmt.For _ _ _ _ _) _) _ _ _)); (fail_if_success (with_reducible show wpAny _ _ (eval (PySem.Expr.ListComp _ _ _ _) _) _ _ _)); (fail_if_success (with_reducible show wpAny _ _ (call (Value.ref _) _) _ _ _)); (fail_if_success (with_reducible show wpAny _ _ (compareOp _ (Value.ref _) (Value.ref _)) _ _ _)); (fail_if_success (with_reducible show wpAny _ _ (exec _ _) _ _ _)); (fail_if_success (with_reducible show wpAny _ _ (subscriptTail _ (PySem.Expr.Slice _ _ _ _) _ _) _ _ _)); (fail_if_success (with_reducible show wpAny _ _ (call (Value.type "zip") _) _ _ _)))); walk1) | (dsimp only; (((fail_if_success k_end); (fail_if_success (with_reducible show wpAny _ _ (exec (PySem.Stmt.For _ _ _ _ _) _) _ _ _)); (fail_if_success (with_reducible show wpAny _ _ (eval (PySem.Expr.ListComp _ _ _ _) _) _ _ _)); (fail_if_success (with_reducible show wpAny _ _ (call (Value.ref _) _) _ _ _)); (fail_if_success (with_reducible show wpAny _ _ (compareOp _ (Value.ref _) (Value.ref _)) _ _ _)); (fail_if_success (with_reducible show wpAny _ _ (exec _ _) _ _ _)); (fail_if_success (with_reducible show wpAny _ _ (subscriptTail _ (PySem.Expr.Slice _ _ _ _) _ _) _ _ _)); (fail_if_success (with_reducible show wpAny _ _ (call (Value.type "zip") _) _ _ _)))); walk1)))
  walk1
  (repeat' (first | (k_unfold; (try dsimp only)) | ((((fail_if_success k_end); (fail_if_success (with_reducible show wpAny _ _ (exec (PySem.Stmt.For _ _ _ _ _) _) _ _ _)); (fail_if_success (with_reducible show wpAny _ _ (eval (PySem.Expr.ListComp _ _ _ _) _) _ _ _)); (fail_if_success (with_reducible show wpAny _ _ (call (Value.ref _) _) _ _ _)); (fail_if_success (with_reducible show wpAny _ _ (compareOp _ (Value.ref _) (Value.ref _)) _ _ _)); (fail_if_success (with_reducible show wpAny _ _ (exec _ _) _ _ _)); (fail_if_success (with_reducible show wpAny _ _ (subscriptTail _ (PySem.Expr.Slice _ _ _ _) _ _) _ _ _)); (fail_if_success (with_reducible show wpAny _ _ (call (Value.type "zip") _) _ _ _)))); walk1) | (dsimp only; (((fail_if_success k_end); (fail_if_success (with_reducible show wpAny _ _ (exec (PySem.Stmt.For _ _ _ _ _) _) _ _ _)); (fail_if_success (with_reducible show wpAny _ _ (eval (PySem.Expr.ListComp _ _ _ _) _) _ _ _)); (fail_if_success (with_reducible show wpAny _ _ (call (Value.ref _) _) _ _ _)); (fail_if_success (with_reducible show wpAny _ _ (compareOp _ (Value.ref _) (Value.ref _)) _ _ _)); (fail_if_success (with_reducible show wpAny _ _ (exec _ _) _ _ _)); (fail_if_success (with_reducible show wpAny _ _ (subscriptTail _ (PySem.Expr.Slice _ _ _ _) _ _) _ _ _)); (fail_if_success (with_reducible show wpAny _ _ (call (Value.type "zip") _) _ _ _)))); walk1)))
  rename Fr _ _ _ _ => F7
  replace F7 : Fr (Gh s₁.heap) L' _ (fun y => if y = Str.ofString "times" then some (Value.int d4 _) else if y = Str.ofString "factor" then some (Value.int fac tfc) else if y = Str.ofString "same" then some (Value.bool sm) else if y = Str.ofString "side" then some (Value.int side tsd) else if y = Str.ofString "size" then some (Value.int S tS) else if y = Str.ofString "rounds" then some (Value.int R tR) else if y = Str.ofString "drawn" then some (Value.ref aD) else m₀ y) := F7
  walk1
  (repeat' (first | (k_unfold; (try dsimp only)) | ((((fail_if_success k_end); (fail_if_success (with_reducible show wpAny _ _ (exec (PySem.Stmt.For _ _ _ _ _) _) _ _ _)); (fail_if_success (with_reducible show wpAny _ _ (eval (PySem.Expr.ListComp _ _ _ _) _) _ _ _)); (fail_if_success (with_reducible show wpAny _ _ (call (Value.ref _) _) _ _ _)); (fail_if_success (with_reducible show wpAny _ _ (compareOp _ (Value.ref _) (Value.ref _)) _ _ _)); (fail_if_success (with_reducible show wpAny _ _ (exec _ _) _ _ _)); (fail_if_success (with_reducible show wpAny _ _ (subscriptTail _ (PySem.Expr.Slice _ _ _ _) _ _) _ _ _)); (fail_if_success (with_reducible show wpAny _ _ (call (Value.type "zip") _) _ _ _)))); walk1) | (dsimp only; (((fail_if_success k_end); (fail_if_success (with_reducible show wpAny _ _ (exec (PySem.Stmt.For _ _ _ _ _) _) _ _ _)); (fail_if_success (with_reducible show wpAny _ _ (eval (PySem.Expr.ListComp _ _ _ _) _) _ _ _)); (fail_if_success (with_reducible show wpAny _ _ (call (Value.ref _) _) _ _ _)); (fail_if_success (with_reducible show wpAny _ _ (compareOp _ (Value.ref _) (Value.ref _)) _ _ _)); (fail_if_success (with_reducible show wpAny _ _ (exec _ _) _ _ _)); (fail_if_success (with_reducible show wpAny _ _ (subscriptTail _ (PySem.Expr.Slice _ _ _ _) _ _) _ _ _)); (fail_if_success (with_reducible show wpAny _ _ (call (Value.type "zip") _) _ _ _)))); walk1)))
  rename Fr _ _ _ _ => F8
  rename News _ _ _ _ => N8
  have Wh8 := (hTr _ F8.keep fun q hq => (N8 q (by (repeat' (first | with_reducible assumption | with_reducible exact List.mem_cons_self | with_reducible refine List.mem_cons_of_mem _ ?_ | with_reducible refine List.mem_append_left _ ?_)))).1).1
  refine ⟨X.keeps F8.keep, ?_⟩
  rw [show (if d4 < 0 then -d4 else d4) = (d4.natAbs : Int) from by split <;> (first | with_reducible exact o_abs1 (by assumption) | (lia))]
  refine dig_hot Wh8 (by (with_reducible exact o_dp (by assumption) (by decide))) hA2 (by (with_reducible exact Int.natCast_nonneg _)) (Nat.le_trans (intBits_natAbs_le hd4) (by decide)) hwd.1 (by (with_reducible exact o_lec (by assumption) (by decide))) fun aG tkG hG hkG hfG hlG => ?_
  refine new_li F8 N8 hkG hfG hlG fun vG kG F9 N9 iG => ?_
  clear F8 N8
  (repeat' ((fail_if_success (with_reducible show wpAny _ _ (execs _ _) _ _ _)); first | (k_unfold; (try dsimp only)) | ((((fail_if_success k_end); (fail_if_success (with_reducible show wpAny _ _ (exec (PySem.Stmt.For _ _ _ _ _) _) _ _ _)); (fail_if_success (with_reducible show wpAny _ _ (eval (PySem.Expr.ListComp _ _ _ _) _) _ _ _)); (fail_if_success (with_reducible show wpAny _ _ (call (Value.ref _) _) _ _ _)); (fail_if_success (with_reducible show wpAny _ _ (compareOp _ (Value.ref _) (Value.ref _)) _ _ _)); (fail_if_success (with_reducible show wpAny _ _ (exec _ _) _ _ _)); (fail_if_success (with_reducible show wpAny _ _ (subscriptTail _ (PySem.Expr.Slice _ _ _ _) _ _) _ _ _)); (fail_if_success (with_reducible show wpAny _ _ (call (Value.type "zip") _) _ _ _)))); walk1) | (dsimp only; (fail_if_success (with_reducible show wpAny _ _ (execs _ _) _ _ _)); (((fail_if_success k_end); (fail_if_success (with_reducible show wpAny _ _ (exec (PySem.Stmt.For _ _ _ _ _) _) _ _ _)); (fail_if_success (with_reducible show wpAny _ _ (eval (PySem.Expr.ListComp _ _ _ _) _) _ _ _)); (fail_if_success (with_reducible show wpAny _ _ (call (Value.ref _) _) _ _ _)); (fail_if_success (with_reducible show wpAny _ _ (compareOp _ (Value.ref _) (Value.ref _)) _ _ _)); (fail_if_success (with_reducible show wpAny _ _ (exec _ _) _ _ _)); (fail_if_success (with_reducible show wpAny _ _ (subscriptTail _ (PySem.Expr.Slice _ _ _ _) _ _) _ _ _)); (fail_if_success (with_reducible show wpAny _ _ (call (Value.type "zip") _) _ _ _)))); walk1)))
  rename Fr _ _ _ _ => F10
  rename News _ _ _ _ => N10
  have N11 := News.sub N10 (news' := (aG, W.listOf (List.toArray vG) kG) :: (aO, W.listOf (List.toArray vO) kO) ::
      (L' + 1 + 1 + 1 + 1 + 1 + 1 + 1, oK) :: (L' + 1 + 1 + 1 + 1 + 1 + 1, oO') :: (L' + 1 + 1 + 1, oWd) :: tl) (by (repeat' (first | with_reducible exact sub_nil | with_reducible refine sub_cons ?_ ?_ | with_reducible assumption | with_reducible exact List.mem_cons_self | with_reducible refine List.mem_cons_of_mem _ ?_ | with_reducible refine List.mem_append_left _ ?_ | intro _ _)))
  have fin := fun tk => part4 (fa := fa) (cd := cd) (tk := tk) (aD := aD) (aR := aR) (x := x) (R := R) (tR := tR) (vr := vr) (tsd := tsd) (tS := tS) (tfc := tfc) (Q := Q) X T W' hA1 hA2 hA3 F10 N11 iO iG hK hO2 hWd hTl hPb hSb hwd hfb hd4 PF ret
  unfold lawParts Challenge.pw_ph0098_01 at fin
  dsimp only [List.drop_succ_cons, List.drop_zero, List.drop] at fin
  exact fin _
end Mine
end
section
open PySem PySem.W PyProof.Rows PySem.Calls
namespace Mine
theorem wd_fill_law2 (w : World) (h : Heap) (_ : OpenLaw) (e : Challenge.rw_ph0098_01 = Challenge.rw_ph0098_01) : (hd.heap_39 w.params).In h → (hd.heap_39 w.params).In h ∧ Challenge.rw_ph0098_01 = Challenge.rw_ph0098_01 := by
  k_fill
  exact fun x => ⟨x, e⟩
/-- the tail of the law's ledger: tables, and the rows' tuples -/
def Tail (w : World) (g : Heap) (L : Addr) (tl : List (Addr × Obj)) (vr : List Value) (rows : List (List Int)) : Prop :=
  (∀ h'', KeepAll (Gh g) h'' → (∀ q ∈ tl, h''.get? q.1 = some q.2) → Wh w h'' ∧ (∀ v ∈ vr, IsRow h'' v) ∧ vr.map (rowOf h'') = rows) ∧
  (∀ p ∈ tl, p.1 ≠ L + 1 + 1 + 1 + 1) ∧ (∀ p ∈ tl, p.1 ≠ L + 1 + 1 + 1 + 1 + 1) ∧ (∀ p ∈ tl, p.1 ≠ L + 1 + 1 + 1 + 1 + 1 + 1) ∧ (∀ p ∈ tl, p.1 ≠ L + 1 + 1 + 1 + 1 + 1 + 1 + 1)

inductive CompK (s₁ : Shared) (L : Addr) (side w0 w1 : Int) (m : Str → Option Value) (nl : Obj → List (Addr × Obj)) (s' : Shared) : Prop
  | mk : ∀ h tk x dx hsh tkk nd sl a1 a2 t1 t2 oC', s' = { s₁ with heap := h, toks := tk } → Fr (Gh s₁.heap) L h m →
    News (Gh s₁.heap) L h ((x, instObj 38 dx) :: (dx, dictOf [⟨hsh, .str (Str.ofString "comp_select_list") tkk, .ref sl⟩] nd) :: (sl, W.listOf #[Value.ref a1, Value.ref a2] 0) :: (a2, t2) :: (a1, t1) :: nl oC') → oC'.data = .cell (some (.ref x)) →
      TIo t1 [if side < 0 then 1 else 0, if side < 0 then -w0 else w0] → TIo t2 [if side < 0 then 0 else 1, w1] → CompK s₁ L side w0 w1 m nl s'
theorem cut_comp {M : Model} {A : Around} {E : Value → Shared → Prop} {s s₁ : Shared} {h0 : Heap} {L : Addr} {m : Str → Option Value} {env : Env} {st : Stmt} {Q : Flow → Shared → Prop} (_ : Fr (Gh s₁.heap) L h0 m) (side w0 w1 : Int) (nl : Obj → List (Addr × Obj))
    (h1 : wpAny M A (exec st env) (fun f s' => f = .next ∧ CompK s₁ L side w0 w1 m nl s') E s) (h2 : ∀ s', CompK s₁ L side w0 w1 m nl s' → Q .next s') : wpAny M A (exec st env) Q E s := cut_exec _ h1 h2
set_option maxRecDepth 100000 in
set_option maxHeartbeats 4000000 in
theorem part2 {w : World} {s₁ : Shared} {A : Around} {L' fa aD aW aR : Addr} {cd : Value} {h : Heap} {tk : Tok} {m₀ : Str → Option Value} {d0 d1 d2 d3 d4 d5 w0 w1 P R S wd side fac : Int} {sm : Bool} {u0 u1 u2 u3 u4 u5 tw0 tw1 tP tWd tS tR tsd tfc : Tok}
    {nD nW nR : Nat} {vr : List Value} {oP oWy oWd oRw oC oO oK : Obj} {tl : List (Addr × Obj)} {p : Program} {loose : List Str} {mean : ExcName → Option Value} {mg mb : Str → Option Value} {Q : Flow → Shared → Prop}
    (X : (hd.heap_39 w.params).In (Gh s₁.heap)) (T : Top p loose mean mg mb (Gh s₁.heap)) (W' : Wt w s₁.heap)
    (hA1 : A.depth + 100 < recursionLimit) (hA2 : A.handled = none) (hA3 : A.units + 64 < cLine) (hL' : s₁.heap.objs.size = L')
    (F : Fr (Gh s₁.heap) L' h (fun y => if y = Str.ofString "factor" then some (Value.int fac tfc) else if y = Str.ofString "same" then some (Value.bool sm) else if y = Str.ofString "side" then some (Value.int side tsd) else if y = Str.ofString "size" then some (Value.int S tS) else if y = Str.ofString "rounds" then some (Value.int R tR) else if y = Str.ofString "drawn" then some (Value.ref aD) else m₀ y))
    (N : News (Gh s₁.heap) L' h ((aR, W.listOf (List.toArray vr) nR) :: (aW, W.listOf #[Value.int w0 tw0, Value.int w1 tw1] nW) :: (aD, W.listOf #[Value.int d0 u0, Value.int d1 u1, Value.int d2 u2, Value.int d3 u3, Value.int d4 u4, Value.int d5 u5] nD) ::
      (L' + 1 + 1 + 1 + 1 + 1 + 1 + 1, oK) :: (L' + 1 + 1 + 1 + 1 + 1 + 1, oO) :: (L' + 1 + 1 + 1 + 1 + 1, oC) :: (L' + 1 + 1 + 1 + 1, oRw) :: (L' + 1 + 1 + 1, oWd) :: (L' + 1 + 1, oWy) :: (L' + 1, oP) :: tl))
    (hK : oK.data = .cell none) (hO : oO.data = .cell none) (hC : oC.data = .cell none) (hRw : oRw.data = .cell (some (.ref aR))) (hWd : oWd.data = .cell (some (.int wd tWd))) (hWy : oWy.data = .cell (some (.ref aW))) (hP : oP.data = .cell (some (.int P tP)))
    (hTl : Tail w s₁.heap L' tl vr (cardsF P S side))
    (neD : AllNe aD [(L' + 1 + 1 + 1 + 1 + 1 + 1 + 1, oK), (L' + 1 + 1 + 1 + 1 + 1 + 1, oO), (L' + 1 + 1 + 1 + 1 + 1, oC), (L' + 1 + 1 + 1 + 1, oRw)]) (neW : AllNe aW [(L' + 1 + 1 + 1 + 1 + 1 + 1 + 1, oK), (L' + 1 + 1 + 1 + 1 + 1 + 1, oO), (L' + 1 + 1 + 1 + 1 + 1, oC), (L' + 1 + 1 + 1 + 1, oRw)])
    (neR : AllNe aR [(L' + 1 + 1 + 1 + 1 + 1 + 1 + 1, oK), (L' + 1 + 1 + 1 + 1 + 1 + 1, oO), (L' + 1 + 1 + 1 + 1 + 1, oC), (L' + 1 + 1 + 1 + 1, oRw)])
    (hPb : 2 ≤ P ∧ P ≤ 4) (hRb : 2 ≤ R ∧ R ≤ 4) (hS : S = P * R) (hSb : 4 ≤ S ∧ S ≤ 16) (hwz : w0 ≠ 0 ∧ w1 ≠ 0) (hside : side = 1 ∨ side = -1) (hwd : 1 ≤ wd ∧ wd ≤ 3) (hsm : sm = decide (0 < w0 * w1)) (hfac : fac = if 0 < w0 then R else -R) (hd4 : Builtin.Int.intBits d4 ≤ 1048576) (PF : Facts P S side w0 w1 fac sm)
    (ret : ∀ h' tk', Wt w h' → KeepBut s₁.heap h' → Q (.ret (.bool true)) { s₁ with heap := h', toks := tk' }) :
    wpAny (model Challenge.rw_ph0098_01.row.prog w) A (execs (lawParts.1.drop 10) (envOfC (Str.ofString "law") lawParts.2 L' fa cd)) Q (fun _ _ => False) { s₁ with heap := h, toks := tk } := by
  unfold lawParts Challenge.pw_ph0098_01
  dsimp only [List.drop_succ_cons, List.drop_zero, List.drop]
  simp only [AllNe] at neD neW neR
  have nD5 : @Ne Nat aD (L' + 1 + 1 + 1 + 1 + 1) := fun q => neD.2.2.1 q.symm
  have nW5 : @Ne Nat aW (L' + 1 + 1 + 1 + 1 + 1) := fun q => neW.2.2.1 q.symm
  have nR5 : @Ne Nat aR (L' + 1 + 1 + 1 + 1 + 1) := fun q => neR.2.2.1 q.symm
  clear neD neW neR
  obtain ⟨hTr, hT4, hT5, hT6, hT7⟩ := id hTl
  walk1
  (repeat' (first | (k_unfold; (try dsimp only)) | ((((fail_if_success k_end); (fail_if_success (with_reducible show wpAny _ _ (exec (PySem.Stmt.For _ _ _ _ _) _) _ _ _)); (fail_if_success (with_reducible show wpAny _ _ (eval (PySem.Expr.ListComp _ _ _ _) _) _ _ _)); (fail_if_success (with_reducible show wpAny _ _ (call (Value.ref _) _) _ _ _)); (fail_if_success (with_reducible show wpAny _ _ (compareOp _ (Value.ref _) (Value.ref _)) _ _ _)); (fail_if_success (with_reducible show wpAny _ _ (exec _ _) _ _ _)); (fail_if_success (with_reducible show wpAny _ _ (subscriptTail _ (PySem.Expr.Slice _ _ _ _) _ _) _ _ _)); (fail_if_success (with_reducible show wpAny _ _ (call (Value.type "zip") _) _ _ _)))); walk1) | (dsimp only; (((fail_if_success k_end); (fail_if_success (with_reducible show wpAny _ _ (exec (PySem.Stmt.For _ _ _ _ _) _) _ _ _)); (fail_if_success (with_reducible show wpAny _ _ (eval (PySem.Expr.ListComp _ _ _ _) _) _ _ _)); (fail_if_success (with_reducible show wpAny _ _ (call (Value.ref _) _) _ _ _)); (fail_if_success (with_reducible show wpAny _ _ (compareOp _ (Value.ref _) (Value.ref _)) _ _ _)); (fail_if_success (with_reducible show wpAny _ _ (exec _ _) _ _ _)); (fail_if_success (with_reducible show wpAny _ _ (subscriptTail _ (PySem.Expr.Slice _ _ _ _) _ _) _ _ _)); (fail_if_success (with_reducible show wpAny _ _ (call (Value.type "zip") _) _ _ _)))); walk1)))
  refine cut_comp F side w0 w1 (fun oC' => (aR, W.listOf (List.toArray vr) nR) :: (aW, W.listOf #[Value.int w0 tw0, Value.int w1 tw1] nW) :: (aD, W.listOf #[Value.int d0 u0, Value.int d1 u1, Value.int d2 u2, Value.int d3 u3, Value.int d4 u4, Value.int d5 u5] nD) ::
      (L' + 1 + 1 + 1 + 1 + 1 + 1 + 1, oK) :: (L' + 1 + 1 + 1 + 1 + 1 + 1, oO) :: (L' + 1 + 1 + 1 + 1 + 1, oC') :: (L' + 1 + 1 + 1 + 1, oRw) :: (L' + 1 + 1 + 1, oWd) :: (L' + 1 + 1, oWy) :: (L' + 1, oP) :: tl) ?_ ?_
  · skip
    walk1
    (repeat' (first | (k_unfold; (try dsimp only)) | ((((fail_if_success k_end); (fail_if_success (with_reducible show wpAny _ _ (exec (PySem.Stmt.For _ _ _ _ _) _) _ _ _)); (fail_if_success (with_reducible show wpAny _ _ (eval (PySem.Expr.ListComp _ _ _ _) _) _ _ _)); (fail_if_success (with_reducible show wpAny _ _ (call (Value.ref _) _) _ _ _)); (fail_if_success (with_reducible show wpAny _ _ (compareOp _ (Value.ref _) (Value.ref _)) _ _ _)); (fail_if_success (with_reducible show wpAny _ _ (exec _ _) _ _ _)); (fail_if_success (with_reducible show wpAny _ _ (subscriptTail _ (PySem.Expr.Slice _ _ _ _) _ _) _ _ _)); (fail_if_success (with_reducible show wpAny _ _ (call (Value.type "zip") _) _ _ _)))); walk1) | (dsimp only; (((fail_if_success k_end); (fail_if_success (with_reducible show wpAny _ _ (exec (PySem.Stmt.For _ _ _ _ _) _) _ _ _)); (fail_if_success (with_reducible show wpAny _ _ (eval (PySem.Expr.ListComp _ _ _ _) _) _ _ _)); (fail_if_success (with_reducible show wpAny _ _ (call (Value.ref _) _) _ _ _)); (fail_if_success (with_reducible show wpAny _ _ (compareOp _ (Value.ref _) (Value.ref _)) _ _ _)); (fail_if_success (with_reducible show wpAny _ _ (exec _ _) _ _ _)); (fail_if_success (with_reducible show wpAny _ _ (subscriptTail _ (PySem.Expr.Slice _ _ _ _) _ _) _ _ _)); (fail_if_success (with_reducible show wpAny _ _ (call (Value.type "zip") _) _ _ _)))); walk1)))
    all_goals (rename Fr _ _ _ _ => F6; rename News _ _ _ _ => N6)
    all_goals (refine ⟨X.keeps F6.keep, ?_⟩)
    all_goals (refine new_spec X T F6 N6 (by (with_reducible exact o_dp (by assumption) (by decide))) hA2 (fun x dx hsh tkk nd tk' h7 F7 N7 => ?_))
    all_goals (have nx := ne_cell N7 (.head _) (c := L' + 1 + 1 + 1 + 1 + 1) (by (repeat' (first | with_reducible assumption | with_reducible exact List.mem_cons_self | with_reducible refine List.mem_cons_of_mem _ ?_ | with_reducible refine List.mem_append_left _ ?_))) hC (fun _ h => by cases h))
    all_goals (have ndx := ne_cell N7 (.tail _ (.head _)) (c := L' + 1 + 1 + 1 + 1 + 1) (by (repeat' (first | with_reducible assumption | with_reducible exact List.mem_cons_self | with_reducible refine List.mem_cons_of_mem _ ?_ | with_reducible refine List.mem_append_left _ ?_))) hC (fun _ h => by cases h))
    all_goals ((repeat' (first | (k_unfold; (try dsimp only)) | ((((fail_if_success k_end); (fail_if_success (with_reducible show wpAny _ _ (exec (PySem.Stmt.For _ _ _ _ _) _) _ _ _)); (fail_if_success (with_reducible show wpAny _ _ (eval (PySem.Expr.ListComp _ _ _ _) _) _ _ _)); (fail_if_success (with_reducible show wpAny _ _ (call (Value.ref _) _) _ _ _)); (fail_if_success (with_reducible show wpAny _ _ (compareOp _ (Value.ref _) (Value.ref _)) _ _ _)); (fail_if_success (with_reducible show wpAny _ _ (exec _ _) _ _ _)); (fail_if_success (with_reducible show wpAny _ _ (subscriptTail _ (PySem.Expr.Slice _ _ _ _) _ _) _ _ _)); (fail_if_success (with_reducible show wpAny _ _ (call (Value.type "zip") _) _ _ _)))); walk1) | (dsimp only; (((fail_if_success k_end); (fail_if_success (with_reducible show wpAny _ _ (exec (PySem.Stmt.For _ _ _ _ _) _) _ _ _)); (fail_if_success (with_reducible show wpAny _ _ (eval (PySem.Expr.ListComp _ _ _ _) _) _ _ _)); (fail_if_success (with_reducible show wpAny _ _ (call (Value.ref _) _) _ _ _)); (fail_if_success (with_reducible show wpAny _ _ (compareOp _ (Value.ref _) (Value.ref _)) _ _ _)); (fail_if_success (with_reducible show wpAny _ _ (exec _ _) _ _ _)); (fail_if_success (with_reducible show wpAny _ _ (subscriptTail _ (PySem.Expr.Slice _ _ _ _) _ _) _ _ _)); (fail_if_success (with_reducible show wpAny _ _ (call (Value.type "zip") _) _ _ _)))); walk1))))
    all_goals (rename Fr _ _ _ _ => F8; rename News _ _ _ _ => N8; rename _ = Data.cell (some (Value.ref _)) => hC8)
    all_goals (refine ⟨trivial, _, _, _, _, _, _, _, _, _, _, _, _, _, rfl, F8, N8, hC8, ?_, ?_⟩)
    all_goals first
      | (rename side < 0 => q; simp only [if_pos q]; exact ⟨[_, _], _, rfl, .cons _ _ (.cons _ _ .nil)⟩)
      | (rename ¬ side < 0 => q; simp only [if_neg q]; exact ⟨[_, _], _, rfl, .cons _ _ (.cons _ _ .nil)⟩)
  clear F N
  rintro _ ⟨h2, tk2, x, dx, hsh, tkk, nd, sl, a1, a2, t1, t2, oC', rfl, F, N, hC', ht1, ht2⟩
  have hcomp : ∀ h'', (∀ q ∈ [(x, instObj 38 dx), (dx, dictOf [⟨hsh, .str (Str.ofString "comp_select_list") tkk, .ref sl⟩] nd), (sl, W.listOf #[Value.ref a1, Value.ref a2] 0), (a2, t2), (a1, t1)], h''.get? q.1 = some q.2) → CompAt h'' x (if side < 0 then 1 else 0) (if side < 0 then -w0 else w0) (if side < 0 then 0 else 1) w1 := by
    intro h'' hq
    obtain ⟨v1, n1, rfl, i1⟩ := ht1
    obtain ⟨v2, n2, rfl, i2⟩ := ht2
    exact ⟨dx, hsh, tkk, nd, sl, a1, a2, 0, hq _ (.head _), hq _ (.tail _ (.head _)), hq _ (.tail _ (.tail _ (.head _))), ⟨v1, n1, hq _ (.tail _ (.tail _ (.tail _ (.tail _ (.head _))))), i1⟩, ⟨v2, n2, hq _ (.tail _ (.tail _ (.tail _ (.head _)))), i2⟩⟩
  have hfb : -5 < fac ∧ fac < 5 := by rw [hfac]; split <;> (lia)
  obtain ⟨v1, n1, rfl, i1⟩ := ht1
  obtain ⟨v2, n2, rfl, i2⟩ := ht2
  obtain ⟨tl2, etl⟩ : ∃ tl2, tl2 = [(x, instObj 38 dx), (dx, dictOf [⟨hsh, .str (Str.ofString "comp_select_list") tkk, .ref sl⟩] nd), (sl, W.listOf #[Value.ref a1, Value.ref a2] 0), (a2, ({ cls := .type "tuple", data := .seq (List.toArray v2) n2 } : Obj)), (a1, ({ cls := .type "tuple", data := .seq (List.toArray v1) n1 } : Obj)), (aR, W.listOf (List.toArray vr) nR)] ++ tl := ⟨_, rfl⟩
  have hne : ∀ (c : Addr) (oc : Obj), oc.data = .cell none → (c, oc) ∈ [(L' + 1 + 1 + 1 + 1 + 1 + 1 + 1, oK), (L' + 1 + 1 + 1 + 1 + 1 + 1, oO)] → (∀ p ∈ tl, p.1 ≠ c) → ∀ p ∈ tl2, p.1 ≠ c := by
    intro c oc hd hm ht p hp
    have hcm : (c, oc) ∈ (x, instObj 38 dx) :: (dx, dictOf [⟨hsh, .str (Str.ofString "comp_select_list") tkk, .ref sl⟩] nd) :: (sl, W.listOf #[Value.ref a1, Value.ref a2] 0) :: (a2, ({ cls := .type "tuple", data := .seq (List.toArray v2) n2 } : Obj)) :: (a1, ({ cls := .type "tuple", data := .seq (List.toArray v1) n1 } : Obj)) :: (aR, W.listOf (List.toArray vr) nR) :: (aW, W.listOf #[Value.int w0 tw0, Value.int w1 tw1] nW) :: (aD, W.listOf #[Value.int d0 u0, Value.int d1 u1, Value.int d2 u2, Value.int d3 u3, Value.int d4 u4, Value.int d5 u5] nD) ::
      (L' + 1 + 1 + 1 + 1 + 1 + 1 + 1, oK) :: (L' + 1 + 1 + 1 + 1 + 1 + 1, oO) :: (L' + 1 + 1 + 1 + 1 + 1, oC') :: (L' + 1 + 1 + 1 + 1, oRw) :: (L' + 1 + 1 + 1, oWd) :: (L' + 1 + 1, oWy) :: (L' + 1, oP) :: tl := by
      exact sub_use hm (by (repeat' (first | with_reducible exact sub_nil | with_reducible refine sub_cons ?_ ?_ | with_reducible assumption | with_reducible exact List.mem_cons_self | with_reducible refine List.mem_cons_of_mem _ ?_ | with_reducible refine List.mem_append_left _ ?_ | intro _ _)))
    rw [etl] at hp
    refine sub_app (p := fun q : Addr × Obj => q.1 ≠ c) (sub_cons ?_ (sub_cons ?_ (sub_cons ?_ (sub_cons ?_ (sub_cons ?_ (sub_cons ?_ sub_nil)))))) ht p hp
    · exact ne_cell N (.head _) hcm hd (fun _ h => by cases h)
    · exact ne_cell N (.tail _ (.head _)) hcm hd (fun _ h => by cases h)
    · exact ne_cell N (.tail _ (.tail _ (.head _))) hcm hd (fun _ h => by cases h)
    · exact ne_cell N (.tail _ (.tail _ (.tail _ (.head _)))) hcm hd (fun _ h => by cases h)
    · exact ne_cell N (.tail _ (.tail _ (.tail _ (.tail _ (.head _))))) hcm hd (fun _ h => by cases h)
    · exact ne_cell N (.tail _ (.tail _ (.tail _ (.tail _ (.tail _ (.head _)))))) hcm hd (fun _ h => by cases h)
  have hTl2 : Tail2 w s₁.heap L' tl2 x aR vr (cardsF P S side) side w0 w1 := by
    refine ⟨fun h'' k kq => ?_, hne _ oO hO (.tail _ (.head _)) hT6, hne _ oK hK (.head _) hT7⟩
    rw [etl] at kq
    obtain ⟨b1, b2, b3⟩ := hTr h'' k fun q hq => kq q (List.mem_append.mpr (.inr hq))
    refine ⟨b1, b2, b3, isList_of (n := nR) (kq (aR, W.listOf (List.toArray vr) nR) (by (repeat' (first | with_reducible assumption | with_reducible exact List.mem_cons_self | with_reducible refine List.mem_cons_of_mem _ ?_ | with_reducible refine List.mem_append_left _ ?_)))), hcomp h'' fun q hq => kq q (List.mem_append_left _ (sub_use hq ?_))⟩
    (repeat' (first | with_reducible exact sub_nil | with_reducible refine sub_cons ?_ ?_ | with_reducible assumption | with_reducible exact List.mem_cons_self | with_reducible refine List.mem_cons_of_mem _ ?_ | with_reducible refine List.mem_append_left _ ?_ | intro _ _))
  have N2 := News.sub N (news' := (aW, W.listOf #[Value.int w0 tw0, Value.int w1 tw1] nW) :: (aD, W.listOf #[Value.int d0 u0, Value.int d1 u1, Value.int d2 u2, Value.int d3 u3, Value.int d4 u4, Value.int d5 u5] nD) ::
      (L' + 1 + 1 + 1 + 1 + 1 + 1 + 1, oK) :: (L' + 1 + 1 + 1 + 1 + 1 + 1, oO) :: (L' + 1 + 1 + 1 + 1 + 1, oC') :: (L' + 1 + 1 + 1 + 1, oRw) :: (L' + 1 + 1 + 1, oWd) :: (L' + 1 + 1, oWy) :: (L' + 1, oP) :: tl2) (by
    rw [etl]
    repeat' (first | with_reducible exact sub_nil | with_reducible refine sub_cons ?_ ?_ | with_reducible refine sub_app ?_ ?_ | with_reducible assumption | with_reducible exact List.mem_cons_self | with_reducible refine List.mem_cons_of_mem _ ?_ | intro _ _))
  have fin := fun tk => part3 (fa := fa) (cd := cd) (tk := tk) (Q := Q) X T W' hA1 hA2 hA3 F N2 hK hO hC' hRw hWd hWy hP hTl2 hPb hRb hSb hwd hfb hd4 PF ret
  unfold lawParts Challenge.pw_ph0098_01 at fin
  dsimp only [List.drop_succ_cons, List.drop_zero, List.drop] at fin
  exact fin _
end Mine
end
section
open PySem PySem.W PyProof.Rows PySem.Calls
namespace Mine
theorem wd_fill_law1b (w : World) (h : Heap) (_ : OpenLaw) (e : Challenge.rw_ph0098_01 = Challenge.rw_ph0098_01) : (hd.heap_39 w.params).In h → (hd.heap_39 w.params).In h ∧ Challenge.rw_ph0098_01 = Challenge.rw_ph0098_01 := by
  k_fill
  exact fun x => ⟨x, e⟩

set_option maxRecDepth 100000 in
set_option maxHeartbeats 4000000 in
theorem part1 {w : World} {s₁ : Shared} {A : Around} {L' fa aD aW : Addr} {cd : Value} {h : Heap} {tk : Tok} {m₀ : Str → Option Value} {d0 d1 d2 d3 d4 d5 w0 w1 P R S wd side fac : Int} {sm : Bool} {u0 u1 u2 u3 u4 u5 tw0 tw1 tP tWd tS tR tsd tfc : Tok}
    {nD nW : Nat} {oP oWy oWd oRw oC oO oK : Obj} {p : Program} {loose : List Str} {mean : ExcName → Option Value} {mg mb : Str → Option Value} {Q : Flow → Shared → Prop}
    (X : (hd.heap_39 w.params).In (Gh s₁.heap)) (T : Top p loose mean mg mb (Gh s₁.heap)) (W' : Wt w s₁.heap)
    (hA1 : A.depth + 100 < recursionLimit) (hA2 : A.handled = none) (hA3 : A.units + 64 < cLine) (hL' : s₁.heap.objs.size = L')
    (F : Fr (Gh s₁.heap) L' h (fun y => if y = Str.ofString "factor" then some (Value.int fac tfc) else if y = Str.ofString "same" then some (Value.bool sm) else if y = Str.ofString "side" then some (Value.int side tsd) else if y = Str.ofString "size" then some (Value.int S tS) else if y = Str.ofString "rounds" then some (Value.int R tR) else if y = Str.ofString "drawn" then some (Value.ref aD) else m₀ y))
    (N : News (Gh s₁.heap) L' h [(aW, W.listOf #[Value.int w0 tw0, Value.int w1 tw1] nW), (aD, W.listOf #[Value.int d0 u0, Value.int d1 u1, Value.int d2 u2, Value.int d3 u3, Value.int d4 u4, Value.int d5 u5] nD),
      (L' + 1 + 1 + 1 + 1 + 1 + 1 + 1, oK), (L' + 1 + 1 + 1 + 1 + 1 + 1, oO), (L' + 1 + 1 + 1 + 1 + 1, oC), (L' + 1 + 1 + 1 + 1, oRw), (L' + 1 + 1 + 1, oWd), (L' + 1 + 1, oWy), (L' + 1, oP), (65, tabObj #[]), (58, tabObj #[])])
    (hK : oK.data = .cell none) (hO : oO.data = .cell none) (hC : oC.data = .cell none) (hRw : oRw.data = .cell none) (hWd : oWd.data = .cell (some (.int wd tWd))) (hWy : oWy.data = .cell (some (.ref aW))) (hP : oP.data = .cell (some (.int P tP)))
    (C1 : CodeHd (Gh s₁.heap) 69 65) (C2 : CodeHd (Gh s₁.heap) 62 58)
    (hPb : 2 ≤ P ∧ P ≤ 4) (hRb : 2 ≤ R ∧ R ≤ 4) (hS : S = P * R) (hSb : 4 ≤ S ∧ S ≤ 16) (hwz : w0 ≠ 0 ∧ w1 ≠ 0) (hside : side = 1 ∨ side = -1) (hwd : 1 ≤ wd ∧ wd ≤ 3) (hsm : sm = decide (0 < w0 * w1)) (hfac : fac = if 0 < w0 then R else -R) (hd4 : Builtin.Int.intBits d4 ≤ 1048576) (PF : Facts P S side w0 w1 fac sm)
    (ret : ∀ h' tk', Wt w h' → KeepBut s₁.heap h' → Q (.ret (.bool true)) { s₁ with heap := h', toks := tk' }) :
    wpAny (model Challenge.rw_ph0098_01.row.prog w) A (execs (lawParts.1.drop 9) (envOfC (Str.ofString "law") lawParts.2 L' fa cd)) Q (fun _ _ => False) { s₁ with heap := h, toks := tk } := by
  unfold lawParts Challenge.pw_ph0098_01
  dsimp only [List.drop_succ_cons, List.drop_zero, List.drop]
  walk1
  (repeat' (first | (k_unfold; (try dsimp only)) | ((((fail_if_success k_end); (fail_if_success (with_reducible show wpAny _ _ (exec (PySem.Stmt.For _ _ _ _ _) _) _ _ _)); (fail_if_success (with_reducible show wpAny _ _ (eval (PySem.Expr.ListComp _ _ _ _) _) _ _ _)); (fail_if_success (with_reducible show wpAny _ _ (call (Value.ref _) _) _ _ _)); (fail_if_success (with_reducible show wpAny _ _ (compareOp _ (Value.ref _) (Value.ref _)) _ _ _)); (fail_if_success (with_reducible show wpAny _ _ (exec _ _) _ _ _)); (fail_if_success (with_reducible show wpAny _ _ (subscriptTail _ (PySem.Expr.Slice _ _ _ _) _ _) _ _ _)); (fail_if_success (with_reducible show wpAny _ _ (call (Value.type "zip") _) _ _ _)))); walk1) | (dsimp only; (((fail_if_success k_end); (fail_if_success (with_reducible show wpAny _ _ (exec (PySem.Stmt.For _ _ _ _ _) _) _ _ _)); (fail_if_success (with_reducible show wpAny _ _ (eval (PySem.Expr.ListComp _ _ _ _) _) _ _ _)); (fail_if_success (with_reducible show wpAny _ _ (call (Value.ref _) _) _ _ _)); (fail_if_success (with_reducible show wpAny _ _ (compareOp _ (Value.ref _) (Value.ref _)) _ _ _)); (fail_if_success (with_reducible show wpAny _ _ (exec _ _) _ _ _)); (fail_if_success (with_reducible show wpAny _ _ (subscriptTail _ (PySem.Expr.Slice _ _ _ _) _ _) _ _ _)); (fail_if_success (with_reducible show wpAny _ _ (call (Value.type "zip") _) _ _ _)))); walk1)))
  walk1
  (repeat' (first | (k_unfold; (try dsimp only)) | ((((fail_if_success k_end); (fail_if_success (with_reducible show wpAny _ _ (exec (PySem.Stmt.For _ _ _ _ _) _) _ _ _)); (fail_if_success (with_reducible show wpAny _ _ (eval (PySem.Expr.ListComp _ _ _ _) _) _ _ _)); (fail_if_success (with_reducible show wpAny _ _ (call (Value.ref _) _) _ _ _)); (fail_if_success (with_reducible show wpAny _ _ (compareOp _ (Value.ref _) (Value.ref _)) _ _ _)); (fail_if_success (with_reducible show wpAny _ _ (exec _ _) _ _ _)); (fail_if_success (with_reducible show wpAny _ _ (subscriptTail _ (PySem.Expr.Slice _ _ _ _) _ _) _ _ _)); (fail_if_success (with_reducible show wpAny _ _ (call (Value.type "zip") _) _ _ _)))); walk1) | (dsimp only; (((fail_if_success k_end); (fail_if_success (with_reducible show wpAny _ _ (exec (PySem.Stmt.For _ _ _ _ _) _) _ _ _)); (fail_if_success (with_reducible show wpAny _ _ (eval (PySem.Expr.ListComp _ _ _ _) _) _ _ _)); (fail_if_success (with_reducible show wpAny _ _ (call (Value.ref _) _) _ _ _)); (fail_if_success (with_reducible show wpAny _ _ (compareOp _ (Value.ref _) (Value.ref _)) _ _ _)); (fail_if_success (with_reducible show wpAny _ _ (exec _ _) _ _ _)); (fail_if_success (with_reducible show wpAny _ _ (subscriptTail _ (PySem.Expr.Slice _ _ _ _) _ _) _ _ _)); (fail_if_success (with_reducible show wpAny _ _ (call (Value.type "zip") _) _ _ _)))); walk1)))
  have WA : Wt w h := ⟨W'.base.keeps (gh_up F.keep), W'.c1.keeps (gh_up F.keep), W'.c2.keeps (gh_up F.keep), .inl (N.get (by (repeat' (first | with_reducible assumption | with_reducible exact List.mem_cons_self | with_reducible refine List.mem_cons_of_mem _ ?_ | with_reducible refine List.mem_append_left _ ?_)))), .inl (N.get (by (repeat' (first | with_reducible assumption | with_reducible exact List.mem_cons_self | with_reducible refine List.mem_cons_of_mem _ ?_ | with_reducible refine List.mem_append_left _ ?_))))⟩
  refine ⟨X.keeps F.keep, ?_⟩
  refine cards_spec WA (by (with_reducible exact o_dp (by assumption) (by decide))) hA2 (by (with_reducible exact And.left (by assumption))) (by (with_reducible exact And.right (by assumption))) (by (with_reducible exact o_negc (by assumption) (by decide))) (by (with_reducible exact And.right (by assumption))) hside fun aR tkC hB kbB WB hotB1 hotB2 hfR hRows => ?_
  obtain ⟨vr, nR, hgR, hrow, hrows⟩ := hRows
  have NS := News.sub N (news' := [(aW, W.listOf #[Value.int w0 tw0, Value.int w1 tw1] nW), (aD, W.listOf #[Value.int d0 u0, Value.int d1 u1, Value.int d2 u2, Value.int d3 u3, Value.int d4 u4, Value.int d5 u5] nD),
      (L' + 1 + 1 + 1 + 1 + 1 + 1 + 1, oK), (L' + 1 + 1 + 1 + 1 + 1 + 1, oO), (L' + 1 + 1 + 1 + 1 + 1, oC), (L' + 1 + 1 + 1 + 1, oRw), (L' + 1 + 1 + 1, oWd), (L' + 1 + 1, oWy), (L' + 1, oP)]) (by (repeat' (first | with_reducible exact sub_nil | with_reducible refine sub_cons ?_ ?_ | with_reducible assumption | with_reducible exact List.mem_cons_self | with_reducible refine List.mem_cons_of_mem _ ?_ | with_reducible refine List.mem_append_left _ ?_ | intro _ _)))
  obtain ⟨FB, hneR, tl, LE, NB⟩ := after_new (o := W.listOf (List.toArray vr) nR) W' F NS (by
    have nc : ∀ {o : Obj} {v : Option Value}, o.data = .cell v → ∀ ps, o.data ≠ .fields ps := fun e ps q => by rw [e] at q; cases q
    exact sub_cons (.inl (by nofun)) (sub_cons (.inl (by nofun)) (sub_cons (.inr (nc hK)) (sub_cons (.inr (nc hO)) (sub_cons (.inr (nc hC)) (sub_cons (.inr (nc hRw)) (sub_cons (.inr (nc hWd)) (sub_cons (.inr (nc hWy)) (sub_cons (.inr (nc hP)) sub_nil))))))))) WA kbB WB hfR hgR
  obtain ⟨ros, NR, hros, hrod⟩ := rows_led FB vr hrow
  have hT : ∀ h'', KeepAll (Gh s₁.heap) h'' → (∀ q ∈ tl ++ ros, h''.get? q.1 = some q.2) → Wh w h'' ∧ (∀ v ∈ vr, IsRow h'' v) ∧ vr.map (rowOf h'') = cardsF P S side := by
    intro h'' k kq
    obtain ⟨c1, c2⟩ := hros h'' k fun q hq => kq q (List.mem_append.mpr (.inr hq))
    exact ⟨LE.toH hotB1 hotB2 h'' k fun q hq => kq q (List.mem_append.mpr (.inl hq)), c1, c2.trans hrows⟩
  have hne : ∀ (c : Addr) (oc : Obj), oc.data = .cell none → (c, oc) ∈ [(L' + 1 + 1 + 1 + 1 + 1 + 1 + 1, oK), (L' + 1 + 1 + 1 + 1 + 1 + 1, oO), (L' + 1 + 1 + 1 + 1 + 1, oC), (L' + 1 + 1 + 1 + 1, oRw)] → ∀ p ∈ tl ++ ros, p.1 ≠ c := by
    intro c oc hd hm p hp q
    have e1 : hB.get? c = some oc := by
      refine NB.get (List.mem_cons_of_mem _ (List.mem_append_left _ (sub_use hm (by (repeat' (first | with_reducible exact sub_nil | with_reducible refine sub_cons ?_ ?_ | with_reducible assumption | with_reducible exact List.mem_cons_self | with_reducible refine List.mem_cons_of_mem _ ?_ | with_reducible refine List.mem_append_left _ ?_ | intro _ _))))))
    rcases List.mem_append.mp hp with hp | hp
    · obtain ⟨vs, e, _⟩ := LE.kind p hp
      have e2 := (LE.N p hp).1
      rw [q, e1] at e2; cases e2
      rw [hd] at e; cases e
    · obtain ⟨vs, n, e⟩ := hrod p hp
      have e2 := (NR p hp).1
      rw [q, e1] at e2; cases e2
      rw [hd] at e; cases e
  have hT4 := hne _ _ hRw (.tail _ (.tail _ (.tail _ (.head _))))
  have hT5 := hne _ _ hC (.tail _ (.tail _ (.head _)))
  have hT6 := hne _ _ hO (.tail _ (.head _))
  have hT7 := hne _ _ hK (.head _)
  have N2 : News (Gh s₁.heap) L' hB ((aR, W.listOf (List.toArray vr) nR) :: (aW, W.listOf #[Value.int w0 tw0, Value.int w1 tw1] nW) :: (aD, W.listOf #[Value.int d0 u0, Value.int d1 u1, Value.int d2 u2, Value.int d3 u3, Value.int d4 u4, Value.int d5 u5] nD) ::
      (L' + 1 + 1 + 1 + 1 + 1 + 1 + 1, oK) :: (L' + 1 + 1 + 1 + 1 + 1 + 1, oO) :: (L' + 1 + 1 + 1 + 1 + 1, oC) :: (L' + 1 + 1 + 1 + 1, oRw) :: (L' + 1 + 1 + 1, oWd) :: (L' + 1 + 1, oWy) :: (L' + 1, oP) :: (tl ++ ros)) := by
    have NT : ∀ q ∈ tl, _ := fun q h => NB q (List.mem_cons_of_mem _ (List.mem_append_right _ h))
    repeat' (first | exact sub_app NT NR | refine sub_cons ?_ ?_ | exact NB _ (by (repeat' (first | with_reducible assumption | with_reducible exact List.mem_cons_self | with_reducible refine List.mem_cons_of_mem _ ?_ | with_reducible refine List.mem_append_left _ ?_))))
  have hTl : Tail w s₁.heap L' (tl ++ ros) vr (cardsF P S side) := ⟨hT, hT4, hT5, hT6, hT7⟩
  clear hros hrod NR NB NS hneR LE
  generalize tl ++ ros = tl2 at *
  have cell : ∀ {a : Addr} {o : Obj}, (a, o) ∈ [(aR, W.listOf (List.toArray vr) nR), (aW, W.listOf #[Value.int w0 tw0, Value.int w1 tw1] nW), (aD, W.listOf #[Value.int d0 u0, Value.int d1 u1, Value.int d2 u2, Value.int d3 u3, Value.int d4 u4, Value.int d5 u5] nD)] → (∀ v, o.data ≠ .cell v) →
      AllNe a [(L' + 1 + 1 + 1 + 1 + 1 + 1 + 1, oK), (L' + 1 + 1 + 1 + 1 + 1 + 1, oO), (L' + 1 + 1 + 1 + 1 + 1, oC), (L' + 1 + 1 + 1 + 1, oRw)] := by
    intro a o hm hd
    have hm' : (a, o) ∈ ((aR, W.listOf (List.toArray vr) nR) :: (aW, W.listOf #[Value.int w0 tw0, Value.int w1 tw1] nW) :: (aD, W.listOf #[Value.int d0 u0, Value.int d1 u1, Value.int d2 u2, Value.int d3 u3, Value.int d4 u4, Value.int d5 u5] nD) ::
      (L' + 1 + 1 + 1 + 1 + 1 + 1 + 1, oK) :: (L' + 1 + 1 + 1 + 1 + 1 + 1, oO) :: (L' + 1 + 1 + 1 + 1 + 1, oC) :: (L' + 1 + 1 + 1 + 1, oRw) :: (L' + 1 + 1 + 1, oWd) :: (L' + 1 + 1, oWy) :: (L' + 1, oP) :: tl2) := by
      exact sub_use hm (by (repeat' (first | with_reducible exact sub_nil | with_reducible refine sub_cons ?_ ?_ | with_reducible assumption | with_reducible exact List.mem_cons_self | with_reducible refine List.mem_cons_of_mem _ ?_ | with_reducible refine List.mem_append_left _ ?_ | intro _ _)))
    refine ⟨fun q => ne_cell N2 hm' (c := L' + 1 + 1 + 1 + 1 + 1 + 1 + 1) (by (repeat' (first | with_reducible assumption | with_reducible exact List.mem_cons_self | with_reducible refine List.mem_cons_of_mem _ ?_ | with_reducible refine List.mem_append_left _ ?_))) hK hd q.symm, fun q => ne_cell N2 hm' (c := L' + 1 + 1 + 1 + 1 + 1 + 1) (by (repeat' (first | with_reducible assumption | with_reducible exact List.mem_cons_self | with_reducible refine List.mem_cons_of_mem _ ?_ | with_reducible refine List.mem_append_left _ ?_))) hO hd q.symm,
      fun q => ne_cell N2 hm' (c := L' + 1 + 1 + 1 + 1 + 1) (by (repeat' (first | with_reducible assumption | with_reducible exact List.mem_cons_self | with_reducible refine List.mem_cons_of_mem _ ?_ | with_reducible refine List.mem_append_left _ ?_))) hC hd q.symm, fun q => ne_cell N2 hm' (c := L' + 1 + 1 + 1 + 1) (by (repeat' (first | with_reducible assumption | with_reducible exact List.mem_cons_self | with_reducible refine List.mem_cons_of_mem _ ?_ | with_reducible refine List.mem_append_left _ ?_))) hRw hd q.symm, trivial⟩
  have neR := cell (.head _) (fun _ h => by cases h)
  have neW := cell (.tail _ (.head _)) (fun _ h => by cases h)
  have neD := cell (.tail _ (.tail _ (.head _))) (fun _ h => by cases h)
  have nR4 := ne_cell N2 (.head _) (c := L' + 1 + 1 + 1 + 1) (by (repeat' (first | with_reducible assumption | with_reducible exact List.mem_cons_self | with_reducible refine List.mem_cons_of_mem _ ?_ | with_reducible refine List.mem_append_left _ ?_))) hRw (fun _ h => by cases h)
  have nW4 := ne_cell N2 (.tail _ (.head _)) (c := L' + 1 + 1 + 1 + 1) (by (repeat' (first | with_reducible assumption | with_reducible exact List.mem_cons_self | with_reducible refine List.mem_cons_of_mem _ ?_ | with_reducible refine List.mem_append_left _ ?_))) hRw (fun _ h => by cases h)
  have nD4 := ne_cell N2 (.tail _ (.tail _ (.head _))) (c := L' + 1 + 1 + 1 + 1) (by (repeat' (first | with_reducible assumption | with_reducible exact List.mem_cons_self | with_reducible refine List.mem_cons_of_mem _ ?_ | with_reducible refine List.mem_append_left _ ?_))) hRw (fun _ h => by cases h)
  clear F N
  (repeat' ((fail_if_success (with_reducible show wpAny _ _ (execs _ _) _ _ _)); first | (k_unfold; (try dsimp only)) | ((((fail_if_success k_end); (fail_if_success (with_reducible show wpAny _ _ (exec (PySem.Stmt.For _ _ _ _ _) _) _ _ _)); (fail_if_success (with_reducible show wpAny _ _ (eval (PySem.Expr.ListComp _ _ _ _) _) _ _ _)); (fail_if_success (with_reducible show wpAny _ _ (call (Value.ref _) _) _ _ _)); (fail_if_success (with_reducible show wpAny _ _ (compareOp _ (Value.ref _) (Value.ref _)) _ _ _)); (fail_if_success (with_reducible show wpAny _ _ (exec _ _) _ _ _)); (fail_if_success (with_reducible show wpAny _ _ (subscriptTail _ (PySem.Expr.Slice _ _ _ _) _ _) _ _ _)); (fail_if_success (with_reducible show wpAny _ _ (call (Value.type "zip") _) _ _ _)))); walk1) | (dsimp only; (fail_if_success (with_reducible show wpAny _ _ (execs _ _) _ _ _)); (((fail_if_success k_end); (fail_if_success (with_reducible show wpAny _ _ (exec (PySem.Stmt.For _ _ _ _ _) _) _ _ _)); (fail_if_success (with_reducible show wpAny _ _ (eval (PySem.Expr.ListComp _ _ _ _) _) _ _ _)); (fail_if_success (with_reducible show wpAny _ _ (call (Value.ref _) _) _ _ _)); (fail_if_success (with_reducible show wpAny _ _ (compareOp _ (Value.ref _) (Value.ref _)) _ _ _)); (fail_if_success (with_reducible show wpAny _ _ (exec _ _) _ _ _)); (fail_if_success (with_reducible show wpAny _ _ (subscriptTail _ (PySem.Expr.Slice _ _ _ _) _ _) _ _ _)); (fail_if_success (with_reducible show wpAny _ _ (call (Value.type "zip") _) _ _ _)))); walk1)))
  rename_i hH3 oRw' F3 N3 hRw2
  have fin := fun tk => part2 (fa := fa) (cd := cd) (tk := tk) (Q := Q) X T W' hA1 hA2 hA3 hL' F3 N3 hK hO hC hRw2 hWd hWy hP hTl neD neW neR hPb hRb hS hSb hwz hside hwd hsm hfac hd4 PF ret
  unfold lawParts Challenge.pw_ph0098_01 at fin
  dsimp only [List.drop_succ_cons, List.drop_zero, List.drop] at fin
  exact fin _
end Mine
end
local macro_rules | `(tactic| mul_fits) => `(tactic| with_reducible assumption)
section
open PySem PySem.W PyProof.Rows PySem.Calls
namespace Mine
set_option maxRecDepth 100000 in
set_option maxHeartbeats 4000000 in
theorem tryit : PySem.Challenge.rw_ph0098_01.Holds := Mine.hd (by
  k_go0
  (all_goals try k_fold)
  rename_i w s₀ s₁ mg mb G Y fa o pm cd doc ho hcd hg _ V T B TE TW script hs hlay0 hlay hr1 hl2 q11 q10 sA vsS q7 hLS ra w1 r0 hIS hr0 hlen hcond2 hD h₁ tk₁ oc1 oc2 oc3 oc4 oc5 oc6 oc7 hc1 hc2 hc3 hc4 hc5 hc6 hc7 X0 X T' K F C1 N l0
  clear hcd Y G hD
  dsimp only at F N hc1 hc2 hc3 hc4 hc5 hc6 hc7 ⊢
  clear X0
  have W' : Wt w s₁.heap := ⟨⟨X.keeps ghost_gh, ⟨_, _, _, _, _, T'.keeps ghost_gh⟩⟩, codeHd.keeps ghost_gh, C1.keeps ghost_gh, .inl (hT8 58 (.tail _ (.head _))), .inl (hT8 65 (.head _))⟩
  refine wpAny_mono (Q := fun fl s' => fl = .ret (.bool true) ∧ ∃ h' tk, s' = { s₁ with heap := h', toks := tk } ∧ Wt w h' ∧ KeepBut s₁.heap h') (E := fun _ _ => False) ?walk ?post (fun _ _ e => e.elim)
  case post =>
    rintro _ _ ⟨rfl, hE, tkE, rfl, WE, kE⟩
    refine ⟨⟨.inl ⟨_, .bool true, [], rfl, raisesW_false ?_, .bool true, ?_, unshared_nil⟩, ?_, rfl, ?_⟩, WE.t2.obj, WE.t1.obj, trivial⟩
    · wrow_none_raised
    · kc_post
    · intro b o e
      have e1 : (hideAll s₁.heap [65, 58]).get? b = some o := e
      refine kE b o (fun q => ?_) (of_hideAll _ e1)
      have hb : b ∈ [65, 58] := by
        simp only [ts, List.mem_cons, List.not_mem_nil, or_false] at q ⊢
        exact q.symm
      rw [hideAll_none _ hb] at e1; cases e1
    ·
      exact hg
  clear hg ho hT8 V B TE TW hT9 hs hlay0 hr1 hl2 ra w1 r0 hr0 hcond2 T
  replace X := X.keeps ghost_gh
  replace T' := T'.keeps ghost_gh
  replace K : Below callerA (Gh s₁.heap) [] (Gh s₁.heap) := below_caller _
  replace F := fr_conv F gh_ghost (by show (Gh s₁.heap).objs.size = (hideAll s₁.heap [65, 58]).objs.size; rw [hideAll_size, hideAll_size])
  replace N := news_conv N gh_ghost
  replace C1 := C1.keeps ghost_gh
  replace codeHd := codeHd.keeps ghost_gh
  replace lifted : (Gh s₁.heap).IsList sA vsS.toArray := lifted.at fun _ e => ghost_gh _ _ e
  replace hc1 : oc1.data = .cell none := hc1
  replace hc2 : oc2.data = .cell none := hc2
  replace hc3 : oc3.data = .cell none := hc3
  replace hc4 : oc4.data = .cell none := hc4
  replace hc5 : oc5.data = .cell none := hc5
  replace hc6 : oc6.data = .cell none := hc6
  replace hc7 : oc7.data = .cell none := hc7
  obtain ⟨m₀, hm₀, F2⟩ : ∃ m₀ : Str → Option Value, m₀ (Str.ofString "script") = some (.ref sA) ∧ Fr (Gh s₁.heap) s₁.heap.objs.size h₁ m₀ := ⟨_, rfl, F⟩
  clear F
  have hx : ∀ d ∈ script, Builtin.Int.intBits d ≤ 1048576 := fun d hd => intBits_le_of_item hd hlay
  generalize hL : s₁.heap.objs.size = L' at *
  generalize hA : callerA.deeper _ = A
  have hA1 : A.depth + 100 < recursionLimit := by subst hA; show callerA.depth + 1 + 100 < recursionLimit; decide
  have hA2 : A.handled = none := by subst hA; rfl
  have hA3 : A.units + 64 < cLine := by subst hA; show 4 + 3 + 64 < cLine; decide
  have kS : KeepAll (Gh s₁.heap) s₁.heap := gh_sub _
  walk1
  walk1
  (repeat' (first | (k_unfold; (try dsimp only)) | ((((fail_if_success k_end); (fail_if_success (with_reducible show wpAny _ _ (exec (PySem.Stmt.For _ _ _ _ _) _) _ _ _)); (fail_if_success (with_reducible show wpAny _ _ (eval (PySem.Expr.ListComp _ _ _ _) _) _ _ _)); (fail_if_success (with_reducible show wpAny _ _ (call (Value.ref _) _) _ _ _)); (fail_if_success (with_reducible show wpAny _ _ (compareOp _ (Value.ref _) (Value.ref _)) _ _ _)); (fail_if_success (with_reducible show wpAny _ _ (exec _ _) _ _ _)); (fail_if_success (with_reducible show wpAny _ _ (subscriptTail _ _ (Value.ref _) _) _ _ _)))); walk1) | (dsimp only; (((fail_if_success k_end); (fail_if_success (with_reducible show wpAny _ _ (exec (PySem.Stmt.For _ _ _ _ _) _) _ _ _)); (fail_if_success (with_reducible show wpAny _ _ (eval (PySem.Expr.ListComp _ _ _ _) _) _ _ _)); (fail_if_success (with_reducible show wpAny _ _ (call (Value.ref _) _) _ _ _)); (fail_if_success (with_reducible show wpAny _ _ (compareOp _ (Value.ref _) (Value.ref _)) _ _ _)); (fail_if_success (with_reducible show wpAny _ _ (exec _ _) _ _ _)); (fail_if_success (with_reducible show wpAny _ _ (subscriptTail _ _ (Value.ref _) _) _ _ _)))); walk1)))
  refine wpAny_Name (wpAny_loadName_local rfl rfl F2.ns hm₀ ?_)
  (repeat' (first | (k_unfold; (try dsimp only)) | ((((fail_if_success k_end); (fail_if_success (with_reducible show wpAny _ _ (exec (PySem.Stmt.For _ _ _ _ _) _) _ _ _)); (fail_if_success (with_reducible show wpAny _ _ (eval (PySem.Expr.ListComp _ _ _ _) _) _ _ _)); (fail_if_success (with_reducible show wpAny _ _ (call (Value.ref _) _) _ _ _)); (fail_if_success (with_reducible show wpAny _ _ (compareOp _ (Value.ref _) (Value.ref _)) _ _ _)); (fail_if_success (with_reducible show wpAny _ _ (exec _ _) _ _ _)); (fail_if_success (with_reducible show wpAny _ _ (subscriptTail _ _ (Value.ref _) _) _ _ _)))); walk1) | (dsimp only; (((fail_if_success k_end); (fail_if_success (with_reducible show wpAny _ _ (exec (PySem.Stmt.For _ _ _ _ _) _) _ _ _)); (fail_if_success (with_reducible show wpAny _ _ (eval (PySem.Expr.ListComp _ _ _ _) _) _ _ _)); (fail_if_success (with_reducible show wpAny _ _ (call (Value.ref _) _) _ _ _)); (fail_if_success (with_reducible show wpAny _ _ (compareOp _ (Value.ref _) (Value.ref _)) _ _ _)); (fail_if_success (with_reducible show wpAny _ _ (exec _ _) _ _ _)); (fail_if_success (with_reducible show wpAny _ _ (subscriptTail _ _ (Value.ref _) _) _ _ _)))); walk1)))
  rename Fr _ _ _ _ => F3
  rename News _ _ _ _ => N3
  refine ⟨X.keeps F3.keep, ?_⟩
  refine filled_spec (script := script) (spare := [1, 2, 1, -2, -100, 3]) (W'.base.keeps F3.keep) (by (with_reducible exact o_dp (by assumption) (by decide))) hA2 (by (lia)) (by decide) ⟨vsS, lifted.at fun _ e => F3.keep _ _ e, hIS⟩ ⟨_, _, N3.get (.head _), .cons _ _ (.cons _ _ (.cons _ _ (.cons _ _ (.cons _ _ (.cons _ _ .nil)))))⟩ fun aD tk4 h4 hk4 hf4 hl4 => ?_
  obtain ⟨d0, d1, d2, d3, d4, d5, hdr, hdb⟩ := filled6 hx
  rw [hdr] at hl4
  refine new_li F3 N3 hk4 hf4 hl4 fun vD nD F4 N4 iD => ?_
  have ne4 := allNe N3 hf4
  simp only [AllNe] at ne4
  have nD1 : @Ne Nat aD (L' + 1) := fun q => ne4.2.2.2.2.2.2.2.1 q.symm
  have nD2 : @Ne Nat aD (L' + 1 + 1) := fun q => ne4.2.2.2.2.2.2.1 q.symm
  have nD3 : @Ne Nat aD (L' + 1 + 1 + 1) := fun q => ne4.2.2.2.2.2.1 q.symm
  clear ne4
  clear F3 N3
  obtain ⟨u0, v0, rfl, iD0⟩ := iD.cons_inv
  obtain ⟨u1, v1, rfl, iD1⟩ := iD0.cons_inv
  obtain ⟨u2, v2, rfl, iD2⟩ := iD1.cons_inv
  obtain ⟨u3, v3, rfl, iD3⟩ := iD2.cons_inv
  obtain ⟨u4, v4, rfl, iD4⟩ := iD3.cons_inv
  obtain ⟨u5, v5, rfl, iD5⟩ := iD4.cons_inv
  obtain rfl := iD5.nil_inv
  clear iD iD0 iD1 iD2 iD3 iD4 iD5 hl4
  replace N4 : News (Gh s₁.heap) L' h4 [(aD, W.listOf #[.int d0 u0, .int d1 u1, .int d2 u2, .int d3 u3, .int d4 u4, .int d5 u5] nD), (L' + 1 + 1 + 1 + 1 + 1 + 1 + 1, oc1), (L' + 1 + 1 + 1 + 1 + 1 + 1, oc2), (L' + 1 + 1 + 1 + 1 + 1, oc3),
      (L' + 1 + 1 + 1 + 1, oc4), (L' + 1 + 1 + 1, oc5), (L' + 1 + 1, oc6), (L' + 1, oc7), (65, tabObj #[]), (58, tabObj #[])] := News.sub N4 (by (repeat' (first | with_reducible exact sub_nil | with_reducible refine sub_cons ?_ ?_ | with_reducible assumption | with_reducible exact List.mem_cons_self | with_reducible refine List.mem_cons_of_mem _ ?_ | with_reducible refine List.mem_append_left _ ?_ | intro _ _)))
  (repeat' (first | (k_unfold; (try dsimp only)) | ((((fail_if_success k_end); (fail_if_success (with_reducible show wpAny _ _ (exec (PySem.Stmt.For _ _ _ _ _) _) _ _ _)); (fail_if_success (with_reducible show wpAny _ _ (eval (PySem.Expr.ListComp _ _ _ _) _) _ _ _)); (fail_if_success (with_reducible show wpAny _ _ (call (Value.ref _) _) _ _ _)); (fail_if_success (with_reducible show wpAny _ _ (compareOp _ (Value.ref _) (Value.ref _)) _ _ _)); (fail_if_success (with_reducible show wpAny _ _ (exec _ _) _ _ _)); (fail_if_success (with_reducible show wpAny _ _ (subscriptTail _ (PySem.Expr.Slice _ _ _ _) _ _) _ _ _)); (fail_if_success (with_reducible show wpAny _ _ (call (Value.type "zip") _) _ _ _)))); walk1) | (dsimp only; (((fail_if_success k_end); (fail_if_success (with_reducible show wpAny _ _ (exec (PySem.Stmt.For _ _ _ _ _) _) _ _ _)); (fail_if_success (with_reducible show wpAny _ _ (eval (PySem.Expr.ListComp _ _ _ _) _) _ _ _)); (fail_if_success (with_reducible show wpAny _ _ (call (Value.ref _) _) _ _ _)); (fail_if_success (with_reducible show wpAny _ _ (compareOp _ (Value.ref _) (Value.ref _)) _ _ _)); (fail_if_success (with_reducible show wpAny _ _ (exec _ _) _ _ _)); (fail_if_success (with_reducible show wpAny _ _ (subscriptTail _ (PySem.Expr.Slice _ _ _ _) _ _) _ _ _)); (fail_if_success (with_reducible show wpAny _ _ (call (Value.type "zip") _) _ _ _)))); walk1)))
  walk1
  (repeat' (first | (k_unfold; (try dsimp only)) | ((((fail_if_success k_end); (fail_if_success (with_reducible show wpAny _ _ (exec (PySem.Stmt.For _ _ _ _ _) _) _ _ _)); (fail_if_success (with_reducible show wpAny _ _ (eval (PySem.Expr.ListComp _ _ _ _) _) _ _ _)); (fail_if_success (with_reducible show wpAny _ _ (call (Value.ref _) _) _ _ _)); (fail_if_success (with_reducible show wpAny _ _ (compareOp _ (Value.ref _) (Value.ref _)) _ _ _)); (fail_if_success (with_reducible show wpAny _ _ (exec _ _) _ _ _)); (fail_if_success (with_reducible show wpAny _ _ (subscriptTail _ (PySem.Expr.Slice _ _ _ _) _ _) _ _ _)); (fail_if_success (with_reducible show wpAny _ _ (call (Value.type "zip") _) _ _ _)))); walk1) | (dsimp only; (((fail_if_success k_end); (fail_if_success (with_reducible show wpAny _ _ (exec (PySem.Stmt.For _ _ _ _ _) _) _ _ _)); (fail_if_success (with_reducible show wpAny _ _ (eval (PySem.Expr.ListComp _ _ _ _) _) _ _ _)); (fail_if_success (with_reducible show wpAny _ _ (call (Value.ref _) _) _ _ _)); (fail_if_success (with_reducible show wpAny _ _ (compareOp _ (Value.ref _) (Value.ref _)) _ _ _)); (fail_if_success (with_reducible show wpAny _ _ (exec _ _) _ _ _)); (fail_if_success (with_reducible show wpAny _ _ (subscriptTail _ (PySem.Expr.Slice _ _ _ _) _ _) _ _ _)); (fail_if_success (with_reducible show wpAny _ _ (call (Value.type "zip") _) _ _ _)))); walk1)))
  rename _ = Data.cell (some (Value.int _ _)) => hoP0
  obtain ⟨P, tP, hPb, hoP⟩ : ∃ P t, (2 ≤ P ∧ P ≤ 4) ∧ _ = Data.cell (some (Value.int P t)) := ⟨_, _, ⟨by have := Int.fmod_nonneg_of_pos ([d0, d1, d2, d3, d4, d5].getD (Int.toNat 0) 0) (show (0 : Int) < 3 by decide); (lia), by have := Int.fmod_lt_of_pos ([d0, d1, d2, d3, d4, d5].getD (Int.toNat 0) 0) (show (0 : Int) < 3 by decide); (lia)⟩, hoP0⟩
  clear hoP0
  walk1
  (repeat' (first | (k_unfold; (try dsimp only)) | ((((fail_if_success k_end); (fail_if_success (with_reducible show wpAny _ _ (exec (PySem.Stmt.For _ _ _ _ _) _) _ _ _)); (fail_if_success (with_reducible show wpAny _ _ (eval (PySem.Expr.ListComp _ _ _ _) _) _ _ _)); (fail_if_success (with_reducible show wpAny _ _ (call (Value.ref _) _) _ _ _)); (fail_if_success (with_reducible show wpAny _ _ (compareOp _ (Value.ref _) (Value.ref _)) _ _ _)); (fail_if_success (with_reducible show wpAny _ _ (exec _ _) _ _ _)); (fail_if_success (with_reducible show wpAny _ _ (subscriptTail _ (PySem.Expr.Slice _ _ _ _) _ _) _ _ _)); (fail_if_success (with_reducible show wpAny _ _ (call (Value.type "zip") _) _ _ _)))); walk1) | (dsimp only; (((fail_if_success k_end); (fail_if_success (with_reducible show wpAny _ _ (exec (PySem.Stmt.For _ _ _ _ _) _) _ _ _)); (fail_if_success (with_reducible show wpAny _ _ (eval (PySem.Expr.ListComp _ _ _ _) _) _ _ _)); (fail_if_success (with_reducible show wpAny _ _ (call (Value.ref _) _) _ _ _)); (fail_if_success (with_reducible show wpAny _ _ (compareOp _ (Value.ref _) (Value.ref _)) _ _ _)); (fail_if_success (with_reducible show wpAny _ _ (exec _ _) _ _ _)); (fail_if_success (with_reducible show wpAny _ _ (subscriptTail _ (PySem.Expr.Slice _ _ _ _) _ _) _ _ _)); (fail_if_success (with_reducible show wpAny _ _ (call (Value.type "zip") _) _ _ _)))); walk1)))
  rename Fr _ _ _ _ => F5
  dsimp only at F5
  generalize hR : (2 + Int.fmod _ 3 : Int) = R at F5
  have hRb : 2 ≤ R ∧ R ≤ 4 := by
    rw [← hR]
    have h1 := Int.fmod_nonneg_of_pos ([d0, d1, d2, d3, d4, d5].getD (Int.toNat 1) 0) (show (0 : Int) < 3 by decide)
    have h2 := Int.fmod_lt_of_pos ([d0, d1, d2, d3, d4, d5].getD (Int.toNat 1) 0) (show (0 : Int) < 3 by decide)
    (lia)
  clear hR
  walk1
  (repeat' (first | (k_unfold; (try dsimp only)) | ((((fail_if_success k_end); (fail_if_success (with_reducible show wpAny _ _ (exec (PySem.Stmt.For _ _ _ _ _) _) _ _ _)); (fail_if_success (with_reducible show wpAny _ _ (eval (PySem.Expr.ListComp _ _ _ _) _) _ _ _)); (fail_if_success (with_reducible show wpAny _ _ (call (Value.ref _) _) _ _ _)); (fail_if_success (with_reducible show wpAny _ _ (compareOp _ (Value.ref _) (Value.ref _)) _ _ _)); (fail_if_success (with_reducible show wpAny _ _ (exec _ _) _ _ _)); (fail_if_success (with_reducible show wpAny _ _ (subscriptTail _ (PySem.Expr.Slice _ _ _ _) _ _) _ _ _)); (fail_if_success (with_reducible show wpAny _ _ (call (Value.type "zip") _) _ _ _)))); walk1) | (dsimp only; (((fail_if_success k_end); (fail_if_success (with_reducible show wpAny _ _ (exec (PySem.Stmt.For _ _ _ _ _) _) _ _ _)); (fail_if_success (with_reducible show wpAny _ _ (eval (PySem.Expr.ListComp _ _ _ _) _) _ _ _)); (fail_if_success (with_reducible show wpAny _ _ (call (Value.ref _) _) _ _ _)); (fail_if_success (with_reducible show wpAny _ _ (compareOp _ (Value.ref _) (Value.ref _)) _ _ _)); (fail_if_success (with_reducible show wpAny _ _ (exec _ _) _ _ _)); (fail_if_success (with_reducible show wpAny _ _ (subscriptTail _ (PySem.Expr.Slice _ _ _ _) _ _) _ _ _)); (fail_if_success (with_reducible show wpAny _ _ (call (Value.type "zip") _) _ _ _)))); walk1)))
  rename Fr _ _ _ _ => F6
  dsimp only at F6
  have hSb : 4 ≤ P * R ∧ P * R ≤ 16 := by
    obtain ⟨a, b⟩ := hPb
    obtain ⟨c, d⟩ := hRb
    have h1 : 2 * 2 ≤ P * R := Int.mul_le_mul a c (by decide) (by (with_reducible exact o_nege (by assumption) (by decide)))
    have h2 : P * R ≤ 4 * 4 := Int.mul_le_mul b d (by (with_reducible exact o_nege (by assumption) (by decide))) (by decide)
    (lia)
  obtain ⟨S, hSe⟩ : ∃ S, S = P * R := ⟨_, rfl⟩
  rw [← hSe] at F6 hSb
  walk1
  (repeat' (first | (k_unfold; (try dsimp only)) | ((((fail_if_success k_end); (fail_if_success (with_reducible show wpAny _ _ (exec (PySem.Stmt.For _ _ _ _ _) _) _ _ _)); (fail_if_success (with_reducible show wpAny _ _ (eval (PySem.Expr.ListComp _ _ _ _) _) _ _ _)); (fail_if_success (with_reducible show wpAny _ _ (call (Value.ref _) _) _ _ _)); (fail_if_success (with_reducible show wpAny _ _ (compareOp _ (Value.ref _) (Value.ref _)) _ _ _)); (fail_if_success (with_reducible show wpAny _ _ (exec _ _) _ _ _)); (fail_if_success (with_reducible show wpAny _ _ (subscriptTail _ (PySem.Expr.Slice _ _ _ _) _ _) _ _ _)); (fail_if_success (with_reducible show wpAny _ _ (call (Value.type "zip") _) _ _ _)))); walk1) | (dsimp only; (((fail_if_success k_end); (fail_if_success (with_reducible show wpAny _ _ (exec (PySem.Stmt.For _ _ _ _ _) _) _ _ _)); (fail_if_success (with_reducible show wpAny _ _ (eval (PySem.Expr.ListComp _ _ _ _) _) _ _ _)); (fail_if_success (with_reducible show wpAny _ _ (call (Value.ref _) _) _ _ _)); (fail_if_success (with_reducible show wpAny _ _ (compareOp _ (Value.ref _) (Value.ref _)) _ _ _)); (fail_if_success (with_reducible show wpAny _ _ (exec _ _) _ _ _)); (fail_if_success (with_reducible show wpAny _ _ (subscriptTail _ (PySem.Expr.Slice _ _ _ _) _ _) _ _ _)); (fail_if_success (with_reducible show wpAny _ _ (call (Value.type "zip") _) _ _ _)))); walk1)))
  refine comp_pairU (fun i a b => ∃ x y t t', a = .int x t ∧ b = .int y t' ∧ [(d2, 1), (d3, -2)][i]? = some (x, (y : Int))) (fun i y => ∃ t, y = .int ([if d2 ≠ 0 then d2 else 1, if d3 ≠ 0 then d3 else -2].getD i 0) t) hA2 rfl (by decide) rfl (by decide) rfl rfl (by decide) ?_ (by intro _; with_unfolding_all rfl)
  (repeat' (first | (k_unfold; (try dsimp only)) | ((((fail_if_success k_end); (fail_if_success (with_reducible show wpAny _ _ (exec (PySem.Stmt.For _ _ _ _ _) _) _ _ _)); (fail_if_success (with_reducible show wpAny _ _ (eval (PySem.Expr.ListComp _ _ _ _) _) _ _ _)); (fail_if_success (with_reducible show wpAny _ _ (call (Value.ref _) _) _ _ _)); (fail_if_success (with_reducible show wpAny _ _ (compareOp _ (Value.ref _) (Value.ref _)) _ _ _)); (fail_if_success (with_reducible show wpAny _ _ (exec _ _) _ _ _)); (fail_if_success (with_reducible show wpAny _ _ (subscriptTail _ (PySem.Expr.Slice _ _ _ _) _ _) _ _ _)); (fail_if_success (with_reducible show wpAny _ _ (call (Value.type "zip") _) _ _ _)))); walk1) | (dsimp only; (((fail_if_success k_end); (fail_if_success (with_reducible show wpAny _ _ (exec (PySem.Stmt.For _ _ _ _ _) _) _ _ _)); (fail_if_success (with_reducible show wpAny _ _ (eval (PySem.Expr.ListComp _ _ _ _) _) _ _ _)); (fail_if_success (with_reducible show wpAny _ _ (call (Value.ref _) _) _ _ _)); (fail_if_success (with_reducible show wpAny _ _ (compareOp _ (Value.ref _) (Value.ref _)) _ _ _)); (fail_if_success (with_reducible show wpAny _ _ (exec _ _) _ _ _)); (fail_if_success (with_reducible show wpAny _ _ (subscriptTail _ (PySem.Expr.Slice _ _ _ _) _ _) _ _ _)); (fail_if_success (with_reducible show wpAny _ _ (call (Value.type "zip") _) _ _ _)))); walk1)))
  rename News _ _ _ _ => N6
  refine kmk_slice_lit (zs := [.int d2 u2, .int d3 u3]) F6 N6 (isList_of (vs := [.int d0 u0, .int d1 u1, .int d2 u2, .int d3 u3, .int d4 u4, .int d5 u5]) (N6.get (.head _))) (.int _ _) (.int _ _) rfl (fun aS h7 F7 N7 l7 => ?_) (by with_unfolding_all rfl) (by kmk_pure) (Nat.le_of_ble_eq_true rfl)
  clear F6 N6
  (repeat' (first | (k_unfold; (try dsimp only)) | ((((fail_if_success k_end); (fail_if_success (with_reducible show wpAny _ _ (exec (PySem.Stmt.For _ _ _ _ _) _) _ _ _)); (fail_if_success (with_reducible show wpAny _ _ (eval (PySem.Expr.ListComp _ _ _ _) _) _ _ _)); (fail_if_success (with_reducible show wpAny _ _ (call (Value.ref _) _) _ _ _)); (fail_if_success (with_reducible show wpAny _ _ (compareOp _ (Value.ref _) (Value.ref _)) _ _ _)); (fail_if_success (with_reducible show wpAny _ _ (exec _ _) _ _ _)); (fail_if_success (with_reducible show wpAny _ _ (subscriptTail _ (PySem.Expr.Slice _ _ _ _) _ _) _ _ _)); (fail_if_success (with_reducible show wpAny _ _ (call (Value.type "zip") _) _ _ _)))); walk1) | (dsimp only; (((fail_if_success k_end); (fail_if_success (with_reducible show wpAny _ _ (exec (PySem.Stmt.For _ _ _ _ _) _) _ _ _)); (fail_if_success (with_reducible show wpAny _ _ (eval (PySem.Expr.ListComp _ _ _ _) _) _ _ _)); (fail_if_success (with_reducible show wpAny _ _ (call (Value.ref _) _) _ _ _)); (fail_if_success (with_reducible show wpAny _ _ (compareOp _ (Value.ref _) (Value.ref _)) _ _ _)); (fail_if_success (with_reducible show wpAny _ _ (exec _ _) _ _ _)); (fail_if_success (with_reducible show wpAny _ _ (subscriptTail _ (PySem.Expr.Slice _ _ _ _) _ _) _ _ _)); (fail_if_success (with_reducible show wpAny _ _ (call (Value.type "zip") _) _ _ _)))); walk1)))
  rename Fr _ _ _ _ => F8
  rename News _ _ _ _ => N8
  have hl1 := isList_of (N8.get (.tail _ (.head _)))
  have hl2 := N8.isList (.head _)
  refine call_zip_2 hl1 hl2 fun h9 hz9 hTI9 hTO9 hi19 hi29 hs9 hk9 => ?_
  refine wpAny_pyIter_zip hz9 ?_
  dsimp only at hz9 hTI9 hTO9 hi19 hi29 hs9 hk9 F8 N8 hl1 hl2
  rename_i aP h8 lP
  have hlt1 : aS < h8.objs.size := by obtain ⟨_, e, _⟩ := hl1; exact Heap.lt_size e
  have hlt2 : aP < h8.objs.size := by obtain ⟨_, e, _⟩ := hl2; exact Heap.lt_size e
  refine ⟨_, _, _, _, _, _, _, rfl, (WalksT.zip2 hA2 _ _ _ _ _ _ _ (ktu_apart _ _ _ hlt1 hlt2) _ _).toU, ?_, Nat.le_of_ble_eq_true rfl, ⟨hz9, hTI9, ⟨_, _, hTO9⟩, hi19, hi29, hl1.at fun o e => hk9 _ o e, hl2.at fun o e => hk9 _ o e⟩, ?_, ?_, ?_⟩
  · rintro i vals ⟨x, y, hx, hy, rfl⟩
    refine ⟨x, y, rfl, ?_⟩
    rcases i with _ | _ | i
    · simp at hx hy; exact ⟨d2, 1, _, _, hx.symm, hy.symm, rfl⟩
    · simp at hx hy; exact ⟨d3, -2, _, _, hx.symm, hy.symm, rfl⟩
    · simp at hx
  · intro b hb
    have h1 := hlt1
    have h2 := hlt2
    show b < h9.objs.size
    rw [hs9]
    simp only [List.mem_cons, List.not_mem_nil, or_false] at hb
    rcases hb with h | h | h | h | h | h | h <;> (rw [h]; first | exact Nat.lt_of_succ_le (by (first | with_reducible exact Nat.le_refl _ | with_reducible exact Nat.le_succ _ | (lia))) | exact Nat.lt_trans h1 (Nat.lt_add_of_pos_right (by decide)) | exact Nat.lt_trans h2 (Nat.lt_add_of_pos_right (by decide)))
  · rintro C i a b s₃ m₃ E' hi ⟨x, y, t, t', rfl, rfl, hxy⟩ hn hm1 hm2
    refine wpAny_IfExp (wpAny_isTrue_Compare1 (wpAny_Name (wpAny_loadName_local rfl rfl hn hm1 (wpAny_Constant_int (ne_int (wpAny_truthy_bool ?_))))))
    have hv : ([if d2 ≠ 0 then d2 else 1, if d3 ≠ 0 then d3 else -2].getD i 0) = if x ≠ 0 then x else y := by
      rcases i with _ | _ | i
      · cases hxy; rfl
      · cases hxy; rfl
      · simp at hxy
    rw [hv]
    by_cases hx0 : x = 0
    · rw [show (x != 0) = false by simp [hx0], if_neg (by simp)]
      exact wpAny_Name (wpAny_loadName_local rfl rfl hn hm2 ⟨⟨t', by rw [if_neg (by simp [hx0])]⟩, _, _, rfl, fun _ _ e => e⟩)
    · rw [show (x != 0) = true by simp [hx0], if_pos rfl]
      exact wpAny_Name (wpAny_loadName_local rfl rfl hn hm1 ⟨⟨t, by rw [if_pos hx0]⟩, _, _, rfl, fun _ _ e => e⟩)
  intro aW hW tkW ys hfW hpW hlenW hF hkW
  have kW : KeepAll h8 hW := fun b o e => hkW b o (fun q => by
    have hlt := Heap.lt_size e
    simp only [List.mem_cons, List.not_mem_nil, or_false] at q
    rcases q with q | q | q | q <;> (rw [q] at hlt; first | exact absurd hlt (Nat.not_lt.mpr (Nat.le_add_right _ _)) | exact absurd hlt (Nat.lt_irrefl _))) (hk9 b o e)
  have hfW8 : h8.get? aW = none := fresh_of hk9 hfW
  obtain ⟨w0, w1, tw0, tw1, hw0, hw1, rfl⟩ : ∃ w0 w1 tw0 tw1, (w0 = if d2 ≠ 0 then d2 else 1) ∧ (w1 = if d3 ≠ 0 then d3 else -2) ∧ ys = [Value.int w0 tw0, Value.int w1 tw1] := by
    obtain ⟨t0, t1, e⟩ := two_ints hlenW hF
    exact ⟨_, _, t0, t1, rfl, rfl, e⟩
  clear hF hlenW hkW
  have hwz : w0 ≠ 0 ∧ w1 ≠ 0 := by
    constructor
    · rw [hw0]; split <;> simp_all
    · rw [hw1]; split <;> simp_all
  have hwb0 : Builtin.Int.intBits w0 ≤ 1048576 := by
    rw [hw0]; split
    · exact hdb d2 (by simp)
    · exact Nat.le_trans (intBits_le_64 (by decide) (by decide)) (by decide)
  have hwb1 : Builtin.Int.intBits w1 ≤ 1048576 := by
    rw [hw1]; split
    · exact hdb d3 (by simp)
    · exact Nat.le_trans (intBits_le_64 (by decide) (by decide)) (by decide)
  have hmul : IntMulOk w0 w1 := IntMulOk.of_le hwb0 hwb1 (by decide)
  clear hw0 hw1
  obtain ⟨nW, hpW⟩ := hpW
  have F9 := F8.keeps kW
  have N9 := News.add F8 N8 kW hfW8 hpW
  have ne9 := allNe N8 hfW8
  simp only [AllNe] at ne9
  have nW2 : @Ne Nat aW (L' + 1 + 1) := fun q => ne9.2.2.2.2.2.2.2.2.1 q.symm
  have nW3 : @Ne Nat aW (L' + 1 + 1 + 1) := fun q => ne9.2.2.2.2.2.2.2.1 q.symm
  clear ne9
  rename Obj => oP'
  clear hl1 hl2 hz9 hTI9 hTO9 hi19 hi29 hs9 hlt1 hlt2 kW hfW8 hfW hk9 F8 N8 l7 lP
  replace N9 : News (Gh s₁.heap) L' hW [(aW, W.listOf #[.int w0 tw0, .int w1 tw1] nW), (aD, W.listOf #[.int d0 u0, .int d1 u1, .int d2 u2, .int d3 u3, .int d4 u4, .int d5 u5] nD), (L' + 1 + 1 + 1 + 1 + 1 + 1 + 1, oc1), (L' + 1 + 1 + 1 + 1 + 1 + 1, oc2), (L' + 1 + 1 + 1 + 1 + 1, oc3),
      (L' + 1 + 1 + 1 + 1, oc4), (L' + 1 + 1 + 1, oc5), (L' + 1 + 1, oc6), (L' + 1, oP'), (65, tabObj #[]), (58, tabObj #[])] := News.sub N9 (by (repeat' (first | with_reducible exact sub_nil | with_reducible refine sub_cons ?_ ?_ | with_reducible assumption | with_reducible exact List.mem_cons_self | with_reducible refine List.mem_cons_of_mem _ ?_ | with_reducible refine List.mem_append_left _ ?_ | intro _ _)))
  (repeat' (first | (k_unfold; (try dsimp only)) | ((((fail_if_success k_end); (fail_if_success (with_reducible show wpAny _ _ (exec (PySem.Stmt.For _ _ _ _ _) _) _ _ _)); (fail_if_success (with_reducible show wpAny _ _ (eval (PySem.Expr.ListComp _ _ _ _) _) _ _ _)); (fail_if_success (with_reducible show wpAny _ _ (call (Value.ref _) _) _ _ _)); (fail_if_success (with_reducible show wpAny _ _ (compareOp _ (Value.ref _) (Value.ref _)) _ _ _)); (fail_if_success (with_reducible show wpAny _ _ (exec _ _) _ _ _)); (fail_if_success (with_reducible show wpAny _ _ (subscriptTail _ (PySem.Expr.Slice _ _ _ _) _ _) _ _ _)); (fail_if_success (with_reducible show wpAny _ _ (call (Value.type "zip") _) _ _ _)))); walk1) | (dsimp only; (((fail_if_success k_end); (fail_if_success (with_reducible show wpAny _ _ (exec (PySem.Stmt.For _ _ _ _ _) _) _ _ _)); (fail_if_success (with_reducible show wpAny _ _ (eval (PySem.Expr.ListComp _ _ _ _) _) _ _ _)); (fail_if_success (with_reducible show wpAny _ _ (call (Value.ref _) _) _ _ _)); (fail_if_success (with_reducible show wpAny _ _ (compareOp _ (Value.ref _) (Value.ref _)) _ _ _)); (fail_if_success (with_reducible show wpAny _ _ (exec _ _) _ _ _)); (fail_if_success (with_reducible show wpAny _ _ (subscriptTail _ (PySem.Expr.Slice _ _ _ _) _ _) _ _ _)); (fail_if_success (with_reducible show wpAny _ _ (call (Value.type "zip") _) _ _ _)))); walk1)))
  rename Fr _ _ _ _ => Fc
  rename News _ _ _ _ => Nc
  try dsimp only at Fc
  refine cut_keptV (s₁ := s₁) (x := Str.ofString "side") (fun v => v = 1 ∨ v = -1) Fc Nc ?_ ?_
  · walk1
    (repeat' (first | (k_unfold; (try dsimp only)) | ((((fail_if_success k_end); (fail_if_success (with_reducible show wpAny _ _ (exec (PySem.Stmt.For _ _ _ _ _) _) _ _ _)); (fail_if_success (with_reducible show wpAny _ _ (eval (PySem.Expr.ListComp _ _ _ _) _) _ _ _)); (fail_if_success (with_reducible show wpAny _ _ (call (Value.ref _) _) _ _ _)); (fail_if_success (with_reducible show wpAny _ _ (compareOp _ (Value.ref _) (Value.ref _)) _ _ _)); (fail_if_success (with_reducible show wpAny _ _ (exec _ _) _ _ _)); (fail_if_success (with_reducible show wpAny _ _ (subscriptTail _ (PySem.Expr.Slice _ _ _ _) _ _) _ _ _)); (fail_if_success (with_reducible show wpAny _ _ (call (Value.type "zip") _) _ _ _)))); walk1) | (dsimp only; (((fail_if_success k_end); (fail_if_success (with_reducible show wpAny _ _ (exec (PySem.Stmt.For _ _ _ _ _) _) _ _ _)); (fail_if_success (with_reducible show wpAny _ _ (eval (PySem.Expr.ListComp _ _ _ _) _) _ _ _)); (fail_if_success (with_reducible show wpAny _ _ (call (Value.ref _) _) _ _ _)); (fail_if_success (with_reducible show wpAny _ _ (compareOp _ (Value.ref _) (Value.ref _)) _ _ _)); (fail_if_success (with_reducible show wpAny _ _ (exec _ _) _ _ _)); (fail_if_success (with_reducible show wpAny _ _ (subscriptTail _ (PySem.Expr.Slice _ _ _ _) _ _) _ _ _)); (fail_if_success (with_reducible show wpAny _ _ (call (Value.type "zip") _) _ _ _)))); walk1)))
    all_goals (rename Fr _ _ _ _ => F; rename News _ _ _ _ => N)
    · exact ⟨rfl, _, _, _, _, .inr rfl, rfl, F, N⟩
    · exact ⟨rfl, _, _, _, _, .inl rfl, rfl, F, N⟩
  clear Fc Nc
  intro hA1' tkA side tside hside FA NA
  (repeat' (first | (k_unfold; (try dsimp only)) | ((((fail_if_success k_end); (fail_if_success (with_reducible show wpAny _ _ (exec (PySem.Stmt.For _ _ _ _ _) _) _ _ _)); (fail_if_success (with_reducible show wpAny _ _ (eval (PySem.Expr.ListComp _ _ _ _) _) _ _ _)); (fail_if_success (with_reducible show wpAny _ _ (call (Value.ref _) _) _ _ _)); (fail_if_success (with_reducible show wpAny _ _ (compareOp _ (Value.ref _) (Value.ref _)) _ _ _)); (fail_if_success (with_reducible show wpAny _ _ (exec _ _) _ _ _)); (fail_if_success (with_reducible show wpAny _ _ (subscriptTail _ (PySem.Expr.Slice _ _ _ _) _ _) _ _ _)); (fail_if_success (with_reducible show wpAny _ _ (call (Value.type "zip") _) _ _ _)))); walk1) | (dsimp only; (((fail_if_success k_end); (fail_if_success (with_reducible show wpAny _ _ (exec (PySem.Stmt.For _ _ _ _ _) _) _ _ _)); (fail_if_success (with_reducible show wpAny _ _ (eval (PySem.Expr.ListComp _ _ _ _) _) _ _ _)); (fail_if_success (with_reducible show wpAny _ _ (call (Value.ref _) _) _ _ _)); (fail_if_success (with_reducible show wpAny _ _ (compareOp _ (Value.ref _) (Value.ref _)) _ _ _)); (fail_if_success (with_reducible show wpAny _ _ (exec _ _) _ _ _)); (fail_if_success (with_reducible show wpAny _ _ (subscriptTail _ (PySem.Expr.Slice _ _ _ _) _ _) _ _ _)); (fail_if_success (with_reducible show wpAny _ _ (call (Value.type "zip") _) _ _ _)))); walk1)))
  walk1
  (repeat' (first | (k_unfold; (try dsimp only)) | ((((fail_if_success k_end); (fail_if_success (with_reducible show wpAny _ _ (exec (PySem.Stmt.For _ _ _ _ _) _) _ _ _)); (fail_if_success (with_reducible show wpAny _ _ (eval (PySem.Expr.ListComp _ _ _ _) _) _ _ _)); (fail_if_success (with_reducible show wpAny _ _ (call (Value.ref _) _) _ _ _)); (fail_if_success (with_reducible show wpAny _ _ (compareOp _ (Value.ref _) (Value.ref _)) _ _ _)); (fail_if_success (with_reducible show wpAny _ _ (exec _ _) _ _ _)); (fail_if_success (with_reducible show wpAny _ _ (subscriptTail _ (PySem.Expr.Slice _ _ _ _) _ _) _ _ _)); (fail_if_success (with_reducible show wpAny _ _ (call (Value.type "zip") _) _ _ _)))); walk1) | (dsimp only; (((fail_if_success k_end); (fail_if_success (with_reducible show wpAny _ _ (exec (PySem.Stmt.For _ _ _ _ _) _) _ _ _)); (fail_if_success (with_reducible show wpAny _ _ (eval (PySem.Expr.ListComp _ _ _ _) _) _ _ _)); (fail_if_success (with_reducible show wpAny _ _ (call (Value.ref _) _) _ _ _)); (fail_if_success (with_reducible show wpAny _ _ (compareOp _ (Value.ref _) (Value.ref _)) _ _ _)); (fail_if_success (with_reducible show wpAny _ _ (exec _ _) _ _ _)); (fail_if_success (with_reducible show wpAny _ _ (subscriptTail _ (PySem.Expr.Slice _ _ _ _) _ _) _ _ _)); (fail_if_success (with_reducible show wpAny _ _ (call (Value.type "zip") _) _ _ _)))); walk1)))
  rename _ = Data.cell (some (Value.int _ _)) => hoWd0
  obtain ⟨wd, tWd, hwdb, hoWd⟩ : ∃ v t, (1 ≤ v ∧ v ≤ 3) ∧ _ = Data.cell (some (Value.int v t)) := ⟨_, _, wd_bound _, hoWd0⟩
  clear hoWd0
  walk1
  (repeat' (first | (k_unfold; (try dsimp only)) | ((((fail_if_success k_end); (fail_if_success (with_reducible show wpAny _ _ (exec (PySem.Stmt.For _ _ _ _ _) _) _ _ _)); (fail_if_success (with_reducible show wpAny _ _ (eval (PySem.Expr.ListComp _ _ _ _) _) _ _ _)); (fail_if_success (with_reducible show wpAny _ _ (call (Value.ref _) _) _ _ _)); (fail_if_success (with_reducible show wpAny _ _ (compareOp _ (Value.ref _) (Value.ref _)) _ _ _)); (fail_if_success (with_reducible show wpAny _ _ (exec _ _) _ _ _)); (fail_if_success (with_reducible show wpAny _ _ (subscriptTail _ (PySem.Expr.Slice _ _ _ _) _ _) _ _ _)); (fail_if_success (with_reducible show wpAny _ _ (call (Value.type "zip") _) _ _ _)))); walk1) | (dsimp only; (((fail_if_success k_end); (fail_if_success (with_reducible show wpAny _ _ (exec (PySem.Stmt.For _ _ _ _ _) _) _ _ _)); (fail_if_success (with_reducible show wpAny _ _ (eval (PySem.Expr.ListComp _ _ _ _) _) _ _ _)); (fail_if_success (with_reducible show wpAny _ _ (call (Value.ref _) _) _ _ _)); (fail_if_success (with_reducible show wpAny _ _ (compareOp _ (Value.ref _) (Value.ref _)) _ _ _)); (fail_if_success (with_reducible show wpAny _ _ (exec _ _) _ _ _)); (fail_if_success (with_reducible show wpAny _ _ (subscriptTail _ (PySem.Expr.Slice _ _ _ _) _ _) _ _ _)); (fail_if_success (with_reducible show wpAny _ _ (call (Value.type "zip") _) _ _ _)))); walk1)))
  have g0 : [w0, w1].getD (Int.toNat 0) 0 = w0 := rfl
  have g1 : [w0, w1].getD (Int.toNat 1) 0 = w1 := rfl
  rw [g0, g1]
  (repeat' (first | (k_unfold; (try dsimp only)) | ((((fail_if_success k_end); (fail_if_success (with_reducible show wpAny _ _ (exec (PySem.Stmt.For _ _ _ _ _) _) _ _ _)); (fail_if_success (with_reducible show wpAny _ _ (eval (PySem.Expr.ListComp _ _ _ _) _) _ _ _)); (fail_if_success (with_reducible show wpAny _ _ (call (Value.ref _) _) _ _ _)); (fail_if_success (with_reducible show wpAny _ _ (compareOp _ (Value.ref _) (Value.ref _)) _ _ _)); (fail_if_success (with_reducible show wpAny _ _ (exec _ _) _ _ _)); (fail_if_success (with_reducible show wpAny _ _ (subscriptTail _ (PySem.Expr.Slice _ _ _ _) _ _) _ _ _)); (fail_if_success (with_reducible show wpAny _ _ (call (Value.type "zip") _) _ _ _)))); walk1) | (dsimp only; (((fail_if_success k_end); (fail_if_success (with_reducible show wpAny _ _ (exec (PySem.Stmt.For _ _ _ _ _) _) _ _ _)); (fail_if_success (with_reducible show wpAny _ _ (eval (PySem.Expr.ListComp _ _ _ _) _) _ _ _)); (fail_if_success (with_reducible show wpAny _ _ (call (Value.ref _) _) _ _ _)); (fail_if_success (with_reducible show wpAny _ _ (compareOp _ (Value.ref _) (Value.ref _)) _ _ _)); (fail_if_success (with_reducible show wpAny _ _ (exec _ _) _ _ _)); (fail_if_success (with_reducible show wpAny _ _ (subscriptTail _ (PySem.Expr.Slice _ _ _ _) _ _) _ _ _)); (fail_if_success (with_reducible show wpAny _ _ (call (Value.type "zip") _) _ _ _)))); walk1)))
  rename Fr _ _ _ _ => Fc
  rename News _ _ _ _ => Nc
  try dsimp only at Fc
  obtain ⟨sm, hsm⟩ : ∃ sm : Bool, sm = decide (0 < w0 * w1) := ⟨_, rfl⟩
  rw [← hsm] at Fc
  refine cut_keptV (s₁ := s₁) (x := Str.ofString "factor") (fun v => v = if 0 < w0 then R else -R) Fc Nc ?_ ?_
  · walk1
    (repeat' (first | (k_unfold; (try dsimp only)) | ((((fail_if_success k_end); (fail_if_success (with_reducible show wpAny _ _ (exec (PySem.Stmt.For _ _ _ _ _) _) _ _ _)); (fail_if_success (with_reducible show wpAny _ _ (eval (PySem.Expr.ListComp _ _ _ _) _) _ _ _)); (fail_if_success (with_reducible show wpAny _ _ (call (Value.ref _) _) _ _ _)); (fail_if_success (with_reducible show wpAny _ _ (compareOp _ (Value.ref _) (Value.ref _)) _ _ _)); (fail_if_success (with_reducible show wpAny _ _ (exec _ _) _ _ _)); (fail_if_success (with_reducible show wpAny _ _ (subscriptTail _ (PySem.Expr.Slice _ _ _ _) _ _) _ _ _)); (fail_if_success (with_reducible show wpAny _ _ (call (Value.type "zip") _) _ _ _)))); walk1) | (dsimp only; (((fail_if_success k_end); (fail_if_success (with_reducible show wpAny _ _ (exec (PySem.Stmt.For _ _ _ _ _) _) _ _ _)); (fail_if_success (with_reducible show wpAny _ _ (eval (PySem.Expr.ListComp _ _ _ _) _) _ _ _)); (fail_if_success (with_reducible show wpAny _ _ (call (Value.ref _) _) _ _ _)); (fail_if_success (with_reducible show wpAny _ _ (compareOp _ (Value.ref _) (Value.ref _)) _ _ _)); (fail_if_success (with_reducible show wpAny _ _ (exec _ _) _ _ _)); (fail_if_success (with_reducible show wpAny _ _ (subscriptTail _ (PySem.Expr.Slice _ _ _ _) _ _) _ _ _)); (fail_if_success (with_reducible show wpAny _ _ (call (Value.type "zip") _) _ _ _)))); walk1)))
    all_goals (rename Fr _ _ _ _ => F; rename News _ _ _ _ => N)
    all_goals (refine ⟨rfl, _, _, _, _, ?_, rfl, F, N⟩)
    all_goals first
      | (rename ¬ (0 : Int) < _ => hn0; exact (if_neg (show ¬ 0 < w0 from hn0)).symm)
      | (rename (0 : Int) < _ => hn0; exact (if_pos (show 0 < w0 from hn0)).symm)
  clear Fc Nc
  intro hA2' tkB fac tfac hfac FA NA
  rename _ = Data.cell (some (Value.ref aW)) => hoWy
  have hd4 : Builtin.Int.intBits d4 ≤ 1048576 := hdb d4 (by simp)
  have hF : Facts P S side w0 w1 fac sm := by rw [hSe, hfac, hsm]; exact facts hPb hRb hside hwz.1 hwz.2
  have fin := fun tk => part1 (fa := fa) (cd := cd) (tk := tk) (Q := fun fl s' => fl = .ret (.bool true) ∧ ∃ h' tk, s' = { s₁ with heap := h', toks := tk } ∧ Wt w h' ∧ KeepBut s₁.heap h') X T' W' hA1 hA2 hA3 hL FA NA hc1 hc2 hc3 hc4 hoWd hoWy hoP C1 codeHd hPb hRb hSe hSb hwz hside hwdb hsm hfac hd4 hF (fun h' tk' a b => ⟨rfl, h', tk', rfl, a, b⟩)
  unfold lawParts Challenge.pw_ph0098_01 at fin
  dsimp only [List.drop_succ_cons, List.drop_zero, List.drop] at fin
  exact fin _)
end Mine
end
set_option maxRecDepth 100000 in
theorem PySem.Challenge.cw_ph0098_01_holds : PySem.Challenge.rw_ph0098_01.Holds := by
  exact Mine.tryit
