import PyProof.Rows.All
import Wide.All
import OpenK.AllK
import Wide.FinOn
import PySem.Challenge.RW_pe0136_01
set_option Elab.async false
set_option maxRecDepth 100000
set_option maxHeartbeats 8000000
set_option pp.deepTerms false
set_option pp.maxSteps 300
set_option rowWalk.seconds 0
open PySem PySem.W PyProof.Rows
section
open PySem PySem.W PyProof.Rows
namespace Mine
open_top hd for PySem.Challenge.rw_pe0136_01
end Mine
end
section
open PySem PySem.W PySem.Calls PyProof.Rows
namespace Mine

theorem iteT {P R : Prop} {a b : Int} (e : a = b) (h : P) : if (a == b) = true then P else R := by rw [if_pos (beq_iff_eq.mpr e)]; exact h
theorem iteF {P R : Prop} {a b : Int} (e : a ≠ b) (h : R) : if (a == b) = true then P else R := by rw [if_neg (fun q => e (beq_iff_eq.mp q))]; exact h
def Stop (P : Prop) : Prop := P
theorem Stop.mk {P : Prop} (h : P) : Stop P := h
theorem Stop.out {P : Prop} (h : Stop P) : P := h
theorem stopIter {M : Model} {A : Around} {E : Value → Shared → Prop} {s : Shared} {a : Addr} {Q : Value → Shared → Prop} (h : Stop (wpAny M A (pyIter (Value.ref a)) Q E s)) : wpAny M A (pyIter (Value.ref a)) Q E s := h
theorem stopCall {M : Model} {A : Around} {E : Value → Shared → Prop} {s : Shared} {a : Addr} {vs : List Value} {Q : Value → Shared → Prop} (h : Stop (wpAny M A (call (Value.ref a) vs) Q E s)) : wpAny M A (call (Value.ref a) vs) Q E s := h
theorem stopSplit {M : Model} {A : Around} {E : Value → Shared → Prop} {s : Shared} {vs : List Value} {Q : Value → Shared → Prop} (h : Stop (wpAny M A (call (Value.builtin "str.split") vs) Q E s)) : wpAny M A (call (Value.builtin "str.split") vs) Q E s := h
theorem stopAsg {M : Model} {A : Around} {E : Value → Shared → Prop} {s : Shared} {t : List Expr} {v : Expr} {p : Pos} {env : Env} {Q : Flow → Shared → Prop} (h : Stop (wpAny M A (exec (Stmt.Assign t v p) env) Q E s)) : wpAny M A (exec (Stmt.Assign t v p) env) Q E s := h
theorem stopA {M : Model} {A : Around} {E : Value → Shared → Prop} {s : Shared} {n : Str} {p q : Pos} {v : Expr} {r : List Stmt} {env : Env} {Q : Flow → Shared → Prop} (h : Stop (wpAny M A (execs (Stmt.Assign [Expr.Name n p] v q :: r) env) Q E s)) : wpAny M A (execs (Stmt.Assign [Expr.Name n p] v q :: r) env) Q E s := h
theorem stopIfC {M : Model} {A : Around} {E : Value → Shared → Prop} {s : Shared} {v : Expr} {os : List CmpOp} {es : List Expr} {p q : Pos} {b o r : List Stmt} {env : Env} {Q : Flow → Shared → Prop} (h : Stop (wpAny M A (execs (Stmt.If (Expr.Compare v os es p) b o q :: r) env) Q E s)) : wpAny M A (execs (Stmt.If (Expr.Compare v os es p) b o q :: r) env) Q E s := h
theorem stopIf {M : Model} {A : Around} {E : Value → Shared → Prop} {s : Shared} {v : Expr} {q : Pos} {b o r : List Stmt} {env : Env} {Q : Flow → Shared → Prop} (h : Stop (wpAny M A (execs (Stmt.If v b o q :: r) env) Q E s)) : wpAny M A (execs (Stmt.If v b o q :: r) env) Q E s := h
theorem stopAA {M : Model} {A : Around} {E : Value → Shared → Prop} {s : Shared} {n m : Str} {p q p1 p2 : Pos} {v : Expr} {es : List Expr} {ks : List Keyword} {r : List Stmt} {env : Env} {Q : Flow → Shared → Prop} (h : Stop (wpAny M A (execs (Stmt.Assign [Expr.Name n p] (Expr.Call (Expr.Attribute v m p1) es ks p2) q :: r) env) Q E s)) : wpAny M A (execs (Stmt.Assign [Expr.Name n p] (Expr.Call (Expr.Attribute v m p1) es ks p2) q :: r) env) Q E s := h
theorem stopAN {M : Model} {A : Around} {E : Value → Shared → Prop} {s : Shared} {n m : Str} {p q p1 p2 : Pos} {es : List Expr} {ks : List Keyword} {r : List Stmt} {env : Env} {Q : Flow → Shared → Prop} (h : Stop (wpAny M A (execs (Stmt.Assign [Expr.Name n p] (Expr.Call (Expr.Name m p1) es ks p2) q :: r) env) Q E s)) : wpAny M A (execs (Stmt.Assign [Expr.Name n p] (Expr.Call (Expr.Name m p1) es ks p2) q :: r) env) Q E s := h
theorem stopAL {M : Model} {A : Around} {E : Value → Shared → Prop} {s : Shared} {n : Str} {p q p1 : Pos} {v : Expr} {gs : List Comprehension} {sc : Scope} {r : List Stmt} {env : Env} {Q : Flow → Shared → Prop} (h : Stop (wpAny M A (execs (Stmt.Assign [Expr.Name n p] (Expr.ListComp v gs sc p1) q :: r) env) Q E s)) : wpAny M A (execs (Stmt.Assign [Expr.Name n p] (Expr.ListComp v gs sc p1) q :: r) env) Q E s := h

theorem stopSub {M : Model} {A : Around} {E : Value → Shared → Prop} {s : Shared} {es : List Expr} {p : Pos} {sl : Expr} {v w : Value} {Q : Value → Shared → Prop} (h : Stop (wpAny M A (subscriptTail (Expr.List es p) sl v w) Q E s)) : wpAny M A (subscriptTail (Expr.List es p) sl v w) Q E s := h
theorem stopFor {M : Model} {A : Around} {E : Value → Shared → Prop} {s : Shared} {t i : Expr} {b o : List Stmt} {p : Pos} {env : Env} {Q : Flow → Shared → Prop} (h : Stop (wpAny M A (exec (Stmt.For t i b o p) env) Q E s)) : wpAny M A (exec (Stmt.For t i b o p) env) Q E s := h
theorem stopRev {M : Model} {A : Around} {E : Value → Shared → Prop} {s : Shared} {vs : List Value} {Q : Value → Shared → Prop} (h : Stop (wpAny M A (call (Value.builtin "list.reverse") vs) Q E s)) : wpAny M A (call (Value.builtin "list.reverse") vs) Q E s := h
theorem rlim {dp c k : Nat} (h : dp + c < recursionLimit) (hk : 1 + k ≤ c) : dp + 1 + k < recursionLimit := by omega
theorem clim {un c k : Nat} (h : un + c < cLine) (hk : 3 + k ≤ c) : un + 3 + k < cLine := by omega
theorem om1 {L R : Int} (h0 : 0 ≤ L) (h : L + 1 = R) : R.toNat = L.toNat + 1 := by omega
theorem om2 {L R : Int} (h : L + 1 = R) : (R - L).toNat = 1 := by omega
theorem om3 {L M R : Int} (h1 : L < M) (h2 : M < R) : (M - L).toNat + (R - M).toNat = (R - L).toNat := by omega
theorem om4 {L M : Int} (h0 : 0 ≤ L) (h : L < M) : (M - L).toNat = M.toNat - L.toNat := by omega
theorem om5 {L M : Int} (h0 : 0 ≤ L) (h : L < M) : L.toNat < M.toNat := by omega
theorem om6 {L M : Int} (h0 : 0 ≤ L) (h : L < M) : L.toNat + (M - L).toNat = M.toNat := by omega
theorem om7 {L M R : Int} (h : M = (L + R) / 2) (h1 : L < R) (h2 : ¬ L + 1 = R) : L < M ∧ M < R := by omega
theorem om8 {L : Int} {M : Int} (h0 : 0 ≤ L) (h : L < M) : 0 ≤ M := by omega
theorem om9 {m a : Nat} (h : a < m) : m - a = m - (a + 1) + 1 := by omega
theorem om10 {m a n : Nat} (h : m - a ≤ n + 1) : m - (a + 1) ≤ n := by omega
abbrev arnd (dp : Nat) (fr : Option (List Env)) (gd : Option (List Code)) (un : Nat) : Around := { handled := none, depth := dp, frames := fr, guards := gd, units := un }

def Fin (P : Value → Shared → Prop) (v : Value) (s : Shared) : Prop := P v s

def Kp (h h' : Heap) : Prop := ∀ b o, h.get? b = some o → h'.get? b = some o
theorem Kp.rfl {h : Heap} : Kp h h := fun _ _ e => e
theorem Kp.trans {a b c : Heap} (x : Kp a b) (y : Kp b c) : Kp a c := fun b o e => y b o (x b o e)

theorem led_nil {h : Heap} : ∀ q ∈ ([] : List (Addr × Obj)), h.get? q.1 = some q.2 := fun _ hq => nomatch hq
theorem led_cons {h : Heap} {a : Addr} {o : Obj} {l : List (Addr × Obj)} (e : h.get? a = some o) (r : ∀ q ∈ l, h.get? q.1 = some q.2) : ∀ q ∈ (a, o) :: l, h.get? q.1 = some q.2 := List.forall_mem_cons.mpr ⟨e, r⟩

/-- entering a plain def of the text: the whole heap is the base, nothing on the ledger -/
theorem entP {w : World} {K : Frag} {dp un : Nat} {fr : Option (List Env)} {gd : Option (List Code)} {s : Shared} {Q E : Value → Shared → Prop} {p : Program} {loose : List Str} {mean : ExcName → Option Value} {mg mb : Str → Option Value}
    {name qual : Str} {params : Arguments} {body : List Stmt} {scope : Scope} {dV kV doc pm cdv ct oc : Value} {an od : Option Addr} {osl : Array (Option Value)} {f : Addr} {vs : List Value} {binds : List (Str × Value)}
    (X : K.In s.heap) (T : Top p loose mean mg mb s.heap)
    (ho : K.lookup f = some ⟨oc, od, .func (fnOf name qual params body scope dV kV doc pm an cdv ct), osl⟩) (hcd : codeIn K cdv qual = true) (hroom : dp < recursionLimit)
    (hbind : BindsTo s (fnOf name qual params body scope dV kV doc pm an cdv ct) ⟨vs, []⟩ binds) (hloc : ∀ y ∈ binds, scope.names.lookup y.1 = some .local)
    (hco : scope.isCoroutine = false) (hgen : scope.isGenerator = false) (hk : scope.kind = .function)
    (hcell : ∀ x ∈ scope.names, x.2 ≠ .cell)
    (h : ∀ L' h₁, Fr s.heap L' h₁ (fun y => binds.reverse.lookup y) → News s.heap L' h₁ [] →
      wpAny (model PySem.Challenge.rw_pe0136_01.row.prog w) ((arnd dp fr gd un).deeper (envOf qual scope L' f cdv)) (execs body (envOf qual scope L' f cdv))
        (fun fl s' => Fin Q (match fl with | .ret v => v | _ => .none) s') (fun _ _ => False)
        { s with heap := h₁, toks := s.toks + binds.length }) :
    wpAny (model PySem.Challenge.rw_pe0136_01.row.prog w) (arnd dp fr gd un) (call (.ref f) vs) Q E s := by
  refine wpAny_call ?_
  refine codeAny_call_def (fd := fnOf name qual params body scope dV kV doc pm an cdv ct) (body := body) (binds := binds) hroom (X _ _ ho) rfl T.nolimit (codeRec_of X hcd) rfl hbind hcell hloc (fun h₁ hns hk₁ => ?_) hco hgen hk
  refine wpAny_mono (h s.heap.objs.size h₁ ⟨hns, hk₁, Nat.le_refl _⟩ News.nil) (fun fl s' hl => hl) fun _ _ y => y.elim

/-- entering it with some objects laid aside on the ledger -/
theorem entT {w : World} {K : Frag} {dp un : Nat} {fr : Option (List Env)} {gd : Option (List Code)} {s : Shared} {Q E : Value → Shared → Prop} {p : Program} {loose : List Str} {mean : ExcName → Option Value} {mg mb : Str → Option Value}
    {name qual : Str} {params : Arguments} {body : List Stmt} {scope : Scope} {dV kV doc pm cdv ct oc : Value} {an od : Option Addr} {osl : Array (Option Value)} {f : Addr} {vs : List Value} {binds : List (Str × Value)} {news : List (Addr × Obj)} (gb : Heap)
    (hN : ∀ q ∈ news, s.heap.get? q.1 = some q.2) (hgb : gb = hideAll s.heap (news.map (·.1)))
    (X : K.In gb) (T : Top p loose mean mg mb gb)
    (ho : K.lookup f = some ⟨oc, od, .func (fnOf name qual params body scope dV kV doc pm an cdv ct), osl⟩) (hcd : codeIn K cdv qual = true) (hroom : dp < recursionLimit)
    (hbind : BindsTo s (fnOf name qual params body scope dV kV doc pm an cdv ct) ⟨vs, []⟩ binds) (hloc : ∀ y ∈ binds, scope.names.lookup y.1 = some .local)
    (hco : scope.isCoroutine = false) (hgen : scope.isGenerator = false) (hk : scope.kind = .function)
    (hcell : ∀ x ∈ scope.names, x.2 ≠ .cell)
    (h : ∀ L' h₁, Fr gb L' h₁ (fun y => binds.reverse.lookup y) → News gb L' h₁ news →
      wpAny (model PySem.Challenge.rw_pe0136_01.row.prog w) ((arnd dp fr gd un).deeper (envOf qual scope L' f cdv)) (execs body (envOf qual scope L' f cdv))
        (fun fl s' => Fin Q (match fl with | .ret v => v | _ => .none) s') (fun _ _ => False)
        { s with heap := h₁, toks := s.toks + binds.length }) :
    wpAny (model PySem.Challenge.rw_pe0136_01.row.prog w) (arnd dp fr gd un) (call (.ref f) vs) Q E s := by
  subst hgb
  have kp : Kp (hideAll s.heap (news.map (·.1))) s.heap := fun b o e => of_hideAll _ e
  refine wpAny_call ?_
  refine codeAny_call_def (fd := fnOf name qual params body scope dV kV doc pm an cdv ct) (body := body) (binds := binds) hroom (kp _ _ (X _ _ ho)) rfl (T.nolimit.keeps kp) (codeRec_of (X.keeps kp) hcd) rfl hbind hcell hloc (fun h₁ hns hk₁ => ?_) hco hgen hk
  refine wpAny_mono (h s.heap.objs.size h₁ ⟨hns, fun b o e => hk₁ b o (of_hideAll _ e), Nat.le_of_eq (hideAll_size _ _)⟩ (fun q hq => ⟨hk₁ _ _ (hN q hq), Nat.ne_of_lt (Heap.lt_size (hN q hq)), hideAll_none _ (List.mem_map_of_mem hq)⟩)) (fun fl s' hl => hl) fun _ _ y => y.elim

/-- entering a def that has cells -/
theorem entC {w : World} {K : Frag} {dp un : Nat} {fr : Option (List Env)} {gd : Option (List Code)} {s : Shared} {Q E : Value → Shared → Prop} {p : Program} {loose : List Str} {mean : ExcName → Option Value} {mg mb : Str → Option Value}
    {name qual : Str} {params : Arguments} {body : List Stmt} {scope : Scope} {dV kV doc pm cdv ct oc : Value} {an od : Option Addr} {osl : Array (Option Value)} {f : Addr} {vs : List Value} {binds : List (Str × Value)} {news : List (Addr × Obj)} (gb : Heap)
    (hN : ∀ q ∈ news, s.heap.get? q.1 = some q.2) (hgb : gb = hideAll s.heap (news.map (·.1)))
    (X : K.In gb) (T : Top p loose mean mg mb gb)
    (ho : K.lookup f = some ⟨oc, od, .func (fnOf name qual params body scope dV kV doc pm an cdv ct), osl⟩) (hcd : codeIn K cdv qual = true) (hroom : dp < recursionLimit)
    (hbind : BindsTo s (fnOf name qual params body scope dV kV doc pm an cdv ct) ⟨vs, []⟩ binds) (hkind : (binds.all fun y => scope.names.lookup y.1 == some .local || scope.names.lookup y.1 == some .cell) = true)
    (hnd : ((cellsFrom 0 scope.names []).map (·.1)).Nodup)
    (hco : scope.isCoroutine = false) (hgen : scope.isGenerator = false) (hk : scope.kind = .function)
    (h : ∀ L' h₁ tk cells, Fr gb L' h₁ (bindL (envOfC qual scope L' f cdv).kindOf binds fun _ => none) → News gb L' h₁ (cells ++ news) →
      CellsAre (bindC (envOfC qual scope L' f cdv).kindOf binds fun _ => none) (cellsFrom (L' + 1) scope.names []) cells → (∀ q ∈ news, q.1 < L') →
      wpAny (model PySem.Challenge.rw_pe0136_01.row.prog w) ((arnd dp fr gd un).deeper (envOfC qual scope L' f cdv)) (execs body (envOfC qual scope L' f cdv))
        (fun fl s' => Fin Q (match fl with | .ret v => v | _ => .none) s') (fun _ _ => False)
        { s with heap := h₁, toks := tk }) :
    wpAny (model PySem.Challenge.rw_pe0136_01.row.prog w) (arnd dp fr gd un) (call (.ref f) vs) Q E s := by
  subst hgb
  have kp : Kp (hideAll s.heap (news.map (·.1))) s.heap := fun b o e => of_hideAll _ e
  refine wpAny_call ?_
  refine codeAny_call_function hroom (kp _ _ (X _ _ ho)) rfl hco hgen rfl (codeRec_of (X.keeps kp) hcd) (hbind _ _ _ _ ?_)
  refine wpAny_newFunctionEnv_cells hk (kindsX hkind _) fun env' he s' x => ?_
  subst he
  refine ⟨(T.nolimit.keeps kp).keeps x.toInCall.keep, codeAny_func ?_⟩
  obtain ⟨h₁, tk, rfl, _⟩ := x.done
  have hk₁ := x.toInCall.keep
  obtain ⟨cells, NC, Y⟩ := Cl.news (h₀ := s.heap) (Nat.le_refl _) fun n c hm => ⟨x.cell n c (lookup_of_mem_nodup (cellsFrom_names scope.names 0 (s.heap.objs.size + 1) [] [] rfl ▸ hnd) hm), x.above n c hm⟩
  refine wpAny_mono (h s.heap.objs.size h₁ tk cells ⟨x.toInCall.ns, fun b o e => hk₁ b o (of_hideAll _ e), Nat.le_of_eq (hideAll_size _ _)⟩ (fun q hq => ?_) Y (fun q hq => Heap.lt_size (hN q hq))) (fun fl s' hl => hl) fun _ _ y => y.elim
  rcases List.mem_append.mp hq with hq | hq
  · refine ⟨(NC q hq).1, (NC q hq).2.1, ?_⟩
    cases z : (hideAll s.heap (news.map (·.1))).get? q.1 with
    | none => rfl
    | some o => have := of_hideAll _ z; rw [(NC q hq).2.2] at this; cases this
  · exact ⟨hk₁ _ _ (hN q hq), Nat.ne_of_lt (Heap.lt_size (hN q hq)), hideAll_none _ (List.mem_map_of_mem hq)⟩

/-- entering a def that the call has made: its object is on the ledger -/
theorem entN {w : World} {dp un : Nat} {fr : Option (List Env)} {gd : Option (List Code)} {s : Shared} {Q E : Value → Shared → Prop} {p : Program} {loose : List Str} {mean : ExcName → Option Value} {mg mb : Str → Option Value}
    {name qual : Str} {params : Arguments} {body : List Stmt} {scope : Scope} {cl : List (Str × Addr)} {doc pm ctv : Value} {c' : Addr} {f : Addr} {vs : List Value} {binds : List (Str × Value)} {news : List (Addr × Obj)} (gb : Heap)
    (hN : ∀ q ∈ news, s.heap.get? q.1 = some q.2) (hgb : gb = hideAll s.heap (news.map (·.1))) (T : Top p loose mean mg mb gb)
    (ho : (f, fnMade name qual params body scope cl doc pm c' ctv) ∈ news) (hcd : s.heap.CodeRec (.ref c') qual) (hroom : dp < recursionLimit)
    (hbind : BindsTo s (fnX name qual params body scope cl .none .none doc pm none (.ref c') ctv) ⟨vs, []⟩ binds) (hloc : ∀ y ∈ binds, scope.names.lookup y.1 = some .local)
    (hco : scope.isCoroutine = false) (hgen : scope.isGenerator = false) (hk : scope.kind = .function)
    (hcell : ∀ x ∈ scope.names, x.2 ≠ .cell)
    (h : ∀ L' h₁, Fr gb L' h₁ (fun y => binds.reverse.lookup y) → News gb L' h₁ news → (∀ q ∈ news, q.1 < L') →
      wpAny (model PySem.Challenge.rw_pe0136_01.row.prog w) ((arnd dp fr gd un).deeper (envX qual scope L' f (.ref c') cl)) (execs body (envX qual scope L' f (.ref c') cl))
        (fun fl s' => Fin Q (match fl with | .ret v => v | _ => .none) s') (fun _ _ => False)
        { s with heap := h₁, toks := s.toks + binds.length }) :
    wpAny (model PySem.Challenge.rw_pe0136_01.row.prog w) (arnd dp fr gd un) (call (.ref f) vs) Q E s := by
  subst hgb
  have kp : Kp (hideAll s.heap (news.map (·.1))) s.heap := fun b o e => of_hideAll _ e
  refine wpAny_call ?_
  refine codeAny_call_def (fd := fnX name qual params body scope cl .none .none doc pm none (.ref c') ctv) (body := body) (binds := binds) hroom (hN _ ho) rfl (T.nolimit.keeps kp) hcd rfl hbind hcell hloc (fun h₁ hns hk₁ => ?_) hco hgen hk
  refine wpAny_mono (h s.heap.objs.size h₁ ⟨hns, fun b o e => hk₁ b o (of_hideAll _ e), Nat.le_of_eq (hideAll_size _ _)⟩ (fun q hq => ⟨hk₁ _ _ (hN q hq), Nat.ne_of_lt (Heap.lt_size (hN q hq)), hideAll_none _ (List.mem_map_of_mem hq)⟩) (fun q hq => Heap.lt_size (hN q hq))) (fun fl s' hl => hl) fun _ _ y => y.elim

def KpX (ts : List Addr) (h h' : Heap) : Prop := ∀ b o, h.get? b = some o → b ∉ ts → h'.get? b = some o

theorem kpx {s gb h' : Heap} {L : Addr} {m : Str → Option Value} {news news' : List (Addr × Obj)} {ts : List Addr} (hN : ∀ q ∈ news, s.get? q.1 = some q.2) (hgb : gb = hideAll s (news.map (·.1)))
    (F : Fr gb L h' m) (N : News gb L h' news') (hs : ∀ q ∈ news, q.1 ∈ ts ∨ q ∈ news') : KpX ts s h' := by
  intro b o e hb
  by_cases hm : b ∈ news.map (·.1)
  · obtain ⟨q, hq, rfl⟩ := List.mem_map.mp hm
    have z := hN q hq
    rw [e] at z
    cases z
    rcases hs q hq with h1 | h1
    · exact absurd h1 hb
    · exact (N q h1).1
  · exact F.keep b o (hgb ▸ hideAll_get _ e hm)

theorem kp_hide {g s gb h' : Heap} {as : List Addr} (e : Kp g gb) (hgb : gb = hideAll s as) (F : Kp gb h') : Kp g (hideAll h' as) := fun b o q => by
  have z := e b o q
  refine hideAll_get _ (F b o z) fun hm => ?_
  rw [hgb, hideAll_none _ hm] at z
  cases z
theorem kp_hideN {g gb h' : Heap} {L : Addr} {news : List (Addr × Obj)} {as : List Addr} (e : Kp g gb) (F : Kp gb h') (N : News gb L h' news) (hs : ∀ a ∈ as, ∃ o, (a, o) ∈ news) : Kp g (hideAll h' as) := fun b o q => by
  have z := e b o q
  refine hideAll_get _ (F b o z) fun hm => ?_
  obtain ⟨o', ho'⟩ := hs b hm
  rw [(N _ ho').2.2] at z
  cases z
theorem fresh_of {s gb : Heap} {as : List Addr} {a : Addr} (hgb : gb = hideAll s as) (h : gb.get? a = none) (ha : a ∉ as) : s.get? a = none := by
  cases z : s.get? a with
  | none => rfl
  | some o => rw [hgb, hideAll_get _ z ha] at h; cases h
theorem fr_after {gb h h1 : Heap} {L : Addr} {m : Str → Option Value} {ts : List Addr} (F : Fr gb L h m) (k : KpX ts h h1) (hL : L ∉ ts) (hts : ∀ a ∈ ts, gb.get? a = none) : Fr gb L h1 m := by
  obtain ⟨oL, es, ep, hLo, r⟩ := F.ns
  exact ⟨⟨oL, es, ep, k _ _ hLo hL, r⟩, fun b o e => k b o (F.keep b o e) (fun hm => by rw [hts b hm] at e; cases e), F.above⟩
theorem fr_kp {gb h h1 : Heap} {L : Addr} {m : Str → Option Value} (F : Fr gb L h m) (k : Kp h h1) : Fr gb L h1 m :=
  let ⟨oL, es, ep, hLo, r⟩ := F.ns
  ⟨⟨oL, es, ep, k _ _ hLo, r⟩, fun b o e => k b o (F.keep b o e), F.above⟩
theorem nw_kp {gb h h1 : Heap} {L : Addr} {news : List (Addr × Obj)} (N : News gb L h news) (k : Kp h h1) : News gb L h1 news := fun q hq => ⟨k _ _ (N q hq).1, (N q hq).2⟩
theorem kpx_nil {s gb h' : Heap} {L : Addr} {m : Str → Option Value} {news news' : List (Addr × Obj)} (hN : ∀ q ∈ news, s.get? q.1 = some q.2) (hgb : gb = hideAll s (news.map (·.1)))
    (F : Fr gb L h' m) (N : News gb L h' news') (hs : ∀ q ∈ news, q.1 ∈ ([] : List Addr) ∨ q ∈ news') : Kp s h' := fun b o e => kpx hN hgb F N hs b o e List.not_mem_nil
theorem nw_nil {gb h1 : Heap} {L : Addr} : News gb L h1 [] := News.nil
theorem nw_keep {gb h h1 : Heap} {L a : Addr} {o : Obj} {news l : List (Addr × Obj)} {ts : List Addr} (N : News gb L h news) (k : KpX ts h h1) (hm : (a, o) ∈ news) (ha : a ∉ ts) (r : News gb L h1 l) : News gb L h1 ((a, o) :: l) :=
  List.forall_mem_cons.mpr ⟨⟨k _ _ (N _ hm).1 ha, (N _ hm).2⟩, r⟩
theorem nw_upd {gb h h1 : Heap} {L a : Addr} {o o1 : Obj} {news l : List (Addr × Obj)} (N : News gb L h news) (hm : (a, o) ∈ news) (e : h1.get? a = some o1) (r : News gb L h1 l) : News gb L h1 ((a, o1) :: l) :=
  List.forall_mem_cons.mpr ⟨⟨e, (N _ hm).2⟩, r⟩
theorem nw_new {gb h h1 : Heap} {L a : Addr} {o1 : Obj} {m : Str → Option Value} {l : List (Addr × Obj)} (F : Fr gb L h m) (hn : h.get? a = none) (e : h1.get? a = some o1) (r : News gb L h1 l) : News gb L h1 ((a, o1) :: l) := by
  refine List.forall_mem_cons.mpr ⟨⟨e, fun q => ?_, ?_⟩, r⟩
  · obtain ⟨oL, _, _, hLo, _⟩ := F.ns
    dsimp only at q
    rw [← q, hn] at hLo; cases hLo
  · cases z : gb.get? a with
    | none => rfl
    | some o => have := F.keep _ _ z; rw [hn] at this; cases this

/-- a code table, as it stands or grown by one inner def -/
def TbH (ln cl : Nat) (q : Str) (o : Obj) (c : Addr) (oc : Obj) : Prop :=
  o = tabObj #[rawInt ln, rawInt cl, .ref c] ∧ ∃ vs t, oc.data = .fields vs ∧ vs[1]? = some (.str q t)
def Tb (ln cl : Nat) (q : Str) (o : Obj) (c : Addr) (oc : Obj) : Prop := o = tabObj #[] ∨ TbH ln cl q o c oc
theorem TbH.ne {ln cl : Nat} {q : Str} {o oc : Obj} {c : Addr} (h : TbH ln cl q o c oc) : o ≠ tabObj #[] := fun e => by
  rw [h.1] at e
  cases e

/-- what every call needs of the ground -/
structure Gnd (w : World) (g : Heap) : Prop where
  X : (hd.heap_39 w.params).In g
  T : ∃ p loose mean mg mb, Top p loose mean mg mb g

abbrev tup (vs : List Value) (c : Nat) : Obj := { cls := .type "tuple", data := .seq vs.toArray c }
end Mine
end
section
open PySem PySem.W PySem.Calls PyProof.Rows
namespace Mine

theorem nat_and_high (x k : Nat) : x &&& (x / 2 ^ k * 2 ^ k) = x / 2 ^ k * 2 ^ k := by
  apply Nat.eq_of_testBit_eq
  intro i
  rw [Nat.testBit_and, Nat.testBit_mul_two_pow, Nat.testBit_div_two_pow]
  by_cases h : k ≤ i
  · simp [h]
  · simp [h]

theorem xor_low (x : Int) (hx : 0 ≤ x) (k : Nat) : Builtin.bitXor x (x.fdiv (2 ^ k) * 2 ^ k) = x % 2 ^ k := by
  have hp : (0 : Int) < 2 ^ k := kbt_pos k
  rw [Int.fdiv_eq_ediv_of_nonneg _ (Int.le_of_lt hp), bitXor_and]
  have hy : 0 ≤ x / 2 ^ k * 2 ^ k := Int.mul_nonneg (Int.ediv_nonneg hx (Int.le_of_lt hp)) (Int.le_of_lt hp)
  rw [bitAnd_pp hx hy]
  obtain ⟨n, rfl⟩ := Int.eq_ofNat_of_zero_le hx
  have e : ((n : Int) / 2 ^ k * 2 ^ k) = ((n / 2 ^ k * 2 ^ k : Nat) : Int) := by
    rw [← kbt_cast]; simp
  rw [e]
  simp only [Int.toNat_natCast]
  rw [nat_and_high, ← e]
  have := Int.emod_add_mul_ediv (n : Int) (2 ^ k)
  have c := Int.mul_comm ((n : Int) / 2 ^ k) (2 ^ k)
  rw [c]
  omega

/-- the places L .. R - 1 hold the figures of x to the base 2 ^ n, the others what they held -/
def Dg (n : Nat) (x : Int) (L R : Nat) (ns ns' : List Int) : Prop :=
  ns'.length = ns.length ∧ ∀ i : Nat, ns'.getD i 0 = if L ≤ i ∧ i < R then x / 2 ^ (n * (i - L)) % 2 ^ n else ns.getD i 0

theorem dg_one {n : Nat} {x : Int} {L : Nat} {ns : List Int} (h0 : 0 ≤ x) (h1 : x < 2 ^ n) (hL : L < ns.length) : Dg n x L (L + 1) ns (ns.set L x) := by
  refine ⟨List.length_set .., fun i => ?_⟩
  by_cases h : i = L
  · subst h
    simp only [Nat.le_refl, Nat.lt_succ_self, and_self, if_true, Nat.sub_self, Nat.mul_zero, Int.pow_zero, Int.ediv_one]
    rw [Int.emod_eq_of_lt h0 h1]
    simp [List.getD, List.getElem?_set_self hL]
  · have : ¬ (L ≤ i ∧ i < L + 1) := by omega
    rw [if_neg this]
    simp only [List.getD, List.getElem?_set_ne (Ne.symm h)]

theorem two_pow_ne (k : Nat) : (2 : Int) ^ k ≠ 0 := Int.ne_of_gt (kbt_pos k)

theorem low_part (x : Int) (n m j : Nat) (h : j < m) : (x % 2 ^ (n * m)) / 2 ^ (n * j) % 2 ^ n = x / 2 ^ (n * j) % 2 ^ n := by
  obtain ⟨d, rfl⟩ : ∃ d, m = j + 1 + d := ⟨m - (j + 1), by omega⟩
  have e : (2 : Int) ^ (n * (j + 1 + d)) = 2 ^ (n * j) * (2 ^ n * 2 ^ (n * d)) := by
    rw [← Int.pow_add, ← Int.pow_add]; congr 1; rw [Nat.mul_add, Nat.mul_add, Nat.mul_one]; omega
  have key := Int.emod_add_mul_ediv x (2 ^ (n * (j + 1 + d)))
  have e2 : x = x % 2 ^ (n * (j + 1 + d)) + 2 ^ (n * j) * (2 ^ n * (2 ^ (n * d) * (x / 2 ^ (n * (j + 1 + d))))) := by
    have : 2 ^ (n * j) * (2 ^ n * (2 ^ (n * d) * (x / 2 ^ (n * (j + 1 + d))))) = 2 ^ (n * (j + 1 + d)) * (x / 2 ^ (n * (j + 1 + d))) := by
      rw [show (2 : Int) ^ (n * (j + 1 + d)) * (x / 2 ^ (n * (j + 1 + d))) = (2 ^ (n * j) * (2 ^ n * 2 ^ (n * d))) * (x / 2 ^ (n * (j + 1 + d))) from by rw [← e]]
      simp only [Int.mul_assoc]
    rw [this]; exact key.symm
  generalize x / 2 ^ (n * (j + 1 + d)) = q at e2
  generalize x % 2 ^ (n * (j + 1 + d)) = r at e2
  subst e2
  rw [Int.add_mul_ediv_left _ _ (two_pow_ne _), Int.add_mul_emod_self_left]

theorem dg_join {n : Nat} {x : Int} {L M R : Nat} {ns n1 n2 : List Int} (h1 : L < M) (h2 : M < R)
    (a : Dg n (x % 2 ^ (n * (M - L))) L M ns n1) (b : Dg n (x / 2 ^ (n * (M - L))) M R n1 n2) : Dg n x L R ns n2 := by
  refine ⟨b.1.trans a.1, fun i => ?_⟩
  rw [b.2 i, a.2 i]
  by_cases hb : M ≤ i ∧ i < R
  · rw [if_pos hb, if_pos (by omega)]
    rw [Int.ediv_ediv_of_nonneg (Int.le_of_lt (kbt_pos _)), ← Int.pow_add]
    congr 3
    rw [← Nat.mul_add]; congr 1; omega
  · rw [if_neg hb]
    by_cases ha : L ≤ i ∧ i < M
    · rw [if_pos ha, if_pos (by omega), low_part _ _ _ _ (by omega)]
    · rw [if_neg ha, if_neg (by omega)]

def Lt2 (x : Int) (k : Nat) : Prop := x < 2 ^ k
theorem low_lt (x : Int) (k : Nat) : x % 2 ^ k < 2 ^ k := Int.emod_lt_of_pos _ (kbt_pos k)
theorem low_nn (x : Int) (k : Nat) : 0 ≤ x % 2 ^ k := Int.emod_nonneg _ (two_pow_ne k)
theorem high_lt {x : Int} {a b : Nat} (h : x < 2 ^ (a + b)) : x / 2 ^ a < 2 ^ b := by
  refine Int.ediv_lt_of_lt_mul (kbt_pos a) ?_
  rw [Int.mul_comm, ← Int.pow_add]; exact h
theorem high_nn {x : Int} (a : Nat) (h : 0 ≤ x) : 0 ≤ x / 2 ^ a := Int.ediv_nonneg h (Int.le_of_lt (kbt_pos a))
theorem high_le {x : Int} (a : Nat) (h : 0 ≤ x) : x / 2 ^ a ≤ x := Int.ediv_le_self _ h
theorem low_le {x : Int} (a : Nat) (h : 0 ≤ x) : x % 2 ^ a ≤ x := by
  have e := Int.emod_add_mul_ediv x (2 ^ a)
  have q : 0 ≤ 2 ^ a * (x / 2 ^ a) := Int.mul_nonneg (Int.le_of_lt (kbt_pos a)) (high_nn a h)
  omega

theorem lt2_of_bits {a : Int} {k : Nat} (h0 : 0 ≤ a) (h : Builtin.Int.intBits a ≤ k) : Lt2 a k := by
  have q := intBits_le_iff.mp h
  unfold Lt2
  have : ((a.natAbs : Nat) : Int) < ((2 ^ k : Nat) : Int) := Int.ofNat_lt.mpr q
  rw [kbt_cast] at this
  omega
theorem len_facts {b n q : Int} (hb : 0 ≤ b) (hn : 2 ≤ n) (hq : q = (b + n - 1) / n) : b ≤ n * q ∧ (1 ≤ b → 1 ≤ q) := by
  have e := Int.emod_add_mul_ediv (b + n - 1) n
  have l := Int.emod_lt_of_pos (b + n - 1) (show 0 < n by omega)
  rw [← hq] at e
  refine ⟨by omega, fun h1 => ?_⟩
  rw [hq]
  exact Int.le_ediv_of_mul_le (by omega) (by omega)
theorem bits_pos {a : Int} (h : a ≠ 0) : 1 ≤ Builtin.Int.intBits a := by
  refine Nat.pos_of_ne_zero fun z => ?_
  have := (intBits_le_iff (x := a) (m := 0)).mp (Nat.le_of_eq z)
  simp at this
  exact h this
theorem dg_self {n : Nat} {a : Int} {k : Nat} {ns ns' : List Int} (h : Dg n a 0 k ns ns') (hk : k = ns.length) : Dg n a 0 ns'.length ns' ns' := by
  refine ⟨rfl, fun i => ?_⟩
  by_cases hi : i < ns'.length
  · rw [if_pos ⟨Nat.zero_le _, hi⟩, h.2 i, if_pos ⟨Nat.zero_le _, by rw [hk, ← h.1]; exact hi⟩]
  · rw [if_neg (fun q => hi q.2)]

/-- the figures L, L + 1, .. (k of them) read to the base 2 ^ n -/
def Vl (n : Nat) (ns : List Int) : Nat → Nat → Int
  | _, 0 => 0
  | L, k + 1 => ns.getD L 0 + 2 ^ n * Vl n ns (L + 1) k
theorem vl_split (n : Nat) (ns : List Int) (b : Nat) : ∀ (a L : Nat), Vl n ns L (a + b) = Vl n ns L a + 2 ^ (n * a) * Vl n ns (L + a) b
  | 0, L => by simp [Vl]
  | a + 1, L => by
    rw [show a + 1 + b = (a + b) + 1 from by omega]
    show ns.getD L 0 + 2 ^ n * Vl n ns (L + 1) (a + b) = ns.getD L 0 + 2 ^ n * Vl n ns (L + 1) a + 2 ^ (n * (a + 1)) * Vl n ns (L + (a + 1)) b
    rw [vl_split n ns b a (L + 1), Int.mul_add, ← Int.mul_assoc, ← Int.pow_add, show n + n * a = n * (a + 1) from by rw [Nat.mul_add, Nat.mul_one, Nat.add_comm], show L + 1 + a = L + (a + 1) from by omega]
    omega
theorem vl_nn {n : Nat} {ns : List Int} (h : ∀ i, 0 ≤ ns.getD i 0) : ∀ (k L : Nat), 0 ≤ Vl n ns L k
  | 0, _ => Int.le_refl _
  | k + 1, L => Int.add_nonneg (h L) (Int.mul_nonneg (Int.le_of_lt (kbt_pos n)) (vl_nn h k (L + 1)))
theorem vl_one (n : Nat) (ns : List Int) (L : Nat) : Vl n ns L 1 = ns.getD L 0 := by simp [Vl]
theorem vl_parts {n : Nat} {ns : List Int} (h : ∀ i, 0 ≤ ns.getD i 0) (a b L : Nat) (hb : Vl n ns L (a + b) < 2 ^ 64) : Vl n ns L a < 2 ^ 64 ∧ Vl n ns (L + a) b < 2 ^ 64 := by
  rw [vl_split] at hb
  have h1 := vl_nn (n := n) h a L
  have h2 := vl_nn (n := n) h b (L + a)
  have hp := kbt_pos (n * a)
  have h3 : 1 * Vl n ns (L + a) b ≤ 2 ^ (n * a) * Vl n ns (L + a) b := Int.mul_le_mul_of_nonneg_right (by omega) h2
  rw [Int.one_mul] at h3
  generalize 2 ^ (n * a) * Vl n ns (L + a) b = z at *
  omega
theorem bits_two {b : Int} (h : 2 ≤ b) : 2 ≤ Builtin.Int.intBits b := by
  refine Nat.le_of_not_lt fun z => ?_
  have := (intBits_le_iff (x := b) (m := 1)).mp (by omega)
  omega
theorem bits_le {b : Int} {k : Nat} (h0 : 0 ≤ b) (h : b < 2 ^ k) : Builtin.Int.intBits b ≤ k := by
  refine intBits_le_iff.mpr ?_
  have : ((b.natAbs : Nat) : Int) < ((2 ^ k : Nat) : Int) := by rw [kbt_cast]; omega
  exact Int.ofNat_lt.mp this
theorem lt_bits {b : Int} (h0 : 0 ≤ b) : b < 2 ^ (Builtin.Int.intBits b) := lt2_of_bits h0 (Nat.le_refl _)

/-- the long division, figure by figure from the top -/
def dv (b : Int) (n : Nat) : List Int → Int → List Int → Int × List Int
  | [], r, qs => (r, qs)
  | d :: ds, r, qs => dv b n ds ((r * 2 ^ n + d) % b) (qs ++ [(r * 2 ^ n + d) / b])
theorem dv_bound {r b d : Int} {N : Nat} (hr0 : 0 ≤ r) (hr1 : r < b) (hd0 : 0 ≤ d) (hd1 : d < 2 ^ N) (hb : b < 2 ^ 30) (hN : N ≤ 30) : 0 ≤ r * 2 ^ N + d ∧ r * 2 ^ N + d < 2 ^ 64 ∧ r * 2 ^ N + d < b * 2 ^ N := by
  have hp := kbt_pos N
  have h1 : 0 ≤ r * 2 ^ N := Int.mul_nonneg hr0 (Int.le_of_lt hp)
  have h2 : (r + 1) * 2 ^ N ≤ b * 2 ^ N := Int.mul_le_mul_of_nonneg_right (by omega) (Int.le_of_lt hp)
  rw [Int.add_mul, Int.one_mul] at h2
  have h3 : (2 : Int) ^ N ≤ 2 ^ 30 := by
    have := Nat.pow_le_pow_right (n := 2) (by decide) hN
    rw [← kbt_cast, ← kbt_cast]
    exact Int.ofNat_le.mpr this
  have h4 : b * 2 ^ N ≤ b * 2 ^ 30 := Int.mul_le_mul_of_nonneg_left h3 (by omega)
  refine ⟨by omega, ?_, by omega⟩
  generalize r * 2 ^ N = x at *
  generalize b * 2 ^ N = y at *
  generalize (2 : Int) ^ N = z at *
  omega

def hv (n : Nat) (acc : Int) : List Int → Int
  | [] => acc
  | d :: ds => hv n (acc * 2 ^ n + d) ds
theorem hv_snoc (n : Nat) (d : Int) : ∀ (l : List Int) (acc : Int), hv n acc (l ++ [d]) = hv n acc l * 2 ^ n + d
  | [], _ => rfl
  | x :: l, acc => hv_snoc n d l (acc * 2 ^ n + x)
theorem dv_val {b : Int} (hb : 0 < b) (n : Nat) : ∀ (ds : List Int) (r : Int) (qs : List Int), 0 ≤ r → r < b → (∀ d ∈ ds, 0 ≤ d) →
    hv n (hv n 0 qs * b + r) ds = hv n 0 (dv b n ds r qs).2 * b + (dv b n ds r qs).1 ∧ 0 ≤ (dv b n ds r qs).1 ∧ (dv b n ds r qs).1 < b ∧ (dv b n ds r qs).2.length = qs.length + ds.length ∧ ((∀ q ∈ qs, 0 ≤ q) → ∀ q ∈ (dv b n ds r qs).2, 0 ≤ q)
  | [], r, qs, h0, h1, _ => ⟨rfl, h0, h1, rfl, fun h => h⟩
  | d :: ds, r, qs, h0, h1, hd => by
    have hx : 0 ≤ r * 2 ^ n + d := Int.add_nonneg (Int.mul_nonneg h0 (Int.le_of_lt (kbt_pos n))) (hd d (.head _))
    have ih := dv_val hb n ds ((r * 2 ^ n + d) % b) (qs ++ [(r * 2 ^ n + d) / b]) (Int.emod_nonneg _ (Int.ne_of_gt hb)) (Int.emod_lt_of_pos _ hb) (fun x hx => hd x (.tail _ hx))
    have e : hv n 0 (qs ++ [(r * 2 ^ n + d) / b]) * b + (r * 2 ^ n + d) % b = (hv n 0 qs * b + r) * 2 ^ n + d := by
      rw [hv_snoc, Int.add_mul, Int.add_mul]
      have k := Int.emod_add_mul_ediv (r * 2 ^ n + d) b
      rw [Int.mul_comm b] at k
      have c1 : hv n 0 qs * 2 ^ n * b = hv n 0 qs * b * 2 ^ n := by rw [Int.mul_assoc, Int.mul_comm (2 ^ n) b, ← Int.mul_assoc]
      rw [c1]
      omega
    rw [e] at ih
    refine ⟨ih.1, ih.2.1, ih.2.2.1, ?_, fun hq => ih.2.2.2.2 fun q hm => ?_⟩
    · show (dv b n ds _ _).2.length = _
      rw [ih.2.2.2.1]; simp; omega
    · rcases List.mem_append.mp hm with hm | hm
      · exact hq q hm
      · rw [List.mem_singleton.mp hm]; exact Int.ediv_nonneg hx (Int.le_of_lt hb)
theorem vl_shift (n : Nat) (x : Int) (l : List Int) : ∀ (k L : Nat), Vl n (x :: l) (L + 1) k = Vl n l L k
  | 0, _ => rfl
  | k + 1, L => by
    show (x :: l).getD (L + 1) 0 + 2 ^ n * Vl n (x :: l) (L + 1 + 1) k = l.getD L 0 + 2 ^ n * Vl n l (L + 1) k
    rw [vl_shift n x l k (L + 1)]
    rfl
theorem hv_rev (n : Nat) : ∀ l : List Int, hv n 0 l.reverse = Vl n l 0 l.length
  | [] => rfl
  | x :: l => by
    rw [List.reverse_cons, hv_snoc, hv_rev n l]
    show _ = x + 2 ^ n * Vl n (x :: l) 1 l.length
    rw [vl_shift n x l l.length 0, Int.mul_comm, Int.add_comm]
theorem emod_split (x : Int) (n m : Nat) : x % 2 ^ n + 2 ^ n * (x / 2 ^ n % 2 ^ m) = x % 2 ^ (n + m) := by
  have k1 := Int.emod_add_mul_ediv x (2 ^ n)
  have k2 := Int.emod_add_mul_ediv (x / 2 ^ n) (2 ^ m)
  have h1 := low_lt x n
  have h2 := low_nn x n
  have h3 := low_lt (x / 2 ^ n) m
  have h4 := low_nn (x / 2 ^ n) m
  have key : x % 2 ^ n + 2 ^ n * (x / 2 ^ n % 2 ^ m) + 2 ^ (n + m) * (x / 2 ^ n / 2 ^ m) = x := by
    rw [Int.pow_add, Int.mul_assoc, Int.add_assoc, ← Int.mul_add, k2]
    exact k1
  refine ((Int.ediv_emod_unique (kbt_pos (n + m))).mpr ⟨key, ?_, ?_⟩).2.symm
  · exact Int.add_nonneg h2 (Int.mul_nonneg (Int.le_of_lt (kbt_pos n)) h4)
  · rw [Int.pow_add]
    have : 2 ^ n * (x / 2 ^ n % 2 ^ m + 1) ≤ 2 ^ n * 2 ^ m := Int.mul_le_mul_of_nonneg_left (by omega) (Int.le_of_lt (kbt_pos n))
    rw [Int.mul_add, Int.mul_one] at this
    omega
theorem vl_of_dg {n : Nat} {a : Int} {ns : List Int} (h : Dg n a 0 ns.length ns ns) : ∀ (k L : Nat), L + k ≤ ns.length → Vl n ns L k = a / 2 ^ (n * L) % 2 ^ (n * k)
  | 0, L, _ => by simp [Vl, Int.emod_one]
  | k + 1, L, hk => by
    show ns.getD L 0 + 2 ^ n * Vl n ns (L + 1) k = _
    rw [vl_of_dg h k (L + 1) (by omega), h.2 L, if_pos ⟨Nat.zero_le _, by omega⟩, Nat.sub_zero, Nat.mul_add n L 1, Nat.mul_one, Int.pow_add, ← Int.ediv_ediv_of_nonneg (Int.le_of_lt (kbt_pos _)), emod_split]
    congr 2
    rw [Nat.mul_add, Nat.mul_one, Nat.add_comm]
theorem div_total {a b : Int} {n : Nat} {ns : List Int} (ha : 0 ≤ a) (hb : 0 < b) (h : Dg n a 0 ns.length ns ns) (hlt : Lt2 a (n * ns.length)) (hnn : ∀ d ∈ ns, 0 ≤ d) :
    Vl n (dv b n ns.reverse 0 []).2.reverse 0 ns.length = a / b ∧ (dv b n ns.reverse 0 []).1 = a % b := by
  have k := dv_val hb n ns.reverse 0 [] (Int.le_refl _) hb (fun d hd => hnn d (List.mem_reverse.mp hd))
  have e1 : hv n (hv n 0 [] * b + 0) ns.reverse = a := by
    show hv n (0 * b + 0) ns.reverse = a
    rw [Int.zero_mul, Int.add_zero, hv_rev, vl_of_dg h _ 0 (by omega), Nat.mul_zero, Int.pow_zero, Int.ediv_one]
    exact Int.emod_eq_of_lt ha hlt
  rw [e1] at k
  have hl : (dv b n ns.reverse 0 []).2.reverse.length = ns.length := by
    rw [List.length_reverse, k.2.2.2.1]; simp
  have e2 : hv n 0 (dv b n ns.reverse 0 []).2 = Vl n (dv b n ns.reverse 0 []).2.reverse 0 ns.length := by
    have := hv_rev n (dv b n ns.reverse 0 []).2.reverse
    rw [List.reverse_reverse, hl] at this
    exact this
  rw [e2] at k
  have u := (Int.ediv_emod_unique (a := a) (b := b) (r := (dv b n ns.reverse 0 []).1) (q := Vl n (dv b n ns.reverse 0 []).2.reverse 0 ns.length) hb).mpr ⟨by rw [Int.mul_comm b]; omega, k.2.1, k.2.2.1⟩
  exact ⟨u.1.symm, u.2.symm⟩
theorem ints_snoc {x : Int} {t : Tok} : ∀ {vs : List Value} {ns : List Int}, IntsAre vs ns → IntsAre (vs ++ [.int x t]) (ns ++ [x])
  | _, _, .nil => .cons x t .nil
  | _, _, .cons n u h => .cons n u (ints_snoc h)
theorem ints_rev : ∀ {vs : List Value} {ns : List Int}, IntsAre vs ns → IntsAre vs.reverse ns.reverse
  | _, _, .nil => .nil
  | _, _, .cons n u h => by rw [List.reverse_cons, List.reverse_cons]; exact ints_snoc (ints_rev h)
theorem dg_mem {n : Nat} {a : Int} {ns : List Int} (h : Dg n a 0 ns.length ns ns) : ∀ d ∈ ns, 0 ≤ d ∧ d < 2 ^ n := fun d hd => by
  obtain ⟨i, hi, rfl⟩ := List.getElem_of_mem hd
  have e := h.2 i
  rw [if_pos ⟨Nat.zero_le _, hi⟩] at e
  have e2 : ns.getD i 0 = ns[i] := by simp [List.getD, hi]
  rw [e2] at e
  rw [e]
  exact ⟨low_nn _ _, low_lt _ _⟩
theorem getD_nn {ns : List Int} (h : ∀ d ∈ ns, 0 ≤ d) (i : Nat) : 0 ≤ ns.getD i 0 := by
  by_cases hi : i < ns.length
  · have e2 : ns.getD i 0 = ns[i] := by simp [List.getD, hi]
    rw [e2]; exact h _ (List.getElem_mem hi)
  · have e2 : ns.getD i 0 = 0 := by simp [List.getD, Nat.le_of_not_lt hi]
    rw [e2]; exact Int.le_refl _
end Mine
end
section
open PySem PySem.W PySem.Calls PyProof.Rows Mine
local macro_rules | `(tactic| walk_at "ite") => `(tactic| first | refine iteT (by law_clear; omega) ?_ | refine iteF (by law_clear; omega) ?_)
section
open PySem PySem.W PySem.Calls PyProof.Rows
namespace Mine

def bodyAt (i : Nat) : List Stmt := match (PySem.Challenge.pw_pe0136_01.main.body)[i]? with
  | some (.FunctionDef _ _ b _ _ _ _ _ _ _) => b
  | _ => []
def defAt (l : List Stmt) (i : Nat) : Arguments × List Stmt × Scope := match l[i]? with
  | some (.FunctionDef _ ps b _ _ _ sc _ _ _) => (ps, b, sc)
  | _ => (default, [], default)
def iPs : Arguments := (defAt (bodyAt 4) 1).1
def iBody : List Stmt := (defAt (bodyAt 4) 1).2.1
def iSc : Scope := (defAt (bodyAt 4) 1).2.2
abbrev cell (v : Value) : Data := .cell (some v)



theorem c_inner35 : ∀ (w : World) (g : Heap) (_ : Gnd w g) (f D cn ca ci c' : Addr) (on oa oi oc : Obj) (vc : Array Value) (tq : Tok) (q : Str) (n : Int) (tn : Tok) (doc pm ctv : Value),
    (hd.heap_39 w.params).In g → oc.data = .fields vc → vc[1]? = some (.str q tq) → oi.data = cell (.ref f) → oa.data = cell (.ref D) → on.data = cell (.int n tn) →
    cn < ca → ca < ci → ci < D → c' ≠ D → D < f → 2 ≤ n → n ≤ 30 →
    ∀ (k : Nat) (dp un : Nat) (fr : Option (List Env)) (gd : Option (List Code)) (s : Shared) (Q E : Value → Shared → Prop) (x L R : Int) (tx tL tR : Tok) (vs : List Value) (ns : List Int),
    Kp g (hideAll s.heap [f, c', D, ci, ca, cn]) →
    s.heap.get? f = some (fnMade (Str.ofString "inner") q iPs iBody iSc [(Str.ofString "n", cn), (Str.ofString "inner", ci), (Str.ofString "a_digits", ca)] doc pm c' ctv) →
    s.heap.get? c' = some oc → s.heap.get? D = some (W.listOf vs.toArray 0) → s.heap.get? ci = some oi → s.heap.get? ca = some oa → s.heap.get? cn = some on → IntsAre vs ns →
    0 ≤ x → x < 2 ^ 64 → Lt2 x (n.toNat * (R - L).toNat) → 0 ≤ L → L < R → R ≤ ns.length → ns.length ≤ 64 → R - L ≤ k → dp + k + 1 < recursionLimit → un + 8 * k + 8 < cLine →
    (∀ h' tk vs' ns', KpX [D] s.heap h' → h'.get? D = some (W.listOf vs'.toArray 0) → IntsAre vs' ns' → Dg n.toNat x L.toNat R.toNat ns ns' → Q .none { s with heap := h', toks := tk }) →
    wpAny (model PySem.Challenge.rw_pe0136_01.row.prog w) (arnd dp fr gd un) (call (.ref f) [.int x tx, .int L tL, .int R tR]) Q E s := by
  w_top off
  k_fill
  intro w g G f D cn ca ci c' on oa oi oc vc tq q n tn doc pm ctv _ dc1 dc2 di da dn l1 l2 l3 l4 l5 hn0 hn1
  replace l1 := ltN l1
  replace l2 := ltN l2
  replace l3 := ltN l3
  replace l4 := neN l4
  replace l5 := ltN l5
  obtain ⟨X0, p, loose, mean, mg, mb, T0⟩ := G
  intro k
  induction k with
  | zero => intros; omega
  | succ k IH =>
  intro dp un fr gd s Q E x L R tx tL tR vs ns e sf sc' sD si sa sn hI hx0 hx1 hx2 hL0 hLR hR hvs hk hdp hun ret
  obtain ⟨gb, hgb⟩ : ∃ gb, gb = hideAll s.heap [f, c', D, ci, ca, cn] := ⟨_, rfl⟩
  rw [← hgb] at e
  have X := X0.keeps e
  have T := T0.keeps e
  have sf0 := sf
  dsimp only [iPs, iBody, iSc, defAt, bodyAt, PySem.Challenge.pw_pe0136_01, List.getElem?_cons_succ, List.getElem?_cons_zero] at sf
  have hcd : s.heap.CodeRec (.ref c') q := ⟨c', oc, vc, tq, rfl, sc', dc1, dc2⟩
  have C : CodeHd gb 34 30 := codeHd_of_K (c := 34) (P := 30) X (by kernel_rfl)
  have hN := led_cons sf (led_cons sc' (led_cons sD (led_cons si (led_cons sa (led_cons sn led_nil)))))
  by_cases hb : L + 1 = R
  · k_dflt (refine' entN gb hN hgb ?k5 ?k6 ?k7 ?k8 ?k9 ?kB ?c2 ?c3 ?c4 ?c5 ?_; (case k5 => k_asm); (case k6 => exact List.Mem.head _); (case k7 => exact hcd); (case k8 => omega); (case k9 => exact BindsTo.of_eq rfl); (case c5 => decide); (case kB => exact locs rfl);  (case c2 => exact rfl); (case c3 => exact rfl); (case c4 => exact rfl); k_whole; intro L' h' F' N' l9; (try k_lt l9); (try dsimp only); (try k_fold))
    clear IH sf sf0
    k_steps
    (rename News _ _ _ _ => N9); (rename Fr _ _ _ _ => F9); (rename IntsAre _ _ => I9)
    (try dsimp only)
    refine ret _ _ _ _ (kpx hN hgb F9 N9 (by (repeat' (first | exact List.forall_mem_nil _ | refine List.forall_mem_cons.mpr ⟨?_, ?_⟩ | exact Or.inl (by k_mem) | exact Or.inr (by k_mem))))) (N9.get (by k_mem)) I9 ?_
    have e1 : R.toNat = L.toNat + 1 := om1 hL0 hb
    rw [e1]
    refine dg_one hx0 ?_ (by omega)
    have e2 : (R - L).toNat = 1 := om2 hb
    rw [e2, Nat.mul_one] at hx2
    exact hx2
  · have hp2 : ((2 : Int) ^ Int.toNat 1) = 2 := rfl
    obtain ⟨M, hM⟩ : ∃ M, (L + R).fdiv (2 ^ Int.toNat 1) = M := ⟨_, rfl⟩
    have hM2 : M = (L + R) / 2 := by rw [← hM, hp2, Int.fdiv_eq_ediv_of_nonneg _ (by omega)]
    have hM3 : L < M ∧ M < R := om7 hM2 hLR hb
    have hs0 : 0 ≤ (M - L) * n := Int.mul_nonneg (by omega) (by omega)
    have hs1 : (M - L) * n ≤ 1920 := by
      have := Int.mul_le_mul (show M - L ≤ 64 by omega) hn1 (by omega) (by omega)
      omega
    obtain ⟨k2, hk2⟩ : ∃ k2, ((M - L) * n).toNat = k2 := ⟨_, rfl⟩
    have hup : (x.fdiv (2 ^ k2)).natAbs < 2 ^ 64 := by
      rw [Int.fdiv_eq_ediv_of_nonneg _ (Int.le_of_lt (kbt_pos _))]
      have := high_nn k2 hx0
      have := high_le k2 hx0
      omega
    rw [← hk2] at hup
    rw [← hM] at hs0 hs1 hup
    k_dflt (refine' entN gb hN hgb ?k5 ?k6 ?k7 ?k8 ?k9 ?kB ?c2 ?c3 ?c4 ?c5 ?_; (case k5 => k_asm); (case k6 => exact List.Mem.head _); (case k7 => exact hcd); (case k8 => omega); (case k9 => exact BindsTo.of_eq rfl); (case c5 => decide); (case kB => exact locs rfl);  (case c2 => exact rfl); (case c3 => exact rfl); (case c4 => exact rfl); k_whole; intro L' h' F' N' l9; (try k_lt l9); (try dsimp only); (try k_fold))
    k_steps
    (rename News _ _ _ _ => N9); (rename Fr _ _ _ _ => F9)
    (try dsimp only)
    have kp9 := kpx (ts := []) hN hgb F9 N9 (by (repeat' (first | exact List.forall_mem_nil _ | refine List.forall_mem_cons.mpr ⟨?_, ?_⟩ | exact Or.inl (by k_mem) | exact Or.inr (by k_mem))))
    have hnm : ∀ a ∈ [D], gb.get? a = none := fun a ha => by
      rw [List.mem_singleton.mp ha]; exact (N9 _ (.tail _ (.tail _ (.head _)))).2.2
    rw [hM, hk2, xor_low x hx0]
    rw [hM, hk2] at F9
    have hk3 : k2 = n.toNat * (M - L).toNat := by
      rw [← hk2, Int.toNat_mul (by omega) (by omega), Nat.mul_comm]
    refine IH _ _ _ _ _ _ _ _ _ _ _ _ _ vs ns (kp_hide e hgb F9.keep) (kp9 _ _ sf0 List.not_mem_nil) (N9.get (by k_mem)) (N9.get (by k_mem)) (N9.get (by k_mem)) (N9.get (by k_mem)) (N9.get (by k_mem)) hI (low_nn _ _) ?_ ?_ hL0 hM3.1 (by omega) hvs (by omega) ?_ ?_ ?_
    · have := low_le k2 hx0
      omega
    · rw [hk3]; exact low_lt _ _
    · show dp + 1 + k + 1 < recursionLimit
      omega
    · show un + 3 + 8 * k + 8 < cLine
      omega
    intro h1 tk1 vs1 ns1 kp1 sD1 I1 dg1
    have ne1 : ∀ {a : Nat}, a ≠ D → a ∉ [D] := fun h hm => h (List.mem_singleton.mp hm)
    have F2 := fr_after F9 kp1 (ne1 (by omega)) hnm
    have N2 := nw_keep N9 kp1 (.head _) (ne1 (by omega)) (nw_keep N9 kp1 (.tail _ (.head _)) (ne1 (by omega)) (nw_upd N9 (.tail _ (.tail _ (.head _))) sD1 (nw_keep N9 kp1 (.tail _ (.tail _ (.tail _ (.head _)))) (ne1 (by omega)) (nw_keep N9 kp1 (.tail _ (.tail _ (.tail _ (.tail _ (.head _))))) (ne1 (by omega)) (nw_keep N9 kp1 (.tail _ (.tail _ (.tail _ (.tail _ (.tail _ (.head _)))))) (ne1 (by omega)) nw_nil)))))
    clear F9 N9
    (try dsimp only)
    k_steps
    have kp12 : KpX [D] s.heap h1 := fun b o e hb => kp1 b o (kp9 b o e List.not_mem_nil) hb
    rw [Int.fdiv_eq_ediv_of_nonneg _ (Int.le_of_lt (kbt_pos k2))]
    refine IH _ _ _ _ _ _ _ _ _ _ _ _ _ vs1 ns1 (kp_hide e hgb F2.keep) (kp12 _ _ sf0 (ne1 (by omega))) (N2.get (by k_mem)) (N2.get (by k_mem)) (N2.get (by k_mem)) (N2.get (by k_mem)) (N2.get (by k_mem)) I1 (high_nn _ hx0) ?_ ?_ (by omega) hM3.2 (by rw [dg1.1]; exact hR) (by rw [dg1.1]; exact hvs) (by omega) ?_ ?_ ?_
    · have := high_le k2 hx0
      omega
    · refine high_lt ?_
      rw [hk3, ← Nat.mul_add, show (M - L).toNat + (R - M).toNat = (R - L).toNat from om3 hM3.1 hM3.2]
      exact hx2
    · show dp + 1 + k + 1 < recursionLimit
      omega
    · show un + 3 + 8 * k + 8 < cLine
      omega
    intro h2 tk2 vs2 ns2 kp2 sD2 I2 dg2
    k_steps
    (try dsimp only)
    refine ret _ _ _ _ (fun b o e hb => kp2 b o (kp12 b o e hb) hb) sD2 I2 ?_
    rw [hk3, show (M - L).toNat = M.toNat - L.toNat from om4 hL0 hM3.1] at dg1 dg2
    exact dg_join (om5 hL0 hM3.1) (om5 (om8 hL0 hM3.1) hM3.2) dg1 dg2
end Mine
end
section
open PySem PySem.W PySem.Calls PyProof.Rows
namespace Mine

def q35 : Str := Str.ofString "_int2digits" ++ Str.ofString ".<locals>." ++ Str.ofString "inner"


theorem c_int2digits : ∀ (w : World) (g : Heap) (_ : Gnd w g) (dp un : Nat) (fr : Option (List Env)) (gd : Option (List Code)) (s : Shared) (Q E : Value → Shared → Prop) (a n : Int) (ta tn : Tok) (c : Addr) (o oc : Obj),
    (hd.heap_39 w.params).In g → Kp g s.heap → g.get? 30 = none → g.get? c = none → s.heap.get? 30 = some o → s.heap.get? c = some oc → Tb 32 4 q35 o c oc → 0 ≤ a → a < 2 ^ 64 → 2 ≤ n → n ≤ 30 → dp + 80 < recursionLimit → un + 700 < cLine →
    (∀ D h' tk vs ns c' o' oc', KpX [30] s.heap h' → s.heap.get? D = none → h'.get? D = some (W.listOf vs.toArray 0) → IntsAre vs ns → (ns.length : Int) = ((Builtin.Int.intBits a : Int) + n - 1) / n → Dg n.toNat a 0 ns.length ns ns →
      h'.get? 30 = some o' → h'.get? c' = some oc' → TbH 32 4 q35 o' c' oc' → (c' = c ∧ oc' = oc ∨ s.heap.get? c' = none ∧ o = tabObj #[]) → Q (.ref D) { s with heap := h', toks := tk }) →
    wpAny (model PySem.Challenge.rw_pe0136_01.row.prog w) (arnd dp fr gd un) (call (.ref 35) [.int a ta, .int n tn]) Q E s := by
  w_top off
  k_fill
  intro w g G dp un fr gd s Q E a n ta tn c o oc _ e h30 hc0 s30 sc hTb ha0 ha1 hn0 hn1 hdp hun ret
  have G0 := G
  obtain ⟨X0, p, loose, mean, mg, mb, T0⟩ := G
  have hbit : Builtin.Int.intBits a ≤ 64 := intBits_le_64 (by omega) (by omega)
  have hq0 : 0 ≤ Int.fdiv ((Builtin.Int.intBits a : Int) + n - 1) n := by
    rw [Int.fdiv_eq_ediv_of_nonneg _ (by omega)]; exact Int.ediv_nonneg (by omega) (by omega)
  have hq1 : Int.fdiv ((Builtin.Int.intBits a : Int) + n - 1) n ≤ 64 := by
    rw [Int.fdiv_eq_ediv_of_nonneg _ (by omega)]
    refine Int.le_of_lt_add_one (Int.ediv_lt_of_lt_mul (by omega) ?_)
    have : (64 + 1) * 2 ≤ (64 + 1) * n := Int.mul_le_mul_of_nonneg_left hn0 (by omega)
    omega
  have hql0 : Int.fdiv ((Builtin.Int.intBits a : Int) + n - 1) n = ((Builtin.Int.intBits a : Int) + n - 1) / n := Int.fdiv_eq_ediv_of_nonneg _ (by omega)
  have hql := len_facts (b := (Builtin.Int.intBits a : Int)) (n := n) (by omega) hn0 rfl
  rcases hTb with rfl | ⟨rfl, vc, tq, dc1, dc2⟩
  · obtain ⟨gb, hgb⟩ : ∃ gb, gb = hideAll s.heap [30] := ⟨_, rfl⟩
    have e' : Kp g gb := fun b o q => by
      rw [hgb]
      exact hideAll_get _ (e b o q) (fun hm => by rw [List.mem_singleton.mp hm, h30] at q; cases q)
    have X := X0.keeps e'
    have T := T0.keeps e'
    have C : CodeHd gb 34 30 := codeHd_of_K (c := 34) (P := 30) X (by kernel_rfl)
    have hN := led_cons s30 led_nil
    k_dflt (refine' entC gb hN hgb ?k3 ?k5 ?k6 ?k7 ?k8 ?k9 ?kB ?kD ?c2 ?c3 ?c4 ?_; (case k3 => k_asm); (case k5 => k_asm); (case k6 => k_is); (case k7 => k_is); (case k8 => omega); (case k9 => exact BindsTo.of_eq rfl); (case kB => exact rfl); (case kD => decide +kernel); (case c2 => exact rfl); (case c3 => exact rfl); (case c4 => exact rfl); k_whole; intro L' h' tk' cells' F' N' Y' l1; (try k_lt l1); k_cells Y'; (try simp only [List.cons_append, List.nil_append] at N'); (try dsimp only); (try k_fold))
    k_steps
    · (rename News _ _ _ _ => N9); (rename Fr _ _ _ _ => F9); (rename IntsAre _ _ => I9)
      (try dsimp only)
      (rename List.length (List.flatten _) = _ => hl1)
      (rename (0 ≤ Int.fdiv _ _ → _) => hl3)
      subst hl1
      have hlen := hl3 hq0
      rw [show (((0 + 1 : Nat)) : Int) = 1 from rfl, Int.one_mul] at hlen
      have kp9 := kpx (ts := [30]) hN hgb F9 N9 (by (repeat' (first | exact List.forall_mem_nil _ | refine List.forall_mem_cons.mpr ⟨?_, ?_⟩ | exact Or.inl (by k_mem) | exact Or.inr (by k_mem))))
      refine' c_inner35 w g G0 _ _ _ _ _ _ _ _ _ _ _ _ _ n _ _ _ _ X0 (by assumption) (by assumption) ?di ?da ?dn ?l1 ?l2 ?l3 ?l4 ?l5 hn0 hn1 64 _ _ _ _ _ _ _ _ _ _ _ _ _ _ _ ?kp (N9.get (by k_mem)) (N9.get (by k_mem)) (N9.get (by k_mem)) (N9.get (by k_mem)) (N9.get (by k_mem)) (N9.get (by k_mem)) I9 ha0 ha1 ?lt (by omega) ?lr ?r1 ?r2 ?r3 ?r4 ?r5 ?_
      case di => assumption
      case da => assumption
      case dn => assumption
      case l1 => exact ltN (by omega)
      case l2 => exact ltN (by omega)
      case l3 => exact ltN (by omega)
      case l4 => exact neN (by omega)
      case l5 => exact ltN (by omega)
      case kp => exact kp_hideN e' F9.keep N9 (by (repeat' (first | exact List.forall_mem_nil _ | refine List.forall_mem_cons.mpr ⟨⟨_, by k_mem⟩, ?_⟩)))
      case lt =>
        refine lt2_of_bits ha0 ?_
        refine Int.ofNat_le.mp (Int.le_trans hql.1 (Int.le_of_eq ?_))
        rw [Int.natCast_mul, Int.toNat_of_nonneg (by omega), Int.toNat_of_nonneg (by omega), Int.sub_zero, hlen, hql0]
      case lr => have := hql.2 (by have := bits_pos (a := a) (by assumption); omega); omega
      case r1 => omega
      case r2 => omega
      case r3 => omega
      case r4 =>
        show dp + 1 + 65 < recursionLimit
        exact rlim hdp (by decide)
      case r5 =>
        show un + 3 + 520 < cLine
        exact clim hun (by decide)
      intro h1 tk1 vs1 ns1 kp1 sD1 I1 dg1
      (try dsimp only)
      (try dsimp only at kp1)
      have mD := N9 _ (.tail _ (.tail _ (.head _)))
      have sD0 := fresh_of hgb mD.2.2 (fun hm => absurd (List.mem_singleton.mp hm) (neN (by dsimp only; omega)))
      have F2 := fr_after F9 kp1 (fun hm => absurd (List.mem_singleton.mp hm) (Ne.symm mD.2.1)) (fun a ha => by rw [List.mem_singleton.mp ha]; exact mD.2.2)
      have N2 := nw_keep N9 kp1 (.tail _ (.head _)) (fun hm => absurd (List.mem_singleton.mp hm) (neN (by omega))) (nw_upd N9 (.tail _ (.tail _ (.head _))) sD1 (nw_keep N9 kp1 (.tail _ (.tail _ (.tail _ (.tail _ (.head _))))) (fun hm => absurd (List.mem_singleton.mp hm) (neN (by omega))) (nw_keep N9 kp1 (.tail _ (.tail _ (.tail _ (.tail _ (.tail _ (.head _)))))) (fun hm => absurd (List.mem_singleton.mp hm) (neN (by omega))) (nw_keep N9 kp1 (.tail _ (.tail _ (.tail _ (.tail _ (.tail _ (.tail _ (.head _))))))) (fun hm => absurd (List.mem_singleton.mp hm) (neN (by omega))) (nw_keep N9 kp1 (.tail _ (.tail _ (.tail _ (.tail _ (.tail _ (.tail _ (.tail _ (.head _)))))))) (fun hm => absurd (List.mem_singleton.mp hm) (neN (by omega))) nw_nil)))))
      have mc := N9 _ (.tail _ (.head _))
      have sc0 := fresh_of hgb mc.2.2 (fun hm => absurd (List.mem_singleton.mp hm) (neN (by dsimp only; omega)))
      clear F9 N9
      k_steps
      (try dsimp only)
      refine ret _ _ _ vs1 ns1 _ _ _ (fun b o e hb => kp1 b o (kp9 b o e hb) (fun hm => by rw [List.mem_singleton.mp hm] at e; rw [sD0] at e; cases e)) sD0 sD1 I1 ?_ ?_ (N2.get (by k_mem)) (N2.get (.head _)) ⟨rfl, _, _, by assumption, by assumption⟩ (.inr ⟨sc0, rfl⟩)
      · rw [dg1.1, hlen, hql0]
      · exact dg_self dg1 (Int.toNat_natCast _)
    · (rename News _ _ _ _ => N9); (rename Fr _ _ _ _ => F9); (rename IntsAre _ _ => I9)
      (try dsimp only)
      (rename List.length (List.flatten _) = _ => hl1)
      (rename (0 ≤ Int.fdiv _ _ → _) => hl3)
      subst hl1
      have hlen := hl3 hq0
      rw [show (((0 + 1 : Nat)) : Int) = 1 from rfl, Int.one_mul] at hlen
      have hz0 : Int.fdiv ((Builtin.Int.intBits a : Int) + n - 1) n = 0 := by
        (rename a = 0 => hz)
        rw [hql0, show Builtin.Int.intBits a = 0 from by rw [hz]; rfl]
        exact Int.ediv_eq_zero_of_lt (by omega) (by omega)
      have kp9 := kpx (ts := [30]) hN hgb F9 N9 (by (repeat' (first | exact List.forall_mem_nil _ | refine List.forall_mem_cons.mpr ⟨?_, ?_⟩ | exact Or.inl (by k_mem) | exact Or.inr (by k_mem))))
      have mD := N9 _ (.tail _ (.tail _ (.head _)))
      have sD0 := fresh_of hgb mD.2.2 (fun hm => absurd (List.mem_singleton.mp hm) (neN (by dsimp only; omega)))
      have mc := N9 _ (.tail _ (.head _))
      have sc0 := fresh_of hgb mc.2.2 (fun hm => absurd (List.mem_singleton.mp hm) (neN (by dsimp only; omega)))
      refine ret _ _ _ _ _ _ _ _ kp9 sD0 mD.1 I9 ?_ ?_ (N9.get (by k_mem)) (N9.get (.tail _ (.head _))) ⟨rfl, _, _, by assumption, by assumption⟩ (.inr ⟨sc0, rfl⟩)
      · rw [hlen, hql0]
      · have hl0 : (List.replicate (Int.fdiv ((Builtin.Int.intBits a : Int) + n - 1) n).toNat [(0 : Int)]).flatten.length = 0 := by omega
        exact ⟨rfl, fun i => by rw [if_neg (fun q => by omega)]⟩
  · have hc30 : c ≠ 30 := fun q => by
      rw [q, s30] at sc
      cases sc
      cases dc1
      cases dc2
    replace hc30 := neN hc30
    obtain ⟨gb, hgb⟩ : ∃ gb, gb = hideAll s.heap [30, c] := ⟨_, rfl⟩
    have e' : Kp g gb := fun b o q => by
      rw [hgb]
      exact hideAll_get _ (e b o q) (fun hm => by
        rcases List.mem_cons.mp hm with z | z
        · rw [z, h30] at q; cases q
        · rw [List.mem_singleton.mp z, hc0] at q; cases q)
    have X := X0.keeps e'
    have T := T0.keeps e'
    have C : CodeHd gb 34 30 := codeHd_of_K (c := 34) (P := 30) X (by kernel_rfl)
    have hN := led_cons s30 (led_cons sc led_nil)
    have two : ∀ {a : Nat}, a ≠ 30 → a ≠ c → a ∉ [30, c] := fun h1 h2 hm => (List.mem_cons.mp hm).elim h1 fun z => h2 (List.mem_singleton.mp z)
    k_dflt (refine' entC gb hN hgb ?k3 ?k5 ?k6 ?k7 ?k8 ?k9 ?kB ?kD ?c2 ?c3 ?c4 ?_; (case k3 => k_asm); (case k5 => k_asm); (case k6 => k_is); (case k7 => k_is); (case k8 => omega); (case k9 => exact BindsTo.of_eq rfl); (case kB => exact rfl); (case kD => decide +kernel); (case c2 => exact rfl); (case c3 => exact rfl); (case c4 => exact rfl); k_whole; intro L' h' tk' cells' F' N' Y' l1; (try k_lt l1); k_cells Y'; (try simp only [List.cons_append, List.nil_append] at N'); (try dsimp only); (try k_fold))
    k_steps
    · (rename News _ _ _ _ => N9); (rename Fr _ _ _ _ => F9); (rename IntsAre _ _ => I9)
      (try dsimp only)
      (rename List.length (List.flatten _) = _ => hl1)
      (rename (0 ≤ Int.fdiv _ _ → _) => hl3)
      subst hl1
      have hlen := hl3 hq0
      rw [show (((0 + 1 : Nat)) : Int) = 1 from rfl, Int.one_mul] at hlen
      have kp9 := kpx (ts := [30]) hN hgb F9 N9 (by (repeat' (first | exact List.forall_mem_nil _ | refine List.forall_mem_cons.mpr ⟨?_, ?_⟩ | exact Or.inl (by k_mem) | exact Or.inr (by k_mem))))
      refine' c_inner35 w g G0 _ _ _ _ _ _ _ _ _ _ _ _ _ n _ _ _ _ X0 dc1 dc2 ?di ?da ?dn ?l1 ?l2 ?l3 ?l4 ?l5 hn0 hn1 64 _ _ _ _ _ _ _ _ _ _ _ _ _ _ _ ?kp (N9.get (by k_mem)) (N9.get (by k_mem)) (N9.get (by k_mem)) (N9.get (by k_mem)) (N9.get (by k_mem)) (N9.get (by k_mem)) I9 ha0 ha1 ?lt (by omega) ?lr ?r1 ?r2 ?r3 ?r4 ?r5 ?_
      case di => assumption
      case da => assumption
      case dn => assumption
      case l1 => exact ltN (by omega)
      case l2 => exact ltN (by omega)
      case l3 => exact ltN (by omega)
      case l4 => exact neN (by omega)
      case l5 => exact ltN (by omega)
      case kp => exact kp_hideN e' F9.keep N9 (by (repeat' (first | exact List.forall_mem_nil _ | refine List.forall_mem_cons.mpr ⟨⟨_, by k_mem⟩, ?_⟩)))
      case lt =>
        refine lt2_of_bits ha0 ?_
        refine Int.ofNat_le.mp (Int.le_trans hql.1 (Int.le_of_eq ?_))
        rw [Int.natCast_mul, Int.toNat_of_nonneg (by omega), Int.toNat_of_nonneg (by omega), Int.sub_zero, hlen, hql0]
      case lr => have := hql.2 (by have := bits_pos (a := a) (by assumption); omega); omega
      case r1 => omega
      case r2 => omega
      case r3 => omega
      case r4 =>
        show dp + 1 + 65 < recursionLimit
        exact rlim hdp (by decide)
      case r5 =>
        show un + 3 + 520 < cLine
        exact clim hun (by decide)
      intro h1 tk1 vs1 ns1 kp1 sD1 I1 dg1
      (try dsimp only)
      (try dsimp only at kp1)
      have mD := N9 _ (.tail _ (.head _))
      have sD0 := fresh_of hgb mD.2.2 (two (neN (by dsimp only; omega)) (neN (by dsimp only; omega)))
      have F2 := fr_after F9 kp1 (fun hm => absurd (List.mem_singleton.mp hm) (Ne.symm mD.2.1)) (fun a ha => by rw [List.mem_singleton.mp ha]; exact mD.2.2)
      have N2 := nw_upd N9 (.tail _ (.head _)) sD1 (nw_keep N9 kp1 (.tail _ (.tail _ (.tail _ (.head _)))) (fun hm => absurd (List.mem_singleton.mp hm) (neN (by omega))) (nw_keep N9 kp1 (.tail _ (.tail _ (.tail _ (.tail _ (.head _))))) (fun hm => absurd (List.mem_singleton.mp hm) (neN (by omega))) (nw_keep N9 kp1 (.tail _ (.tail _ (.tail _ (.tail _ (.tail _ (.head _)))))) (fun hm => absurd (List.mem_singleton.mp hm) (neN (by omega))) (nw_keep N9 kp1 (.tail _ (.tail _ (.tail _ (.tail _ (.tail _ (.tail _ (.head _))))))) (fun hm => absurd (List.mem_singleton.mp hm) (neN (by omega))) (nw_keep N9 kp1 (.tail _ (.tail _ (.tail _ (.tail _ (.tail _ (.tail _ (.tail _ (.head _)))))))) (fun hm => absurd (List.mem_singleton.mp hm) (neN (by omega))) nw_nil)))))
      clear F9 N9
      k_steps
      (try dsimp only)
      refine ret _ _ _ vs1 ns1 _ _ _ (fun b o e hb => kp1 b o (kp9 b o e hb) (fun hm => by rw [List.mem_singleton.mp hm] at e; rw [sD0] at e; cases e)) sD0 sD1 I1 ?_ ?_ (N2.get (.tail _ (.tail _ (.tail _ (.tail _ (.head _)))))) (N2.get (.tail _ (.tail _ (.tail _ (.tail _ (.tail _ (.head _))))))) ⟨rfl, _, _, dc1, dc2⟩ (.inl ⟨rfl, rfl⟩)
      · rw [dg1.1, hlen, hql0]
      · exact dg_self dg1 (Int.toNat_natCast _)
    · (rename News _ _ _ _ => N9); (rename Fr _ _ _ _ => F9); (rename IntsAre _ _ => I9)
      (try dsimp only)
      (rename List.length (List.flatten _) = _ => hl1)
      (rename (0 ≤ Int.fdiv _ _ → _) => hl3)
      subst hl1
      have hlen := hl3 hq0
      rw [show (((0 + 1 : Nat)) : Int) = 1 from rfl, Int.one_mul] at hlen
      have hz0 : Int.fdiv ((Builtin.Int.intBits a : Int) + n - 1) n = 0 := by
        (rename a = 0 => hz)
        rw [hql0, show Builtin.Int.intBits a = 0 from by rw [hz]; rfl]
        exact Int.ediv_eq_zero_of_lt (by omega) (by omega)
      have kp9 := kpx (ts := [30]) hN hgb F9 N9 (by (repeat' (first | exact List.forall_mem_nil _ | refine List.forall_mem_cons.mpr ⟨?_, ?_⟩ | exact Or.inl (by k_mem) | exact Or.inr (by k_mem))))
      have mD := N9 _ (.tail _ (.head _))
      have sD0 := fresh_of hgb mD.2.2 (two (neN (by dsimp only; omega)) (neN (by dsimp only; omega)))
      refine ret _ _ _ _ _ _ _ _ kp9 sD0 mD.1 I9 ?_ ?_ (N9.get (.tail _ (.tail _ (.tail _ (.tail _ (.tail _ (.tail _ (.head _)))))))) (N9.get (.tail _ (.tail _ (.tail _ (.tail _ (.tail _ (.tail _ (.tail _ (.head _))))))))) ⟨rfl, _, _, dc1, dc2⟩ (.inl ⟨rfl, rfl⟩)
      · rw [hlen, hql0]
      · have hl0 : (List.replicate (Int.fdiv ((Builtin.Int.intBits a : Int) + n - 1) n).toNat [(0 : Int)]).flatten.length = 0 := by omega
        exact ⟨rfl, fun i => by rw [if_neg (fun q => by omega)]⟩
end Mine
end
section
open PySem PySem.W PySem.Calls PyProof.Rows
namespace Mine

def jPs : Arguments := (defAt (bodyAt 5) 0).1
def jBody : List Stmt := (defAt (bodyAt 5) 0).2.1
def jSc : Scope := (defAt (bodyAt 5) 0).2.2


theorem c_inner42 : ∀ (w : World) (g : Heap) (_ : Gnd w g) (f D cn ca ci c' : Addr) (on oa oi oc : Obj) (vc : Array Value) (tq : Tok) (q : Str) (n : Int) (tn : Tok) (doc pm ctv : Value) (vs : List Value) (ns : List Int) (md : Nat),
    (hd.heap_39 w.params).In g → oc.data = .fields vc → vc[1]? = some (.str q tq) → oi.data = cell (.ref f) → oa.data = cell (.ref D) → on.data = cell (.int n tn) →
    2 ≤ n → n ≤ 30 → IntsAre vs ns → ns.length ≤ 64 → (∀ i, 0 ≤ ns.getD i 0) →
    ∀ (k : Nat) (dp un : Nat) (fr : Option (List Env)) (gd : Option (List Code)) (s : Shared) (Q E : Value → Shared → Prop) (L R : Int) (tL tR : Tok),
    Kp g (hideAll s.heap [f, c', D, ci, ca, cn]) →
    s.heap.get? f = some (fnMade (Str.ofString "inner") q jPs jBody jSc [(Str.ofString "n", cn), (Str.ofString "inner", ci), (Str.ofString "digits", ca)] doc pm c' ctv) →
    s.heap.get? c' = some oc → s.heap.get? D = some (W.listOf vs.toArray md) → s.heap.get? ci = some oi → s.heap.get? ca = some oa → s.heap.get? cn = some on →
    0 ≤ L → L < R → R ≤ ns.length → R - L ≤ k → Vl n.toNat ns L.toNat (R - L).toNat < 2 ^ 64 → dp + k + 1 < recursionLimit → un + 8 * k + 8 < cLine →
    (∀ h' tk t, Kp s.heap h' → Q (.int (Vl n.toNat ns L.toNat (R - L).toNat) t) { s with heap := h', toks := tk }) →
    wpAny (model PySem.Challenge.rw_pe0136_01.row.prog w) (arnd dp fr gd un) (call (.ref f) [.int L tL, .int R tR]) Q E s := by
  w_top off
  k_fill
  intro w g G f D cn ca ci c' on oa oi oc vc tq q n tn doc pm ctv vs ns md _ dc1 dc2 di da dn hn0 hn1 hI hvs hnn
  obtain ⟨X0, p, loose, mean, mg, mb, T0⟩ := G
  intro k
  induction k with
  | zero => intros; omega
  | succ k IH =>
  intro dp un fr gd s Q E L R tL tR e sf sc' sD si sa sn hL0 hLR hR hk hV hdp hun ret
  obtain ⟨gb, hgb⟩ : ∃ gb, gb = hideAll s.heap [f, c', D, ci, ca, cn] := ⟨_, rfl⟩
  rw [← hgb] at e
  have X := X0.keeps e
  have T := T0.keeps e
  have sf0 := sf
  dsimp only [jPs, jBody, jSc, defAt, bodyAt, PySem.Challenge.pw_pe0136_01, List.getElem?_cons_succ, List.getElem?_cons_zero] at sf
  have hcd : s.heap.CodeRec (.ref c') q := ⟨c', oc, vc, tq, rfl, sc', dc1, dc2⟩
  have C : CodeHd gb 34 30 := codeHd_of_K (c := 34) (P := 30) X (by kernel_rfl)
  have hN := led_cons sf (led_cons sc' (led_cons sD (led_cons si (led_cons sa (led_cons sn led_nil)))))
  by_cases hb : L + 1 = R
  · k_dflt (refine' entN gb hN hgb ?k5 ?k6 ?k7 ?k8 ?k9 ?kB ?c2 ?c3 ?c4 ?c5 ?_; (case k5 => k_asm); (case k6 => exact List.Mem.head _); (case k7 => exact hcd); (case k8 => omega); (case k9 => exact BindsTo.of_eq rfl); (case c5 => decide); (case kB => exact locs rfl);  (case c2 => exact rfl); (case c3 => exact rfl); (case c4 => exact rfl); k_whole; intro L' h' F' N' l9; (try k_lt l9); (try dsimp only); (try k_fold))
    clear IH sf sf0 hV
    k_steps
    (rename News _ _ _ _ => N9); (rename Fr _ _ _ _ => F9)
    (try dsimp only)
    have e1 : (R - L).toNat = 1 := om2 hb
    rw [e1, vl_one] at ret
    exact ret _ _ _ (kpx_nil hN hgb F9 N9 (by (repeat' (first | exact List.forall_mem_nil _ | refine List.forall_mem_cons.mpr ⟨?_, ?_⟩ | exact Or.inl (by k_mem) | exact Or.inr (by k_mem)))))
  · have hp2 : ((2 : Int) ^ Int.toNat 1) = 2 := rfl
    obtain ⟨M, hM⟩ : ∃ M, (L + R).fdiv (2 ^ Int.toNat 1) = M := ⟨_, rfl⟩
    have hM2 : M = (L + R) / 2 := by rw [← hM, hp2, Int.fdiv_eq_ediv_of_nonneg _ (by omega)]
    have hM3 : L < M ∧ M < R := om7 hM2 hLR hb
    have hs0 : 0 ≤ (M - L) * n := Int.mul_nonneg (by omega) (by omega)
    have hs1 : (M - L) * n ≤ 1920 := by
      have := Int.mul_le_mul (show M - L ≤ 64 by omega) hn1 (by omega) (by omega)
      omega
    have hk3 : ((M - L) * n).toNat = n.toNat * (M - L).toNat := by
      rw [Int.toNat_mul (by omega) (by omega), Nat.mul_comm]
    have eLR : (R - L).toNat = (M - L).toNat + (R - M).toNat := (om3 hM3.1 hM3.2).symm
    have eLM : L.toNat + (M - L).toNat = M.toNat := om6 hL0 hM3.1
    rw [eLR] at hV ret
    have hV2 := vl_parts hnn _ _ _ hV
    rw [eLM] at hV2
    have hVn := vl_nn (n := n.toNat) hnn (R - M).toNat M.toNat
    have hsp := vl_split n.toNat ns (R - M).toNat (M - L).toNat L.toNat
    rw [eLM] at hsp
    rw [hsp] at ret
    clear hV hsp
    obtain ⟨V1, hV1⟩ : ∃ V1, Vl n.toNat ns M.toNat (R - M).toNat = V1 := ⟨_, rfl⟩
    obtain ⟨V0, hV0⟩ : ∃ V0, Vl n.toNat ns L.toNat (M - L).toNat = V0 := ⟨_, rfl⟩
    rw [hV1] at hVn
    rw [hV1, hV0] at ret hV2
    rw [← hM] at hs0 hs1
    k_dflt (refine' entN gb hN hgb ?k5 ?k6 ?k7 ?k8 ?k9 ?kB ?c2 ?c3 ?c4 ?c5 ?_; (case k5 => k_asm); (case k6 => exact List.Mem.head _); (case k7 => exact hcd); (case k8 => omega); (case k9 => exact BindsTo.of_eq rfl); (case c5 => decide); (case kB => exact locs rfl);  (case c2 => exact rfl); (case c3 => exact rfl); (case c4 => exact rfl); k_whole; intro L' h' F' N' l9; (try k_lt l9); (try dsimp only); (try k_fold))
    k_steps
    (rename News _ _ _ _ => N9); (rename Fr _ _ _ _ => F9)
    (try dsimp only)
    have kp9 := kpx_nil hN hgb F9 N9 (by (repeat' (first | exact List.forall_mem_nil _ | refine List.forall_mem_cons.mpr ⟨?_, ?_⟩ | exact Or.inl (by k_mem) | exact Or.inr (by k_mem))))
    rw [hM]
    rw [hM] at F9
    refine IH _ _ _ _ _ _ _ _ _ _ _ (kp_hide e hgb F9.keep) (kp9 _ _ sf0) (N9.get (by k_mem)) (N9.get (by k_mem)) (N9.get (by k_mem)) (N9.get (by k_mem)) (N9.get (by k_mem)) (by omega) hM3.2 hR (by omega) (by rw [hV1]; exact hV2.2) ?_ ?_ ?_
    · show dp + 1 + k + 1 < recursionLimit
      omega
    · show un + 3 + 8 * k + 8 < cLine
      omega
    intro h1 tk1 t1 kp1
    have F2 := fr_kp F9 kp1
    have N2 := nw_kp N9 kp1
    have kp2 := kp9.trans kp1
    clear F9 N9 kp9
    rw [hM] at hs0 hs1
    rw [hV1]
    (try dsimp only)
    k_steps
    (rename News _ _ _ _ => N9); (rename Fr _ _ _ _ => F9)
    (try dsimp only)
    refine IH _ _ _ _ _ _ _ _ _ _ _ (kp_hide e hgb F9.keep) (kp2 _ _ sf0) (N9.get (by k_mem)) (N9.get (by k_mem)) (N9.get (by k_mem)) (N9.get (by k_mem)) (N9.get (by k_mem)) hL0 hM3.1 (by omega) (by omega) (by rw [hV0]; exact hV2.1) ?_ ?_ ?_
    · show dp + 1 + k + 1 < recursionLimit
      omega
    · show un + 3 + 8 * k + 8 < cLine
      omega
    intro h3 tk3 t3 kp3
    rw [hV0]
    k_steps
    (try dsimp only)
    have key : ∀ t tk, Fin Q (.int (V1 * 2 ^ ((M - L) * n).toNat + V0) t) { s with heap := h3, toks := tk } := fun t tk => by
      rw [hk3, Int.mul_comm V1, Int.add_comm]
      exact ret h3 tk t (kp2.trans kp3)
    exact key _ _

def q42 : Str := Str.ofString "_digits2int" ++ Str.ofString ".<locals>." ++ Str.ofString "inner"

theorem c_digits2int : ∀ (w : World) (g : Heap) (_ : Gnd w g) (dp un : Nat) (fr : Option (List Env)) (gd : Option (List Code)) (s : Shared) (Q E : Value → Shared → Prop) (D : Addr) (vs : List Value) (ns : List Int) (md : Nat) (n : Int) (tn : Tok) (c : Addr) (o oc : Obj),
    (hd.heap_39 w.params).In g → Kp g s.heap → g.get? 37 = none → g.get? c = none → s.heap.get? 37 = some o → s.heap.get? c = some oc → Tb 47 4 q42 o c oc → s.heap.get? D = some (W.listOf vs.toArray md) → g.get? D = none → IntsAre vs ns → ns.length ≤ 64 → (∀ i, 0 ≤ ns.getD i 0) →
    Vl n.toNat ns 0 ns.length < 2 ^ 64 → 2 ≤ n → n ≤ 30 → dp + 80 < recursionLimit → un + 700 < cLine →
    (∀ h' tk t c' o' oc', KpX [37] s.heap h' → h'.get? 37 = some o' → h'.get? c' = some oc' → TbH 47 4 q42 o' c' oc' → (c' = c ∧ oc' = oc ∨ s.heap.get? c' = none ∧ o = tabObj #[]) → Q (.int (Vl n.toNat ns 0 ns.length) t) { s with heap := h', toks := tk }) →
    wpAny (model PySem.Challenge.rw_pe0136_01.row.prog w) (arnd dp fr gd un) (call (.ref 42) [.ref D, .int n tn]) Q E s := by
  w_top off
  k_fill
  intro w g G dp un fr gd s Q E D vs ns md n tn c o oc _ e h37 hc0 s37 sc hTb sD hD0 hI hvs hnn hV hn0 hn1 hdp hun ret
  have G0 := G
  obtain ⟨X0, p, loose, mean, mg, mb, T0⟩ := G
  have hlen : vs.length = ns.length := hI.length
  rcases hTb with rfl | ⟨rfl, vc, tq, dc1, dc2⟩
  · have hD37 : D ≠ 37 := fun q => by
      rw [q, s37] at sD
      cases sD
    replace hD37 := neN hD37
    obtain ⟨gb, hgb⟩ : ∃ gb, gb = hideAll s.heap [37, D] := ⟨_, rfl⟩
    have two : ∀ {a : Nat}, a ≠ 37 → a ≠ D → a ∉ [37, D] := fun h1 h2 hm => (List.mem_cons.mp hm).elim h1 fun z => h2 (List.mem_singleton.mp z)
    have e' : Kp g gb := fun b o q => by
      rw [hgb]
      exact hideAll_get _ (e b o q) (fun hm => by
        rcases List.mem_cons.mp hm with z | z
        · rw [z, h37] at q; cases q
        · rw [List.mem_singleton.mp z, hD0] at q; cases q)
    have X := X0.keeps e'
    have T := T0.keeps e'
    have C : CodeHd gb 41 37 := codeHd_of_K (c := 41) (P := 37) X (by kernel_rfl)
    have hN := led_cons s37 (led_cons sD led_nil)
    k_dflt (refine' entC gb hN hgb ?k3 ?k5 ?k6 ?k7 ?k8 ?k9 ?kB ?kD ?c2 ?c3 ?c4 ?_; (case k3 => k_asm); (case k5 => k_asm); (case k6 => k_is); (case k7 => k_is); (case k8 => omega); (case k9 => exact BindsTo.of_eq rfl); (case kB => exact rfl); (case kD => decide +kernel); (case c2 => exact rfl); (case c3 => exact rfl); (case c4 => exact rfl); k_whole; intro L' h' tk' cells' F' N' Y' l1; (try k_lt l1); k_cells Y'; (try simp only [List.cons_append, List.nil_append] at N'); (try dsimp only); (try k_fold))
    k_steps
    · (rename News _ _ _ _ => N9); (rename Fr _ _ _ _ => F9)
      (try dsimp only)
      have kp9 := kpx (ts := [37]) hN hgb F9 N9 (by (repeat' (first | exact List.forall_mem_nil _ | refine List.forall_mem_cons.mpr ⟨?_, ?_⟩ | exact Or.inl (by k_mem) | exact Or.inr (by k_mem))))
      have mc := N9 _ (.tail _ (.head _))
      have sc0 := fresh_of hgb mc.2.2 (two (neN (by dsimp only; omega)) (neN (by dsimp only; omega)))
      refine' c_inner42 w g G0 _ _ _ _ _ _ _ _ _ _ _ _ _ n _ _ _ _ vs ns md X0 (by assumption) (by assumption) ?di ?da ?dn hn0 hn1 hI hvs hnn 64 _ _ _ _ _ _ _ _ _ _ _ ?kp (N9.get (by k_mem)) (N9.get (by k_mem)) (N9.get (by k_mem)) (N9.get (by k_mem)) (N9.get (by k_mem)) (N9.get (by k_mem)) (by omega) (by omega) (by omega) (by omega) ?hv ?r4 ?r5 ?_
      case di => assumption
      case da => assumption
      case dn => assumption
      case kp => exact kp_hideN e' F9.keep N9 (by (repeat' (first | exact List.forall_mem_nil _ | refine List.forall_mem_cons.mpr ⟨⟨_, by k_mem⟩, ?_⟩)))
      case hv =>
        rw [Int.sub_zero, Int.toNat_natCast]
        exact hV
      case r4 =>
        show dp + 1 + 65 < recursionLimit
        exact rlim hdp (by decide)
      case r5 =>
        show un + 3 + 520 < cLine
        exact clim hun (by decide)
      intro h1 tk1 t1 kp1
      rw [Int.sub_zero, Int.toNat_natCast]
      exact ret _ _ _ _ _ _ (fun b o e hb => kp1 b o (kp9 b o e hb)) (kp1 _ _ (N9.get (.tail _ (.tail _ (.tail _ (.tail _ (.tail _ (.head _)))))))) (kp1 _ _ (N9.get (.tail _ (.head _)))) ⟨rfl, _, _, by assumption, by assumption⟩ (.inr ⟨sc0, rfl⟩)
    · (rename News _ _ _ _ => N9); (rename Fr _ _ _ _ => F9)
      (try dsimp only)
      have kp9 := kpx (ts := [37]) hN hgb F9 N9 (by (repeat' (first | exact List.forall_mem_nil _ | refine List.forall_mem_cons.mpr ⟨?_, ?_⟩ | exact Or.inl (by k_mem) | exact Or.inr (by k_mem))))
      have mc := N9 _ (.tail _ (.head _))
      have sc0 := fresh_of hgb mc.2.2 (two (neN (by dsimp only; omega)) (neN (by dsimp only; omega)))
      have hz : ns.length = 0 := by omega
      rw [hz] at ret
      exact ret _ _ _ _ _ _ kp9 (N9.get (.tail _ (.tail _ (.tail _ (.tail _ (.tail _ (.head _))))))) (N9.get (.tail _ (.head _))) ⟨rfl, _, _, by assumption, by assumption⟩ (.inr ⟨sc0, rfl⟩)
  · have hD37 : D ≠ 37 := fun q => by
      rw [q, s37] at sD
      cases sD
    replace hD37 := neN hD37
    have hc37 : c ≠ 37 := fun q => by
      rw [q, s37] at sc
      cases sc
      cases dc1
      cases dc2
    have hcD : c ≠ D := fun q => by
      rw [q, sD] at sc
      cases sc
      cases dc1
    replace hc37 := neN hc37
    replace hcD := neN hcD
    obtain ⟨gb, hgb⟩ : ∃ gb, gb = hideAll s.heap [37, c, D] := ⟨_, rfl⟩
    have e' : Kp g gb := fun b o q => by
      rw [hgb]
      exact hideAll_get _ (e b o q) (fun hm => by
        rcases List.mem_cons.mp hm with z | z
        · rw [z, h37] at q; cases q
        · rcases List.mem_cons.mp z with z | z
          · rw [z, hc0] at q; cases q
          · rw [List.mem_singleton.mp z, hD0] at q; cases q)
    have X := X0.keeps e'
    have T := T0.keeps e'
    have C : CodeHd gb 41 37 := codeHd_of_K (c := 41) (P := 37) X (by kernel_rfl)
    have hN := led_cons s37 (led_cons sc (led_cons sD led_nil))
    k_dflt (refine' entC gb hN hgb ?k3 ?k5 ?k6 ?k7 ?k8 ?k9 ?kB ?kD ?c2 ?c3 ?c4 ?_; (case k3 => k_asm); (case k5 => k_asm); (case k6 => k_is); (case k7 => k_is); (case k8 => omega); (case k9 => exact BindsTo.of_eq rfl); (case kB => exact rfl); (case kD => decide +kernel); (case c2 => exact rfl); (case c3 => exact rfl); (case c4 => exact rfl); k_whole; intro L' h' tk' cells' F' N' Y' l1; (try k_lt l1); k_cells Y'; (try simp only [List.cons_append, List.nil_append] at N'); (try dsimp only); (try k_fold))
    k_steps
    · (rename News _ _ _ _ => N9); (rename Fr _ _ _ _ => F9)
      (try dsimp only)
      have kp9 := kpx (ts := [37]) hN hgb F9 N9 (by (repeat' (first | exact List.forall_mem_nil _ | refine List.forall_mem_cons.mpr ⟨?_, ?_⟩ | exact Or.inl (by k_mem) | exact Or.inr (by k_mem))))
      refine' c_inner42 w g G0 _ _ _ _ _ _ _ _ _ _ _ _ _ n _ _ _ _ vs ns md X0 dc1 dc2 ?di ?da ?dn hn0 hn1 hI hvs hnn 64 _ _ _ _ _ _ _ _ _ _ _ ?kp (N9.get (by k_mem)) (N9.get (by k_mem)) (N9.get (by k_mem)) (N9.get (by k_mem)) (N9.get (by k_mem)) (N9.get (by k_mem)) (by omega) (by omega) (by omega) (by omega) ?hv ?r4 ?r5 ?_
      case di => assumption
      case da => assumption
      case dn => assumption
      case kp => exact kp_hideN e' F9.keep N9 (by (repeat' (first | exact List.forall_mem_nil _ | refine List.forall_mem_cons.mpr ⟨⟨_, by k_mem⟩, ?_⟩)))
      case hv =>
        rw [Int.sub_zero, Int.toNat_natCast]
        exact hV
      case r4 =>
        show dp + 1 + 65 < recursionLimit
        exact rlim hdp (by decide)
      case r5 =>
        show un + 3 + 520 < cLine
        exact clim hun (by decide)
      intro h1 tk1 t1 kp1
      rw [Int.sub_zero, Int.toNat_natCast]
      exact ret _ _ _ _ _ _ (fun b o e hb => kp1 b o (kp9 b o e hb)) (kp1 _ _ (N9.get (.tail _ (.tail _ (.tail _ (.tail _ (.head _))))))) (kp1 _ _ (N9.get (.tail _ (.tail _ (.tail _ (.tail _ (.tail _ (.head _)))))))) ⟨rfl, _, _, dc1, dc2⟩ (.inl ⟨rfl, rfl⟩)
    · (rename News _ _ _ _ => N9); (rename Fr _ _ _ _ => F9)
      (try dsimp only)
      have kp9 := kpx (ts := [37]) hN hgb F9 N9 (by (repeat' (first | exact List.forall_mem_nil _ | refine List.forall_mem_cons.mpr ⟨?_, ?_⟩ | exact Or.inl (by k_mem) | exact Or.inr (by k_mem))))
      have hz : ns.length = 0 := by omega
      rw [hz] at ret
      exact ret _ _ _ _ _ _ kp9 (N9.get (.tail _ (.tail _ (.tail _ (.tail _ (.head _)))))) (N9.get (.tail _ (.tail _ (.tail _ (.tail _ (.tail _ (.head _))))))) ⟨rfl, _, _, dc1, dc2⟩ (.inl ⟨rfl, rfl⟩)
end Mine
end
section
open PySem PySem.W PySem.Calls PyProof.Rows
namespace Mine




theorem c_div2n1n : ∀ (w : World) (g : Heap) (_ : Gnd w g) (dp un : Nat) (fr : Option (List Env)) (gd : Option (List Code)) (s : Shared) (Q E : Value → Shared → Prop) (x b n : Int) (tx tb tn : Tok),
    (hd.heap_39 w.params).In g → Kp g s.heap → 0 ≤ x → x < 2 ^ 64 → 0 < b → b < 2 ^ 30 → 0 ≤ n → dp + 1 < recursionLimit → un + 8 < cLine →
    (∀ t h' tk c t1 t2, Kp s.heap h' → s.heap.get? t = none → h'.get? t = some (tup [.int (x / b) t1, .int (x % b) t2] c) → Q (.ref t) {s with heap := h', toks := tk}) →
    wpAny (model PySem.Challenge.rw_pe0136_01.row.prog w) (arnd dp fr gd un) (call (.ref 21) [.int x tx, .int b tb, .int n tn]) Q E s := by
  w_top off
  k_fill
  intro w g G dp un fr gd s Q E x b n tx tb tn _ e hx0 hx1 hb0 hb1 hn0 hdp hun ret
  obtain ⟨X0, p, loose, mean, mg, mb, T0⟩ := G
  have X := X0.keeps e
  have T := T0.keeps e
  clear X0 T0
  have hbit : Builtin.Int.intBits x ≤ 64 := intBits_le_64 (by omega) (by omega)
  k_dflt (( refine' entP ?k3 ?k5 ?k6 ?k7 ?k8 ?k9 ?kB ?c2 ?c3 ?c4 ?c5 ?_; (case k3 => k_asm); (case k5 => k_asm); (case k6 => k_is); (case k7 => k_is); (case k8 => omega); (case k9 => exact BindsTo.of_eq rfl); (case c5 => decide); (case kB => exact locs rfl); (case c2 => exact rfl); (case c3 => exact rfl); (case c4 => exact rfl); k_whole; intro L' h' F' N'; (try dsimp only); (try k_fold)))
  k_steps
  (rename News _ _ _ _ => N2); (rename Fr _ _ _ _ => F2)
  (try dsimp only)
  rw [Int.fdiv_eq_ediv_of_nonneg _ (Int.le_of_lt hb0), Int.fmod_eq_emod_of_nonneg _ (Int.le_of_lt hb0)] at N2
  exact ret _ _ _ _ _ _ F2.keep (N2.fresh (.head _)) (N2.get (.head _))
end Mine
end
section
open PySem PySem.W PySem.Calls PyProof.Rows
namespace Mine

/-- the two code tables and the code objects they came to hold -/
structure TP where
  o1 : Obj
  c1 : Addr
  k1 : Obj
  o2 : Obj
  c2 : Addr
  k2 : Obj
abbrev TP.led (t : TP) : List (Addr × Obj) := [(30, t.o1), (t.c1, t.k1), (37, t.o2), (t.c2, t.k2)]
structure TS (g h : Heap) (t : TP) : Prop where
  h1 : h.get? 30 = some t.o1
  a1 : h.get? t.c1 = some t.k1
  t1 : Tb 32 4 q35 t.o1 t.c1 t.k1
  h2 : h.get? 37 = some t.o2
  a2 : h.get? t.c2 = some t.k2
  t2 : Tb 47 4 q42 t.o2 t.c2 t.k2
  m1 : t.o1 = tabObj #[] → t.c1 = 30
  m2 : t.o2 = tabObj #[] → t.c2 = 37
  n1 : t.c1 ≠ 37
  n2 : t.c2 ≠ 30
  g1 : g.get? 30 = none
  g2 : g.get? 37 = none
  g3 : g.get? t.c1 = none
  g4 : g.get? t.c2 = none
/-- what a call may do to them -/
structure TN (h : Heap) (t t' : TP) : Prop where
  n1 : (t'.c1 = t.c1 ∧ t'.k1 = t.k1) ∨ (h.get? t'.c1 = none ∧ t.c1 = 30)
  n2 : (t'.c2 = t.c2 ∧ t'.k2 = t.k2) ∨ (h.get? t'.c2 = none ∧ t.c2 = 37)
theorem TS.led {g h : Heap} {t : TP} (x : TS g h t) : ∀ q ∈ t.led, h.get? q.1 = some q.2 := led_cons x.h1 (led_cons x.a1 (led_cons x.h2 (led_cons x.a2 led_nil)))
theorem TS.off {g h : Heap} {t : TP} (x : TS g h t) {gb : Heap} (e : Kp g h) (hgb : gb = hideAll h [30, t.c1, 37, t.c2]) : Kp g gb := fun b o q => by
  rw [hgb]
  refine hideAll_get _ (e b o q) fun hm => ?_
  rcases List.mem_cons.mp hm with z | hm
  · rw [z, x.g1] at q; cases q
  rcases List.mem_cons.mp hm with z | hm
  · rw [z, x.g3] at q; cases q
  rcases List.mem_cons.mp hm with z | hm
  · rw [z, x.g2] at q; cases q
  · rw [List.mem_singleton.mp hm, x.g4] at q; cases q
theorem TN.rfl {h : Heap} {t : TP} : TN h t t := ⟨.inl ⟨_root_.rfl, _root_.rfl⟩, .inl ⟨_root_.rfl, _root_.rfl⟩⟩
theorem none_back {h h' : Heap} {a : Addr} (k : KpX [30, 37] h h') (h3 : ∃ o, h'.get? 30 = some o) (h7 : ∃ o, h'.get? 37 = some o) (e : h'.get? a = none) : h.get? a = none := by
  cases z : h.get? a with
  | none => exact _root_.rfl
  | some o =>
    exfalso
    by_cases ha : a ∈ [30, 37]
    · rcases List.mem_cons.mp ha with q | q
      · obtain ⟨o', h3⟩ := h3; rw [q, h3] at e; cases e
      · obtain ⟨o', h7⟩ := h7; rw [List.mem_singleton.mp q, h7] at e; cases e
    · rw [k a o z ha] at e; cases e
theorem TN.trans {g h h' : Heap} {t t' t'' : TP} (hT : TS g h t) (x : TN h t t') (k : KpX [30, 37] h h') (y : TS g h' t') (z : TN h' t' t'') : TN h t t'' := by
  refine ⟨?_, ?_⟩
  · rcases z.n1 with ⟨p, q⟩ | ⟨p, p'⟩
    · rw [p, q]; exact x.n1
    · refine .inr ⟨none_back k ⟨_, y.h1⟩ ⟨_, y.h2⟩ p, ?_⟩
      rcases x.n1 with ⟨u, _⟩ | ⟨_, u⟩
      · rw [← u]; exact p'
      · exact u
  · rcases z.n2 with ⟨p, q⟩ | ⟨p, p'⟩
    · rw [p, q]; exact x.n2
    · refine .inr ⟨none_back k ⟨_, y.h1⟩ ⟨_, y.h2⟩ p, ?_⟩
      rcases x.n2 with ⟨u, _⟩ | ⟨_, u⟩
      · rw [← u]; exact p'
      · exact u
theorem KpX.trans {ts : List Addr} {a b c : Heap} (x : KpX ts a b) (y : KpX ts b c) : KpX ts a c := fun d o e hd => y d o (x d o e hd) hd
theorem KpX.of_kp {ts : List Addr} {a b : Heap} (x : Kp a b) : KpX ts a b := fun d o e _ => x d o e
/-- a call that keeps all else keeps the ledger; the tables stand anew on it -/
theorem ts_news {g gb h h1 : Heap} {L : Addr} {m : Str → Option Value} {t t' : TP} {news l : List (Addr × Obj)} (F : Fr gb L h m) (N : News gb L h news) (hm : ∀ q ∈ t.led, q ∈ news) (y : TS g h1 t') (z : TN h t t') (r : News gb L h1 l) : News gb L h1 (t'.led ++ l) := by
  have m1 := N _ (hm _ (.head _))
  have m3 := N _ (hm _ (.tail _ (.tail _ (.head _))))
  have one : ∀ {c c' c0 : Addr} {k k' : Obj}, (c, k) ∈ t.led → ((c' = c ∧ k' = k) ∨ (h.get? c' = none ∧ c = c0)) → h1.get? c' = some k' → h1.get? c' = some k' ∧ c' ≠ L ∧ gb.get? c' = none := fun hc hz he => by
    rcases hz with ⟨rfl, rfl⟩ | ⟨hz, _⟩
    · exact ⟨he, (N _ (hm _ hc)).2⟩
    · exact nw_new F hz he nw_nil _ (.head _)
  refine List.forall_mem_cons.mpr ⟨⟨y.h1, m1.2⟩, List.forall_mem_cons.mpr ⟨one (.tail _ (.head _)) z.n1 y.a1, List.forall_mem_cons.mpr ⟨⟨y.h2, m3.2⟩, List.forall_mem_cons.mpr ⟨one (.tail _ (.tail _ (.tail _ (.head _)))) z.n2 y.a2, r⟩⟩⟩⟩
theorem nw_sub {gb h h1 : Heap} {L : Addr} {news l : List (Addr × Obj)} {ts : List Addr} (N : News gb L h news) (k : KpX ts h h1) (hs : ∀ q ∈ l, q ∈ news ∧ q.1 ∉ ts) : News gb L h1 l := fun q hq => ⟨k _ _ (N _ (hs q hq).1).1 (hs q hq).2, (N _ (hs q hq).1).2⟩

theorem ts_one {g h h1 : Heap} {t : TP} {o' k' : Obj} {c' : Addr} (e : Kp g h) (x : TS g h t) (k : KpX [30] h h1) (a : h1.get? 30 = some o') (b : h1.get? c' = some k') (y : TbH 32 4 q35 o' c' k') (z : (c' = t.c1 ∧ k' = t.k1) ∨ (h.get? c' = none ∧ t.o1 = tabObj #[])) :
    TS g h1 ⟨o', c', k', t.o2, t.c2, t.k2⟩ ∧ TN h t ⟨o', c', k', t.o2, t.c2, t.k2⟩ := by
  have ne : ∀ {a : Addr}, a ≠ 30 → a ∉ [30] := fun h hm => h (List.mem_singleton.mp hm)
  refine ⟨⟨a, b, .inr y, k _ _ x.h2 (ne (by decide)), k _ _ x.a2 (ne x.n2), x.t2, fun q => absurd q y.ne, x.m2, ?_, x.n2, x.g1, x.g2, ?_, x.g4⟩, ⟨z.imp id fun q => ⟨q.1, x.m1 q.2⟩, .inl ⟨rfl, rfl⟩⟩⟩
  · rcases z with ⟨p, _⟩ | ⟨p, _⟩
    · show c' ≠ 37; rw [p]; exact x.n1
    · intro q; show False
      have q' : c' = 37 := q
      rw [q', x.h2] at p; cases p
  · rcases z with ⟨p, _⟩ | ⟨p, _⟩
    · show g.get? c' = none; rw [p]; exact x.g3
    · show g.get? c' = none
      cases q : g.get? c' with
      | none => rfl
      | some o => rw [e _ _ q] at p; cases p
theorem ts_two {g h h1 : Heap} {t : TP} {o' k' : Obj} {c' : Addr} (e : Kp g h) (x : TS g h t) (k : KpX [37] h h1) (a : h1.get? 37 = some o') (b : h1.get? c' = some k') (y : TbH 47 4 q42 o' c' k') (z : (c' = t.c2 ∧ k' = t.k2) ∨ (h.get? c' = none ∧ t.o2 = tabObj #[])) :
    TS g h1 ⟨t.o1, t.c1, t.k1, o', c', k'⟩ ∧ TN h t ⟨t.o1, t.c1, t.k1, o', c', k'⟩ := by
  have ne : ∀ {a : Addr}, a ≠ 37 → a ∉ [37] := fun h hm => h (List.mem_singleton.mp hm)
  refine ⟨⟨k _ _ x.h1 (ne (by decide)), k _ _ x.a1 (ne x.n1), x.t1, a, b, .inr y, x.m1, fun q => absurd q y.ne, x.n1, ?_, x.g1, x.g2, x.g3, ?_⟩, ⟨.inl ⟨rfl, rfl⟩, z.imp id fun q => ⟨q.1, x.m2 q.2⟩⟩⟩
  · rcases z with ⟨p, _⟩ | ⟨p, _⟩
    · show c' ≠ 30; rw [p]; exact x.n2
    · intro q; show False
      have q' : c' = 30 := q
      rw [q', x.h1] at p; cases p
  · rcases z with ⟨p, _⟩ | ⟨p, _⟩
    · show g.get? c' = none; rw [p]; exact x.g4
    · show g.get? c' = none
      cases q : g.get? c' with
      | none => rfl
      | some o => rw [e _ _ q] at p; cases p
theorem TS.kp {g h h1 : Heap} {t : TP} (x : TS g h t) (k : Kp h h1) : TS g h1 t := ⟨k _ _ x.h1, k _ _ x.a1, x.t1, k _ _ x.h2, k _ _ x.a2, x.t2, x.m1, x.m2, x.n1, x.n2, x.g1, x.g2, x.g3, x.g4⟩
theorem TS.at {g gb h h1 : Heap} {L : Addr} {t : TP} {news : List (Addr × Obj)} (x : TS g h t) (N : News gb L h1 news) (hm : ∀ q ∈ t.led, q ∈ news) : TS g h1 t := ⟨(N _ (hm _ (.head _))).1, (N _ (hm _ (.tail _ (.head _)))).1, x.t1, (N _ (hm _ (.tail _ (.tail _ (.head _))))).1, (N _ (hm _ (.tail _ (.tail _ (.tail _ (.head _)))))).1, x.t2, x.m1, x.m2, x.n1, x.n2, x.g1, x.g2, x.g3, x.g4⟩
/-- at a call's end: all but the tables is kept -/
theorem ts_kpx {s gb h' : Heap} {L : Addr} {m : Str → Option Value} {news' : List (Addr × Obj)} {t t' : TP} {h : Heap} (hN : ∀ q ∈ t.led, s.get? q.1 = some q.2) (hgb : gb = hideAll s (t.led.map (·.1)))
    (F : Fr gb L h' m) (N : News gb L h' news') (hm : ∀ q ∈ t'.led, q ∈ news') (z : TN h t t') : KpX [30, 37] s h' := by
  refine kpx hN hgb F N (List.forall_mem_cons.mpr ⟨.inl (.head _), List.forall_mem_cons.mpr ⟨?_, List.forall_mem_cons.mpr ⟨.inl (.tail _ (.head _)), List.forall_mem_cons.mpr ⟨?_, List.forall_mem_nil _⟩⟩⟩⟩)
  · rcases z.n1 with ⟨p, q⟩ | ⟨_, p⟩
    · exact .inr (p ▸ q ▸ hm _ (.tail _ (.head _)))
    · exact .inl (p ▸ .head _)
  · rcases z.n2 with ⟨p, q⟩ | ⟨_, p⟩
    · exact .inr (p ▸ q ▸ hm _ (.tail _ (.tail _ (.tail _ (.head _)))))
    · exact .inl (p ▸ .tail _ (.head _))

theorem TN.back {s h : Heap} {t t' : TP} (k : Kp s h) (x : TN h t t') : TN s t t' := by
  have nb : ∀ {a : Addr}, h.get? a = none → s.get? a = none := fun {a} e => by
    cases z : s.get? a with
    | none => rfl
    | some o => rw [k _ _ z] at e; cases e
  exact ⟨x.n1.imp id fun q => ⟨nb q.1, q.2⟩, x.n2.imp id fun q => ⟨nb q.1, q.2⟩⟩
theorem ts_fresh {s gb h : Heap} {t t' : TP} {d : Addr} (hgb : gb = hideAll s [30, t.c1, 37, t.c2]) (hn : gb.get? d = none) (z : TN h t t') (h1 : d ≠ 30) (h2 : d ≠ t'.c1) (h3 : d ≠ 37) (h4 : d ≠ t'.c2) : s.get? d = none := by
  refine fresh_of hgb hn fun hm => ?_
  rcases List.mem_cons.mp hm with q | hm
  · exact h1 q
  rcases List.mem_cons.mp hm with q | hm
  · rcases z.n1 with ⟨p, _⟩ | ⟨_, p⟩
    · exact h2 (q.trans p.symm)
    · exact h1 (q.trans p)
  rcases List.mem_cons.mp hm with q | hm
  · exact h3 q
  · have q := List.mem_singleton.mp hm
    rcases z.n2 with ⟨p, _⟩ | ⟨_, p⟩
    · exact h4 (q.trans p.symm)
    · exact h3 (q.trans p)

/-- a loop over a reversed list, by an invariant over what is left, the names and the ledger -/
def TEnd (h₀ : Heap) (L : Addr) (s₁ : Shared) (I : Addr) (it : Obj) (lp : Addr × Obj) (J : (Str → Option Value) → List (Addr × Obj) → Prop) (s₂ : Shared) : Prop :=
  ∃ h' tk m' news', s₂ = { s₁ with heap := h', toks := tk } ∧ Fr h₀ L h' m' ∧ News h₀ L h' ((I, it) :: news') ∧ (∀ p ∈ news', p.1 ≠ I) ∧ lp ∈ news' ∧ J m' news'
def TPost (h₀ : Heap) (L : Addr) (s₁ : Shared) (I : Addr) (it : Obj) (lp : Addr × Obj) (J : (Str → Option Value) → List (Addr × Obj) → Prop) (Q : Flow → Shared → Prop) (f : Flow) (s₂ : Shared) : Prop :=
  match f with
  | .ret v => Q (.ret v) s₂
  | .brk => Q .next s₂
  | _ => TEnd h₀ L s₁ I it lp J s₂
theorem rev_ind {prog : Program} {w : World} {A : Around} {E : Value → Shared → Prop} {s : Shared} {env : Env} {h₀ : Heap} {x : Str} {body : List Stmt} {Q : Flow → Shared → Prop} {I : Addr} {lp : Addr × Obj} (J : List Value → (Str → Option Value) → List (Addr × Obj) → Prop)
    (turn : ∀ v r m news, J (v :: r) m news → ∀ (it : Obj) h tk, it.cls = .type "list_reverseiterator" → Fr h₀ env.locals h (fun y => if y = x then some v else m y) → News h₀ env.locals h ((I, it) :: news) →
      wpAny (model prog w) A (execs body env) (TPost h₀ env.locals { s with heap := h, toks := tk } I it lp (J r) Q) E { s with heap := h, toks := tk })
    (fin : ∀ m news, J [] m news → ∀ h tk, Fr h₀ env.locals h m → News h₀ env.locals h news → Q .next { s with heap := h, toks := tk }) :
    ∀ l m news, J l m news → RevRest prog w A E h₀ env x body Q s I lp l m news
  | [], m, news, j => fun h tk F N => fin m news j h tk F N
  | v :: r, m, news, j => fun it h tk hit F N => wpAny_mono (turn v r m news j it h tk hit F N) (fun f s₂ p => by
      have key : TEnd h₀ env.locals { s with heap := h, toks := tk } I it lp (J r) s₂ → UnrEnd h₀ env.locals { s with heap := h, toks := tk } I it (fun m' n' => lp ∈ n' ∧ RevRest prog w A E h₀ env x body Q s I lp r m' n') s₂ := by
        rintro ⟨h', tk', m', news', e1, e2, e3, e4, e5, e6⟩
        exact ⟨h', tk', m', news', e1, e2, e3, e4, e5, rev_ind J turn fin r m' news' e6⟩
      cases f with
      | ret v => exact p
      | brk => exact p
      | next => exact key p
      | cont => exact key p) fun _ _ e => e
theorem rev_loop {prog : Program} {w : World} {A : Around} {E : Value → Shared → Prop} {s : Shared} {env : Env} {h₀ : Heap} {x : Str} {body : List Stmt} {Q : Flow → Shared → Prop} {ax I : Addr} {vs : List Value} {n : Nat} {m₀ : Str → Option Value} {news : List (Addr × Obj)}
    (hh : A.handled = none) (F : Fr h₀ env.locals s.heap m₀) (N : News h₀ env.locals s.heap ((I, revObj ax ((vs.length : Int) - 1)) :: news)) (hof : ∀ q ∈ news, q.1 ≠ I) (hm : (ax, W.listOf vs.toArray n) ∈ news)
    (J : (Str → Option Value) → List Value → (Str → Option Value) → List (Addr × Obj) → Prop) (start : J m₀ vs.reverse m₀ news)
    (turn : ∀ v r m news, J m₀ (v :: r) m news → ∀ (it : Obj) h tk, it.cls = .type "list_reverseiterator" → Fr h₀ env.locals h (fun y => if y = x then some v else m y) → News h₀ env.locals h ((I, it) :: news) →
      wpAny (model prog w) A (execs body env) (TPost h₀ env.locals { s with heap := h, toks := tk } I it (ax, W.listOf vs.toArray n) (J m₀ r) Q) E { s with heap := h, toks := tk })
    (fin : ∀ m news, J m₀ [] m news → ∀ h tk, Fr h₀ env.locals h m → News h₀ env.locals h news → Q .next { s with heap := h, toks := tk }) :
    wpAny (model prog w) A (pyIter (.ref I)) (fun it s₂ => LoopAtV prog w A h₀ env x body Q E it s₂) E s := by
  have off : ∀ {l : List (Addr × Obj)} {it : Obj}, (∀ q ∈ l, q.1 ≠ I) → OffI I it l := by
    intro l it
    induction l with
    | nil => intro _; trivial
    | cons p r ih => intro h; exact ⟨.inl (h p (.head _)), ih fun q hq => h q (.tail _ hq)⟩
  exact iter_revUnr hh F N (off hof) hm rfl rfl (rev_ind (J m₀) turn fin _ _ _ start)
theorem nm_zero {gb h : Heap} {L a : Addr} {o : Obj} {l : List (Addr × Obj)} (_ : News gb L h ((a, o) :: l)) : ∃ x, x = a := ⟨_, rfl⟩
theorem nm_one {gb h : Heap} {L a b : Addr} {o o' : Obj} {l : List (Addr × Obj)} (_ : News gb L h ((b, o') :: (a, o) :: l)) : ∃ x, x = a := ⟨_, rfl⟩
theorem ne_new {gb h : Heap} {L a b : Addr} {o : Obj} {news : List (Addr × Obj)} (N : News gb L h news) (hm : (a, o) ∈ news) (hn : h.get? b = none) : @Ne Nat a b := fun q => by
  have := (N _ hm).1
  have q' : a = b := q
  rw [q', hn] at this; cases this
theorem fr_eq {gb h : Heap} {L : Addr} {m m' : Str → Option Value} (F : Fr gb L h m) (e : ∀ y, m y = m' y) : Fr gb L h m' := by
  have : m = m' := funext e
  rw [← this]; exact F
end Mine
end
section
open PySem PySem.W PySem.Calls PyProof.Rows
namespace Mine



def Mp (m₀ : Str → Option Value) (r : Int) (t : Tok) (q ad : Option Value) : Str → Option Value := fun z =>
  if z = Str.ofString "a_digit" then ad else if z = Str.ofString "q_digit" then q else if z = Str.ofString "r" then some (.int r t) else m₀ z
theorem mp_self {m₀ : Str → Option Value} {r : Int} {t : Tok} (h : m₀ (Str.ofString "r") = some (.int r t)) : m₀ = Mp m₀ r t (m₀ (Str.ofString "q_digit")) (m₀ (Str.ofString "a_digit")) := by
  funext z
  unfold Mp
  by_cases h1 : z = Str.ofString "a_digit"
  · rw [if_pos h1, h1]
  rw [if_neg h1]
  by_cases h2 : z = Str.ofString "q_digit"
  · rw [if_pos h2, h2]
  rw [if_neg h2]
  by_cases h3 : z = Str.ofString "r"
  · rw [if_pos h3, h3, h]
  rw [if_neg h3]
theorem mp_step {m₀ : Str → Option Value} {r r' : Int} {t t' : Tok} {q ad q' ad' : Option Value} (y : Str) :
    (if y = Str.ofString "r" then some (.int r' t') else if y = Str.ofString "q_digit" then q' else if y = Str.ofString "a_digit" then ad' else Mp m₀ r t q ad y) = Mp m₀ r' t' q' ad' y := by
  have n1 : ¬ (Str.ofString "a_digit" = Str.ofString "r") := by decide
  have n2 : ¬ (Str.ofString "a_digit" = Str.ofString "q_digit") := by decide
  have n3 : ¬ (Str.ofString "q_digit" = Str.ofString "r") := by decide
  unfold Mp
  by_cases h1 : y = Str.ofString "a_digit"
  · rw [h1, if_neg n1, if_neg n2, if_pos rfl, if_pos rfl]
  by_cases h2 : y = Str.ofString "q_digit"
  · rw [h2, if_neg n3, if_pos rfl, if_neg (Ne.symm n2), if_pos rfl]
  by_cases h3 : y = Str.ofString "r"
  · rw [h3, if_pos rfl, if_neg (Ne.symm n1), if_neg (Ne.symm n3), if_pos rfl]
  rw [if_neg h3, if_neg h2, if_neg h1, if_neg h1, if_neg h2, if_neg h3, if_neg h1, if_neg h2, if_neg h3]
theorem fr_mp {gb h : Heap} {L : Addr} {m₀ : Str → Option Value} {r r' : Int} {t t' : Tok} {q ad q' ad' : Option Value}
    (F : Fr gb L h (fun y => if y = Str.ofString "r" then some (.int r' t') else if y = Str.ofString "q_digit" then q' else if y = Str.ofString "a_digit" then ad' else if y = Str.ofString "a_digit" then ad else if y = Str.ofString "q_digit" then q else if y = Str.ofString "r" then some (.int r t) else m₀ y)) :
    Fr gb L h (Mp m₀ r' t' q' ad') := fr_eq F fun y => mp_step (m₀ := m₀) (r := r) (t := t) (q := q) (ad := ad) y
theorem mp_step' {m₀ : Str → Option Value} {r r' : Int} {t t' : Tok} {q ad q' ad' : Option Value} (y : Str) :
    (if y = Str.ofString "r" then some (.int r' t') else if y = Str.ofString "q_digit" then q' else if y = Str.ofString "a_digit" then ad' else if y = Str.ofString "a_digit" then ad else if y = Str.ofString "q_digit" then q else if y = Str.ofString "r" then some (.int r t) else m₀ y) = Mp m₀ r' t' q' ad' y := mp_step y
def JD (b : Int) (n : Nat) (Dq : Addr) (led : List (Addr × Obj)) (fin : Int × List Int) (m₀ : Str → Option Value) (l : List Value) (m : Str → Option Value) (news : List (Addr × Obj)) : Prop :=
  ∃ (ls : List Int) (r : Int) (t : Tok) (q ad : Option Value) (vq : List Value) (nq : List Int) (mq : Nat), IntsAre l ls ∧ IntsAre vq nq ∧ m = Mp m₀ r t q ad ∧ news = (Dq, W.listOf vq.toArray mq) :: led ∧ 0 ≤ r ∧ r < b ∧ (∀ d ∈ ls, 0 ≤ d ∧ d < 2 ^ n) ∧ dv b n ls r nq = fin ∧ nq.length + ls.length ≤ 64

local macro_rules | `(tactic| walk_at "call builtin:list.reverse") => `(tactic| refine stopRev ?_)
theorem c_divmod_pos : ∀ (w : World) (g : Heap) (_ : Gnd w g) (dp un : Nat) (fr : Option (List Env)) (gd : Option (List Code)) (s : Shared) (Q E : Value → Shared → Prop) (a b : Int) (ta tb : Tok) (t : TP),
    (hd.heap_39 w.params).In g → Kp g s.heap → TS g s.heap t → 0 ≤ a → a < 2 ^ 64 → 2 ≤ b → b < 2 ^ 30 → dp + 90 < recursionLimit → un + 800 < cLine →
    (∀ d h' tk c t1 t2 t', KpX [30, 37] s.heap h' → TS g h' t' → TN s.heap t t' → s.heap.get? d = none → h'.get? d = some (tup [.int (a / b) t1, .int (a % b) t2] c) → Q (.ref d) { s with heap := h', toks := tk }) →
    wpAny (model PySem.Challenge.rw_pe0136_01.row.prog w) (arnd dp fr gd un) (call (.ref 49) [.int a ta, .int b tb]) Q E s := by
  w_top off
  k_fill
  intro w g G dp un fr gd s Q E a b ta tb t _ e hT ha0 ha1 hb0 hb1 hdp hun ret
  have G0 := G
  obtain ⟨X0, p, loose, mean, mg, mb, T0⟩ := G
  obtain ⟨gb, hgb⟩ : ∃ gb, gb = hideAll s.heap [30, t.c1, 37, t.c2] := ⟨_, rfl⟩
  have e' := hT.off e hgb
  have X := X0.keeps e'
  have T := T0.keeps e'
  have hN := hT.led
  k_dflt (refine' entT gb hN hgb ?k3 ?k5 ?k6 ?k7 ?k8 ?k9 ?kB ?c2 ?c3 ?c4 ?c5 ?_; (case k3 => k_asm); (case k5 => k_asm); (case k6 => k_is); (case k7 => k_is); (case k8 => omega); (case k9 => exact BindsTo.of_eq rfl); (case kB => exact locs rfl); (case c5 => decide); (case c2 => exact rfl); (case c3 => exact rfl); (case c4 => exact rfl); k_whole; intro L' h' F' N'; (try dsimp only); (try k_fold))
  have hbt := bits_two hb0
  have hbl : Builtin.Int.intBits b ≤ 30 := bits_le (by omega) hb1
  k_steps
  (rename News _ _ _ _ => N9); (rename Fr _ _ _ _ => F9)
  have e9 : Kp g _ := e'.trans F9.keep
  have kp0 := kpx_nil hN hgb F9 N9 (by (repeat' (first | exact List.forall_mem_nil _ | refine List.forall_mem_cons.mpr ⟨?_, ?_⟩ | exact Or.inl (by k_mem) | exact Or.inr (by k_mem))))
  have hT9 := hT.kp kp0
  refine c_int2digits w g G0 _ _ _ _ _ _ _ a _ _ _ t.c1 t.o1 t.k1 X0 e9 hT.g1 hT.g3 hT9.h1 hT9.a1 hT.t1 ha0 ha1 (by omega) (by omega) ?_ ?_ ?_
  · show dp + 1 + 80 < recursionLimit
    exact rlim hdp (by decide)
  · show un + 3 + 700 < cLine
    exact clim hun (by decide)
  intro D h1 tk1 vs ns c1 o1 k1 kp1 sD0 sD I1 hlen dg1 s30 sc1 tb1 new1
  obtain ⟨TS1, TN1⟩ := ts_one e9 hT9 kp1 s30 sc1 tb1 new1
  have n37 : ∀ a ∈ [30], gb.get? a = none := fun a ha => by rw [List.mem_singleton.mp ha]; exact (N9 _ (.head _)).2.2
  have F2 := fr_after F9 kp1 (fun hm => absurd (List.mem_singleton.mp hm) (Ne.symm (N9 _ (.head _)).2.1)) n37
  have N2 := ts_news F9 N9 (by (repeat' (first | exact List.forall_mem_nil _ | refine List.forall_mem_cons.mpr ⟨by k_mem, ?_⟩))) TS1 TN1 (nw_new F9 sD0 sD nw_nil)
  (try dsimp only at sD0)
  have e2 : Kp g h1 := e'.trans F2.keep
  clear F9 N9
  dsimp only [TP.led, List.cons_append, List.nil_append] at N2
  (try dsimp only)
  k_steps
  (rename News _ _ _ _ => N9); (rename Fr _ _ _ _ => F9)
  rw [Int.toNat_natCast] at dg1
  have hbita : Builtin.Int.intBits a ≤ 64 := intBits_le_64 (by omega) (by omega)
  have hql := len_facts (b := (Builtin.Int.intBits a : Int)) (n := (Builtin.Int.intBits b : Int)) (by omega) (by omega) rfl
  rw [← hlen] at hql
  have hns : ns.length ≤ 64 := by
    refine Int.ofNat_le.mp (Int.le_of_lt_add_one ?_)
    rw [hlen]
    refine Int.ediv_lt_of_lt_mul (by omega) ?_
    have : (64 + 1) * 2 ≤ (64 + 1) * (Builtin.Int.intBits b : Int) := Int.mul_le_mul_of_nonneg_left (by omega) (by omega)
    show _ < (((64 : Nat) : Int) + 1) * _
    omega
  have hds0 := dg_mem dg1
  have hds : ∀ d ∈ ns.reverse, 0 ≤ d ∧ d < 2 ^ (Builtin.Int.intBits b) := fun d hd => hds0 d (List.mem_reverse.mp hd)
  have hlt : Lt2 a (Builtin.Int.intBits b * ns.length) := lt2_of_bits ha0 (by
    refine Int.ofNat_le.mp ?_
    rw [Int.natCast_mul]; exact hql.1)
  have htot := div_total (b := b) ha0 (by omega) dg1 hlt (fun d hd => (hds0 d hd).1)
  have hdvl := dv_val (b := b) (by omega) (Builtin.Int.intBits b) ns.reverse 0 [] (Int.le_refl _) (by omega) (fun d hd => (hds d hd).1)
  obtain ⟨lq, hlq⟩ := nm_one N9
  subst hlq
  obtain ⟨I, hI9⟩ := nm_zero N9
  subst hI9
  refine' rev_loop rfl F9 N9 ?off ?mem (JD b (Builtin.Int.intBits b) lq [(30, o1), (c1, k1), (37, t.o2), (t.c2, t.k2), (D, W.listOf vs.toArray 0)] (dv b (Builtin.Int.intBits b) ns.reverse 0 [])) ?start ?turn ?fin
  case off =>
    (rename _ ∧ _ => l9)
    (repeat' (first | exact List.forall_mem_nil _ | refine List.forall_mem_cons.mpr ⟨neN (by (try dsimp only); omega), ?_⟩))
  case mem => k_mem
  case start =>
    exact ⟨ns.reverse, 0, _, _, _, [], [], 0, ints_rev I1, .nil, mp_self rfl, rfl, Int.le_refl _, by omega, hds, rfl, by simpa using hns⟩
  case turn =>
    rintro v r m news ⟨ls, r0, t0, q0, ad0, vq, nq, mq, hI, hIq, rfl, rfl, hr0, hr1, hls, hdv, hlen2⟩ it h3 tk3 hit F3 N3
    cases hI with
    | cons d td hI =>
    rename_i ls
    dsimp only [Mp] at F3
    clear F9 N9
    clear hql htot hdvl hlt hbita hns hlen
    k_steps
    have hd := hls d (.head _)
    have hB := dv_bound hr0 hr1 hd.1 hd.2 hb1 hbl
    rw [Int.toNat_natCast]
    refine c_div2n1n w g G0 _ _ _ _ _ _ _ _ _ _ _ _ _ X0 (e'.trans F3.keep) hB.1 hB.2.1 (by omega) hb1 (by omega) ?_ ?_ ?_
    · show dp + 1 + 1 < recursionLimit
      exact rlim hdp (by decide)
    · show un + 3 + 8 < cLine
      exact clim hun (by decide)
    intro tt h4 tk4 c4 t41 t42 kp4 hn4 hg4
    have F4 := fr_kp F3 kp4
    have N4 := nw_new F3 hn4 hg4 (nw_kp N3 kp4)
    have ne1 := ne_new N3 (.tail _ (.head _)) hn4
    have ne2 := ne_new N3 (.head _) hn4
    have hvq : vq.length ≤ 64 := by have := hIq.length; have : nq.length + (d :: ls).length ≤ 64 := hlen2; omega
    clear F3 N3
    (try dsimp only)
    k_steps
    (rename News _ _ _ _ => N9); (rename Fr _ _ _ _ => F9)
    rw [List.push_toArray] at N9
    have F9' := fr_mp F9
    refine ⟨_, _, _, _, rfl, F9', fun q hq => N9 q (.tail _ hq), ?_, ?_, ls, _, t42, _, _, _, nq ++ [_], mq + 1, hI, ints_snoc hIq, rfl, rfl, Int.emod_nonneg _ (by omega), Int.emod_lt_of_pos _ (by omega), fun d hd => hls d (.tail _ hd), hdv, ?_⟩
    · (repeat' (first | exact List.forall_mem_nil _ | refine List.forall_mem_cons.mpr ⟨neN (by (try dsimp only); omega), ?_⟩))
    · k_mem
    · rw [List.length_append]
      have : nq.length + (d :: ls).length ≤ 64 := hlen2
      simp only [List.length_cons, List.length_nil] at this ⊢
      omega
  case fin =>
    rintro m news ⟨ls, r0, t0, q0, ad0, vq, nq, mq, hI, hIq, rfl, rfl, hr0, hr1, hls, hdv, hlen2⟩ h3 tk3 F3 N3
    cases hI
    rw [show dv b (Builtin.Int.intBits b) [] r0 nq = (r0, nq) from rfl] at hdv
    rw [← hdv] at htot hdvl
    dsimp only at htot hdvl
    dsimp only [Mp] at F3
    clear F9 N9
    have hvq : vq.length ≤ 64 := by have := hIq.length; have : nq.length + 0 ≤ 64 := hlen2; omega
    k_steps
    refine Stop.mk ?_
    k_dflt (refine' kl_reverse ?F ?N (rfl : _ = List.reverse _) ?U ?z ?_; (case F => k_asm); (case N => k_asm); (case U => k_upd); (case z => (simp only [sizeLine_eq]; omega)))
    intro h8 F8 N8
    (try k_sweep)
    k_steps
    (rename News _ _ _ _ => N10); (rename Fr _ _ _ _ => F10)
    have e10 : Kp g _ := e'.trans F10.keep
    have TS10 := TS1.at N10 (by (repeat' (first | exact List.forall_mem_nil _ | refine List.forall_mem_cons.mpr ⟨by k_mem, ?_⟩)))
    have gq : g.get? lq = none := by
      cases z : g.get? lq with
      | none => rfl
      | some o => have := e' _ _ z; rw [(N10 _ (.head _)).2.2] at this; cases this
    have hl1 : nq.length = ns.length := by have := hdvl.2.2.2.1; simpa using this
    have hnq : ∀ d ∈ nq, 0 ≤ d := hdvl.2.2.2.2 (fun _ h => nomatch h)
    have hl2 : nq.reverse.length = ns.length := by rw [List.length_reverse]; exact hl1
    refine c_digits2int w g G0 _ _ _ _ _ _ _ lq _ nq.reverse _ _ _ t.c2 t.o2 t.k2 X0 e10 hT.g2 hT.g4 TS10.h2 TS10.a2 hT.t2 (N10.get (.head _)) gq (ints_rev hIq) (by rw [hl2]; exact hns) (getD_nn fun d hd => hnq d (List.mem_reverse.mp hd)) ?_ (by omega) (by omega) ?_ ?_ ?_
    · rw [hl2, Int.toNat_natCast, htot.1]
      have := Int.ediv_le_self b ha0
      omega
    · show dp + 1 + 80 < recursionLimit
      exact rlim hdp (by decide)
    · show un + 3 + 700 < cLine
      exact clim hun (by decide)
    intro h11 tk11 t11 c2 o2 k2 kp11 s37 sc2 tb2 new2
    rw [hl2, Int.toNat_natCast, htot.1]
    obtain ⟨TS2, TN2⟩ := ts_two e10 TS10 kp11 s37 sc2 tb2 new2
    have F12 := fr_after F10 kp11 (fun hm => absurd (List.mem_singleton.mp hm) (Ne.symm (N10 _ (.tail _ (.tail _ (.tail _ (.head _))))).2.1)) (fun a ha => by rw [List.mem_singleton.mp ha]; exact (N10 _ (.tail _ (.tail _ (.tail _ (.head _))))).2.2)
    have N12 := ts_news F10 N10 (by (repeat' (first | exact List.forall_mem_nil _ | refine List.forall_mem_cons.mpr ⟨by k_mem, ?_⟩))) TS2 TN2 nw_nil
    have TN1s := TN1.back kp0
    have kp10 := ts_kpx (t' := ⟨o1, c1, k1, t.o2, t.c2, t.k2⟩) hN hgb F10 N10 (by (repeat' (first | exact List.forall_mem_nil _ | refine List.forall_mem_cons.mpr ⟨by k_mem, ?_⟩))) TN1s
    have TNs := TN.trans hT TN1s kp10 TS10 TN2
    clear F10 N10
    dsimp only [TP.led, List.cons_append, List.nil_append] at N12
    (try dsimp only)
    k_steps
    (rename News _ _ _ _ => N13); (rename Fr _ _ _ _ => F13)
    (try dsimp only)
    have kp13 := ts_kpx (t' := ⟨o1, c1, k1, o2, c2, k2⟩) hN hgb F13 N13 (by (repeat' (first | exact List.forall_mem_nil _ | refine List.forall_mem_cons.mpr ⟨by k_mem, ?_⟩))) TNs
    have fr13 := ts_fresh hgb (N13 _ (.head _)).2.2 TNs (neN (by dsimp only; omega)) (neN (by dsimp only; omega)) (neN (by dsimp only; omega)) (neN (by dsimp only; omega))
    have g13 := N13.get (.head _)
    rw [htot.2] at g13
    exact ret _ _ _ _ _ _ _ kp13 (TS2.at N13 (by (repeat' (first | exact List.forall_mem_nil _ | refine List.forall_mem_cons.mpr ⟨by k_mem, ?_⟩)))) TNs fr13 g13
end Mine
end
section
open PySem PySem.W PySem.Calls PyProof.Rows
namespace Mine


theorem c_int_divmod : ∀ (w : World) (g : Heap) (_ : Gnd w g) (dp un : Nat) (fr : Option (List Env)) (gd : Option (List Code)) (s : Shared) (Q E : Value → Shared → Prop) (a b : Int) (ta tb : Tok) (t : TP),
    (hd.heap_39 w.params).In g → Kp g s.heap → TS g s.heap t → 0 ≤ a → a < 2 ^ 64 → 2 ≤ b → b < 2 ^ 30 → dp + 100 < recursionLimit → un + 900 < cLine →
    (∀ d h' tk c t1 t2 t', KpX [30, 37] s.heap h' → TS g h' t' → TN s.heap t t' → s.heap.get? d = none → h'.get? d = some (tup [.int (a / b) t1, .int (a % b) t2] c) → Q (.ref d) { s with heap := h', toks := tk }) →
    wpAny (model PySem.Challenge.rw_pe0136_01.row.prog w) (arnd dp fr gd un) (call (.ref 56) [.int a ta, .int b tb]) Q E s := by
  w_top off
  k_fill
  intro w g G dp un fr gd s Q E a b ta tb t _ e hT ha0 ha1 hb0 hb1 hdp hun ret
  have G0 := G
  obtain ⟨X0, p, loose, mean, mg, mb, T0⟩ := G
  obtain ⟨gb, hgb⟩ : ∃ gb, gb = hideAll s.heap [30, t.c1, 37, t.c2] := ⟨_, rfl⟩
  have e' := hT.off e hgb
  have X := X0.keeps e'
  have T := T0.keeps e'
  have hN := hT.led
  k_dflt (refine' entT gb hN hgb ?k3 ?k5 ?k6 ?k7 ?k8 ?k9 ?kB ?c2 ?c3 ?c4 ?c5 ?_; (case k3 => k_asm); (case k5 => k_asm); (case k6 => k_is); (case k7 => k_is); (case k8 => omega); (case k9 => exact BindsTo.of_eq rfl); (case kB => exact locs rfl); (case c5 => decide); (case c2 => exact rfl); (case c3 => exact rfl); (case c4 => exact rfl); k_whole; intro L' h' F' N'; (try dsimp only); (try k_fold))
  k_steps
  (rename News _ _ _ _ => N9); (rename Fr _ _ _ _ => F9)
  have kp0 := kpx_nil hN hgb F9 N9 (by (repeat' (first | exact List.forall_mem_nil _ | refine List.forall_mem_cons.mpr ⟨?_, ?_⟩ | exact Or.inl (by k_mem) | exact Or.inr (by k_mem))))
  refine c_divmod_pos w g G0 _ _ _ _ _ _ _ a b _ _ t X0 (e'.trans F9.keep) (hT.kp kp0) ha0 ha1 hb0 hb1 ?_ ?_ ?_
  · show dp + 1 + 90 < recursionLimit
    exact rlim hdp (by decide)
  · show un + 3 + 800 < cLine
    exact clim hun (by decide)
  intro d h1 tk1 c1 t1 t2 t' kp1 TS1 TN1 hn1 hg1
  (try dsimp only)
  refine ret _ _ _ _ _ _ t' ((KpX.of_kp kp0).trans kp1) TS1 (TN1.back kp0) ?_ hg1
  cases z : s.heap.get? d with
  | none => rfl
  | some o => have := kp0 _ _ z; rw [hn1] at this; cases this
end Mine
end
section
open PySem PySem.W PySem.Calls PyProof.Rows PySem.Spec PyProof.V
namespace Mine

theorem cEnd {h₀ : Heap} {L I C D : Addr} {m : Str → Option Value} {s₁ : Shared} {oI oC oD : Obj} {S : List (Addr × Obj) → Prop} {rest : Value → List (Addr × Obj) → Prop} {y : Value} {h' : Heap} {tk : Nat} {news' : List (Addr × Obj)}
    (F : Fr h₀ L h' m) (N : News h₀ L h' ((I, oI) :: (C, oC) :: (D, oD) :: news')) (off : LCg.Off3 I C D news') (hS : S news') (r : rest y news') :
    LCg.CompEnd h₀ L m s₁ I oI C oC D oD S rest y { s₁ with heap := h', toks := tk } := LCg.CompEnd.intro F N news' (fun _ h => h) off hS r
def REnd (h₀ : Heap) (L : Addr) (s₁ : Shared) (I : Addr) (it : Obj) (J : (Str → Option Value) → List (Addr × Obj) → Prop) (s₂ : Shared) : Prop :=
  ∃ h' tk m' news', s₂ = { s₁ with heap := h', toks := tk } ∧ Fr h₀ L h' m' ∧ News h₀ L h' ((I, it) :: news') ∧ (∀ p ∈ news', p.1 ≠ I) ∧ J m' news'
def RPost (h₀ : Heap) (L : Addr) (s₁ : Shared) (I : Addr) (it : Obj) (J : (Str → Option Value) → List (Addr × Obj) → Prop) (Q : Flow → Shared → Prop) (f : Flow) (s₂ : Shared) : Prop :=
  match f with
  | .ret v => Q (.ret v) s₂
  | .brk => Q .next s₂
  | _ => REnd h₀ L s₁ I it J s₂
theorem rpost_unr {h₀ : Heap} {L : Addr} {s₁ : Shared} {I : Addr} {it : Obj} {J R : (Str → Option Value) → List (Addr × Obj) → Prop} {Q : Flow → Shared → Prop} {f : Flow} {s₂ : Shared} (h : ∀ m n, J m n → R m n) (p : RPost h₀ L s₁ I it J Q f s₂) : UnrPost h₀ L s₁ I it R Q f s₂ := by
  have key : REnd h₀ L s₁ I it J s₂ → UnrEnd h₀ L s₁ I it R s₂ := by
    rintro ⟨h', tk', m', news', e1, e2, e3, e4, e6⟩
    exact ⟨h', tk', m', news', e1, e2, e3, e4, h _ _ e6⟩
  cases f with
  | ret v => exact p
  | brk => exact p
  | next => exact key p
  | cont => exact key p
theorem range_ind {prog : Program} {w : World} {A : Around} {E : Value → Shared → Prop} {s : Shared} {env : Env} {h₀ : Heap} {x : Str} {body : List Stmt} {Q : Flow → Shared → Prop} {I : Addr} {a : Int} {n : Nat} (J : Nat → Nat → (Str → Option Value) → List (Addr × Obj) → Prop)
    (turn : ∀ k i m news, J (k + 1) i m news → ∀ t h tk, Fr h₀ env.locals h (fun y => if y = x then some (.int (a + (i : Int)) t) else m y) → News h₀ env.locals h ((I, itR (a + ((i + 1 : Nat) : Int)) ((n : Int) - ((i + 1 : Nat) : Int))) :: news) →
      wpAny (model prog w) A (execs body env) (RPost h₀ env.locals { s with heap := h, toks := tk } I (itR (a + ((i + 1 : Nat) : Int)) ((n : Int) - ((i + 1 : Nat) : Int))) (J k (i + 1)) Q) E { s with heap := h, toks := tk })
    (fin : ∀ i m news, J 0 i m news → ∀ h tk, Fr h₀ env.locals h m → News h₀ env.locals h news → Q .next { s with heap := h, toks := tk }) :
    ∀ k i m news, J k i m news → RangeRest prog w A E h₀ env x body Q s I a n k i m news
  | 0, i, m, news, j => fun h tk F N => fin i m news j h tk F N
  | k + 1, i, m, news, j => fun t h tk F N => wpAny_mono (turn k i m news j t h tk F N) (fun f s₂ p => rpost_unr (fun m' n' => range_ind J turn fin k (i + 1) m' n') p) fun _ _ e => e
theorem range_loop {prog : Program} {w : World} {A : Around} {E : Value → Shared → Prop} {s : Shared} {env : Env} {h₀ : Heap} {x : Str} {body : List Stmt} {Q : Flow → Shared → Prop} {r : Addr} {a₀ b₀ : Int} {t₀ u₀ v₀ : Tok} {m₀ : Str → Option Value} {news : List (Addr × Obj)}
    (hh : A.handled = none) (hr : IsRange s.heap r a₀ b₀ 1 t₀ u₀ v₀) (n : Nat) (hsmall : Builtin.Range.small a₀ b₀ 1 = true) (hn : Builtin.Range.rangeSize a₀ b₀ 1 = (n : Int)) (F : Fr h₀ env.locals s.heap m₀) (N : News h₀ env.locals s.heap news)
    (J : (Str → Option Value) → Nat → Nat → (Str → Option Value) → List (Addr × Obj) → Prop) (start : J m₀ n 0 m₀ news)
    (turn : ∀ I : Addr, (∀ p ∈ news, p.1 < I) → ∀ k i m news, J m₀ (k + 1) i m news → (∀ p ∈ news, p.1 ≠ I) → ∀ t h tk, Fr h₀ env.locals h (fun y => if y = x then some (.int (a₀ + (i : Int)) t) else m y) → News h₀ env.locals h ((I, itR (a₀ + ((i + 1 : Nat) : Int)) ((n : Int) - ((i + 1 : Nat) : Int))) :: news) →
      wpAny (model prog w) A (execs body env) (RPost h₀ env.locals { s with heap := h, toks := tk } I (itR (a₀ + ((i + 1 : Nat) : Int)) ((n : Int) - ((i + 1 : Nat) : Int))) (J m₀ k (i + 1)) Q) E { s with heap := h, toks := tk })
    (fin : ∀ i m news, J m₀ 0 i m news → ∀ h tk, Fr h₀ env.locals h m → News h₀ env.locals h news → Q .next { s with heap := h, toks := tk }) :
    wpAny (model prog w) A (pyIter (.ref r)) (fun it s₂ => LoopAtV prog w A h₀ env x body Q E it s₂) E s := by
  refine iter_rangeUnr hh hr hsmall hn F N fun I hI => range_ind (fun k i m news => J m₀ k i m news ∧ ∀ p ∈ news, p.1 ≠ I) (fun k i m news j t h tk F N => ?_) (fun i m news j => fin i m news j.1) n 0 m₀ news ⟨start, fun p hp => Nat.ne_of_lt (hI p hp)⟩
  refine wpAny_mono (turn I hI k i m news j.1 j.2 t h tk F N) (fun f s₂ q => ?_) fun _ _ e => e
  have key : REnd h₀ env.locals { s with heap := h, toks := tk } I (itR (a₀ + ((i + 1 : Nat) : Int)) ((n : Int) - ((i + 1 : Nat) : Int))) (J m₀ k (i + 1)) s₂ →
      REnd h₀ env.locals { s with heap := h, toks := tk } I (itR (a₀ + ((i + 1 : Nat) : Int)) ((n : Int) - ((i + 1 : Nat) : Int))) (fun m news => J m₀ k (i + 1) m news ∧ ∀ p ∈ news, p.1 ≠ I) s₂ := by
    rintro ⟨h', tk', m', news', e1, e2, e3, e4, e6⟩
    exact ⟨h', tk', m', news', e1, e2, e3, e4, e6, e4⟩
  cases f with
  | ret v => exact q
  | brk => exact q
  | next => exact key q
  | cont => exact key q

/-- a table from the places 0, 1, .. to ints, as data -/
def enD (k : Nat) : List Int → List (PyData × PyData)
  | [] => []
  | c :: cs => (.int k, .int c) :: enD (k + 1) cs
theorem enD_len : ∀ (k : Nat) (cs : List Int), (enD k cs).length = cs.length
  | _, [] => rfl
  | k, _ :: cs => congrArg (· + 1) (enD_len (k + 1) cs)
theorem same_ints (a b : Int) : Spec.same (.int a) (.int b) = (a == b) := rfl
theorem enD_look : ∀ (k : Nat) (cs : List Int) (i : Nat), Spec.lookup (.int ((k + i : Nat) : Int)) (enD k cs) = if i < cs.length then some (.int (cs.getD i 0)) else none
  | _, [], i => by simp [enD, Spec.lookup]
  | k, c :: cs, 0 => by
    show (if Spec.same (.int (k : Int)) (.int ((k + 0 : Nat) : Int)) then some (PyData.int c) else _) = _
    rw [same_ints]; simp
  | k, c :: cs, i + 1 => by
    show (if Spec.same (.int (k : Int)) (.int ((k + (i + 1) : Nat) : Int)) then some (PyData.int c) else Spec.lookup _ (enD (k + 1) cs)) = _
    rw [same_ints, if_neg (by simp; omega), show k + (i + 1) = k + 1 + i from by omega, enD_look (k + 1) cs i]
    simp
theorem enD_any : ∀ (k : Nat) (cs : List Int) (i : Nat), (enD k cs).any (fun p => Spec.same p.1 (.int ((k + i : Nat) : Int))) = decide (i < cs.length)
  | _, [], i => by simp [enD]
  | k, c :: cs, 0 => by
    show (Spec.same (.int (k : Int)) (.int ((k + 0 : Nat) : Int)) || _) = _
    rw [same_ints]; simp
  | k, c :: cs, i + 1 => by
    show (Spec.same (.int (k : Int)) (.int ((k + (i + 1) : Nat) : Int)) || (enD (k + 1) cs).any _) = _
    rw [same_ints, show k + (i + 1) = k + 1 + i from by omega, enD_any (k + 1) cs i, show (((k : Nat) : Int) == ((k + 1 + i : Nat) : Int)) = false from by simp; omega]
    simp
theorem enD_snoc (v : Int) : ∀ (k : Nat) (cs : List Int), enD k cs ++ [(.int ((k + cs.length : Nat) : Int), .int v)] = enD k (cs ++ [v])
  | k, [] => rfl
  | k, c :: cs => by
    show (PyData.int k, PyData.int c) :: (enD (k + 1) cs ++ _) = (PyData.int k, PyData.int c) :: enD (k + 1) (cs ++ [v])
    rw [← enD_snoc v (k + 1) cs, show k + (c :: cs).length = k + 1 + cs.length from by simp; omega]
theorem enD_set (v : Int) : ∀ (k : Nat) (cs : List Int) (i : Nat), (enD k cs).map (fun p => if Spec.same p.1 (.int ((k + i : Nat) : Int)) then (p.1, PyData.int v) else p) = enD k (cs.set i v)
  | k, [], i => rfl
  | k, c :: cs, 0 => by
    show (if Spec.same (.int (k : Int)) (.int ((k + 0 : Nat) : Int)) then _ else _) :: (enD (k + 1) cs).map _ = (PyData.int k, PyData.int v) :: enD (k + 1) cs
    rw [same_ints, if_pos (by simp)]
    congr 1
    refine (List.map_congr_left fun p hp => ?_).trans (List.map_id _)
    have : ∀ (j : Nat) (l : List Int), k < j → ∀ p ∈ enD j l, Spec.same p.1 (.int ((k + 0 : Nat) : Int)) = false := by
      intro j l
      induction l generalizing j with
      | nil => intro _ p hp; cases hp
      | cons x l ih =>
        intro hj p hp
        rcases List.mem_cons.mp hp with rfl | hp
        · rw [same_ints]; simp; omega
        · exact ih (j + 1) (by omega) p hp
    rw [this (k + 1) cs (by omega) p hp]; rfl
  | k, c :: cs, i + 1 => by
    show (if Spec.same (.int (k : Int)) (.int ((k + (i + 1) : Nat) : Int)) then _ else _) :: (enD (k + 1) cs).map _ = (PyData.int k, PyData.int c) :: enD (k + 1) (cs.set i v)
    rw [same_ints, if_neg (by simp; omega), show k + (i + 1) = k + 1 + i from by omega, enD_set v (k + 1) cs i]
theorem enD_put_new {v : Int} {cs : List Int} : putD (.int (cs.length : Int)) (.int v) (enD 0 cs) = enD 0 (cs ++ [v]) := by
  unfold putD
  have a := enD_any 0 cs cs.length
  rw [Nat.zero_add] at a
  rw [a, decide_eq_false (Nat.lt_irrefl _), if_neg Bool.false_ne_true]
  have b := enD_snoc v 0 cs
  rw [Nat.zero_add] at b
  exact b
theorem enD_put_old {v : Int} {cs : List Int} {i : Nat} (hi : i < cs.length) : putD (.int (i : Int)) (.int v) (enD 0 cs) = enD 0 (cs.set i v) := by
  unfold putD
  have a := enD_any 0 cs i
  rw [Nat.zero_add] at a
  rw [a, decide_eq_true hi, if_pos rfl]
  have b := enD_set v 0 cs i
  rw [Nat.zero_add] at b
  exact b
theorem enD_look0 (cs : List Int) (i : Nat) : Spec.lookup (.int (i : Int)) (enD 0 cs) = if i < cs.length then some (.int (cs.getD i 0)) else none := by
  have := enD_look 0 cs i
  rw [Nat.zero_add] at this
  exact this
/-- an object that is such a table -/
def DI (w : World) (o : Obj) (cs : List Int) : Prop := ∃ kvs, o.IsDictOf (intKind PySem.Challenge.rw_pe0136_01.row.prog w) kvs ∧ FlatPairs PyData.int kvs (enD 0 cs)

/-- the figures of h to the base p, at most k of them -/
def figs (p : Int) : Nat → Int → List Int
  | 0, _ => []
  | k + 1, h => if 0 < h then h % p :: figs p k (h / p) else []
theorem figs_zero (p : Int) (k : Nat) : figs p k 0 = [] := by cases k <;> rfl
end Mine
end
section
open PySem PySem.W PySem.Calls PyProof.Rows
namespace Mine
local macro_rules | `(tactic| walk_at "pyIter ref") => `(tactic| refine stopIter ?_)

def Mf (m₀ : Str → Option Value) (h : Int) (t : Tok) (fg pl : Option Value) : Str → Option Value := fun z =>
  if z = Str.ofString "place" then pl else if z = Str.ofString "figure" then fg else if z = Str.ofString "heap" then some (.int h t) else m₀ z
theorem mf_self {m₀ : Str → Option Value} {r : Int} {t : Tok} (h : m₀ (Str.ofString "heap") = some (.int r t)) : m₀ = Mf m₀ r t (m₀ (Str.ofString "figure")) (m₀ (Str.ofString "place")) := by
  funext z
  unfold Mf
  by_cases h1 : z = Str.ofString "place"
  · rw [if_pos h1, h1]
  rw [if_neg h1]
  by_cases h2 : z = Str.ofString "figure"
  · rw [if_pos h2, h2]
  rw [if_neg h2]
  by_cases h3 : z = Str.ofString "heap"
  · rw [if_pos h3, h3, h]
  rw [if_neg h3]
theorem fr_mf {gb h : Heap} {L : Addr} {m₀ : Str → Option Value} {r r' : Int} {t t' : Tok} {q ad q' ad' : Option Value}
    (F : Fr gb L h (fun y => if y = Str.ofString "figure" then q' else if y = Str.ofString "heap" then some (.int r' t') else if y = Str.ofString "place" then ad' else if y = Str.ofString "place" then ad else if y = Str.ofString "figure" then q else if y = Str.ofString "heap" then some (.int r t) else m₀ y)) :
    Fr gb L h (Mf m₀ r' t' q' ad') := fr_eq F fun y => by
  have n1 : ¬ (Str.ofString "place" = Str.ofString "heap") := by decide
  have n2 : ¬ (Str.ofString "place" = Str.ofString "figure") := by decide
  have n3 : ¬ (Str.ofString "figure" = Str.ofString "heap") := by decide
  unfold Mf
  by_cases h1 : y = Str.ofString "place"
  · rw [h1, if_neg n2, if_neg n1, if_pos rfl, if_pos rfl]
  by_cases h2 : y = Str.ofString "figure"
  · rw [h2, if_pos rfl, if_neg (Ne.symm n2), if_pos rfl]
  by_cases h3 : y = Str.ofString "heap"
  · rw [h3, if_neg (Ne.symm n3), if_pos rfl, if_neg (Ne.symm n1), if_neg (Ne.symm n3), if_pos rfl]
  rw [if_neg h2, if_neg h3, if_neg h1, if_neg h1, if_neg h2, if_neg h3, if_neg h1, if_neg h2, if_neg h3]
theorem fr_mf0 {gb h : Heap} {L : Addr} {m₀ : Str → Option Value} {r : Int} {t : Tok} {q ad ad' : Option Value}
    (F : Fr gb L h (fun y => if y = Str.ofString "place" then ad' else if y = Str.ofString "place" then ad else if y = Str.ofString "figure" then q else if y = Str.ofString "heap" then some (.int r t) else m₀ y)) :
    Fr gb L h (Mf m₀ r t q ad') := fr_eq F fun y => by
  unfold Mf
  by_cases h1 : y = Str.ofString "place"
  · rw [if_pos h1, if_pos h1]
  rw [if_neg h1, if_neg h1, if_neg h1]

def JF (w : World) (g s0 : Heap) (t0 : TP) (a b : Int) (d : Addr) (m₀ : Str → Option Value) (k i : Nat) (m : Str → Option Value) (news : List (Addr × Obj)) : Prop :=
  ∃ (h : Int) (th : Tok) (fg pl : Option Value) (cs : List Int) (o : Obj) (t : TP) (hh : Heap), m = Mf m₀ h th fg pl ∧ news = (d, o) :: t.led ∧ DI w o cs ∧ 0 ≤ h ∧ h ≤ a ∧ (0 < h → cs.length = i) ∧ figs b 5 a = cs ++ figs b k h ∧ cs.length ≤ i ∧ i + k = 5 ∧
    TS g hh t ∧ TN s0 t0 t ∧ @Ne Nat 30 d ∧ @Ne Nat 37 d ∧ @Ne Nat t.c1 d ∧ @Ne Nat t.c2 d

theorem c_figures : ∀ (w : World) (g : Heap) (_ : Gnd w g) (dp un : Nat) (fr : Option (List Env)) (gd : Option (List Code)) (s : Shared) (Q E : Value → Shared → Prop) (a b : Int) (ta tb : Tok) (t : TP),
    (hd.heap_39 w.params).In g → Kp g s.heap → TS g s.heap t → 0 ≤ a → a < 2 ^ 20 → 2 ≤ b → b < 2 ^ 30 → dp + 110 < recursionLimit → un + 1000 < cLine →
    (∀ d h' tk o t', KpX [30, 37] s.heap h' → TS g h' t' → TN s.heap t t' → s.heap.get? d = none → h'.get? d = some o → DI w o (figs b 5 a) → (d == sysModules) = false → Q (.ref d) { s with heap := h', toks := tk }) →
    wpAny (model PySem.Challenge.rw_pe0136_01.row.prog w) (arnd dp fr gd un) (call (.ref 84) [.int a ta, .int b tb]) Q E s := by
  w_top off
  k_fill
  intro w g G dp un fr gd s Q E a b ta tb t _ e hT ha0 ha1 hb0 hb1 hdp hun ret
  have G0 := G
  obtain ⟨X0, p, loose, mean, mg, mb, T0⟩ := G
  obtain ⟨gb, hgb⟩ : ∃ gb, gb = hideAll s.heap [30, t.c1, 37, t.c2] := ⟨_, rfl⟩
  have e' := hT.off e hgb
  have X := X0.keeps e'
  have T := T0.keeps e'
  have hN := hT.led
  k_dflt (refine' entT gb hN hgb ?k3 ?k5 ?k6 ?k7 ?k8 ?k9 ?kB ?c2 ?c3 ?c4 ?c5 ?_; (case k3 => k_asm); (case k5 => k_asm); (case k6 => k_is); (case k7 => k_is); (case k8 => omega); (case k9 => exact BindsTo.of_eq rfl); (case kB => exact locs rfl); (case c5 => decide); (case c2 => exact rfl); (case c3 => exact rfl); (case c4 => exact rfl); k_whole; intro L' h' F' N'; (try dsimp only); (try k_fold))
  k_steps
  (rename News _ _ _ _ => N9); (rename Fr _ _ _ _ => F9)
  refine Stop.mk ?_
  obtain ⟨d, hd9⟩ := nm_zero N9
  subst hd9
  have kp0 := kpx_nil hN hgb F9 N9 (by (repeat' (first | exact List.forall_mem_nil _ | refine List.forall_mem_cons.mpr ⟨?_, ?_⟩ | exact Or.inl (by k_mem) | exact Or.inr (by k_mem))))
  have nd1 : @Ne Nat 30 d := by omega
  have nd2 : @Ne Nat 37 d := by omega
  have nd3 : @Ne Nat t.c1 d := by omega
  have nd4 : @Ne Nat t.c2 d := by omega
  refine' range_loop rfl (by assumption) 5 (by decide) (by decide) F9 N9 (JF w g s.heap t a b d) ?start ?turn ?fin
  case start =>
    exact ⟨a, _, _, _, [], _, t, s.heap, mf_self rfl, rfl, ⟨[], by assumption, .nil⟩, ha0, Int.le_refl _, fun _ => rfl, rfl, Nat.le_refl _, rfl, hT, TN.rfl, nd1, nd2, nd3, nd4⟩
  case turn =>
    rintro I hI k i m news ⟨h, th, fg, pl, cs, o, tc, hh, rfl, rfl, ⟨kvs, hD1, hD2⟩, hh0, hh1, hcs, hfg, hcl, hik, hTc, hTN, q1, q2, q3, q4⟩ hoff tt h3 tk3 F3 N3
    dsimp only [Mf] at F3
    dsimp only [TP.led] at N3
    clear F9 N9
    have I1 := neN (hoff _ (.head _))
    have I2 := neN (hoff _ (.tail _ (.head _)))
    have I3 := neN (hoff _ (.tail _ (.tail _ (.head _))))
    have I4 := neN (hoff _ (.tail _ (.tail _ (.tail _ (.head _)))))
    have I5 := neN (hoff _ (.tail _ (.tail _ (.tail _ (.tail _ (.head _))))))
    dsimp only at I1 I2 I3 I4 I5
    by_cases hpos : 0 < h
    · k_steps
      have kp3 := ts_kpx (t' := tc) hN hgb F3 N3 (by (repeat' (first | exact List.forall_mem_nil _ | refine List.forall_mem_cons.mpr ⟨by k_mem, ?_⟩))) hTN
      have TS3 := hTc.at N3 (by (repeat' (first | exact List.forall_mem_nil _ | refine List.forall_mem_cons.mpr ⟨by k_mem, ?_⟩)))
      refine c_int_divmod w g G0 _ _ _ _ _ _ _ h b _ _ tc X0 (e'.trans F3.keep) TS3 hh0 (by omega) hb0 hb1 ?_ ?_ ?_
      · show dp + 1 + 100 < recursionLimit
        exact rlim hdp (by decide)
      · show un + 3 + 900 < cLine
        exact clim hun (by decide)
      intro d4 h4 tk4 c4 t41 t42 tn kp4 TS4 TN4 hn4 hg4
      have nt : ∀ a ∈ [30, 37], gb.get? a = none := fun a ha => by
        rcases List.mem_cons.mp ha with z | z
        · rw [z]; exact (N3 _ (.tail _ (.tail _ (.head _)))).2.2
        · rw [List.mem_singleton.mp z]; exact (N3 _ (.tail _ (.tail _ (.tail _ (.tail _ (.head _)))))).2.2
      have nL : L' ∉ [30, 37] := fun ha => by
        rcases List.mem_cons.mp ha with z | z
        · exact (N3 _ (.tail _ (.tail _ (.head _)))).2.1 z.symm
        · exact (N3 _ (.tail _ (.tail _ (.tail _ (.tail _ (.head _)))))).2.1 (List.mem_singleton.mp z).symm
      have two : ∀ {a : Nat}, a ≠ 30 → a ≠ 37 → a ∉ [30, 37] := fun h1 h2 hm => (List.mem_cons.mp hm).elim h1 fun z => h2 (List.mem_singleton.mp z)
      have F4 := fr_after F3 kp4 nL nt
      have N4 := nw_new F3 hn4 hg4 (nw_keep N3 kp4 (.head _) (two (by omega) (by omega)) (nw_keep N3 kp4 (.tail _ (.head _)) (two (by omega) (by omega)) (ts_news F3 N3 (by (repeat' (first | exact List.forall_mem_nil _ | refine List.forall_mem_cons.mpr ⟨by k_mem, ?_⟩))) TS4 TN4 nw_nil)))
      have r1 := ne_new N3 (.head _) hn4
      have r2 := ne_new N3 (.tail _ (.head _)) hn4
      have r3 : @Ne Nat tn.c1 d := by
        rcases TN4.n1 with ⟨z, _⟩ | ⟨z, _⟩
        · rw [z]; exact q3
        · exact Ne.symm (ne_new N3 (.tail _ (.head _)) z)
      have r4 : @Ne Nat tn.c2 d := by
        rcases TN4.n2 with ⟨z, _⟩ | ⟨z, _⟩
        · rw [z]; exact q4
        · exact Ne.symm (ne_new N3 (.tail _ (.head _)) z)
      have r5 : @Ne Nat tn.c1 I := by
        rcases TN4.n1 with ⟨z, _⟩ | ⟨z, _⟩
        · rw [z]; exact I3
        · exact Ne.symm (ne_new N3 (.head _) z)
      have r6 : @Ne Nat tn.c2 I := by
        rcases TN4.n2 with ⟨z, _⟩ | ⟨z, _⟩
        · rw [z]; exact I5
        · exact Ne.symm (ne_new N3 (.head _) z)
      have TN5 := TN.trans hT hTN kp3 TS3 TN4
      clear F3 N3
      dsimp only [TP.led, List.cons_append, List.nil_append] at N4
      have hlenD : (enD 0 cs).length ≤ 8 := by rw [enD_len]; omega
      k_steps
      (rename News _ _ _ _ => N5); (rename Fr _ _ _ _ => F5)
      rw [Int.zero_add]
      refine' setItem_K PyProof.V.same_int (intKind_is _ _ _ _) (PyProof.V.Flat.int _ _) F5 N5 ?U hD1 hD2 ?_ (Nat.le_trans hlenD (by decide))
      case U => k_dflt k_updF
      intro h6 o6 F6 N6 hD3 hD4
      clear F5 N5
      have hi := hcs hpos
      rw [← hi] at hD3
      rw [← hi, enD_put_new] at hD4
      k_steps
      (try dsimp only at N6)
      have F7 := fr_mf F6
      refine ⟨_, _, _, _, rfl, F7, fun q hq => N6 q (.tail _ hq), ?_, _, _, _, _, cs ++ [h % b], o6, tn, h4, rfl, rfl, ⟨_, hD3, hD4⟩, Int.ediv_nonneg hh0 (by omega), ?_, ?_, ?_, ?_, by omega, TS4, TN5, q1, q2, r3, r4⟩
      · (repeat' (first | exact List.forall_mem_nil _ | refine List.forall_mem_cons.mpr ⟨neN (by (try dsimp only); omega), ?_⟩))
      · exact Int.le_trans (Int.ediv_le_self _ hh0) hh1
      · intro _; rw [List.length_append, hi]; rfl
      · rw [hfg]
        show cs ++ (if 0 < h then h % b :: figs b k (h / b) else []) = _
        rw [if_pos hpos, List.append_assoc]; rfl
      · rw [List.length_append]; show cs.length + 1 ≤ i + 1; omega
    · k_steps
      have F7 := fr_mf0 F3
      have hz : h = 0 := by omega
      refine ⟨_, _, _, _, rfl, F7, N3, ?_, _, _, _, _, cs, o, tc, hh, rfl, rfl, ⟨_, hD1, hD2⟩, hh0, hh1, fun q => absurd q hpos, ?_, by omega, by omega, hTc, hTN, q1, q2, q3, q4⟩
      · (repeat' (first | exact List.forall_mem_nil _ | refine List.forall_mem_cons.mpr ⟨neN (by (try dsimp only); omega), ?_⟩))
      · rw [hfg, hz, figs_zero, figs_zero]
  case fin =>
    rintro i m news ⟨h, th, fg, pl, cs, o, tc, hh, rfl, rfl, hD, hh0, hh1, hcs, hfg, hcl, hik, hTc, hTN, q1, q2, q3, q4⟩ h3 tk3 F3 N3
    clear F9 N9
    dsimp only [Mf] at F3
    dsimp only [TP.led] at N3
    rw [show figs b 0 h = [] from rfl, List.append_nil] at hfg
    k_steps
    (try dsimp only)
    rw [← hfg] at hD
    exact ret _ _ _ _ tc (ts_kpx (t' := tc) hN hgb F3 N3 (by (repeat' (first | exact List.forall_mem_nil _ | refine List.forall_mem_cons.mpr ⟨by k_mem, ?_⟩))) hTN) (hTc.at N3 (by (repeat' (first | exact List.forall_mem_nil _ | refine List.forall_mem_cons.mpr ⟨by k_mem, ?_⟩)))) hTN (ts_fresh hgb (N3 _ (.head _)).2.2 hTN (Ne.symm q1) (Ne.symm q3) (Ne.symm q2) (Ne.symm q4)) (N3.get (.head _)) hD (by assumption)
end Mine
end
section
open PySem PySem.W PySem.Calls PyProof.Rows PyProof.V
namespace Mine

theorem turns_ind {prog : Program} {w : World} {A : Around} {E : Value → Shared → Prop} {s : Shared} {env : Env} {h₀ : Heap} {target : Expr} {body : List Stmt} {Q : Flow → Shared → Prop} {I : Addr} {cn : String} {kp : Addr × Obj} (J : List Itm → (Str → Option Value) → List (Addr × Obj) → Prop)
    (turn : ∀ a r m news, J (a :: r) m news → (∀ p ∈ news, p.1 ≠ I) → ∀ v h tk o, a.Is v h → o.cls = .type cn → Fr h₀ env.locals h m → News h₀ env.locals h ((I, o) :: news) →
      wpAny (model prog w) A (assign target env v) (fun _ s₂ => wpAny (model prog w) A (execs body env) (RPost h₀ env.locals { s with heap := h, toks := tk } I o (fun m n => kp ∈ n ∧ J r m n) Q) E s₂) E { s with heap := h, toks := tk })
    (fin : ∀ m news, J [] m news → ∀ h tk, Fr h₀ env.locals h m → News h₀ env.locals h news → Q .next { s with heap := h, toks := tk }) :
    ∀ r m news, J r m news → (∀ p ∈ news, p.1 ≠ I) → ItemsRest prog w A E h₀ env target body Q s [(I, cn)] [kp] r m news
  | [], m, news, j, _ => fun h tk F N => fin m news j h tk F N
  | a :: r, m, news, j, hof => fun v h tk ha F o ho N => wpAny_mono (turn a r m news j hof v h tk o ha ho F N) (fun _ s₂ q => wpAny_mono q (fun f s₃ p => by
      have key : REnd h₀ env.locals { s with heap := h, toks := tk } I o (fun m n => kp ∈ n ∧ J r m n) s₃ → UnrEndW h₀ env.locals { s with heap := h, toks := tk } [(I, o)] (fun m' n' => SubL [kp] n' ∧ ItemsRest prog w A E h₀ env target body Q s [(I, cn)] [kp] r m' n') s₃ := by
        rintro ⟨h', tk', m', news', e1, e2, e3, e4, e5, e6⟩
        exact ⟨h', tk', m', news', e1, e2, e3, fun p hp q hq => by rw [List.mem_singleton.mp hq]; exact e4 p hp, ⟨e5, trivial⟩, turns_ind J turn fin r m' news' e6 e4⟩
      cases f with
      | ret v => exact p
      | brk => exact p
      | next => exact key p
      | cont => exact key p) fun _ _ e => e) fun _ _ e => e

/-- «for .. in d.items()» over a dict on the ledger -/
theorem items_loop {prog : Program} {w : World} {A : Around} {E : Value → Shared → Prop} {s : Shared} {env : Env} {h₀ : Heap} {body : List Stmt} {Q : Flow → Shared → Prop} {elts : List Expr} {kk : Nat} {pos : Pos} {d vw : Addr} {od : Obj} {m₀ : Str → Option Value} {news : List (Addr × Obj)} {kvs : List (Int × Value)}
    (hh : A.handled = none) (F : Fr h₀ env.locals s.heap m₀) (N : News h₀ env.locals s.heap news) (hvw : ∃ ov, s.heap.get? vw = some ov ∧ ov.cls = .type "dict_items" ∧ ov.data = .fields #[.ref d]) (hm : (d, od) ∈ news) (hd : od.IsDictOf (intKind prog w) kvs)
    (J : (Str → Option Value) → List (Int × Value) → (Str → Option Value) → List (Addr × Obj) → Prop) (start : J m₀ kvs m₀ news)
    (turn : ∀ I : Addr, (∀ p ∈ news, p.1 < I) → ∀ k x r m news, J m₀ ((k, x) :: r) m news → (∀ p ∈ news, p.1 ≠ I) → ∀ T t h tk o, IsTup h T #[.int k t, x] → o.cls = .type "dict_itemiterator" → Fr h₀ env.locals h m → News h₀ env.locals h ((I, o) :: news) →
      wpAny (model prog w) A (assign (.Tuple elts kk pos) env (.ref T)) (fun _ s₂ => wpAny (model prog w) A (execs body env) (RPost h₀ env.locals { s with heap := h, toks := tk } I o (fun m n => (d, od) ∈ n ∧ J m₀ r m n) Q) E s₂) E { s with heap := h, toks := tk })
    (fin : ∀ m news, J m₀ [] m news → ∀ h tk, Fr h₀ env.locals h m → News h₀ env.locals h news → Q .next { s with heap := h, toks := tk }) :
    wpAny (model prog w) A (pyIter (.ref vw)) (fun it s₂ => TurnsAt prog w A h₀ env (.Tuple elts kk pos) body Q E it s₂) E s := by
  refine kta_items (knd := intKind prog w) (enc := PyData.int) hh F N hvw hm hd (fun _ _ h => Value.isInt_shape h) rfl fun I hI => ?_
  refine turns_ind (fun xs m n => ∃ r, xs = r.map (fun p => Itm.pair (kyVal (PyData.int p.1)) p.2) ∧ J m₀ r m n) ?_ ?_ _ _ _ ⟨kvs, rfl, start⟩ (fun p hp => Nat.ne_of_lt (hI p hp))
  · rintro a xs m news' ⟨r, hr, j⟩ hof v h tk o ha ho F' N'
    cases r with
    | nil => cases hr
    | cons p r =>
      obtain ⟨k, x⟩ := p
      rw [List.map_cons] at hr
      injection hr with e1 e2
      subst e1
      obtain ⟨T, t, rfl, hT⟩ := ha
      refine wpAny_mono (turn I hI k x r m news' j hof T t h tk o hT ho F' N') (fun _ s₂ q => wpAny_mono q (fun f s₃ p => ?_) fun _ _ e => e) fun _ _ e => e
      have key : REnd h₀ env.locals { s with heap := h, toks := tk } I o (fun m n => (d, od) ∈ n ∧ J m₀ r m n) s₃ → REnd h₀ env.locals { s with heap := h, toks := tk } I o (fun m n => (d, od) ∈ n ∧ ∃ r', xs = r'.map (fun p => Itm.pair (kyVal (PyData.int p.1)) p.2) ∧ J m₀ r' m n) s₃ := by
        rintro ⟨h', tk', m', news', e1, e2', e3, e4, e5, e6⟩
        exact ⟨h', tk', m', news', e1, e2', e3, e4, e5, r, e2, e6⟩
      cases f with
      | ret v => exact p
      | brk => exact p
      | next => exact key p
      | cont => exact key p
  · rintro m news' ⟨r, hr, j⟩
    cases r with
    | nil => exact fin m news' j
    | cons p r => cases hr

/-- «for v in d.values()» -/
theorem vals_loop {prog : Program} {w : World} {A : Around} {E : Value → Shared → Prop} {s : Shared} {env : Env} {h₀ : Heap} {body : List Stmt} {Q : Flow → Shared → Prop} {target : Expr} {d vw : Addr} {od : Obj} {m₀ : Str → Option Value} {news : List (Addr × Obj)} {kvs : List (Int × Value)}
    (hh : A.handled = none) (F : Fr h₀ env.locals s.heap m₀) (N : News h₀ env.locals s.heap news) (hv : s.heap.IsValuesView vw d) (hm : (d, od) ∈ news) (hd : od.IsDictOf (intKind prog w) kvs)
    (J : (Str → Option Value) → List (Int × Value) → (Str → Option Value) → List (Addr × Obj) → Prop) (start : J m₀ kvs m₀ news)
    (turn : ∀ I : Addr, (∀ p ∈ news, p.1 < I) → ∀ k x r m news, J m₀ ((k, x) :: r) m news → (∀ p ∈ news, p.1 ≠ I) → ∀ h tk o, o.cls = .type "dict_valueiterator" → Fr h₀ env.locals h m → News h₀ env.locals h ((I, o) :: news) →
      wpAny (model prog w) A (assign target env x) (fun _ s₂ => wpAny (model prog w) A (execs body env) (RPost h₀ env.locals { s with heap := h, toks := tk } I o (fun m n => (d, od) ∈ n ∧ J m₀ r m n) Q) E s₂) E { s with heap := h, toks := tk })
    (fin : ∀ m news, J m₀ [] m news → ∀ h tk, Fr h₀ env.locals h m → News h₀ env.locals h news → Q .next { s with heap := h, toks := tk }) :
    wpAny (model prog w) A (pyIter (.ref vw)) (fun it s₂ => TurnsAt prog w A h₀ env target body Q E it s₂) E s := by
  refine kta_vals (knd := intKind prog w) hh F N hv hm hd rfl fun I hI => ?_
  refine turns_ind (fun xs m n => ∃ r : List (Int × Value), xs = r.map (fun p => Itm.val p.2) ∧ J m₀ r m n) ?_ ?_ _ _ _ ⟨kvs, rfl, start⟩ (fun p hp => Nat.ne_of_lt (hI p hp))
  · rintro a xs m news' ⟨r, hr, j⟩ hof v h tk o ha ho F' N'
    cases r with
    | nil => cases hr
    | cons p r =>
      obtain ⟨k, x⟩ := p
      rw [List.map_cons] at hr
      injection hr with e1 e2
      subst e1
      have ha' : v = x := ha
      subst ha'
      refine wpAny_mono (turn I hI k v r m news' j hof h tk o ho F' N') (fun _ s₂ q => wpAny_mono q (fun f s₃ p => ?_) fun _ _ e => e) fun _ _ e => e
      have key : REnd h₀ env.locals { s with heap := h, toks := tk } I o (fun m n => (d, od) ∈ n ∧ J m₀ r m n) s₃ → REnd h₀ env.locals { s with heap := h, toks := tk } I o (fun m n => (d, od) ∈ n ∧ ∃ r' : List (Int × Value), xs = r'.map (fun p => Itm.val p.2) ∧ J m₀ r' m n) s₃ := by
        rintro ⟨h', tk', m', news', e1, e2', e3, e4, e5, e6⟩
        exact ⟨h', tk', m', news', e1, e2', e3, e4, e5, r, e2, e6⟩
      cases f with
      | ret v => exact p
      | brk => exact p
      | next => exact key p
      | cont => exact key p
  · rintro m news' ⟨r, hr, j⟩
    cases r with
    | nil => exact fin m news' j
    | cons p r => cases hr

/-- two tables put together, place by place -/
def addL : List Int → List Int → List Int
  | [], b => b
  | a, [] => a
  | x :: a, y :: b => (x + y) :: addL a b
theorem addL_nil_r : ∀ a : List Int, addL a [] = a
  | [] => rfl
  | _ :: _ => rfl
theorem addL_len : ∀ a b : List Int, (addL a b).length = max a.length b.length
  | [], b => by simp [addL]
  | x :: a, [] => by simp [addL]
  | x :: a, y :: b => by simp [addL, addL_len a b]
theorem addL_step : ∀ (a b : List Int) (c : Int), addL a (b ++ [c]) = if b.length < a.length then (addL a b).set b.length ((addL a b).getD b.length 0 + c) else addL a b ++ [c]
  | [], b, c => by simp [addL]
  | x :: a, [], c => by simp [addL, addL_nil_r]
  | x :: a, y :: b, c => by
    show (x + y) :: addL a (b ++ [c]) = _
    rw [addL_step a b c]
    by_cases h : b.length < a.length
    · rw [if_pos h, if_pos (by simpa using h)]
      rfl
    · rw [if_neg h, if_neg (by simpa using h)]
      rfl
end Mine
end
section
open PySem PySem.W PySem.Calls PyProof.Rows
namespace Mine
local macro_rules | `(tactic| walk_at "mine nothing") => `(tactic| fail)
local macro_rules | `(tactic| walk_at "exec For Tuple Call cons nil") => `(tactic| refine stopFor ?_)

def Ma (m₀ : Str → Option Value) (fu ca : Option Value) : Str → Option Value := fun z =>
  if z = Str.ofString "caller" then ca else if z = Str.ofString "func" then fu else m₀ z
theorem ma_self {m₀ : Str → Option Value} : m₀ = Ma m₀ (m₀ (Str.ofString "func")) (m₀ (Str.ofString "caller")) := by
  funext z
  unfold Ma
  by_cases h1 : z = Str.ofString "caller"
  · rw [if_pos h1, h1]
  rw [if_neg h1]
  by_cases h2 : z = Str.ofString "func"
  · rw [if_pos h2, h2]
  rw [if_neg h2]
theorem fr_ma {gb h : Heap} {L : Addr} {m₀ : Str → Option Value} {fu ca fu' ca' : Option Value}
    (F : Fr gb L h (fun y => if y = Str.ofString "caller" then ca' else if y = Str.ofString "func" then fu' else Ma m₀ fu ca y)) :
    Fr gb L h (Ma m₀ fu' ca') := fr_eq F fun y => by
  unfold Ma
  by_cases h1 : y = Str.ofString "caller"
  · rw [if_pos h1, if_pos h1]
  by_cases h2 : y = Str.ofString "func"
  · rw [if_neg h1, if_pos h2, if_neg h1, if_pos h2]
  rw [if_neg h1, if_neg h2, if_neg h1, if_neg h2, if_neg h1, if_neg h2]
/-- cs: what is read so far; rest: what is left to read; f cs: what the new table holds -/
def JA (w : World) (dn : Addr) (led : List (Addr × Obj)) (all : List Int) (f : List Int → List Int) (m₀ : Str → Option Value) (r : List (Int × Value)) (m : Str → Option Value) (news : List (Addr × Obj)) : Prop :=
  ∃ (fu ca : Option Value) (cs rest : List Int) (o : Obj), m = Ma m₀ fu ca ∧ news = (dn, o) :: led ∧ DI w o (f cs) ∧ PyProof.V.FlatPairs PyData.int r (enD cs.length rest) ∧ all = cs ++ rest

theorem c_add_callers : ∀ (w : World) (g : Heap) (_ : Gnd w g) (dp un : Nat) (fr : Option (List Env)) (gd : Option (List Code)) (s : Shared) (Q E : Value → Shared → Prop) (d1 d2 : Addr) (o1 o2 : Obj) (c1 c2 : List Int),
    (hd.heap_39 w.params).In g → Kp g s.heap → g.get? d1 = none → g.get? d2 = none → s.heap.get? d1 = some o1 → DI w o1 c1 → (d1 == sysModules) = false → s.heap.get? d2 = some o2 → DI w o2 c2 → (d2 == sysModules) = false → c1.length ≤ 5 → c2.length ≤ 5 → dp + 10 < recursionLimit → un + 100 < cLine →
    (∀ d h' tk o, Kp s.heap h' → s.heap.get? d = none → h'.get? d = some o → DI w o (addL c1 c2) → (d == sysModules) = false → Q (.ref d) { s with heap := h', toks := tk }) →
    wpAny (model PySem.Challenge.rw_pe0136_01.row.prog w) (arnd dp fr gd un) (call (.ref 63) [.ref d1, .ref d2]) Q E s := by
  w_top off
  k_fill
  intro w g G dp un fr gd s Q E d1 d2 o1 o2 c1 c2 _ e g1 g2 s1 hD1 lo1 s2 hD2 lo2 hl1 hl2 hdp hun ret
  have G0 := G
  obtain ⟨X0, p, loose, mean, mg, mb, T0⟩ := G
  obtain ⟨gb, hgb⟩ : ∃ gb, gb = hideAll s.heap [d1, d2] := ⟨_, rfl⟩
  have e' : Kp g gb := fun b o q => by
    rw [hgb]
    exact hideAll_get _ (e b o q) (fun hm => by
      rcases List.mem_cons.mp hm with z | z
      · rw [z, g1] at q; cases q
      · rw [List.mem_singleton.mp z, g2] at q; cases q)
  have X := X0.keeps e'
  have T := T0.keeps e'
  obtain ⟨kv1, i1, f1⟩ := hD1
  obtain ⟨kv2, i2, f2⟩ := hD2
  have hN := led_cons s1 (led_cons s2 led_nil)
  k_dflt (refine' entT gb hN hgb ?k3 ?k5 ?k6 ?k7 ?k8 ?k9 ?kB ?c2 ?c3 ?c4 ?c5 ?_; (case k3 => k_asm); (case k5 => k_asm); (case k6 => k_is); (case k7 => k_is); (case k8 => omega); (case k9 => exact BindsTo.of_eq rfl); (case kB => exact locs rfl); (case c5 => decide); (case c2 => exact rfl); (case c3 => exact rfl); (case c4 => exact rfl); k_whole; intro L' h' F' N'; (try dsimp only); (try k_fold))
  k_steps
  (rename News _ _ _ _ => N9); (rename Fr _ _ _ _ => F9)
  refine Stop.mk ?_
  with_unfolding_all ((refine' For_turns F9 ?_); k_whole; (refine MethodCall_ ?_); (refine ld F9 (by rfl) ?_))
  obtain ⟨dn, hdn⟩ := nm_zero N9
  subst hdn
  have nd1 : @Ne Nat d1 dn := by omega
  have nd2 : @Ne Nat d2 dn := by omega
  have lon : (dn == sysModules) = false := by assumption
  refine kdl_method (knd := intKind _ _) PySem.F.slot_dict_items PySem.F.type_dict_items N9 (by k_mem) i1 ?_
  refine callWith_method0 ?_
  refine kta_callItems (knd := intKind _ _) F9 N9 (by k_mem) i1 lo1 ?_
  intro h2 hv2 F2 N2
  refine' items_loop rfl F2 N2 hv2 (by k_mem) i1 (JA w dn [(d1, o1), (d2, o2)] c1 id) ?start ?turn ?fin
  case start => exact ⟨_, _, [], c1, _, ma_self, rfl, ⟨[], by assumption, .nil⟩, f1, rfl⟩
  case turn =>
    rintro I hI k x r m news ⟨fu, ca, cs, rest, o, rfl, rfl, ⟨kvn, hn1, hn2⟩, hfp, hall⟩ hoff T3 t3 h3 tk3 oi hT3 hoi F3 N3
    cases rest with
    | nil => cases hfp
    | cons c rest =>
    cases hfp with
    | cons hfl hfp =>
    obtain ⟨tx, rfl⟩ := PyProof.V.Flat.int_inv hfl
    clear F9 N9 F2 N2
    have I1 := neN (hoff _ (.head _))
    have I2 := neN (hoff _ (.tail _ (.head _)))
    have I3 := neN (hoff _ (.tail _ (.tail _ (.head _))))
    dsimp only at I1 I2 I3
    have hll : cs.length + (rest.length + 1) ≤ 5 := by rw [hall] at hl1; simpa using hl1
    k_steps
    (rename News _ _ _ _ => N5); (rename Fr _ _ _ _ => F5)
    refine' setItem_K PyProof.V.same_int (intKind_is _ _ _ _) (PyProof.V.Flat.int _ _) F5 N5 ?U hn1 hn2 ?_ ?z
    case U => k_dflt k_updF
    case z =>
      refine Nat.le_trans (Nat.le_of_eq (enD_len _ _)) (Nat.le_trans (show cs.length ≤ 5 by omega) (by decide))
    intro h6 o6 F6 N6 hn3 hn4
    clear F5 N5
    rw [show id cs = cs from rfl, enD_put_new] at hn4
    k_steps
    (try dsimp only at N6)
    have F7 := fr_ma F6
    refine ⟨_, _, _, _, rfl, F7, N6, ?_, ?_, _, _, cs ++ [c], rest, o6, rfl, rfl, ⟨_, hn3, hn4⟩, ?_, ?_⟩
    · (repeat' (first | exact List.forall_mem_nil _ | refine List.forall_mem_cons.mpr ⟨neN (by (try dsimp only); omega), ?_⟩))
    · k_mem
    · rw [List.length_append]; exact hfp
    · rw [hall, List.append_assoc]; rfl
  case fin =>
    rintro m news ⟨fu, ca, cs, rest, o, rfl, rfl, hDn, hfp, hall⟩ h3 tk3 F3 N3
    clear F9 N9 F2 N2
    cases rest with
    | cons c rest => cases hfp
    | nil =>
    rw [List.append_nil] at hall
    subst hall
    k_steps
    (rename News _ _ _ _ => N9); (rename Fr _ _ _ _ => F9)
    refine Stop.mk ?_
    with_unfolding_all ((refine' For_turns F9 ?_); k_whole; (refine MethodCall_ ?_); (refine ld F9 (by rfl) ?_))
    refine kdl_method (knd := intKind _ _) PySem.F.slot_dict_items PySem.F.type_dict_items N9 (by k_mem) i2 ?_
    refine callWith_method0 ?_
    refine kta_callItems (knd := intKind _ _) F9 N9 (by k_mem) i2 lo2 ?_
    intro h2 hv2 F2 N2
    refine' items_loop rfl F2 N2 hv2 (by k_mem) i2 (JA w dn [(d1, o1), (d2, o2)] c2 (addL c1)) ?start ?turn ?fin
    case start =>
      obtain ⟨kvn, hn1, hn2⟩ := hDn
      exact ⟨_, _, [], c2, _, ma_self, rfl, ⟨kvn, hn1, by rw [addL_nil_r]; exact hn2⟩, f2, rfl⟩
    case turn =>
      rintro I hI k x r m news ⟨fu, ca, cs, rest, o, rfl, rfl, ⟨kvn, hn1, hn2⟩, hfp, hall⟩ hoff T3 t3 h3 tk3 oi hT3 hoi F3 N3
      cases rest with
      | nil => cases hfp
      | cons c rest =>
      cases hfp with
      | cons hfl hfp =>
      obtain ⟨tx, rfl⟩ := PyProof.V.Flat.int_inv hfl
      clear F9 N9 F2 N2
      have I1 := neN (hoff _ (.head _))
      have I2 := neN (hoff _ (.tail _ (.head _)))
      have I3 := neN (hoff _ (.tail _ (.tail _ (.head _))))
      dsimp only at I1 I2 I3
      have hll : cs.length + (rest.length + 1) ≤ 5 := by rw [hall] at hl2; simpa using hl2
      have hlk := enD_look0 (addL c1 cs) cs.length
      by_cases hin : cs.length < c1.length
      · rw [if_pos (show cs.length < (addL c1 cs).length by rw [addL_len]; omega)] at hlk
        have his : (Spec.lookup (PyData.int (cs.length : Int)) (enD 0 (addL c1 cs))).isSome = true := by rw [hlk]; rfl
        k_steps
        (rename News _ _ _ _ => N5); (rename Fr _ _ _ _ => F5)
        refine' setItem_K PyProof.V.same_int (intKind_is _ _ _ _) (PyProof.V.Flat.int _ _) F5 N5 ?U hn1 hn2 ?_ ?z
        case U => k_dflt k_updF
        case z =>
          refine Nat.le_trans (Nat.le_of_eq (enD_len _ _)) (Nat.le_trans (show (addL c1 cs).length ≤ 5 by rw [addL_len]; omega) (by decide))
        intro h6 o6 F6 N6 hn3 hn4
        clear F5 N5
        rw [enD_put_old (show cs.length < (addL c1 cs).length by rw [addL_len]; omega)] at hn4
        k_steps
        (try dsimp only at N6)
        have F7 := fr_ma F6
        refine ⟨_, _, _, _, rfl, F7, N6, ?_, ?_, _, _, cs ++ [c], rest, o6, rfl, rfl, ⟨_, hn3, ?_⟩, ?_, ?_⟩
        · (repeat' (first | exact List.forall_mem_nil _ | refine List.forall_mem_cons.mpr ⟨neN (by (try dsimp only); omega), ?_⟩))
        · k_mem
        · rw [addL_step, if_pos hin]; exact hn4
        · rw [List.length_append]; exact hfp
        · rw [hall, List.append_assoc]; rfl
      · rw [if_neg (show ¬ cs.length < (addL c1 cs).length by rw [addL_len]; omega)] at hlk
        have his : ¬ (Spec.lookup (PyData.int (cs.length : Int)) (enD 0 (addL c1 cs))).isSome = true := by rw [hlk]; exact Bool.false_ne_true
        k_steps
        (rename News _ _ _ _ => N5); (rename Fr _ _ _ _ => F5)
        refine' setItem_K PyProof.V.same_int (intKind_is _ _ _ _) (PyProof.V.Flat.int _ _) F5 N5 ?U hn1 hn2 ?_ ?z
        case U => k_dflt k_updF
        case z =>
          refine Nat.le_trans (Nat.le_of_eq (enD_len _ _)) (Nat.le_trans (show (addL c1 cs).length ≤ 5 by rw [addL_len]; omega) (by decide))
        intro h6 o6 F6 N6 hn3 hn4
        clear F5 N5
        have hle : (addL c1 cs).length = cs.length := by rw [addL_len]; omega
        rw [← hle] at hn4
        rw [← hle] at hn3
        rw [enD_put_new] at hn4
        k_steps
        (try dsimp only at N6)
        have F7 := fr_ma F6
        refine ⟨_, _, _, _, rfl, F7, N6, ?_, ?_, _, _, cs ++ [c], rest, o6, rfl, rfl, ⟨_, hn3, ?_⟩, ?_, ?_⟩
        · (repeat' (first | exact List.forall_mem_nil _ | refine List.forall_mem_cons.mpr ⟨neN (by (try dsimp only); omega), ?_⟩))
        · k_mem
        · rw [addL_step, if_neg hin]; exact hn4
        · rw [List.length_append]; exact hfp
        · rw [hall, List.append_assoc]; rfl
    case fin =>
      rintro m news ⟨fu, ca, cs, rest, o, rfl, rfl, hDn, hfp, hall⟩ h3 tk3 F3 N3
      clear F9 N9 F2 N2
      cases rest with
      | cons c rest => cases hfp
      | nil =>
      rw [List.append_nil] at hall
      subst hall
      k_steps
      (try dsimp only)
      have two : ∀ {a : Nat}, a ≠ d1 → a ≠ d2 → a ∉ [d1, d2] := fun h1 h2 hm => (List.mem_cons.mp hm).elim h1 fun z => h2 (List.mem_singleton.mp z)
      exact ret _ _ _ _ (kpx_nil hN hgb F3 N3 (by (repeat' (first | exact List.forall_mem_nil _ | refine List.forall_mem_cons.mpr ⟨?_, ?_⟩ | exact Or.inl (by k_mem) | exact Or.inr (by k_mem))))) (fresh_of hgb (N3 _ (.head _)).2.2 (two (Ne.symm nd1) (Ne.symm nd2))) (N3.get (.head _)) hDn lon
end Mine
end
section
open PySem PySem.W PySem.Calls PyProof.Rows
namespace Mine
local macro_rules | `(tactic| walk_at "exec For Name Call cons nil") => `(tactic| refine stopFor ?_)

def Mc (m₀ : Str → Option Value) (n : Int) (t : Tok) (ca : Option Value) : Str → Option Value := fun z =>
  if z = Str.ofString "nc" then some (.int n t) else if z = Str.ofString "calls" then ca else m₀ z
theorem mc_self {m₀ : Str → Option Value} {n : Int} {t : Tok} (h : m₀ (Str.ofString "nc") = some (.int n t)) : m₀ = Mc m₀ n t (m₀ (Str.ofString "calls")) := by
  funext z
  unfold Mc
  by_cases h1 : z = Str.ofString "nc"
  · rw [if_pos h1, h1, h]
  rw [if_neg h1]
  by_cases h2 : z = Str.ofString "calls"
  · rw [if_pos h2, h2]
  rw [if_neg h2]
theorem fr_mc {gb h : Heap} {L : Addr} {m₀ : Str → Option Value} {n n' : Int} {t t' : Tok} {ca ca' : Option Value}
    (F : Fr gb L h (fun y => if y = Str.ofString "nc" then some (.int n' t') else if y = Str.ofString "calls" then ca' else Mc m₀ n t ca y)) :
    Fr gb L h (Mc m₀ n' t' ca') := fr_eq F fun y => by
  unfold Mc
  by_cases h1 : y = Str.ofString "nc"
  · rw [if_pos h1, if_pos h1]
  by_cases h2 : y = Str.ofString "calls"
  · rw [if_neg h1, if_pos h2, if_neg h1, if_pos h2]
  rw [if_neg h1, if_neg h2, if_neg h1, if_neg h2, if_neg h1, if_neg h2]
def JC (led : List (Addr × Obj)) (all : List Int) (m₀ : Str → Option Value) (r : List (Int × Value)) (m : Str → Option Value) (news : List (Addr × Obj)) : Prop :=
  ∃ (n : Int) (t : Tok) (ca : Option Value) (k : Nat) (rest : List Int), m = Mc m₀ n t ca ∧ news = led ∧ PyProof.V.FlatPairs PyData.int r (enD k rest) ∧ all.sum = n + rest.sum

theorem c_count_calls : ∀ (w : World) (g : Heap) (_ : Gnd w g) (dp un : Nat) (fr : Option (List Env)) (gd : Option (List Code)) (s : Shared) (Q E : Value → Shared → Prop) (d1 : Addr) (o1 : Obj) (c1 : List Int),
    (hd.heap_39 w.params).In g → Kp g s.heap → g.get? d1 = none → s.heap.get? d1 = some o1 → DI w o1 c1 → (d1 == sysModules) = false → dp + 10 < recursionLimit → un + 100 < cLine →
    (∀ h' tk t, Kp s.heap h' → Q (.int c1.sum t) { s with heap := h', toks := tk }) →
    wpAny (model PySem.Challenge.rw_pe0136_01.row.prog w) (arnd dp fr gd un) (call (.ref 70) [.ref d1]) Q E s := by
  w_top off
  k_fill
  intro w g G dp un fr gd s Q E d1 o1 c1 _ e g1 s1 hD1 lo1 hdp hun ret
  have G0 := G
  obtain ⟨X0, p, loose, mean, mg, mb, T0⟩ := G
  obtain ⟨gb, hgb⟩ : ∃ gb, gb = hideAll s.heap [d1] := ⟨_, rfl⟩
  have e' : Kp g gb := fun b o q => by
    rw [hgb]
    exact hideAll_get _ (e b o q) (fun hm => by rw [List.mem_singleton.mp hm, g1] at q; cases q)
  have X := X0.keeps e'
  have T := T0.keeps e'
  obtain ⟨kv1, i1, f1⟩ := hD1
  have hN := led_cons s1 led_nil
  k_dflt (refine' entT gb hN hgb ?k3 ?k5 ?k6 ?k7 ?k8 ?k9 ?kB ?c2 ?c3 ?c4 ?c5 ?_; (case k3 => k_asm); (case k5 => k_asm); (case k6 => k_is); (case k7 => k_is); (case k8 => omega); (case k9 => exact BindsTo.of_eq rfl); (case kB => exact locs rfl); (case c5 => decide); (case c2 => exact rfl); (case c3 => exact rfl); (case c4 => exact rfl); k_whole; intro L' h' F' N'; (try dsimp only); (try k_fold))
  k_steps
  (rename News _ _ _ _ => N9); (rename Fr _ _ _ _ => F9)
  refine Stop.mk ?_
  with_unfolding_all ((refine' For_turns F9 ?_); k_whole; (refine MethodCall_ ?_); (refine ld F9 (by rfl) ?_))
  refine kdl_method (knd := intKind _ _) PySem.F.slot_dict_values PySem.F.type_dict_values N9 (by k_mem) i1 ?_
  refine callWith_method0 ?_
  refine kta_callValues (knd := intKind _ _) F9 N9 (by k_mem) i1 lo1 ?_
  intro h2 hv2 F2 N2
  refine' vals_loop rfl F2 N2 hv2 (by k_mem) i1 (JC [(d1, o1)] c1) ?start ?turn ?fin
  case start => exact ⟨0, _, _, 0, c1, mc_self rfl, rfl, f1, (Int.zero_add _).symm⟩
  case turn =>
    rintro I hI k x r m news ⟨n, t, ca, kk, rest, rfl, rfl, hfp, hall⟩ hoff h3 tk3 oi hoi F3 N3
    cases rest with
    | nil => cases hfp
    | cons c rest =>
    cases hfp with
    | cons hfl hfp =>
    obtain ⟨tx, rfl⟩ := PyProof.V.Flat.int_inv hfl
    clear F9 N9 F2 N2
    have I1 := neN (hoff _ (.head _))
    dsimp only at I1
    k_steps
    (rename News _ _ _ _ => N5); (rename Fr _ _ _ _ => F5)
    have F7 := fr_mc F5
    refine ⟨_, _, _, _, rfl, F7, N5, ?_, ?_, _, _, _, _, rest, rfl, rfl, hfp, ?_⟩
    · (repeat' (first | exact List.forall_mem_nil _ | refine List.forall_mem_cons.mpr ⟨neN (by (try dsimp only); omega), ?_⟩))
    · k_mem
    · rw [hall, List.sum_cons]; omega
  case fin =>
    rintro m news ⟨n, t, ca, kk, rest, rfl, rfl, hfp, hall⟩ h3 tk3 F3 N3
    clear F9 N9 F2 N2
    cases rest with
    | cons c rest => cases hfp
    | nil =>
    rw [List.sum_nil, Int.add_zero] at hall
    k_steps
    (try dsimp only)
    rw [hall] at ret
    exact ret _ _ _ (kpx_nil hN hgb F3 N3 (by (repeat' (first | exact List.forall_mem_nil _ | refine List.forall_mem_cons.mpr ⟨?_, ?_⟩ | exact Or.inl (by k_mem) | exact Or.inr (by k_mem)))))
end Mine
end
section
open PySem PySem.W PySem.Calls PyProof.Rows
namespace Mine

theorem wp_peek {α : Type} {K : Frag} {M : Model} {A : Around} {E : Value → Shared → Prop} {Q : α → Shared → Prop} {s : Shared} {o : Obj} {r : Addr → α} (X : K.In s.heap)
    (q : Q (r s.heap.objs.size) { s with heap := s.heap.push o }) :
    ∀ (t : Sem α) (g : Addr → Option α), peek1 K ⟨M.prog, M.w.params⟩ t = some (o, g) → (∀ D, g D = some (r D)) → wpAny M A t Q E s := by
  intro t
  induction t with
  | rule _ k ih => intro g e hg Γ p hΓ; exact ih () g e hg Γ p hΓ
  | point _ k ih => intro g e hg Γ p hΓ; exact ih () g e hg Γ p hΓ
  | ask k ih => intro g e hg Γ p hΓ; exact ih _ g e hg Γ p hΓ
  | load a _ k ih =>
    intro g e hg Γ p hΓ
    simp only [peek1] at e
    split at e
    · rename_i ob ho; exact ⟨ob, X _ _ ho, ih ob g e hg Γ p hΓ⟩
    · cases e
  | alloc ob k _ =>
    intro g e hg
    have e : some (ob, fun D => peek K ⟨M.prog, M.w.params⟩ (k D)) = some (o, g) := e
    obtain ⟨e1, e2⟩ := Prod.mk.inj (Option.some.inj e)
    subst e1
    subst e2
    have X' : K.In (s.heap.push ob) := X.keeps fun b x hb => Heap.get?_push_of_some _ hb
    show wpAny M A (alloc ob >>= k) Q E s
    refine wpAny_bind (wpAny_alloc ?_)
    exact (Looks.of_peek (M := M) (h := s.heap.push ob) X' (hg s.heap.objs.size)).here (s := { s with heap := s.heap.push ob }) q
  | _ => intro g e; cases e

/-- entering a def with a starred parameter -/
theorem entR {w : World} {K : Frag} {dp un : Nat} {fr : Option (List Env)} {gd : Option (List Code)} {s : Shared} {Q E : Value → Shared → Prop} {p : Program} {loose : List Str} {mean : ExcName → Option Value} {mg mb : Str → Option Value}
    {name qual : Str} {params : Arguments} {body : List Stmt} {scope : Scope} {dV kV doc pm cdv ct oc : Value} {an od : Option Addr} {osl : Array (Option Value)} {f : Addr} {ws vs : List Value} {g₁ : Addr → Option (List (Str × Value))} {binds : Addr → List (Str × Value)}
    (X : K.In s.heap) (T : Top p loose mean mg mb s.heap)
    (ho : K.lookup f = some ⟨oc, od, .func (fnOf name qual params body scope dV kV doc pm an cdv ct), osl⟩) (hcd : codeIn K cdv qual = true) (hroom : dp < recursionLimit)
    (hv : ws.drop (params.posonlyargs.length + params.args.length) = vs)
    (hp : peek1 K ⟨PySem.Challenge.rw_pe0136_01.row.prog, w.params⟩ (bindArgs (fnOf name qual params body scope dV kV doc pm an cdv ct) ⟨ws, []⟩) = some (({ cls := .type "tuple", data := .seq vs.toArray } : Obj), g₁))
    (hg : ∀ D, g₁ D = some (binds D)) (hloc : ∀ D, ∀ y ∈ binds D, scope.names.lookup y.1 = some .local)
    (hco : scope.isCoroutine = false) (hgen : scope.isGenerator = false) (hk : scope.kind = .function)
    (hcell : ∀ x ∈ scope.names, x.2 ≠ .cell)
    (h : ∀ D L' h₁, Fr s.heap L' h₁ (fun y => (binds D).reverse.lookup y) → News s.heap L' h₁ [(D, ({ cls := .type "tuple", data := .seq vs.toArray } : Obj))] →
      wpAny (model PySem.Challenge.rw_pe0136_01.row.prog w) ((arnd dp fr gd un).deeper (envOf qual scope L' f cdv)) (execs body (envOf qual scope L' f cdv))
        (fun fl s' => Fin Q (match fl with | .ret v => v | _ => .none) s') (fun _ _ => False)
        { s with heap := h₁, toks := s.toks + (binds D).length }) :
    wpAny (model PySem.Challenge.rw_pe0136_01.row.prog w) (arnd dp fr gd un) (call (.ref f) ws) Q E s := by
  have _ := hv
  refine wpAny_call ?_
  refine codeAny_call_function (fd := fnOf name qual params body scope dV kV doc pm an cdv ct) (body := body) hroom (X _ _ ho) rfl hco hgen rfl (codeRec_of X hcd) ?_
  refine wp_peek (o := ({ cls := .type "tuple", data := .seq vs.toArray } : Obj)) X (r := binds) ?_ _ g₁ hp hg
  have kp : Kp s.heap (s.heap.push ({ cls := .type "tuple", data := .seq vs.toArray } : Obj)) := fun b o e => Heap.get?_push_of_some _ e
  refine wpAny_newFunctionEnv hcell (hloc _) (fun h₁ hns hsb => ⟨(T.nolimit.keeps kp).fresh _ hsb, codeAny_func ?_⟩) hk
  have hk₁ : ∀ b o, (s.heap.push ({ cls := .type "tuple", data := .seq vs.toArray } : Obj)).get? b = some o → h₁.get? b = some o := fun b o e => hsb.extBut b o (Nat.ne_of_lt (Heap.lt_size e)) (Heap.get?_push_of_some _ e)
  have hz : s.heap.objs.size < (s.heap.push ({ cls := .type "tuple", data := .seq vs.toArray } : Obj)).objs.size := by rw [Heap.size_push]; exact Nat.lt_succ_self _
  refine wpAny_mono (h s.heap.objs.size (s.heap.push ({ cls := .type "tuple", data := .seq vs.toArray } : Obj)).objs.size h₁ ⟨hns, fun b o e => hk₁ b o (kp b o e), Nat.le_of_lt hz⟩ ?_) (fun fl s' hl => hl) fun _ _ y => y.elim
  refine List.forall_mem_cons.mpr ⟨⟨hk₁ _ _ (Heap.get?_push_size _ rfl), Nat.ne_of_lt hz, ?_⟩, List.forall_mem_nil _⟩
  cases z : s.heap.get? s.heap.objs.size with
  | none => rfl
  | some o => exact absurd (Heap.lt_size z) (Nat.lt_irrefl _)

def repl (x y z : Str) : Str := Txt.join z (Txt.split x y)
theorem c_replace : ∀ (w : World) (g : Heap) (_ : Gnd w g) (dp un : Nat) (fr : Option (List Env)) (gd : Option (List Code)) (s : Shared) (Q E : Value → Shared → Prop) (x y z : Str) (tx ty tz : Tok),
    (hd.heap_39 w.params).In g → Kp g s.heap → x.length + 2 ≤ sizeLine → (y.length == 0) = false → JoinOk z (Txt.split x y) = true → dp + 10 < recursionLimit → un + 100 < cLine →
    (∀ h' tk t, Kp s.heap h' → Q (.str (repl x y z) t) { s with heap := h', toks := tk }) →
    wpAny (model PySem.Challenge.rw_pe0136_01.row.prog w) (arnd dp fr gd un) (call (.ref 77) [.str x tx, .str y ty, .str z tz]) Q E s := by
  w_top off
  k_fill
  intro w g G dp un fr gd s Q E x y z tx ty tz _ e hx hy hjo hdp hun ret
  have G0 := G
  obtain ⟨X0, p, loose, mean, mg, mb, T0⟩ := G
  have X := X0.keeps e
  have T := T0.keeps e
  k_dflt (refine' entR ?k3 ?k5 ?k6 ?k7 ?k8 ?kV ?kP ?kG ?kB ?c2 ?c3 ?c4 ?c5 ?_; (case k3 => k_asm); (case k5 => k_asm); (case k6 => k_is); (case k7 => k_is); (case k8 => omega); (case kV => kl_lit); (case kP => exact rfl); (case kG => exact fun _ => rfl); (case kB => exact fun _ => locs rfl); (case c5 => decide); (case c2 => exact rfl); (case c3 => exact rfl); (case c4 => exact rfl); k_whole; intro D' L' h' F' N'; (try dsimp only); (try k_fold))
  k_steps
  (rename News _ _ _ _ => N9); (rename Fr _ _ _ _ => F9)
  (with_unfolding_all refine slice_tuple_from (s := ⟨_, _, _, _, _⟩) (a := 2) F9 N9 (News.isTup N9 (.tail _ (.head _))) (by decide) (Nat.le_refl 2) ?_)
  intro h2 F2 N2
  clear F9 N9
  (try dsimp only)
  (try dsimp only [List.drop, Array.toList] at N2)
  k_steps
  (rename Fr _ _ _ _ => F9)
  (try dsimp only)
  exact ret _ _ _ (fun b o e => F9.keep b o e)
end Mine
end
section
open PySem PySem.W PySem.Calls PyProof.Rows
namespace Mine
local macro_rules | `(tactic| walk_at "pyIter ref") => `(tactic| refine stopIter ?_)


def fullOf (p : Int) : Str := Txt.mul (Str.ofString "1") p ++ Str.ofString "."
def carry (full : Str) : Nat → Str → Int → Str × Int
  | 0, row, c => (row, c)
  | k + 1, row, c => if Txt.count row full = 0 then (row, c) else carry full k (repl row full (Str.ofString ".1")) (c + Txt.count row full)
def CarryOk (full : Str) : Nat → Str → Prop
  | 0, _ => True
  | k + 1, row => row.length + 2 ≤ sizeLine ∧ (Txt.count row full = 0 ∨ (JoinOk (Str.ofString ".1") (Txt.split row full) = true ∧ CarryOk full k (repl row full (Str.ofString ".1"))))

def Mr (m₀ : Str → Option Value) (r : Str) (tr : Tok) (c : Int) (t : Tok) (fo tu : Option Value) : Str → Option Value := fun z =>
  if z = Str.ofString "turn" then tu else if z = Str.ofString "found" then fo else if z = Str.ofString "carries" then some (.int c t) else if z = Str.ofString "row" then some (.str r tr) else m₀ z
theorem mr_self {m₀ : Str → Option Value} {r : Str} {tr : Tok} {c : Int} {t : Tok} (h : m₀ (Str.ofString "carries") = some (.int c t)) (h' : m₀ (Str.ofString "row") = some (.str r tr)) : m₀ = Mr m₀ r tr c t (m₀ (Str.ofString "found")) (m₀ (Str.ofString "turn")) := by
  funext z
  unfold Mr
  by_cases h1 : z = Str.ofString "turn"
  · rw [if_pos h1, h1]
  rw [if_neg h1]
  by_cases h2 : z = Str.ofString "found"
  · rw [if_pos h2, h2]
  rw [if_neg h2]
  by_cases h3 : z = Str.ofString "carries"
  · rw [if_pos h3, h3, h]
  rw [if_neg h3]
  by_cases h4 : z = Str.ofString "row"
  · rw [if_pos h4, h4, h']
  rw [if_neg h4]
theorem fr_mr {gb h : Heap} {L : Addr} {m₀ : Str → Option Value} {r r' : Str} {tr tr' : Tok} {c c' : Int} {t t' : Tok} {fo tu fo' tu' : Option Value}
    (F : Fr gb L h (fun y => if y = Str.ofString "row" then some (.str r' tr') else if y = Str.ofString "carries" then some (.int c' t') else if y = Str.ofString "found" then fo' else if y = Str.ofString "turn" then tu' else
      if y = Str.ofString "turn" then tu else if y = Str.ofString "found" then fo else if y = Str.ofString "carries" then some (.int c t) else if y = Str.ofString "row" then some (.str r tr) else m₀ y)) :
    Fr gb L h (Mr m₀ r' tr' c' t' fo' tu') := fr_eq F fun y => by
  have n1 : ¬ (Str.ofString "turn" = Str.ofString "row") := by decide
  have n2 : ¬ (Str.ofString "turn" = Str.ofString "carries") := by decide
  have n3 : ¬ (Str.ofString "turn" = Str.ofString "found") := by decide
  have n4 : ¬ (Str.ofString "found" = Str.ofString "row") := by decide
  have n5 : ¬ (Str.ofString "found" = Str.ofString "carries") := by decide
  have n6 : ¬ (Str.ofString "carries" = Str.ofString "row") := by decide
  unfold Mr
  by_cases h1 : y = Str.ofString "turn"
  · rw [h1, if_neg n1, if_neg n2, if_neg n3, if_pos rfl, if_pos rfl]
  by_cases h2 : y = Str.ofString "found"
  · rw [h2, if_neg n4, if_neg n5, if_pos rfl, if_neg (Ne.symm n3), if_pos rfl]
  by_cases h3 : y = Str.ofString "carries"
  · rw [h3, if_neg n6, if_pos rfl, if_neg (Ne.symm n2), if_neg (Ne.symm n5), if_pos rfl]
  by_cases h4 : y = Str.ofString "row"
  · rw [h4, if_pos rfl, if_neg (Ne.symm n1), if_neg (Ne.symm n4), if_neg (Ne.symm n6), if_pos rfl]
  simp only [if_neg h1, if_neg h2, if_neg h3, if_neg h4]

def JK (led : List (Addr × Obj)) (full : Str) (row0 : Str) (m₀ : Str → Option Value) (k _i : Nat) (m : Str → Option Value) (news : List (Addr × Obj)) : Prop :=
  ∃ (r : Str) (tr : Tok) (c : Int) (t : Tok) (fo tu : Option Value), m = Mr m₀ r tr c t fo tu ∧ news = led ∧ CarryOk full k r ∧ carry full 12 row0 0 = carry full k r c

theorem c_carried : ∀ (w : World) (g : Heap) (_ : Gnd w g) (dp un : Nat) (fr : Option (List Env)) (gd : Option (List Code)) (s : Shared) (Q E : Value → Shared → Prop) (row : Str) (p : Int) (tr tp : Tok),
    (hd.heap_39 w.params).In g → Kp g s.heap → 2 ≤ p → p ≤ 10 → ((fullOf p).length == 0) = false → CarryOk (fullOf p) 12 row → dp + 20 < recursionLimit → un + 200 < cLine →
    (∀ d h' tk c t1 t2, Kp s.heap h' → s.heap.get? d = none → h'.get? d = some (tup [.str (carry (fullOf p) 12 row 0).1 t1, .int (carry (fullOf p) 12 row 0).2 t2] c) → Q (.ref d) { s with heap := h', toks := tk }) →
    wpAny (model PySem.Challenge.rw_pe0136_01.row.prog w) (arnd dp fr gd un) (call (.ref 96) [.str row tr, .int p tp]) Q E s := by
  w_top off
  k_fill
  intro w g G dp un fr gd s Q E row p tr tp _ e hp0 hp1 hfl hok hdp hun ret
  have G0 := G
  obtain ⟨X0, pr, loose, mean, mg, mb, T0⟩ := G
  have X := X0.keeps e
  have T := T0.keeps e
  k_dflt (refine' entP ?k3 ?k5 ?k6 ?k7 ?k8 ?k9 ?kB ?c2 ?c3 ?c4 ?c5 ?_; (case k3 => k_asm); (case k5 => k_asm); (case k6 => k_is); (case k7 => k_is); (case k8 => omega); (case k9 => exact BindsTo.of_eq rfl); (case kB => exact locs rfl); (case c5 => decide); (case c2 => exact rfl); (case c3 => exact rfl); (case c4 => exact rfl); k_whole; intro L' h' F' N'; (try dsimp only); (try k_fold))
  k_steps
  (rename News _ _ _ _ => N9); (rename Fr _ _ _ _ => F9)
  refine Stop.mk ?_
  refine' range_loop rfl (by assumption) 12 (by decide) (by decide) F9 N9 (JK [] (fullOf p) row) ?start ?turn ?fin
  case start =>
    exact ⟨row, _, 0, _, _, _, mr_self rfl rfl, rfl, hok, rfl⟩
  case turn =>
    rintro I hI k i m news ⟨r, tr1, c, t1, fo, tu, rfl, rfl, hok1, heq⟩ hoff tt h3 tk3 F3 N3
    dsimp only [Mr] at F3
    clear F9 N9
    obtain ⟨hsz, hor⟩ := hok1
    by_cases hc0 : Txt.count r (fullOf p) = 0
    · have hc1 : Txt.count r (Txt.mul (Str.ofString "1") p ++ Str.ofString ".") = 0 := hc0
      k_steps
      (rename News _ _ _ _ => N9); (rename Fr _ _ _ _ => F9)
      have hr : carry (fullOf p) 12 row 0 = (r, c) := heq.trans (if_pos hc0)
      rw [hr] at ret
      exact ret _ _ _ _ _ _ F9.keep (N9 _ (.head _)).2.2 (N9.get (.head _))
    · have hc1 : ¬ Txt.count r (Txt.mul (Str.ofString "1") p ++ Str.ofString ".") = 0 := hc0
      obtain ⟨hjo, hok2⟩ := hor.resolve_left hc0
      k_steps
      (rename News _ _ _ _ => N9); (rename Fr _ _ _ _ => F9)
      refine c_replace w g G0 _ _ _ _ _ _ _ r (fullOf p) (Str.ofString ".1") _ _ _ X0 (e.trans F9.keep) hsz hfl hjo ?_ ?_ ?_
      · show dp + 1 + 10 < recursionLimit
        exact rlim hdp (by decide)
      · show un + 3 + 100 < cLine
        exact clim hun (by decide)
      intro h4 tk4 t4 kp4
      have F4 := fr_kp F9 kp4
      have N4 := nw_kp N9 kp4
      clear F9 N9
      k_steps
      (rename News _ _ _ _ => N9); (rename Fr _ _ _ _ => F9)
      have F7 := fr_mr F9
      refine ⟨_, _, _, _, rfl, F7, N9, ?_, _, _, _, _, _, _, rfl, rfl, hok2, ?_⟩
      · exact List.forall_mem_nil _
      · exact heq.trans (if_neg hc0)
  case fin =>
    rintro i m news ⟨r, tr1, c, t1, fo, tu, rfl, rfl, hok1, heq⟩ h3 tk3 F3 N3
    clear F9 N9
    dsimp only [Mr] at F3
    k_steps
    (try dsimp only)
    (rename News _ _ _ _ => N9); (rename Fr _ _ _ _ => F9)
    have hr : carry (fullOf p) 12 row 0 = (r, c) := heq
    rw [hr] at ret
    exact ret _ _ _ _ _ _ F9.keep (N9 _ (.head _)).2.2 (N9.get (.head _))
end Mine
end
end
section
open PySem PySem.W PySem.Calls PyProof.Rows Mine
local macro_rules | `(tactic| walk_at "CompSrc") => `(tactic| refine Stop.out ?_)
local macro_rules | `(tactic| walk_at "CompEnd") => `(tactic| refine cEnd (by assumption) (by assumption) (by simp only [LCg.Off3, and_true]; assumption) (by lcg_src) ?_)
section
open PySem PySem.W PySem.Calls PyProof.Rows
namespace Mine
local macro_rules | `(tactic| walk_at "mine nothing") => `(tactic| fail)
theorem enD_get (cs : List Int) (k : Nat) : (Spec.lookup (PyData.int (k : Int)) (enD 0 cs)).getD (PyData.int 0) = .int (cs.getD k 0) := by
  rw [enD_look0]
  by_cases h : k < cs.length
  · rw [if_pos h]; rfl
  · rw [if_neg h, List.getD_eq_getElem?_getD, List.getElem?_eq_none (Nat.le_of_not_lt h)]; rfl
theorem flat_get {v : Value} {cs : List Int} {k' : Int} (h : PyProof.V.Flat v ((Spec.lookup (PyData.int k') (enD 0 cs)).getD (PyData.int 0))) (k : Nat) (hk : k' = (k : Int)) : ∃ t, v = .int (cs.getD k 0) t := by
  rw [hk, enD_get] at h
  exact PyProof.V.Flat.int_inv h
def rowParts (c : List Int) : List Str := [Txt.mul (Str.ofString "1") (c.getD 0 0) ++ Str.ofString ".", Txt.mul (Str.ofString "1") (c.getD 1 0) ++ Str.ofString ".", Txt.mul (Str.ofString "1") (c.getD 2 0) ++ Str.ofString ".", Txt.mul (Str.ofString "1") (c.getD 3 0) ++ Str.ofString ".", Txt.mul (Str.ofString "1") (c.getD 4 0) ++ Str.ofString "."]
def rowOf (c : List Int) : Str := Txt.join (Str.ofString "") (rowParts c)
def RowOk (c : List Int) : Prop := (0 ≤ c.getD 0 0 ∧ c.getD 0 0 ≤ 100) ∧ (0 ≤ c.getD 1 0 ∧ c.getD 1 0 ≤ 100) ∧ (0 ≤ c.getD 2 0 ∧ c.getD 2 0 ≤ 100) ∧ (0 ≤ c.getD 3 0 ∧ c.getD 3 0 ≤ 100) ∧ (0 ≤ c.getD 4 0 ∧ c.getD 4 0 ≤ 100) ∧ JoinOk (Str.ofString "") (rowParts c) = true
theorem join5 {prog : Program} {w : World} {A : Around} {E : Value → Shared → Prop} {s : Shared} {x : Str} {t : Tok} {Q : Value → Shared → Prop} {D : Addr} {a1 a2 a3 a4 a5 : Str} {t1 t2 t3 t4 t5 : Tok}
    (hl : s.heap.IsList D [Value.str a1 t1, Value.str a2 t2, Value.str a3 t3, Value.str a4 t4, Value.str a5 t5].toArray) (hok : JoinOk x [a1, a2, a3, a4, a5] = true)
    (hq : ∀ t' k, Q (.str (Txt.join x [a1, a2, a3, a4, a5]) t') { s with toks := k }) : wpAny (model prog w) A (call (.builtin "str.join") [.str x t, .ref D]) Q E s :=
  SC.join (l := [(a1, t1), (a2, t2), (a3, t3), (a4, t4), (a5, t5)]) hl rfl hok hq

theorem c_row : ∀ (w : World) (g : Heap) (_ : Gnd w g) (dp un : Nat) (fr : Option (List Env)) (gd : Option (List Code)) (s : Shared) (Q E : Value → Shared → Prop) (d1 : Addr) (o1 : Obj) (c1 : List Int),
    (hd.heap_39 w.params).In g → Kp g s.heap → g.get? d1 = none → s.heap.get? d1 = some o1 → DI w o1 c1 → (d1 == sysModules) = false → RowOk c1 → dp + 10 < recursionLimit → un + 100 < cLine →
    (∀ h' tk t, Kp s.heap h' → Q (.str (rowOf c1) t) { s with heap := h', toks := tk }) →
    wpAny (model PySem.Challenge.rw_pe0136_01.row.prog w) (arnd dp fr gd un) (call (.ref 89) [.ref d1]) Q E s := by
  w_top off
  k_fill
  intro w g G dp un fr gd s Q E d1 o1 c1 _ e g1 s1 hD1 lo1 ⟨q0, q1, q2, q3, q4, hjo⟩ hdp hun ret
  have G0 := G
  obtain ⟨X0, p, loose, mean, mg, mb, T0⟩ := G
  obtain ⟨gb, hgb⟩ : ∃ gb, gb = hideAll s.heap [d1] := ⟨_, rfl⟩
  have e' : Kp g gb := fun b o q => by
    rw [hgb]
    exact hideAll_get _ (e b o q) (fun hm => by rw [List.mem_singleton.mp hm, g1] at q; cases q)
  have X := X0.keeps e'
  have T := T0.keeps e'
  obtain ⟨kv1, i1, f1⟩ := hD1
  have hN := led_cons s1 led_nil
  k_dflt (refine' entC gb hN hgb ?k3 ?k5 ?k6 ?k7 ?k8 ?k9 ?kB ?kD ?c2 ?c3 ?c4 ?_; (case k3 => k_asm); (case k5 => k_asm); (case k6 => k_is); (case k7 => k_is); (case k8 => omega); (case k9 => exact BindsTo.of_eq rfl); (case kB => exact rfl); (case kD => decide +kernel); (case c2 => exact rfl); (case c3 => exact rfl); (case c4 => exact rfl); k_whole; intro L' h' tk' cells' F' N' Y' l1; (try k_lt l1); k_cells Y'; (try simp only [List.cons_append, List.nil_append] at N'); (try dsimp only); (try k_fold))
  k_steps
  refine Stop.mk ?_
  k_dflt (refine LCg.CompSrc.range (by rfl) (by k_asm) (by k_asm) (by assumption) (by first | decide | rfl) (by first | rfl | decide) (by first | size_fits | exact Nat.le_of_ble_eq_true rfl) ?_; intro g'; lcg_lit)
  k_steps
  (rename PyProof.V.Flat _ _ => hv); (obtain ⟨t1, h1⟩ := flat_get hv 0 rfl); (subst h1); (clear hv)
  k_steps
  (rename PyProof.V.Flat _ _ => hv); (obtain ⟨t1, h1⟩ := flat_get hv 1 rfl); (subst h1); (clear hv)
  k_steps
  (rename PyProof.V.Flat _ _ => hv); (obtain ⟨t1, h1⟩ := flat_get hv 2 rfl); (subst h1); (clear hv)
  k_steps
  (rename PyProof.V.Flat _ _ => hv); (obtain ⟨t1, h1⟩ := flat_get hv 3 rfl); (subst h1); (clear hv)
  k_steps
  (rename PyProof.V.Flat _ _ => hv); (obtain ⟨t1, h1⟩ := flat_get hv 4 rfl); (subst h1); (clear hv)
  k_steps
  (rename News _ _ _ _ => N9); (rename Fr _ _ _ _ => F9)
  refine' join5 ?hq1 hjo ?_
  case hq1 => exact News.isList N9 (.head _)
  intro t3 k3
  (try dsimp only)
  exact ret _ _ _ (kpx_nil hN hgb F9 N9 (by (repeat' (first | exact List.forall_mem_nil _ | refine List.forall_mem_cons.mpr ⟨?_, ?_⟩ | exact Or.inl (by k_mem) | exact Or.inr (by k_mem)))))
end Mine
end
section
open PySem PySem.W PySem.Calls PyProof.Rows PySem.Spec PyProof.V
namespace Mine

theorem ints_places : ∀ (n a : Nat) (vs : List Value), vs.length = n → (∀ (j : Nat) (v : Value), vs[j]? = some v → ∃ t, v = .int ((a + j : Nat) : Int) t) → AreOf .int vs ((List.range' a n).map fun (j : Nat) => (j : Int))
  | 0, _, [], _, _ => .nil
  | n + 1, a, v :: vs, h, f => by
    rw [List.range'_succ, List.map_cons]
    refine .cons (f 0 v rfl) (ints_places n (a + 1) vs (Nat.succ.inj h) fun j u hj => ?_)
    obtain ⟨t, ht⟩ := f (j + 1) u hj
    exact ⟨t, by rw [ht, show a + 1 + j = a + (j + 1) by omega]⟩

/-- a dict comprehension over range(5), its keys the places themselves, stored under a name -/
theorem asg_dict5 {prog : Program} {w : World} {A : Around} {E : Value → Shared → Prop} {s : Shared} {h₀ : Heap} {L : Addr} {m : Str → Option Value} {env : Env}
    {vx iter : Expr} {x y : Str} {kp px py : Pos} {scope : Scope} {cl : List (Str × Addr)} {pos spos : Pos} {Q : Flow → Shared → Prop} {hx₀ : Heap} (_ : Fr h₀ L hx₀ m) (d : Nat → Int)
    (hsw : swapsWith (.DictComp (.Name x kp) vx [⟨.Name x px, iter, [], 0⟩] scope pos) (some (.Name y py)) spos.line env = pure true) (hL : env.locals = L)
    (hh : A.handled = none) (hclos : closureFor scope env = pure cl) (hcell : ∀ z ∈ scope.names, z.2 ≠ .cell) (hkind : scope.kind = .function)
    (hnames : ∀ z ∈ scope.names, z.2 = .local → scope.names.lookup z.1 = some .local) (hx : scope.names.lookup x = some .local)
    (hy : env.kindOf y = some .local) (hp : (env.scope.kind == .class || (env.scope.kind == .module && env.locals != env.globals)) = false)
    (hs : ∀ x, foldedSetIterable iter env x = pure x)
    (k1 : ∀ C, (compEnvC scope cl C env).scope.kind = .function) (k2 : ∀ C, (compEnvC scope cl C env).kindOf x = some .local) (k3 : (x == ("__debug__" : Str)) = false)
    (h : wpAny (model prog w) A (eval iter env) (fun xv s₁ => ∃ r t u v news, xv = .ref r ∧ IsRange s₁.heap r 0 5 1 t u v ∧ Fr h₀ L s₁.heap m ∧ News h₀ L s₁.heap news ∧
      (∀ C i tv s₂ m₂ E', i < 5 → s₂.heap.Ns (compEnvC scope cl C env).locals m₂ → m₂ x = some (.int (i : Int) tv) → (∀ b o, s₁.heap.get? b = some o → s₂.heap.get? b = some o) →
        wpAny (model prog w) A (eval vx (compEnvC scope cl C env)) (fun y s₃ => (∃ t, y = .int (d i) t) ∧ Keeps s₂ s₃) E' s₂) ∧
      (∀ D o h' tk (kvs : List (Int × Value)), Fr h₀ L h' (fun z => if z = y then some (.ref D) else m z) → News h₀ L h' ((D, o) :: news) → s₁.heap.get? D = none → o.IsDictOf (intKind prog w) kvs →
        FlatPairs PyData.int kvs (enD 0 [d 0, d 1, d 2, d 3, d 4]) → Q .next { s₁ with heap := h', toks := tk })) E s) :
    wpAny (model prog w) A (exec (.Assign [.Name y py] (.DictComp (.Name x kp) vx [⟨.Name x px, iter, [], 0⟩] scope pos) spos) env) Q E s := by
  subst hL
  rw [exec_Assign_Name_used _ _ _ _ hsw]
  refine wpAny_bind (wpAny_standAt (wpAny_bind ?_))
  show wpAny _ A (do let _ ← comprehension (.DictComp (.Name x kp) vx [⟨.Name x px, iter, [], 0⟩] scope pos) scope env _ newDict false (eval iter env) (some (assign (.Name y py) env))) _ _ s
  refine wpAny_bind (wpAny_mono (wpAny_comprehension_free (use := some (assign (.Name y py) env)) (Q := fun _ s' => Q .next s') rfl hs hclos hkind hnames
    (wpAny_mono h (fun xv s₁ h₁ => ?_) fun _ _ e => e)) (fun _ s' hq => wpAny_pure (wpAny_pure hq)) fun _ _ e => e)
  obtain ⟨r, t, u, v, news, rfl, hr, F, N, hval, hQ⟩ := h₁
  refine wpAny_pyIter_range hr (by decide) ?_
  generalize hH : s₁.heap.push { cls := .type "range_iterator", data := .fields #[rawInt 0, rawInt (Builtin.Range.rangeSize 0 5 1), rawInt 1] } = H
  have hold : ∀ b o, s₁.heap.get? b = some o → H.get? b = some o := fun b o e => hH ▸ Heap.get?_push_of_some _ e
  have hsz : H.objs.size = s₁.heap.objs.size + 1 := by rw [← hH, Heap.size_push]
  have up : ∀ h₃ : Heap, (∀ b o, b ∉ [s₁.heap.objs.size] → H.get? b = some o → h₃.get? b = some o) → ∀ b o, s₁.heap.get? b = some o → h₃.get? b = some o :=
    fun h₃ hk b o e => hk b o (fun hm => absurd (Heap.lt_size e) ((List.mem_singleton.mp hm) ▸ Nat.lt_irrefl _)) (hold b o e)
  refine comp_block_walkCD (s₂ := { s₁ with heap := H }) (knd := intKind prog w) (RR := fun acc C => compPost (model prog w) A E (some (assign (.Name y py) env)) (fun _ s' => Q .next s') acc C) ((Walks.range hh s₁.heap.objs.size 0 1 5).bound) (by decide) (fun _ => true)
    (fun v k => ∃ a : Int, ItemKind.int.is a v ∧ k = a) (fun v y => ∃ a : Int, ItemKind.int.is a v ∧ Carried y (PyData.int (d a.toNat))) hcell hkind hx ?_ ?_ ⟨?_, ?_, ?_⟩ ?_
  · rw [← hH]
    exact Heap.get?_push_size _ rfl
  · intro b hb
    rw [List.mem_singleton.mp hb]
    show _ < H.objs.size
    rw [hsz]; exact Nat.lt_succ_self _
  · intro C i v s₃ m₃ E' hP hn hm hk
    exact wpAny_pure ⟨rfl, _, _, rfl, fun _ _ e => e⟩
  · intro C i v s₃ m₃ E' hP _ hn hm hk
    obtain ⟨hi, t', rfl⟩ := hP
    exact ldVarK hn hm ⟨⟨_, intKind_is _ _ _ _, _, ⟨t', rfl⟩, rfl⟩, _, _, rfl, fun _ _ e => e⟩ (k1 C) (k2 C) k3
  · intro C i v s₃ m₃ E' hP _ hn hm hk
    obtain ⟨hi, t', rfl⟩ := hP
    have hz : (0 : Int) + (i : Int) * 1 = (i : Int) := by omega
    rw [hz] at hm
    refine wpAny_mono (hval C i t' s₃ m₃ E' hi hn hm (up _ hk)) (fun y s₄ h₄ => ⟨⟨(i : Int), ⟨t', by rw [hz]⟩, ?_⟩, h₄.2⟩) fun _ _ e => e
    obtain ⟨ty, rfl⟩ := h₄.1
    exact .int _ _
  · intro D C h' tk m' kvs vs' hD hC hDC hnC hlD hlen hP hF hk
    have hn : H.Ns env.locals m := F.ns.at' fun o e => hold _ o e
    have hLf : env.locals ∉ [s₁.heap.objs.size] := fun hm => absurd F.ns.lt ((List.mem_singleton.mp hm) ▸ Nat.lt_irrefl _)
    have hLC : env.locals ≠ C := by
      intro q; obtain ⟨o, _, _, ho, _⟩ := hn; rw [q] at ho; rw [show H.get? C = none from hC] at ho; cases ho
    have hLD : env.locals ≠ D := by
      intro q; obtain ⟨o, _, _, ho, _⟩ := hn; rw [q] at ho; rw [show H.get? D = none from hD] at ho; cases ho
    show wpAny _ A (assign (.Name y py) env (.ref D)) _ _ _
    refine wpAny_assign_Name (wpAny_storeName_local hy (hn.at' fun o e => hk _ o hLf e) (fun h₂ hn₂ hs₂ => ?_) hp)
    refine ⟨m', hnC.sameBut hs₂ (Ne.symm hLC), fun h₃ hs₃ => ?_⟩
    have keep : ∀ b o, b ≠ env.locals → s₁.heap.get? b = some o → h₃.get? b = some o := fun b o hb e =>
      hs₃.extBut b o (fun q => by have z := hold _ _ e; rw [q] at z; rw [show H.get? C = none from hC] at z; cases z) (hs₂.extBut b o hb (up h' hk b o e))
    have hD1 : s₁.heap.get? D = none := by
      cases e : s₁.heap.get? D with
      | none => rfl
      | some o' => have := hold _ _ e; rw [show H.get? D = none from hD] at this; cases this
    obtain ⟨oD, gD, dD⟩ := Heap.dictOf_iff.mp ((hlD.extBut hs₂.extBut (Ne.symm hLD)).extBut hs₃.extBut hDC)
    have hD0 : h₀.get? D = none := by
      cases e : h₀.get? D with
      | none => rfl
      | some o' => rw [F.keep _ _ e] at hD1; cases hD1
    have hvs : vs'.filter (fun _ => true) = vs' := List.filter_eq_self.mpr fun _ _ => rfl
    rw [hvs] at hF
    have hi := ints_places 5 0 vs' hlen (fun j v hj => by
      obtain ⟨_, t', e⟩ := hP j v hj
      exact ⟨t', by rw [e]; congr 1; omega⟩)
    refine hQ D oD h₃ _ kvs ⟨hn₂.sameBut hs₃ hLC, fun b o e => keep b o (Nat.ne_of_lt (Nat.lt_of_lt_of_le (Heap.lt_size e) F.above)) (F.keep b o e), F.above⟩
      (List.forall_mem_cons.mpr ⟨⟨gD, Ne.symm hLD, hD0⟩, fun p hp => ⟨keep _ _ (N p hp).2.1 (N p hp).1, (N p hp).2⟩⟩) hD1 dD (storedAll_flat (d := fun a => PyData.int (d a.toNat)) (kf := fun a => a) PyProof.V.same_int hF _ hi)
theorem rpost_off {h₀ : Heap} {L : Addr} {s₁ : Shared} {I : Addr} {it : Obj} {J R : (Str → Option Value) → List (Addr × Obj) → Prop} {Q : Flow → Shared → Prop} {f : Flow} {s₂ : Shared} (h : ∀ m n, J m n → (∀ p ∈ n, p.1 ≠ I) → R m n) (p : RPost h₀ L s₁ I it J Q f s₂) : UnrPost h₀ L s₁ I it R Q f s₂ := by
  have key : REnd h₀ L s₁ I it J s₂ → UnrEnd h₀ L s₁ I it R s₂ := by
    rintro ⟨h', tk', m', news', e1, e2, e3, e4, e6⟩
    exact ⟨h', tk', m', news', e1, e2, e3, e4, h _ _ e6 e4⟩
  cases f with
  | ret v => exact p
  | brk => exact p
  | next => exact key p
  | cont => exact key p
theorem list_ind {prog : Program} {w : World} {A : Around} {E : Value → Shared → Prop} {s : Shared} {env : Env} {h₀ : Heap} {x : Str} {body : List Stmt} {Q : Flow → Shared → Prop} {I : Addr} {lp : Addr × Obj} (J : List Value → (Str → Option Value) → List (Addr × Obj) → Prop)
    (turn : ∀ v r m news, J (v :: r) m news → (∀ p ∈ news, p.1 ≠ I) → ∀ (it : Obj) h tk, it.cls = .type "list_iterator" → Fr h₀ env.locals h (fun y => if y = x then some v else m y) → News h₀ env.locals h ((I, it) :: news) →
      wpAny (model prog w) A (execs body env) (RPost h₀ env.locals { s with heap := h, toks := tk } I it (fun m n => lp ∈ n ∧ J r m n) Q) E { s with heap := h, toks := tk })
    (fin : ∀ m news, J [] m news → ∀ h tk, Fr h₀ env.locals h m → News h₀ env.locals h news → Q .next { s with heap := h, toks := tk }) :
    ∀ r m news, J r m news → (∀ p ∈ news, p.1 ≠ I) → ListRest prog w A E h₀ env x body Q s I lp r m news
  | [], m, news, j, _ => fun h tk F N => fin m news j h tk F N
  | v :: r, m, news, j, o => fun it h tk hi F N => wpAny_mono (turn v r m news j o it h tk hi F N) (fun f s₂ p => rpost_off (fun m' n' q o' => ⟨q.1, list_ind J turn fin r m' n' q.2 o'⟩) p) fun _ _ e => e
theorem list_loop {prog : Program} {w : World} {A : Around} {E : Value → Shared → Prop} {s : Shared} {env : Env} {h₀ : Heap} {x : Str} {body : List Stmt} {Q : Flow → Shared → Prop} {ax : Addr} {lo : Obj} {vs : List Value} {n : Nat} {m₀ : Str → Option Value} {news : List (Addr × Obj)}
    (hh : A.handled = none) (F : Fr h₀ env.locals s.heap m₀) (N : News h₀ env.locals s.heap news) (hm : (ax, lo) ∈ news) (hc : lo.cls = .type "list") (hd : lo.data = .seq vs.toArray n)
    (J : (Str → Option Value) → List Value → (Str → Option Value) → List (Addr × Obj) → Prop) (start : J m₀ vs m₀ news)
    (turn : ∀ I : Addr, (∀ p ∈ news, p.1 < I) → ∀ v r m news, J m₀ (v :: r) m news → (∀ p ∈ news, p.1 ≠ I) → ∀ (it : Obj) h tk, it.cls = .type "list_iterator" → Fr h₀ env.locals h (fun y => if y = x then some v else m y) → News h₀ env.locals h ((I, it) :: news) →
      wpAny (model prog w) A (execs body env) (RPost h₀ env.locals { s with heap := h, toks := tk } I it (fun m n => (ax, lo) ∈ n ∧ J m₀ r m n) Q) E { s with heap := h, toks := tk })
    (fin : ∀ m news, J m₀ [] m news → ∀ h tk, Fr h₀ env.locals h m → News h₀ env.locals h news → Q .next { s with heap := h, toks := tk }) :
    wpAny (model prog w) A (pyIter (.ref ax)) (fun it s₂ => LoopAtV prog w A h₀ env x body Q E it s₂) E s :=
  iter_listUnr hh F N hm hc hd fun I hI => list_ind (J m₀) (turn I hI) fin _ _ _ start fun p hp => Nat.ne_of_lt (hI p hp)
theorem wpAny_stop {α : Type} {M : Model} {A : Around} {E : Value → Shared → Prop} {s : Shared} {t : Sem α} {Q : α → Shared → Prop} (h : wpAny M A t (fun a s' => Stop (Q a s')) E s) : wpAny M A t Q E s := h
end Mine
end
section
open PySem PySem.W PySem.Calls PyProof.Rows
namespace Mine
local macro_rules | `(tactic| walk_at "pyIter ref") => `(tactic| refine stopIter ?_)
local macro_rules | `(tactic| walk_at "call builtin:str.split") => `(tactic| refine stopSplit ?_)
local macro_rules | `(tactic| walk_at "exec Assign cons DictComp") => `(tactic| refine stopAsg ?_)

theorem split_new {prog : Program} {w : World} {A : Around} {E : Value → Shared → Prop} {s : Shared} {x : Str} {t : Tok} {h₀ : Heap} {L : Addr} {m : Str → Option Value} {news : List (Addr × Obj)} {Q : Value → Shared → Prop} {y : Str} {u : Tok} (hF : Fr h₀ L s.heap m) (hN : News h₀ L s.heap news) (hy : (y.length == 0) = false)
    (h : ∀ D l h' k, l.map (·.1) = Txt.split x y → Fr h₀ L h' m → News h₀ L h' ((D, { cls := .type "list", data := .seq (strValues l).toArray }) :: news) → (∀ p ∈ news, p.1 < D) → Q (.ref D) { s with heap := h', toks := k })
    (hsz : x.length + 2 ≤ sizeLine) : wpAny (model prog w) A (call (.builtin "str.split") [.str x t, .str y u]) Q E s :=
  splitN1 hF hN hy (fun l h' k e F N => h _ l h' k e F N (fun p hp => Heap.lt_size (hN p hp).1)) hsz

theorem kp_none {g h : Heap} {a : Addr} (e : Kp g h) (n : h.get? a = none) : g.get? a = none := by
  cases z : g.get? a with
  | none => rfl
  | some o => rw [e a o z] at n; cases n
theorem kp_hideAll {g s : Heap} {as : List Addr} (e : Kp g s) (h : ∀ a ∈ as, g.get? a = none) : Kp g (hideAll s as) := fun b o q =>
  hideAll_get _ (e b o q) (fun hm => by rw [h b hm] at q; cases q)

def hrow (p : Int) (kept c : List Int) : Str × Int := carry (fullOf p) 12 (rowOf (addL kept c)) 0
def ones (p : Int) (kept c : List Int) : List Str := Txt.split (hrow p kept c).1 (Str.ofString ".")
def keptOf (l : List Str) : List Int := [((l.getD 0 (Str.ofString "")).length : Int), ((l.getD 1 (Str.ofString "")).length : Int), ((l.getD 2 (Str.ofString "")).length : Int), ((l.getD 3 (Str.ofString "")).length : Int), ((l.getD 4 (Str.ofString "")).length : Int)]
def HOk (p : Int) (kept c : List Int) : Prop := RowOk (addL kept c) ∧ CarryOk (fullOf p) 12 (rowOf (addL kept c)) ∧ (hrow p kept c).1.length + 2 ≤ sizeLine ∧ 5 ≤ (ones p kept c).length

theorem len_part {prog : Program} {w : World} {A : Around} {E : Value → Shared → Prop} {s : Shared} {lS : List (Str × Tok)} {x y z : Str} {t : Tok} {i : Nat} (eS : lS.map (·.1) = Txt.split x y) (hget : (lS.map (·.1))[((i : Nat) : Int).toNat]? = some z) (hx : x.length + 2 ≤ sizeLine) :
    wpAny (model prog w) A (call (.builtin "len") [.str z t]) (fun v s' => (∃ t, v = .int (((Txt.split x y).getD i (Str.ofString "")).length : Int) t) ∧ Keeps s s') E s := by
  rw [Int.toNat_natCast, eS] at hget
  have hle : z.length ≤ x.length := part_short (List.mem_of_getElem? hget)
  have hz : (Txt.split x y).getD i (Str.ofString "") = z := by rw [List.getD_eq_getElem?_getD, hget]; rfl
  have q := sizeLine_eq
  refine P.len_str (by omega) ?_
  rw [hz]
  exact ⟨⟨_, rfl⟩, _, _, rfl, fun _ _ e => e⟩
theorem lo_of {g gb : Heap} {d : Addr} (h : ∃ o, g.get? sysModules = some o) (e : Kp g gb) (n : gb.get? d = none) : (d == sysModules) = false := by
  obtain ⟨o, ho⟩ := h
  refine beq_eq_false_iff_ne.mpr fun q => ?_
  rw [q, e _ _ ho] at n
  cases n

def hfold (p : Int) : List Int → List (List Int) → Str × Int → Str × Int
  | _, [], rc => rc
  | kl, c :: cs, rc => hfold p (keptOf (ones p kl c)) cs ((hrow p kl c).1, rc.2 + (hrow p kl c).2)
def HsOk (p : Int) : List Int → List (List Int) → Prop
  | _, [] => True
  | kl, c :: cs => HOk p kl c ∧ HsOk p (keptOf (ones p kl c)) cs
structure TabOk (w : World) (g : Heap) (led : List (Addr × Obj)) (x : Addr × Obj × List Int) : Prop where
  off : g.get? x.1 = none
  at' : (x.1, x.2.1) ∈ led
  di : DI w x.2.1 x.2.2
  lo : (x.1 == sysModules) = false
  len : x.2.2.length ≤ 5

def Mh (m₀ : Str → Option Value) (r : Str) (tr : Tok) (c : Int) (t : Tok) (dk : Addr) (mo ta : Option Value) : Str → Option Value := fun z =>
  if z = Str.ofString "kept" then some (.ref dk) else if z = Str.ofString "carries" then some (.int c t) else if z = Str.ofString "more" then mo else if z = Str.ofString "row" then some (.str r tr) else if z = Str.ofString "table" then ta else m₀ z
theorem mh_self {m₀ : Str → Option Value} {r : Str} {tr : Tok} {c : Int} {t : Tok} {dk : Addr} (h : m₀ (Str.ofString "carries") = some (.int c t)) (h' : m₀ (Str.ofString "row") = some (.str r tr)) (h'' : m₀ (Str.ofString "kept") = some (.ref dk)) :
    m₀ = Mh m₀ r tr c t dk (m₀ (Str.ofString "more")) (m₀ (Str.ofString "table")) := by
  funext z
  unfold Mh
  by_cases h1 : z = Str.ofString "kept"
  · rw [if_pos h1, h1, h'']
  rw [if_neg h1]
  by_cases h2 : z = Str.ofString "carries"
  · rw [if_pos h2, h2, h]
  rw [if_neg h2]
  by_cases h3 : z = Str.ofString "more"
  · rw [if_pos h3, h3]
  rw [if_neg h3]
  by_cases h4 : z = Str.ofString "row"
  · rw [if_pos h4, h4, h']
  rw [if_neg h4]
  by_cases h5 : z = Str.ofString "table"
  · rw [if_pos h5, h5]
  rw [if_neg h5]
theorem fr_mh {gb h : Heap} {L : Addr} {m₀ : Str → Option Value} {r r' : Str} {tr tr' : Tok} {c c' : Int} {t t' : Tok} {dk dk' : Addr} {mo ta mo' ta' : Option Value}
    (F : Fr gb L h (fun y => if y = Str.ofString "kept" then some (.ref dk') else if y = Str.ofString "carries" then some (.int c' t') else if y = Str.ofString "more" then mo' else if y = Str.ofString "row" then some (.str r' tr') else if y = Str.ofString "table" then ta' else
      if y = Str.ofString "kept" then some (.ref dk) else if y = Str.ofString "carries" then some (.int c t) else if y = Str.ofString "more" then mo else if y = Str.ofString "row" then some (.str r tr) else if y = Str.ofString "table" then ta else m₀ y)) :
    Fr gb L h (Mh m₀ r' tr' c' t' dk' mo' ta') := fr_eq F fun y => by
  unfold Mh
  by_cases h1 : y = Str.ofString "kept"
  · rw [if_pos h1, if_pos h1]
  by_cases h2 : y = Str.ofString "carries"
  · rw [if_neg h1, if_pos h2, if_neg h1, if_pos h2]
  by_cases h3 : y = Str.ofString "more"
  · rw [if_neg h1, if_neg h2, if_pos h3, if_neg h1, if_neg h2, if_pos h3]
  by_cases h4 : y = Str.ofString "row"
  · rw [if_neg h1, if_neg h2, if_neg h3, if_pos h4, if_neg h1, if_neg h2, if_neg h3, if_pos h4]
  by_cases h5 : y = Str.ofString "table"
  · rw [if_neg h1, if_neg h2, if_neg h3, if_neg h4, if_pos h5, if_neg h1, if_neg h2, if_neg h3, if_neg h4, if_pos h5]
  simp only [if_neg h1, if_neg h2, if_neg h3, if_neg h4, if_neg h5]

def JH (w : World) (g : Heap) (p : Int) (cA : Addr) (led : List (Addr × Obj)) (res : Str × Int) (m₀ : Str → Option Value) (r : List Value) (m : Str → Option Value) (news : List (Addr × Obj)) : Prop :=
  ∃ (rw : Str) (tr : Tok) (c : Int) (t : Tok) (mo ta : Option Value) (dk : Addr) (ok oc : Obj) (cv : Option Value) (kl : List Int) (ts : List (Addr × Obj × List Int)),
    m = Mh m₀ rw tr c t dk mo ta ∧ news = (dk, ok) :: (cA, oc) :: led ∧ oc.data = Data.cell cv ∧ DI w ok kl ∧ (dk == sysModules) = false ∧ kl.length ≤ 5 ∧ r = ts.map (fun x => Value.ref x.1) ∧ (∀ x ∈ ts, TabOk w g led x) ∧
    HsOk p kl (ts.map (·.2.2)) ∧ res = hfold p kl (ts.map (·.2.2)) (rw, c) ∧ @Ne Nat cA dk

theorem cls_ne {h : Heap} {a b : Addr} {oa ob : Obj} (ha : h.get? a = some oa) (hb : h.get? b = some ob) (hc : oa.cls ≠ ob.cls) : a ≠ b := fun q => hc (by
  rw [q, hb] at ha
  rw [Option.some.inj ha])
theorem di_cls {w : World} {o : Obj} {c : List Int} (h : DI w o c) : o.cls = .type "dict" := by
  obtain ⟨_, ⟨_, _, x, _⟩, _⟩ := h
  exact x.1
theorem tup_list : Value.type "tuple" ≠ Value.type "list" := by intro h; injection h with h; exact absurd h (by decide)
theorem tup_dict : Value.type "tuple" ≠ Value.type "dict" := by intro h; injection h with h; exact absurd h (by decide)

theorem c_heap : ∀ (w : World) (g : Heap) (_ : Gnd w g) (dp un : Nat) (fr : Option (List Env)) (gd : Option (List Code)) (s : Shared) (Q E : Value → Shared → Prop) (dl d1 d2 d3 : Addr) (o1 o2 o3 : Obj) (nl : Nat) (c1 c2 c3 : List Int) (p : Int) (tp : Tok),
    (hd.heap_39 w.params).In g → (∃ o, g.get? sysModules = some o) → Kp g s.heap → g.get? dl = none → g.get? d1 = none → g.get? d2 = none → g.get? d3 = none → s.heap.get? dl = some (listOf #[.ref d1, .ref d2, .ref d3] nl) →
    s.heap.get? d1 = some o1 → s.heap.get? d2 = some o2 → s.heap.get? d3 = some o3 → DI w o1 c1 → DI w o2 c2 → DI w o3 c3 → (d1 == sysModules) = false → (d2 == sysModules) = false → (d3 == sysModules) = false →
    c1.length ≤ 5 → c2.length ≤ 5 → c3.length ≤ 5 → 2 ≤ p → p ≤ 10 → ((fullOf p).length == 0) = false → HsOk p [] [c1, c2, c3] → dp + 50 < recursionLimit → un + 500 < cLine →
    (∀ d h' tk c t1 t2, Kp s.heap h' → s.heap.get? d = none → h'.get? d = some (tup [.str (hfold p [] [c1, c2, c3] (Str.ofString "", 0)).1 t1, .int (hfold p [] [c1, c2, c3] (Str.ofString "", 0)).2 t2] c) → Q (.ref d) { s with heap := h', toks := tk }) →
    wpAny (model PySem.Challenge.rw_pe0136_01.row.prog w) (arnd dp fr gd un) (call (.ref 101) [.ref dl, .int p tp]) Q E s := by
  w_top off
  k_fill
  intro w g G dp un fr gd s Q E dl d1 d2 d3 o1 o2 o3 nl c1 c2 c3 p tp _ hsys e gl g1 g2 g3 sl s1 s2 s3 hD1 hD2 hD3 lo1 lo2 lo3 n1 n2 n3 hp0 hp1 hfl hok hdp hun ret
  have G0 := G
  obtain ⟨X0, pr, loose, mean, mg, mb, T0⟩ := G
  obtain ⟨gb, hgb⟩ : ∃ gb, gb = hideAll s.heap [dl, d1, d2, d3] := ⟨_, rfl⟩
  have e' : Kp g gb := by
    rw [hgb]
    refine kp_hideAll e ?_
    exact List.forall_mem_cons.mpr ⟨gl, List.forall_mem_cons.mpr ⟨g1, List.forall_mem_cons.mpr ⟨g2, List.forall_mem_cons.mpr ⟨g3, List.forall_mem_nil _⟩⟩⟩⟩
  have X := X0.keeps e'
  have T := T0.keeps e'
  have hN := led_cons sl (led_cons s1 (led_cons s2 (led_cons s3 led_nil)))
  obtain ⟨led, hled⟩ : ∃ led, led = [(dl, listOf #[.ref d1, .ref d2, .ref d3] nl), (d1, o1), (d2, o2), (d3, o3)] := ⟨_, rfl⟩
  k_dflt (refine' entC gb hN hgb ?k3 ?k5 ?k6 ?k7 ?k8 ?k9 ?kB ?kD ?c2 ?c3 ?c4 ?_; (case k3 => k_asm); (case k5 => k_asm); (case k6 => k_is); (case k7 => k_is); (case k8 => omega); (case k9 => exact BindsTo.of_eq rfl); (case kB => exact rfl); (case kD => decide +kernel); (case c2 => exact rfl); (case c3 => exact rfl); (case c4 => exact rfl); k_whole; intro L' h' tk' cells' F' N' Y' l1; (try k_lt l1); k_cells Y'; (try simp only [List.cons_append, List.nil_append] at N'); (try dsimp only); (try k_fold))
  k_steps
  refine Stop.mk ?_
  (rename News _ _ _ _ => N9); (rename Fr _ _ _ _ => F9); (rename Obj.IsDictOf (intKind _ _) _ [] => hi9); (rename (_ == sysModules) = false => lo9)
  obtain ⟨dK, hdK⟩ := nm_zero N9
  subst hdK
  refine' list_loop rfl F9 N9 (by k_mem) rfl rfl (JH w g p (L' + 1) [(dl, listOf #[.ref d1, .ref d2, .ref d3] nl), (d1, o1), (d2, o2), (d3, o3)] (hfold p [] [c1, c2, c3] (Str.ofString "", 0))) ?start ?turn ?fin
  case start =>
    refine ⟨_, _, _, _, _, _, dK, _, _, _, [], [(d1, o1, c1), (d2, o2, c2), (d3, o3, c3)], mh_self rfl rfl rfl, rfl, by assumption, ⟨_, hi9, .nil⟩, lo9, Nat.zero_le _, rfl, ?_, hok, rfl, ?_⟩
    · exact List.forall_mem_cons.mpr ⟨⟨g1, by k_mem, hD1, lo1, n1⟩, List.forall_mem_cons.mpr ⟨⟨g2, by k_mem, hD2, lo2, n2⟩, List.forall_mem_cons.mpr ⟨⟨g3, by k_mem, hD3, lo3, n3⟩, List.forall_mem_nil _⟩⟩⟩
    · omega
  case turn =>
    rintro I hI v r m news ⟨rw0, tr, c, t, mo, ta, dk, okk, oc, cv, kl, ts, rfl, rfl, hcell, DK, loK, lenK, hr, hts, hok1, hres, hne⟩ hoff it h3 tk3 hit F3 N3
    cases ts with
    | nil => cases hr
    | cons x ts =>
    obtain ⟨d, o, cc⟩ := x
    rw [List.map_cons] at hr
    injection hr with hv hr'
    subst hv
    obtain ⟨tg, tm, tD, tlo, tlen⟩ := hts _ (.head _)
    dsimp only at tg tm tD tlo tlen
    obtain ⟨⟨r1, r2, r3, r4⟩, hok2⟩ := hok1
    dsimp only at r1 r2 r3 r4 hok2
    dsimp only [Mh] at F3
    clear F9 N9
    have I1 := neN (hoff _ (.head _))
    have I2 := neN (hoff _ (.tail _ (.head _)))
    have I3 := neN (hoff _ (.tail _ (.tail _ (.head _))))
    have I4 := neN (hoff _ (.tail _ (.tail _ (.tail _ (.head _)))))
    have I5 := neN (hoff _ (.tail _ (.tail _ (.tail _ (.tail _ (.head _))))))
    have I6 := neN (hoff _ (.tail _ (.tail _ (.tail _ (.tail _ (.tail _ (.head _)))))))
    dsimp only at I1 I2 I3 I4 I5 I6
    k_steps
    (rename News _ _ _ _ => N9); (rename Fr _ _ _ _ => F9)
    refine c_add_callers w g G0 _ _ _ _ _ _ _ dk d okk o kl cc X0 (e'.trans F9.keep) (kp_none e' (N9 (dk, okk) (by k_mem)).2.2) tg (N9.get (by k_mem)) DK loK (N9.get (.tail _ (.tail _ (.tail _ tm)))) tD tlo lenK tlen ?_ ?_ ?_
    · show dp + 1 + 10 < recursionLimit
      exact rlim hdp (by decide)
    · show un + 3 + 100 < cLine
      exact clim hun (by decide)
    intro dA hA tkA oA kpA nA gA DA loA
    have F4 := fr_kp F9 kpA
    have N4 := nw_new F9 nA gA (nw_kp N9 kpA)
    have eA := ne_new (a := I) N9 (by k_mem) nA
    have eB := ne_new (a := (L' + 1 : Nat)) N9 (by k_mem) nA
    clear F9 N9
    k_steps
    (rename News _ _ _ _ => N9); (rename Fr _ _ _ _ => F9)
    refine c_row w g G0 _ _ _ _ _ _ _ dA oA (addL kl cc) X0 (e'.trans F9.keep) (kp_none e' (N9 (dA, oA) (by k_mem)).2.2) (N9.get (by k_mem)) DA loA r1 ?_ ?_ ?_
    · show dp + 1 + 10 < recursionLimit
      exact rlim hdp (by decide)
    · show un + 3 + 100 < cLine
      exact clim hun (by decide)
    intro hB tkB tB kpB
    have F5 := fr_kp F9 kpB
    have N5 := nw_kp N9 kpB
    clear F9 N9
    k_steps
    (rename News _ _ _ _ => N9); (rename Fr _ _ _ _ => F9)
    refine c_carried w g G0 _ _ _ _ _ _ _ (rowOf (addL kl cc)) p _ _ X0 (e'.trans F9.keep) hp0 hp1 hfl r2 ?_ ?_ ?_
    · show dp + 1 + 20 < recursionLimit
      exact rlim hdp (by decide)
    · show un + 3 + 200 < cLine
      exact clim hun (by decide)
    intro dC hC tkC cC t1C t2C kpC nC gC
    have F6 := fr_kp F9 kpC
    have N6 := nw_new F9 nC gC (nw_kp N9 kpC)
    have eC := ne_new (a := I) N9 (by k_mem) nC
    have eD := ne_new (a := (L' + 1 : Nat)) N9 (by k_mem) nC
    clear F9 N9
    obtain ⟨rw1, hrw1⟩ : ∃ r, r = (carry (fullOf p) 12 (rowOf (addL kl cc)) 0).1 := ⟨_, rfl⟩
    obtain ⟨cw1, hcw1⟩ : ∃ r, r = (carry (fullOf p) 12 (rowOf (addL kl cc)) 0).2 := ⟨_, rfl⟩
    have z3 : rw1.length + 2 ≤ sizeLine := by rw [hrw1]; exact r3
    have z4 : 5 ≤ (Txt.split rw1 (Str.ofString ".")).length := by rw [hrw1]; exact r4
    rw [← hrw1, ← hcw1] at N6
    k_steps
    refine Stop.mk ?_
    (rename News _ _ _ _ => N9); (rename Fr _ _ _ _ => F9)
    refine' split_new ?hF ?hN (by decide) ?_ z3
    case hF => exact F9
    case hN => exact N9
    intro dS lS hS tkS eS F7 N7 lt7
    clear F9 N9
    k_lt lt7
    k_steps
    refine Stop.mk ?_
    (rename News _ _ _ _ => N9); (rename Fr _ _ _ _ => F9)
    refine' asg_dict5 F9 (fun i => (((Txt.split rw1 (Str.ofString ".")).getD i (Str.ofString "")).length : Int)) ?hsw ?hL ?hh ?hclos ?hcell ?hkind ?hnames ?hx ?hy ?hp ?hs ?k1 ?k2 ?k3 ?_
    case hsw => with_unfolding_all rfl
    case hL => with_unfolding_all rfl
    case hh => with_unfolding_all rfl
    case hclos => with_unfolding_all rfl
    case hcell => decide
    case hkind => with_unfolding_all rfl
    case hnames => decide
    case hx => with_unfolding_all rfl
    case hy => with_unfolding_all rfl
    case hp => with_unfolding_all rfl
    case hs => intro _; with_unfolding_all rfl
    case k1 => intro _; with_unfolding_all rfl
    case k2 => intro _; with_unfolding_all rfl
    case k3 => decide
    refine wpAny_stop ?_
    have hl9 : 5 ≤ lS.length := by
      have := congrArg List.length eS
      rw [List.length_map] at this
      omega
    k_steps
    refine Stop.mk ?_
    (rename News _ _ _ _ => N9); (rename Fr _ _ _ _ => F9); (rename Obj.data _ = Data.cell _ => hcell9)
    refine ⟨_, _, _, _, _, rfl, by assumption, F9, N9, ?_, ?_⟩
    · rintro C i tv ⟨hv, g2, dr2, tk2, os2⟩ m₂ E' hi hn hm hk
      have Fv := fr_kp F9 hk
      have Nv := nw_kp N9 hk
      clear F9 N9
      dsimp only at hn Fv Nv
      have eS2 := eS
      k_steps
      (rename (_ = some _) => hget)
      exact len_part (by assumption) hget z3
    intro dM oM hM tkM kvM FM NM nM hDM fM
    have eE := ne_new (a := I) N9 (by k_mem) nM
    have eF := ne_new (a := (L' + 1 : Nat)) N9 (by k_mem) nM
    have loM : (dM == sysModules) = false := lo_of hsys e' (NM _ (.head _)).2.2
    clear F9 N9
    have DM : DI w oM (keptOf (ones p kl cc)) := ⟨kvM, hDM, by
      show PyProof.V.FlatPairs PyData.int kvM (enD 0 (keptOf (Txt.split (hrow p kl cc).1 (Str.ofString "."))))
      rw [show (hrow p kl cc).1 = rw1 from hrw1.symm]
      exact fM⟩
    k_steps
    (rename News _ _ _ _ => N9); (rename Fr _ _ _ _ => F9)
    have F10 := fr_mh F9
    refine ⟨_, _, _, _, rfl, F10, (List.forall_mem_cons.mpr ⟨N9 _ (by k_mem), List.forall_mem_cons.mpr ⟨N9 (dM, oM) (by k_mem), List.forall_mem_cons.mpr ⟨N9 (L' + 1, _) (by k_mem), List.forall_mem_cons.mpr ⟨N9 (dl, listOf #[.ref d1, .ref d2, .ref d3] nl) (by k_mem), List.forall_mem_cons.mpr ⟨N9 (d1, o1) (by k_mem), List.forall_mem_cons.mpr ⟨N9 (d2, o2) (by k_mem), List.forall_mem_cons.mpr ⟨N9 (d3, o3) (by k_mem), List.forall_mem_nil _⟩⟩⟩⟩⟩⟩⟩), ?_, ?_, ?_⟩
    · (repeat' (first | exact List.forall_mem_nil _ | refine List.forall_mem_cons.mpr ⟨neN (by (try dsimp only); omega), ?_⟩))
    · k_mem
    refine ⟨_, _, _, _, _, _, dM, oM, _, _, keptOf (ones p kl cc), ts, rfl, rfl, hcell9, DM, loM, Nat.le_refl 5, hr', fun x hx => hts x (.tail _ hx), hok2, ?_, eF⟩
    rw [hres, hrw1, hcw1]
    rfl
  case fin =>
    rintro m news ⟨rw0, tr, c, t, mo, ta, dk, okk, oc, cv, kl, ts, rfl, rfl, hcell, DK, loK, lenK, hr, hts, hok1, hres, hne⟩ h3 tk3 F3 N3
    cases ts with
    | cons x ts => cases hr
    | nil =>
    dsimp only [Mh] at F3
    clear F9 N9
    k_steps
    (rename News _ _ _ _ => N9); (rename Fr _ _ _ _ => F9)
    (try dsimp only)
    have hres' : hfold p [] [c1, c2, c3] (Str.ofString "", 0) = (rw0, c) := hres
    rw [hres'] at ret
    have zT := N9.get (.head _)
    have zl := N9.get (show (dl, listOf #[.ref d1, .ref d2, .ref d3] nl) ∈ _ by k_mem)
    have y1 := N9.get (show (d1, o1) ∈ _ by k_mem)
    have y2 := N9.get (show (d2, o2) ∈ _ by k_mem)
    have y3 := N9.get (show (d3, o3) ∈ _ by k_mem)
    have fr0 := fresh_of hgb (N9 _ (.head _)).2.2 (fun hm => by
      rcases List.mem_cons.mp hm with q | hm
      · exact cls_ne zT zl tup_list q
      rcases List.mem_cons.mp hm with q | hm
      · exact cls_ne zT y1 (by rw [di_cls hD1]; exact tup_dict) q
      rcases List.mem_cons.mp hm with q | hm
      · exact cls_ne zT y2 (by rw [di_cls hD2]; exact tup_dict) q
      rcases List.mem_cons.mp hm with q | hm
      · exact cls_ne zT y3 (by rw [di_cls hD3]; exact tup_dict) q
      cases hm)
    exact ret _ _ _ _ _ _ (kpx_nil hN hgb F9 N9 (by (repeat' (first | exact List.forall_mem_nil _ | refine List.forall_mem_cons.mpr ⟨?_, ?_⟩ | exact Or.inl (by k_mem) | exact Or.inr (by k_mem))))) fr0 zT
end Mine
end
section
open PySem PySem.W PySem.Calls PyProof.Rows
namespace Mine
local macro_rules | `(tactic| walk_at "pyIter ref") => `(tactic| refine stopIter ?_)

def dealIn : Nat → Nat → Int × Int → Int × Int
  | 0, _, wd => wd
  | k + 1, i, wd => dealIn k (i + 1) ((wd.1 * (wd.2 + 1)).fdiv (1 + (i : Int)), wd.2 + 1)
def dealOut : List Int → Int × Int → Int × Int
  | [], wd => wd
  | h :: hs, wd => dealOut hs (dealIn h.toNat 0 wd)

theorem nm_fr {gb h : Heap} {L : Addr} {m : Str → Option Value} (_ : Fr gb L h m) : ∃ x, x = m := ⟨_, rfl⟩
def Md (m₀ : Str → Option Value) (w : Int) (tw : Tok) (d : Int) (td : Tok) (kv hv : Option Value) : Str → Option Value := fun z =>
  if z = Str.ofString "ways" then some (.int w tw) else if z = Str.ofString "dealt" then some (.int d td) else if z = Str.ofString "k" then kv else if z = Str.ofString "heap" then hv else m₀ z
theorem md_self {m₀ : Str → Option Value} {w : Int} {tw : Tok} {d : Int} {td : Tok} (h : m₀ (Str.ofString "ways") = some (.int w tw)) (h' : m₀ (Str.ofString "dealt") = some (.int d td)) :
    m₀ = Md m₀ w tw d td (m₀ (Str.ofString "k")) (m₀ (Str.ofString "heap")) := by
  funext z
  unfold Md
  by_cases h1 : z = Str.ofString "ways"
  · rw [if_pos h1, h1, h]
  rw [if_neg h1]
  by_cases h2 : z = Str.ofString "dealt"
  · rw [if_pos h2, h2, h']
  rw [if_neg h2]
  by_cases h3 : z = Str.ofString "k"
  · rw [if_pos h3, h3]
  rw [if_neg h3]
  by_cases h4 : z = Str.ofString "heap"
  · rw [if_pos h4, h4]
  rw [if_neg h4]
theorem md_heap {m₀ : Str → Option Value} {w : Int} {tw : Tok} {d : Int} {td : Tok} {kv hv hv' : Option Value} :
    (fun y => if y = Str.ofString "heap" then hv' else Md m₀ w tw d td kv hv y) = Md m₀ w tw d td kv hv' := by
  have n1 : ¬ (Str.ofString "heap" = Str.ofString "ways") := by decide
  have n2 : ¬ (Str.ofString "heap" = Str.ofString "dealt") := by decide
  have n3 : ¬ (Str.ofString "heap" = Str.ofString "k") := by decide
  funext z
  unfold Md
  by_cases h4 : z = Str.ofString "heap"
  · rw [if_pos h4, h4, if_neg n1, if_neg n2, if_neg n3, if_pos rfl]
  rw [if_neg h4, if_neg h4, if_neg h4]
theorem fr_md {gb h : Heap} {L : Addr} {m₀ : Str → Option Value} {w w' : Int} {tw tw' : Tok} {d d' : Int} {td td' : Tok} {kv kv' hv : Option Value}
    (F : Fr gb L h (fun y => if y = Str.ofString "ways" then some (.int w' tw') else if y = Str.ofString "dealt" then some (.int d' td') else if y = Str.ofString "k" then kv' else
      if y = Str.ofString "ways" then some (.int w tw) else if y = Str.ofString "dealt" then some (.int d td) else if y = Str.ofString "k" then kv else if y = Str.ofString "heap" then hv else m₀ y)) :
    Fr gb L h (Md m₀ w' tw' d' td' kv' hv) := fr_eq F fun y => by
  unfold Md
  by_cases h1 : y = Str.ofString "ways"
  · rw [if_pos h1, if_pos h1]
  by_cases h2 : y = Str.ofString "dealt"
  · rw [if_neg h1, if_pos h2, if_neg h1, if_pos h2]
  by_cases h3 : y = Str.ofString "k"
  · rw [if_neg h1, if_neg h2, if_pos h3, if_neg h1, if_neg h2, if_pos h3]
  simp only [if_neg h1, if_neg h2, if_neg h3]

def JO (led : List (Addr × Obj)) (res : Int × Int) (m₀ : Str → Option Value) (r : List Value) (m : Str → Option Value) (news : List (Addr × Obj)) : Prop :=
  ∃ (w : Int) (tw : Tok) (d : Int) (td : Tok) (kv hv : Option Value) (hs : List Int), m = Md m₀ w tw d td kv hv ∧ news = led ∧ IntsAre r hs ∧ (∀ x ∈ hs, 0 ≤ x ∧ x ≤ 9) ∧ res = dealOut hs (w, d) ∧ 0 ≤ d ∧ d + 9 * hs.length ≤ 1000
def JI (led : List (Addr × Obj)) (M0 : Str → Option Value) (hv : Option Value) (res : Int × Int) (n : Nat) (d0 : Int) (_ : Str → Option Value) (k i : Nat) (m : Str → Option Value) (news : List (Addr × Obj)) : Prop :=
  ∃ (w : Int) (tw : Tok) (d : Int) (td : Tok) (kv : Option Value), m = Md M0 w tw d td kv hv ∧ news = led ∧ res = dealIn k i (w, d) ∧ i + k = n ∧ d = d0 + i

theorem ten_nat {h : Int} (h0 : 0 ≤ h) (h1 : h ≤ 9) : ∃ n : Nat, n < 10 ∧ h = (n : Int) := ⟨h.toNat, by omega, by omega⟩
theorem small_ten {h : Int} (h0 : 0 ≤ h) (h1 : h ≤ 9) : Builtin.Range.small 1 (h + 1) 1 = true := by
  obtain ⟨n, hn, rfl⟩ := ten_nat h0 h1
  exact (by decide : ∀ n : Nat, n < 10 → Builtin.Range.small 1 ((n : Int) + 1) 1 = true) n hn
theorem size_ten {h : Int} (h0 : 0 ≤ h) (h1 : h ≤ 9) : Builtin.Range.rangeSize 1 (h + 1) 1 = ((h.toNat : Nat) : Int) := by
  obtain ⟨n, hn, rfl⟩ := ten_nat h0 h1
  exact (by decide : ∀ n : Nat, n < 10 → Builtin.Range.rangeSize 1 ((n : Int) + 1) 1 = (((n : Int).toNat : Nat) : Int)) n hn

theorem c_deal : ∀ (w : World) (g : Heap) (_ : Gnd w g) (dp un : Nat) (fr : Option (List Env)) (gd : Option (List Code)) (s : Shared) (Q E : Value → Shared → Prop) (dl : Addr) (vs : List Value) (hs : List Int) (nl : Nat),
    (hd.heap_39 w.params).In g → Kp g s.heap → g.get? dl = none → s.heap.get? dl = some (listOf vs.toArray nl) → IntsAre vs hs → (∀ x ∈ hs, 0 ≤ x ∧ x ≤ 9) → hs.length ≤ 3 → dp + 10 < recursionLimit → un + 100 < cLine →
    (∀ h' tk t, Kp s.heap h' → Q (.int (dealOut hs (1, 0)).1 t) { s with heap := h', toks := tk }) →
    wpAny (model PySem.Challenge.rw_pe0136_01.row.prog w) (arnd dp fr gd un) (call (.ref 108) [.ref dl]) Q E s := by
  w_top off
  k_fill
  intro w g G dp un fr gd s Q E dl vs hs nl _ e gl sl hvs hbd hlen3 hdp hun ret
  have G0 := G
  obtain ⟨X0, pr, loose, mean, mg, mb, T0⟩ := G
  obtain ⟨gb, hgb⟩ : ∃ gb, gb = hideAll s.heap [dl] := ⟨_, rfl⟩
  have e' : Kp g gb := fun b o q => by
    rw [hgb]
    exact hideAll_get _ (e b o q) (fun hm => by rw [List.mem_singleton.mp hm, gl] at q; cases q)
  have X := X0.keeps e'
  have T := T0.keeps e'
  have hN := led_cons sl led_nil
  k_dflt (refine' entT gb hN hgb ?k3 ?k5 ?k6 ?k7 ?k8 ?k9 ?kB ?c2 ?c3 ?c4 ?c5 ?_; (case k3 => k_asm); (case k5 => k_asm); (case k6 => k_is); (case k7 => k_is); (case k8 => omega); (case k9 => exact BindsTo.of_eq rfl); (case kB => exact locs rfl); (case c5 => decide); (case c2 => exact rfl); (case c3 => exact rfl); (case c4 => exact rfl); k_whole; intro L' h' F' N'; (try dsimp only); (try k_fold))
  k_steps
  refine Stop.mk ?_
  (rename News _ _ _ _ => N9); (rename Fr _ _ _ _ => F9)
  obtain ⟨M0, hM0⟩ := nm_fr F9
  obtain ⟨tw0, w0⟩ : ∃ t, M0 (Str.ofString "ways") = some (.int 1 t) := ⟨_, by rw [hM0]; exact rfl⟩
  obtain ⟨td0, d0⟩ : ∃ t, M0 (Str.ofString "dealt") = some (.int 0 t) := ⟨_, by rw [hM0]; exact rfl⟩
  rw [← hM0] at F9
  clear hM0
  refine' list_loop rfl F9 N9 (by k_mem) rfl rfl (JO [(dl, listOf vs.toArray nl)] (dealOut hs (1, 0))) ?start ?turn ?fin
  case start =>
    exact ⟨1, _, 0, _, _, _, hs, md_self w0 d0, rfl, by assumption, hbd, rfl, Int.le_refl _, by omega⟩
  case turn =>
    rintro I hI v r m news ⟨wy, tw, d, td, kv, hv, hs1, rfl, rfl, hr, hb1, hres, hd0, hd1⟩ hoff it h3 tk3 hit F3 N3
    cases hr with
    | cons hh th hr' =>
    rename_i hs2
    rw [md_heap] at F3
    have q := hb1 _ (.head _)
    rw [List.length_cons] at hd1
    clear F9 N9
    have I1 := neN (hoff _ (.head _))
    dsimp only at I1
    unfold Md at F3
    k_steps
    refine Stop.mk ?_
    (rename News _ _ _ _ => N9); (rename Fr _ _ _ _ => F9)
    refine' range_loop rfl (by assumption) hh.toNat ?sm ?sz F9 N9 (JI [(I, it), (dl, listOf vs.toArray nl)] M0 (some (.int hh th)) (dealIn hh.toNat 0 (wy, d)) hh.toNat d) ?start2 ?turn2 ?fin2
    case sm => exact small_ten q.1 q.2
    case sz => exact size_ten q.1 q.2
    case start2 => exact ⟨wy, _, d, _, _, rfl, rfl, rfl, Nat.zero_add _, (Int.add_zero _).symm⟩
    case turn2 =>
      rintro I' hI' k i m news ⟨w1, tw1, d1, td1, kv1, rfl, rfl, hin, hik, hdi⟩ hoff' t' h4 tk4 F4 N4
      unfold Md at F4
      clear F9 N9
      have J1 := neN (hoff' _ (.head _))
      have J2 := neN (hoff' _ (.tail _ (.head _)))
      dsimp only at J1 J2
      have hi9 : i ≤ 9 := by omega
      have hdd0 : 0 ≤ d1 + 1 := by omega
      have hdd1 : d1 + 1 ≤ 2000 := by omega
      have hmul : IntMulOk w1 (d1 + 1) := IntMulOk.of_right (intBits_le_64 (by omega) (by omega))
      k_steps
      (rename News _ _ _ _ => N9); (rename Fr _ _ _ _ => F9)
      have F10 := fr_md F9
      refine ⟨_, _, _, _, rfl, F10, N9, ?_, _, _, _, _, _, rfl, rfl, hin, by omega, by omega⟩
      · (repeat' (first | exact List.forall_mem_nil _ | refine List.forall_mem_cons.mpr ⟨neN (by (try dsimp only); omega), ?_⟩))
    case fin2 =>
      rintro i m news ⟨w1, tw1, d1, td1, kv1, rfl, rfl, hin, hik, hdi⟩ h4 tk4 F4 N4
      clear F9 N9
      k_steps
      refine ⟨_, _, _, _, rfl, F4, N4, ?_, ?_, _, _, _, _, _, _, hs2, rfl, rfl, hr', fun x hx => hb1 x (.tail _ hx), ?_, by omega, by omega⟩
      · (repeat' (first | exact List.forall_mem_nil _ | refine List.forall_mem_cons.mpr ⟨neN (by (try dsimp only); omega), ?_⟩))
      · k_mem
      · rw [hres]
        show dealOut hs2 (dealIn hh.toNat 0 (wy, d)) = _
        rw [hin]; rfl
  case fin =>
    rintro m news ⟨wy, tw, d, td, kv, hv, hs1, rfl, rfl, hr, hb1, hres, hd0, hd1⟩ h3 tk3 F3 N3
    cases hr
    unfold Md at F3
    clear F9 N9
    k_steps
    (rename News _ _ _ _ => N9); (rename Fr _ _ _ _ => F9)
    (try dsimp only)
    have hres' : dealOut hs (1, 0) = (wy, d) := hres
    rw [hres'] at ret
    exact ret _ _ _ (kpx_nil hN hgb F9 N9 (by (repeat' (first | exact List.forall_mem_nil _ | refine List.forall_mem_cons.mpr ⟨?_, ?_⟩ | exact Or.inl (by k_mem) | exact Or.inr (by k_mem)))))
end Mine
end
section
open PySem PySem.W PySem.Calls PyProof.Rows
namespace Mine
def lBody : List Stmt := (defAt PySem.Challenge.pw_pe0136_01.main.body 19).2.1
def lSc : Scope := (defAt PySem.Challenge.pw_pe0136_01.main.body 19).2.2
def lTail : List Stmt := lBody.drop 3
def lTail2 : List Stmt := lBody.drop 4

theorem tn_ne1 {gb h : Heap} {L a : Addr} {o : Obj} {t t' : TP} {news : List (Addr × Obj)} (N : News gb L h news) (hm : (a, o) ∈ news) (z : TN h t t') (q : @Ne Nat t.c1 a) : @Ne Nat t'.c1 a := by
  rcases z.n1 with ⟨z, _⟩ | ⟨z, _⟩
  · rw [z]; exact q
  · exact Ne.symm (ne_new N hm z)
theorem tn_ne2 {gb h : Heap} {L a : Addr} {o : Obj} {t t' : TP} {news : List (Addr × Obj)} (N : News gb L h news) (hm : (a, o) ∈ news) (z : TN h t t') (q : @Ne Nat t.c2 a) : @Ne Nat t'.c2 a := by
  rcases z.n2 with ⟨z, _⟩ | ⟨z, _⟩
  · rw [z]; exact q
  · exact Ne.symm (ne_new N hm z)
theorem news_sub {gb h : Heap} {L : Addr} {news l : List (Addr × Obj)} (N : News gb L h news) (hs : ∀ q ∈ l, q ∈ news) : News gb L h l := fun q hq => N q (hs q hq)
abbrev t00 : TP := ⟨tabObj #[], 30, tabObj #[], tabObj #[], 37, tabObj #[]⟩
theorem ts_start {g h : Heap} {L : Addr} {news : List (Addr × Obj)} (N : News g L h news) (h1 : (30, tabObj #[]) ∈ news) (h2 : (37, tabObj #[]) ∈ news) : TS g h t00 :=
  ⟨(N _ h1).1, (N _ h1).1, .inl rfl, (N _ h2).1, (N _ h2).1, .inl rfl, fun _ => rfl, fun _ => rfl, by decide, by decide, (N _ h1).2.2, (N _ h2).2.2, (N _ h1).2.2, (N _ h2).2.2⟩
theorem ts_out {gb h h1 : Heap} {L : Addr} {m : Str → Option Value} {news : List (Addr × Obj)} {x y : Obj} (F : Fr gb L h m) (N : News gb L h news) (h3 : (30, x) ∈ news) (h7 : (37, y) ∈ news) (k : KpX [30, 37] h h1) : Fr gb L h1 m := by
  refine fr_after F k (fun ha => ?_) (fun a ha => ?_)
  · rcases List.mem_cons.mp ha with z | z
    · exact (N _ h3).2.1 z.symm
    · exact (N _ h7).2.1 (List.mem_singleton.mp z).symm
  · rcases List.mem_cons.mp ha with z | z
    · rw [z]; exact (N _ h3).2.2
    · rw [List.mem_singleton.mp z]; exact (N _ h7).2.2


def wholeOf (c1 c2 c3 : List Int) : List Int := addL c1 (addL c2 c3)
def rcOf (p : Int) (c1 c2 c3 : List Int) : Str × Int := carry (fullOf p) 12 (rowOf (wholeOf c1 c2 c3)) 0
def duePart (p t : Int) (k : Nat) : Str := Txt.mul (Str.ofString "1") ((t.fdiv (p ^ k)).fmod p) ++ Str.ofString "."
def dueParts (p t : Int) : List Str := [duePart p t 0, duePart p t 1, duePart p t 2, duePart p t 3, duePart p t 4]
def waysOf (a b : Int) : Int := (dealOut [a, b, 6] (1, 0)).1
structure LOk (p a b : Int) (c1 c2 c3 : List Int) : Prop where
  l1 : c1.length ≤ 5
  l2 : c2.length ≤ 5
  l3 : c3.length ≤ 5
  l23 : (addL c2 c3).length ≤ 5
  row : RowOk (wholeOf c1 c2 c3)
  car : CarryOk (fullOf p) 12 (rowOf (wholeOf c1 c2 c3))
  full : ((fullOf p).length == 0) = false
  dueok : JoinOk (Str.ofString "") (dueParts p (a + (b + (6 + 0)))) = true
  due : (rcOf p c1 c2 c3).1 = Txt.join (Str.ofString "") (dueParts p (a + (b + (6 + 0))))
  rlen : (rcOf p c1 c2 c3).1.length + 2 ≤ sizeLine
  sok : PyData.strOk (rcOf p c1 c2 c3).1 = true
  hok : HsOk p [] [c1, c2, c3]
  hby : hfold p [] [c1, c2, c3] (Str.ofString "", 0) = rcOf p c1 c2 c3
  cnt : (wholeOf c1 c2 c3).sum = Txt.count (rcOf p c1 c2 c3).1 (Str.ofString "1") + (rcOf p c1 c2 c3).2 * (p - 1)
  c0 : 0 ≤ (rcOf p c1 c2 c3).2
  c9 : (rcOf p c1 c2 c3).2 ≤ 20
  w0 : 0 ≤ waysOf a b
  w9 : waysOf a b < 2 ^ 64
  q9 : p ^ ((rcOf p c1 c2 c3).2 + 1).toNat < 2 ^ 30
  q2 : 2 ≤ p ^ ((rcOf p c1 c2 c3).2 + 1).toNat
  r0 : 0 < waysOf a b % p ^ ((rcOf p c1 c2 c3).2 + 1).toNat
  r1 : waysOf a b % p ^ ((rcOf p c1 c2 c3).2 + 1).toNat % p ^ ((rcOf p c1 c2 c3).2).toNat = 0
end Mine
end
section
open PySem PySem.W PySem.Calls PyProof.Rows Mine
local macro_rules | `(tactic| walk_at "call ref") => `(tactic| refine stopCall ?_)
section
open PySem PySem.W PySem.Calls PyProof.Rows
namespace Mine
theorem pow_nzF {p : Int} {e : Nat} (h : 2 ≤ p) : p ^ e ≠ 0 := Int.ne_of_gt (Int.pow_pos (by omega))
theorem md_pow {prog : Program} {w : World} {A : Around} {E : Value → Shared → Prop} {s : Shared} {x p : Int} {e : Nat} {t u : Tok} {Q : Value → Shared → Prop} (h : 2 ≤ p)
    (hq : Q (.int (x.fmod (p ^ e)) s.toks) { s with toks := s.toks + 1 }) : wpAny (model prog w) A (binaryOp .Mod (.int x t) (.int (p ^ e) u)) Q E s := mod_int' (pow_nzF h) hq
local macro_rules | `(tactic| walk_at "binaryOp Mod int int") => `(tactic| refine md_pow (by assumption) ?_)
def lTail6 : List Stmt := lBody.drop 9
set_option maxHeartbeats 1000000 in
theorem c_tF : ∀ (w : World) (g : Heap) (_ : Gnd w g) (dp un : Nat) (fr : Option (List Env)) (gd : Option (List Code)) (s : Shared) (Q : Flow → Shared → Prop) (E : Value → Shared → Prop) (L f : Addr) (cdv : Value) (m₀ : Str → Option Value) (D : Addr) (oP oH : Obj) (a b p : Int) (ta tb tc tp : Tok) (n : Nat) (t : TP) (c1 c2 c3 : List Int) (cw1 : Int) (t2D : Tok) (vd vr vw vt : Option Value),
    (hd.heap_39 w.params).In g → (∃ o, g.get? sysModules = some o) → 37 < L → Fr g L s.heap (fun y => if y = Str.ofString "due" then vd else if y = Str.ofString "carries" then some (Value.int cw1 t2D) else if y = Str.ofString "row" then vr else if y = Str.ofString "whole" then vw else if y = Str.ofString "tables" then vt else m₀ y) →
    News g L s.heap [(D, listOf #[.int a ta, .int b tb, .int 6 tc] n), (L + 1 + 1, oP), (L + 1, oH), (30, t.o1), (t.c1, t.k1), (37, t.o2), (t.c2, t.k2)] → TS g s.heap t →
    oH.data = .cell (some (.ref D)) → oP.data = .cell (some (.int p tp)) → 0 ≤ a → a ≤ 9 → 0 ≤ b → b ≤ 9 → 2 ≤ p → p ≤ 7 → LOk p a b c1 c2 c3 → cw1 = (rcOf p c1 c2 c3).2 → dp + 200 < recursionLimit → un + 2000 < cLine →
    (∀ h' tk t', Kp g h' → TS g h' t' → Q (.ret (.bool true)) { s with heap := h', toks := tk }) →
    wpAny (model PySem.Challenge.rw_pe0136_01.row.prog w) ((arnd dp fr gd un).deeper (envOfC (Str.ofString "law") lSc L f cdv)) (execs lTail6 (envOfC (Str.ofString "law") lSc L f cdv)) Q E s := by
  w_top off
  k_fill
  dsimp only [lTail6, lBody, lSc, defAt, PySem.Challenge.pw_pe0136_01, List.getElem?_cons_succ, List.getElem?_cons_zero, List.drop]
  intro w g G dp un fr gd s Q E L f cdv m₀ D oP oH a b p ta tb tc tp n t c1 c2 c3 cw1 t2D vd vr vw vt _ hsys l37 F9 N9 hT hcH hcP ha0 ha1 hb0 hb1 hp0 hp1 ok hcw1 hdp hun ret
  have G0 := G
  obtain ⟨X0, pr, loose, mean, mg, mb, T0⟩ := G
  obtain ⟨h0, gs0, dr0, tk0, os0⟩ := s
  dsimp only at F9 N9 ret
  have hc0 : 0 ≤ cw1 := by rw [hcw1]; exact ok.c0
  have hc9 : cw1 ≤ 20 := by rw [hcw1]; exact ok.c9
  k_steps
  refine Stop.mk ?_
  (rename News _ _ _ _ => N1); (rename Fr _ _ _ _ => F1)
  refine c_deal w g G0 _ _ _ _ _ _ _ D [.int a ta, .int b tb, .int 6 tc] [a, b, 6] n X0 F1.keep (N1 (D, _) (by k_mem)).2.2 (N1.get (by k_mem)) (.cons _ _ (.cons _ _ (.cons _ _ .nil))) ?hbd (Nat.le_refl 3) ?_ ?_ ?_
  case hbd => exact List.forall_mem_cons.mpr ⟨⟨ha0, ha1⟩, List.forall_mem_cons.mpr ⟨⟨hb0, hb1⟩, List.forall_mem_cons.mpr ⟨⟨by decide, by decide⟩, List.forall_mem_nil _⟩⟩⟩
  · show dp + 1 + 10 < recursionLimit
    exact rlim hdp (by decide)
  · show un + 3 + 100 < cLine
    exact clim hun (by decide)
  intro hE tkE tE kpE
  have F2 := fr_kp F1 kpE
  have N2 := nw_kp N1 kpE
  clear F1 N1
  obtain ⟨wy, hwy⟩ : ∃ x, x = waysOf a b := ⟨_, rfl⟩
  rw [show (dealOut [a, b, 6] (1, 0)).1 = wy from hwy.symm]
  k_steps
  refine Stop.mk ?_
  (rename News _ _ _ _ => N1); (rename Fr _ _ _ _ => F1)
  replace l37 := ltN l37
  have two : ∀ {a : Nat}, a ≠ 30 → a ≠ 37 → a ∉ [30, 37] := fun h1 h2 hm => (List.mem_cons.mp hm).elim h1 fun z => h2 (List.mem_singleton.mp z)
  have n9P : (L + 1 + 1 : Nat) ∉ [30, 37] := two (by omega) (by omega)
  have hw0 : 0 ≤ wy := by rw [hwy]; exact ok.w0
  have hw9 : wy < 2 ^ 64 := by rw [hwy]; exact ok.w9
  have hq2 : 2 ≤ p ^ (cw1 + 1).toNat := by rw [hcw1]; exact ok.q2
  have hq9 : p ^ (cw1 + 1).toNat < 2 ^ 30 := by rw [hcw1]; exact ok.q9
  refine c_int_divmod w g G0 _ _ _ _ _ _ _ wy (p ^ (cw1 + 1).toNat) _ _ t X0 F1.keep (hT.at N1 (by (repeat' (first | exact List.forall_mem_nil _ | refine List.forall_mem_cons.mpr ⟨by k_mem, ?_⟩)))) hw0 hw9 hq2 hq9 ?_ ?_ ?_
  · show dp + 1 + 100 < recursionLimit
    exact rlim hdp (by decide)
  · show un + 3 + 900 < cLine
    exact clim hun (by decide)
  intro d1 h1 tk1 cc t1 t2 t' kp1 TS1 TN1 hn1 hg1
  have F3 := ts_out F1 N1 (by k_mem) (by k_mem) kp1
  have N3 := nw_new F1 hn1 hg1 (nw_keep N1 kp1 (a := L + 1 + 1) (o := oP) (by k_mem) n9P (ts_news F1 N1 (by (repeat' (first | exact List.forall_mem_nil _ | refine List.forall_mem_cons.mpr ⟨by k_mem, ?_⟩))) TS1 TN1 nw_nil))
  clear F1 N1
  dsimp only [TP.led, List.cons_append, List.nil_append] at N3
  obtain ⟨ov, hov⟩ : ∃ x, x = wy / p ^ (cw1 + 1).toNat := ⟨_, rfl⟩
  obtain ⟨rs, hrs⟩ : ∃ x, x = wy % p ^ (cw1 + 1).toNat := ⟨_, rfl⟩
  rw [← hov, ← hrs] at N3
  have hsum : ov * p ^ (cw1 + 1).toNat + rs = wy := by
    rw [hov, hrs, Int.mul_comm]
    exact Int.mul_ediv_add_emod _ _
  have hr0 : 0 < rs := by rw [hrs, hwy, hcw1]; exact ok.r0
  have hr9 : rs < p ^ (cw1 + 1).toNat := by rw [hrs]; exact Int.emod_lt_of_pos _ (by omega)
  have hmo : rs.fmod (p ^ cw1.toNat) = 0 := by
    rw [Int.fmod_eq_emod_of_nonneg _ (Int.pow_nonneg (by omega)), hrs, hwy, hcw1]
    exact ok.r1
  have hmul : IntMulOk ov (p ^ (cw1 + 1).toNat) := IntMulOk.of_right (intBits_le_64 (by omega) (by omega))
  clear hov hrs hwy
  k_steps
  · (rename _ ≠ wy => hne)
    exact absurd hsum hne
  (rename News _ _ _ _ => N4); (rename Fr _ _ _ _ => F4)
  rw [hmo]
  exact ret _ _ t' F4.keep (TS1.at N4 (by (repeat' (first | exact List.forall_mem_nil _ | refine List.forall_mem_cons.mpr ⟨by k_mem, ?_⟩))))
end Mine
end
section
open PySem PySem.W PySem.Calls PyProof.Rows
namespace Mine
local macro_rules | `(tactic| walk_at "mine nothing") => `(tactic| fail)
local macro_rules | `(tactic| walk_at "execs cons") => `(tactic| refine stopA ?_)
def lTail5 : List Stmt := lBody.drop 8
set_option maxHeartbeats 1000000 in
theorem c_tE : ∀ (w : World) (g : Heap) (_ : Gnd w g) (dp un : Nat) (fr : Option (List Env)) (gd : Option (List Code)) (s : Shared) (Q : Flow → Shared → Prop) (E : Value → Shared → Prop) (L f : Addr) (cdv : Value) (m₀ : Str → Option Value) (D dB : Addr) (oP oH oB : Obj) (a b p : Int) (ta tb tc tp : Tok) (n : Nat) (t : TP) (c1 c2 c3 : List Int) (rw1 : Str) (cw1 : Int) (t1D t2D : Tok) (vd vt : Option Value),
    (hd.heap_39 w.params).In g → (∃ o, g.get? sysModules = some o) → 37 < L → Fr g L s.heap (fun y => if y = Str.ofString "due" then vd else if y = Str.ofString "carries" then some (Value.int cw1 t2D) else if y = Str.ofString "row" then some (Value.str rw1 t1D) else if y = Str.ofString "whole" then some (Value.ref dB) else if y = Str.ofString "tables" then vt else m₀ y) →
    News g L s.heap [(dB, oB), (D, listOf #[.int a ta, .int b tb, .int 6 tc] n), (L + 1 + 1, oP), (L + 1, oH), (30, t.o1), (t.c1, t.k1), (37, t.o2), (t.c2, t.k2)] → TS g s.heap t →
    DI w oB (wholeOf c1 c2 c3) → (dB == sysModules) = false →
    oH.data = .cell (some (.ref D)) → oP.data = .cell (some (.int p tp)) → 0 ≤ a → a ≤ 9 → 0 ≤ b → b ≤ 9 → 2 ≤ p → p ≤ 7 → LOk p a b c1 c2 c3 → rw1 = (rcOf p c1 c2 c3).1 → cw1 = (rcOf p c1 c2 c3).2 → dp + 200 < recursionLimit → un + 2000 < cLine →
    (∀ h' tk t', Kp g h' → TS g h' t' → Q (.ret (.bool true)) { s with heap := h', toks := tk }) →
    wpAny (model PySem.Challenge.rw_pe0136_01.row.prog w) ((arnd dp fr gd un).deeper (envOfC (Str.ofString "law") lSc L f cdv)) (execs lTail5 (envOfC (Str.ofString "law") lSc L f cdv)) Q E s := by
  w_top off
  k_fill
  dsimp only [lTail5, lBody, lSc, defAt, PySem.Challenge.pw_pe0136_01, List.getElem?_cons_succ, List.getElem?_cons_zero, List.drop]
  intro w g G dp un fr gd s Q E L f cdv m₀ D dB oP oH oB a b p ta tb tc tp n t c1 c2 c3 rw1 cw1 t1D t2D vd vt _ hsys l37 F9 N9 hT DIB loB hcH hcP ha0 ha1 hb0 hb1 hp0 hp1 ok hrw1 hcw1 hdp hun ret
  have G0 := G
  obtain ⟨X0, pr, loose, mean, mg, mb, T0⟩ := G
  obtain ⟨h0, gs0, dr0, tk0, os0⟩ := s
  dsimp only at F9 N9 ret
  k_steps
  refine Stop.mk ?_
  (rename News _ _ _ _ => N1); (rename Fr _ _ _ _ => F1)
  refine c_count_calls w g G0 _ _ _ _ _ _ _ dB oB (wholeOf c1 c2 c3) X0 F1.keep (N1 (dB, oB) (by k_mem)).2.2 (N1.get (by k_mem)) DIB loB ?_ ?_ ?_
  · show dp + 1 + 10 < recursionLimit
    exact rlim hdp (by decide)
  · show un + 3 + 100 < cLine
    exact clim hun (by decide)
  intro hE tkE tE kpE
  have F2 := fr_kp F1 kpE
  have N2 := nw_kp N1 kpE
  clear F1 N1
  have hc0 : 0 ≤ cw1 := by rw [hcw1]; exact ok.c0
  have hc9 : cw1 ≤ 20 := by rw [hcw1]; exact ok.c9
  have hlen : rw1.length + 2 ≤ sizeLine := by rw [hrw1]; exact ok.rlen
  have hcnt := ok.cnt
  rw [← hrw1, ← hcw1] at hcnt
  k_steps
  · (rename _ ≠ _ => hne)
    exact absurd hcnt hne
  refine Stop.mk ?_
  (rename News _ _ _ _ => N1); (rename Fr _ _ _ _ => F1)
  have N4 := news_sub N1 (l := [(D, listOf #[.int a ta, .int b tb, .int 6 tc] n), (L + 1 + 1, oP), (L + 1, oH), (30, t.o1), (t.c1, t.k1), (37, t.o2), (t.c2, t.k2)]) (by (repeat' (first | exact List.forall_mem_nil _ | refine List.forall_mem_cons.mpr ⟨by k_mem, ?_⟩)))
  exact c_tF w g G0 dp un fr gd _ Q E L f cdv m₀ D oP oH a b p ta tb tc tp n t c1 c2 c3 cw1 _ _ _ _ _ X0 hsys l37 F1 N4 (hT.at N1 (by (repeat' (first | exact List.forall_mem_nil _ | refine List.forall_mem_cons.mpr ⟨by k_mem, ?_⟩)))) hcH hcP ha0 ha1 hb0 hb1 hp0 hp1 ok hcw1 hdp hun ret
end Mine
end
section
open PySem PySem.W PySem.Calls PyProof.Rows
namespace Mine
local macro_rules | `(tactic| walk_at "execs cons") => `(tactic| refine stopIfC ?_)
def lTail4 : List Stmt := lBody.drop 7
theorem shp2 {r : Str} {c : Int} (h : PyData.strOk r = true) : SeqAt.shaped (.tuple [.str r, .int c]) = true := by
  simp [SeqAt.shaped, PyData.canLay0, PyData.canLayAll0, PyData.depth, PyData.depthAll, h]
set_option maxHeartbeats 1000000 in
theorem c_tD : ∀ (w : World) (g : Heap) (_ : Gnd w g) (dp un : Nat) (fr : Option (List Env)) (gd : Option (List Code)) (s : Shared) (Q : Flow → Shared → Prop) (E : Value → Shared → Prop) (L f : Addr) (cdv : Value) (m₀ : Str → Option Value) (D dt d1 d2 d3 dB : Addr) (oP oH o1 o2 o3 oB : Obj) (a b p : Int) (ta tb tc tp : Tok) (n nl : Nat) (t : TP) (c1 c2 c3 : List Int) (rw1 : Str) (cw1 : Int) (t1D t2D t3D : Tok),
    (hd.heap_39 w.params).In g → (∃ o, g.get? sysModules = some o) → 37 < L → Fr g L s.heap (fun y => if y = Str.ofString "due" then some (Value.str rw1 t3D) else if y = Str.ofString "carries" then some (Value.int cw1 t2D) else if y = Str.ofString "row" then some (Value.str rw1 t1D) else if y = Str.ofString "whole" then some (Value.ref dB) else if y = Str.ofString "tables" then some (Value.ref dt) else m₀ y) →
    News g L s.heap [(dB, oB), (dt, listOf #[.ref d1, .ref d2, .ref d3] nl), (d3, o3), (d2, o2), (d1, o1), (D, listOf #[.int a ta, .int b tb, .int 6 tc] n), (L + 1 + 1, oP), (L + 1, oH), (30, t.o1), (t.c1, t.k1), (37, t.o2), (t.c2, t.k2)] → TS g s.heap t →
    DI w o1 c1 → DI w o2 c2 → DI w o3 c3 → DI w oB (wholeOf c1 c2 c3) → (d1 == sysModules) = false → (d2 == sysModules) = false → (d3 == sysModules) = false → (dB == sysModules) = false →
    oH.data = .cell (some (.ref D)) → oP.data = .cell (some (.int p tp)) → 0 ≤ a → a ≤ 9 → 0 ≤ b → b ≤ 9 → 2 ≤ p → p ≤ 7 → LOk p a b c1 c2 c3 → rw1 = (rcOf p c1 c2 c3).1 → cw1 = (rcOf p c1 c2 c3).2 → dp + 200 < recursionLimit → un + 2000 < cLine →
    (∀ h' tk t', Kp g h' → TS g h' t' → Q (.ret (.bool true)) { s with heap := h', toks := tk }) →
    wpAny (model PySem.Challenge.rw_pe0136_01.row.prog w) ((arnd dp fr gd un).deeper (envOfC (Str.ofString "law") lSc L f cdv)) (execs lTail4 (envOfC (Str.ofString "law") lSc L f cdv)) Q E s := by
  w_top off
  k_fill
  dsimp only [lTail4, lBody, lSc, defAt, PySem.Challenge.pw_pe0136_01, List.getElem?_cons_succ, List.getElem?_cons_zero, List.drop]
  intro w g G dp un fr gd s Q E L f cdv m₀ D dt d1 d2 d3 dB oP oH o1 o2 o3 oB a b p ta tb tc tp n nl t c1 c2 c3 rw1 cw1 t1D t2D t3D _ hsys l37 F9 N9 hT DI1 DI2 DI3 DIB lo1 lo2 lo3 loB hcH hcP ha0 ha1 hb0 hb1 hp0 hp1 ok hrw1 hcw1 hdp hun ret
  have G0 := G
  obtain ⟨X0, pr, loose, mean, mg, mb, T0⟩ := G
  obtain ⟨h0, gs0, dr0, tk0, os0⟩ := s
  dsimp only at F9 N9 ret
  k_steps
  · (rename (_ != _) = true => hne)
    rw [bne_self_eq_false] at hne
    cases hne
  refine Stop.mk ?_
  (rename News _ _ _ _ => N1); (rename Fr _ _ _ _ => F1)
  refine c_heap w g G0 _ _ _ _ _ _ _ dt d1 d2 d3 o1 o2 o3 nl c1 c2 c3 p _ X0 hsys F1.keep (N1 (dt, _) (by k_mem)).2.2 (N1 (d1, o1) (by k_mem)).2.2 (N1 (d2, o2) (by k_mem)).2.2 (N1 (d3, o3) (by k_mem)).2.2 (N1.get (by k_mem)) (N1.get (by k_mem)) (N1.get (by k_mem)) (N1.get (by k_mem)) DI1 DI2 DI3 lo1 lo2 lo3 ok.l1 ok.l2 ok.l3 hp0 (by omega) ok.full ok.hok ?_ ?_ ?_
  · show dp + 1 + 50 < recursionLimit
    exact rlim hdp (by decide)
  · show un + 3 + 500 < cLine
    exact clim hun (by decide)
  intro dE hE tkE cE t1E t2E kpE nE gE
  have F2 := fr_kp F1 kpE
  have N2 := nw_new F1 nE gE (nw_kp N1 kpE)
  clear F1 N1
  rw [ok.hby, ← hrw1, ← hcw1] at N2
  k_steps
  have hsok : PyData.strOk rw1 = true := by rw [hrw1]; exact ok.sok
  refine ne_dataH (by ke_read) (by ke_read) (shp2 hsok) (shp2 hsok) ?room ?_
  case room =>
    show un + 3 + 64 < cLine
    exact clim hun (by decide)
  ked_norm
  k_steps
  refine Stop.mk ?_
  (rename News _ _ _ _ => N3); (rename Fr _ _ _ _ => F3)
  have N4 := news_sub N3 (l := [(dB, oB), (D, listOf #[.int a ta, .int b tb, .int 6 tc] n), (L + 1 + 1, oP), (L + 1, oH), (30, t.o1), (t.c1, t.k1), (37, t.o2), (t.c2, t.k2)]) (by (repeat' (first | exact List.forall_mem_nil _ | refine List.forall_mem_cons.mpr ⟨by k_mem, ?_⟩)))
  exact c_tE w g G0 dp un fr gd _ Q E L f cdv m₀ D dB oP oH oB a b p ta tb tc tp n t c1 c2 c3 rw1 cw1 _ _ _ _ X0 hsys l37 F3 N4 (hT.at N3 (by (repeat' (first | exact List.forall_mem_nil _ | refine List.forall_mem_cons.mpr ⟨by k_mem, ?_⟩)))) DIB loB hcH hcP ha0 ha1 hb0 hb1 hp0 hp1 ok hrw1 hcw1 hdp hun ret
end Mine
end
section
open PySem PySem.W PySem.Calls PyProof.Rows
namespace Mine
theorem pow_nz {p : Int} {e : Nat} (h : 2 ≤ p) : p ^ e ≠ 0 := Int.ne_of_gt (Int.pow_pos (by omega))
theorem pow_le_of {p q : Int} (h0 : 0 ≤ p) (hq : p ≤ q) : ∀ e : Nat, p ^ e ≤ q ^ e
  | 0 => by rw [Int.pow_zero, Int.pow_zero]; exact Int.le_refl _
  | e + 1 => by
    rw [Int.pow_succ, Int.pow_succ]
    exact Int.mul_le_mul (pow_le_of h0 hq e) hq h0 (Int.pow_nonneg (Int.le_trans h0 hq))
theorem log_small {x : Int} (h0 : 0 ≤ x) (h1 : x < 2 ^ 64) : x.natAbs.log2 < 9000 := by
  by_cases hz : x.natAbs = 0
  · rw [hz]; decide
  · refine (Nat.log2_lt hz).mpr (Nat.lt_of_lt_of_le (m := 2 ^ 64) (by omega) (Nat.pow_le_pow_right (by decide) (by decide)))
theorem pow_py {p : Int} {e : Nat} (h : 2 ≤ p) (h7 : p ≤ 7) (he : e ≤ 4) : (p ^ e).natAbs.log2 < 9000 := by
  refine log_small (Int.pow_nonneg (by omega)) (Int.lt_of_le_of_lt (pow_le_of (by omega) h7 e) ?_)
  rcases (by omega : e = 0 ∨ e = 1 ∨ e = 2 ∨ e = 3 ∨ e = 4) with q | q | q | q | q <;> (subst q; decide)
theorem fd_pow {prog : Program} {w : World} {A : Around} {E : Value → Shared → Prop} {s : Shared} {x p : Int} {e : Nat} {t u : Tok} {Q : Value → Shared → Prop} (h : 2 ≤ p) (h7 : p ≤ 7) (he : e ≤ 4)
    (hq : Q (.int (x.fdiv (p ^ e)) s.toks) { s with toks := s.toks + 1 }) : wpAny (model prog w) A (binaryOp .FloorDiv (.int x t) (.int (p ^ e) u)) Q E s :=
  floordiv_int (pow_nz h) hq (Or.inl (PyProof.noPylong_of_log2 (pow_py h h7 he)))
theorem fmod_lo_p {x p : Int} (h : 2 ≤ p) : -(2 ^ 63 : Int) ≤ x.fmod p := Int.le_trans (by decide) (Int.fmod_nonneg_of_pos _ (by omega))
theorem fmod_hi_p {x p : Int} (h : 2 ≤ p) (h7 : p ≤ 7) : x.fmod p ≤ ((7 : Nat) : Int) := by
  have := Int.fmod_lt_of_pos x (show 0 < p by omega)
  omega
theorem mul_fm {prog : Program} {w : World} {A : Around} {E : Value → Shared → Prop} {s : Shared} {x : PySem.Str} {t u : Tok} {i p : Int} {Q : Value → Shared → Prop} (hk : x.length = 1) (h2 : 2 ≤ p) (h7 : p ≤ 7)
    (h : ∀ t' k, (Txt.mul x (i.fmod p)).length ≤ 7 → Q (.str (Txt.mul x (i.fmod p)) t') { s with toks := k }) :
    wpAny (model prog w) A (binaryOp .Mult (.str x t) (.int (i.fmod p) u)) Q E s := by
  have a := @fmod_hi_p i p h2 h7
  refine KXi.mul hk (by decide) (fmod_lo_p h2) (Int.le_trans a (by decide)) fun t' k _ hN => h t' k ?_
  have := hN (Int.fmod_nonneg_of_pos _ (by omega))
  omega
local macro_rules | `(tactic| walk_at "binaryOp FloorDiv int int") => `(tactic| refine fd_pow (by assumption) (by assumption) (by decide) ?_)
local macro_rules | `(tactic| walk_at "binaryOp Mult str int") => `(tactic| refine mul_fm (by decide) (by assumption) (by assumption) (fun _ _ _ => ?_))
local macro_rules | `(tactic| walk_at "execs cons") => `(tactic| refine stopIf ?_)
def lTail3 : List Stmt := lBody.drop 6

set_option maxHeartbeats 1000000 in
theorem c_tC : ∀ (w : World) (g : Heap) (_ : Gnd w g) (dp un : Nat) (fr : Option (List Env)) (gd : Option (List Code)) (s : Shared) (Q : Flow → Shared → Prop) (E : Value → Shared → Prop) (L f : Addr) (cdv : Value) (m₀ : Str → Option Value) (D dt d1 d2 d3 dB : Addr) (oP oH o1 o2 o3 oB : Obj) (a b p : Int) (ta tb tc tp : Tok) (n nl : Nat) (t : TP) (c1 c2 c3 : List Int) (rw1 : Str) (cw1 : Int) (t1D t2D : Tok),
    (hd.heap_39 w.params).In g → (∃ o, g.get? sysModules = some o) → 37 < L → Fr g L s.heap (fun y => if y = Str.ofString "carries" then some (Value.int cw1 t2D) else if y = Str.ofString "row" then some (Value.str rw1 t1D) else if y = Str.ofString "whole" then some (Value.ref dB) else if y = Str.ofString "tables" then some (Value.ref dt) else m₀ y) →
    News g L s.heap [(dB, oB), (dt, listOf #[.ref d1, .ref d2, .ref d3] nl), (d3, o3), (d2, o2), (d1, o1), (D, listOf #[.int a ta, .int b tb, .int 6 tc] n), (L + 1 + 1, oP), (L + 1, oH), (30, t.o1), (t.c1, t.k1), (37, t.o2), (t.c2, t.k2)] → TS g s.heap t →
    DI w o1 c1 → DI w o2 c2 → DI w o3 c3 → DI w oB (wholeOf c1 c2 c3) → (d1 == sysModules) = false → (d2 == sysModules) = false → (d3 == sysModules) = false → (dB == sysModules) = false →
    oH.data = .cell (some (.ref D)) → oP.data = .cell (some (.int p tp)) → 0 ≤ a → a ≤ 9 → 0 ≤ b → b ≤ 9 → 2 ≤ p → p ≤ 7 → LOk p a b c1 c2 c3 → rw1 = (rcOf p c1 c2 c3).1 → cw1 = (rcOf p c1 c2 c3).2 → dp + 200 < recursionLimit → un + 2000 < cLine →
    (∀ h' tk t', Kp g h' → TS g h' t' → Q (.ret (.bool true)) { s with heap := h', toks := tk }) →
    wpAny (model PySem.Challenge.rw_pe0136_01.row.prog w) ((arnd dp fr gd un).deeper (envOfC (Str.ofString "law") lSc L f cdv)) (execs lTail3 (envOfC (Str.ofString "law") lSc L f cdv)) Q E s := by
  w_top off
  k_fill
  dsimp only [lTail3, lBody, lSc, defAt, PySem.Challenge.pw_pe0136_01, List.getElem?_cons_succ, List.getElem?_cons_zero, List.drop]
  intro w g G dp un fr gd s Q E L f cdv m₀ D dt d1 d2 d3 dB oP oH o1 o2 o3 oB a b p ta tb tc tp n nl t c1 c2 c3 rw1 cw1 t1D t2D _ hsys l37 F9 N9 hT DI1 DI2 DI3 DIB lo1 lo2 lo3 loB hcH hcP ha0 ha1 hb0 hb1 hp0 hp1 ok hrw1 hcw1 hdp hun ret
  have G0 := G
  obtain ⟨X0, pr, loose, mean, mg, mb, T0⟩ := G
  obtain ⟨h0, gs0, dr0, tk0, os0⟩ := s
  dsimp only at F9 N9 ret
  k_steps
  refine Stop.mk ?_
  k_dflt (refine LCg.CompSrc.range (by rfl) (by k_asm) (by k_asm) (by assumption) (by first | decide | rfl) (by first | rfl | decide) (by first | size_fits | exact Nat.le_of_ble_eq_true rfl) ?_; intro g'; lcg_lit)
  k_steps
  (rename News _ _ _ _ => N2); (rename Fr _ _ _ _ => F2)
  refine' join5 ?hq1 ok.dueok ?_
  case hq1 => exact News.isList N2 (.head _)
  intro t3 k3
  (try dsimp only)
  k_steps
  refine Stop.mk ?_
  (rename News _ _ _ _ => N3); (rename Fr _ _ _ _ => F3)
  rw [show Txt.join (Str.ofString "") [duePart p (a + (b + (6 + 0))) 0, duePart p (a + (b + (6 + 0))) 1, duePart p (a + (b + (6 + 0))) 2, duePart p (a + (b + (6 + 0))) 3, duePart p (a + (b + (6 + 0))) 4] = rw1 from (hrw1.trans ok.due).symm] at F3
  have N4 := news_sub N3 (l := [(dB, oB), (dt, listOf #[.ref d1, .ref d2, .ref d3] nl), (d3, o3), (d2, o2), (d1, o1), (D, listOf #[.int a ta, .int b tb, .int 6 tc] n), (L + 1 + 1, oP), (L + 1, oH), (30, t.o1), (t.c1, t.k1), (37, t.o2), (t.c2, t.k2)]) (by (repeat' (first | exact List.forall_mem_nil _ | refine List.forall_mem_cons.mpr ⟨by k_mem, ?_⟩)))
  exact c_tD w g G0 dp un fr gd _ Q E L f cdv m₀ D dt d1 d2 d3 dB oP oH o1 o2 o3 oB a b p ta tb tc tp n nl t c1 c2 c3 rw1 cw1 _ _ _ X0 hsys l37 F3 N4 (hT.at N3 (by (repeat' (first | exact List.forall_mem_nil _ | refine List.forall_mem_cons.mpr ⟨by k_mem, ?_⟩)))) DI1 DI2 DI3 DIB lo1 lo2 lo3 loB hcH hcP ha0 ha1 hb0 hb1 hp0 hp1 ok hrw1 hcw1 hdp hun ret
end Mine
end
section
open PySem PySem.W PySem.Calls PyProof.Rows
namespace Mine

local macro_rules | `(tactic| walk_at "execs cons") => `(tactic| refine stopAA ?_)
theorem c_tB : ∀ (w : World) (g : Heap) (_ : Gnd w g) (dp un : Nat) (fr : Option (List Env)) (gd : Option (List Code)) (s : Shared) (Q : Flow → Shared → Prop) (E : Value → Shared → Prop) (L f : Addr) (cdv : Value) (m₀ : Str → Option Value) (D dt d1 d2 d3 : Addr) (oP oH o1 o2 o3 : Obj) (a b p : Int) (ta tb tc tp : Tok) (n nl : Nat) (t : TP) (c1 c2 c3 : List Int),
    (hd.heap_39 w.params).In g → (∃ o, g.get? sysModules = some o) → 37 < L → Fr g L s.heap (fun z => if z = Str.ofString "tables" then some (.ref dt) else m₀ z) →
    News g L s.heap [(dt, listOf #[.ref d1, .ref d2, .ref d3] nl), (d3, o3), (d2, o2), (d1, o1), (D, listOf #[.int a ta, .int b tb, .int 6 tc] n), (L + 1 + 1, oP), (L + 1, oH), (30, t.o1), (t.c1, t.k1), (37, t.o2), (t.c2, t.k2)] → TS g s.heap t →
    DI w o1 c1 → DI w o2 c2 → DI w o3 c3 → (d1 == sysModules) = false → (d2 == sysModules) = false → (d3 == sysModules) = false →
    oH.data = .cell (some (.ref D)) → oP.data = .cell (some (.int p tp)) → 0 ≤ a → a ≤ 9 → 0 ≤ b → b ≤ 9 → 2 ≤ p → p ≤ 7 → LOk p a b c1 c2 c3 → dp + 200 < recursionLimit → un + 2000 < cLine →
    (∀ h' tk t', Kp g h' → TS g h' t' → Q (.ret (.bool true)) { s with heap := h', toks := tk }) →
    wpAny (model PySem.Challenge.rw_pe0136_01.row.prog w) ((arnd dp fr gd un).deeper (envOfC (Str.ofString "law") lSc L f cdv)) (execs lTail2 (envOfC (Str.ofString "law") lSc L f cdv)) Q E s := by
  w_top off
  k_fill
  dsimp only [lTail2, lBody, lSc, defAt, PySem.Challenge.pw_pe0136_01, List.getElem?_cons_succ, List.getElem?_cons_zero, List.drop]
  intro w g G dp un fr gd s Q E L f cdv m₀ D dt d1 d2 d3 oP oH o1 o2 o3 a b p ta tb tc tp n nl t c1 c2 c3 _ hsys l37 F9 N9 hT DI1 DI2 DI3 lo1 lo2 lo3 hcH hcP ha0 ha1 hb0 hb1 hp0 hp1 ok hdp hun ret
  have G0 := G
  obtain ⟨X0, pr, loose, mean, mg, mb, T0⟩ := G
  obtain ⟨h0, gs0, dr0, tk0, os0⟩ := s
  dsimp only at F9 N9 ret
  k_steps
  refine Stop.mk ?_
  (rename News _ _ _ _ => N9); (rename Fr _ _ _ _ => F9)
  refine c_add_callers w g G0 _ _ _ _ _ _ _ d2 d3 o2 o3 c2 c3 X0 F9.keep (N9 (d2, o2) (by k_mem)).2.2 (N9 (d3, o3) (by k_mem)).2.2 (N9.get (by k_mem)) DI2 lo2 (N9.get (by k_mem)) DI3 lo3 ok.l2 ok.l3 ?_ ?_ ?_
  · show dp + 1 + 10 < recursionLimit
    exact rlim hdp (by decide)
  · show un + 3 + 100 < cLine
    exact clim hun (by decide)
  intro dA hA tkA oA kpA nA gA DIA loA
  have F4 := fr_kp F9 kpA
  have N4 := nw_new F9 nA gA (nw_kp N9 kpA)
  clear F9 N9
  k_steps
  refine Stop.mk ?_
  (rename News _ _ _ _ => N9); (rename Fr _ _ _ _ => F9)
  refine c_add_callers w g G0 _ _ _ _ _ _ _ d1 dA o1 oA c1 (addL c2 c3) X0 F9.keep (N9 (d1, o1) (by k_mem)).2.2 (N9 (dA, oA) (by k_mem)).2.2 (N9.get (by k_mem)) DI1 lo1 (N9.get (by k_mem)) DIA loA ok.l1 ok.l23 ?_ ?_ ?_
  · show dp + 1 + 10 < recursionLimit
    exact rlim hdp (by decide)
  · show un + 3 + 100 < cLine
    exact clim hun (by decide)
  intro dB hB tkB oB kpB nB gB DIB loB
  have F5 := fr_kp F9 kpB
  have N5 := nw_new F9 nB gB (nw_kp N9 kpB)
  clear F9 N9
  k_steps
  refine Stop.mk ?_
  (rename News _ _ _ _ => N9); (rename Fr _ _ _ _ => F9)
  refine c_row w g G0 _ _ _ _ _ _ _ dB oB (wholeOf c1 c2 c3) X0 F9.keep (N9 (dB, oB) (by k_mem)).2.2 (N9.get (by k_mem)) DIB loB ok.row ?_ ?_ ?_
  · show dp + 1 + 10 < recursionLimit
    exact rlim hdp (by decide)
  · show un + 3 + 100 < cLine
    exact clim hun (by decide)
  intro hC tkC tC kpC
  have F6 := fr_kp F9 kpC
  have N6 := nw_kp N9 kpC
  clear F9 N9
  k_steps
  refine Stop.mk ?_
  (rename News _ _ _ _ => N9); (rename Fr _ _ _ _ => F9)
  refine c_carried w g G0 _ _ _ _ _ _ _ (rowOf (wholeOf c1 c2 c3)) p _ _ X0 F9.keep hp0 (by omega) ok.full ok.car ?_ ?_ ?_
  · show dp + 1 + 20 < recursionLimit
    exact rlim hdp (by decide)
  · show un + 3 + 200 < cLine
    exact clim hun (by decide)
  intro dD hD tkD cD t1D t2D kpD nD gD
  have F7 := fr_kp F9 kpD
  have N7 := nw_new F9 nD gD (nw_kp N9 kpD)
  clear F9 N9
  obtain ⟨rw1, hrw1⟩ : ∃ r, r = (rcOf p c1 c2 c3).1 := ⟨_, rfl⟩
  obtain ⟨cw1, hcw1⟩ : ∃ r, r = (rcOf p c1 c2 c3).2 := ⟨_, rfl⟩
  rw [show (carry (fullOf p) 12 (rowOf (wholeOf c1 c2 c3)) 0).1 = rw1 from hrw1.symm, show (carry (fullOf p) 12 (rowOf (wholeOf c1 c2 c3)) 0).2 = cw1 from hcw1.symm] at N7
  k_steps
  refine Stop.mk ?_
  (rename News _ _ _ _ => N8); (rename Fr _ _ _ _ => F8)
  have N4 := news_sub N8 (l := [(dB, oB), (dt, listOf #[.ref d1, .ref d2, .ref d3] nl), (d3, o3), (d2, o2), (d1, o1), (D, listOf #[.int a ta, .int b tb, .int 6 tc] n), (L + 1 + 1, oP), (L + 1, oH), (30, t.o1), (t.c1, t.k1), (37, t.o2), (t.c2, t.k2)]) (by (repeat' (first | exact List.forall_mem_nil _ | refine List.forall_mem_cons.mpr ⟨by k_mem, ?_⟩)))
  exact c_tC w g G0 dp un fr gd _ Q E L f cdv m₀ D dt d1 d2 d3 dB oP oH o1 o2 o3 oB a b p ta tb tc tp n nl t c1 c2 c3 rw1 cw1 _ _ X0 hsys l37 F8 N4 (hT.at N8 (by (repeat' (first | exact List.forall_mem_nil _ | refine List.forall_mem_cons.mpr ⟨by k_mem, ?_⟩)))) DI1 DI2 DI3 DIB lo1 lo2 lo3 loB hcH hcP ha0 ha1 hb0 hb1 hp0 hp1 ok hrw1 hcw1 hdp hun ret
end Mine
end
section
open PySem PySem.W PySem.Calls PyProof.Rows
namespace Mine
local macro_rules | `(tactic| walk_at "mine nothing") => `(tactic| fail)

local macro_rules | `(tactic| walk_at "execs cons") => `(tactic| refine stopAN ?_)
theorem c_tail : ∀ (w : World) (g : Heap) (_ : Gnd w g) (dp un : Nat) (fr : Option (List Env)) (gd : Option (List Code)) (s : Shared) (Q : Flow → Shared → Prop) (E : Value → Shared → Prop) (L f : Addr) (cdv : Value) (m₀ : Str → Option Value) (D : Addr) (oP oH : Obj) (a b p : Int) (ta tb tc tp : Tok) (n : Nat),
    (hd.heap_39 w.params).In g → (∃ o, g.get? sysModules = some o) → Fr g L s.heap m₀ → News g L s.heap [(D, listOf #[.int a ta, .int b tb, .int 6 tc] n), (L + 1 + 1, oP), (L + 1, oH), (37, tabObj #[]), (30, tabObj #[])] →
    oH.data = .cell (some (.ref D)) → oP.data = .cell (some (.int p tp)) → 37 < L → 30 < L → L + 1 + 1 < D → 0 ≤ a → a ≤ 9 → 0 ≤ b → b ≤ 9 → 2 ≤ p → p ≤ 7 → LOk p a b (figs p 5 a) (figs p 5 b) (figs p 5 6) → dp + 200 < recursionLimit → un + 2000 < cLine →
    (∀ h' tk t', Kp g h' → TS g h' t' → Q (.ret (.bool true)) { s with heap := h', toks := tk }) →
    wpAny (model PySem.Challenge.rw_pe0136_01.row.prog w) ((arnd dp fr gd un).deeper (envOfC (Str.ofString "law") lSc L f cdv)) (execs lTail (envOfC (Str.ofString "law") lSc L f cdv)) Q E s := by
  w_top off
  k_fill
  dsimp only [lTail, lBody, lSc, defAt, PySem.Challenge.pw_pe0136_01, List.getElem?_cons_succ, List.getElem?_cons_zero, List.drop]
  intro w g G dp un fr gd s Q E L f cdv m₀ D oP oH a b p ta tb tc tp n _ hsys F9 N9 hcH hcP l37 l30 lD ha0 ha1 hb0 hb1 hp0 hp1 ok hdp hun ret
  have l37' := l37
  replace l37 := ltN l37
  replace l30 := ltN l30
  replace lD := ltN lD
  have G0 := G
  obtain ⟨X0, pr, loose, mean, mg, mb, T0⟩ := G
  obtain ⟨h0, gs0, dr0, tk0, os0⟩ := s
  dsimp only at F9 N9
  have two : ∀ {a : Nat}, a ≠ 30 → a ≠ 37 → a ∉ [30, 37] := fun h1 h2 hm => (List.mem_cons.mp hm).elim h1 fun z => h2 (List.mem_singleton.mp z)
  have mem30 : ∀ {t : TP} {l : List (Addr × Obj)}, (30, t.o1) ∈ t.led ++ l := .head _
  have n9D : D ∉ [30, 37] := two (by omega) (by omega)
  have n9P : (L + 1 + 1 : Nat) ∉ [30, 37] := two (by omega) (by omega)
  have n9H : (L + 1 : Nat) ∉ [30, 37] := two (by omega) (by omega)
  k_steps
  refine Stop.mk ?_
  k_dflt (refine LCg.CompSrc.ledger (by rfl) (by k_asm) (by k_asm) (by k_mem) (by first | size_fits | exact Nat.le_of_ble_eq_true rfl) ?_; intro g'; lcg_lit)
  k_steps
  refine Stop.mk ?_
  (rename News _ _ _ _ => N1); (rename Fr _ _ _ _ => F1); (rename ((_ ∧ _) ∧ _) => off1)
  obtain ⟨⟨x1, x2, x3⟩, ⟨y1, y2, y3⟩, ⟨z1, z2, z3⟩, ⟨u1, u2, u3⟩, v1, v2, v3⟩ := off1
  have TS0 := ts_start N1 (by k_mem) (by k_mem)
  refine c_figures w g G0 _ _ _ _ _ _ _ a p _ _ t00 X0 F1.keep TS0 ha0 (by omega) hp0 (by omega) ?_ ?_ ?_
  · show dp + 1 + 110 < recursionLimit
    exact rlim hdp (by decide)
  · show un + 3 + 1000 < cLine
    exact clim hun (by decide)
  intro d1 h1 tk1 o1 t1 kp1 TS1 TN1 hn1 hg1 DI1 lo1
  have F2 := ts_out F1 N1 (by k_mem) (by k_mem) kp1
  have N2 := nw_new F1 hn1 hg1 (nw_keep N1 kp1 (.head _) (two (Ne.symm v1) (Ne.symm u1)) (nw_keep N1 kp1 (.tail _ (.head _)) (two (Ne.symm v2) (Ne.symm u2)) (nw_keep N1 kp1 (.tail _ (.tail _ (.head _))) (two (Ne.symm v3) (Ne.symm u3)) (nw_keep N1 kp1 (.tail _ (.tail _ (.tail _ (.head _)))) n9D (nw_keep N1 kp1 (.tail _ (.tail _ (.tail _ (.tail _ (.head _))))) n9P (nw_keep N1 kp1 (.tail _ (.tail _ (.tail _ (.tail _ (.tail _ (.head _)))))) n9H (ts_news F1 N1 (by (repeat' (first | exact List.forall_mem_nil _ | refine List.forall_mem_cons.mpr ⟨by k_mem, ?_⟩))) TS1 TN1 nw_nil)))))))
  have r1 := tn_ne1 N1 (.head _) TN1 v1
  have r2 := tn_ne1 N1 (.tail _ (.head _)) TN1 v2
  have r3 := tn_ne1 N1 (.tail _ (.tail _ (.head _))) TN1 v3
  have r4 := tn_ne2 N1 (.head _) TN1 u1
  have r5 := tn_ne2 N1 (.tail _ (.head _)) TN1 u2
  have r6 := tn_ne2 N1 (.tail _ (.tail _ (.head _))) TN1 u3
  have s1 := ne_new N1 (.head _) hn1
  have s2 := ne_new N1 (.tail _ (.head _)) hn1
  have s3 := ne_new N1 (.tail _ (.tail _ (.head _))) hn1
  have n9d1 : d1 ∉ [30, 37] := two (Ne.symm (ne_new (a := 30) N1 (by k_mem) hn1)) (Ne.symm (ne_new (a := 37) N1 (by k_mem) hn1))
  clear F1 N1
  dsimp only [TP.led, List.cons_append, List.nil_append] at N2
  show qk _ _
  k_unfold
  dsimp only
  refine LCg.CompEnd.intro F2 N2 [(d1, o1), (D, W.listOf #[.int a ta, .int b tb, .int 6 tc] n), (L + 1 + 1, oP), (L + 1, oH), (30, t1.o1), (t1.c1, t1.k1), (37, t1.o2), (t1.c2, t1.k2)] (by lcg_sub) ⟨⟨Ne.symm s1, Ne.symm s2, Ne.symm s3⟩, ⟨x1, x2, x3⟩, ⟨y1, y2, y3⟩, ⟨z1, z2, z3⟩, ⟨v1, v2, v3⟩, ⟨r1, r2, r3⟩, ⟨u1, u2, u3⟩, ⟨r4, r5, r6⟩, trivial⟩ (by lcg_src) ?_
  clear x1 x2 x3 y1 y2 y3 z1 z2 z3 u1 u2 u3 v1 v2 v3 r1 r2 r3 r4 r5 r6 s1 s2 s3 F2 N2
  k_steps
  refine Stop.mk ?_
  (rename News _ _ _ _ => N1); (rename Fr _ _ _ _ => F1); (rename ((_ ∧ _) ∧ _) => off1)
  obtain ⟨⟨qd1a, qd1b, qd1c⟩, ⟨x1, x2, x3⟩, ⟨y1, y2, y3⟩, ⟨z1, z2, z3⟩, ⟨v1, v2, v3⟩, ⟨c1, c2, c3⟩, ⟨u1, u2, u3⟩, e1, e2, e3⟩ := off1
  have TSa := TS1.at N1 (by (repeat' (first | exact List.forall_mem_nil _ | refine List.forall_mem_cons.mpr ⟨by k_mem, ?_⟩)))
  refine c_figures w g G0 _ _ _ _ _ _ _ b p _ _ t1 X0 F1.keep TSa hb0 (by omega) hp0 (by omega) ?_ ?_ ?_
  · show dp + 1 + 110 < recursionLimit
    exact rlim hdp (by decide)
  · show un + 3 + 1000 < cLine
    exact clim hun (by decide)
  intro d2 h2 tk2 o2 t2 kp2 TS2 TN2 hn2 hg2 DI2 lo2
  have F2 := ts_out F1 N1 (by k_mem) (by k_mem) kp2
  have N2 := nw_new F1 hn2 hg2 (nw_keep N1 kp2 (.head _) (two (Ne.symm v1) (Ne.symm u1)) (nw_keep N1 kp2 (.tail _ (.head _)) (two (Ne.symm v2) (Ne.symm u2)) (nw_keep N1 kp2 (.tail _ (.tail _ (.head _))) (two (Ne.symm v3) (Ne.symm u3)) (nw_keep N1 kp2 (.tail _ (.tail _ (.tail _ (.head _)))) n9d1 (nw_keep N1 kp2 (.tail _ (.tail _ (.tail _ (.tail _ (.head _))))) n9D (nw_keep N1 kp2 (.tail _ (.tail _ (.tail _ (.tail _ (.tail _ (.head _)))))) n9P (nw_keep N1 kp2 (.tail _ (.tail _ (.tail _ (.tail _ (.tail _ (.tail _ (.head _))))))) n9H (ts_news F1 N1 (by (repeat' (first | exact List.forall_mem_nil _ | refine List.forall_mem_cons.mpr ⟨by k_mem, ?_⟩))) TS2 TN2 nw_nil))))))))
  have r1 := tn_ne1 N1 (.head _) TN2 c1
  have r2 := tn_ne1 N1 (.tail _ (.head _)) TN2 c2
  have r3 := tn_ne1 N1 (.tail _ (.tail _ (.head _))) TN2 c3
  have r4 := tn_ne2 N1 (.head _) TN2 e1
  have r5 := tn_ne2 N1 (.tail _ (.head _)) TN2 e2
  have r6 := tn_ne2 N1 (.tail _ (.tail _ (.head _))) TN2 e3
  have s1 := ne_new N1 (.head _) hn2
  have s2 := ne_new N1 (.tail _ (.head _)) hn2
  have s3 := ne_new N1 (.tail _ (.tail _ (.head _))) hn2
  have n9d2 : d2 ∉ [30, 37] := two (Ne.symm (ne_new (a := 30) N1 (by k_mem) hn2)) (Ne.symm (ne_new (a := 37) N1 (by k_mem) hn2))
  clear F1 N1
  dsimp only [TP.led, List.cons_append, List.nil_append] at N2
  show qk _ _
  k_unfold
  dsimp only
  refine LCg.CompEnd.intro F2 N2 [(d2, o2), (d1, o1), (D, W.listOf #[.int a ta, .int b tb, .int 6 tc] n), (L + 1 + 1, oP), (L + 1, oH), (30, t2.o1), (t2.c1, t2.k1), (37, t2.o2), (t2.c2, t2.k2)] (by lcg_sub) ⟨⟨Ne.symm s1, Ne.symm s2, Ne.symm s3⟩, ⟨qd1a, qd1b, qd1c⟩, ⟨x1, x2, x3⟩, ⟨y1, y2, y3⟩, ⟨z1, z2, z3⟩, ⟨v1, v2, v3⟩, ⟨r1, r2, r3⟩, ⟨u1, u2, u3⟩, ⟨r4, r5, r6⟩, trivial⟩ (by lcg_src) ?_
  clear qd1a qd1b qd1c x1 x2 x3 y1 y2 y3 z1 z2 z3 v1 v2 v3 c1 c2 c3 u1 u2 u3 e1 e2 e3 r1 r2 r3 r4 r5 r6 s1 s2 s3 F2 N2 TSa
  k_steps
  refine Stop.mk ?_
  (rename News _ _ _ _ => N1); (rename Fr _ _ _ _ => F1); (rename ((_ ∧ _) ∧ _) => off1)
  obtain ⟨⟨qd2a, qd2b, qd2c⟩, ⟨qd1a, qd1b, qd1c⟩, ⟨x1, x2, x3⟩, ⟨y1, y2, y3⟩, ⟨z1, z2, z3⟩, ⟨v1, v2, v3⟩, ⟨c1, c2, c3⟩, ⟨u1, u2, u3⟩, e1, e2, e3⟩ := off1
  have TSa := TS2.at N1 (by (repeat' (first | exact List.forall_mem_nil _ | refine List.forall_mem_cons.mpr ⟨by k_mem, ?_⟩)))
  refine c_figures w g G0 _ _ _ _ _ _ _ 6 p _ _ t2 X0 F1.keep TSa (by omega) (by omega) hp0 (by omega) ?_ ?_ ?_
  · show dp + 1 + 110 < recursionLimit
    exact rlim hdp (by decide)
  · show un + 3 + 1000 < cLine
    exact clim hun (by decide)
  intro d3 h3 tk3 o3 t3 kp3 TS3 TN3 hn3 hg3 DI3 lo3
  have F2 := ts_out F1 N1 (by k_mem) (by k_mem) kp3
  have N2 := nw_new F1 hn3 hg3 (nw_keep N1 kp3 (.head _) (two (Ne.symm v1) (Ne.symm u1)) (nw_keep N1 kp3 (.tail _ (.head _)) (two (Ne.symm v2) (Ne.symm u2)) (nw_keep N1 kp3 (.tail _ (.tail _ (.head _))) (two (Ne.symm v3) (Ne.symm u3)) (nw_keep N1 kp3 (.tail _ (.tail _ (.tail _ (.head _)))) n9d2 (nw_keep N1 kp3 (.tail _ (.tail _ (.tail _ (.tail _ (.head _))))) n9d1 (nw_keep N1 kp3 (.tail _ (.tail _ (.tail _ (.tail _ (.tail _ (.head _)))))) n9D (nw_keep N1 kp3 (.tail _ (.tail _ (.tail _ (.tail _ (.tail _ (.tail _ (.head _))))))) n9P (nw_keep N1 kp3 (.tail _ (.tail _ (.tail _ (.tail _ (.tail _ (.tail _ (.tail _ (.head _)))))))) n9H (ts_news F1 N1 (by (repeat' (first | exact List.forall_mem_nil _ | refine List.forall_mem_cons.mpr ⟨by k_mem, ?_⟩))) TS3 TN3 nw_nil)))))))))
  have r1 := tn_ne1 N1 (.head _) TN3 c1
  have r2 := tn_ne1 N1 (.tail _ (.head _)) TN3 c2
  have r3 := tn_ne1 N1 (.tail _ (.tail _ (.head _))) TN3 c3
  have r4 := tn_ne2 N1 (.head _) TN3 e1
  have r5 := tn_ne2 N1 (.tail _ (.head _)) TN3 e2
  have r6 := tn_ne2 N1 (.tail _ (.tail _ (.head _))) TN3 e3
  have s1 := ne_new N1 (.head _) hn3
  have s2 := ne_new N1 (.tail _ (.head _)) hn3
  have s3 := ne_new N1 (.tail _ (.tail _ (.head _))) hn3
  have n9d3 : d3 ∉ [30, 37] := two (Ne.symm (ne_new (a := 30) N1 (by k_mem) hn3)) (Ne.symm (ne_new (a := 37) N1 (by k_mem) hn3))
  clear F1 N1
  dsimp only [TP.led, List.cons_append, List.nil_append] at N2
  show qk _ _
  k_unfold
  dsimp only
  refine LCg.CompEnd.intro F2 N2 [(d3, o3), (d2, o2), (d1, o1), (D, W.listOf #[.int a ta, .int b tb, .int 6 tc] n), (L + 1 + 1, oP), (L + 1, oH), (30, t3.o1), (t3.c1, t3.k1), (37, t3.o2), (t3.c2, t3.k2)] (by lcg_sub) ⟨⟨Ne.symm s1, Ne.symm s2, Ne.symm s3⟩, ⟨qd2a, qd2b, qd2c⟩, ⟨qd1a, qd1b, qd1c⟩, ⟨x1, x2, x3⟩, ⟨y1, y2, y3⟩, ⟨z1, z2, z3⟩, ⟨v1, v2, v3⟩, ⟨r1, r2, r3⟩, ⟨u1, u2, u3⟩, ⟨r4, r5, r6⟩, trivial⟩ (by lcg_src) ?_
  clear qd2a qd2b qd2c qd1a qd1b qd1c x1 x2 x3 y1 y2 y3 z1 z2 z3 v1 v2 v3 c1 c2 c3 u1 u2 u3 e1 e2 e3 r1 r2 r3 r4 r5 r6 s1 s2 s3 F2 N2 TSa
  k_steps
  refine Stop.mk ?_
  (rename News _ _ _ _ => N1); (rename Fr _ _ _ _ => F1)
  obtain ⟨dt, hdt⟩ := nm_zero N1
  subst hdt
  have N4 := news_sub N1 (l := [(dt, listOf #[.ref d1, .ref d2, .ref d3] 3), (d3, o3), (d2, o2), (d1, o1), (D, listOf #[.int a ta, .int b tb, .int 6 tc] n), (L + 1 + 1, oP), (L + 1, oH), (30, t3.o1), (t3.c1, t3.k1), (37, t3.o2), (t3.c2, t3.k2)]) (by (repeat' (first | exact List.forall_mem_nil _ | refine List.forall_mem_cons.mpr ⟨by k_mem, ?_⟩)))
  exact c_tB w g G0 dp un fr gd _ Q E L f cdv m₀ D dt d1 d2 d3 oP oH o1 o2 o3 a b p ta tb tc tp n 3 t3 (figs p 5 a) (figs p 5 b) (figs p 5 6) X0 hsys l37' F1 N4 (TS3.at N1 (by (repeat' (first | exact List.forall_mem_nil _ | refine List.forall_mem_cons.mpr ⟨by k_mem, ?_⟩)))) DI1 DI2 DI3 lo1 lo2 lo3 hcH hcP ha0 ha1 hb0 hb1 hp0 hp1 ok hdp hun ret
end Mine
end
end
end
section
open PySem PySem.W PySem.Calls PyProof.Rows
namespace Mine
theorem good_end {cl : Str → Option Addr} {mean : ExcName → Option Value} {args : List WData} {s₁ s' : Shared} (k : ∀ b o, s₁.heap.get? b = some o → s'.heap.get? b = some o) (ho : s'.os = s₁.os) (hg : s'.gens = #[]) :
    GoodW PySem.Challenge.rw_pe0136_01.row.claim cl mean args s₁ (.ok (.ret (.bool true))) s' := by
  refine ⟨.inl ⟨_, _, _, rfl, fun _ => rfl, ReadsW.bool _, ?_, fun _ => ⟨List.nodup_nil, fun a ha => by cases ha⟩⟩, k, ho, hg⟩
  exact postW_of (r := PySem.Challenge.rw_pe0136_01.row.toRowW) (by wrow_shape) (by wtm_val) (by w_fin)
end Mine
end
section
open PySem PySem.W PySem.Calls PyProof.Rows PySem.StrLaws PySem.Builtin.Str
namespace Mine

abbrev toS (l : List Nat) : Str := ⟨l.toArray⟩
def consH (c : Nat) : List (List Nat) → List (List Nat)
  | [] => [[c]]
  | p :: ps => (c :: p) :: ps
def splitL (y : List Nat) : List Nat → Nat → List (List Nat)
  | [], _ => [[]]
  | c :: l, 0 => if y.isPrefixOf (c :: l) = true then [] :: splitL y l (y.length - 1) else consH c (splitL y l 0)
  | _ :: l, k + 1 => splitL y l k
theorem splitL_skip (y : List Nat) : ∀ (l : List Nat) (k : Nat), splitL y l k = splitL y (l.drop k) 0
  | [], k => by rw [List.drop_nil]; cases k <;> rfl
  | c :: l, 0 => rfl
  | c :: l, k + 1 => splitL_skip y l k

theorem at_iff {x y : Str} {k : Nat} (hw : 1 ≤ y.length) : At x y x.length k ↔ y.cps.toList.isPrefixOf (x.cps.toList.drop k) = true := by
  unfold At
  rw [subAt_eq, List.isPrefixOf_iff_prefix, beq_iff_eq]
  have e1 : y.length = y.cps.toList.length := by simp [Str.length]
  have e2 : x.length = x.cps.toList.length := by simp [Str.length]
  rw [e1] at hw
  rw [e1, e2]
  constructor
  · rintro ⟨_, h⟩
    rw [← h]
    exact List.take_prefix _ _
  · intro h
    have hl := h.length_le
    rw [List.length_drop] at hl
    exact ⟨by omega, (List.prefix_iff_eq_take.mp h).symm⟩

theorem parts_split {x y : Str} (hw : 1 ≤ y.length) : ∀ (n a : Nat) (cuts : List Nat) (f : Nat), x.length - a ≤ n → ChainG x y x.length a cuts f → (∀ k, f ≤ k → ¬ At x y x.length k) →
    (partsFrom x y.length a cuts).map (·.cps.toList) = splitL y.cps.toList (x.cps.toList.drop a) 0 := by
  intro n
  induction n with
  | zero =>
    intro a cuts f hn hc hf
    have e2 : x.length = x.cps.toList.length := by simp [Str.length]
    rw [List.drop_eq_nil_of_le (by omega)]
    cases cuts with
    | nil =>
      show [(strSub x a x.length).cps.toList] = [[]]
      rw [strSub_toList, List.drop_eq_nil_of_le (by omega), List.take_nil]
    | cons c r =>
      have h1 := hc.1
      have h2 := hc.2.1.1
      omega
  | succ n ih =>
    intro a cuts f hn hc hf
    have e2 : x.length = x.cps.toList.length := by simp [Str.length]
    by_cases hlt : x.length ≤ a
    · exact ih a cuts f (by omega) hc hf
    have hlt' : a < x.cps.toList.length := by omega
    by_cases hA : At x y x.length a
    · have hp := (at_iff hw).mp hA
      rw [List.drop_eq_getElem_cons hlt'] at hp ⊢
      cases cuts with
      | nil =>
        have e : f = a := hc
        exact absurd hA (hf a (by omega))
      | cons c r =>
        have ec : c = a := by
          rcases Nat.lt_or_ge a c with h | h
          · exact absurd hA (hc.2.2.1 a (Nat.le_refl _) h)
          · exact Nat.le_antisymm h hc.1
        subst ec
        show (strSub x c c).cps.toList :: (partsFrom x y.length (c + y.length) r).map (·.cps.toList) = (if _ then _ else _)
        rw [if_pos hp, strSub_toList, Nat.sub_self, List.take_zero, ih (c + y.length) r f (by omega) hc.2.2.2 hf, splitL_skip _ (x.cps.toList.drop (c + 1)), List.drop_drop]
        have e1 : y.length = y.cps.toList.length := by simp [Str.length]
        rw [show c + 1 + (y.cps.toList.length - 1) = c + y.length by omega]
    · have hp : ¬ (y.cps.toList.isPrefixOf (x.cps.toList.drop a) = true) := fun h => hA ((at_iff hw).mpr h)
      rw [List.drop_eq_getElem_cons hlt'] at hp ⊢
      show _ = (if _ then _ else _)
      rw [if_neg hp]
      cases cuts with
      | nil =>
        have ef : f = a := hc
        rw [← ih (a + 1) [] (a + 1) (om10 hn) rfl (fun k hk => hf k (by omega))]
        show [(strSub x a x.length).cps.toList] = [_ :: (strSub x (a + 1) x.length).cps.toList]
        rw [strSub_toList, strSub_toList, List.drop_eq_getElem_cons hlt', show x.length - a = (x.length - (a + 1)) + 1 from om9 (Nat.lt_of_not_le hlt), List.take_succ_cons]
      | cons c r =>
        have hne : c ≠ a := fun e => hA (e ▸ hc.2.1)
        have h1 := hc.1
        rw [← ih (a + 1) (c :: r) f (om10 hn) ⟨by omega, hc.2.1, fun k hk1 hk2 => hc.2.2.1 k (by omega) hk2, hc.2.2.2⟩ hf]
        show (strSub x a c).cps.toList :: _ = (_ :: (strSub x (a + 1) c).cps.toList) :: _
        rw [strSub_toList, strSub_toList, List.drop_eq_getElem_cons hlt', show c - a = (c - (a + 1)) + 1 from om9 (Nat.lt_of_le_of_ne h1 (Ne.symm hne)), List.take_succ_cons]

theorem kind_one (x : Str) : 1 ≤ Builtin.Str.strKind x := by
  unfold Builtin.Str.strKind
  split
  · exact Nat.le_refl _
  · split <;> decide
theorem occ_nil_of_short {x y : Str} (hw : 1 ≤ y.length) (h : x.length < y.length) : occurrences x y 0 x.length (x.length + 1) = [] := by
  obtain ⟨f, hc, _⟩ := occ_tight x y hw
  cases e : occurrences x y 0 x.length (x.length + 1) with
  | nil => rfl
  | cons c r =>
    rw [e] at hc
    have := hc.2.1.1
    omega
theorem parts_all (x y : Str) (hw : 1 ≤ y.length) : (partsBetween x (occurrences x y 0 x.length (x.length + 1)) y.length).map (·.cps.toList) = splitL y.cps.toList x.cps.toList 0 := by
  obtain ⟨f, hc, hf⟩ := occ_tight x y hw
  rw [partsBetween_eq]
  exact parts_split hw x.length 0 _ f (by omega) hc hf
theorem one_part (x : Str) (w : Nat) : partsBetween x [] w = [x] := by
  rw [partsBetween_eq]
  show [strSub x 0 x.length] = [x]
  congr 1
  have := strSub_toList x 0 x.length
  have e2 : x.length = x.cps.toList.length := by simp [Str.length]
  rw [List.drop_zero, Nat.sub_zero, e2, List.take_length] at this
  have h2 := congrArg List.toArray this
  rw [Array.toArray_toList, Array.toArray_toList] at h2
  cases x
  rw [e2]
  exact congrArg Str.mk h2
theorem split_is (x y : Str) (hw : 1 ≤ y.length) (hk : Builtin.Str.strKind y = 1) : Txt.split x y = partsBetween x (occurrences x y 0 x.length (x.length + 1)) y.length := by
  unfold Txt.split
  by_cases h1 : x.length < y.length
  · rw [if_pos (by rw [decide_eq_true h1]; rfl), occ_nil_of_short hw h1, one_part]
  · have hk2 : ¬ Builtin.Str.strKind x < Builtin.Str.strKind y := by rw [hk]; have := kind_one x; omega
    rw [if_neg (by rw [decide_eq_false h1, decide_eq_false hk2]; exact Bool.false_ne_true)]
    split
    · rename_i h
      rw [List.isEmpty_iff.mp h, one_part]
    · rfl
theorem split_map (x y : Str) (hw : 1 ≤ y.length) (hk : Builtin.Str.strKind y = 1) : (Txt.split x y).map (·.cps.toList) = splitL y.cps.toList x.cps.toList 0 := by
  rw [split_is x y hw hk, parts_all x y hw]
theorem parts_len (x : Str) (w : Nat) : ∀ (a : Nat) (cuts : List Nat), (partsFrom x w a cuts).length = cuts.length + 1
  | _, [] => rfl
  | a, c :: r => congrArg (· + 1) (parts_len x w (c + w) r)
theorem count_is (x y : Str) (hw : 1 ≤ y.length) : Txt.count x y = (((splitL y.cps.toList x.cps.toList 0).length - 1 : Nat) : Int) := by
  rw [← parts_all x y hw, List.length_map, partsBetween_eq, parts_len]
  rfl
theorem map_toS {ps : List Str} {qs : List (List Nat)} (h : ps.map (·.cps.toList) = qs) : ps = qs.map toS := by
  rw [← h, List.map_map]
  refine (List.map_id ps).symm.trans (List.map_congr_left fun p _ => ?_)
  cases p
  simp [toS]
theorem split_toS (x y : List Nat) (hw : 1 ≤ y.length) (hk : Builtin.Str.strKind (toS y) = 1) : Txt.split (toS x) (toS y) = (splitL y x 0).map toS :=
  map_toS (split_map (toS x) (toS y) (by simpa [Str.length] using hw) hk)
theorem count_toS (x y : List Nat) (hw : 1 ≤ y.length) : Txt.count (toS x) (toS y) = (((splitL y x 0).length - 1 : Nat) : Int) :=
  count_is (toS x) (toS y) (by simpa [Str.length] using hw)

def joinL (z : List Nat) : List (List Nat) → List Nat
  | [] => []
  | [x] => x
  | x :: y :: r => x ++ z ++ joinL z (y :: r)
theorem join_toS (z : List Nat) : ∀ ps : List (List Nat), Txt.join (toS z) (ps.map toS) = toS (joinL z ps)
  | [] => rfl
  | [x] => by
    show glued _ _ = _
    rw [glued_eq_join]
    rfl
  | x :: y :: r => by
    have ih := join_toS z (y :: r)
    have e : ∀ l, Txt.join (toS z) l = Str.join (toS z) l := fun l => glued_eq_join _ _
    rw [e] at ih ⊢
    show toS x ++ toS z ++ Str.join (toS z) ((y :: r).map toS) = _
    rw [ih]
    show Str.mk ((x.toArray ++ z.toArray) ++ (joinL z (y :: r)).toArray) = Str.mk (x ++ z ++ joinL z (y :: r)).toArray
    simp
theorem mul_toS (c : Nat) (n : Int) : Txt.mul (toS [c]) n = toS (List.replicate n.toNat c) := by
  unfold Txt.mul
  by_cases h1 : n < 1
  · rw [if_pos h1, show n.toNat = 0 by omega]; rfl
  rw [if_neg h1]
  by_cases h2 : n = 1
  · subst h2; rfl
  have hl : (toS [c]).length = 1 := rfl
  rw [if_neg (by rw [hl, show (n == 1) = false from by simpa using h2]; decide)]
  have key : ∀ (k : Nat) (acc : List Nat), (List.replicate k (#[c] : Array Nat)).foldl (· ++ ·) acc.toArray = (acc ++ List.replicate k c).toArray := by
    intro k
    induction k with
    | zero => intro acc; simp
    | succ k ih =>
      intro acc
      rw [List.replicate_succ, List.foldl_cons]
      have : acc.toArray ++ (#[c] : Array Nat) = (acc ++ [c]).toArray := by simp
      rw [this, ih (acc ++ [c]), List.append_assoc, List.replicate_succ, List.singleton_append]
  have := key n.toNat []
  rw [List.nil_append] at this
  exact congrArg Str.mk this
theorem app_toS (x y : List Nat) : toS x ++ toS y = toS (x ++ y) := by
  show Str.mk (x.toArray ++ y.toArray) = _
  simp
end Mine
end
section
open PySem PySem.W PySem.Calls PyProof.Rows PySem.StrLaws PySem.Builtin.Str
namespace Mine

theorem rep_add (c : Nat) : ∀ m n : Nat, List.replicate (m + n) c = List.replicate m c ++ List.replicate n c
  | 0, n => by rw [Nat.zero_add]; rfl
  | m + 1, n => by rw [Nat.succ_add, List.replicate_succ, rep_add c m n]; rfl
def rowL (cs : List Nat) : List Nat := cs.flatMap fun a => List.replicate a 49 ++ [46]
def fullL (p : Nat) : List Nat := List.replicate p 49 ++ [46]
def pre (u : List Nat) : List (List Nat) → List (List Nat)
  | [] => [u]
  | q :: qs => (u ++ q) :: qs
def partsC (p : Nat) : List Nat → List (List Nat)
  | [] => [[]]
  | a :: r => if a < p then pre (List.replicate a 49 ++ [46]) (partsC p r) else List.replicate (a - p) 49 :: partsC p r
theorem pre_ne (u : List Nat) (qs : List (List Nat)) : pre u qs ≠ [] := by cases qs <;> intro h <;> cases h
theorem partsC_ne (p : Nat) (cs : List Nat) : partsC p cs ≠ [] := by
  cases cs with
  | nil => intro h; cases h
  | cons a r =>
    show (if a < p then _ else _) ≠ []
    split
    · exact pre_ne _ _
    · intro h; cases h
theorem splitL_ne (y : List Nat) : ∀ (l : List Nat) (k : Nat), splitL y l k ≠ []
  | [], _ => by cases ‹Nat› <;> (intro h; cases h)
  | c :: l, 0 => by
    show (if _ then _ else _) ≠ []
    split
    · intro h; cases h
    · cases splitL y l 0 <;> (intro h; cases h)
  | c :: l, k + 1 => splitL_ne y l k
theorem pref_iff (R : List Nat) : ∀ (p b : Nat), (fullL p).isPrefixOf (List.replicate b 49 ++ 46 :: R) = decide (p = b)
  | 0, 0 => by simp [fullL, List.isPrefixOf]
  | 0, b + 1 => by simp [fullL, List.isPrefixOf, List.replicate_succ]
  | p + 1, 0 => by simp [fullL, List.isPrefixOf, List.replicate_succ]
  | p + 1, b + 1 => by
    have ih := pref_iff R p b
    unfold fullL at ih ⊢
    rw [List.replicate_succ, List.replicate_succ, List.cons_append, List.cons_append, List.isPrefixOf, ih]
    simp
theorem split_seg (p : Nat) (R : List Nat) : ∀ a : Nat, splitL (fullL p) (List.replicate a 49 ++ 46 :: R) 0 =
    if a < p then pre (List.replicate a 49 ++ [46]) (splitL (fullL p) R 0) else List.replicate (a - p) 49 :: splitL (fullL p) R 0
  | 0 => by
    have hp := pref_iff R p 0
    show (if (fullL p).isPrefixOf (46 :: R) = true then _ else _) = _
    rw [show (46 :: R) = List.replicate 0 49 ++ 46 :: R from rfl, hp]
    by_cases h : p = 0
    · subst h
      rfl
    · rw [if_neg (by simpa using h), if_pos (by omega)]
      show consH 46 (splitL (fullL p) R 0) = pre [46] (splitL (fullL p) R 0)
      cases splitL (fullL p) R 0 <;> rfl
  | a + 1 => by
    have hp := pref_iff R p (a + 1)
    show (if (fullL p).isPrefixOf (List.replicate (a + 1) 49 ++ 46 :: R) = true then [] :: splitL (fullL p) (List.replicate a 49 ++ 46 :: R) ((fullL p).length - 1) else consH 49 (splitL (fullL p) (List.replicate a 49 ++ 46 :: R) 0)) = _
    rw [hp]
    by_cases h : p = a + 1
    · rw [if_pos (by simpa using h), if_neg (by omega), splitL_skip]
      have hl : (fullL p).length - 1 = a + 1 := by unfold fullL; simp [h]
      rw [hl, show a + 1 - p = 0 by omega]
      have : (List.replicate a 49 ++ 46 :: R).drop (a + 1) = R := by
        rw [List.drop_append]
        simp
      rw [this]
      rfl
    · rw [if_neg (by simpa using h), split_seg p R a]
      by_cases h2 : a < p
      · rw [if_pos h2, if_pos (by omega)]
        cases e : splitL (fullL p) R 0 with
        | nil => exact absurd e (splitL_ne _ _ _)
        | cons q qs => simp [pre, consH, List.replicate_succ]
      · rw [if_neg h2, if_neg (by omega), show a + 1 - p = (a - p) + 1 by omega, List.replicate_succ]
        rfl
theorem split_row (p : Nat) : ∀ cs : List Nat, splitL (fullL p) (rowL cs) 0 = partsC p cs
  | [] => rfl
  | a :: r => by
    have e : rowL (a :: r) = List.replicate a 49 ++ 46 :: rowL r := by simp [rowL]
    rw [e, split_seg, split_row p r]
    rfl
def foundC (p : Nat) : List Nat → Nat
  | [] => 0
  | a :: r => (if a < p then 0 else 1) + foundC p r
theorem partsC_len (p : Nat) : ∀ cs : List Nat, (partsC p cs).length = foundC p cs + 1
  | [] => rfl
  | a :: r => by
    have ih := partsC_len p r
    show (if a < p then pre _ (partsC p r) else _).length = (if a < p then 0 else 1) + foundC p r + 1
    by_cases h : a < p
    · rw [if_pos h, if_pos h]
      cases e : partsC p r with
      | nil => exact absurd e (partsC_ne _ _)
      | cons q qs => rw [e] at ih; simp [pre] at ih ⊢; omega
    · rw [if_neg h, if_neg h, List.length_cons, ih]; omega
def stepC (p : Nat) : List Nat → Nat → List Nat × Nat
  | [], k => ([], k)
  | a :: r, k => if a < p then ((a + k) :: (stepC p r 0).1, (stepC p r 0).2) else ((a - p + k) :: (stepC p r 1).1, (stepC p r 1).2)
theorem joinL_pre (z u : List Nat) : ∀ ps : List (List Nat), joinL z (pre u ps) = u ++ joinL z ps
  | [] => by simp [pre, joinL]
  | [q] => rfl
  | q :: q' :: r => by simp [pre, joinL]
theorem joinL_cons (z q : List Nat) : ∀ ps : List (List Nat), ps ≠ [] → joinL z (q :: ps) = q ++ z ++ joinL z ps
  | [], h => absurd rfl h
  | _ :: _, _ => rfl
theorem join_row (p : Nat) : ∀ (cs : List Nat) (k : Nat), List.replicate k 49 ++ joinL [46, 49] (partsC p cs) = rowL (stepC p cs k).1 ++ List.replicate (stepC p cs k).2 49
  | [], k => by simp [partsC, joinL, stepC, rowL]
  | a :: r, k => by
    show _ ++ joinL _ (if a < p then _ else _) = rowL (if a < p then _ else _ : List Nat × Nat).1 ++ List.replicate (if a < p then _ else _ : List Nat × Nat).2 49
    by_cases h : a < p
    · rw [if_pos h, if_pos h, joinL_pre]
      have ih := join_row p r 0
      rw [List.replicate_zero, List.nil_append] at ih
      rw [ih]
      simp only [rowL, List.flatMap_cons, ← List.append_assoc]
      rw [← rep_add, Nat.add_comm]
    · rw [if_neg h, if_neg h, joinL_cons _ _ _ (partsC_ne _ _)]
      have ih := join_row p r 1
      have e : List.replicate k 49 ++ (List.replicate (a - p) 49 ++ [46, 49] ++ joinL [46, 49] (partsC p r)) = List.replicate (a - p + k) 49 ++ [46] ++ (List.replicate 1 49 ++ joinL [46, 49] (partsC p r)) := by
        rw [show a - p + k = k + (a - p) by omega, rep_add 49 k (a - p)]
        simp only [List.append_assoc]
        rfl
      rw [e, ih]
      simp only [rowL, List.flatMap_cons, List.append_assoc]
theorem stepC_len (p : Nat) : ∀ (cs : List Nat) (k : Nat), (stepC p cs k).1.length = cs.length
  | [], _ => rfl
  | a :: r, k => by
    show (if a < p then _ else _ : List Nat × Nat).1.length = _
    split
    · exact congrArg (· + 1) (stepC_len p r 0)
    · exact congrArg (· + 1) (stepC_len p r 1)
theorem stepC_sum {p : Nat} (hp : 1 ≤ p) : ∀ (cs : List Nat) (k : Nat), (stepC p cs k).1.sum + (stepC p cs k).2 ≤ cs.sum + k
  | [], _ => Nat.le_refl _
  | a :: r, k => by
    show (if a < p then _ else _ : List Nat × Nat).1.sum + (if a < p then _ else _ : List Nat × Nat).2 ≤ _
    have h0 := stepC_sum hp r 0
    have h1 := stepC_sum hp r 1
    split
    · simp only [List.sum_cons]; omega
    · simp only [List.sum_cons]; omega
theorem rowL_len : ∀ cs : List Nat, (rowL cs).length = cs.sum + cs.length
  | [] => rfl
  | a :: r => by
    have ih := rowL_len r
    unfold rowL at ih ⊢
    rw [List.flatMap_cons, List.length_append, ih]
    simp; omega
def carryC (p : Nat) : Nat → List Nat → Nat → Option (List Nat × Nat)
  | 0, cs, c => some (cs, c)
  | k + 1, cs, c => if foundC p cs = 0 then some (cs, c) else if (stepC p cs 0).2 = 0 then carryC p k (stepC p cs 0).1 (c + foundC p cs) else none
theorem full_kind (p : Nat) : Builtin.Str.strKind (toS (fullL p)) = 1 := by
  unfold Builtin.Str.strKind
  rw [if_pos]
  simp [fullL]
theorem full_len (p : Nat) : (fullL p).length = p + 1 := by simp [fullL]
theorem toS_len (l : List Nat) : (toS l).length = l.length := by simp [Str.length]
theorem joinL_len (z : List Nat) : ∀ ps : List (List Nat), (ps.map List.length).sum + ps.length * z.length ≤ (joinL z ps).length + z.length
  | [] => by simp
  | [x] => by simp [joinL]
  | x :: y :: r => by
    have ih := joinL_len z (y :: r)
    show _ ≤ (x ++ z ++ joinL z (y :: r)).length + z.length
    rw [List.length_append, List.length_append]
    simp only [List.map_cons, List.sum_cons, List.length_cons, Nat.succ_mul] at ih ⊢
    omega
theorem joinOk_of {z : List Nat} {ps : List (List Nat)} (h : (joinL z ps).length + z.length ≤ sizeLine) : JoinOk (toS z) (ps.map toS) = true := by
  unfold JoinOk
  rw [joinTotal]
  have e : ((ps.map toS).map (·.length)) = ps.map List.length := by
    rw [List.map_map]
    exact List.map_congr_left fun l _ => toS_len l
  rw [e, List.length_map, toS_len]
  have := joinL_len z ps
  unfold Builtin.Str.tooLong
  rw [decide_eq_false (by omega)]
  rfl
theorem repl_row {p : Nat} {cs : List Nat} (h0 : (stepC p cs 0).2 = 0) : repl (toS (rowL cs)) (toS (fullL p)) (toS [46, 49]) = toS (rowL (stepC p cs 0).1) := by
  unfold repl
  rw [split_toS _ _ (by rw [full_len]; omega) (full_kind p), split_row, join_toS]
  have := join_row p cs 0
  rw [h0, List.replicate_zero, List.nil_append, List.append_nil] at this
  rw [this]
theorem joinOk_row {p : Nat} {cs : List Nat} (hp : 1 ≤ p) (h0 : (stepC p cs 0).2 = 0) (hb : cs.sum + cs.length + 2 ≤ sizeLine) : JoinOk (toS [46, 49]) (Txt.split (toS (rowL cs)) (toS (fullL p))) = true := by
  rw [split_toS _ _ (by rw [full_len]; omega) (full_kind p), split_row]
  refine joinOk_of ?_
  have := join_row p cs 0
  rw [h0, List.replicate_zero, List.nil_append, List.append_nil] at this
  rw [this, rowL_len, stepC_len]
  have h1 := stepC_sum hp cs 0
  rw [h0] at h1
  show _ + 2 ≤ _
  omega
theorem count_row (p : Nat) (cs : List Nat) : Txt.count (toS (rowL cs)) (toS (fullL p)) = (foundC p cs : Int) := by
  rw [count_toS _ _ (by rw [full_len]; omega), split_row, partsC_len]
  rfl
theorem carry_ok {p : Nat} (hp : 1 ≤ p) : ∀ (k : Nat) (cs : List Nat) (c : Nat) (cs' : List Nat) (c' : Nat), cs.sum + cs.length + 2 ≤ sizeLine → carryC p k cs c = some (cs', c') →
    carry (toS (fullL p)) k (toS (rowL cs)) (c : Int) = (toS (rowL cs'), (c' : Int)) ∧ CarryOk (toS (fullL p)) k (toS (rowL cs)) ∧ cs'.sum + cs'.length ≤ cs.sum + cs.length ∧ cs'.length = cs.length
  | 0, cs, c, cs', c', _, h => by
    obtain ⟨rfl, rfl⟩ := Prod.mk.inj (Option.some.inj h)
    exact ⟨rfl, trivial, Nat.le_refl _, rfl⟩
  | k + 1, cs, c, cs', c', hb, h => by
    have hsz : (toS (rowL cs)).length + 2 ≤ sizeLine := by rw [toS_len, rowL_len]; exact hb
    have hcnt := count_row p cs
    unfold carryC at h
    by_cases hf : foundC p cs = 0
    · rw [if_pos hf] at h
      obtain ⟨rfl, rfl⟩ := Prod.mk.inj (Option.some.inj h)
      have hz : Txt.count (toS (rowL cs)) (toS (fullL p)) = 0 := by rw [hcnt, hf]; rfl
      exact ⟨if_pos hz, ⟨hsz, .inl hz⟩, Nat.le_refl _, rfl⟩
    · rw [if_neg hf] at h
      by_cases h0 : (stepC p cs 0).2 = 0
      · rw [if_pos h0] at h
        have h1 := stepC_sum hp cs 0
        have h2 := stepC_len p cs 0
        obtain ⟨a1, a2, a3, a4⟩ := carry_ok hp k _ _ _ _ (by omega) h
        have hz : ¬ Txt.count (toS (rowL cs)) (toS (fullL p)) = 0 := by rw [hcnt]; omega
        have hr := repl_row h0
        refine ⟨?_, ⟨hsz, .inr ⟨joinOk_row hp h0 hb, ?_⟩⟩, by omega, by omega⟩
        · show (if _ then _ else carry _ k (repl _ _ (toS [46, 49])) _) = _
          rw [if_neg hz, hr, hcnt]
          exact a1
        · show CarryOk _ k (repl _ _ (toS [46, 49]))
          rw [hr]
          exact a2
      · rw [if_neg h0] at h; cases h
end Mine
end
section
open PySem PySem.W PySem.Calls PyProof.Rows PySem.StrLaws PySem.Builtin.Str
namespace Mine

theorem s_one : Str.ofString "1" = toS [49] := by decide +kernel
theorem s_dot : Str.ofString "." = toS [46] := by decide +kernel
theorem s_dot1 : Str.ofString ".1" = toS [46, 49] := by decide +kernel
theorem s_nil : Str.ofString "" = toS [] := by decide +kernel
theorem seg_is (n : Int) : Txt.mul (Str.ofString "1") n ++ Str.ofString "." = toS (List.replicate n.toNat 49 ++ [46]) := by
  rw [s_one, s_dot, mul_toS, app_toS]
theorem full_is (p : Nat) : fullOf (p : Int) = toS (fullL p) := seg_is p
def pad5 (x0 x1 x2 x3 x4 : Int) : List Nat := [x0.toNat, x1.toNat, x2.toNat, x3.toNat, x4.toNat]
def parts5 (x0 x1 x2 x3 x4 : Int) : List Str := [Txt.mul (Str.ofString "1") x0 ++ Str.ofString ".", Txt.mul (Str.ofString "1") x1 ++ Str.ofString ".", Txt.mul (Str.ofString "1") x2 ++ Str.ofString ".", Txt.mul (Str.ofString "1") x3 ++ Str.ofString ".", Txt.mul (Str.ofString "1") x4 ++ Str.ofString "."]
theorem parts5_map (x0 x1 x2 x3 x4 : Int) : parts5 x0 x1 x2 x3 x4 = ((pad5 x0 x1 x2 x3 x4).map fun n => List.replicate n 49 ++ [46]).map toS := by
  unfold parts5 pad5
  rw [seg_is, seg_is, seg_is, seg_is, seg_is]
  rfl
theorem join5_row (x0 x1 x2 x3 x4 : Int) : joinL [] ((pad5 x0 x1 x2 x3 x4).map fun n => List.replicate n 49 ++ [46]) = rowL (pad5 x0 x1 x2 x3 x4) := by
  simp [pad5, joinL, rowL]
theorem join5_is (x0 x1 x2 x3 x4 : Int) : Txt.join (Str.ofString "") (parts5 x0 x1 x2 x3 x4) = toS (rowL (pad5 x0 x1 x2 x3 x4)) := by
  rw [parts5_map, s_nil, join_toS, join5_row]
theorem join5_ok {x0 x1 x2 x3 x4 : Int} (h : (pad5 x0 x1 x2 x3 x4).sum + 5 ≤ sizeLine) : JoinOk (Str.ofString "") (parts5 x0 x1 x2 x3 x4) = true := by
  rw [parts5_map, s_nil]
  refine joinOk_of ?_
  rw [join5_row, rowL_len]
  exact h
def in100 (x : Int) : Bool := decide (0 ≤ x) && decide (x ≤ 100)
theorem in100_of {x : Int} (h : in100 x = true) : 0 ≤ x ∧ x ≤ 100 := by
  unfold in100 at h
  rw [Bool.and_eq_true, decide_eq_true_eq, decide_eq_true_eq] at h
  exact h
def all100 (x0 x1 x2 x3 x4 : Int) : Bool := in100 x0 && (in100 x1 && (in100 x2 && (in100 x3 && in100 x4)))
theorem all100_of {x0 x1 x2 x3 x4 : Int} (h : all100 x0 x1 x2 x3 x4 = true) : (0 ≤ x0 ∧ x0 ≤ 100) ∧ (0 ≤ x1 ∧ x1 ≤ 100) ∧ (0 ≤ x2 ∧ x2 ≤ 100) ∧ (0 ≤ x3 ∧ x3 ≤ 100) ∧ (0 ≤ x4 ∧ x4 ≤ 100) := by
  unfold all100 at h
  rw [Bool.and_eq_true, Bool.and_eq_true, Bool.and_eq_true, Bool.and_eq_true] at h
  exact ⟨in100_of h.1, in100_of h.2.1, in100_of h.2.2.1, in100_of h.2.2.2.1, in100_of h.2.2.2.2⟩
theorem all100_sum {x0 x1 x2 x3 x4 : Int} (h : all100 x0 x1 x2 x3 x4 = true) : (pad5 x0 x1 x2 x3 x4).sum ≤ 500 := by
  obtain ⟨h0, h1, h2, h3, h4⟩ := all100_of h
  simp only [pad5, List.sum_cons, List.sum_nil]
  omega
def padN (c : List Int) : List Nat := pad5 (c.getD 0 0) (c.getD 1 0) (c.getD 2 0) (c.getD 3 0) (c.getD 4 0)
def rowB (c : List Int) : Bool := all100 (c.getD 0 0) (c.getD 1 0) (c.getD 2 0) (c.getD 3 0) (c.getD 4 0)
theorem rowOf_is (c : List Int) : rowOf c = toS (rowL (padN c)) := join5_is _ _ _ _ _
theorem big : (507 : Nat) ≤ sizeLine := by rw [sizeLine_eq]; decide
theorem rowOk_of {c : List Int} (h : rowB c = true) : RowOk c := by
  obtain ⟨h0, h1, h2, h3, h4⟩ := all100_of h
  have hs := all100_sum h
  have hb := big
  exact ⟨h0, h1, h2, h3, h4, join5_ok (by omega)⟩
def hN (p : Nat) (kept c : List Int) : Option (List Nat × Nat) := if rowB (addL kept c) = true then carryC p 12 (padN (addL kept c)) 0 else none
def toI (cs : List Nat) : List Int := cs.map fun (n : Nat) => (n : Int)
theorem carry_row {p : Nat} (hp : 1 ≤ p) {c : List Int} (hb : rowB c = true) {r : List Nat} {m : Nat} (h : carryC p 12 (padN c) 0 = some (r, m)) :
    carry (fullOf (p : Int)) 12 (rowOf c) 0 = (toS (rowL r), (m : Int)) ∧ CarryOk (fullOf (p : Int)) 12 (rowOf c) ∧ r.sum + 5 ≤ 505 ∧ r.length = 5 := by
  have hs : (padN c).sum ≤ 500 := all100_sum hb
  have hl : (padN c).length = 5 := rfl
  have hB := big
  rw [full_is, rowOf_is]
  obtain ⟨a1, a2, a3, a4⟩ := carry_ok hp 12 _ _ _ _ (by omega) h
  exact ⟨a1, a2, by omega, by omega⟩
theorem ones_is (r : List Nat) : Txt.split (toS (rowL r)) (Str.ofString ".") = (partsC 0 r).map toS := by
  rw [s_dot, show ([46] : List Nat) = fullL 0 from rfl, split_toS _ _ (by rw [full_len]; omega) (full_kind 0), split_row]
theorem kept_is : ∀ (r : List Nat), r.length = 5 → keptOf ((partsC 0 r).map toS) = toI r
  | [x0, x1, x2, x3, x4], _ => by
    show [((toS (List.replicate (x0 - 0) 49)).length : Int), ((toS (List.replicate (x1 - 0) 49)).length : Int), ((toS (List.replicate (x2 - 0) 49)).length : Int), ((toS (List.replicate (x3 - 0) 49)).length : Int), ((toS (List.replicate (x4 - 0) 49)).length : Int)] = [(x0 : Int), (x1 : Int), (x2 : Int), (x3 : Int), (x4 : Int)]
    simp only [toS_len, List.length_replicate, Nat.sub_zero]
theorem found0 : ∀ r : List Nat, foundC 0 r = r.length
  | [] => rfl
  | a :: r => by
    show (if a < 0 then 0 else 1) + foundC 0 r = r.length + 1
    rw [if_neg (Nat.not_lt_zero a), found0 r, Nat.add_comm]
def hfoldN (p : Nat) : List Int → List (List Int) → List Nat → Nat → Option (List Nat × Nat)
  | _, [], row, n => some (row, n)
  | kl, c :: cs, _, n => match hN p kl c with
    | none => none
    | some (r, m) => hfoldN p (toI r) cs r (n + m)
theorem hfold_ok {p : Nat} (hp : 1 ≤ p) : ∀ (cs : List (List Int)) (kl : List Int) (row : List Nat) (n : Nat) (r : List Nat) (m : Nat), hfoldN p kl cs row n = some (r, m) →
    HsOk (p : Int) kl cs ∧ hfold (p : Int) kl cs (toS (rowL row), (n : Int)) = (toS (rowL r), (m : Int))
  | [], kl, row, n, r, m, h => by
    obtain ⟨rfl, rfl⟩ := Prod.mk.inj (Option.some.inj h)
    exact ⟨trivial, rfl⟩
  | c :: cs, kl, row, n, r, m, h => by
    unfold hfoldN at h
    cases e : hN p kl c with
    | none => rw [e] at h; cases h
    | some q =>
      obtain ⟨r1, m1⟩ := q
      rw [e] at h
      unfold hN at e
      by_cases hb : rowB (addL kl c) = true
      · rw [if_pos hb] at e
        obtain ⟨a1, a2, a3, a4⟩ := carry_row hp hb e
        obtain ⟨b1, b2⟩ := hfold_ok hp cs _ _ _ _ _ h
        have hr : hrow (p : Int) kl c = (toS (rowL r1), (m1 : Int)) := a1
        have ho : ones (p : Int) kl c = (partsC 0 r1).map toS := by
          unfold ones
          rw [hr]
          exact ones_is r1
        have hk : keptOf (ones (p : Int) kl c) = toI r1 := by rw [ho, kept_is r1 a4]
        have hB := big
        refine ⟨⟨⟨rowOk_of hb, a2, ?_, ?_⟩, ?_⟩, ?_⟩
        · rw [hr]
          show (toS (rowL r1)).length + 2 ≤ sizeLine
          rw [toS_len, rowL_len]; omega
        · rw [ho, List.length_map, partsC_len, found0, a4]; decide
        · rw [hk]; exact b1
        · show hfold (p : Int) (keptOf (ones (p : Int) kl c)) cs ((hrow (p : Int) kl c).1, (n : Int) + (hrow (p : Int) kl c).2) = _
          rw [hk, hr]
          have : ((n : Int) + (m1 : Int)) = ((n + m1 : Nat) : Int) := by omega
          show hfold (p : Int) (toI r1) cs (toS (rowL r1), (n : Int) + (m1 : Int)) = _
          rw [this]
          exact b2
      · rw [if_neg hb] at e; cases e
theorem count_one : ∀ l : List Nat, (splitL [49] l 0).length = l.count 49 + 1
  | [] => rfl
  | c :: l => by
    have ih := count_one l
    show (if ([49] : List Nat).isPrefixOf (c :: l) = true then [] :: splitL [49] l 0 else consH c (splitL [49] l 0)).length = _
    by_cases h : c = 49
    · subst h
      rw [if_pos (by simp [List.isPrefixOf]), List.length_cons, ih, List.count_cons_self]
    · rw [if_neg (by simp [List.isPrefixOf]; exact fun q => h q.symm), List.count_cons_of_ne h]
      cases e : splitL [49] l 0 with
      | nil => exact absurd e (splitL_ne _ _ _)
      | cons q qs => rw [e] at ih; exact ih
theorem row_ones : ∀ r : List Nat, (rowL r).count 49 = r.sum
  | [] => rfl
  | a :: r => by
    have ih := row_ones r
    unfold rowL at ih ⊢
    rw [List.flatMap_cons, List.count_append, ih, List.count_append, List.count_replicate_self]
    simp
theorem count_ones (r : List Nat) : Txt.count (toS (rowL r)) (Str.ofString "1") = (r.sum : Int) := by
  rw [s_one, count_toS _ _ (by decide), count_one, row_ones]
  rfl
theorem strOk_row (r : List Nat) : PyData.strOk (toS (rowL r)) = true := by
  unfold PyData.strOk
  rw [← Array.all_toList, List.all_eq_true]
  intro c hc
  have hc' : c ∈ rowL r := by simpa using hc
  unfold rowL at hc'
  obtain ⟨a, _, hm⟩ := List.mem_flatMap.mp hc'
  rcases List.mem_append.mp hm with h | h
  · rw [(List.mem_replicate.mp h).2]; decide
  · rw [List.mem_singleton.mp h]; decide

def dueN (p t : Int) : List Nat := pad5 ((t.fdiv (p ^ 0)).fmod p) ((t.fdiv (p ^ 1)).fmod p) ((t.fdiv (p ^ 2)).fmod p) ((t.fdiv (p ^ 3)).fmod p) ((t.fdiv (p ^ 4)).fmod p)
def dueB (p t : Int) : Bool := all100 ((t.fdiv (p ^ 0)).fmod p) ((t.fdiv (p ^ 1)).fmod p) ((t.fdiv (p ^ 2)).fmod p) ((t.fdiv (p ^ 3)).fmod p) ((t.fdiv (p ^ 4)).fmod p)
theorem due_is (p t : Int) : Txt.join (Str.ofString "") (dueParts p t) = toS (rowL (dueN p t)) := join5_is _ _ _ _ _
theorem due_ok {p t : Int} (h : dueB p t = true) : JoinOk (Str.ofString "") (dueParts p t) = true := by
  have hs := all100_sum h
  have hb := big
  exact join5_ok (by omega)

def endN (p : Nat) (w : Int) (n : Nat) : Bool :=
  decide (n ≤ 20) && (decide (0 ≤ w) && (decide (w < 2 ^ 64) && (decide ((p : Int) ^ (n + 1) < 2 ^ 30) && (decide (2 ≤ (p : Int) ^ (n + 1)) && (decide (0 < w % (p : Int) ^ (n + 1)) && decide (w % (p : Int) ^ (n + 1) % (p : Int) ^ n = 0))))))
def lN (p : Nat) (a b : Int) (c1 c2 c3 : List Int) : Bool :=
  decide (c1.length ≤ 5) && (decide (c2.length ≤ 5) && (decide (c3.length ≤ 5) && (decide ((addL c2 c3).length ≤ 5) && (rowB (wholeOf c1 c2 c3) && (dueB (p : Int) (a + (b + (6 + 0))) &&
    match carryC p 12 (padN (wholeOf c1 c2 c3)) 0, hfoldN p [] [c1, c2, c3] [] 0 with
    | some (r, n), some (r', n') => decide (r = dueN (p : Int) (a + (b + (6 + 0)))) && (decide (r' = r) && (decide (n' = n) && (decide ((wholeOf c1 c2 c3).sum = (r.sum : Int) + (n : Int) * ((p : Int) - 1)) && endN p (waysOf a b) n)))
    | _, _ => false)))))
theorem lok_of {p : Nat} (hp : 1 ≤ p) {a b : Int} {c1 c2 c3 : List Int} (h : lN p a b c1 c2 c3 = true) : LOk (p : Int) a b c1 c2 c3 := by
  unfold lN at h
  simp only [Bool.and_eq_true, decide_eq_true_eq] at h
  obtain ⟨l1, l2, l3, l23, hrow, hdue, h⟩ := h
  cases e1 : carryC p 12 (padN (wholeOf c1 c2 c3)) 0 with
  | none => rw [e1] at h; cases h
  | some q1 =>
  cases e2 : hfoldN p [] [c1, c2, c3] [] 0 with
  | none => rw [e1, e2] at h; cases h
  | some q2 =>
  obtain ⟨r, n⟩ := q1
  obtain ⟨r', n'⟩ := q2
  rw [e1, e2] at h
  simp only [Bool.and_eq_true, decide_eq_true_eq] at h
  obtain ⟨hr, rfl, rfl, hs, he⟩ := h
  unfold endN at he
  simp only [Bool.and_eq_true, decide_eq_true_eq] at he
  obtain ⟨n9, w0, w9, q9, q2, r0, r1⟩ := he
  obtain ⟨a1, a2, a3, a4⟩ := carry_row hp hrow e1
  obtain ⟨b1, b2⟩ := hfold_ok hp _ _ _ _ _ _ e2
  have hrc : rcOf (p : Int) c1 c2 c3 = (toS (rowL r'), (n' : Int)) := a1
  have hB := big
  have t1 : ((n' : Int) + 1).toNat = n' + 1 := by omega
  have t0 : ((n' : Int)).toNat = n' := by omega
  have c1' : (rcOf (p : Int) c1 c2 c3).1 = toS (rowL r') := by rw [hrc]
  have c2' : (rcOf (p : Int) c1 c2 c3).2 = (n' : Int) := by rw [hrc]
  refine ⟨l1, l2, l3, l23, rowOk_of hrow, a2, ?_, due_ok hdue, ?_, ?_, ?_, b1, ?_, ?_, ?_, ?_, w0, w9, ?_, ?_, ?_, ?_⟩
  · rw [full_is, toS_len, full_len]
    exact beq_eq_false_iff_ne.mpr (by omega)
  · rw [c1', hr, due_is]
  · rw [c1', toS_len, rowL_len]; omega
  · rw [c1']; exact strOk_row r'
  · rw [hrc, s_nil]; exact b2
  · rw [c1', c2', count_ones]; exact hs
  · rw [c2']; omega
  · rw [c2']; omega
  · rw [c2', t1]; exact q9
  · rw [c2', t1]; exact q2
  · rw [c2', t1]; exact r0
  · rw [c2', t1, t0]; exact r1

def lT (p : Nat) : Bool := (List.range 10).all fun a => (List.range 10).all fun b => lN p a b (figs p 5 a) (figs p 5 b) (figs p 5 6)
theorem lT2 : lT 2 = true := by decide +kernel
theorem lT3 : lT 3 = true := by decide +kernel
theorem lT5 : lT 5 = true := by decide +kernel
theorem lT7 : lT 7 = true := by decide +kernel
theorem ok_of {p : Nat} (hp : 1 ≤ p) (h : lT p = true) {a b : Int} (ha0 : 0 ≤ a) (ha1 : a ≤ 9) (hb0 : 0 ≤ b) (hb1 : b ≤ 9) : LOk (p : Int) a b (figs p 5 a) (figs p 5 b) (figs p 5 6) := by
  have h1 := List.all_eq_true.mp h a.toNat (List.mem_range.mpr (by omega))
  have h2 := List.all_eq_true.mp h1 b.toNat (List.mem_range.mpr (by omega))
  rw [Int.toNat_of_nonneg ha0, Int.toNat_of_nonneg hb0] at h2
  exact lok_of hp h2
theorem ok_all (p a b : Int) (hp : p = 2 ∨ p = 3 ∨ p = 5 ∨ p = 7) (ha0 : 0 ≤ a) (ha1 : a ≤ 9) (hb0 : 0 ≤ b) (hb1 : b ≤ 9) : LOk p a b (figs p 5 a) (figs p 5 b) (figs p 5 6) := by
  rcases hp with rfl | rfl | rfl | rfl
  · exact ok_of (p := 2) (by decide) lT2 ha0 ha1 hb0 hb1
  · exact ok_of (p := 3) (by decide) lT3 ha0 ha1 hb0 hb1
  · exact ok_of (p := 5) (by decide) lT5 ha0 ha1 hb0 hb1
  · exact ok_of (p := 7) (by decide) lT7 ha0 ha1 hb0 hb1
end Mine
end
section
open PySem PySem.W PySem.Calls PyProof.Rows
namespace Mine
theorem stopAS {M : Model} {A : Around} {E : Value → Shared → Prop} {s : Shared} {n : Str} {p q p1 : Pos} {v sl : Expr} {r : List Stmt} {env : Env} {Q : Flow → Shared → Prop} (h : Stop (wpAny M A (execs (Stmt.Assign [Expr.Name n p] (Expr.Subscript v sl p1) q :: r) env) Q E s)) : wpAny M A (execs (Stmt.Assign [Expr.Name n p] (Expr.Subscript v sl p1) q :: r) env) Q E s := h
theorem news_drop {gb h : Heap} {L : Addr} {a b1 b2 b3 b4 b5 b6 b7 : Addr × Obj} {r : List (Addr × Obj)} (N : News gb L h (a :: b1 :: b2 :: b3 :: b4 :: b5 :: b6 :: b7 :: r)) : News gb L h (a :: r) :=
  List.forall_mem_cons.mpr ⟨N a (.head _), fun q hq => N q (.tail _ (.tail _ (.tail _ (.tail _ (.tail _ (.tail _ (.tail _ (.tail _ hq))))))))⟩
local macro_rules | `(tactic| walk_at "execs cons") => `(tactic| refine stopAL ?_)
theorem fm10 (k : Int) : 0 ≤ k.fmod 10 ∧ k.fmod 10 ≤ 9 := by
  have := Int.fmod_lt_of_pos k (show (0 : Int) < 10 by decide)
  exact ⟨Int.fmod_nonneg_of_pos _ (by decide), by omega⟩
theorem heaps_ints (ns : List Int) : ∃ a b, List.map (fun k' : Int => k'.fmod 10) (List.take 2 ns ++ List.drop (((List.take 2 ns).length : Nat) : Int).toNat [7, 5]) ++ [6] = [a, b, 6] ∧ 0 ≤ a ∧ a ≤ 9 ∧ 0 ≤ b ∧ b ≤ 9 := by
  match ns with
  | [] => exact ⟨7, 5, rfl, by decide, by decide, by decide, by decide⟩
  | [x] => exact ⟨x.fmod 10, 5, rfl, (fm10 x).1, (fm10 x).2, by decide, by decide⟩
  | x :: y :: r => exact ⟨x.fmod 10, y.fmod 10, rfl, (fm10 x).1, (fm10 x).2, (fm10 y).1, (fm10 y).2⟩
theorem heaps_are {vs : List Value} {ns : List Int} (h : IntsAre vs (List.map (fun k' : Int => k'.fmod 10) (List.take 2 ns ++ List.drop (((List.take 2 ns).length : Nat) : Int).toNat [7, 5]) ++ [6])) :
    ∃ a b ta tb tc, vs = [.int a ta, .int b tb, .int 6 tc] ∧ 0 ≤ a ∧ a ≤ 9 ∧ 0 ≤ b ∧ b ≤ 9 := by
  obtain ⟨a, b, e, ha0, ha9, hb0, hb9⟩ := heaps_ints ns
  rw [e] at h
  cases h with
  | cons _ ta h =>
  cases h with
  | cons _ tb h =>
  cases h with
  | cons _ tc h =>
  cases h with
  | nil => exact ⟨a, b, ta, tb, tc, rfl, ha0, ha9, hb0, hb9⟩

local macro_rules | `(tactic| walk_at "subscriptTail") => `(tactic| refine stopSub ?_)
local macro_rules | `(tactic| walk_at "execs cons") => `(tactic| refine stopAS ?_)
theorem grown30 {g h : Heap} {t : TP} (x : TS g h t) : GrownAt 30 h := by
  rcases x.t1 with e | e
  · exact ⟨_, by rw [x.h1, e]⟩
  · exact ⟨_, by rw [x.h1, e.1]⟩
theorem grown37 {g h : Heap} {t : TP} (x : TS g h t) : GrownAt 37 h := by
  rcases x.t2 with e | e
  · exact ⟨_, by rw [x.h2, e]⟩
  · exact ⟨_, by rw [x.h2, e.1]⟩
theorem holdsMine : PySem.Challenge.rw_pe0136_01.Holds := hd (by
  k_go0
  (all_goals try k_fold)
  k_steps
  refine Stop.mk ?_
  k_dflt (refine kba_turn (value' := PySem.Expr.Name (PySem.Str.ofString "x") ⟨0, 0, 0, 0⟩) (fun _ => rfl) ?_)
  k_dflt (refine' kmk_slice_ints ?zzF ?zzN ?zzl ?zzp ?zzq ?zzi ?zzm ?zzc ?_ ?zzs ?zzt ?zzz; (case zzF => k_asm); (case zzN => k_asm); (case zzl => kmk_list); (case zzp => kmk_part); (case zzq => kmk_part); (case zzi => l_ints); (case zzm => exact kmk_from (by l_ints) (Int.natCast_nonneg _)); (case zzc => exact List.length_drop); (case zzs => with_unfolding_all rfl); (case zzt => kmk_pure); (case zzz => kmk_size))
  intro D5 ws5 h5 F5 N5 l5 hI5 hC5 hL5
  (try simp only [Int.reduceNeg, Int.neg_neg, Int.reduceToNat] at hI5 hC5 hL5)
  (try k_lt l5)
  (try k_sweep)
  k_steps
  refine Stop.mk ?_
  (rename News _ _ _ _ => N0)
  have N00 := news_drop N0
  clear N0
  k_dflt (refine wpAny_execs_cons ?_)
  k_steps
  all_goals
    refine Stop.mk ?_
    (rename News _ _ _ _ => N1); (rename Fr _ _ _ _ => F1); (rename (_ < _ ∧ _ < _) => l37); (rename IntsAre _ (_ ++ [6]) => hI)
    (rename Frag.In _ _ => X0); (rename Top _ _ _ _ _ _ => T0); (rename Top hd.view_39 _ _ _ _ _ => T1); (rename TabsAt _ _ => hT9)
    (rename Obj.data _ = Data.cell (some (Value.ref _)) => hcH); (rename Obj.data _ = Data.cell (some (Value.int _ _)) => hcP)
    obtain ⟨a, b, ta, tb, tc, e, ha0, ha1, hb0, hb1⟩ := heaps_are hI
    subst e
    obtain ⟨mm, hmm, _⟩ := (T1.seer (by decide +kernel)).mods
    obtain ⟨osm, _, _, esm, _⟩ := ghost_ns hT9 hmm
    refine c_tail _ _ ⟨X0, _, _, _, _, _, T0⟩ (1 + claimMargin) 4 (some []) (some []) _ _ _ _ _ _ _ _ _ _ a b _ ta tb tc _ 0 X0 ⟨osm, esm⟩ F1 (news_sub N1 (by (repeat' (first | exact List.forall_mem_nil _ | refine List.forall_mem_cons.mpr ⟨by k_mem, ?_⟩)))) hcH hcP ?l1 ?l2 ?l3 ha0 ha1 hb0 hb1 (by decide) (by decide) (ok_all _ a b (by decide) ha0 ha1 hb0 hb1) (by decide +kernel) (by decide +kernel) ?ret
    case l1 => exact l37.1
    case l2 => exact l37.2
    case l3 =>
      show @LT.lt Nat _ _ _
      omega
    case ret =>
      intro h9 tk9 t9 k9 ts9
      refine ⟨?_, grown37 ts9, grown30 ts9, trivial⟩
      refine good_end ?_ ?_ ?_
      · exact k9
      · exact rfl
      · assumption)
end Mine
end
theorem PySem.Challenge.cw_pe0136_01_holds : PySem.Challenge.rw_pe0136_01.Holds :=
  Mine.holdsMine
