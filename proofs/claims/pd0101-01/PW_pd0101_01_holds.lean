import PyProof.Rows.All
import Wide.All
import OpenK.AllK
import Wide.FinOn
import PySem.Challenge.RW_pd0101_01
open PySem PySem.W PySem.Calls PyProof.Rows
set_option Elab.async false
set_option compiler.extract_closed false
set_option maxRecDepth 100000
set_option maxHeartbeats 8000000
set_option linter.unusedVariables false
set_option linter.unusedSectionVars false
namespace Mine
def cAt (n : Nat) : Stmt := PySem.Challenge.pw_pd0101_01.main.body.getD n (.Pass ⟨0, 0, 0, 0⟩)
def c0 : Stmt := cAt 0
def c1 : Stmt := cAt 1
def c2 : Stmt := cAt 2
def c3 : Stmt := cAt 3
def c4 : Stmt := cAt 4
def c5 : Stmt := cAt 5
def c6 : Stmt := cAt 6
def c7 : Stmt := cAt 7
def c8 : Stmt := cAt 8
def c9 : Stmt := cAt 9
def c10 : Stmt := cAt 10
def c11 : Stmt := cAt 11
def c12 : Stmt := cAt 12
def c13 : Stmt := cAt 13
def c14 : Stmt := cAt 14
def c15 : Stmt := cAt 15
def c16 : Stmt := cAt 16
def c17 : Stmt := cAt 17
def c18 : Stmt := cAt 18
def c19 : Stmt := cAt 19
def c20 : Stmt := cAt 20
def c21 : Stmt := cAt 21
def c22 : Stmt := cAt 22
def c23 : Stmt := cAt 23
def c24 : Stmt := cAt 24
def c25 : Stmt := cAt 25
def pw : Program := { PySem.Challenge.pw_pd0101_01 with main := { PySem.Challenge.pw_pd0101_01.main with body := [c0, c1, c2, c3, c4, c5, c6, c7, c8, c9, c10, c11, c12, c13, c14, c15, c16, c17, c18, c19, c20, c21, c22, c23, c24, c25] } }
def rw : OpenLaw := { PySem.Challenge.rw_pd0101_01 with prog := pw }
theorem rw_same : rw = PySem.Challenge.rw_pd0101_01 := by rfl
open_top hd for Mine.rw
local macro_rules | `(tactic| walk_at $s:str) => do `(tactic| k_extra $(Lean.Syntax.mkStrLit ("m " ++ s.getString)))
local macro_rules | `(tactic| k_ne) => `(tactic| walk_at "ne")
section
theorem om0 {x b c : Nat} (h : x + b < c) : x < c := Nat.lt_of_le_of_lt (Nat.le_add_right x b) h
theorem om1 {x a b c : Nat} (h : x + b < c) (q : a ≤ b) : x + a < c := Nat.lt_of_le_of_lt (Nat.add_le_add_left q x) h
theorem om2 {x a b c k : Nat} (h : x + b < c) (q : k + a ≤ b) : x + k + a < c := by rw [Nat.add_assoc]; exact om1 h q
theorem om3 {x m : Nat} {n : Int} (h : x ≤ m) (q : (m : Int) < n) : (x : Int) < n := Int.lt_of_le_of_lt (Int.ofNat_le.mpr h) q
theorem om4 {x m n : Nat} (h : x ≤ m) (q : m < n) : x < n := Nat.lt_of_le_of_lt h q
theorem om7 {x y m : Nat} (h : x < y) (q : y ≤ m) : x < m := Nat.lt_of_lt_of_le h q
theorem om8 {x y m : Nat} (h : x ≤ y) (q : y < m) : x < m := Nat.lt_of_le_of_lt h q
theorem om9 {x y m : Nat} (h : x < y) (q : y ≤ m) : x ≤ m := Nat.le_trans (Nat.le_of_lt h) q
theorem om10 {i xs m : Nat} {n : Int} (h : i < xs) (g : xs ≤ m) (q : (m : Int) < n) : (i : Int) < n := om3 (Nat.le_trans (Nat.le_of_lt h) g) q
theorem om11 {x y : Nat} (h : x < y) : (x : Int) < y := Int.ofNat_lt.mpr h
theorem om12 {x y k : Nat} (h : x < y) : x ≠ y + k := Nat.ne_of_lt (Nat.lt_of_lt_of_le h (Nat.le_add_right y k))
theorem om14 {y k : Nat} (h : k ≠ 0) : y ≠ y + k := Nat.ne_of_lt (Nat.lt_add_of_pos_right (Nat.pos_of_ne_zero h))
theorem om15 {y a b : Nat} (h : a ≠ b) : y + a ≠ y + b := fun e => h (Nat.add_left_cancel e)
theorem om16 {x y k : Nat} (h : x < y) : x < y + k := Nat.lt_of_lt_of_le h (Nat.le_add_right y k)
theorem om17 (j : Nat) : (0 : Int) + (j : Int) * 1 = j := by rw [Int.mul_one, Int.zero_add]
theorem om18 {m : Int} {n : Nat} (q : m ≤ 0) : m ≤ n := Int.le_trans q (Int.natCast_nonneg n)
theorem om19 {x : Int} {m n : Int} (h : x < m) (q : m ≤ n) : x < n := Int.lt_of_lt_of_le h q
theorem om20 {x : Int} {m n : Int} (h : m ≤ x) (q : n < m) : n < x := Int.lt_of_lt_of_le q h
theorem om21 {x m n : Nat} (h : x < m) (q : m ≤ n) : x < n := Nat.lt_of_lt_of_le h q
theorem om22 {x k m n : Nat} (h : x ≤ m) (q : m + k ≤ n) : x + k ≤ n := Nat.le_trans (Nat.add_le_add_right h k) q
theorem om23 {x y : Nat} (h : x ≤ y) : x + 1 ≤ y + 1 := Nat.succ_le_succ h
theorem om24 {x y : Nat} (h : x ≤ y) : x ≤ y + 1 := Nat.le_succ_of_le h
theorem om25 {k n m : Nat} (h : n ≤ m) : min k n ≤ m := Nat.le_trans (Nat.min_le_right k n) h
theorem om26 {k n m : Nat} (h : n ≤ m) : n - k ≤ m := Nat.le_trans (Nat.sub_le n k) h
theorem om27 (i j : Nat) : i + (j + 1) = i + 1 + j := by rw [Nat.add_right_comm, Nat.add_assoc]
theorem om28 {i n : Nat} (h : i < n) : i + 1 + (n - (i + 1)) = n := Nat.add_sub_cancel' h
theorem om29 {x m : Int} {n : Nat} (h : (n : Int) < x) (q : x ≤ m) : (n : Int) < m := Int.lt_of_lt_of_le h q
end
section
abbrev Pg : Program := Mine.rw.row.prog

/-- what every heap of the run bears: the written part and the top's facts -/
structure Amb (w : World) (loose : List Str) (mean : ExcName → Option Value) (mg mb : Str → Option Value) (h : Heap) : Prop where
  X : (hd.heap_39 w.params).In h
  T : Top hd.view_39 loose mean mg mb h

section
variable {w : World} {loose : List Str} {mean : ExcName → Option Value} {mg mb : Str → Option Value}
theorem enter {A : Around} {base : Heap} {outer : List Env} {s : Shared} {R : Result → Shared → Prop}
    {name qual : Str} {params : Arguments} {body : List Stmt} {scope : Scope} {dV kV doc pm cdv ct oc : Value} {an od : Option Addr} {osl : Array (Option Value)} {f : Addr} {args : Args} {binds : List (Str × Value)}
    (B : Below A base outer s.heap) (X : (hd.heap_39 w.params).In s.heap) (T : Top hd.view_39 loose mean mg mb s.heap)
    (ho : (hd.heap_39 w.params).lookup f = some ⟨oc, od, .func (fnOf name qual params body scope dV kV doc pm an cdv ct), osl⟩) (hcd : codeIn (hd.heap_39 w.params) cdv qual = true) (hroom : A.depth < recursionLimit)
    (hbind : BindsTo s (fnOf name qual params body scope dV kV doc pm an cdv ct) args binds) (hloc : ∀ y ∈ binds, scope.names.lookup y.1 = some .local)
    (h : ∀ g L h₁, g = s.heap → L = s.heap.objs.size → Fr g L h₁ (fun y => binds.reverse.lookup y) → News g L h₁ [] → Below A base outer g → (hd.heap_39 w.params).In g → Top hd.view_39 loose mean mg mb g →
      wpAny (model Pg w) (A.deeper (envOf qual scope L f cdv)) (execs body (envOf qual scope L f cdv))
        (fun fl s' => R (.ok (.ret (match fl with | .ret v => v | _ => .none))) s')
        (fun e s' => wpAny (model Pg w) (A.deeper (envOf qual scope L f cdv)) (leaving (envOf qual scope L f cdv) e) (fun _ s'' => R (.error e) s'') (fun e' s'' => R (.error e') s'') s')
        { s with heap := h₁, toks := s.toks + binds.length })
    (hcell : ∀ x ∈ scope.names, x.2 ≠ .cell) (hco : scope.isCoroutine = false) (hgen : scope.isGenerator = false) (hk : scope.kind = .function) :
    codeAny (model Pg w) A (.call (.ref f) args) R s := by
  refine codeAny_call_def (fd := fnOf name qual params body scope dV kV doc pm an cdv ct) (body := body) (binds := binds) hroom (X _ _ ho) rfl T.nolimit (codeRec_of X hcd) rfl hbind hcell hloc (fun h₁ hns hk₁ => ?_) hco hgen hk
  exact h s.heap s.heap.objs.size h₁ rfl rfl ⟨hns, hk₁, Nat.le_refl _⟩ (News.nil) B X T
end
end
section
section
variable {prog : Program} {w : World} {A : Around} {E : Value → Shared → Prop} {s : Shared}
theorem sub_str_str : isSubtype (.type "str") (.type "str") = pure true := by rw [isSubtype_type]; kernel_rfl
theorem sub_nested {k : Value} {dep : Int} {tk : Tok} {Q : Fin → Shared → Prop} (hk : k = .int dep tk) (hq : Q (.done (.ret (.bool true))) s) :
    wpAny (model prog w) A (Builtin.«issubclass.nested» ⟨[.type "str", .type "str", k], []⟩) Q E s := by
  subst hk
  have hm : typeOf (.type "str") = pure (.type "type") := by kernel_rfl
  have hself := sub_str_str
  repeat (any_goals (first | assumption | (rw [if_pos hm]) | (rw [hself]) | wp_step))
theorem kind_sub_nested : builtinKind "issubclass.nested" = none := by decide +kernel
theorem plain_sub_nested : plainId "issubclass.nested" = true := by decide +kernel
theorem args_sub_nested (a b c : Value) : argsOk "issubclass.nested" ⟨[a, b, c], []⟩ := by unfold argsOk; kernel_rfl
theorem sub_tuple {tp : Addr} {tk : Tok} {cs : List Value} {Q : Fin → Shared → Prop} (htp : s.heap.get? tp = some { cls := .type "tuple", data := .seq cs.toArray }) (hcs : cs = [.type "str", .type "bytes"])
    (hq : ∀ tk', Q (.done (.ret (.bool true))) { s with toks := tk' }) : wpAny (model prog w) A (Builtin.«issubclass.nested» ⟨[.type "str", .ref tp, .int 0 tk], []⟩) Q E s := by
  obtain ⟨h, g, d, t, os⟩ := s
  have hT2 : (⟨h, g, d, t, os⟩ : Shared).TypeIs (.ref tp) "tuple" := ⟨_, htp, rfl⟩
  have f1 := F.isi_sub_tuple
  repeat (any_goals (first | assumption | wp_step))
  refine wpAny_arrayLoop ?_
  simp only [Option.getD_some, List.toList_toArray]
  subst hcs
  rw [List.forIn_cons]
  refine wpAny_bind (wpAny_bind (call_function_entry kind_sub_nested plain_sub_nested F.entry_issubclass_nested (args_sub_nested _ _ _) ?_))
  refine sub_nested rfl ⟨_, rfl, ?_⟩
  refine wpAny_bind (m := truthy (.bool true)) (wpAny_pure ?_)
  refine wpAny_bind (wpAny_pure (wpAny_pure (wpAny_pure ?_)))
  exact wpAny_pure (hq _)
theorem call_sub_tuple {tp : Addr} {Q : Value → Shared → Prop} (htp : s.heap.get? tp = some { cls := .type "tuple", data := .seq [Value.type "str", Value.type "bytes"].toArray })
    (hq : ∀ tk', Q (.bool true) { s with toks := tk' }) : wpAny (model prog w) A (call (.builtin "issubclass") [.type "str", .ref tp]) Q E s := by
  refine call_issubclass (S := fun _ R s => s.heap.get? tp = some { cls := .type "tuple", data := .seq [Value.type "str", Value.type "bytes"].toArray } ∧ ∀ tk', R (.ok (.ret (.bool true))) { s with toks := tk' }) ?_ ⟨htp, fun tk' => hq tk'⟩
  exact fun _ _ _ _ _ hs => issubclass_outer (sub_tuple hs.1 rfl hs.2)
end
end
section
theorem words_T1_0 : True := by
  k_with_none
  (k_with "m ne" => ((refine neN ?_); (try dsimp only); walk_at "om"))
  (k_with "m om" => (first | with_reducible assumption | exact Nat.le_trans (by with_reducible assumption) (by decide) | exact om4 (by with_reducible assumption) (by decide) | exact om2 (by with_reducible assumption) (by decide) | exact om1 (by with_reducible assumption) (by decide) | exact om0 (by with_reducible assumption) | exact om22 (by with_reducible assumption) (by decide) | exact om18 (by decide) | exact om3 (by with_reducible assumption) (by decide) | exact om10 (by with_reducible assumption) (by with_reducible assumption) (by decide) | exact Ne.symm (by with_reducible assumption) | exact Nat.ne_of_lt (by with_reducible assumption) | exact Nat.ne_of_gt (by with_reducible assumption) | exact om12 (by with_reducible assumption) | exact om14 (by decide) | exact om15 (by decide) | exact om16 (by with_reducible assumption) | exact om17 _ | exact om27 _ _ | exact om28 (by with_reducible assumption) | exact om25 (by with_reducible assumption) | exact om26 (by with_reducible assumption) | exact Nat.succ_le_of_lt (by with_reducible assumption) | exact Nat.lt_of_succ_le (by with_reducible assumption) | exact Nat.sub_succ_lt_self (by with_reducible assumption) | exact Nat.le_antisymm (by with_reducible assumption) (by with_reducible assumption) | exact Nat.le_of_lt (by with_reducible assumption) | exact om11 (by with_reducible assumption) | exact om7 (by with_reducible assumption) (by with_reducible assumption) | exact om8 (by with_reducible assumption) (by with_reducible assumption) | exact om9 (by with_reducible assumption) (by with_reducible assumption) | exact om19 (by with_reducible assumption) (by decide) | exact om20 (by with_reducible assumption) (by decide) | exact om21 (by with_reducible assumption) (by decide) | exact om23 (by with_reducible assumption) | exact om24 (by with_reducible assumption) | exact And.right (by with_reducible assumption) | exact And.left (by with_reducible assumption) | lia | omega))
  trivial
variable {w : World} {loose : List Str} {mean : ExcName → Option Value} {mg mb : Str → Option Value}
theorem words_T1_1 : True := by
  (k_with "m my_fill" => ((have dummy : hd.heap_39 w.params = hd.heap_39 w.params ∧ Mine.rw = Mine.rw := by (k_fill; exact ⟨rfl, rfl⟩)); clear dummy))
  (k_with "m my_end" => ((try dsimp only); (try k_unfold); (try dsimp only)))
  (k_with "m call builtin:issubclass" => (k_here; refine' call_sub_tuple ?zz_k1 ?_; (case zz_k1 => exact News.get (by k_asm) (by k_mem)); intro zz_tk9))
  trivial
theorem getsep {A : Around} {base : Heap} {outer : List Env} {s : Shared} {R : Result → Shared → Prop} {x : Str} {t : Tok}
  (B : Below A base outer s.heap) (X : (hd.heap_39 w.params).In s.heap) (T : Top hd.view_39 loose mean mg mb s.heap) (hdp : A.depth + 10 < recursionLimit) (hun : A.units + 100 < cLine) (hh : A.handled = none)
  (ret : ∀ h' tk t', s.heap.StaysIn h' → R (.ok (.ret (.str (Str.ofString "/") t'))) { s with heap := h', toks := tk }) : codeAny (model Pg w) A (.call (.ref 115) ⟨[.str x t], []⟩) R s := by
  w_on
  walk_at "my_fill"
  refine enter B X T (by k_is) (by k_is) (by walk_at "om") (BindsTo.of_eq rfl) (locs rfl) ?_ (by decide) rfl rfl rfl
  intro g L h₁ eg eL F N B' X' T'
  (try dsimp only)
  k_fold
  k_steps
  walk_at "my_end"
  exact ret _ _ _ (eg ▸ Fr.keep (by assumption))
theorem fspath {A : Around} {base : Heap} {outer : List Env} {s : Shared} {R : Result → Shared → Prop} {x : Str} {t : Tok}
  (B : Below A base outer s.heap) (X : (hd.heap_39 w.params).In s.heap) (T : Top hd.view_39 loose mean mg mb s.heap) (hdp : A.depth + 10 < recursionLimit) (hun : A.units + 100 < cLine) (hh : A.handled = none)
  (ret : ∀ h' tk, s.heap.StaysIn h' → R (.ok (.ret (.str x t))) { s with heap := h', toks := tk }) : codeAny (model Pg w) A (.call (.ref 101) ⟨[.str x t], []⟩) R s := by
  w_on
  walk_at "my_fill"
  refine enter B X T (by k_is) (by k_is) (by walk_at "om") (BindsTo.of_eq rfl) (locs rfl) ?_ (by decide) rfl rfl rfl
  intro g L h₁ eg eL F N B' X' T'
  (try dsimp only)
  k_fold
  k_steps
  walk_at "my_end"
  subst eg
  exact ret _ _  (Fr.keep (by assumption))
end
section
section
variable {w : World} {loose : List Str} {mean : ExcName → Option Value} {mg mb : Str → Option Value} {A A₀ : Around} {base g h h' : Heap} {outer : List Env} {L : Addr} {m : Str → Option Value} {env : Env} {news : List (Addr × Obj)}
theorem bel (B : Below A₀ base outer g) (F : Fr g L h m) (hA : A.frames = some (env :: outer)) (hf : env.frame = some L) (hk : env.scope.kind = .function) : Below A base (env :: outer) h := by
  have B₁ := pushX B F hf hk
  exact ⟨hA, B₁.stays, B₁.frames⟩
theorem frS (F : Fr g L h m) (hs : h.StaysIn h') : Fr g L h' m := ⟨F.ns.keeps hs, fun b o e => hs b o (F.keep b o e), F.above⟩
theorem newsS (N : News g L h news) (hs : h.StaysIn h') : News g L h' news := fun p hp => ⟨hs _ _ (N p hp).1, (N p hp).2⟩
theorem keepX {K : Frag} (X : K.In g) (F : Fr g L h m) : K.In h := Frag.In.keeps X F.keep
end
end
section
theorem words_T2_0 : True := by
  k_with_none
  (k_with "m ne" => ((refine neN ?_); (try dsimp only); walk_at "om"))
  (k_with "m om" => (first | with_reducible assumption | exact Nat.le_trans (by with_reducible assumption) (by decide) | exact om4 (by with_reducible assumption) (by decide) | exact om2 (by with_reducible assumption) (by decide) | exact om1 (by with_reducible assumption) (by decide) | exact om0 (by with_reducible assumption) | exact om22 (by with_reducible assumption) (by decide) | exact om18 (by decide) | exact om3 (by with_reducible assumption) (by decide) | exact om10 (by with_reducible assumption) (by with_reducible assumption) (by decide) | exact Ne.symm (by with_reducible assumption) | exact Nat.ne_of_lt (by with_reducible assumption) | exact Nat.ne_of_gt (by with_reducible assumption) | exact om12 (by with_reducible assumption) | exact om14 (by decide) | exact om15 (by decide) | exact om16 (by with_reducible assumption) | exact om17 _ | exact om27 _ _ | exact om28 (by with_reducible assumption) | exact om25 (by with_reducible assumption) | exact om26 (by with_reducible assumption) | exact Nat.succ_le_of_lt (by with_reducible assumption) | exact Nat.lt_of_succ_le (by with_reducible assumption) | exact Nat.sub_succ_lt_self (by with_reducible assumption) | exact Nat.le_antisymm (by with_reducible assumption) (by with_reducible assumption) | exact Nat.le_of_lt (by with_reducible assumption) | exact om11 (by with_reducible assumption) | exact om7 (by with_reducible assumption) (by with_reducible assumption) | exact om8 (by with_reducible assumption) (by with_reducible assumption) | exact om9 (by with_reducible assumption) (by with_reducible assumption) | exact om19 (by with_reducible assumption) (by decide) | exact om20 (by with_reducible assumption) (by decide) | exact om21 (by with_reducible assumption) (by decide) | exact om23 (by with_reducible assumption) | exact om24 (by with_reducible assumption) | exact And.right (by with_reducible assumption) | exact And.left (by with_reducible assumption) | lia | omega))
  trivial
variable {w : World} {loose : List Str} {mean : ExcName → Option Value} {mg mb : Str → Option Value}
theorem words_T2_1 : True := by
  (k_with "m my_fill" => ((have dummy : hd.heap_39 w.params = hd.heap_39 w.params ∧ Mine.rw = Mine.rw := by (k_fill; exact ⟨rfl, rfl⟩)); clear dummy))
  (k_with "m my_end" => ((try dsimp only); (try k_unfold); (try dsimp only)))
  (k_with "m my_deep" => (first | exact om2 (by assumption) (by decide) | exact om1 (by assumption) (by decide) | exact om0 (by assumption) | (simp only [depth_under_make, depth_under_kw, depth_in1, depth_deeper, depth_caller, units_in1, units_deeper]; walk_at "om")))
  (k_with "m my_call" => ((case zz_B => k_asm); (case zz_F => k_asm); (case zz_hA => exact (Around.frames_deeper (Below.stack (by assumption)))); (case zz_hf => rfl); (case zz_hk => rfl); (case zz_X => k_asm); (case zz_T => k_asm); (case zz_d => walk_at "my_deep"); (case zz_u => walk_at "my_deep"); (case zz_h => assumption)))
  (k_with "m call ref" => (k_here; (with_reducible show wpAny _ _ (call (Value.ref 101) _ _) _ _ _); refine' wpAny_call (fspath (bel ?zz_B ?zz_F ?zz_hA ?zz_hf ?zz_hk) (keepX ?zz_X ?zz_F) (Top.keeps ?zz_T (Fr.keep ?zz_F)) ?zz_d ?zz_u ?zz_h ?_); walk_at "my_call"; intro zz_hq zz_tkq zz_hsq; have zz_Fq := frS (by k_asm) zz_hsq; have zz_Nq := newsS (by k_asm) zz_hsq; clear zz_hsq; (try k_sweep)))
  trivial
theorem splitroot {A : Around} {base : Heap} {outer : List Env} {s : Shared} {R : Result → Shared → Prop} {x : Str} {t : Tok}
  (B : Below A base outer s.heap) (X : (hd.heap_39 w.params).In s.heap) (T : Top hd.view_39 loose mean mg mb s.heap) (hdp : A.depth + 20 < recursionLimit) (hun : A.units + 200 < cLine) (hh : A.handled = none) (hlen : x.length ≤ 1000)
  (e1 : (Txt.slice x none (some 1) != Str.ofString "/") = false) (e2 : (Txt.slice x (some 1) (some 2) != Str.ofString "/") = true)
  (ret : ∀ h' tk D t1 t2 t3, s.heap.StaysIn h' → s.heap.get? D = none → h'.get? D = some { cls := .type "tuple", data := .seq #[.str (Str.ofString "") t1, .str (Str.ofString "/") t2, .str (Txt.slice x (some 1) none) t3] } → R (.ok (.ret (.ref D))) { s with heap := h', toks := tk }) :
  codeAny (model Pg w) A (.call (.ref 129) ⟨[.str x t], []⟩) R s := by
  w_on
  walk_at "my_fill"
  refine enter (binds := [(Str.ofString "p", .str x t)]) B X T (by k_is) (by k_is) (by walk_at "om") (BindsTo.of_eq rfl) (locs rfl) ?_ (by decide) rfl rfl rfl
  intro g L h₁ eg eL F N B' X' T'
  (try dsimp only)
  k_fold
  k_steps
  subst eg
  refine ret _ _ _ _ _ _ (Fr.keep (by assumption)) (News.fresh (by assumption) (List.Mem.head _)) (News.get (by assumption) (List.Mem.head _))
end
section
theorem words_Gen1_0 : True := by
  k_with_none
  (k_with "m ne" => ((refine neN ?_); (try dsimp only); walk_at "om"))
  (k_with "m om" => (first | with_reducible assumption | exact Nat.le_trans (by with_reducible assumption) (by decide) | exact om4 (by with_reducible assumption) (by decide) | exact om2 (by with_reducible assumption) (by decide) | exact om1 (by with_reducible assumption) (by decide) | exact om0 (by with_reducible assumption) | exact om22 (by with_reducible assumption) (by decide) | exact om18 (by decide) | exact om3 (by with_reducible assumption) (by decide) | exact om10 (by with_reducible assumption) (by with_reducible assumption) (by decide) | exact Ne.symm (by with_reducible assumption) | exact Nat.ne_of_lt (by with_reducible assumption) | exact Nat.ne_of_gt (by with_reducible assumption) | exact om12 (by with_reducible assumption) | exact om14 (by decide) | exact om15 (by decide) | exact om16 (by with_reducible assumption) | exact om17 _ | exact om27 _ _ | exact om28 (by with_reducible assumption) | exact om25 (by with_reducible assumption) | exact om26 (by with_reducible assumption) | exact Nat.succ_le_of_lt (by with_reducible assumption) | exact Nat.lt_of_succ_le (by with_reducible assumption) | exact Nat.sub_succ_lt_self (by with_reducible assumption) | exact Nat.le_antisymm (by with_reducible assumption) (by with_reducible assumption) | exact Nat.le_of_lt (by with_reducible assumption) | exact om11 (by with_reducible assumption) | exact om7 (by with_reducible assumption) (by with_reducible assumption) | exact om8 (by with_reducible assumption) (by with_reducible assumption) | exact om9 (by with_reducible assumption) (by with_reducible assumption) | exact om19 (by with_reducible assumption) (by decide) | exact om20 (by with_reducible assumption) (by decide) | exact om21 (by with_reducible assumption) (by decide) | exact om23 (by with_reducible assumption) | exact om24 (by with_reducible assumption) | exact And.right (by with_reducible assumption) | exact And.left (by with_reducible assumption) | lia | omega))
  trivial
section
variable {g h h' : Heap} {L D : Addr} {m : Str → Option Value} {news : List (Addr × Obj)} {o : Obj}
theorem newsAdd (F : Fr g L h m) (N : News g L h news) (hs : h.StaysIn h') (hD : h.get? D = none) (ho : h'.get? D = some o) : News g L h' ((D, o) :: news) := by
  intro p hp
  rcases List.mem_cons.mp hp with rfl | hp
  · refine ⟨ho, fun e => ?_, ?_⟩
    · obtain ⟨oL, _, _, hL, _⟩ := F.ns
      dsimp only at e
      rw [e, hL] at hD; cases hD
    · cases q : g.get? D with
      | none => rfl
      | some o' => rw [F.keep _ _ q] at hD; cases hD
  · exact newsS N hs p hp
def AllNe (d : Nat) : List (Addr × Obj) → Prop
  | [] => True
  | p :: r => @Ne Nat p.1 d ∧ AllNe d r
theorem allNe_of : ∀ {l : List (Addr × Obj)} {D : Addr}, (∀ p ∈ l, p.1 ≠ D) → AllNe D l
  | [], _, _ => trivial
  | p :: _, _, h => ⟨h p (.head _), allNe_of fun q hq => h q (.tail _ hq)⟩
theorem newsNe (N : News g L h news) (hD : h.get? D = none) : AllNe D news := allNe_of fun p hp e => by
  have := (N p hp).1; rw [e, hD] at this; cases this
end
section
variable {prog : Program} {w : World} {A : Around} {E : Value → Shared → Prop} {s : Shared} {env : Env} {h₀ : Heap} {x : Str} {body : List Stmt} {Q : Flow → Shared → Prop}
theorem iterOver {l : Addr} {vs : List Value} {m₀ : Str → Option Value} {news : List (Addr × Obj)} (J : Nat → (Str → Option Value) → List (Addr × Obj) → Prop)
    (hh : A.handled = none) (hl : s.heap.IsList l vs.toArray) (hlL : l ≠ env.locals) (hln : ∀ q ∈ news, q.1 ≠ l) (F : Fr h₀ env.locals s.heap m₀) (N : News h₀ env.locals s.heap news) (hj : J 0 m₀ news)
    (turn : ∀ i v m₁ news₁ h tk own, vs[i]? = some v → news₁.map (·.1) = news.map (·.1) → OwnOff own (news.map (·.1)) → J i m₁ news₁ → Fr h₀ env.locals h (fun y => if y = x then some v else m₁ y) → News h₀ env.locals h (news₁ ++ own) →
      wpAny (model prog w) A (execs body env) (InvPostN h₀ env.locals (J (i + 1)) own (news.map (·.1)) { s with heap := h, toks := tk } Q) E { s with heap := h, toks := tk })
    (done : ∀ m₁ news₁ h tk, J vs.length m₁ news₁ → Fr h₀ env.locals h m₁ → News h₀ env.locals h news₁ → Q .next { s with heap := h, toks := tk }) :
    wpAny (model prog w) A (pyIter (.ref l)) (fun it s₂ => LoopAtV prog w A h₀ env x body Q E it s₂) E s := by
  obtain ⟨ol, hol, _⟩ := id hl
  have hne : l ≠ s.heap.objs.size := Nat.ne_of_lt (Heap.lt_size hol)
  refine wpAny_pyIter_list hl ?_
  have W := Walks.list (prog := prog) (w := w) hh s.heap.objs.size l hne vs.toArray
  have hlen : vs.toArray.size = vs.length := by simp
  rw [hlen] at W
  refine loop_invN (s := { s with heap := s.heap.push { cls := .type "list_iterator", data := .fields #[.ref l, .int 0 0] } }) J W ?_ ?_ ?_ ?_ ⟨⟨_, Heap.get?_push_size _ rfl, rfl, rfl⟩, hl.at fun o e => Heap.get?_push_of_some _ e⟩ (F.push _) (fun p hp => ⟨Heap.get?_push_of_some _ (N p hp).1, (N p hp).2⟩) hj ?_ ?_
  · intro hm
    rcases List.mem_cons.mp hm with e | hm
    · exact absurd F.ns.lt (e ▸ Nat.lt_irrefl _)
    · exact hlL (List.mem_singleton.mp hm).symm
  · intro b hb
    rw [List.mem_singleton.mp hb]
    exact next_is_new F
  · intro p hp hI
    exact absurd (Heap.lt_size (N p hp).1) ((List.mem_singleton.mp hI) ▸ Nat.lt_irrefl _)
  · intro q hq hm
    rcases List.mem_cons.mp hm with e | hm
    · exact absurd (Heap.lt_size (N q hq).1) (e ▸ Nat.lt_irrefl _)
    · exact hln q hq (List.mem_singleton.mp hm)
  · intro i v m₁ news₁ h tk own hi hP hadr hoff hJ F₁ N₁
    exact turn i v m₁ news₁ h tk own (by simpa using hP) hadr hoff hJ F₁ N₁
  · intro m₁ news₁ h tk hJ F₁ N₁
    exact done m₁ news₁ h tk hJ F₁ N₁
end
section
variable {prog : Program} {w : World} {A : Around} {E : Value → Shared → Prop} {s : Shared} {env : Env} {h₀ : Heap} {x : Str} {body : List Stmt} {Q : Flow → Shared → Prop}
/-- what a loop keeps: a datum of the prover's own, told by the frame's names and the ledger -/
def Kept {σ : Type} (x : Str) (I : σ → Prop) (mp : σ → Str → Option Value) (led : σ → List (Addr × Obj)) (m' : Str → Option Value) (nx : List (Addr × Obj)) : Prop :=
  ∃ a, I a ∧ (∀ z, z ≠ x → m' z = mp a z) ∧ nx = led a
theorem iterS {σ : Type} {l : Addr} {vs : List Value} {m₀ : Str → Option Value} (I : Nat → σ → Prop) (mp : (Str → Option Value) → σ → Str → Option Value) (led : σ → List (Addr × Obj)) (a₀ : σ)
    (hh : A.handled = none) (hl : s.heap.IsList l vs.toArray) (hlL : l ≠ env.locals) (hln : ∀ q ∈ led a₀, q.1 ≠ l) (F : Fr h₀ env.locals s.heap m₀) (N : News h₀ env.locals s.heap (led a₀))
    (hadr : ∀ a, (led a).map (·.1) = (led a₀).map (·.1)) (hI : I 0 a₀) (hm : ∀ z, z ≠ x → m₀ z = mp m₀ a₀ z)
    (turn : ∀ i v a h tk own, vs[i]? = some v → OwnOff own ((led a₀).map (·.1)) → I i a → Fr h₀ env.locals h (fun y => if y = x then some v else mp m₀ a y) → News h₀ env.locals h (led a ++ own) →
      wpAny (model prog w) A (execs body env) (InvPostN h₀ env.locals (Kept x (I (i + 1)) (mp m₀) led) own ((led a₀).map (·.1)) { s with heap := h, toks := tk } Q) E { s with heap := h, toks := tk })
    (done : ∀ a u h tk, I vs.length a → Fr h₀ env.locals h (fun y => if y = x then u else mp m₀ a y) → News h₀ env.locals h (led a) → Q .next { s with heap := h, toks := tk }) :
    wpAny (model prog w) A (pyIter (.ref l)) (fun it s₂ => LoopAtV prog w A h₀ env x body Q E it s₂) E s := by
  refine iterOver (fun i => Kept x (I i) (mp m₀) led) hh hl hlL hln F N ⟨a₀, hI, hm, rfl⟩ ?_ ?_
  · rintro i v m₁ news₁ h tk own hv _ hoff ⟨a, hI, hm, rfl⟩ F₁ N₁
    have e : (fun y => if y = x then some v else m₁ y) = fun y => if y = x then some v else mp m₀ a y := by
      funext z
      by_cases h1 : z = x
      · simp [h1]
      · simp only [if_neg h1]; exact hm z h1
    rw [e] at F₁
    exact turn i v a h tk own hv hoff hI F₁ N₁
  · rintro m₁ news₁ h tk ⟨a, hI, hm, rfl⟩ F₁ N₁
    have e : (fun y => if y = x then m₁ x else mp m₀ a y) = m₁ := by
      funext z
      by_cases h1 : z = x
      · simp [h1]
      · simp only [if_neg h1]; exact (hm z h1).symm
    exact done a (m₁ x) h tk hI (by rw [e]; exact F₁) N₁
theorem keptEnd {σ : Type} {L : Addr} {I : σ → Prop} {mp : σ → Str → Option Value} {led : σ → List (Addr × Obj)} {m' : Str → Option Value} {own news' : List (Addr × Obj)} {adr : List Addr} {s₁ : Shared} {h' : Heap} {tk : Nat} (a : σ)
    (F : Fr h₀ L h' m') (N : News h₀ L h' news') (hI : I a) (hm : ∀ z, z ≠ x → m' z = mp a z) (ha : (led a).map (·.1) = adr) (hn : ∀ p ∈ led a, p ∈ news') (ho : ∀ p ∈ own, p ∈ news') :
    InvEndN h₀ L (Kept x I mp led) own adr s₁ { s₁ with heap := h', toks := tk } := InvEndN.intro F N ⟨a, hI, hm, rfl⟩ ha hn ho
end
theorem str_at {l : List (Str × Tok)} {ss : List Str} {i : Nat} {v : Value} (e : l.map (·.1) = ss) (h : (strValues l)[i]? = some v) : ∃ c t, v = .str c t ∧ ss[i]? = some c := by
  subst e
  simp only [strValues, List.getElem?_map] at h ⊢
  cases hp : l[i]? with
  | none => rw [hp] at h; simp at h
  | some p => rw [hp] at h; exact ⟨p.1, p.2, by simpa using h.symm, by simp⟩
/-- one turn of normpath's loop over an absolute path's parts -/
def normStep (ys : List Str) (c : Str) : List Str :=
  if c = Str.ofString "" ∨ c = Str.ofString "." then ys else if c = Str.ofString ".." then ys.dropLast else ys ++ [c]
section
variable {prog : Program} {w : World} {A : Around} {E : Value → Shared → Prop} {s : Shared} {h₀ : Heap} {L a : Addr} {m : Str → Option Value} {news news' : List (Addr × Obj)} {vs : List Value} {k : Nat}
theorem ls_true {Q : Bool → Shared → Prop} {y : Value} (N : News h₀ L s.heap news) (hm : (a, listOf (vs ++ [y]).toArray k) ∈ news) (hz : vs.length ≤ 100000) (h : ∀ tk, Q true { s with toks := tk }) : wpAny (model prog w) A (truthy (.ref a)) Q E s := by
  refine wpAny_truthy_list (News.isList N hm) (by simp only [List.size_toArray, List.length_append, List.length_cons, List.length_nil]; walk_at "om") ?_
  have e : (!(vs ++ [y]).toArray.isEmpty) = true := by simp
  rw [e]; exact h _
theorem ls_last {value slice : Expr} {u : Tok} {y : Value} {Q : Value → Shared → Prop} (N : News h₀ L s.heap news) (hm : (a, listOf (vs ++ [y]).toArray k) ∈ news) (hz : vs.length ≤ 100000) (h : Q y s)
    (hs : subscripted slice false (.ref a) (.int (-1) u) = operate [.ref a, .int (-1) u] (getItem (.ref a) (.int (-1) u)) := by with_unfolding_all rfl) (hg : ∀ r, letTemporaryGo value (.ref a) r = pure () := by intro _; with_unfolding_all rfl) :
    wpAny (model prog w) A (subscriptTail value slice (.ref a) (.int (-1) u)) Q E s := by
  refine kim_back N hm rfl rfl (by decide) ?_ (by decide) ?_ h hs hg
  · simp only [List.length_append, List.length_cons, List.length_nil]; walk_at "om"
  · simp only [List.length_append, List.length_cons, List.length_nil]
    rw [show ((-1 : Int) + ((vs.length + (0 + 1) : Nat) : Int)).toNat = vs.length by walk_at "om"]
    simp
theorem ls_pop {y : Value} {Q : Value → Shared → Prop} (F : Fr h₀ L s.heap m) (N : News h₀ L s.heap news) (U : Upd a (listOf (vs ++ [y]).toArray k) (listOf vs.toArray (k + 1)) news news') (hz : vs.length ≤ 100000)
    (h : ∀ h', Fr h₀ L h' m → News h₀ L h' news' → Q y { s with heap := h' }) : wpAny (model prog w) A (call (.builtin "list.pop") [.ref a]) Q E s := by
  refine kl_pop F N (p := vs) (y := y) ?_ U ?_ h
  · simpa using kpa_last y vs
  · simp only [List.length_append, List.length_cons, List.length_nil]; rw [sizeLine_eq]; walk_at "om"
theorem ls_append {y : Value} {Q : Value → Shared → Prop} (F : Fr h₀ L s.heap m) (N : News h₀ L s.heap news) (U : Upd a (listOf vs.toArray k) (listOf (vs ++ [y]).toArray (k + 1)) news news') (hz : vs.length ≤ 100000)
    (h : ∀ h', Fr h₀ L h' m → News h₀ L h' news' → Q .none { s with heap := h' }) : wpAny (model prog w) A (call (.builtin "list.append") [.ref a, y]) Q E s := by
  refine append_K F N (its := vs.toArray) (n := k) ?_ h ?_
  · simpa using U
  · rw [List.size_toArray, sizeLine_eq]; walk_at "om"
end
theorem fold_step {S : List Str} {i : Nat} {c : Str} {zs : List Str} (hc : S[i]? = some c) (h : zs = normStep ((S.take i).foldl normStep []) c) : zs = (S.take (i + 1)).foldl normStep [] := by
  rw [List.take_add_one, hc]; simp [h]
theorem norm_good : ∀ (l : List Str) (ys : List Str), (∀ y ∈ ys, y ≠ Str.ofString "..") → ∀ y ∈ l.foldl normStep ys, y ≠ Str.ofString ".."
  | [], _, h => h
  | c :: l, ys, h => norm_good l (normStep ys c) (by
      intro y hy
      unfold normStep at hy
      split at hy
      · exact h y hy
      · split at hy
        · exact h y (List.dropLast_subset _ hy)
        · rcases List.mem_append.mp hy with hy | hy
          · exact h y hy
          · rw [List.mem_singleton.mp hy]; assumption)
theorem norm_all (P : Str → Prop) : ∀ (l : List Str) (ys : List Str), (∀ y ∈ l, P y) → (∀ y ∈ ys, P y) → ∀ y ∈ l.foldl normStep ys, P y
  | [], _, _, h => h
  | c :: l, ys, hl, h => norm_all P l (normStep ys c) (fun y hy => hl y (.tail _ hy)) (by
      intro y hy
      unfold normStep at hy
      split at hy
      · exact h y hy
      · split at hy
        · exact h y (List.dropLast_subset _ hy)
        · rcases List.mem_append.mp hy with hy | hy
          · exact h y hy
          · rw [List.mem_singleton.mp hy]; exact hl c (.head _))
theorem str_nil {c : Str} (h : (c.length : Int) = 0) : c = Str.ofString "" := by
  have h1 : c.cps = #[] := Array.size_eq_zero_iff.mp (by have : c.cps.size = c.length := rfl; walk_at "om")
  cases c; simp only at h1; subst h1; decide
theorem normStep_push {ys : List Str} {c : Str} (h1 : c ≠ Str.ofString "") (h2 : c ≠ Str.ofString ".") (h3 : c ≠ Str.ofString "..") : normStep ys c = ys ++ [c] := by
  unfold normStep; rw [if_neg (fun e => e.elim h1 h2), if_neg h3]
theorem weighs_small {ys : List Str} {b n : Nat} (h : ∀ y ∈ ys, y.length ≤ b) (hn : ys.length ≤ n) (hb : n * (b + 1) ≤ 2000000) : Weighs ys 2000000 := by
  have h1 : ∀ (l : List Str), (∀ y ∈ l, y.length ≤ b) → (l.map (·.length)).sum + l.length ≤ l.length * (b + 1) := by
    intro l
    induction l with
    | nil => intro _; simp
    | cons y l ih =>
      intro h
      have h2 := ih fun z hz => h z (.tail _ hz)
      have h3 := h y (.head _)
      simp only [List.map_cons, List.sum_cons, List.length_cons, Nat.succ_mul] at h2 ⊢
      walk_at "om"
  have h2 := h1 ys h
  have h3 : ys.length * (b + 1) ≤ n * (b + 1) := Nat.mul_le_mul_right _ hn
  show _ ≤ _
  walk_at "om"
section
variable {prog : Program} {w : World} {A : Around} {E : Value → Shared → Prop} {s : Shared} {h₀ : Heap} {L D : Addr} {news : List (Addr × Obj)} {k : Nat} {sep : Str} {t : Tok}
theorem ls_join {l : List (Str × Tok)} {texts : List Str} {Q : Value → Shared → Prop} (N : News h₀ L s.heap news) (hm : (D, listOf (strValues l).toArray k) ∈ news) (ht : l.map (·.1) = texts) (hw : Weighs texts 2000000) (hs : sep.length ≤ 4)
    (h : ∀ t' k', (Txt.join sep texts).length ≤ 8000004 → Q (.str (Txt.join sep texts) t') { s with toks := k' }) : wpAny (model prog w) A (call (.builtin "str.join") [.str sep t, .ref D]) Q E s := by
  refine SC.join (News.isList N hm) ht (joinOk_of ?_) fun t' k' => h t' k' (len_join_le hw hs)
  have h1 : (texts.map (·.length)).sum + texts.length ≤ 2000000 + 1 := hw
  have h2 : texts.length * sep.length ≤ texts.length * 4 := Nat.mul_le_mul_left _ hs
  walk_at "om"
end
end
section
theorem words_T3_0 : True := by
  k_with_none
  (k_with "m ne" => ((refine neN ?_); (try dsimp only); walk_at "om"))
  (k_with "m om" => (first | with_reducible assumption | exact Nat.le_trans (by with_reducible assumption) (by decide) | exact om4 (by with_reducible assumption) (by decide) | exact om2 (by with_reducible assumption) (by decide) | exact om1 (by with_reducible assumption) (by decide) | exact om0 (by with_reducible assumption) | exact om22 (by with_reducible assumption) (by decide) | exact om18 (by decide) | exact om3 (by with_reducible assumption) (by decide) | exact om10 (by with_reducible assumption) (by with_reducible assumption) (by decide) | exact Ne.symm (by with_reducible assumption) | exact Nat.ne_of_lt (by with_reducible assumption) | exact Nat.ne_of_gt (by with_reducible assumption) | exact om12 (by with_reducible assumption) | exact om14 (by decide) | exact om15 (by decide) | exact om16 (by with_reducible assumption) | exact om17 _ | exact om27 _ _ | exact om28 (by with_reducible assumption) | exact om25 (by with_reducible assumption) | exact om26 (by with_reducible assumption) | exact Nat.succ_le_of_lt (by with_reducible assumption) | exact Nat.lt_of_succ_le (by with_reducible assumption) | exact Nat.sub_succ_lt_self (by with_reducible assumption) | exact Nat.le_antisymm (by with_reducible assumption) (by with_reducible assumption) | exact Nat.le_of_lt (by with_reducible assumption) | exact om11 (by with_reducible assumption) | exact om7 (by with_reducible assumption) (by with_reducible assumption) | exact om8 (by with_reducible assumption) (by with_reducible assumption) | exact om9 (by with_reducible assumption) (by with_reducible assumption) | exact om19 (by with_reducible assumption) (by decide) | exact om20 (by with_reducible assumption) (by decide) | exact om21 (by with_reducible assumption) (by decide) | exact om23 (by with_reducible assumption) | exact om24 (by with_reducible assumption) | exact And.right (by with_reducible assumption) | exact And.left (by with_reducible assumption) | lia | omega))
  trivial
variable {w : World} {loose : List Str} {mean : ExcName → Option Value} {mg mb : Str → Option Value}
theorem words_T3_1 : True := by
  (k_with "m my_hide" => ((have zz_Bq := True.intro); (have zz_Dq := True.intro); (have zz_EAq := True.intro); (have zz_FGq := True.intro); (have zz_Fq := True.intro); (have zz_Iq := True.intro); (have zz_Lq := True.intro); (have zz_Mq := True.intro); (have zz_Nq := True.intro); (have zz_Rnq := True.intro); (have zz_Rq := True.intro); (have zz_Tq := True.intro); (have zz_Uq := True.intro); (have zz_Xq := True.intro); (have zz_eq := True.intro); (have zz_g1 := True.intro); (have zz_g2 := True.intro); (have zz_g3 := True.intro); (have zz_gq := True.intro); (have zz_gs := True.intro); (have zz_h1q := True.intro); (have zz_hCq := True.intro); (have zz_hDq := True.intro); (have zz_hIq := True.intro); (have zz_hLq := True.intro); (have zz_hiq := True.intro); (have zz_hjq := True.intro); (have zz_hoq := True.intro); (have zz_hq := True.intro); (have zz_hsq := True.intro); (have zz_hwq := True.intro); (have zz_hxq := True.intro); (have zz_hyq := True.intro); (have zz_itq := True.intro); (have zz_kq := True.intro); (have zz_l1 := True.intro); (have zz_lq := True.intro); (have zz_sq := True.intro); (have zz_t1q := True.intro); (have zz_t2q := True.intro); (have zz_t3q := True.intro); (have zz_tk9 := True.intro); (have zz_tkq := True.intro); (have zz_tq := True.intro); (have zz_wsq := True.intro); (have zz_yq := True.intro)))
  (k_with "m my_show" => (clear zz_Bq zz_Dq zz_EAq zz_FGq zz_Fq zz_Iq zz_Lq zz_Mq zz_Nq zz_Rnq zz_Rq zz_Tq zz_Uq zz_Xq zz_eq zz_g1 zz_g2 zz_g3 zz_gq zz_gs zz_h1q zz_hCq zz_hDq zz_hIq zz_hLq zz_hiq zz_hjq zz_hoq zz_hq zz_hsq zz_hwq zz_hxq zz_hyq zz_itq zz_kq zz_l1 zz_lq zz_sq zz_t1q zz_t2q zz_t3q zz_tk9 zz_tkq zz_tq zz_wsq zz_yq))
  (k_with "m my_fill" => ((have dummy : hd.heap_39 w.params = hd.heap_39 w.params ∧ Mine.rw = Mine.rw := by (k_fill; exact ⟨rfl, rfl⟩)); clear dummy))
  (k_with "m my_deep" => (first | exact om2 (by assumption) (by decide) | exact om1 (by assumption) (by decide) | exact om0 (by assumption) | (simp only [depth_under_make, depth_under_kw, depth_in1, depth_deeper, depth_caller, units_in1, units_deeper] at *; (try dsimp only at *); walk_at "om")))
  (k_with "m my_call" => ((case zz_B => k_asm); (case zz_F => k_asm); (case zz_hA => rfl); (case zz_hf => rfl); (case zz_hk => rfl); (case zz_X => k_asm); (case zz_T => k_asm); (case zz_d => walk_at "my_deep"); (case zz_u => walk_at "my_deep"); (case zz_h => rfl)))
  (k_with "m call ref" => (k_here; (with_reducible show wpAny _ _ (call (Value.ref 101) _ _) _ _ _); refine' wpAny_call (fspath (bel ?zz_B ?zz_F ?zz_hA ?zz_hf ?zz_hk) (keepX ?zz_X ?zz_F) (Top.keeps ?zz_T (Fr.keep ?zz_F)) ?zz_d ?zz_u ?zz_h ?_); walk_at "my_call"; intro zz_hq zz_tkq zz_hsq; have zz_Fq := frS (by k_asm) zz_hsq; have zz_Nq := newsS (by k_asm) zz_hsq; clear zz_hsq; (try k_sweep); (try dsimp only)))
  (k_with "m call ref" => (k_here; (with_reducible show wpAny _ _ (call (Value.ref 129) _ _) _ _ _); refine' wpAny_call (splitroot (bel ?zz_B ?zz_F ?zz_hA ?zz_hf ?zz_hk) (keepX ?zz_X ?zz_F) (Top.keeps ?zz_T (Fr.keep ?zz_F)) ?zz_d ?zz_u ?zz_h ?zz_l ?zz_e1 ?zz_e2 ?_); walk_at "my_call"; (case zz_l => assumption); (case zz_e1 => assumption); (case zz_e2 => assumption); intro zz_hq zz_tkq zz_Dq zz_t1q zz_t2q zz_t3q zz_hsq zz_hDq zz_hoq; have zz_Fq := frS (by k_asm) zz_hsq; have zz_Nq := newsAdd (by k_asm) (by k_asm) zz_hsq zz_hDq zz_hoq; have zz_l1 := newsNe (by k_asm) zz_hDq; simp only [AllNe, and_true] at zz_l1; clear zz_hsq zz_hDq zz_hoq; (try k_sweep); (try dsimp only)))
  (k_with "m truthy ref" => (k_here; k_dflt (refine' ls_true ?zz_N ?zz_m ?zz_z ?_; (case zz_N => k_asm); (case zz_m => k_mem); (case zz_z => assumption)); intro zz_tkq))
  (k_with "m subscriptTail Name UnaryOp ref int" => (k_here; k_dflt (refine' ls_last ?zz_N ?zz_m ?zz_z ?_ ?zz_s ?zz_g; (case zz_N => k_asm); (case zz_m => k_mem); (case zz_z => assumption); (case zz_s => with_unfolding_all rfl); (case zz_g => intro _; with_unfolding_all rfl))))
  (k_with "m call builtin:list.pop" => (k_here; (show wpAny _ _ (call (Value.builtin "list.pop") [Value.ref _]) _ _ _); refine' ls_pop ?zz_F ?zz_N ?zz_U ?zz_z ?_; (case zz_F => k_asm); (case zz_N => k_asm); (case zz_U => k_upd); (case zz_z => assumption); intro zz_hq zz_Fq zz_Nq; (try k_sweep)))
  (k_with "m call builtin:list.append" => (k_here; (show wpAny _ _ (call (Value.builtin "list.append") [Value.ref _, _]) _ _ _); refine' ls_append ?zz_F ?zz_N ?zz_U ?zz_z ?_; (case zz_F => k_asm); (case zz_N => k_asm); (case zz_U => k_upd); (case zz_z => assumption); intro zz_hq zz_Fq zz_Nq; (try k_sweep)))
  (k_with "m call builtin:str.join" => (k_here; (show wpAny _ _ (call (Value.builtin "str.join") [Value.str _ _, Value.ref _]) _ _ _); refine' ls_join ?zz_N ?zz_m ?zz_t ?zz_w ?zz_s ?_; (case zz_N => k_asm); (case zz_m => k_mem); (case zz_t => assumption); (case zz_w => assumption); (case zz_s => decide); intro zz_tq zz_kq zz_hjq))
  trivial
theorem normpath {A : Around} {base : Heap} {outer : List Env} {s : Shared} {R : Result → Shared → Prop} {x : Str} {t : Tok}
  (B : Below A base outer s.heap) (X : (hd.heap_39 w.params).In s.heap) (T : Top hd.view_39 loose mean mg mb s.heap) (hdp : A.depth + 30 < recursionLimit) (hun : A.units + 300 < cLine) (hh : A.handled = none) (hlen : x.length ≤ 1000)
  (e1 : (Txt.slice x none (some 1) != Str.ofString "/") = false) (e2 : (Txt.slice x (some 1) (some 2) != Str.ofString "/") = true) (hne : (x.length : Int) ≠ 0)
  (ret : ∀ h' tk t', s.heap.StaysIn h' → R (.ok (.ret (.str (Str.ofString "/" ++ Txt.join (Str.ofString "/") ((Txt.split (Txt.slice x (some 1) none) (Str.ofString "/")).foldl normStep [])) t'))) { s with heap := h', toks := tk }) :
  codeAny (model Pg w) A (.call (.ref 136) ⟨[.str x t], []⟩) R s := by
  obtain ⟨ah, ad, af, ag, au⟩ := A
  obtain rfl : ah = none := hh
  obtain rfl : af = some outer := B.stack
  w_on
  walk_at "my_fill"
  refine enter (binds := [(Str.ofString "path", .str x t)]) B X T (by k_is) (by k_is) (by dsimp only at *; walk_at "om") (BindsTo.of_eq rfl) (locs rfl) ?_ (by decide) rfl rfl rfl
  intro g L h₁ eg eL F N B' X' T'
  (try dsimp only)
  k_fold
  k_steps
  · rename List.map _ _ = Txt.split _ _ => hsplit
    rename Fr _ _ _ _ => F9
    rename News _ _ _ _ => N9
    walk_at "my_hide"
    rename_i l' h'1 l1' h'
    walk_at "my_show"
    refine iterS (σ := List (Str × Tok) × Nat) (fun i a => a.1.length ≤ i ∧ a.1.map (·.1) = ((Txt.split (Txt.slice x (some 1) none) (Str.ofString "/")).take i).foldl normStep [])
      (fun m₀ _ => m₀) (fun a => [(l', listOf (strValues a.1).toArray a.2)]) ([], 0) rfl (News.isList N9 (List.Mem.tail _ (List.Mem.head _))) ?_ ?_ F9 (fun p hp => N9 p (by simp at hp; rw [hp]; exact List.Mem.head _)) (fun _ => rfl) ⟨Nat.le_refl _, rfl⟩ (fun _ _ => rfl) ?_ ?_
    · exact (N9 _ (List.Mem.tail _ (List.Mem.head _))).2.1
    · intro q hq
      simp at hq
      rw [hq]
      k_ne
    · clear F9 N9
      rintro i v a h tk own hv hoff hI F9 N9
      obtain ⟨c, tc, rfl, hc⟩ := str_at hsplit hv
      have hcl : c.length ≤ 1000 := Nat.le_trans (part_short (List.mem_of_getElem? hc)) (Nat.le_trans (Txt.slice_le _ _ _) hlen)
      have hi : i ≤ 5000 := by
        have h1 := split_weight (Txt.slice x (some 1) none) (Str.ofString "/") (by decide)
        have h2 := Txt.slice_le x (some 1) none
        have h3 := (List.getElem?_eq_some_iff.mp hc).1
        walk_at "om"
      obtain ⟨ys, k⟩ := a
      obtain ⟨hlen1, hfold⟩ := hI
      dsimp only [List.cons_append, List.nil_append] at N9 hlen1 hfold
      (rename StrsAre _ _ => q1); clear q1
      (rename Heap.IsList _ _ _ => q2); clear q2
      (rename (∀ a : Str, a ∈ _ → _) => q3)
      clear q3
      have hgood := norm_good ((Txt.split (Txt.slice x (some 1) none) (Str.ofString "/")).take i) [] (by simp)
      have hle : ∀ y ∈ ((Txt.split (Txt.slice x (some 1) none) (Str.ofString "/")).take i).foldl normStep [], y.length ≤ 1000 := norm_all (fun y => y.length ≤ 1000) _ [] (fun y hy => Nat.le_trans (part_short (List.mem_of_mem_take hy)) (Nat.le_trans (Txt.slice_le _ _ _) hlen)) (by simp)
      clear hsplit hv
      revert hfold hc hgood hle
      generalize Txt.split (Txt.slice x (some 1) none) (Str.ofString "/") = S
      intro hc hfold hgood hle
      by_cases hdd : c = Str.ofString ".."
      · have f1 : (c != Str.ofString "..") = false := by rw [hdd]; decide
        have f2 : (c == Str.ofString ".") = false := by rw [hdd]; decide
        have fe : normStep ((S.take i).foldl normStep []) c = ((S.take i).foldl normStep []).dropLast := by
          unfold normStep; rw [hdd, if_neg (by decide), if_pos rfl]
        rcases List.eq_nil_or_concat ys with rfl | ⟨zs, ⟨y, ty⟩, rfl⟩
        · with_reducible show wpAny _ _ _ _ _ _
          k_fold
          k_steps
          · exact keptEnd (([], k) : List (Str × Tok) × Nat) (by assumption) (by assumption) ⟨Nat.zero_le _, fold_step hc (by rw [fe, ← hfold]; rfl)⟩ (by intro z hz; simp [hz]) rfl (by k_allIn) (by (intro p hp; k_ownIn))
          · exfalso
            rename ((c.length : Int) = 0) => h0
            rw [hdd] at h0
            exact absurd h0 (by decide)
        · have hy : y ≠ Str.ofString ".." := hgood y (by rw [← hfold]; simp)
          have f3 : (y == Str.ofString "..") = false := by simpa using hy
          have hz : (strValues zs).length ≤ 100000 := by simp [strValues] at hlen1 ⊢; walk_at "om"
          have hyl : y.length ≤ 1000 := hle y (by rw [← hfold]; simp)
          have ev : strValues (zs ++ [(y, ty)]) = strValues zs ++ [.str y ty] := by simp [strValues]
          rw [List.concat_eq_append, ev] at N9
          with_reducible show wpAny _ _ _ _ _ _
          k_fold
          k_steps
          · exact keptEnd ((zs, k + 1) : List (Str × Tok) × Nat) (by assumption) (by assumption) ⟨by simp at hlen1 ⊢; walk_at "om", fold_step hc (by rw [fe, ← hfold]; simp)⟩ (by intro z hz; simp [hz]) rfl (by k_allIn) (by (intro p hp; k_ownIn))
          · exfalso
            rename ((c.length : Int) = 0) => h0
            rw [hdd] at h0
            exact absurd h0 (by decide)
      · have f1 : (c != Str.ofString "..") = true := by simpa using hdd
        have hz : (strValues ys).length ≤ 100000 := by simp [strValues]; walk_at "om"
        with_reducible show wpAny _ _ _ _ _ _
        k_fold
        k_steps
        · rename (c == Str.ofString ".") = true => h0
          have e0 : c = Str.ofString "." := by simpa using h0
          exact keptEnd ((ys, k) : List (Str × Tok) × Nat) (by assumption) (by assumption) ⟨by dsimp only; walk_at "om", fold_step hc (by unfold normStep; rw [if_pos (.inr e0)]; exact hfold)⟩ (by intro z hz; simp [hz]) rfl (by k_allIn) (by (intro p hp; k_ownIn))
        · rename (c == Str.ofString ".") = false => h0
          rename ((c.length : Int) ≠ 0) => h1
          have e0 : c ≠ Str.ofString "." := by simpa using h0
          have e1 : c ≠ Str.ofString "" := by rintro rfl; exact h1 (by decide)
          have ev : strValues (ys ++ [(c, tc)]) = strValues ys ++ [.str c tc] := by simp [strValues]
          exact keptEnd ((ys ++ [(c, tc)], k + 1) : List (Str × Tok) × Nat) (by assumption) (by assumption) ⟨by simp; walk_at "om", fold_step hc (by rw [normStep_push e1 e0 hdd, ← hfold]; simp)⟩ (by intro z hz; simp [hz]) rfl (by dsimp only; rw [ev]; k_allIn) (by (intro p hp; k_ownIn))
        · rename ((c.length : Int) = 0) => h0
          have e0 : c = Str.ofString "" := str_nil h0
          exact keptEnd ((ys, k) : List (Str × Tok) × Nat) (by assumption) (by assumption) ⟨by dsimp only; walk_at "om", fold_step hc (by unfold normStep; rw [if_pos (.inl e0)]; exact hfold)⟩ (by intro z hz; simp [hz]) rfl (by k_allIn) (by (intro p hp; k_ownIn))
    · rintro ⟨ys, k⟩ u h tk ⟨hlen1, hfold⟩ F9 N9
      rw [show (strValues _).length = (Txt.split (Txt.slice x (some 1) none) (Str.ofString "/")).length from by rw [← hsplit]; simp [strValues]] at hlen1 hfold
      rw [List.take_length] at hfold
      dsimp only at hlen1 hfold N9
      have hle := norm_all (fun y => y.length ≤ 1000) (Txt.split (Txt.slice x (some 1) none) (Str.ofString "/")) [] (fun y hy => Nat.le_trans (part_short hy) (Nat.le_trans (Txt.slice_le _ _ _) hlen)) (by simp)
      have hw : Weighs ((Txt.split (Txt.slice x (some 1) none) (Str.ofString "/")).foldl normStep []) 2000000 := by
        refine weighs_small (n := 1002) hle ?_ (by decide)
        have h1 := split_weight (Txt.slice x (some 1) none) (Str.ofString "/") (by decide)
        have h2 := Txt.slice_le x (some 1) none
        rw [← hfold, List.length_map]
        walk_at "om"
      (rename StrsAre _ _ => q1); clear q1
      (rename Heap.IsList _ _ _ => q2); clear q2
      (rename (∀ a : Str, a ∈ List.map _ _ → _) => q3)
      clear q3 hle hsplit hlen1
      have ret' := ret
      revert hfold hw ret'
      generalize (Txt.split (Txt.slice x (some 1) none) (Str.ofString "/")).foldl normStep [] = S
      intro hfold hw ret'
      dsimp only
      k_steps
      subst eg
      exact ret' _ _ _ (Fr.keep (by assumption))
  · walk_at "om"
end
section
theorem words_Gen2_0 : True := by
  k_with_none
  (k_with "m ne" => ((refine neN ?_); (try dsimp only); walk_at "om"))
  (k_with "m om" => (first | with_reducible assumption | exact Nat.le_trans (by with_reducible assumption) (by decide) | exact om4 (by with_reducible assumption) (by decide) | exact om2 (by with_reducible assumption) (by decide) | exact om1 (by with_reducible assumption) (by decide) | exact om0 (by with_reducible assumption) | exact om22 (by with_reducible assumption) (by decide) | exact om18 (by decide) | exact om3 (by with_reducible assumption) (by decide) | exact om10 (by with_reducible assumption) (by with_reducible assumption) (by decide) | exact Ne.symm (by with_reducible assumption) | exact Nat.ne_of_lt (by with_reducible assumption) | exact Nat.ne_of_gt (by with_reducible assumption) | exact om12 (by with_reducible assumption) | exact om14 (by decide) | exact om15 (by decide) | exact om16 (by with_reducible assumption) | exact om17 _ | exact om27 _ _ | exact om28 (by with_reducible assumption) | exact om25 (by with_reducible assumption) | exact om26 (by with_reducible assumption) | exact Nat.succ_le_of_lt (by with_reducible assumption) | exact Nat.lt_of_succ_le (by with_reducible assumption) | exact Nat.sub_succ_lt_self (by with_reducible assumption) | exact Nat.le_antisymm (by with_reducible assumption) (by with_reducible assumption) | exact Nat.le_of_lt (by with_reducible assumption) | exact om11 (by with_reducible assumption) | exact om7 (by with_reducible assumption) (by with_reducible assumption) | exact om8 (by with_reducible assumption) (by with_reducible assumption) | exact om9 (by with_reducible assumption) (by with_reducible assumption) | exact om19 (by with_reducible assumption) (by decide) | exact om20 (by with_reducible assumption) (by decide) | exact om21 (by with_reducible assumption) (by decide) | exact om23 (by with_reducible assumption) | exact om24 (by with_reducible assumption) | exact And.right (by with_reducible assumption) | exact And.left (by with_reducible assumption) | lia | omega))
  trivial
section
variable {prog : Program} {w : World} {A : Around} {E : Value → Shared → Prop} {Q : Flow → Shared → Prop} {s : Shared} {env : Env} {h₀ : Heap} {L : Addr}
def WStep {σ : Type} (h₀ : Heap) (L : Addr) (s : Shared) (I : σ → Prop) (μ : σ → Nat) (mp : σ → Str → Option Value) (led : σ → List (Addr × Obj)) (a : σ) (f : Flow) (s₃ : Shared) : Prop :=
  f = .next ∧ ∃ h' tk m₂ news₂ a', s₃ = { s with heap := h', toks := tk } ∧ Fr h₀ L h' m₂ ∧ News h₀ L h' news₂ ∧ (∀ p ∈ led a', p ∈ news₂) ∧ (∀ z, m₂ z = mp a' z) ∧ μ a' < μ a ∧ I a'
theorem WStep.intro {σ : Type} {h₀ h' : Heap} {L : Addr} {s : Shared} {I : σ → Prop} {μ : σ → Nat} {mp : σ → Str → Option Value} {led : σ → List (Addr × Obj)} {a : σ} {tk : Nat} {m₂ : Str → Option Value} {news₂ : List (Addr × Obj)} (a' : σ)
    (F : Fr h₀ L h' m₂) (N : News h₀ L h' news₂) (hn : ∀ p ∈ led a', p ∈ news₂) (hm : ∀ z, m₂ z = mp a' z) (hμ : μ a' < μ a) (hI : I a') : WStep h₀ L s I μ mp led a .next { s with heap := h', toks := tk } :=
  ⟨rfl, h', tk, m₂, news₂, a', rfl, F, N, hn, hm, hμ, hI⟩
theorem whileS {σ : Type} {test : Expr} {body : List Stmt} {pos : Pos} {m₀ : Str → Option Value} {news : List (Addr × Obj)} (I : σ → Prop) (μ : σ → Nat) (mp : (Str → Option Value) → σ → Str → Option Value) (led : σ → List (Addr × Obj)) (a₀ : σ)
    (F : Fr h₀ L s.heap m₀) (N : News h₀ L s.heap news) (hn : ∀ p ∈ led a₀, p ∈ news) (hI : I a₀) (hm : ∀ z, m₀ z = mp m₀ a₀ z)
    (turn : ∀ a h₁ tk₁, I a → Fr h₀ L h₁ (mp m₀ a) → News h₀ L h₁ (led a) →
      wpAny (model prog w) A (isTrue test env (eval test env)) (fun b s₂ =>
        if b = true then wpAny (model prog w) A (execs body env) (WStep h₀ L s I μ (mp m₀) led a) E s₂ else Q .next s₂) E { s with heap := h₁, toks := tk₁ })
    (hE : PassesOwn (model prog w) A env E) :
    wpAny (model prog w) A (exec (.While test body [] pos) env) Q E s := by
  refine While_inv (n₀ := μ a₀) (fun n m nx => ∃ a, n = μ a ∧ I a ∧ (∀ z, m z = mp m₀ a z) ∧ nx = led a) F (fun p hp => N p (hn p hp)) ⟨a₀, rfl, hI, hm, rfl⟩ ?_ hE
  rintro n m₁ news₁ h₁ tk₁ F₁ N₁ ⟨a, rfl, hIa, hma, rfl⟩
  have e : m₁ = mp m₀ a := funext hma
  subst e
  refine wpAny_mono (turn a h₁ tk₁ hIa F₁ N₁) (fun b s₂ h₂ => ?_) fun _ _ e => e
  cases b with
  | false => exact h₂
  | true =>
    simp only [if_true] at h₂ ⊢
    refine wpAny_mono h₂ (fun f s₃ h₃ => ?_) fun _ _ e => e
    obtain ⟨rfl, h', tk, m₂, news₂, a', rfl, F₂, N₂, hn₂, hm₂, hμ, hI'⟩ := h₃
    exact ⟨rfl, h', tk, m₂, led a', μ a', rfl, F₂, fun p hp => N₂ p (hn₂ p hp), hμ, a', rfl, hI', hm₂, rfl⟩
end
/-- a mark at which the walk stops -/
def Stop (P : Prop) : Prop := P
theorem Stop.mk {P : Prop} (h : Stop P) : P := h
theorem Stop.out {P : Prop} (h : P) : Stop P := h
/-- how many items two lists begin with alike -/
def same {α : Type} [DecidableEq α] : List α → List α → Nat
  | x :: xs, y :: ys => if x = y then same xs ys + 1 else 0
  | _, _ => 0
theorem same_le1 {α : Type} [DecidableEq α] : ∀ (a b : List α), same a b ≤ a.length
  | [], _ => by simp [same]
  | _ :: _, [] => by simp [same]
  | x :: xs, y :: ys => by
    unfold same; split
    · have := same_le1 xs ys; simp; walk_at "om"
    · simp
theorem same_le2 {α : Type} [DecidableEq α] : ∀ (a b : List α), same a b ≤ b.length
  | [], _ => by simp [same]
  | _ :: _, [] => by simp [same]
  | x :: xs, y :: ys => by
    unfold same; split
    · have := same_le2 xs ys; simp; walk_at "om"
    · simp
theorem same_lt {α : Type} [DecidableEq α] : ∀ (a b : List α) (k : Nat) (x y : α), k ≤ same a b → a[k]? = some x → b[k]? = some y → (x = y ↔ k < same a b)
  | [], _, k, x, y, _, h, _ => by simp at h
  | _ :: _, [], k, x, y, _, _, h => by simp at h
  | u :: us, v :: vs, 0, x, y, _, h1, h2 => by
    simp at h1 h2; subst h1; subst h2
    unfold same; split
    · simp_all
    · simp_all
  | u :: us, v :: vs, k + 1, x, y, h, h1, h2 => by
    simp only [List.getElem?_cons_succ] at h1 h2
    unfold same at h ⊢
    split at h
    · rename_i e
      rw [if_pos e]
      have := same_lt us vs k x y (by walk_at "om") h1 h2
      constructor
      · intro q; have := this.mp q; walk_at "om"
      · intro q; exact this.mpr (by walk_at "om")
    · walk_at "om"
theorem same_getD {a b : List Int} {k : Nat} (h : k ≤ same a b) (h1 : (k : Int) < a.length) (h2 : (k : Int) < b.length) : a.getD (k : Int).toNat 0 = b.getD (k : Int).toNat 0 ↔ k < same a b := by
  have e1 : a[k]? = some (a.getD (k : Int).toNat 0) := by
    have : k < a.length := by walk_at "om"
    simp [List.getD, this]
  have e2 : b[k]? = some (b.getD (k : Int).toNat 0) := by
    have : k < b.length := by walk_at "om"
    simp [List.getD, this]
  exact same_lt a b k _ _ h e1 e2
end
section
theorem words_S1_0 : True := by
  k_with_none
  (k_with "m ne" => ((refine neN ?_); (try dsimp only); walk_at "om"))
  (k_with "m om" => (first | with_reducible assumption | exact Nat.le_trans (by with_reducible assumption) (by decide) | exact om4 (by with_reducible assumption) (by decide) | exact om2 (by with_reducible assumption) (by decide) | exact om1 (by with_reducible assumption) (by decide) | exact om0 (by with_reducible assumption) | exact om22 (by with_reducible assumption) (by decide) | exact om18 (by decide) | exact om3 (by with_reducible assumption) (by decide) | exact om10 (by with_reducible assumption) (by with_reducible assumption) (by decide) | exact Ne.symm (by with_reducible assumption) | exact Nat.ne_of_lt (by with_reducible assumption) | exact Nat.ne_of_gt (by with_reducible assumption) | exact om12 (by with_reducible assumption) | exact om14 (by decide) | exact om15 (by decide) | exact om16 (by with_reducible assumption) | exact om17 _ | exact om27 _ _ | exact om28 (by with_reducible assumption) | exact om25 (by with_reducible assumption) | exact om26 (by with_reducible assumption) | exact Nat.succ_le_of_lt (by with_reducible assumption) | exact Nat.lt_of_succ_le (by with_reducible assumption) | exact Nat.sub_succ_lt_self (by with_reducible assumption) | exact Nat.le_antisymm (by with_reducible assumption) (by with_reducible assumption) | exact Nat.le_of_lt (by with_reducible assumption) | exact om11 (by with_reducible assumption) | exact om7 (by with_reducible assumption) (by with_reducible assumption) | exact om8 (by with_reducible assumption) (by with_reducible assumption) | exact om9 (by with_reducible assumption) (by with_reducible assumption) | exact om19 (by with_reducible assumption) (by decide) | exact om20 (by with_reducible assumption) (by decide) | exact om21 (by with_reducible assumption) (by decide) | exact om23 (by with_reducible assumption) | exact om24 (by with_reducible assumption) | exact And.right (by with_reducible assumption) | exact And.left (by with_reducible assumption) | lia | omega))
  trivial
variable {w : World} {loose : List Str} {mean : ExcName → Option Value} {mg mb : Str → Option Value}
theorem words_S1_1 : True := by
  (k_with "m my_fill" => ((have dummy : hd.heap_39 w.params = hd.heap_39 w.params ∧ Mine.rw = Mine.rw := by (k_fill; exact ⟨rfl, rfl⟩)); clear dummy))
  (k_with "m my_deep" => (first | exact om2 (by assumption) (by decide) | exact om1 (by assumption) (by decide) | exact om0 (by assumption) | (simp only [depth_under_make, depth_under_kw, depth_in1, depth_deeper, depth_caller, units_in1, units_deeper] at *; (try dsimp only at *); walk_at "om")))
  (k_with "m my_call" => ((case zz_B => k_asm); (case zz_F => k_asm); (case zz_hA => rfl); (case zz_hf => rfl); (case zz_hk => rfl); (case zz_X => k_asm); (case zz_T => k_asm); (case zz_d => walk_at "my_deep"); (case zz_u => walk_at "my_deep"); (case zz_h => rfl)))
  (k_with "m exec While BoolOp cons nil" => (k_here; refine Stop.mk ?_))
  trivial
theorem law_same {A : Around} {base : Heap} {outer : List Env} {s : Shared} {R : Result → Shared → Prop} {l1 l2 : Addr} {vs1 vs2 : List Value} {ns1 ns2 : List Int}
  (B : Below A base outer s.heap) (X : (hd.heap_39 w.params).In s.heap) (T : Top hd.view_39 loose mean mg mb s.heap) (hdp : A.depth + 20 < recursionLimit) (hun : A.units + 200 < cLine) (hh : A.handled = none)
  (hl1 : s.heap.IsList l1 vs1.toArray) (hi1 : IntsAre vs1 ns1) (hl2 : s.heap.IsList l2 vs2.toArray) (hi2 : IntsAre vs2 ns2) (hz1 : ns1.length ≤ 1000) (hz2 : ns2.length ≤ 1000)
  (ret : ∀ h' tk t', s.heap.StaysIn h' → R (.ok (.ret (.int (same ns1 ns2 : Nat) t'))) { s with heap := h', toks := tk }) :
  codeAny (model Pg w) A (.call (.ref 155) ⟨[.ref l1, .ref l2], []⟩) R s := by
  obtain ⟨ah, ad, af, ag, au⟩ := A
  obtain rfl : ah = none := hh
  obtain rfl : af = some outer := B.stack
  w_on
  walk_at "my_fill"
  refine enter (binds := [(Str.ofString "one", .ref l1), (Str.ofString "two", .ref l2)]) B X T (by k_is) (by k_is) (by dsimp only at *; walk_at "om") (BindsTo.of_eq rfl) (locs rfl) ?_ (by decide) rfl rfl rfl
  intro g L h₁ eg eL F N B' X' T'
  rw [← eg] at hl1 hl2 ret
  clear B X T eg eL
  (try dsimp only)
  k_fold
  k_steps
  refine Stop.out ?_
  rename Fr _ _ _ _ => F9
  rename News _ _ _ _ => N9
  refine' whileS (σ := Nat × Tok) (fun a => a.1 ≤ same ns1 ns2) (fun a => same ns1 ns2 - a.1) (fun m₀ a z => if z = Str.ofString "same" then some (.int (a.1 : Nat) a.2) else m₀ z) (fun _ => []) (0, ?t0) F9 N9 (by simp) (Nat.zero_le _) ?hm ?turn (by with_unfolding_all passes_own)
  case hm =>
    intro z
    by_cases hz : z = Str.ofString "same"
    · simp only [hz, if_true]; rfl
    · simp only [if_neg hz]
  case turn =>
    clear F9 N9
    rintro ⟨k, tk⟩ h₁ tk₁ hI F9 N9
    dsimp only at hI F9 N9
    have hk1 := same_le1 ns1 ns2
    have hk2 := same_le2 ns1 ns2
    with_reducible show wpAny _ _ _ _ _ _
    k_steps
    · rename (List.getD _ _ _ = _) => hq
      have hlt := (same_getD hI (by assumption) (by assumption)).mp hq
      refine' WStep.intro (k + 1, ?t1) (by assumption) (by assumption) (by simp) ?hm1 (by dsimp only; walk_at "om") (by dsimp only; walk_at "om")
      case hm1 =>
        intro z
        by_cases hz : z = Str.ofString "same"
        · simp only [hz, if_true]; rfl
        · simp only [if_neg hz]
    · rename (List.getD _ _ _ ≠ _) => hq
      have hlt := (not_congr (same_getD hI (by assumption) (by assumption))).mp hq
      have e : k = same ns1 ns2 := by walk_at "om"
      rw [e]
      exact ret _ _ _ (Fr.keep (by assumption))
    · have e : k = same ns1 ns2 := by walk_at "om"
      rw [e]
      exact ret _ _ _ (Fr.keep (by assumption))
    · have e : k = same ns1 ns2 := by walk_at "om"
      rw [e]
      exact ret _ _ _ (Fr.keep (by assumption))
end
section
theorem words_S2_0 : True := by
  k_with_none
  (k_with "m ne" => ((refine neN ?_); (try dsimp only); walk_at "om"))
  (k_with "m om" => (first | with_reducible assumption | exact Nat.le_trans (by with_reducible assumption) (by decide) | exact om4 (by with_reducible assumption) (by decide) | exact om2 (by with_reducible assumption) (by decide) | exact om1 (by with_reducible assumption) (by decide) | exact om0 (by with_reducible assumption) | exact om22 (by with_reducible assumption) (by decide) | exact om18 (by decide) | exact om3 (by with_reducible assumption) (by decide) | exact om10 (by with_reducible assumption) (by with_reducible assumption) (by decide) | exact Ne.symm (by with_reducible assumption) | exact Nat.ne_of_lt (by with_reducible assumption) | exact Nat.ne_of_gt (by with_reducible assumption) | exact om12 (by with_reducible assumption) | exact om14 (by decide) | exact om15 (by decide) | exact om16 (by with_reducible assumption) | exact om17 _ | exact om27 _ _ | exact om28 (by with_reducible assumption) | exact om25 (by with_reducible assumption) | exact om26 (by with_reducible assumption) | exact Nat.succ_le_of_lt (by with_reducible assumption) | exact Nat.lt_of_succ_le (by with_reducible assumption) | exact Nat.sub_succ_lt_self (by with_reducible assumption) | exact Nat.le_antisymm (by with_reducible assumption) (by with_reducible assumption) | exact Nat.le_of_lt (by with_reducible assumption) | exact om11 (by with_reducible assumption) | exact om7 (by with_reducible assumption) (by with_reducible assumption) | exact om8 (by with_reducible assumption) (by with_reducible assumption) | exact om9 (by with_reducible assumption) (by with_reducible assumption) | exact om19 (by with_reducible assumption) (by decide) | exact om20 (by with_reducible assumption) (by decide) | exact om21 (by with_reducible assumption) (by decide) | exact om23 (by with_reducible assumption) | exact om24 (by with_reducible assumption) | exact And.right (by with_reducible assumption) | exact And.left (by with_reducible assumption) | lia | omega))
  trivial
variable {w : World} {loose : List Str} {mean : ExcName → Option Value} {mg mb : Str → Option Value}
theorem words_S2_1 : True := by
  (k_with "m my_hide" => ((have zz_Bq := True.intro); (have zz_Dq := True.intro); (have zz_EAq := True.intro); (have zz_FGq := True.intro); (have zz_Fq := True.intro); (have zz_Iq := True.intro); (have zz_Lq := True.intro); (have zz_Mq := True.intro); (have zz_Nq := True.intro); (have zz_Rnq := True.intro); (have zz_Rq := True.intro); (have zz_Tq := True.intro); (have zz_Uq := True.intro); (have zz_Xq := True.intro); (have zz_eq := True.intro); (have zz_g1 := True.intro); (have zz_g2 := True.intro); (have zz_g3 := True.intro); (have zz_gq := True.intro); (have zz_gs := True.intro); (have zz_h1q := True.intro); (have zz_hCq := True.intro); (have zz_hDq := True.intro); (have zz_hIq := True.intro); (have zz_hLq := True.intro); (have zz_hiq := True.intro); (have zz_hjq := True.intro); (have zz_hoq := True.intro); (have zz_hq := True.intro); (have zz_hsq := True.intro); (have zz_hwq := True.intro); (have zz_hxq := True.intro); (have zz_hyq := True.intro); (have zz_itq := True.intro); (have zz_kq := True.intro); (have zz_l1 := True.intro); (have zz_lq := True.intro); (have zz_sq := True.intro); (have zz_t1q := True.intro); (have zz_t2q := True.intro); (have zz_t3q := True.intro); (have zz_tk9 := True.intro); (have zz_tkq := True.intro); (have zz_tq := True.intro); (have zz_wsq := True.intro); (have zz_yq := True.intro)))
  (k_with "m my_show" => (clear zz_Bq zz_Dq zz_EAq zz_FGq zz_Fq zz_Iq zz_Lq zz_Mq zz_Nq zz_Rnq zz_Rq zz_Tq zz_Uq zz_Xq zz_eq zz_g1 zz_g2 zz_g3 zz_gq zz_gs zz_h1q zz_hCq zz_hDq zz_hIq zz_hLq zz_hiq zz_hjq zz_hoq zz_hq zz_hsq zz_hwq zz_hxq zz_hyq zz_itq zz_kq zz_l1 zz_lq zz_sq zz_t1q zz_t2q zz_t3q zz_tk9 zz_tkq zz_tq zz_wsq zz_yq))
  (k_with "m my_fill" => ((have dummy : hd.heap_39 w.params = hd.heap_39 w.params ∧ Mine.rw = Mine.rw := by (k_fill; exact ⟨rfl, rfl⟩)); clear dummy))
  (k_with "m my_deep" => (first | exact om2 (by assumption) (by decide) | exact om1 (by assumption) (by decide) | exact om0 (by assumption) | (simp only [depth_under_make, depth_under_kw, depth_in1, depth_deeper, depth_caller, units_in1, units_deeper] at *; (try dsimp only at *); walk_at "om")))
  (k_with "m my_call" => ((case zz_B => k_asm); (case zz_F => k_asm); (case zz_hA => rfl); (case zz_hf => rfl); (case zz_hk => rfl); (case zz_X => k_asm); (case zz_T => k_asm); (case zz_d => walk_at "my_deep"); (case zz_u => walk_at "my_deep"); (case zz_h => rfl)))
  (k_with "m call builtin:list.append" => (k_here; (show wpAny _ _ (call (Value.builtin "list.append") [Value.ref _, _]) _ _ _); refine' ls_append ?zz_F ?zz_N ?zz_U ?zz_z ?_; (case zz_F => k_asm); (case zz_N => k_asm); (case zz_U => k_upd); (case zz_z => assumption); intro zz_hq zz_Fq zz_Nq; (try k_sweep)))
  (k_with "m exec While Compare cons nil" => (k_here; refine Stop.mk ?_))
  trivial
theorem fmodN (n : Nat) : Int.fmod (n : Int) 64 = ((n % 64 : Nat) : Int) := by
  rw [Int.fmod_eq_emod_of_nonneg _ (by walk_at "om")]; rfl
theorem fdivN (n : Nat) : Int.fdiv (n : Int) 64 = ((n / 64 : Nat) : Int) := by
  rw [Int.fdiv_eq_ediv_of_nonneg _ (by walk_at "om")]; rfl
theorem ints_snoc {vs : List Value} {ns : List Int} (h : IntsAre vs ns) (n : Int) (t : Tok) : IntsAre (vs ++ [.int n t]) (ns ++ [n]) := by
  induction h with
  | nil => exact .cons n t .nil
  | cons k u r ih => exact .cons k u ih
/-- what the loop of _law_octets puts behind the first figure -/
def tailOf (n : Nat) : List Int := if n < 64 then [] else if n < 4096 then [((n / 64 + 64 : Nat) : Int)] else [((n / 64 % 64 + 64 : Nat) : Int), ((n / 4096 + 64 : Nat) : Int)]
theorem tailOf_step {n : Nat} (h : 63 < n) (hn : n < 262144) : tailOf n = ((n / 64 % 64 + 64 : Nat) : Int) :: tailOf (n / 64) := by
  unfold tailOf
  by_cases h1 : n < 4096
  · rw [if_neg (by walk_at "om"), if_pos h1, if_pos (by walk_at "om")]
    congr 2
    walk_at "om"
  · rw [if_neg (by walk_at "om"), if_neg h1, if_neg (by walk_at "om"), if_pos (by walk_at "om")]
    congr 3
    walk_at "om"
theorem tailOf_len (n : Nat) : (tailOf n).length ≤ 2 := by
  unfold tailOf
  split
  · simp
  · split <;> simp
/-- a number's octets -/
def octs (n : Nat) : List Int := (((n % 64 : Nat) : Int) :: tailOf n).reverse
theorem law_octets {A : Around} {base : Heap} {outer : List Env} {s : Shared} {R : Result → Shared → Prop} {n : Nat} {t : Tok}
  (B : Below A base outer s.heap) (X : (hd.heap_39 w.params).In s.heap) (T : Top hd.view_39 loose mean mg mb s.heap) (hdp : A.depth + 20 < recursionLimit) (hun : A.units + 200 < cLine) (hh : A.handled = none)
  (hn : n < 262144)
  (ret : ∀ h' tk D ws, s.heap.StaysIn h' → s.heap.get? D = none → h'.get? D = some (listOf ws.toArray 0) → IntsAre ws (octs n) → R (.ok (.ret (.ref D))) { s with heap := h', toks := tk }) :
  codeAny (model Pg w) A (.call (.ref 148) ⟨[.int n t], []⟩) R s := by
  obtain ⟨ah, ad, af, ag, au⟩ := A
  obtain rfl : ah = none := hh
  obtain rfl : af = some outer := B.stack
  w_on
  walk_at "my_fill"
  refine enter (binds := [(Str.ofString "number", .int n t)]) B X T (by k_is) (by k_is) (by dsimp only at *; walk_at "om") (BindsTo.of_eq rfl) (locs rfl) ?_ (by decide) rfl rfl rfl
  intro g L h₁ eg eL F N B' X' T'
  rw [← eg] at ret
  clear B X T eg eL
  (try dsimp only)
  k_fold
  k_steps
  refine Stop.out ?_
  rename Fr _ _ _ _ => F9
  rename News _ _ _ _ => N9
  walk_at "my_hide"
  rename_i l' h'1 l1' h'2
  walk_at "my_show"
  rw [fmodN] at N9
  refine' whileS (σ := Nat × Tok × List Value × List Int × Nat) (fun a => IntsAre a.2.2.1 a.2.2.2.1 ∧ a.1 < 262144 ∧ a.2.2.2.1 ++ tailOf a.1 = ((n % 64 : Nat) : Int) :: tailOf n) (fun a => a.1) (fun m₀ a z => if z = Str.ofString "number" then some (.int (a.1 : Nat) a.2.1) else m₀ z) (fun a => [(l', listOf a.2.2.1.toArray a.2.2.2.2)]) (n, t, [.int (n % 64 : Nat) ?t0], [((n % 64 : Nat) : Int)], 0) F9 N9 (by k_allIn) ⟨.cons _ _ .nil, hn, rfl⟩ ?hm ?turn (by with_unfolding_all passes_own)
  case hm =>
    intro z
    by_cases hz : z = Str.ofString "number"
    · simp only [hz, if_true]; rfl
    · simp only [if_neg hz]
  case turn =>
    clear F9 N9
    rintro ⟨k, tk, vs, ns, e⟩ h₁ tk₁ ⟨hI, hk, ht⟩ F9 N9
    dsimp only at hI hk ht F9 N9
    have hlen : ns.length ≤ 3 := by
      have h1 := congrArg List.length ht
      have h2 := tailOf_len n
      simp only [List.length_append, List.length_cons] at h1
      walk_at "om"
    have hzv : vs.length ≤ 100000 := by rw [hI.length]; walk_at "om"
    with_reducible show wpAny _ _ _ _ _ _
    k_steps
    · rename News _ _ _ _ => N8
      rename (63 < (k : Int)) => hlt
      have hst := tailOf_step (n := k) (by walk_at "om") hk
      rw [fdivN, fmodN, show (((k / 64 % 64 : Nat) : Int) + 64) = ((k / 64 % 64 + 64 : Nat) : Int) from rfl] at N8
      refine' WStep.intro (k / 64, ?t1, vs ++ [.int ((k / 64 % 64 + 64 : Nat) : Int) ?t2], ns ++ [((k / 64 % 64 + 64 : Nat) : Int)], e + 1) (by assumption) N8 (by k_allIn) ?hm1 (by dsimp only; walk_at "om") ⟨ints_snoc hI _ ?t2, by (try dsimp only); walk_at "om", by (try dsimp only); rw [← ht, hst]; simp⟩
      case hm1 =>
        intro z
        by_cases hz : z = Str.ofString "number"
        · simp only [hz, if_true]; exact congrArg (fun i => some (Value.int i _)) (fdivN k)
        · simp only [if_neg hz]
    · rename (¬ 63 < (k : Int)) => hlt
      have e0 : tailOf k = [] := by unfold tailOf; rw [if_pos (by walk_at "om")]
      rw [e0, List.append_nil] at ht
      subst ht
      exact ret _ _ _ _ (Fr.keep (by assumption)) (News.fresh (by assumption) (List.Mem.head _)) (News.get (by assumption) (List.Mem.head _)) (by assumption)
end
section
abbrev iterObj (l : Addr) (i : Nat) : Obj := { cls := .type "list_iterator", data := .fields #[.ref l, .int i 0] }
section
variable {w : World} {loose : List Str} {mean : ExcName → Option Value} {mg mb : Str → Option Value}
theorem enterH {A : Around} {base : Heap} {outer : List Env} {s : Shared} {R : Result → Shared → Prop} {I : Addr} {oI : Obj}
    {name qual : Str} {params : Arguments} {body : List Stmt} {scope : Scope} {dV kV doc pm cdv ct oc : Value} {an od : Option Addr} {osl : Array (Option Value)} {f : Addr} {args : Args} {binds : List (Str × Value)}
    (B : Below A base outer s.heap) (X : (hd.heap_39 w.params).In base) (T : Top hd.view_39 loose mean mg mb base) (hbI : base.get? I = none) (hfr : ∀ env ∈ outer, env.frame ≠ some I) (hit : s.heap.get? I = some oI)
    (ho : (hd.heap_39 w.params).lookup f = some ⟨oc, od, .func (fnOf name qual params body scope dV kV doc pm an cdv ct), osl⟩) (hcd : codeIn (hd.heap_39 w.params) cdv qual = true) (hroom : A.depth < recursionLimit)
    (hbind : BindsTo s (fnOf name qual params body scope dV kV doc pm an cdv ct) args binds) (hloc : ∀ y ∈ binds, scope.names.lookup y.1 = some .local)
    (h : ∀ g L h₁, (∀ b o, b ≠ I → s.heap.get? b = some o → g.get? b = some o) → Fr g L h₁ (fun y => binds.reverse.lookup y) → News g L h₁ [(I, oI)] → Below A base outer g → (hd.heap_39 w.params).In g → Top hd.view_39 loose mean mg mb g →
      wpAny (model Pg w) (A.deeper (envOf qual scope L f cdv)) (execs body (envOf qual scope L f cdv))
        (fun fl s' => R (.ok (.ret (match fl with | .ret v => v | _ => .none))) s')
        (fun e s' => wpAny (model Pg w) (A.deeper (envOf qual scope L f cdv)) (leaving (envOf qual scope L f cdv) e) (fun _ s'' => R (.error e) s'') (fun e' s'' => R (.error e') s'') s')
        { s with heap := h₁, toks := s.toks + binds.length })
    (hcell : ∀ x ∈ scope.names, x.2 ≠ .cell) (hco : scope.isCoroutine = false) (hgen : scope.isGenerator = false) (hk : scope.kind = .function) :
    codeAny (model Pg w) A (.call (.ref f) args) R s := by
  have X' := Frag.In.keeps X B.stays
  have T' := T.keeps B.stays
  have hne : ∀ b o, base.get? b = some o → b ≠ I := fun b o e q => by rw [q, hbI] at e; cases e
  have st : base.StaysIn (hideAll s.heap [I]) := fun b o e => hideAll_get _ (B.stays b o e) (by simpa using hne b o e)
  refine codeAny_call_def (fd := fnOf name qual params body scope dV kV doc pm an cdv ct) (body := body) (binds := binds) hroom (X' _ _ ho) rfl T'.nolimit (codeRec_of X' hcd) rfl hbind hcell hloc (fun h₁ hns hk₁ => ?_) hco hgen hk
  refine h (hideAll s.heap [I]) s.heap.objs.size h₁ (fun b o hb e => hideAll_get _ e (by simpa using hb)) ⟨hns, fun b o e => hk₁ b o (of_hideAll _ e), Nat.le_of_eq (hideAll_size _ _)⟩ ?_ ⟨B.stack, st, funFrames_hideAll B.frames fun env he a ha => by rw [List.mem_singleton.mp ha]; exact hfr env he⟩ (Frag.In.keeps X st) (T.keeps st)
  intro p hp
  rw [List.mem_singleton.mp hp]
  exact ⟨hk₁ _ _ hit, Nat.ne_of_lt (Heap.lt_size hit), hideAll_none _ (List.Mem.head _)⟩
end
section
variable {prog : Program} {w : World} {A : Around} {E : Value → Shared → Prop} {s : Shared} {h₀ : Heap} {L it l : Addr} {m : Str → Option Value} {news news' : List (Addr × Obj)} {items : Array Value} {i : Nat}
theorem nx_item {x : Value} {Q : Value → Shared → Prop} (F : Fr h₀ L s.heap m) (N : News h₀ L s.heap news) (U : Upd it (iterObj l i) (iterObj l (i + 1)) news news') (hl : s.heap.IsList l items) (hx : items[i]? = some x)
    (h : ∀ h', Fr h₀ L h' m → News h₀ L h' news' → Q x { s with heap := h' }) : wpAny (model prog w) A (call (.builtin "next") [.ref it]) Q E s := by
  obtain ⟨pre, post, rfl, rfl, a, b⟩ := U.split
  have z := N (it, iterObj l i) (List.mem_append.mpr (.inr (.head _)))
  have hit : s.heap.IsListIter it l i := ⟨_, z.1, rfl, rfl⟩
  obtain ⟨ol, hol, _, nl, hdl⟩ := hl
  refine call_function_entry (by decide +kernel) (by decide +kernel) kdk_entry_next (kdk_args_next _) ?_
  unfold Builtin.«next»
  refine wpAny_bind (m := someArgs "next" 1 2 _) (wpAny_of_eq (a := [Value.ref it]) (by first | rfl | kernel_rfl!) ?_)
  dsimp only
  refine wpAny_bind (wpAny_specialOf (name := Str.ofString "__next__") hit.typeIs slot_listiter_next.lookup ?_)
  refine wpAny_ite_split (fun hab => absurd hab (by decide)) (fun _ => ?_)
  refine wpAny_bind (wpAny_callSpecial?_slot (name := Str.ofString "__next__") hit.typeIs slot_listiter_next
    (wpAny_call_entry slot_listiter_next hit.typeIs entry_listiter_next ?_ (args_listiter_next _)))
  show wpAny _ _ (field (.ref it) 0 >>= _) _ _ s
  refine wpAny_bind (wpAny_field z.1 rfl (x := .ref l) rfl ?_)
  show wpAny _ _ (if (Value.ref l == Value.none) = true then _ else _) _ _ s
  rw [if_neg (show ¬ ((Value.ref l == Value.none) = true) from Bool.false_ne_true)]
  show wpAny _ _ (field (.ref it) 1 >>= _) _ _ s
  refine wpAny_bind (wpAny_field z.1 rfl (x := .int i 0) rfl ?_)
  show wpAny _ _ (seqItems? (.ref l) >>= _) _ _ s
  refine wpAny_bind (wpAny_seqItems hol hdl ?_)
  simp only [Int.toNat_natCast, hx]
  have u := news_upd (o' := iterObj l (i + 1)) (f := Obj.mapFields (·.setIfInBounds 1 (rawInt ((i : Int) + 1)))) F N a b rfl rfl
  exact wpAny_bind (wpAny_setField z.1 rfl (by simp) (wpAny_pure ⟨x, rfl, wpAny_pure ⟨_, rfl, h _ u.1 u.2⟩⟩))
theorem nx_end {Q : Value → Shared → Prop} (hh : A.handled = none) (F : Fr h₀ L s.heap m) (N : News h₀ L s.heap news) (U : Upd it (iterObj l i) { cls := .type "list_iterator", data := .fields #[.none, .int i 0] } news news') (hl : s.heap.IsList l items) (hx : items[i]? = none)
    (h : ∀ h₁ h' e, Fr h₀ L h₁ m → News h₀ L h₁ news' → Heap.NewExc h₁ h' e "StopIteration" → E (.ref e) { s with heap := h' }) : wpAny (model prog w) A (call (.builtin "next") [.ref it]) Q E s := by
  obtain ⟨pre, post, rfl, rfl, a, b⟩ := U.split
  have z := N (it, iterObj l i) (List.mem_append.mpr (.inr (.head _)))
  have hit : s.heap.IsListIter it l i := ⟨_, z.1, rfl, rfl⟩
  obtain ⟨ol, hol, _, nl, hdl⟩ := hl
  refine call_function_entry (by decide +kernel) (by decide +kernel) kdk_entry_next (kdk_args_next _) ?_
  unfold Builtin.«next»
  refine wpAny_bind (m := someArgs "next" 1 2 _) (wpAny_of_eq (a := [Value.ref it]) (by first | rfl | kernel_rfl!) ?_)
  dsimp only
  refine wpAny_bind (wpAny_specialOf (name := Str.ofString "__next__") hit.typeIs slot_listiter_next.lookup ?_)
  refine wpAny_ite_split (fun hab => absurd hab (by decide)) (fun _ => ?_)
  refine wpAny_bind (wpAny_callSpecial?_slot (name := Str.ofString "__next__") hit.typeIs slot_listiter_next
    (wpAny_call_entry slot_listiter_next hit.typeIs entry_listiter_next ?_ (args_listiter_next _)))
  show wpAny _ _ (field (.ref it) 0 >>= _) _ _ s
  refine wpAny_bind (wpAny_field z.1 rfl (x := .ref l) rfl ?_)
  show wpAny _ _ (if (Value.ref l == Value.none) = true then _ else _) _ _ s
  rw [if_neg (show ¬ ((Value.ref l == Value.none) = true) from Bool.false_ne_true)]
  show wpAny _ _ (field (.ref it) 1 >>= _) _ _ s
  refine wpAny_bind (wpAny_field z.1 rfl (x := .int i 0) rfl ?_)
  show wpAny _ _ (seqItems? (.ref l) >>= _) _ _ s
  refine wpAny_bind (wpAny_seqItems hol hdl ?_)
  simp only [Int.toNat_natCast, hx]
  have u := news_upd (o' := { cls := .type "list_iterator", data := .fields #[.none, .int i 0] }) (f := Obj.mapFields (·.setIfInBounds 0 .none)) F N a b rfl rfl
  refine wpAny_bind (wpAny_rule (wpAny_bind (wpAny_setField z.1 rfl (by simp) ?_)))
  show wpAny _ _ (newExc (.type "StopIteration") [] >>= _) _ _ _
  refine wpAny_bind ?_
  simp only [newExc, newTuple]
  refine wpAny_bind (wpAny_newObj_type ?_ (by size_fits))
  refine wpAny_bind (m := firstArgMember _ _) (wpAny_of_eq (a := Value.none) (by first | rfl | (simp only [firstArgMember]; rfl)) ?_)
  refine wpAny_newObj_type ?_ (by size_fits)
  simp only [raiseNew]
  refine wpAny_bind (wpAny_handled ?_)
  rw [show A.in1.in1.handled = none from hh]
  refine wpAny_bind (wpAny_pure (wpAny_throw ?_))
  refine h _ _ _ u.1 u.2 ⟨fun b o e => Heap.get?_push_of_some _ (Heap.get?_push_of_some _ e), ?_, ?_⟩
  · exact Heap.get?_none_of_le (by rw [Heap.size_push]; exact Nat.le_succ _)
  · exact ⟨_, _, Heap.get?_push_size _ rfl, rfl, rfl⟩
end
end
section
theorem words_S4_0 : True := by
  k_with_none
  (k_with "m ne" => ((refine neN ?_); (try dsimp only); walk_at "om"))
  (k_with "m om" => (first | with_reducible assumption | exact Nat.le_trans (by with_reducible assumption) (by decide) | exact om4 (by with_reducible assumption) (by decide) | exact om2 (by with_reducible assumption) (by decide) | exact om1 (by with_reducible assumption) (by decide) | exact om0 (by with_reducible assumption) | exact om22 (by with_reducible assumption) (by decide) | exact om18 (by decide) | exact om3 (by with_reducible assumption) (by decide) | exact om10 (by with_reducible assumption) (by with_reducible assumption) (by decide) | exact Ne.symm (by with_reducible assumption) | exact Nat.ne_of_lt (by with_reducible assumption) | exact Nat.ne_of_gt (by with_reducible assumption) | exact om12 (by with_reducible assumption) | exact om14 (by decide) | exact om15 (by decide) | exact om16 (by with_reducible assumption) | exact om17 _ | exact om27 _ _ | exact om28 (by with_reducible assumption) | exact om25 (by with_reducible assumption) | exact om26 (by with_reducible assumption) | exact Nat.succ_le_of_lt (by with_reducible assumption) | exact Nat.lt_of_succ_le (by with_reducible assumption) | exact Nat.sub_succ_lt_self (by with_reducible assumption) | exact Nat.le_antisymm (by with_reducible assumption) (by with_reducible assumption) | exact Nat.le_of_lt (by with_reducible assumption) | exact om11 (by with_reducible assumption) | exact om7 (by with_reducible assumption) (by with_reducible assumption) | exact om8 (by with_reducible assumption) (by with_reducible assumption) | exact om9 (by with_reducible assumption) (by with_reducible assumption) | exact om19 (by with_reducible assumption) (by decide) | exact om20 (by with_reducible assumption) (by decide) | exact om21 (by with_reducible assumption) (by decide) | exact om23 (by with_reducible assumption) | exact om24 (by with_reducible assumption) | exact And.right (by with_reducible assumption) | exact And.left (by with_reducible assumption) | lia | omega))
  trivial
variable {w : World} {loose : List Str} {mean : ExcName → Option Value} {mg mb : Str → Option Value}
theorem words_S4_1 : True := by
  (k_with "m my_fill" => ((have dummy : hd.heap_39 w.params = hd.heap_39 w.params ∧ Mine.rw = Mine.rw := by (k_fill; exact ⟨rfl, rfl⟩)); clear dummy))
  (k_with "m my_deep" => (first | exact om2 (by assumption) (by decide) | exact om1 (by assumption) (by decide) | exact om0 (by assumption) | (simp only [depth_under_make, depth_under_kw, depth_in1, depth_deeper, depth_caller, units_in1, units_deeper] at *; (try dsimp only at *); walk_at "om")))
  (k_with "m my_call" => ((case zz_B => k_asm); (case zz_F => k_asm); (case zz_hA => rfl); (case zz_hf => rfl); (case zz_hk => rfl); (case zz_X => k_asm); (case zz_T => k_asm); (case zz_d => walk_at "my_deep"); (case zz_u => walk_at "my_deep"); (case zz_h => rfl)))
  (k_with "m exec While BinOp cons nil" => (k_here; refine Stop.mk ?_))
  (k_with "m call builtin:next" => (k_here; (with_reducible show wpAny _ _ (call (Value.builtin "next") [Value.ref _]) _ _ _); refine' nx_item ?zz_F ?zz_N ?zz_U ?zz_l ?zz_x ?_; (case zz_F => k_asm); (case zz_N => k_asm); (case zz_U => k_upd); (case zz_l => is_list); (case zz_x => assumption); intro zz_hq zz_Fq zz_Nq; (try k_sweep)))
  trivial
theorem ints_at {vs : List Value} {ns : List Int} (h : IntsAre vs ns) {i : Nat} {x : Int} (hx : ns[i]? = some x) : ∃ t, vs.toArray[i]? = some (.int x t) := by
  obtain ⟨t, ht⟩ := h.get i x hx
  exact ⟨t, by simpa using ht⟩
theorem pre_at {a : List Int} {ns : List Int} {i j : Nat} {x : Int} (h : a <+: ns.drop i) (hj : a[j]? = some x) : ns[i + j]? = some x := by
  obtain ⟨r, e⟩ := h
  rw [← List.getElem?_drop, ← e, List.getElem?_append_left (List.getElem?_eq_some_iff.mp hj).1, hj]
/-- the j-th octet of a number of k + 1 figures, and what stands behind it -/
def bj (n k j : Nat) : Nat := n / 64 ^ (k - j) % 64 + if j < k then 64 else 0
def vj (n k j : Nat) : Nat := n / 64 ^ (k - j)
theorem words_S4_2 : True := by
  (k_with "m inplaceOp LShift int int" => (k_here; refine' ilshift_int_small ?zz_a ?zz_b ?zz_c ?_; (case zz_a => assumption); (case zz_b => decide); (case zz_c => decide)))
  trivial
theorem and63 (b : Nat) : Builtin.bitAnd (b : Int) 63 = ((b % 64 : Nat) : Int) := by
  rw [bitAnd_pp (by walk_at "om") (by decide)]
  congr 1
  exact Nat.and_two_pow_sub_one_eq_mod b 6
theorem and64 {b : Nat} (h : b < 128) : Builtin.bitAnd (b : Int) 64 = if 64 ≤ b then 64 else 0 := by
  have : ∀ b : Fin 128, Builtin.bitAnd ((b : Nat) : Int) 64 = if 64 ≤ (b : Nat) then 64 else 0 := by decide +kernel
  exact this ⟨b, h⟩
theorem or63 (v c : Nat) (h : c < 64) : Builtin.bitOr ((v : Int) * 64) (c : Int) = ((v * 64 + c : Nat) : Int) := by
  rw [bitOr_and, show ((v : Int) * 64) = ((v * 64 : Nat) : Int) from rfl, bitAnd_pp (by walk_at "om") (by walk_at "om")]
  have e : (v * 64) &&& c = 0 := by
    have h1 : c = c % 2 ^ 6 := by rw [Nat.mod_eq_of_lt h]
    apply Nat.eq_of_testBit_eq
    intro i
    rw [Nat.testBit_and, Nat.zero_testBit]
    by_cases hi : i < 6
    · have : (v * 64).testBit i = false := by
        rw [show v * 64 = v <<< 6 by rw [Nat.shiftLeft_eq], Nat.testBit_shiftLeft]
        simp; walk_at "om"
      rw [this]; rfl
    · have : c.testBit i = false := Nat.testBit_lt_two_pow (Nat.lt_of_lt_of_le h (show (2 : Nat) ^ 6 ≤ 2 ^ i from Nat.pow_le_pow_right (by decide) (by walk_at "om")))
      rw [this, Bool.and_false]
  simp only [Int.toNat_natCast, e]
  walk_at "om"
theorem bj_lt (n k j : Nat) : bj n k j < 128 := by
  unfold bj
  have := Nat.mod_lt (n / 64 ^ (k - j)) (by decide : 0 < 64)
  split <;> walk_at "om"
theorem bj_on {n k j : Nat} (h : j < k) : Builtin.bitAnd (bj n k j : Int) 64 = 64 := by
  rw [and64 (bj_lt n k j), if_pos]
  unfold bj; rw [if_pos h]; walk_at "om"
theorem bj_off {n k j : Nat} (h : k ≤ j) : Builtin.bitAnd (bj n k j : Int) 64 = 0 := by
  rw [and64 (bj_lt n k j), if_neg]
  have := Nat.mod_lt (n / 64 ^ (k - j)) (by decide : 0 < 64)
  unfold bj; rw [if_neg (by walk_at "om")]; walk_at "om"
theorem bj_mod (n k j : Nat) : bj n k j % 64 = n / 64 ^ (k - j) % 64 := by
  unfold bj; split <;> walk_at "om"
theorem vj_start {n k : Nat} (h : n < 64 ^ (k + 1)) : bj n k 0 % 64 = vj n k 0 := by
  rw [bj_mod]; unfold vj
  refine Nat.mod_eq_of_lt ?_
  rw [Nat.sub_zero]
  exact Nat.div_lt_of_lt_mul (by rw [Nat.pow_succ] at h; exact h)
theorem vj_step {n k j : Nat} (h : j < k) : vj n k j * 64 + bj n k (j + 1) % 64 = vj n k (j + 1) := by
  rw [bj_mod]; unfold vj
  have e : k - j = (k - (j + 1)) + 1 := (Nat.sub_add_cancel (Nat.sub_pos_of_lt h)).symm
  rw [e, Nat.pow_succ, ← Nat.div_div_eq_div_mul, Nat.mul_comm]
  exact Nat.div_add_mod _ _
theorem vj_le (n k j : Nat) : vj n k j ≤ n := Nat.div_le_self _ _
theorem varint {A : Around} {base : Heap} {outer : List Env} {s : Shared} {R : Result → Shared → Prop} {I l : Addr} {i n k : Nat} {vs : List Value} {ns : List Int}
  (B : Below A base outer s.heap) (X : (hd.heap_39 w.params).In base) (T : Top hd.view_39 loose mean mg mb base) (hdp : A.depth + 20 < recursionLimit) (hun : A.units + 200 < cLine) (hh : A.handled = none)
  (hbI : base.get? I = none) (hfr : ∀ env ∈ outer, env.frame ≠ some I) (hit : s.heap.get? I = some (iterObj l i)) (hl : s.heap.IsList l vs.toArray) (hi : IntsAre vs ns) (hk : k ≤ 2) (hn : n < 64 ^ (k + 1)) (ho : ∀ j, j ≤ k → ns[i + j]? = some (bj n k j : Int))
  (ret : ∀ h' tk t, (∀ b o, b ≠ I → s.heap.get? b = some o → h'.get? b = some o) → h'.get? I = some (iterObj l (i + (k + 1))) → R (.ok (.ret (.int n t))) { s with heap := h', toks := tk }) :
  codeAny (model Pg w) A (.call (.ref 28) ⟨[.ref I], []⟩) R s := by
  obtain ⟨ah, ad, af, ag, au⟩ := A
  obtain rfl : ah = none := hh
  obtain rfl : af = some outer := B.stack
  w_on
  walk_at "my_fill"
  refine enterH (binds := [(Str.ofString "iterator", .ref I)]) B X T hbI hfr hit (by k_is) (by k_is) (by dsimp only at *; walk_at "om") (BindsTo.of_eq rfl) (locs rfl) ?_ (by decide) rfl rfl rfl
  intro g L h₁ hg F N B' X' T'
  have hlI : l ≠ I := by
    rintro rfl
    obtain ⟨o, h1, h2, _⟩ := hl
    rw [hit] at h1; cases h1; exact absurd h2 (by simp)
  have hl' : g.IsList l vs.toArray := by
    obtain ⟨o, h1, h2⟩ := hl
    exact ⟨o, hg _ _ hlI h1, h2⟩
  have ret' : ∀ h' tk t, g.StaysIn h' → h'.get? I = some (iterObj l (i + (k + 1))) → R (.ok (.ret (.int n t))) { s with heap := h', toks := tk } := fun h' tk t hs h2 => ret h' tk t (fun b o hb e => hs b o (hg b o hb e)) h2
  clear B X T hl hg ret hit
  obtain ⟨t0, hx0⟩ := ints_at hi (ho 0 (Nat.zero_le _))
  with_reducible show wpAny _ _ _ _ _ _
  k_fold
  k_steps
  refine Stop.out ?_
  rename Fr _ _ _ _ => F9
  rename News _ _ _ _ => N9
  refine' whileS (σ := Nat × Tok × Tok) (fun a => a.1 ≤ k) (fun a => k - a.1) (fun m₀ a z => if z = Str.ofString "b" then some (.int (bj n k a.1 : Nat) a.2.1) else if z = Str.ofString "val" then some (.int (vj n k a.1 : Nat) a.2.2) else m₀ z) (fun a => [(I, iterObj l (i + 1 + a.1))]) (0, t0, ?tv) F9 N9 (by k_allIn) (Nat.zero_le _) ?hm ?turn (by with_unfolding_all passes_own)
  case hm =>
    intro z
    by_cases hz : z = Str.ofString "b"
    · simp only [hz, if_true]; rfl
    · by_cases hv : z = Str.ofString "val"
      · have e : Builtin.bitAnd (bj n k 0 : Int) 63 = ((vj n k 0 : Nat) : Int) := by rw [and63, vj_start hn]
        simp only [hv, if_true]
        exact congrArg (fun i => some (Value.int i _)) e
      · simp only [if_neg hz, if_neg hv]
  case turn =>
    clear F9 N9
    rintro ⟨j, tb, tv⟩ h₁ tk₁ hj F9 N9
    dsimp only at hj F9 N9
    rcases Nat.lt_or_ge j k with hjk | hjk
    · obtain ⟨t1, hx1⟩ := ints_at hi (ho (j + 1) hjk)
      rw [show i + (j + 1) = i + 1 + j by walk_at "om"] at hx1
      with_reducible show wpAny _ _ _ _ _ _
      have hsz : (vj n k j : Int).natAbs < 2 ^ 64 := by
        have h1 := vj_le n k j
        have h2 : n < 64 ^ (2 + 1) := Nat.lt_of_lt_of_le hn (Nat.pow_le_pow_right (by decide) (by walk_at "om"))
        have h3 : (64 : Nat) ^ (2 + 1) = 262144 := by decide
        walk_at "om"
      k_steps
      · refine' WStep.intro (j + 1, t1, ?tw) (by assumption) (by assumption) (by k_allIn) ?hm1 (by dsimp only; walk_at "om") (by dsimp only; walk_at "om")
        case hm1 =>
          intro z
          by_cases hz : z = Str.ofString "b"
          · simp only [hz, if_true]; rfl
          · by_cases hv : z = Str.ofString "val"
            · have e : Builtin.bitOr ((vj n k j : Nat) * 2 ^ Int.toNat 6) (Builtin.bitAnd (bj n k (j + 1) : Nat) 63) = ((vj n k (j + 1) : Nat) : Int) := by
                rw [and63, show ((2 : Int) ^ Int.toNat 6) = 64 from rfl, or63 _ _ (Nat.mod_lt _ (by decide)), vj_step hjk]
              simp only [hv, if_true]
              exact congrArg (fun i => some (Value.int i _)) e
            · simp only [if_neg hz, if_neg hv]
      · exfalso
        rename (Builtin.bitAnd _ _ = 0) => h0
        rw [bj_on hjk] at h0
        exact absurd h0 (by decide)
    · obtain rfl : j = k := by walk_at "om"
      with_reducible show wpAny _ _ _ _ _ _
      k_steps
      · exfalso
        rename (Builtin.bitAnd _ _ ≠ 0) => h0
        exact h0 (bj_off (Nat.le_refl _))
      · have e : vj n j j = n := by unfold vj; rw [Nat.sub_self, Nat.pow_zero, Nat.div_one]
        rw [e]
        refine ret' _ _ _ (Fr.keep (by assumption)) ?_
        rw [show i + (j + 1) = i + 1 + j by walk_at "om"]
        exact News.get (by assumption) (List.Mem.head _)
end
section
theorem words_S5_0 : True := by
  k_with_none
  (k_with "m ne" => ((refine neN ?_); (try dsimp only); walk_at "om"))
  (k_with "m om" => (first | with_reducible assumption | exact Nat.le_trans (by with_reducible assumption) (by decide) | exact om4 (by with_reducible assumption) (by decide) | exact om2 (by with_reducible assumption) (by decide) | exact om1 (by with_reducible assumption) (by decide) | exact om0 (by with_reducible assumption) | exact om22 (by with_reducible assumption) (by decide) | exact om18 (by decide) | exact om3 (by with_reducible assumption) (by decide) | exact om10 (by with_reducible assumption) (by with_reducible assumption) (by decide) | exact Ne.symm (by with_reducible assumption) | exact Nat.ne_of_lt (by with_reducible assumption) | exact Nat.ne_of_gt (by with_reducible assumption) | exact om12 (by with_reducible assumption) | exact om14 (by decide) | exact om15 (by decide) | exact om16 (by with_reducible assumption) | exact om17 _ | exact om27 _ _ | exact om28 (by with_reducible assumption) | exact om25 (by with_reducible assumption) | exact om26 (by with_reducible assumption) | exact Nat.succ_le_of_lt (by with_reducible assumption) | exact Nat.lt_of_succ_le (by with_reducible assumption) | exact Nat.sub_succ_lt_self (by with_reducible assumption) | exact Nat.le_antisymm (by with_reducible assumption) (by with_reducible assumption) | exact Nat.le_of_lt (by with_reducible assumption) | exact om11 (by with_reducible assumption) | exact om7 (by with_reducible assumption) (by with_reducible assumption) | exact om8 (by with_reducible assumption) (by with_reducible assumption) | exact om9 (by with_reducible assumption) (by with_reducible assumption) | exact om19 (by with_reducible assumption) (by decide) | exact om20 (by with_reducible assumption) (by decide) | exact om21 (by with_reducible assumption) (by decide) | exact om23 (by with_reducible assumption) | exact om24 (by with_reducible assumption) | exact And.right (by with_reducible assumption) | exact And.left (by with_reducible assumption) | lia | omega))
  trivial
variable {w : World} {loose : List Str} {mean : ExcName → Option Value} {mg mb : Str → Option Value}
theorem words_S5_1 : True := by
  (k_with "m my_fill" => ((have dummy : hd.heap_39 w.params = hd.heap_39 w.params ∧ Mine.rw = Mine.rw := by (k_fill; exact ⟨rfl, rfl⟩)); clear dummy))
  (k_with "m my_deep" => (first | exact om2 (by assumption) (by decide) | exact om1 (by assumption) (by decide) | exact om0 (by assumption) | (simp only [depth_under_make, depth_under_kw, depth_in1, depth_deeper, depth_caller, units_in1, units_deeper] at *; (try dsimp only at *); walk_at "om")))
  (k_with "m my_call" => ((case zz_B => k_asm); (case zz_F => k_asm); (case zz_hA => rfl); (case zz_hf => rfl); (case zz_hk => rfl); (case zz_X => k_asm); (case zz_T => k_asm); (case zz_d => walk_at "my_deep"); (case zz_u => walk_at "my_deep"); (case zz_h => rfl)))
  (k_with "m call builtin:next" => (k_here; (with_reducible show wpAny _ _ (call (Value.builtin "next") [Value.ref _]) _ _ _); refine' nx_item ?zz_F ?zz_N ?zz_U ?zz_l ?zz_x ?_; (case zz_F => k_asm); (case zz_N => k_asm); (case zz_U => k_upd); (case zz_l => first | is_list | exact stays_list (Fr.keep (by assumption)) (stays_list (Fr.keep (by assumption)) (by assumption))); (case zz_x => assumption); intro zz_hq zz_Fq zz_Nq; (try k_sweep)))
  (k_with "m call builtin:next" => (k_here; (with_reducible show wpAny _ _ (call (Value.builtin "next") [Value.ref _]) _ _ _); refine' nx_end ?zz_h ?zz_F ?zz_N ?zz_U ?zz_l ?zz_x ?_; (case zz_h => exact rfl); (case zz_F => k_asm); (case zz_N => k_asm); (case zz_U => k_upd); (case zz_l => first | is_list | exact stays_list (Fr.keep (by assumption)) (stays_list (Fr.keep (by assumption)) (by assumption))); (case zz_x => assumption); intro zz_h1q zz_hq zz_eq zz_Fq zz_Nq zz_hxq; (try k_sweep); (try k_unfold); (try dsimp only)))
  (k_with "m call ref" => (k_here; (with_reducible show wpAny _ _ (call (Value.ref 28) _ _) _ _ _); refine wpAny_call ?_; k_dflt (refine' code_def  ?zz_k1 ?zz_k2 ?zz_k3 ?zz_k4 ?zz_k5 ?zz_kA ?zz_kF ?zz_kK ?zz_k6 ?zz_k7 ?zz_k8 ?zz_k9 ?zz_kB ?_ ?zz_c2 ?zz_c3 ?zz_c4 ?zz_c5; (case zz_kA => exact rfl); (case zz_kF => exact rfl); (case zz_kK => exact rfl); (case zz_k1 => k_asm); (case zz_k2 => k_asm); (case zz_k3 => k_asm); (case zz_k4 => k_asm); (case zz_k5 => k_asm); (case zz_k6 => k_is); (case zz_k7 => k_is); (case zz_k8 => walk_at "my_deep"); (case zz_k9 => exact BindsTo.of_eq rfl); (case zz_c5 => decide); (case zz_kB => exact locs rfl); (case zz_c2 => exact rfl); (case zz_c3 => exact rfl); (case zz_c4 => exact rfl); k_whole; intro zz_gq zz_Lq zz_hq zz_FGq zz_Fq zz_Nq zz_Bq zz_Xq zz_Tq; (try dsimp only); (try k_fold))))
  (k_with "m leaving ref" => (k_here; refine' leave_newS ?zz_K ?zz_x ?zz_F ?zz_N ?_ ?zz_k; (case zz_K => k_asm); (case zz_x => assumption); (case zz_F => k_asm); (case zz_N => k_asm); (case zz_k => rfl); intro zz_hq zz_Rq zz_Rnq zz_Uq; clear zz_Rnq))
  trivial
theorem stop_isExc : isSubtype (.type "StopIteration") (.type "BaseException") = pure true := by rw [isSubtype_type]; kernel_rfl
theorem stop_self : isSubtype (.type "StopIteration") (.type "StopIteration") = pure true := by rw [isSubtype_type]; kernel_rfl
theorem stop_notTuple : isSubtype (.type ((Manifest.find? "StopIteration").elim "type" fun x => x.metatype)) (.type "tuple") = pure false := by
  rw [show ((Manifest.find? "StopIteration").elim "type" fun x => x.metatype) = "type" from by kernel_rfl, isSubtype_type]; kernel_rfl
theorem law_over0 {A : Around} {base : Heap} {outer : List Env} {s : Shared} {R : Result → Shared → Prop} {I l : Addr} {i : Nat} {vs : List Value}
  (B : Below A base outer s.heap) (X : (hd.heap_39 w.params).In base) (T : Top hd.view_39 loose mean mg mb base) (hdp : A.depth + 20 < recursionLimit) (hun : A.units + 200 < cLine) (hh : A.handled = none)
  (hbI : base.get? I = none) (hfr : ∀ env ∈ outer, env.frame ≠ some I) (hit : s.heap.get? I = some (iterObj l i)) (hl : s.heap.IsList l vs.toArray) (hx : vs.toArray[i]? = none)
  (hD : KtsDicts (outer.filterMap (·.frame)) s.heap)
  (ret : ∀ h' tk, (∀ b o, b ≠ I → b ∉ outer.filterMap (·.frame) → s.heap.get? b = some o → h'.get? b = some o) → (∀ b o, b ∈ outer.filterMap (·.frame) → s.heap.get? b = some o → ∃ sl, h'.get? b = some { o with slots := sl }) → R (.ok (.ret (.bool true))) { s with heap := h', toks := tk }) :
  codeAny (model Pg w) A (.call (.ref 167) ⟨[.ref I], []⟩) R s := by
  obtain ⟨ah, ad, af, ag, au⟩ := A
  obtain rfl : ah = none := hh
  obtain rfl : af = some outer := B.stack
  w_on
  walk_at "my_fill"
  refine enterH (binds := [(Str.ofString "walker", .ref I)]) B X T hbI hfr hit (by k_is) (by k_is) (by dsimp only at *; walk_at "om") (BindsTo.of_eq rfl) (locs rfl) ?_ (by decide) rfl rfl rfl
  intro g L h₁ hg F N B' X' T'
  have hlI : l ≠ I := by
    rintro rfl
    obtain ⟨o, h1, h2, _⟩ := hl
    rw [hit] at h1; cases h1; exact absurd h2 (by simp)
  have hl' : g.IsList l vs.toArray := by
    obtain ⟨o, h1, h2⟩ := hl
    exact ⟨o, hg _ _ hlI h1, h2⟩
  have hfI : I ∉ outer.filterMap (·.frame) := fun hm => by
    obtain ⟨env, he, hf⟩ := List.mem_filterMap.mp hm
    exact hfr env he hf
  have hD' : KtsDicts (outer.filterMap (·.frame)) g := fun b hb => by
    obtain ⟨o, es, n, h1, h2⟩ := hD b hb
    exact ⟨o, es, n, hg b o (fun e => hfI (e ▸ hb)) h1, h2⟩
  have ret' : ∀ h' g' tk, KtsTurn (outer.filterMap (·.frame)) g g' → g'.StaysIn h' → R (.ok (.ret (.bool true))) { s with heap := h', toks := tk } := fun h' g' tk kt hs =>
    ret h' tk (fun b o hb hb2 e => hs b o (kt.other b o (hg b o hb e) hb2)) fun b o hb e => by
      obtain ⟨sl, h1⟩ := kt.frame b o (hg b o (fun q => hfI (q ▸ hb)) e) hb
      exact ⟨sl, hs b _ h1⟩
  clear B hl hg ret hit hD
  with_reducible show wpAny _ _ _ _ _ _
  k_fold
  k_steps

  exact ret' _ _ _ (by assumption) (Fr.keep (by assumption))
end
section
theorem words_S6_0 : True := by
  k_with_none
  (k_with "m ne" => ((refine neN ?_); (try dsimp only); walk_at "om"))
  (k_with "m om" => (first | with_reducible assumption | exact Nat.le_trans (by with_reducible assumption) (by decide) | exact om4 (by with_reducible assumption) (by decide) | exact om2 (by with_reducible assumption) (by decide) | exact om1 (by with_reducible assumption) (by decide) | exact om0 (by with_reducible assumption) | exact om22 (by with_reducible assumption) (by decide) | exact om18 (by decide) | exact om3 (by with_reducible assumption) (by decide) | exact om10 (by with_reducible assumption) (by with_reducible assumption) (by decide) | exact Ne.symm (by with_reducible assumption) | exact Nat.ne_of_lt (by with_reducible assumption) | exact Nat.ne_of_gt (by with_reducible assumption) | exact om12 (by with_reducible assumption) | exact om14 (by decide) | exact om15 (by decide) | exact om16 (by with_reducible assumption) | exact om17 _ | exact om27 _ _ | exact om28 (by with_reducible assumption) | exact om25 (by with_reducible assumption) | exact om26 (by with_reducible assumption) | exact Nat.succ_le_of_lt (by with_reducible assumption) | exact Nat.lt_of_succ_le (by with_reducible assumption) | exact Nat.sub_succ_lt_self (by with_reducible assumption) | exact Nat.le_antisymm (by with_reducible assumption) (by with_reducible assumption) | exact Nat.le_of_lt (by with_reducible assumption) | exact om11 (by with_reducible assumption) | exact om7 (by with_reducible assumption) (by with_reducible assumption) | exact om8 (by with_reducible assumption) (by with_reducible assumption) | exact om9 (by with_reducible assumption) (by with_reducible assumption) | exact om19 (by with_reducible assumption) (by decide) | exact om20 (by with_reducible assumption) (by decide) | exact om21 (by with_reducible assumption) (by decide) | exact om23 (by with_reducible assumption) | exact om24 (by with_reducible assumption) | exact And.right (by with_reducible assumption) | exact And.left (by with_reducible assumption) | lia | omega))
  trivial
variable {w : World} {loose : List Str} {mean : ExcName → Option Value} {mg mb : Str → Option Value}
theorem words_S6_1 : True := by
  (k_with "m my_fill" => ((have dummy : hd.heap_39 w.params = hd.heap_39 w.params ∧ Mine.rw = Mine.rw := by (k_fill; exact ⟨rfl, rfl⟩)); clear dummy))
  (k_with "m my_deep" => (first | exact om2 (by assumption) (by decide) | exact om1 (by assumption) (by decide) | exact om0 (by assumption) | (simp only [depth_under_make, depth_under_kw, depth_in1, depth_deeper, depth_caller, units_in1, units_deeper] at *; (try dsimp only at *); walk_at "om")))
  (k_with "m my_call" => ((case zz_B => k_asm); (case zz_F => k_asm); (case zz_hA => rfl); (case zz_hf => rfl); (case zz_hk => rfl); (case zz_X => k_asm); (case zz_T => k_asm); (case zz_d => walk_at "my_deep"); (case zz_u => walk_at "my_deep"); (case zz_h => rfl)))
  (k_with "m call builtin:next" => (k_here; (with_reducible show wpAny _ _ (call (Value.builtin "next") [Value.ref _]) _ _ _); refine' nx_item ?zz_F ?zz_N ?zz_U ?zz_l ?zz_x ?_; (case zz_F => k_asm); (case zz_N => k_asm); (case zz_U => k_upd); (case zz_l => first | is_list | exact stays_list (Fr.keep (by assumption)) (stays_list (Fr.keep (by assumption)) (by assumption))); (case zz_x => assumption); intro zz_hq zz_Fq zz_Nq; (try k_sweep)))
  (k_with "m call builtin:next" => (k_here; (with_reducible show wpAny _ _ (call (Value.builtin "next") [Value.ref _]) _ _ _); refine' nx_end ?zz_h ?zz_F ?zz_N ?zz_U ?zz_l ?zz_x ?_; (case zz_h => exact rfl); (case zz_F => k_asm); (case zz_N => k_asm); (case zz_U => k_upd); (case zz_l => first | is_list | exact stays_list (Fr.keep (by assumption)) (stays_list (Fr.keep (by assumption)) (by assumption))); (case zz_x => assumption); intro zz_h1q zz_hq zz_eq zz_Fq zz_Nq zz_hxq; (try k_sweep); (try k_unfold); (try dsimp only)))
  (k_with "m call ref" => (k_here; (with_reducible show wpAny _ _ (call (Value.ref 28) _ _) _ _ _); refine wpAny_call ?_; k_dflt (refine' code_def  ?zz_k1 ?zz_k2 ?zz_k3 ?zz_k4 ?zz_k5 ?zz_kA ?zz_kF ?zz_kK ?zz_k6 ?zz_k7 ?zz_k8 ?zz_k9 ?zz_kB ?_ ?zz_c2 ?zz_c3 ?zz_c4 ?zz_c5; (case zz_kA => exact rfl); (case zz_kF => exact rfl); (case zz_kK => exact rfl); (case zz_k1 => k_asm); (case zz_k2 => k_asm); (case zz_k3 => k_asm); (case zz_k4 => k_asm); (case zz_k5 => k_asm); (case zz_k6 => k_is); (case zz_k7 => k_is); (case zz_k8 => walk_at "my_deep"); (case zz_k9 => exact BindsTo.of_eq rfl); (case zz_c5 => decide); (case zz_kB => exact locs rfl); (case zz_c2 => exact rfl); (case zz_c3 => exact rfl); (case zz_c4 => exact rfl); k_whole; intro zz_gq zz_Lq zz_hq zz_FGq zz_Fq zz_Nq zz_Bq zz_Xq zz_Tq; (try dsimp only); (try k_fold))))
  (k_with "m leaving ref" => (k_here; refine' leave_newS ?zz_K ?zz_x ?zz_F ?zz_N ?_ ?zz_k; (case zz_K => k_asm); (case zz_x => assumption); (case zz_F => k_asm); (case zz_N => k_asm); (case zz_k => rfl); intro zz_hq zz_Rq zz_Rnq zz_Uq; clear zz_Rnq))
  trivial
theorem law_over1 {A : Around} {base : Heap} {outer : List Env} {s : Shared} {R : Result → Shared → Prop} {I l : Addr} {i : Nat} {vs : List Value}
  (B : Below A base outer s.heap) (X : (hd.heap_39 w.params).In base) (T : Top hd.view_39 loose mean mg mb base) (hdp : A.depth + 20 < recursionLimit) (hun : A.units + 200 < cLine) (hh : A.handled = none)
  (hbI : base.get? I = none) (hfr : ∀ env ∈ outer, env.frame ≠ some I) (hit : s.heap.get? I = some (iterObj l i)) (hl : s.heap.IsList l vs.toArray) {t0 : Tok} (hx : vs.toArray[i]? = some (.int 65 t0)) (hx1 : vs.toArray[i + 1]? = none)
  (hD : KtsDicts (outer.filterMap (·.frame)) s.heap)
  (ret : ∀ h' tk, (∀ b o, b ≠ I → b ∉ outer.filterMap (·.frame) → s.heap.get? b = some o → h'.get? b = some o) → (∀ b o, b ∈ outer.filterMap (·.frame) → s.heap.get? b = some o → ∃ sl, h'.get? b = some { o with slots := sl }) → R (.ok (.ret (.bool true))) { s with heap := h', toks := tk }) :
  codeAny (model Pg w) A (.call (.ref 167) ⟨[.ref I], []⟩) R s := by
  obtain ⟨ah, ad, af, ag, au⟩ := A
  obtain rfl : ah = none := hh
  obtain rfl : af = some outer := B.stack
  w_on
  walk_at "my_fill"
  refine enterH (binds := [(Str.ofString "walker", .ref I)]) B X T hbI hfr hit (by k_is) (by k_is) (by dsimp only at *; walk_at "om") (BindsTo.of_eq rfl) (locs rfl) ?_ (by decide) rfl rfl rfl
  intro g L h₁ hg F N B' X' T'
  have hlI : l ≠ I := by
    rintro rfl
    obtain ⟨o, h1, h2, _⟩ := hl
    rw [hit] at h1; cases h1; exact absurd h2 (by simp)
  have hl' : g.IsList l vs.toArray := by
    obtain ⟨o, h1, h2⟩ := hl
    exact ⟨o, hg _ _ hlI h1, h2⟩
  have hfI : I ∉ outer.filterMap (·.frame) := fun hm => by
    obtain ⟨env, he, hf⟩ := List.mem_filterMap.mp hm
    exact hfr env he hf
  have hD' : KtsDicts (outer.filterMap (·.frame)) g := fun b hb => by
    obtain ⟨o, es, n, h1, h2⟩ := hD b hb
    exact ⟨o, es, n, hg b o (fun e => hfI (e ▸ hb)) h1, h2⟩
  have ret' : ∀ h' g' tk, KtsTurn (outer.filterMap (·.frame)) g g' → g'.StaysIn h' → R (.ok (.ret (.bool true))) { s with heap := h', toks := tk } := fun h' g' tk kt hs =>
    ret h' tk (fun b o hb hb2 e => hs b o (kt.other b o (hg b o hb e) hb2)) fun b o hb e => by
      obtain ⟨sl, h1⟩ := kt.frame b o (hg b o (fun q => hfI (q ▸ hb)) e) hb
      exact ⟨sl, hs b _ h1⟩
  clear B hl hg ret hit hD
  with_reducible show wpAny _ _ _ _ _ _
  k_fold
  k_steps

  exact ret' _ _ _ (by assumption) (Fr.keep (by assumption))
theorem law_over2 {A : Around} {base : Heap} {outer : List Env} {s : Shared} {R : Result → Shared → Prop} {I l : Addr} {i : Nat} {vs : List Value}
  (B : Below A base outer s.heap) (X : (hd.heap_39 w.params).In base) (T : Top hd.view_39 loose mean mg mb base) (hdp : A.depth + 20 < recursionLimit) (hun : A.units + 200 < cLine) (hh : A.handled = none)
  (hbI : base.get? I = none) (hfr : ∀ env ∈ outer, env.frame ≠ some I) (hit : s.heap.get? I = some (iterObj l i)) (hl : s.heap.IsList l vs.toArray) {t0 t1 : Tok} (hx : vs.toArray[i]? = some (.int 65 t0)) (hx1 : vs.toArray[i + 1]? = some (.int 75 t1)) (hx2 : vs.toArray[i + 1 + 1]? = none)
  (hD : KtsDicts (outer.filterMap (·.frame)) s.heap)
  (ret : ∀ h' tk, (∀ b o, b ≠ I → b ∉ outer.filterMap (·.frame) → s.heap.get? b = some o → h'.get? b = some o) → (∀ b o, b ∈ outer.filterMap (·.frame) → s.heap.get? b = some o → ∃ sl, h'.get? b = some { o with slots := sl }) → R (.ok (.ret (.bool true))) { s with heap := h', toks := tk }) :
  codeAny (model Pg w) A (.call (.ref 167) ⟨[.ref I], []⟩) R s := by
  obtain ⟨ah, ad, af, ag, au⟩ := A
  obtain rfl : ah = none := hh
  obtain rfl : af = some outer := B.stack
  w_on
  walk_at "my_fill"
  refine enterH (binds := [(Str.ofString "walker", .ref I)]) B X T hbI hfr hit (by k_is) (by k_is) (by dsimp only at *; walk_at "om") (BindsTo.of_eq rfl) (locs rfl) ?_ (by decide) rfl rfl rfl
  intro g L h₁ hg F N B' X' T'
  have hlI : l ≠ I := by
    rintro rfl
    obtain ⟨o, h1, h2, _⟩ := hl
    rw [hit] at h1; cases h1; exact absurd h2 (by simp)
  have hl' : g.IsList l vs.toArray := by
    obtain ⟨o, h1, h2⟩ := hl
    exact ⟨o, hg _ _ hlI h1, h2⟩
  have hfI : I ∉ outer.filterMap (·.frame) := fun hm => by
    obtain ⟨env, he, hf⟩ := List.mem_filterMap.mp hm
    exact hfr env he hf
  have hD' : KtsDicts (outer.filterMap (·.frame)) g := fun b hb => by
    obtain ⟨o, es, n, h1, h2⟩ := hD b hb
    exact ⟨o, es, n, hg b o (fun e => hfI (e ▸ hb)) h1, h2⟩
  have ret' : ∀ h' g' tk, KtsTurn (outer.filterMap (·.frame)) g g' → g'.StaysIn h' → R (.ok (.ret (.bool true))) { s with heap := h', toks := tk } := fun h' g' tk kt hs =>
    ret h' tk (fun b o hb hb2 e => hs b o (kt.other b o (hg b o hb e) hb2)) fun b o hb e => by
      obtain ⟨sl, h1⟩ := kt.frame b o (hg b o (fun q => hfI (q ▸ hb)) e) hb
      exact ⟨sl, hs b _ h1⟩
  clear B hl hg ret hit hD
  with_reducible show wpAny _ _ _ _ _ _
  k_fold
  k_steps

  exact ret' _ _ _ (by assumption) (Fr.keep (by assumption))
end
section
theorem bind_star {name qual : Str} {body : List Stmt} {scope : Scope} {kV doc pm cdv ct : Value} {an : Option Addr} {p1 p2 : Pos} {kd : List (Option Expr)} {df : List Expr} (x : Value) (vs : List Value) :
    bindArgs (fnOf name qual { posonlyargs := [], args := [⟨Str.ofString "a", none, p1⟩], vararg := some ⟨Str.ofString "p", none, p2⟩, kwonlyargs := [], kw_defaults := kd, kwarg := none, defaults := df } body scope .none kV doc pm an cdv ct) ⟨x :: vs, []⟩ =
      (newTuple vs >>= fun t => pure [(Str.ofString "a", x), (Str.ofString "p", t)]) := by
  unfold bindArgs
  simp only [Option.isNone_some, Bool.and_false]
  rfl
section
variable {w : World} {loose : List Str} {mean : ExcName → Option Value} {mg mb : Str → Option Value}
theorem enterV {A : Around} {base : Heap} {outer : List Env} {s : Shared} {R : Result → Shared → Prop}
    {name qual : Str} {params : Arguments} {body : List Stmt} {scope : Scope} {dV kV doc pm cdv ct oc : Value} {an od : Option Addr} {osl : Array (Option Value)} {f : Addr} {args : Args} {vs : List Value} {binds : Value → List (Str × Value)}
    (B : Below A base outer s.heap) (X : (hd.heap_39 w.params).In s.heap) (T : Top hd.view_39 loose mean mg mb s.heap)
    (ho : (hd.heap_39 w.params).lookup f = some ⟨oc, od, .func (fnOf name qual params body scope dV kV doc pm an cdv ct), osl⟩) (hcd : codeIn (hd.heap_39 w.params) cdv qual = true) (hroom : A.depth < recursionLimit)
    (hbind : bindArgs (fnOf name qual params body scope dV kV doc pm an cdv ct) args = (newTuple vs >>= fun t => pure (binds t))) (hz : vs.length ≤ sizeLine) (hloc : ∀ t, ∀ y ∈ binds t, scope.names.lookup y.1 = some .local)
    (h : ∀ g L D h₁, g = s.heap → Fr g L h₁ (fun y => (binds (.ref D)).reverse.lookup y) → News g L h₁ [(D, { cls := .type "tuple", data := .seq vs.toArray })] → Below A base outer g → (hd.heap_39 w.params).In g → Top hd.view_39 loose mean mg mb g →
      wpAny (model Pg w) (A.deeper (envOf qual scope L f cdv)) (execs body (envOf qual scope L f cdv))
        (fun fl s' => R (.ok (.ret (match fl with | .ret v => v | _ => .none))) s')
        (fun e s' => wpAny (model Pg w) (A.deeper (envOf qual scope L f cdv)) (leaving (envOf qual scope L f cdv) e) (fun _ s'' => R (.error e) s'') (fun e' s'' => R (.error e') s'') s')
        { s with heap := h₁, toks := s.toks + (binds (.ref D)).length })
    (hcell : ∀ x ∈ scope.names, x.2 ≠ .cell) (hco : scope.isCoroutine = false) (hgen : scope.isGenerator = false) (hk : scope.kind = .function) :
    codeAny (model Pg w) A (.call (.ref f) args) R s := by
  refine codeAny_call_function (fd := fnOf name qual params body scope dV kV doc pm an cdv ct) (body := body) hroom (X _ _ ho) rfl hco hgen rfl (codeRec_of X hcd) ?_
  rw [hbind]
  refine wpAny_bind (wpAny_newObj_type (wpAny_pure ?_) (by show vs.toArray.size ≤ sizeLine; rw [List.size_toArray]; exact hz))
  have st : s.heap.StaysIn (s.heap.push { cls := .type "tuple", data := .seq vs.toArray }) := fun b o e => Heap.get?_push_of_some _ e
  refine wpAny_newFunctionEnv hcell (hloc _) (fun h₁ hns hsb => ⟨(T.nolimit.keeps st).fresh _ hsb, codeAny_func ?_⟩) hk
  have hk₁ : ∀ b o, (s.heap.push { cls := .type "tuple", data := .seq vs.toArray }).get? b = some o → h₁.get? b = some o := fun b o e => hsb.extBut b o (Nat.ne_of_lt (Heap.lt_size e)) (Heap.get?_push_of_some _ e)
  refine h s.heap _ s.heap.objs.size h₁ rfl ⟨hns, fun b o e => hk₁ b o (st b o e), by show s.heap.objs.size ≤ (s.heap.push _).objs.size; rw [Heap.size_push]; exact Nat.le_succ _⟩ ?_ B X T
  intro p hp
  rw [List.mem_singleton.mp hp]
  refine ⟨hk₁ _ _ (Heap.get?_push_size _ rfl), ?_, Heap.get?_none_of_le (Nat.le_refl _)⟩
  show s.heap.objs.size ≠ (s.heap.push _).objs.size
  rw [Heap.size_push]; exact Nat.ne_of_lt (Nat.lt_succ_self _)
end
section
variable {prog : Program} {w : World} {A : Around} {E : Value → Shared → Prop} {s : Shared} {env : Env} {h₀ : Heap} {x : Str} {body : List Stmt} {Q : Flow → Shared → Prop}
theorem iterT {σ : Type} {l : Addr} {vs : List Value} {m₀ : Str → Option Value} (I : Nat → σ → Prop) (mp : (Str → Option Value) → σ → Str → Option Value) (led : σ → List (Addr × Obj)) (a₀ : σ)
    (hh : A.handled = none) (hl : s.heap.IsTuple l vs.toArray) (hlL : l ≠ env.locals) (hln : ∀ q ∈ led a₀, q.1 ≠ l) (F : Fr h₀ env.locals s.heap m₀) (N : News h₀ env.locals s.heap (led a₀))
    (hadr : ∀ a, (led a).map (·.1) = (led a₀).map (·.1)) (hI : I 0 a₀) (hm : ∀ z, z ≠ x → m₀ z = mp m₀ a₀ z)
    (turn : ∀ i v a h tk own, vs[i]? = some v → OwnOff own ((led a₀).map (·.1)) → I i a → Fr h₀ env.locals h (fun y => if y = x then some v else mp m₀ a y) → News h₀ env.locals h (led a ++ own) →
      wpAny (model prog w) A (execs body env) (InvPostN h₀ env.locals (Kept x (I (i + 1)) (mp m₀) led) own ((led a₀).map (·.1)) { s with heap := h, toks := tk } Q) E { s with heap := h, toks := tk })
    (done : ∀ a u h tk, I vs.length a → Fr h₀ env.locals h (fun y => if y = x then u else mp m₀ a y) → News h₀ env.locals h (led a) → Q .next { s with heap := h, toks := tk }) :
    wpAny (model prog w) A (pyIter (.ref l)) (fun it s₂ => LoopAtV prog w A h₀ env x body Q E it s₂) E s := by
  obtain ⟨ol, hol, _⟩ := id hl
  have hne : l ≠ s.heap.objs.size := Nat.ne_of_lt (Heap.lt_size hol)
  refine wpAny_pyIter_tuple hl ?_
  have W := Walks.tuple (prog := prog) (w := w) hh s.heap.objs.size l hne vs.toArray
  have hlen : vs.toArray.size = vs.length := by simp
  rw [hlen] at W
  refine loop_invN (s := { s with heap := s.heap.push { cls := .type "tuple_iterator", data := .fields #[.ref l, .int 0 0] } }) (fun i => Kept x (I i) (mp m₀) led) W ?_ ?_ ?_ ?_ ⟨⟨_, Heap.get?_push_size _ rfl, rfl, rfl⟩, hl.at fun o e => Heap.get?_push_of_some _ e⟩ (F.push _) (fun p hp => ⟨Heap.get?_push_of_some _ (N p hp).1, (N p hp).2⟩) ⟨a₀, hI, hm, rfl⟩ ?_ ?_
  · intro hm
    rcases List.mem_cons.mp hm with e | hm
    · exact absurd F.ns.lt (e ▸ Nat.lt_irrefl _)
    · exact hlL (List.mem_singleton.mp hm).symm
  · intro b hb
    rw [List.mem_singleton.mp hb]
    exact next_is_new F
  · intro p hp hI
    exact absurd (Heap.lt_size (N p hp).1) ((List.mem_singleton.mp hI) ▸ Nat.lt_irrefl _)
  · intro q hq hm
    rcases List.mem_cons.mp hm with e | hm
    · exact absurd (Heap.lt_size (N q hq).1) (e ▸ Nat.lt_irrefl _)
    · exact hln q hq (List.mem_singleton.mp hm)
  · rintro i v m₁ news₁ h tk own hi hP _ hoff ⟨a, hI, hm, rfl⟩ F₁ N₁
    have e : (fun y => if y = x then some v else m₁ y) = fun y => if y = x then some v else mp m₀ a y := by
      funext z
      by_cases h1 : z = x
      · simp [h1]
      · simp only [if_neg h1]; exact hm z h1
    rw [e] at F₁
    exact turn i v a h tk own (by simpa using hP) hoff hI F₁ N₁
  · rintro m₁ news₁ h tk ⟨a, hI, hm, rfl⟩ F₁ N₁
    have e : (fun y => if y = x then m₁ x else mp m₀ a y) = m₁ := by
      funext z
      by_cases h1 : z = x
      · simp [h1]
      · simp only [if_neg h1]; exact (hm z h1).symm
    exact done a (m₁ x) h tk hI (by rw [e]; exact F₁) N₁
end
end
section
theorem words_J1_0 : True := by
  k_with_none
  (k_with "m ne" => ((refine neN ?_); (try dsimp only); walk_at "om"))
  (k_with "m om" => (first | with_reducible assumption | exact Nat.le_trans (by with_reducible assumption) (by decide) | exact om4 (by with_reducible assumption) (by decide) | exact om2 (by with_reducible assumption) (by decide) | exact om1 (by with_reducible assumption) (by decide) | exact om0 (by with_reducible assumption) | exact om22 (by with_reducible assumption) (by decide) | exact om18 (by decide) | exact om3 (by with_reducible assumption) (by decide) | exact om10 (by with_reducible assumption) (by with_reducible assumption) (by decide) | exact Ne.symm (by with_reducible assumption) | exact Nat.ne_of_lt (by with_reducible assumption) | exact Nat.ne_of_gt (by with_reducible assumption) | exact om12 (by with_reducible assumption) | exact om14 (by decide) | exact om15 (by decide) | exact om16 (by with_reducible assumption) | exact om17 _ | exact om27 _ _ | exact om28 (by with_reducible assumption) | exact om25 (by with_reducible assumption) | exact om26 (by with_reducible assumption) | exact Nat.succ_le_of_lt (by with_reducible assumption) | exact Nat.lt_of_succ_le (by with_reducible assumption) | exact Nat.sub_succ_lt_self (by with_reducible assumption) | exact Nat.le_antisymm (by with_reducible assumption) (by with_reducible assumption) | exact Nat.le_of_lt (by with_reducible assumption) | exact om11 (by with_reducible assumption) | exact om7 (by with_reducible assumption) (by with_reducible assumption) | exact om8 (by with_reducible assumption) (by with_reducible assumption) | exact om9 (by with_reducible assumption) (by with_reducible assumption) | exact om19 (by with_reducible assumption) (by decide) | exact om20 (by with_reducible assumption) (by decide) | exact om21 (by with_reducible assumption) (by decide) | exact om23 (by with_reducible assumption) | exact om24 (by with_reducible assumption) | exact And.right (by with_reducible assumption) | exact And.left (by with_reducible assumption) | lia | omega))
  trivial
variable {w : World} {loose : List Str} {mean : ExcName → Option Value} {mg mb : Str → Option Value}
theorem words_J1_1 : True := by
  (k_with "m my_fill" => ((have dummy : hd.heap_39 w.params = hd.heap_39 w.params ∧ Mine.rw = Mine.rw := by (k_fill; exact ⟨rfl, rfl⟩)); clear dummy))
  (k_with "m my_deep" => (first | exact om2 (by assumption) (by decide) | exact om1 (by assumption) (by decide) | exact om0 (by assumption) | (simp only [depth_under_make, depth_under_kw, depth_in1, depth_deeper, depth_caller, units_in1, units_deeper] at *; (try dsimp only at *); walk_at "om")))
  (k_with "m my_call" => ((case zz_B => k_asm); (case zz_F => k_asm); (case zz_hA => rfl); (case zz_hf => rfl); (case zz_hk => rfl); (case zz_X => k_asm); (case zz_T => k_asm); (case zz_d => walk_at "my_deep"); (case zz_u => walk_at "my_deep"); (case zz_h => rfl)))
  (k_with "m call ref" => (k_here; (with_reducible show wpAny _ _ (call (Value.ref 101) _ _) _ _ _); refine' wpAny_call (fspath (bel ?zz_B ?zz_F ?zz_hA ?zz_hf ?zz_hk) (keepX ?zz_X ?zz_F) (Top.keeps ?zz_T (Fr.keep ?zz_F)) ?zz_d ?zz_u ?zz_h ?_); walk_at "my_call"; intro zz_hq zz_tkq zz_hsq; have zz_Fq := frS (by k_asm) zz_hsq; have zz_Nq := newsS (by k_asm) zz_hsq; clear zz_hsq; (try k_sweep); (try dsimp only)))
  (k_with "m call ref" => (k_here; (with_reducible show wpAny _ _ (call (Value.ref 115) _ _) _ _ _); refine' wpAny_call (getsep (bel ?zz_B ?zz_F ?zz_hA ?zz_hf ?zz_hk) (keepX ?zz_X ?zz_F) (Top.keeps ?zz_T (Fr.keep ?zz_F)) ?zz_d ?zz_u ?zz_h ?_); walk_at "my_call"; intro zz_hq zz_tkq zz_tq zz_hsq; have zz_Fq := frS (by k_asm) zz_hsq; have zz_Nq := newsS (by k_asm) zz_hsq; clear zz_hsq; (try k_sweep); (try dsimp only)))
  trivial
/-- one turn of join's loop -/
def joinStep (p b : Str) : Str := if Txt.startswith b (Str.ofString "/") = true ∨ (p.length : Int) = 0 then b else if Txt.endswith p (Str.ofString "/") = true then p ++ b else p ++ (Str.ofString "/" ++ b)
theorem fold_next {α β : Type} {f : β → α → β} {S : List α} {i : Nat} {c : α} {z : β} (hc : S[i]? = some c) : (S.take (i + 1)).foldl f z = f ((S.take i).foldl f z) c := by
  rw [List.take_add_one, hc]; simp
theorem join {A : Around} {base : Heap} {outer : List Env} {s : Shared} {R : Result → Shared → Prop} {x : Str} {t : Tok} {bs : List (Str × Tok)}
  (B : Below A base outer s.heap) (X : (hd.heap_39 w.params).In s.heap) (T : Top hd.view_39 loose mean mg mb s.heap) (hdp : A.depth + 30 < recursionLimit) (hun : A.units + 300 < cLine) (hh : A.handled = none) (hlen : x.length ≤ 1000) (hbl : ∀ b ∈ bs, b.1.length ≤ 100) (hbn : bs.length ≤ 100)
  (ret : ∀ h' tk t', s.heap.StaysIn h' → R (.ok (.ret (.str ((bs.map (·.1)).foldl joinStep x) t'))) { s with heap := h', toks := tk }) :
  codeAny (model Pg w) A (.call (.ref 122) ⟨.str x t :: strValues bs, []⟩) R s := by
  obtain ⟨ah, ad, af, ag, au⟩ := A
  obtain rfl : ah = none := hh
  obtain rfl : af = some outer := B.stack
  w_on
  walk_at "my_fill"
  refine enterV (binds := fun v => [(Str.ofString "a", .str x t), (Str.ofString "p", v)]) B X T (by k_is) (by k_is) (by dsimp only at *; walk_at "om") (bind_star _ _) (by simp [strValues]; rw [sizeLine_eq]; walk_at "om") (fun _ => locs rfl) ?_ (by decide) rfl rfl rfl
  intro g L D h₁ eg F N B' X' T'
  rw [← eg] at ret
  clear B X T eg
  with_reducible show wpAny _ _ _ _ _ _
  k_fold
  k_steps
  rename Fr _ _ _ _ => F9
  rename News _ _ _ _ => N9
  refine iterT (σ := Str × Tok) (fun i a => a.1.length ≤ 1000 + 101 * i ∧ a.1 = ((bs.map (·.1)).take i).foldl joinStep x) (fun m₀ a z => if z = Str.ofString "path" then some (.str a.1 a.2) else m₀ z) (fun _ => []) (x, t) rfl ⟨_, N9.get (List.Mem.head _), rfl, _, rfl⟩ ?_ (by simp) F9 (by intro p hp; cases hp) (fun _ => rfl) ⟨by dsimp only; walk_at "om", rfl⟩ ?_ ?_ ?_
  · exact (N9 _ (List.Mem.head _)).2.1
  · intro z hz
    by_cases hv : z = Str.ofString "path"
    · simp only [hv, if_true]
    · simp only [if_neg hv]
  · clear F9 N9
    rintro i v ⟨p, tp⟩ h tk own hv hoff ⟨hl1, hfold⟩ F9 N9
    obtain ⟨c, tc, rfl, hc⟩ := str_at rfl hv
    have hi : i < 100 := by
      have h3 := (List.getElem?_eq_some_iff.mp hc).1
      rw [List.length_map] at h3
      walk_at "om"
    have hcl : c.length ≤ 100 := by
      obtain ⟨b, hb, rfl⟩ := List.mem_map.mp (List.mem_of_getElem? hc)
      exact hbl b hb
    dsimp only [List.cons_append, List.nil_append] at N9 hl1 hfold F9
    have hpl : p.length ≤ 20000 := by walk_at "om"
    clear hv hbl
    with_reducible show wpAny _ _ _ _ _ _
    k_fold
    k_steps
    · rename Txt.startswith c _ = true => h0
      refine' keptEnd ((c, ?tw1) : Str × Tok) (by assumption) (by assumption) ⟨by dsimp only; walk_at "om", by dsimp only; rw [fold_next hc, ← hfold]; exact (if_pos (.inl h0)).symm⟩ ?hn1 rfl (by intro p hp; cases hp) (by (intro p hp; k_ownIn))
      case hn1 =>
        intro z hz
        by_cases hv : z = Str.ofString "path"
        · (simp only [hv, if_true]) <;> rfl
        · simp only [if_neg hv, if_neg hz]
    · rename Txt.startswith c _ = false => h0
      rename ((p.length : Int) ≠ 0) => h1
      rename Txt.endswith p _ = true => h2
      refine' keptEnd ((p ++ c, ?tw2) : Str × Tok) (by assumption) (by assumption) ⟨by dsimp only; walk_at "om", by dsimp only; rw [fold_next hc, ← hfold]; exact by unfold joinStep; rw [if_neg (by rw [h0]; exact fun e => e.elim Bool.false_ne_true h1), if_pos h2]⟩ ?hn2 rfl (by intro p hp; cases hp) (by (intro p hp; k_ownIn))
      case hn2 =>
        intro z hz
        by_cases hv : z = Str.ofString "path"
        · (simp only [hv, if_true]) <;> rfl
        · simp only [if_neg hv, if_neg hz]
    · rename Txt.startswith c _ = false => h0
      rename ((p.length : Int) ≠ 0) => h1
      rename Txt.endswith p _ = false => h2
      have hsl : (Str.ofString "/").length = 1 := by decide
      refine' keptEnd ((p ++ (Str.ofString "/" ++ c), ?tw3) : Str × Tok) (by assumption) (by assumption) ⟨by dsimp only; walk_at "om", by dsimp only; rw [fold_next hc, ← hfold]; exact by unfold joinStep; rw [if_neg (by rw [h0]; exact fun e => e.elim Bool.false_ne_true h1), if_neg (by rw [h2]; exact Bool.false_ne_true)]⟩ ?hn3 rfl (by intro p hp; cases hp) (by (intro p hp; k_ownIn))
      case hn3 =>
        intro z hz
        by_cases hv : z = Str.ofString "path"
        · (simp only [hv, if_true]) <;> rfl
        · simp only [if_neg hv, if_neg hz]
    · rename ((p.length : Int) = 0) => h1
      refine' keptEnd ((c, ?tw4) : Str × Tok) (by assumption) (by assumption) ⟨by dsimp only; walk_at "om", by dsimp only; rw [fold_next hc, ← hfold]; exact (if_pos (.inr h1)).symm⟩ ?hn4 rfl (by intro p hp; cases hp) (by (intro p hp; k_ownIn))
      case hn4 =>
        intro z hz
        by_cases hv : z = Str.ofString "path"
        · (simp only [hv, if_true]) <;> rfl
        · simp only [if_neg hv, if_neg hz]
  · rintro ⟨p, tp⟩ u h tk ⟨hl1, hfold⟩ F9 N9
    rw [show (strValues bs).length = (bs.map (·.1)).length from by simp [strValues], List.take_length] at hfold
    dsimp only at hfold F9 N9
    dsimp only
    k_steps
    rw [hfold]
    exact ret _ _ _ (Fr.keep (by assumption))
end
section
theorem words_Gen5_0 : True := by
  k_with_none
  (k_with "m ne" => ((refine neN ?_); (try dsimp only); walk_at "om"))
  (k_with "m om" => (first | with_reducible assumption | exact Nat.le_trans (by with_reducible assumption) (by decide) | exact om4 (by with_reducible assumption) (by decide) | exact om2 (by with_reducible assumption) (by decide) | exact om1 (by with_reducible assumption) (by decide) | exact om0 (by with_reducible assumption) | exact om22 (by with_reducible assumption) (by decide) | exact om18 (by decide) | exact om3 (by with_reducible assumption) (by decide) | exact om10 (by with_reducible assumption) (by with_reducible assumption) (by decide) | exact Ne.symm (by with_reducible assumption) | exact Nat.ne_of_lt (by with_reducible assumption) | exact Nat.ne_of_gt (by with_reducible assumption) | exact om12 (by with_reducible assumption) | exact om14 (by decide) | exact om15 (by decide) | exact om16 (by with_reducible assumption) | exact om17 _ | exact om27 _ _ | exact om28 (by with_reducible assumption) | exact om25 (by with_reducible assumption) | exact om26 (by with_reducible assumption) | exact Nat.succ_le_of_lt (by with_reducible assumption) | exact Nat.lt_of_succ_le (by with_reducible assumption) | exact Nat.sub_succ_lt_self (by with_reducible assumption) | exact Nat.le_antisymm (by with_reducible assumption) (by with_reducible assumption) | exact Nat.le_of_lt (by with_reducible assumption) | exact om11 (by with_reducible assumption) | exact om7 (by with_reducible assumption) (by with_reducible assumption) | exact om8 (by with_reducible assumption) (by with_reducible assumption) | exact om9 (by with_reducible assumption) (by with_reducible assumption) | exact om19 (by with_reducible assumption) (by decide) | exact om20 (by with_reducible assumption) (by decide) | exact om21 (by with_reducible assumption) (by decide) | exact om23 (by with_reducible assumption) | exact om24 (by with_reducible assumption) | exact And.right (by with_reducible assumption) | exact And.left (by with_reducible assumption) | lia | omega))
  trivial
section
variable {prog : Program} {w : World} {A : Around} {E : Value → Shared → Prop} {env : Env} {s : Shared}
theorem all_items {items : List Value} {vs : List Value} (hlen : vs.length = items.length) (h : ∀ (j : Nat) v, vs[j]? = some v → items[j]? = some v) : vs = items := by
  apply List.ext_getElem? 
  intro j
  cases hj : vs[j]? with
  | some v => exact (h j v hj).symm
  | none =>
    have h1 := List.getElem?_eq_none_iff.mp hj
    exact (List.getElem?_eq_none_iff.mpr (by walk_at "om")).symm
theorem compL {elt iter : Expr} {x : Str} {px : Pos} {scope : Scope} {cl : List (Str × Addr)} {pos : Pos} {Q : Value → Shared → Prop} {l : Addr} {vs : List Value} (G : Value → Value → Prop) (hh : A.handled = none)
    (hclos : closureFor scope env = pure cl) (hcell : ∀ y ∈ scope.names, y.2 ≠ .cell) (hkind : scope.kind = .function)
    (hnames : ∀ y ∈ scope.names, y.2 = .local → scope.names.lookup y.1 = some .local) (hx : scope.names.lookup x = some .local)
    (hiter : wpAny (model prog w) A (eval iter env) (fun xv s₁ => xv = .ref l ∧ s₁ = s) E s) (hl : s.heap.IsList l vs.toArray) (hz : vs.length ≤ sizeLine)
    (helt : ∀ C v s₃ m₃ E', v ∈ vs → s₃.heap.Ns C m₃ → m₃ x = some v → s.heap.StaysIn s₃.heap → wpAny (model prog w) A (eval elt (compEnvC scope cl C env)) (fun y s₄ => G v y ∧ Keeps s₃ s₄) E' s₃)
    (h : ∀ D h' tk ys n, s.heap.get? D = none → h'.get? D = some (listOf ys.toArray n) → Paired G vs ys → s.heap.StaysIn h' → Q (.ref D) { s with heap := h', toks := tk })
    (hs : ∀ x, foldedSetIterable iter env x = pure x) :
    wpAny (model prog w) A (eval (.ListComp elt [⟨.Name x px, iter, [], 0⟩] scope pos) env) Q E s := by
  have hlt : l < s.heap.objs.size := by obtain ⟨o, ho, _⟩ := hl; exact Heap.lt_size ho
  refine wpAny_ListComp_free (fun _ => true) G hclos hcell hkind hnames hx (wpAny_mono hiter (fun xv s₁ h₁ => ?_) fun _ _ e => e) hs
  obtain ⟨rfl, rfl⟩ := h₁
  refine wpAny_pyIter_list hl ?_
  have W := Walks.list (prog := prog) (w := w) hh s₁.heap.objs.size l (Nat.ne_of_lt hlt) vs.toArray
  have hlen : vs.toArray.size = vs.length := by simp
  rw [hlen] at W
  have st : ∀ b o, s₁.heap.get? b = some o → b ∉ [s₁.heap.objs.size] := fun b o e hm => absurd (Heap.lt_size e) (List.mem_singleton.mp hm ▸ Nat.lt_irrefl _)
  refine ⟨_, _, _, _, _, _, rfl, W, hz, ⟨⟨_, Heap.get?_push_size _ rfl, rfl, rfl⟩, hl.at fun o e => Heap.get?_push_of_some _ e⟩, ?_, ⟨?_, ?_⟩, ?_⟩
  · intro b hb
    rw [Heap.size_push]
    rcases List.mem_cons.mp hb with e | hb
    · rw [e]; exact Nat.lt_succ_self _
    · rw [List.mem_singleton.mp hb]; exact Nat.lt_succ_of_lt hlt
  · intro C i v s₃ m₃ E' _ _ _ _ _ _
    exact wpAny_pure ⟨rfl, _, _, rfl, fun _ _ e => e⟩
  · intro C i v s₃ m₃ E' _ hP _ hn hm hk _
    exact helt C v s₃ m₃ E' (List.mem_of_getElem? (by simpa using hP)) hn hm fun b o e => hk b o (st b o e) (Heap.get?_push_of_some _ e)
  · intro D h' tk ys vs' hD hlD hpl hlen' hP hF hk
    have e : vs' = vs := all_items hlen' fun j v hj => by simpa using hP j v hj
    subst e
    obtain ⟨n, hn⟩ := hpl
    have hD' : s₁.heap.get? D = none := by
      cases q : s₁.heap.get? D with
      | none => rfl
      | some o => rw [Heap.get?_push_of_some _ q] at hD; cases hD
    refine h D h' tk ys.toList n hD' (by simpa using hn) ?_ fun b o e => hk b o (st b o e) (Heap.get?_push_of_some _ e)
    rw [List.filter_eq_self.mpr (by intro _ _; rfl)] at hF
    exact hF
theorem nmL {scope : Scope} {cl : List (Str × Addr)} {C : Addr} {m : Str → Option Value} {x : Str} {pos : Pos} {v : Value} {Q : Value → Shared → Prop} (hn : s.heap.Ns C m) (hv : m x = some v) (h : Q v s)
    (hk : (compEnvC scope cl C env).scope.kind = .function) (hx : (compEnvC scope cl C env).kindOf x = some .local) (hd : (x == ("__debug__" : Str)) = false) : wpAny (model prog w) A (eval (.Name x pos) (compEnvC scope cl C env)) Q E s :=
  wpAny_Name (wpAny_loadName_local (env := compEnvC scope cl C env) hk hx hn hv h) hd
theorem nmB {p : Program} {loose : List Str} {mean : ExcName → Option Value} {mg mb : Str → Option Value} {K : Frag} {scope : Scope} {cl : List (Str × Addr)} {C : Addr} {x : Str} {pos : Pos} {v : Value} {Q : Value → Shared → Prop} (X : K.In s.heap) (T : Top p loose mean mg mb s.heap)
    (e : nsIn K mainGlobals x = some none) (hv : bootBuiltins x = some v) (hn : x ≠ "__name__") (h : Q v s) (hg : env.globals = mainGlobals) (hb : env.builtins = builtinsNs)
    (hk : (compEnvC scope cl C env).scope.kind = .function) (hx : (compEnvC scope cl C env).kindOf x = some .globalImplicit) (hd : (x == ("__debug__" : Str)) = false) : wpAny (model prog w) A (eval (.Name x pos) (compEnvC scope cl C env)) Q E s :=
  Name_function_global hk hx (loadGlobal_builtin (env := compEnvC scope cl C env) (mg := mg) (mb := mb) (by show s.heap.Ns env.globals mg; rw [hg]; exact T.g) (mg_none_of X T.g e) (by show s.heap.Ns env.builtins mb; rw [hb]; exact T.b) ((T.builtins x hn).trans hv) h) hd
end
end
section
theorem words_S3_0 : True := by
  k_with_none
  (k_with "m ne" => ((refine neN ?_); (try dsimp only); walk_at "om"))
  (k_with "m om" => (first | with_reducible assumption | exact Nat.le_trans (by with_reducible assumption) (by decide) | exact om4 (by with_reducible assumption) (by decide) | exact om2 (by with_reducible assumption) (by decide) | exact om1 (by with_reducible assumption) (by decide) | exact om0 (by with_reducible assumption) | exact om22 (by with_reducible assumption) (by decide) | exact om18 (by decide) | exact om3 (by with_reducible assumption) (by decide) | exact om10 (by with_reducible assumption) (by with_reducible assumption) (by decide) | exact Ne.symm (by with_reducible assumption) | exact Nat.ne_of_lt (by with_reducible assumption) | exact Nat.ne_of_gt (by with_reducible assumption) | exact om12 (by with_reducible assumption) | exact om14 (by decide) | exact om15 (by decide) | exact om16 (by with_reducible assumption) | exact om17 _ | exact om27 _ _ | exact om28 (by with_reducible assumption) | exact om25 (by with_reducible assumption) | exact om26 (by with_reducible assumption) | exact Nat.succ_le_of_lt (by with_reducible assumption) | exact Nat.lt_of_succ_le (by with_reducible assumption) | exact Nat.sub_succ_lt_self (by with_reducible assumption) | exact Nat.le_antisymm (by with_reducible assumption) (by with_reducible assumption) | exact Nat.le_of_lt (by with_reducible assumption) | exact om11 (by with_reducible assumption) | exact om7 (by with_reducible assumption) (by with_reducible assumption) | exact om8 (by with_reducible assumption) (by with_reducible assumption) | exact om9 (by with_reducible assumption) (by with_reducible assumption) | exact om19 (by with_reducible assumption) (by decide) | exact om20 (by with_reducible assumption) (by decide) | exact om21 (by with_reducible assumption) (by decide) | exact om23 (by with_reducible assumption) | exact om24 (by with_reducible assumption) | exact And.right (by with_reducible assumption) | exact And.left (by with_reducible assumption) | lia | omega))
  trivial
variable {w : World} {loose : List Str} {mean : ExcName → Option Value} {mg mb : Str → Option Value}
theorem words_S3_1 : True := by
  (k_with "m my_fill" => ((have dummy : hd.heap_39 w.params = hd.heap_39 w.params ∧ Mine.rw = Mine.rw := by (k_fill; exact ⟨rfl, rfl⟩)); clear dummy))
  (k_with "m my_deep" => (first | exact om2 (by assumption) (by decide) | exact om1 (by assumption) (by decide) | exact om0 (by assumption) | (simp only [depth_under_make, depth_under_kw, depth_in1, depth_deeper, depth_caller, units_in1, units_deeper] at *; (try dsimp only at *); walk_at "om")))
  (k_with "m my_call" => ((case zz_B => k_asm); (case zz_F => k_asm); (case zz_hA => rfl); (case zz_hf => rfl); (case zz_hk => rfl); (case zz_X => k_asm); (case zz_T => k_asm); (case zz_d => walk_at "my_deep"); (case zz_u => walk_at "my_deep"); (case zz_h => rfl)))
  (k_with "m eval ListComp" => (k_here; refine Stop.mk ?_))
  (k_with "m eval Name" => (k_here; (with_reducible show wpAny _ _ (eval (PySem.Expr.Name _ _) (compEnvC _ _ _ _)) _ _ _); first | (refine' nmL ?zz_n ?zz_v ?_ ?zz_a ?zz_b ?zz_c; (case zz_n => assumption); (case zz_v => assumption); (case zz_a => rfl); (case zz_b => rfl); (case zz_c => decide)) | (refine' nmB ?zz_X ?zz_T ?zz_e ?zz_v ?zz_n ?_ ?zz_g ?zz_b ?zz_h ?zz_i ?zz_j; (case zz_X => assumption); (case zz_T => assumption); (case zz_e => k_is); (case zz_v => boot_fast); (case zz_n => decide); (case zz_g => rfl); (case zz_b => rfl); (case zz_h => rfl); (case zz_i => rfl); (case zz_j => decide))))
  trivial
/-- a name of the law's -/
def nm (n : Int) : Str := Str.ofString "n" ++ Str.ofString (toString n)
/-- a place's path -/
def pathOf (ns : List Int) : Str := Str.ofString "/" ++ Txt.join (Str.ofString "/") (ns.map nm)
theorem ints_mem {vs : List Value} {ns : List Int} (h : IntsAre vs ns) {v : Value} (hv : v ∈ vs) : ∃ n t, v = .int n t ∧ n ∈ ns := by
  induction h with
  | nil => cases hv
  | cons k t r ih =>
    rcases List.mem_cons.mp hv with rfl | hv
    · exact ⟨k, t, rfl, .head _⟩
    · obtain ⟨n, u, e, hn⟩ := ih hv
      exact ⟨n, u, e, .tail _ hn⟩
theorem nm_len {n : Int} (h0 : 0 ≤ n) (h1 : n < 1000000) : (nm n).length ≤ 100 := by
  have h := int_text_length_le10 (a := n) (k := 6) (by decide) (by have : (10 : Nat) ^ 6 = 1000000 := by decide
                                                                   walk_at "om")
  unfold nm
  rw [Str.length_append, PySem.ofString_length, PySem.ofString_length]
  have : "n".length = 1 := by decide
  walk_at "om"
theorem paired_strs {vs ys : List Value} {ns ks : List Int} (hi : IntsAre vs ns) (h : Paired (fun v y => ∃ n t t', v = Value.int n t ∧ n ∈ ks ∧ y = .str (nm n) t') vs ys) : ∃ bs : List (Str × Tok), ys = strValues bs ∧ bs.map (·.1) = ns.map nm := by
  induction hi generalizing ys with
  | nil => cases h; exact ⟨[], rfl, rfl⟩
  | cons k t r ih =>
    cases h with
    | cons hf hr =>
      obtain ⟨n, t1, t2, e1, _, e2⟩ := hf
      cases e1
      obtain ⟨bs, rfl, e3⟩ := ih hr
      exact ⟨(nm k, t2) :: bs, by rw [e2]; rfl, by simp [e3]⟩
theorem words_S3_2 : True := by
  (k_with "m call builtin:str.join" => (k_here; (show wpAny _ _ (call (Value.builtin "str.join") [Value.str _ _, Value.ref _]) _ _ _); refine' ls_join ?zz_N ?zz_m ?zz_t ?zz_w ?zz_s ?_; (case zz_N => k_asm); (case zz_m => k_mem); (case zz_t => assumption); (case zz_w => assumption); (case zz_s => decide); intro zz_tq zz_kq zz_hjq))
  trivial
theorem law_path {A : Around} {base : Heap} {outer : List Env} {s : Shared} {R : Result → Shared → Prop} {l1 : Addr} {vs1 : List Value} {ns1 : List Int}
  (B : Below A base outer s.heap) (X : (hd.heap_39 w.params).In s.heap) (T : Top hd.view_39 loose mean mg mb s.heap) (hdp : A.depth + 20 < recursionLimit) (hun : A.units + 200 < cLine) (hh : A.handled = none)
  (hl1 : s.heap.IsList l1 vs1.toArray) (hi1 : IntsAre vs1 ns1) (hz1 : ns1.length ≤ 1000) (hb : ∀ n ∈ ns1, 0 ≤ n ∧ n < 1000000)
  (ret : ∀ h' tk t', s.heap.StaysIn h' → R (.ok (.ret (.str (pathOf ns1) t'))) { s with heap := h', toks := tk }) :
  codeAny (model Pg w) A (.call (.ref 160) ⟨[.ref l1], []⟩) R s := by
  obtain ⟨ah, ad, af, ag, au⟩ := A
  obtain rfl : ah = none := hh
  obtain rfl : af = some outer := B.stack
  w_on
  walk_at "my_fill"
  refine enter (binds := [(Str.ofString "names", .ref l1)]) B X T (by k_is) (by k_is) (by dsimp only at *; walk_at "om") (BindsTo.of_eq rfl) (locs rfl) ?_ (by decide) rfl rfl rfl
  intro g L h₁ eg eL F N B' X' T'
  rw [← eg] at hl1 ret
  clear B X T eg eL
  (try dsimp only)
  k_fold
  k_steps
  refine Stop.out ?_
  refine' compL (l := l1) (vs := vs1) (fun v y => ∃ n t t', v = .int n t ∧ n ∈ ns1 ∧ y = .str (nm n) t') rfl ?c1 ?c2 ?c3 ?c4 ?c5 ?it (stays_list F.keep hl1) ?sz ?el ?dn ?fs
  case c1 => rfl
  case c2 => decide
  case c3 => rfl
  case c4 => decide
  case c5 => rfl
  case it =>
    with_reducible show wpAny _ _ _ _ _ _
    k_steps
  case sz => rw [hi1.length, sizeLine_eq]; walk_at "om"
  case fs => intro _; rfl
  case el =>
    intro C v s₃ m₃ E' hv hn hm hs
    obtain ⟨n, t, rfl, hn1⟩ := ints_mem hi1 hv
    have X₃ := Frag.In.keeps (keepX X' F) hs
    have T₃ := (Top.keeps T' F.keep).keeps hs
    obtain ⟨hb0, hb1⟩ := hb n hn1
    clear F N
    with_reducible show wpAny _ _ _ _ _ _
    k_steps
    · exact hn1
    · exact ⟨_, _, rfl, fun _ _ e => e⟩
  case dn =>
    intro D h' tk ys n hD ho hF hs
    obtain ⟨bs, rfl, hbs⟩ := paired_strs hi1 hF
    have F' := frS F hs
    have N' := newsAdd F N hs hD ho
    clear F N hs hD ho hF
    have hw : Weighs (ns1.map nm) 2000000 := by
      refine weighs_small (n := 1000) (b := 100) ?_ (by simpa using hz1) (by decide)
      intro y hy
      obtain ⟨m, hm, rfl⟩ := List.mem_map.mp hy
      exact nm_len (hb m hm).1 (hb m hm).2
    refine id ?_
    with_reducible show wpAny _ _ _ _ _ _
    k_steps
    exact ret _ _ _ (Fr.keep (by assumption))
end
section
section
variable {w : World} {loose : List Str} {mean : ExcName → Option Value} {mg mb : Str → Option Value}
theorem enterC {A : Around} {base : Heap} {outer : List Env} {s : Shared} {R : Result → Shared → Prop}
    {name qual : Str} {params : Arguments} {body : List Stmt} {scope : Scope} {dV kV doc pm cdv ct oc : Value} {an od : Option Addr} {osl : Array (Option Value)} {f : Addr} {args : Args} {binds : List (Str × Value)}
    (B : Below A base outer s.heap) (X : (hd.heap_39 w.params).In s.heap) (T : Top hd.view_39 loose mean mg mb s.heap)
    (ho : (hd.heap_39 w.params).lookup f = some ⟨oc, od, .func (fnOf name qual params body scope dV kV doc pm an cdv ct), osl⟩) (hcd : codeIn (hd.heap_39 w.params) cdv qual = true) (hroom : A.depth < recursionLimit)
    (hbind : BindsTo s (fnOf name qual params body scope dV kV doc pm an cdv ct) args binds) (hkind : (binds.all fun y => scope.names.lookup y.1 == some .local || scope.names.lookup y.1 == some .cell) = true)
    (hnd : ((cellsFrom 0 scope.names []).map (·.1)).Nodup)
    (h : ∀ g L h₁ tk cells, g = s.heap → Fr g L h₁ (bindL (envOfC qual scope L f cdv).kindOf binds fun _ => none) → News g L h₁ cells →
      CellsAre (bindC (envOfC qual scope L f cdv).kindOf binds fun _ => none) (cellsFrom (L + 1) scope.names []) cells → Below A base outer g → (hd.heap_39 w.params).In g → Top hd.view_39 loose mean mg mb g →
      wpAny (model Pg w) (A.deeper (envOfC qual scope L f cdv)) (execs body (envOfC qual scope L f cdv))
        (fun fl s' => R (.ok (.ret (match fl with | .ret v => v | _ => .none))) s')
        (fun e s' => wpAny (model Pg w) (A.deeper (envOfC qual scope L f cdv)) (leaving (envOfC qual scope L f cdv) e) (fun _ s'' => R (.error e) s'') (fun e' s'' => R (.error e') s'') s')
        { s with heap := h₁, toks := tk })
    (hco : scope.isCoroutine = false) (hgen : scope.isGenerator = false) (hk : scope.kind = .function) :
    codeAny (model Pg w) A (.call (.ref f) args) R s := by
  refine codeAny_call_function (fd := fnOf name qual params body scope dV kV doc pm an cdv ct) (body := body) hroom (X _ _ ho) rfl hco hgen rfl (codeRec_of X hcd) (hbind _ _ _ _ ?_)
  refine wpAny_newFunctionEnv_cells hk (kindsX hkind _) fun env' he s' x => ?_
  subst he
  refine ⟨T.nolimit.keeps x.toInCall.keep, codeAny_func ?_⟩
  obtain ⟨h₁, tk, rfl, _⟩ := x.done
  have hk₁ := x.toInCall.keep
  obtain ⟨cells, NC, Y⟩ := Cl.news (h₀ := s.heap) (Nat.le_refl _) fun n c hm => ⟨x.cell n c (lookup_of_mem_nodup (cellsFrom_names scope.names 0 (s.heap.objs.size + 1) [] [] rfl ▸ hnd) hm), x.above n c hm⟩
  exact h s.heap s.heap.objs.size h₁ tk cells rfl ⟨x.toInCall.ns, hk₁, Nat.le_refl _⟩ NC Y B X T
end
end
section
theorem slot_map_next : Slot "map" "__next__" "map.__next__" :=
  .of (owner := "map") (n := "__next__") (by rw [typeLookup_type, builtinLookup_eq_fast]; kernel_rfl) (by decide +kernel) (by decide +kernel) (by decide +kernel)
    (by first | exact .inl (by decide +kernel) | exact .inr (by decide +kernel)) (by rw [isSubtype_type]; kernel_rfl)
theorem slot_map_iter : Slot "map" "__iter__" "map.__iter__" :=
  .of (owner := "map") (n := "__iter__") (by rw [typeLookup_type, builtinLookup_eq_fast]; kernel_rfl) (by decide +kernel) (by decide +kernel) (by decide +kernel)
    (by first | exact .inl (by decide +kernel) | exact .inr (by decide +kernel)) (by rw [isSubtype_type]; kernel_rfl)
theorem entry_map_next : entryFor table "map.__next__" = some Builtin.«map.__next__» := entryFor_of_tree (by kernel_rfl)
theorem entry_map_new : entryFor table "map.__new__" = some Builtin.«map.__new__» := entryFor_of_tree (by kernel_rfl)
theorem entry_map_iter : entryFor table "map.__iter__" = some Builtin.«dict_keyiterator.__iter__» :=
  entryFor_alias (id' := "dict_keyiterator.__iter__") (by kernel_rfl) (by first | rfl | decide +kernel | (unfold String.splitOn; simp +decide [String.splitOnAux])) (by decide +kernel) (by kernel_rfl)
theorem args_map_next (a : Value) : argsOk "map.__next__" ⟨[a], []⟩ := by unfold argsOk; kernel_rfl
theorem args_map_iter (a : Value) : argsOk "map.__iter__" ⟨[a], []⟩ := by unfold argsOk; kernel_rfl
theorem map_no_len : typeLookup (.type "map") "__len__" = pure none := by rw [typeLookup_type, builtinLookup_eq_fast]; kernel_rfl
theorem map_no_hint : typeLookup (.type "map") "__length_hint__" = pure none := by rw [typeLookup_type, builtinLookup_eq_fast]; kernel_rfl
theorem mro_map : mroOf (.type "map") = pure [.type "map", .type "object"] := by rw [mroOf_type]; kernel_rfl
theorem lookup_map_new : typeLookup (.type "map") "__new__" = pure (some (.builtin "map.__new__")) := by rw [typeLookup_type, builtinLookup_eq_fast]; kernel_rfl
theorem slot_map_init : Slot "map" "__init__" "object.__init__" :=
  .of (owner := "object") (n := "__init__") (by rw [typeLookup_type, builtinLookup_eq_fast]; kernel_rfl) (by decide +kernel) (by decide +kernel) (by decide +kernel)
    (by first | exact .inl (by decide +kernel) | exact .inr (by decide +kernel)) (by rw [isSubtype_type]; kernel_rfl)
theorem called_map : TypeCalled "map" "map.__new__" "object.__init__" :=
  ⟨by decide +kernel, by decide +kernel, ⟨_, _, mro_map⟩, madeBy_type mro_map lookup_map_new (by decide +kernel), by decide +kernel, by rw [isSubtype_type]; kernel_rfl, slot_map_init⟩
theorem typeCall_map (a b : Value) : checkTypeCall "map" ⟨[a, b], []⟩ = pure () := by kernel_rfl
theorem newCall_map (a b : Value) : checkBuiltinCall "map.__new__" ⟨[.type "map", a, b], []⟩ = pure () := by kernel_rfl
theorem sub_map : isSubtype (.type "map") (.type "map") = pure true := by rw [isSubtype_type]; kernel_rfl
end
section
open AutoSeq1 (wpAny_loadPart')
theorem words_Map2_0 : True := by
  k_with_none
  (k_with "m ne" => ((refine neN ?_); (try dsimp only); walk_at "om"))
  (k_with "m om" => (first | with_reducible assumption | exact Nat.le_trans (by with_reducible assumption) (by decide) | exact om4 (by with_reducible assumption) (by decide) | exact om2 (by with_reducible assumption) (by decide) | exact om1 (by with_reducible assumption) (by decide) | exact om0 (by with_reducible assumption) | exact om22 (by with_reducible assumption) (by decide) | exact om18 (by decide) | exact om3 (by with_reducible assumption) (by decide) | exact om10 (by with_reducible assumption) (by with_reducible assumption) (by decide) | exact Ne.symm (by with_reducible assumption) | exact Nat.ne_of_lt (by with_reducible assumption) | exact Nat.ne_of_gt (by with_reducible assumption) | exact om12 (by with_reducible assumption) | exact om14 (by decide) | exact om15 (by decide) | exact om16 (by with_reducible assumption) | exact om17 _ | exact om27 _ _ | exact om28 (by with_reducible assumption) | exact om25 (by with_reducible assumption) | exact om26 (by with_reducible assumption) | exact Nat.succ_le_of_lt (by with_reducible assumption) | exact Nat.lt_of_succ_le (by with_reducible assumption) | exact Nat.sub_succ_lt_self (by with_reducible assumption) | exact Nat.le_antisymm (by with_reducible assumption) (by with_reducible assumption) | exact Nat.le_of_lt (by with_reducible assumption) | exact om11 (by with_reducible assumption) | exact om7 (by with_reducible assumption) (by with_reducible assumption) | exact om8 (by with_reducible assumption) (by with_reducible assumption) | exact om9 (by with_reducible assumption) (by with_reducible assumption) | exact om19 (by with_reducible assumption) (by decide) | exact om20 (by with_reducible assumption) (by decide) | exact om21 (by with_reducible assumption) (by decide) | exact om23 (by with_reducible assumption) | exact om24 (by with_reducible assumption) | exact And.right (by with_reducible assumption) | exact And.left (by with_reducible assumption) | lia | omega))
  trivial
abbrev mapObj (tt : Addr) (f : Value) : Obj := { cls := .type "map", data := .fields #[.ref tt, f] }
abbrev tup1 (v : Value) : Obj := { cls := .type "tuple", data := .seq #[v] }
theorem meets_map_new (f : Value) (l : Addr) (items : Array Value) (n : Nat) (dct : Option Addr) (sl : Array (Option Value)) :
    Meets (Builtin.«map.__new__» ⟨[.type "map", f, .ref l], []⟩) (fun _ R s => s.heap.get? l = some { cls := .type "list", dict := dct, data := .seq items n, slots := sl } ∧
      R (.ok (.ret (.ref (s.heap.objs.size + 2))))
        { s with heap := ((s.heap.push (iterObj l 0)).push (tup1 (.ref s.heap.objs.size))).push (mapObj (s.heap.objs.size + 1) f) }) :=
  .of_wp fun prog w A R s h => by
    obtain ⟨hp, g, d, tk, os⟩ := s; obtain ⟨hl, h⟩ := h
    have hsub := sub_map
    have hL : Heap.IsList (Shared.heap ⟨hp, g, d, tk, os⟩) l items := ⟨_, hl, rfl, n, rfl⟩
    wp_walk using wpAny_loadPart' hl, wpAny_pyIter_list hL
    refine ⟨_, rfl, ?_⟩
    have e1 : (hp.push (iterObj l 0)).objs.size = hp.objs.size + 1 := Heap.size_push ..
    have e2 : ((hp.push (iterObj l 0)).push (tup1 (.ref hp.objs.size))).objs.size = hp.objs.size + 2 := by rw [Heap.size_push, e1]
    show R (.ok (.ret (.ref ((hp.push (iterObj l 0)).push (tup1 (.ref hp.objs.size))).objs.size))) ⟨((hp.push (iterObj l 0)).push (tup1 (.ref hp.objs.size))).push (mapObj (hp.push (iterObj l 0)).objs.size f), g, d, tk, os⟩
    rw [e1, e2]
    exact h
section
variable {prog : Program} {w : World} {A : Around} {E : Value → Shared → Prop} {s : Shared}
theorem call_map {f : Value} {l : Addr} {items : Array Value} {Q : Value → Shared → Prop} (hL : s.heap.IsList l items)
    (h : ∀ h', h'.get? s.heap.objs.size = some (iterObj l 0) → h'.get? (s.heap.objs.size + 1) = some (tup1 (.ref s.heap.objs.size)) → h'.get? (s.heap.objs.size + 2) = some (mapObj (s.heap.objs.size + 1) f) → h'.objs.size = s.heap.objs.size + 3 →
      s.heap.StaysIn h' → Q (.ref (s.heap.objs.size + 2)) { s with heap := h' }) :
    wpAny (model prog w) A (call (.type "map") [f, .ref l]) Q E s := by
  obtain ⟨⟨c, dct, dt, sl⟩, hl, hc, n, hd⟩ := hL
  replace hc : c = .type "list" := hc
  replace hd : dt = .seq items n := hd
  subst hc hd
  refine callType_new called_map (by decide) (typeCall_map _ _) (newCall_map _ _) (fun obj => F.args_object_init_3 obj _ _) entry_map_new (meets_map_new f l items n dct sl) ⟨hl, ?_⟩
  have e1 : (s.heap.push (iterObj l 0)).objs.size = s.heap.objs.size + 1 := Heap.size_push ..
  have e2 : ((s.heap.push (iterObj l 0)).push (tup1 (.ref s.heap.objs.size))).objs.size = s.heap.objs.size + 2 := by rw [Heap.size_push, e1]
  have g3 : (((s.heap.push (iterObj l 0)).push (tup1 (.ref s.heap.objs.size))).push (mapObj (s.heap.objs.size + 1) f)).get? (s.heap.objs.size + 2) = some (mapObj (s.heap.objs.size + 1) f) := by
    rw [← e2]; exact Heap.get?_push_size _ rfl
  have g2 : ((s.heap.push (iterObj l 0)).push (tup1 (.ref s.heap.objs.size))).get? (s.heap.objs.size + 1) = some (tup1 (.ref s.heap.objs.size)) := by
    rw [← e1]; exact Heap.get?_push_size _ rfl
  refine ⟨⟨_, g3, rfl⟩, h _ (Heap.get?_push_of_some _ (Heap.get?_push_of_some _ (Heap.get?_push_size _ rfl))) (Heap.get?_push_of_some _ g2) g3 (by rw [Heap.size_push, e2]) fun b o e => Heap.get?_push_of_some _ (Heap.get?_push_of_some _ (Heap.get?_push_of_some _ e))⟩
theorem map_next_item {z tt it l : Addr} {f : Value} {i : Nat} {items : Array Value} {x : Value} {Q : Value → Shared → Prop} (hz : s.heap.get? z = some (mapObj tt f)) (ht : s.heap.get? tt = some (tup1 (.ref it))) (hit : s.heap.IsListIter it l i) (hl : s.heap.IsList l items) (hx : items[i]? = some x)
    (hne1 : z ≠ it) (hc : ∀ h₁, h₁.IsListIter it l (i + 1) → Heap.SameBut it s.heap h₁ → wpAny (model prog w) A (call f [x]) Q E { s with heap := h₁ }) :
    wpAny (model prog w) A (Builtin.«map.__next__» ⟨[.ref z], []⟩) (fun fin s' => ∃ v, fin = .done (.ret v) ∧ Q v s') E s := by
  show wpAny _ _ (field (.ref z) 0 >>= _) _ _ _
  refine wpAny_bind (wpAny_field hz rfl (x := .ref tt) rfl ?_)
  refine wpAny_bind (wpAny_seqItems ht rfl ?_)
  dsimp only
  rw [← Array.forIn_toList]
  simp only [List.forIn_cons, List.forIn_nil]
  refine wpAny_bind (wpAny_bind (wpAny_bind (wpAny_holding (wpAny_nextOf_list_item hit hl hx fun h₁ hit₁ hs₁ => wpAny_pure ?_))))
  dsimp only
  refine wpAny_pure ?_
  refine wpAny_bind (wpAny_field (hs₁.extBut _ _ hne1 hz) rfl (x := f) rfl ?_)
  refine wpAny_bind (wpAny_holding (wpAny_mono (hc h₁ hit₁ hs₁) (fun v s' hv => ?_) fun _ _ e => e))
  exact wpAny_bind (wpAny_letGo (wpAny_pure ⟨_, rfl, hv⟩))
theorem map_next_end {z tt it l : Addr} {f : Value} {i : Nat} {items : Array Value} {Q : Fin → Shared → Prop} (hh : A.handled = none) (hz : s.heap.get? z = some (mapObj tt f)) (ht : s.heap.get? tt = some (tup1 (.ref it))) (hit : s.heap.IsListIter it l i) (hl : s.heap.IsList l items) (hx : items[i]? = none)
    (hE : ∀ h' e, Heap.ExtBut it s.heap h' → (∃ o, h'.get? e = some o ∧ o.cls = .type "StopIteration") → E (.ref e) { s with heap := h' }) :
    wpAny (model prog w) A (Builtin.«map.__next__» ⟨[.ref z], []⟩) Q E s := by
  show wpAny _ _ (field (.ref z) 0 >>= _) _ _ _
  refine wpAny_bind (wpAny_field hz rfl (x := .ref tt) rfl ?_)
  refine wpAny_bind (wpAny_seqItems ht rfl ?_)
  dsimp only
  rw [← Array.forIn_toList]
  simp only [List.forIn_cons, List.forIn_nil]
  exact wpAny_bind (wpAny_bind (wpAny_bind (wpAny_holding (wpAny_nextOf_list_end hh hit hl hx hE))))
end
section
variable {w : World} {loose : List Str} {mean : ExcName → Option Value} {mg mb : Str → Option Value}
/-- the walk of map(fspath, texts) -/
theorem walks_map {A : Around} {base h₀ : Heap} {outer : List Env} {ps : List (Str × Tok)} {z tt it l : Addr}
    (B : Below A base outer h₀) (X : (hd.heap_39 w.params).In h₀) (T : Top hd.view_39 loose mean mg mb h₀) (hdp : A.depth + 10 < recursionLimit) (hun : A.units + 103 < cLine) (hh : A.handled = none)
    (hst : ∀ b o, h₀.get? b = some o → b ≠ it ∧ b ≠ z ∧ b ≠ tt) (hd1 : z ≠ it) (hd2 : tt ≠ it) (hl1 : l ≠ it) (N : Nat) (hN : ∀ b o, h₀.get? b = some o → b < N) (h1 : it < N) (h2 : tt < N) (h3 : z < N) (h4 : l < N) :
    Walks Pg w A z (List.range N) [it] ps.length (fun i v => (strValues ps)[i]? = some v) (fun i h => h.IsListIter it l i ∧ h.IsList l (strValues ps).toArray ∧ h.get? z = some (mapObj tt (.ref 101)) ∧ h.get? tt = some (tup1 (.ref it)) ∧ h₀.StaysIn h) where
  sub := fun b hb => by rw [List.mem_singleton.mp hb]; exact List.mem_range.mpr h1
  frame := fun i h h' st hk => ⟨st.1.at fun o e => hk it (List.mem_range.mpr h1) o e, st.2.1.at fun o e => hk l (List.mem_range.mpr h4) o e, hk z (List.mem_range.mpr h3) _ st.2.2.1, hk tt (List.mem_range.mpr h2) _ st.2.2.2.1,
    fun b o e => hk b (List.mem_range.mpr (hN b o e)) o (st.2.2.2.2 b o e)⟩
  item := fun i s Q E hi st hQ => by
    obtain ⟨hit, hl, hz, ht, hs⟩ := st
    have hT : s.TypeIs (.ref z) "map" := ⟨_, hz, rfl⟩
    have hi' : i < ps.length := hi
    have hx : (strValues ps).toArray[i]? = some (.str ps[i].1 ps[i].2) := by simp [strValues, hi']
    unfold pyNext
    refine wpAny_bind (wpAny_attempt (wpAny_callSpecial?_slot (name := Str.ofString "__next__") hT slot_map_next
      (wpAny_call_entry slot_map_next hT entry_map_next (map_next_item hz ht hit hl hx hd1 fun h₁ hit₁ hs₁ => ?_) (args_map_next _))))
    have st₁ : h₀.StaysIn h₁ := fun b o e => hs₁.extBut b o (hst b o e).1 (hs b o e)
    refine wpAny_call (fspath (s := { s with heap := h₁ }) (base := base) (outer := outer) (loose := loose) (mean := mean) (mg := mg) (mb := mb) ⟨B.stack, fun b o e => st₁ b o (B.stays b o e), B.frames.of_keeps fun b o e _ => ⟨o, st₁ b o e, rfl⟩⟩ (Frag.In.keeps X st₁) (T.keeps st₁) hdp (by show A.units + 1 + 100 < cLine; walk_at "om") hh fun h₂ tk hs₂ => ?_)
    refine wpAny_pure (hQ _ h₂ tk (by simp [strValues, hi']) ⟨?_, ?_, hs₂ _ _ (hs₁.extBut _ _ hd1 hz), hs₂ _ _ (hs₁.extBut _ _ hd2 ht), fun b o e => hs₂ b o (st₁ b o e)⟩ fun b o hb e => hs₂ b o (hs₁.extBut b o (by simpa using hb) e))
    · exact hit₁.at fun o e => hs₂ _ o e
    · exact (hl.extBut hs₁.extBut hl1).at fun o e => hs₂ _ o e
  done := fun s Q E st hQ => by
    obtain ⟨hit, hl, hz, ht, hs⟩ := st
    have hT : s.TypeIs (.ref z) "map" := ⟨_, hz, rfl⟩
    unfold pyNext
    refine wpAny_bind (wpAny_attempt (wpAny_callSpecial?_slot (name := Str.ofString "__next__") hT slot_map_next
      (wpAny_call_entry slot_map_next hT entry_map_next (map_next_end hh hz ht hit hl (by simp [strValues]) fun h' e hk he => ?_) (args_map_next _))))
    obtain ⟨o, ho, hc⟩ := he
    refine wpAny_bind (wpAny_isInstance (T := "StopIteration") (b := true) ⟨o, ho, hc⟩ isSubtype_stop ?_)
    exact wpAny_pure (hQ _ _ fun b o hb e => hk b o (by simpa using hb) e)
  self := fun i s Q E st hQ => by
    have hT : s.TypeIs (.ref z) "map" := ⟨_, st.2.2.1, rfl⟩
    refine wpAny_pyIter_slot hT slot_map_iter (wpAny_call_entry slot_map_iter hT entry_map_iter ?_ (args_map_iter _))
    show wpAny _ _ (ret (.ref z)) _ _ s
    exact wpAny_pure ⟨_, rfl, "map", _, hT, slot_map_next.lookup, hQ⟩
end
end
section
open AutoSeq1 (wpAny_loadPart')
theorem words_Map3_0 : True := by
  k_with_none
  (k_with "m ne" => ((refine neN ?_); (try dsimp only); walk_at "om"))
  (k_with "m om" => (first | with_reducible assumption | exact Nat.le_trans (by with_reducible assumption) (by decide) | exact om4 (by with_reducible assumption) (by decide) | exact om2 (by with_reducible assumption) (by decide) | exact om1 (by with_reducible assumption) (by decide) | exact om0 (by with_reducible assumption) | exact om22 (by with_reducible assumption) (by decide) | exact om18 (by decide) | exact om3 (by with_reducible assumption) (by decide) | exact om10 (by with_reducible assumption) (by with_reducible assumption) (by decide) | exact Ne.symm (by with_reducible assumption) | exact Nat.ne_of_lt (by with_reducible assumption) | exact Nat.ne_of_gt (by with_reducible assumption) | exact om12 (by with_reducible assumption) | exact om14 (by decide) | exact om15 (by decide) | exact om16 (by with_reducible assumption) | exact om17 _ | exact om27 _ _ | exact om28 (by with_reducible assumption) | exact om25 (by with_reducible assumption) | exact om26 (by with_reducible assumption) | exact Nat.succ_le_of_lt (by with_reducible assumption) | exact Nat.lt_of_succ_le (by with_reducible assumption) | exact Nat.sub_succ_lt_self (by with_reducible assumption) | exact Nat.le_antisymm (by with_reducible assumption) (by with_reducible assumption) | exact Nat.le_of_lt (by with_reducible assumption) | exact om11 (by with_reducible assumption) | exact om7 (by with_reducible assumption) (by with_reducible assumption) | exact om8 (by with_reducible assumption) (by with_reducible assumption) | exact om9 (by with_reducible assumption) (by with_reducible assumption) | exact om19 (by with_reducible assumption) (by decide) | exact om20 (by with_reducible assumption) (by decide) | exact om21 (by with_reducible assumption) (by decide) | exact om23 (by with_reducible assumption) | exact om24 (by with_reducible assumption) | exact And.right (by with_reducible assumption) | exact And.left (by with_reducible assumption) | lia | omega))
  trivial
section
variable {prog : Program} {w : World} {A : Around} {E : Value → Shared → Prop} {s : Shared} {I : Addr} {fp wr : List Addr} {n : Nat} {P : Nat → Value → Prop} {St : Nat → Heap → Prop}
theorem collect_map {Q : List Value → Shared → Prop} (W : Walks prog w A.in1 I fp wr n P St) (hT : ∀ i (s : Shared), St i s.heap → s.TypeIs (.ref I) "map") (hst : St 0 s.heap) (hfp : ∀ b ∈ fp, b < s.heap.objs.size) (hI : I ∈ fp)
    (hQ : ∀ s' acc, Moved wr (fun a b => b = a) s s' → ItemsOf P acc n → Q acc.toList s') (hn : n ≤ sizeLine) : wpAny (model prog w) A (collect (.ref I)) Q E s := by
  have hSf : s.heap.objs.size ∉ fp := fun hm => Nat.lt_irrefl _ (hfp _ hm)
  have hSI : s.heap.objs.size ≠ I := fun e => hSf (e ▸ hI)
  have h1 : Builtin.List.listSameRef (.ref s.heap.objs.size) (.ref I) = false := by simp [Builtin.List.listSameRef, hSI]
  obtain ⟨hp, g, d, tk, os⟩ := s
  have hnew : (hp.push { cls := .type "list", data := .seq ([] : List Value).toArray }).get? hp.objs.size = some { cls := .type "list", data := .seq ([] : List Value).toArray } := Heap.get?_push_size _ rfl
  have st1 : St 0 (hp.push { cls := .type "list", data := .seq ([] : List Value).toArray }) := W.frame 0 hp _ hst fun b _ o e => Heap.get?_push_of_some _ e
  have hT1 := hT 0 ⟨hp.push { cls := .type "list", data := .seq ([] : List Value).toArray }, g, d, tk, os⟩ st1
  have hnl := map_no_len
  have hnh := map_no_hint
  unfold collect
  refine wpAny_bind (wpAny_runValue (codeAny_builtin F.entry_proto_collect ?_))
  rw [Around.under_plainId F.plain_proto_collect _]
  show wpAny _ A.in1 (newList [] >>= fun l => again (.builtin "list.__iadd__" ⟨[l, .ref I], []⟩)) _ _ _
  refine wpAny_bind (wpAny_newObj_type (wpAny_pure ⟨plainId_quiet F.plain_list_iadd _, codeAny_builtin F.entry_list_iadd ?_⟩))
  rw [Around.under_plainId F.plain_list_iadd _]
  show wpAny _ A.in1 (Builtin.List.listExtendWith (.ref hp.objs.size) (.ref I) (.ref hp.objs.size)) _ _ _
  unfold Builtin.List.listExtendWith
  refine wpAny_bind (wpAny_typeOf hT1 ?_)
  rw [show (Builtin.List.listSameRef (Value.ref hp.objs.size) (Value.ref I)) = false from h1]
  simp only [show (Value.type "map" == Value.type "list") = false from by decide, show (Value.type "map" == Value.type "tuple") = false from by decide, Bool.or_false, Bool.false_eq_true, if_false]
  refine wpAny_bind (W.self 0 _ _ _ st1 (wpAny_bind (wpAny_holding ?_)))
  unfold Builtin.List.listLengthHint
  refine wpAny_bind (wpAny_specialOf hT1 hnl ?_)
  show wpAny _ A.in1 (specialOf (Value.ref I) (Str.ofString "__length_hint__") >>= _) _ _ _
  refine wpAny_bind (wpAny_specialOf hT1 hnh (wpAny_pure ?_))
  rw [Bool.true_or, if_pos rfl]
  refine wpAny_bind (wpAny_rule (wpAny_bind ?_))
  show wpAny _ A.in1 (updateSeq hp.objs.size (·.push .none) >>= fun _ => updateSeq hp.objs.size (·.pop)) _ _ _
  have u1 := Heap.get?_update_self (Obj.mapSeq (·.push Value.none)) hnew rfl
  have u2 := Heap.get?_update_self (Obj.mapSeq (·.pop)) u1 rfl
  refine wpAny_bind (wpAny_updateSeq hnew rfl (wpAny_updateSeq u1 rfl ?_))
  generalize hH : ((hp.push { cls := .type "list", data := .seq ([] : List Value).toArray }).update hp.objs.size (Obj.mapSeq (·.push Value.none))).update hp.objs.size (Obj.mapSeq (·.pop)) = H at u2 ⊢
  have kept : ∀ b o, b ≠ hp.objs.size → (hp.push { cls := .type "list", data := .seq ([] : List Value).toArray }).get? b = some o → H.get? b = some o := fun b o hb e => by
    rw [← hH, Heap.get?_update_other _ _ (Ne.symm hb), Heap.get?_update_other _ _ (Ne.symm hb)]; exact e
  have st2 : St 0 H := W.frame 0 _ _ st1 fun b hb o e => kept b o (fun h => hSf (h ▸ hb)) e
  have mv : Moved wr (fun a b => b = a) ⟨hp, g, d, tk, os⟩ (⟨H, g, d, tk, os⟩ : Shared) := ⟨fun b o _ e => kept b o (Nat.ne_of_lt (Heap.lt_size e)) (Heap.get?_push_of_some _ e), rfl, rfl, rfl, Nat.le_refl _⟩
  refine wpAny_pure ⟨plainId_quiet F.plain_extend_loop _, codeAny_extend_loopS W.toS hn _ hSf _ n 0 _ _ _ rfl (Nat.zero_le _) st2 u2 (ItemsOf.nil P) fun s' acc' c' hm hS' hacc => ?_⟩
  show wpAny _ A (load hp.objs.size >>= _) _ _ s'
  refine wpAny_bind (wpAny_load hS' (wpAny_pure (hQ s' acc' ?_ hacc)))
  refine ⟨fun b o hb e => hm.heap b o (fun q => ?_) (mv.heap b o hb e), hm.gens.trans mv.gens, hm.drawn.trans mv.drawn, hm.os.trans mv.os, Nat.le_trans mv.toks hm.toks⟩
  rcases List.mem_cons.mp q with q | q
  · exact Nat.lt_irrefl _ (q ▸ Heap.lt_size e)
  · exact hb q
theorem call_tuple_map {Q : Value → Shared → Prop} (W : Walks prog w A.in1.in1.in1 I fp wr n P St) (hT : ∀ i (s : Shared), St i s.heap → s.TypeIs (.ref I) "map") (hst : St 0 s.heap) (hfp : ∀ b ∈ fp, b < s.heap.objs.size) (hI : I ∈ fp)
    (hQ : ∀ s' acc, Moved wr (fun a b => b = a) s s' → ItemsOf P acc n → Q (.ref s'.heap.objs.size) { s' with heap := s'.heap.push { cls := .type "tuple", data := .seq acc } }) (hsz : n ≤ sizeLine) :
    wpAny (model prog w) A (call (.type "tuple") [.ref I]) Q E s := by
  have hnew : codeAny (model prog w) A.in1 (.call (.builtin "tuple.__new__") ⟨[.type "tuple", .ref I], []⟩) (wants (fun obj s₁ => s₁.TypeIs obj "tuple" ∧ Q obj s₁) E) s := by
    refine codeAny_of_tree ?_
    show wpAny _ A.in1.in1 (do checkBuiltinCall "tuple.__new__" ⟨[.type "tuple", .ref I], []⟩; again (.builtin "tuple.__new__" ⟨[.type "tuple", .ref I], []⟩)) _ _ s
    refine wpAny_bind (wpAny_of_eq (F.newCall_tuple_1 _) (wpAny_pure ⟨plainId_quiet F.plain_tuple_new _, codeAny_builtin F.entry_tuple_new ?_⟩))
    rw [Around.under_plainId F.plain_tuple_new _]
    have hsub := sub_tuple_self
    have hinit := init_tuple_lookup
    have hmh := madeHere_tuple
    have hTI := hT 0 s hst
    wp_walk using wpAny_typeOf hTI, collect_map (hn := hsz) W hT hst hfp hI
    intro s' acc hm hacc
    have e : acc.toList.toArray = acc := by simp
    show wpAny _ _ (Builtin.Tuple.tupleExact acc.toList.toArray >>= fun v => ret v) _ _ _
    unfold Builtin.Tuple.tupleExact
    rw [e]
    exact wpAny_bind (wpAny_newObj_type (wpAny_pure ⟨⟨_, Heap.get?_push_size _ rfl, rfl⟩, hQ s' acc hm hacc⟩) (by show acc.size ≤ sizeLine; rw [hacc.1]; exact hsz))
  refine callType_codes (Q₁ := fun obj s₁ => s₁.TypeIs obj "tuple" ∧ Q obj s₁) F.called_tuple (F.typeCall_tuple_1 _) F.entry_object_init hnew fun obj s₁ h₁ => ?_
  exact ⟨h₁.1, F.args_object_init_2 obj _, object_init_meets F.called_tuple.init.lookup F.called_tuple.made (by decide) prog w A.in1 _ s₁ ⟨h₁.1, rfl, h₁.2⟩⟩
end
structure MapIs (h₀ h : Heap) (l z : Addr) : Prop where
  it : h.get? h₀.objs.size = some (iterObj l 0)
  tt : h.get? (h₀.objs.size + 1) = some (tup1 (.ref h₀.objs.size))
  mp : h.get? z = some (mapObj (h₀.objs.size + 1) (.ref 101))
  z : z = h₀.objs.size + 2
  size : h.objs.size = h₀.objs.size + 3
  stays : h₀.StaysIn h
section
variable {w : World} {loose : List Str} {mean : ExcName → Option Value} {mg mb : Str → Option Value}
theorem tuple_map {A : Around} {base h₀ : Heap} {outer : List Env} {s : Shared} {ps : List (Str × Tok)} {l z : Addr} {Q : Value → Shared → Prop} {E : Value → Shared → Prop} (M : MapIs h₀ s.heap l z) (hl : h₀.IsList l (strValues ps).toArray)
    (B : Below A base outer h₀) (X : (hd.heap_39 w.params).In h₀) (T : Top hd.view_39 loose mean mg mb h₀) (hdp : A.depth + 10 < recursionLimit) (hun : A.units + 106 < cLine) (hh : A.handled = none) (hsz : ps.length ≤ 100000)
    (h : ∀ D h' tk, h₀.StaysIn h' → h₀.get? D = none → h'.get? D = some { cls := .type "tuple", data := .seq (strValues ps).toArray } → Q (.ref D) { s with heap := h', toks := tk }) :
    wpAny (model Pg w) A (call (.type "tuple") [.ref z]) Q E s := by
  obtain ⟨hit, htt, hmp, rfl, hsize, hst⟩ := M
  have lt : ∀ (b : Nat) o, h₀.get? b = some o → b < h₀.objs.size := fun b o e => Heap.lt_size e
  have hll : @LT.lt Nat _ l h₀.objs.size := by obtain ⟨o, e, _⟩ := hl; exact lt _ _ e
  have W := walks_map (A := A.in1.in1.in1) (ps := ps) (z := h₀.objs.size + 2) (tt := h₀.objs.size + 1) (it := h₀.objs.size) (l := l) (w := w) ⟨B.stack, B.stays, B.frames⟩ X T hdp (by show A.units + 1 + 1 + 1 + 103 < cLine; walk_at "om") hh
    (fun b o e => by have := lt b o e; exact ⟨neN (by walk_at "om"), neN (by walk_at "om"), neN (by walk_at "om")⟩) (neN (by walk_at "om")) (neN (by walk_at "om")) (Nat.ne_of_lt hll) s.heap.objs.size (fun b o e => by have := lt b o e; exact ltN (by walk_at "om")) (ltN (by walk_at "om")) (ltN (by walk_at "om")) (ltN (by walk_at "om")) (ltN (by walk_at "om"))
  refine call_tuple_map W (fun i s' st => ⟨_, st.2.2.1, rfl⟩) ⟨⟨_, hit, rfl, rfl⟩, hl.at fun o e => hst _ o e, hmp, htt, hst⟩ (fun b hb => List.mem_range.mp hb) (List.mem_range.mpr (ltN (by walk_at "om"))) (fun s' acc hm hacc => ?_) (by rw [sizeLine_eq]; walk_at "om")
  have ea : acc = (strValues ps).toArray := by
    apply Array.toList_inj.mp
    have := all_items (items := strValues ps) (vs := acc.toList) (by simp [strValues, hacc.1]) fun j v hj => hacc.2 j v (by simpa using hj)
    simpa using this
  obtain ⟨hp, g, d, tk, os⟩ := s'
  obtain ⟨k1, k2, k3, k4, k5⟩ := hm
  dsimp only at k1 k2 k3 k4 k5
  subst k2 k3 k4 ea
  have hin : ∀ b o, h₀.get? b = some o → hp.get? b = some o := fun b o e => k1 b o (by have := lt b o e; rw [List.mem_singleton]; exact Nat.ne_of_lt this) (hst b o e)
  refine h _ _ _ (fun b o e => Heap.get?_push_of_some _ (hin b o e)) ?_ (Heap.get?_push_size _ rfl)
  cases q : h₀.get? hp.objs.size with
  | none => rfl
  | some o => exact absurd (Heap.lt_size (hin _ _ q)) (Nat.lt_irrefl _)
end
end
section
section
variable {prog : Program} {w : World} {A : Around} {E : Value → Shared → Prop} {env : Env} {s : Shared}
/-- a name that gets a comprehension's list, whose items are lists that it makes -/
theorem asgO {elt iter : Expr} {x y : Str} {px py : Pos} {scope : Scope} {cl : List (Str × Addr)} {pos spos : Pos} {Q : Flow → Shared → Prop} {vs : List Value} {src : Value} {m : Str → Option Value} {h₀ : Heap} {St : Nat → Heap → Prop} {ax : Addr} {io : Obj} (G : Value → Array Value → Prop)
    (hsw : swapsWith (.ListComp elt [⟨.Name x px, iter, [], 0⟩] scope pos) (some (.Name y py)) spos.line env = pure true)
    (hclos : closureFor scope env = pure cl) (hcell : ∀ z ∈ scope.names, z.2 ≠ .cell) (hkind : scope.kind = .function)
    (hnames : ∀ z ∈ scope.names, z.2 = .local → scope.names.lookup z.1 = some .local) (hx : scope.names.lookup x = some .local)
    (hy : env.kindOf y = some .local) (hp : (env.scope.kind == .class || (env.scope.kind == .module && env.locals != env.globals)) = false)
    (hiter : wpAny (model prog w) A (eval iter env) (fun xv s₁ => xv = src ∧ s₁ = s) E s)
    (hpy : ∀ (Q : Value → Shared → Prop), Q (.ref s.heap.objs.size) { s with heap := s.heap.push io } → wpAny (model prog w) A (pyIter src) Q E s)
    (W : Walks prog w A s.heap.objs.size [s.heap.objs.size, ax] [s.heap.objs.size] vs.length (fun i v => vs[i]? = some v) St) (hlive : ∀ i h, St i h → ∃ o, h.get? s.heap.objs.size = some o) (hax : ax < s.heap.objs.size)
    (hst : St 0 (s.heap.push io)) (hz : vs.length ≤ sizeLine) (F : Fr h₀ env.locals s.heap m)
    (helt : ∀ C v s₃ m₃ E', v ∈ vs → s₃.heap.Ns C m₃ → m₃ x = some v → s.heap.StaysIn s₃.heap →
      wpAny (model prog w) A (eval elt (compEnvC scope cl C env)) (fun y s₄ => (∃ T its, y = .ref T ∧ s₃.heap.get? T = none ∧ s₄.heap.IsList T its ∧ G v its) ∧ Keeps s₃ s₄) E' s₃)
    (h : ∀ D h' tk ys n, s.heap.get? D = none → h'.get? D = some (listOf ys.toArray n) → Paired (LstIs s.heap G h') vs ys → ys.Pairwise (· ≠ ·) → (∀ z ∈ ys, z ≠ .ref D) → Fr h₀ env.locals h' (fun z => if z = y then some (.ref D) else m z) →
      (∀ b o, b ≠ env.locals → s.heap.get? b = some o → h'.get? b = some o) → Q .next { s with heap := h', toks := tk })
    (hs : ∀ x, foldedSetIterable iter env x = pure x) :
    wpAny (model prog w) A (exec (.Assign [.Name y py] (.ListComp elt [⟨.Name x px, iter, [], 0⟩] scope pos) spos) env) Q E s := by
  have st : ∀ b o, s.heap.get? b = some o → b ∉ [s.heap.objs.size] := fun b o e hm => absurd (Heap.lt_size e) (List.mem_singleton.mp hm ▸ Nat.lt_irrefl _)
  have none_ : ∀ a, (s.heap.push io).get? a = none → s.heap.get? a = none := fun a e => by
    cases q : s.heap.get? a with
    | none => rfl
    | some o => rw [Heap.get?_push_of_some _ q] at e; cases e
  rw [exec_Assign_Name_used _ _ _ _ hsw]
  refine wpAny_bind (wpAny_standAt (wpAny_bind ?_))
  show wpAny _ A (do let _ ← comprehension (.ListComp elt [⟨.Name x px, iter, [], 0⟩] scope pos) scope env _ (newList []) false (eval iter env) (some (assign (.Name y py) env))) _ _ s
  refine wpAny_bind (wpAny_mono (wpAny_comprehension_free (use := some (assign (.Name y py) env)) (Q := fun _ s' => Q .next s') rfl hs hclos hkind hnames
    (wpAny_mono hiter (fun xv s₁ h₁ => ?_) fun _ _ e => e)) (fun _ s' hq => wpAny_pure (wpAny_pure hq)) fun _ _ e => e)
  obtain ⟨rfl, rfl⟩ := h₁
  refine hpy _ ?_
  refine comp_block_walkCO (RR := fun acc C => compPost (model prog w) A E (some (assign (.Name y py) env)) (fun _ s' => Q .next s') acc C) W hz (fun _ => true) G (fun i h hs b hb => by rw [List.mem_singleton.mp hb]; exact hlive i h hs) hcell hkind hx hst ?_ ⟨?_, ?_⟩ ?_
  · intro b hb
    show b < (s₁.heap.push io).objs.size
    rw [Heap.size_push]
    rcases List.mem_cons.mp hb with e | hb
    · rw [e]; exact Nat.lt_succ_self _
    · rw [List.mem_singleton.mp hb]; exact Nat.lt_succ_of_lt hax
  · intro C i v s₃ m₃ E' _ _ _ _ _ _
    exact wpAny_pure ⟨rfl, _, _, rfl, fun _ _ e => e⟩
  · intro C i v s₃ m₃ E' _ hP _ hn hm hk _
    exact helt C v s₃ m₃ E' (List.mem_of_getElem? hP) hn hm fun b o e => hk b o (st b o e) (Heap.get?_push_of_some _ e)
  · intro D C h' tk m' ys vs' hD hC hDC hnC hlD hpl hlen hP hF hnd hk
    have e : vs' = vs := all_items hlen fun j v hj => hP j v hj
    subst e
    rw [List.filter_eq_self.mpr (by intro _ _; rfl)] at hF
    have hD' := none_ _ hD
    have hC' := none_ _ hC
    obtain ⟨oL, es, ep, hL, r⟩ := F.ns
    have hLC : env.locals ≠ C := by rintro rfl; rw [hC'] at hL; cases hL
    have hLD : env.locals ≠ D := by rintro rfl; rw [hD'] at hL; cases hL
    have hnL : h'.Ns env.locals m := ⟨oL, es, ep, hk _ _ (st _ _ hL) (Heap.get?_push_of_some _ hL), r⟩
    obtain ⟨n, hn⟩ := hpl
    show wpAny _ A (assign (.Name y py) env (.ref D)) _ _ _
    refine wpAny_assign_Name (wpAny_storeName_local hy hnL (fun h₂ hn₂ hs₂ => ?_) hp)
    refine ⟨m', hnC.sameBut hs₂ (Ne.symm hLC), fun h₃ hs₃ => ?_⟩
    have kp : ∀ b o, b ≠ env.locals → b ≠ C → h'.get? b = some o → h₃.get? b = some o := fun b o h1 h2 e => hs₃.extBut b o h2 (hs₂.extBut b o h1 e)
    have kb : ∀ b o, b ≠ env.locals → s₁.heap.get? b = some o → h₃.get? b = some o := fun b o h1 e => kp b o h1 (by rintro rfl; rw [hC'] at e; cases e) (hk b o (st b o e) (Heap.get?_push_of_some _ e))
    refine h D h₃ _ ys.toList n hD' ?_ ?_ hnd ?_ ⟨hn₂.sameBut hs₃ hLC, fun b o e => kb b o (Nat.ne_of_lt (Nat.lt_of_lt_of_le (Heap.lt_size e) F.above)) (F.keep b o e), F.above⟩ kb
    · have := kp D _ (Ne.symm hLD) hDC hn
      simpa using this
    · refine hF.mono fun v y hy' => ?_
      obtain ⟨T, its, rfl, g1, g2, g3, g4, ⟨o, g5, g6⟩, g7⟩ := hy'
      refine ⟨T, its, rfl, none_ _ g1, ⟨o, kp T o ?_ g2 g5, g6⟩, g7⟩
      rintro rfl
      rw [none_ _ g1] at hL; cases hL
    · intro z hz e
      obtain ⟨_, T, _, e', _, _, _, g4, _, _⟩ := Paired.right hF z hz
      rw [e] at e'; cases e'; exact g4 rfl
end
section
variable {prog : Program} {w : World} {A : Around} {E : Value → Shared → Prop} {env : Env} {s : Shared}
variable {elt iter : Expr} {x y : Str} {px py : Pos} {scope : Scope} {cl : List (Str × Addr)} {pos spos : Pos} {Q : Flow → Shared → Prop} {vs : List Value} {l : Addr} {m : Str → Option Value} {h₀ : Heap}
theorem asgOT (G : Value → Array Value → Prop) (hh : A.handled = none)
    (hsw : swapsWith (.ListComp elt [⟨.Name x px, iter, [], 0⟩] scope pos) (some (.Name y py)) spos.line env = pure true)
    (hclos : closureFor scope env = pure cl) (hcell : ∀ z ∈ scope.names, z.2 ≠ .cell) (hkind : scope.kind = .function)
    (hnames : ∀ z ∈ scope.names, z.2 = .local → scope.names.lookup z.1 = some .local) (hx : scope.names.lookup x = some .local)
    (hy : env.kindOf y = some .local) (hp : (env.scope.kind == .class || (env.scope.kind == .module && env.locals != env.globals)) = false)
    (hiter : wpAny (model prog w) A (eval iter env) (fun xv s₁ => xv = .ref l ∧ s₁ = s) E s) (hl : s.heap.IsTuple l vs.toArray) (hz : vs.length ≤ sizeLine) (F : Fr h₀ env.locals s.heap m)
    (helt : ∀ C v s₃ m₃ E', v ∈ vs → s₃.heap.Ns C m₃ → m₃ x = some v → s.heap.StaysIn s₃.heap →
      wpAny (model prog w) A (eval elt (compEnvC scope cl C env)) (fun y s₄ => (∃ T its, y = .ref T ∧ s₃.heap.get? T = none ∧ s₄.heap.IsList T its ∧ G v its) ∧ Keeps s₃ s₄) E' s₃)
    (h : ∀ D h' tk ys n, s.heap.get? D = none → h'.get? D = some (listOf ys.toArray n) → Paired (LstIs s.heap G h') vs ys → ys.Pairwise (· ≠ ·) → (∀ z ∈ ys, z ≠ .ref D) → Fr h₀ env.locals h' (fun z => if z = y then some (.ref D) else m z) →
      (∀ b o, b ≠ env.locals → s.heap.get? b = some o → h'.get? b = some o) → Q .next { s with heap := h', toks := tk })
    (hs : ∀ x, foldedSetIterable iter env x = pure x) :
    wpAny (model prog w) A (exec (.Assign [.Name y py] (.ListComp elt [⟨.Name x px, iter, [], 0⟩] scope pos) spos) env) Q E s := by
  have hlt : l < s.heap.objs.size := by obtain ⟨o, ho, _⟩ := hl; exact Heap.lt_size ho
  have W := Walks.tuple (prog := prog) (w := w) hh s.heap.objs.size l (Nat.ne_of_lt hlt) vs.toArray
  rw [show vs.toArray.size = vs.length by simp, show (fun (i : Nat) (v : Value) => vs.toArray[i]? = some v) = fun i v => vs[i]? = some v by funext i v; simp] at W
  exact asgO (io := { cls := .type "tuple_iterator", data := .fields #[.ref l, .int 0 0] }) G hsw hclos hcell hkind hnames hx hy hp hiter (fun Q hq => wpAny_pyIter_tuple hl hq) W (fun i h st => by obtain ⟨o, e, _⟩ := st.1; exact ⟨o, e⟩) hlt
    ⟨⟨_, Heap.get?_push_size _ rfl, rfl, rfl⟩, hl.at fun o e => Heap.get?_push_of_some _ e⟩ hz F helt h hs
theorem asgOL (G : Value → Array Value → Prop) (hh : A.handled = none)
    (hsw : swapsWith (.ListComp elt [⟨.Name x px, iter, [], 0⟩] scope pos) (some (.Name y py)) spos.line env = pure true)
    (hclos : closureFor scope env = pure cl) (hcell : ∀ z ∈ scope.names, z.2 ≠ .cell) (hkind : scope.kind = .function)
    (hnames : ∀ z ∈ scope.names, z.2 = .local → scope.names.lookup z.1 = some .local) (hx : scope.names.lookup x = some .local)
    (hy : env.kindOf y = some .local) (hp : (env.scope.kind == .class || (env.scope.kind == .module && env.locals != env.globals)) = false)
    (hiter : wpAny (model prog w) A (eval iter env) (fun xv s₁ => xv = .ref l ∧ s₁ = s) E s) (hl : s.heap.IsList l vs.toArray) (hz : vs.length ≤ sizeLine) (F : Fr h₀ env.locals s.heap m)
    (helt : ∀ C v s₃ m₃ E', v ∈ vs → s₃.heap.Ns C m₃ → m₃ x = some v → s.heap.StaysIn s₃.heap →
      wpAny (model prog w) A (eval elt (compEnvC scope cl C env)) (fun y s₄ => (∃ T its, y = .ref T ∧ s₃.heap.get? T = none ∧ s₄.heap.IsList T its ∧ G v its) ∧ Keeps s₃ s₄) E' s₃)
    (h : ∀ D h' tk ys n, s.heap.get? D = none → h'.get? D = some (listOf ys.toArray n) → Paired (LstIs s.heap G h') vs ys → ys.Pairwise (· ≠ ·) → (∀ z ∈ ys, z ≠ .ref D) → Fr h₀ env.locals h' (fun z => if z = y then some (.ref D) else m z) →
      (∀ b o, b ≠ env.locals → s.heap.get? b = some o → h'.get? b = some o) → Q .next { s with heap := h', toks := tk })
    (hs : ∀ x, foldedSetIterable iter env x = pure x) :
    wpAny (model prog w) A (exec (.Assign [.Name y py] (.ListComp elt [⟨.Name x px, iter, [], 0⟩] scope pos) spos) env) Q E s := by
  have hlt : l < s.heap.objs.size := by obtain ⟨o, ho, _⟩ := hl; exact Heap.lt_size ho
  have W := Walks.list (prog := prog) (w := w) hh s.heap.objs.size l (Nat.ne_of_lt hlt) vs.toArray
  rw [show vs.toArray.size = vs.length by simp, show (fun (i : Nat) (v : Value) => vs.toArray[i]? = some v) = fun i v => vs[i]? = some v by funext i v; simp] at W
  exact asgO (io := iterObj l 0) G hsw hclos hcell hkind hnames hx hy hp hiter (fun Q hq => wpAny_pyIter_list hl hq) W (fun i h st => by obtain ⟨o, e, _⟩ := st.1; exact ⟨o, e⟩) hlt
    ⟨⟨_, Heap.get?_push_size _ rfl, rfl, rfl⟩, hl.at fun o e => Heap.get?_push_of_some _ e⟩ hz F helt h hs
end
end
section
theorem words_Gen8_0 : True := by
  k_with_none
  (k_with "m ne" => ((refine neN ?_); (try dsimp only); walk_at "om"))
  (k_with "m om" => (first | with_reducible assumption | exact Nat.le_trans (by with_reducible assumption) (by decide) | exact om4 (by with_reducible assumption) (by decide) | exact om2 (by with_reducible assumption) (by decide) | exact om1 (by with_reducible assumption) (by decide) | exact om0 (by with_reducible assumption) | exact om22 (by with_reducible assumption) (by decide) | exact om18 (by decide) | exact om3 (by with_reducible assumption) (by decide) | exact om10 (by with_reducible assumption) (by with_reducible assumption) (by decide) | exact Ne.symm (by with_reducible assumption) | exact Nat.ne_of_lt (by with_reducible assumption) | exact Nat.ne_of_gt (by with_reducible assumption) | exact om12 (by with_reducible assumption) | exact om14 (by decide) | exact om15 (by decide) | exact om16 (by with_reducible assumption) | exact om17 _ | exact om27 _ _ | exact om28 (by with_reducible assumption) | exact om25 (by with_reducible assumption) | exact om26 (by with_reducible assumption) | exact Nat.succ_le_of_lt (by with_reducible assumption) | exact Nat.lt_of_succ_le (by with_reducible assumption) | exact Nat.sub_succ_lt_self (by with_reducible assumption) | exact Nat.le_antisymm (by with_reducible assumption) (by with_reducible assumption) | exact Nat.le_of_lt (by with_reducible assumption) | exact om11 (by with_reducible assumption) | exact om7 (by with_reducible assumption) (by with_reducible assumption) | exact om8 (by with_reducible assumption) (by with_reducible assumption) | exact om9 (by with_reducible assumption) (by with_reducible assumption) | exact om19 (by with_reducible assumption) (by decide) | exact om20 (by with_reducible assumption) (by decide) | exact om21 (by with_reducible assumption) (by decide) | exact om23 (by with_reducible assumption) | exact om24 (by with_reducible assumption) | exact And.right (by with_reducible assumption) | exact And.left (by with_reducible assumption) | lia | omega))
  trivial
section
variable {prog : Program} {w : World} {A : Around} {E : Value → Shared → Prop} {s : Shared} {env : Env}
/-- a text's split makes one new list and turns nothing else -/
theorem split_new {x y : Str} {t u : Tok} {Q : Value → Shared → Prop} (hy : (y.length == 0) = false) (hx : x.length + 2 ≤ sizeLine)
    (h : ∀ l h' k, l.map (·.1) = Txt.split x y → h'.get? s.heap.objs.size = some (listOf (strValues l).toArray 0) → s.heap.StaysIn h' → Q (.ref s.heap.objs.size) { s with heap := h', toks := k }) :
    wpAny (model prog w) A (call (.builtin "str.split") [.str x t, .str y u]) Q E s := by
  have make : ∀ l k, l.map (·.1) = Txt.split x y → Q (.ref s.heap.objs.size) { s with heap := s.heap.push (listOf (strValues l).toArray 0), toks := k } := fun l k e =>
    h l _ k e (Heap.get?_push_size _ rfl) fun b o q => Heap.get?_push_of_some _ q
  have hp : 1 ≤ y.length := by
    have : y.length ≠ 0 := by simpa using hy
    walk_at "om"
  have small : (Txt.split x y).length ≤ sizeLine := by have := split_weight x y hp; walk_at "om"
  have sl := F.slot_str_split
  have en := F.entry_str_split
  have ar := F.args_str_split_2 (.str x t) (.str y u)
  by_cases h1 : (decide (x.length < y.length) || decide (Builtin.Str.strKind x < Builtin.Str.strKind y)) = true
  · exact call_meets sl (typeIs_str _ _ _) en ar (meets_str_split_cannot_occur x y t u h1) (make [(x, t)] s.toks (by unfold Txt.split; rw [if_pos h1]; rfl))
  · have h1' := Bool.not_eq_true _ ▸ h1
    by_cases hf : (Builtin.Str.occurrences x y 0 x.length (x.length + 1)).isEmpty = true
    · exact call_meets sl (typeIs_str _ _ _) en ar (meets_str_split_not_found x y t u h1' hy hf) (make [(x, t)] s.toks (by unfold Txt.split; rw [if_neg h1, if_pos hf]; rfl))
    · have hf' := Bool.not_eq_true _ ▸ hf
      have es : Txt.split x y = Builtin.Str.partsBetween x (Builtin.Str.occurrences x y 0 x.length (x.length + 1)) y.length := by unfold Txt.split; rw [if_neg h1, if_neg hf]
      refine call_meets sl (typeIs_str _ _ _) en ar (meets_str_split_sep x y t u h1' hy hf' (by walk_at "om") (es ▸ small)) ?_
      have := make (numbered s.toks (Txt.split x y)) (s.toks + (Builtin.Str.partsBetween x (Builtin.Str.occurrences x y 0 x.length (x.length + 1)) y.length).length) (numbered_texts _ _)
      rw [← strsFrom_eq, es] at this
      exact this
theorem nmC {scope : Scope} {cl : List (Str × Addr)} {C c : Addr} {x : Str} {pos : Pos} {v : Value} {o : Obj} {Q : Value → Shared → Prop} (hc : cl.lookup x = some c) (ho : s.heap.get? c = some o) (hv : o.data = .cell (some v)) (h : Q v s)
    (hk : (compEnvC scope cl C env).scope.kind = .function) (hx : (compEnvC scope cl C env).kindOf x = some .cell) (hd : (x == ("__debug__" : Str)) = false) : wpAny (model prog w) A (eval (.Name x pos) (compEnvC scope cl C env)) Q E s :=
  wpAny_Name (wpAny_loadName_cell (env := compEnvC scope cl C env) hk hx hc ⟨o, ho, hv⟩ h) hd
end
end
section
/-- an entry of the ledger that is a list of these items -/
def LstE (G : Value → Array Value → Prop) (v : Value) (p : Addr × Obj) : Prop := ∃ its n, p.2.cls = .type "list" ∧ p.2.data = .seq its n ∧ G v its
theorem inner_of {h₁ h : Heap} {G : Value → Array Value → Prop} {vs ys : List Value} (H : Paired (LstIs h₁ G h) vs ys) :
    ∃ inner : List (Addr × Obj), ys = inner.map (fun p => .ref p.1) ∧ (∀ p ∈ inner, h.get? p.1 = some p.2 ∧ h₁.get? p.1 = none) ∧ Paired (LstE G) vs inner := by
  induction H with
  | nil => exact ⟨[], rfl, (fun p hp => nomatch hp), .nil⟩
  | cons hf _ ih =>
    obtain ⟨inner, rfl, h1, h2⟩ := ih
    obtain ⟨T, its, rfl, hn, ⟨o, ho, hc, n, hd⟩, hg⟩ := hf
    refine ⟨(T, o) :: inner, rfl, ?_, .cons ⟨its, n, hc, hd, hg⟩ h2⟩
    intro p hp
    rcases List.mem_cons.mp hp with rfl | hp
    · exact ⟨ho, hn⟩
    · exact h1 p hp
theorem newsMany {g h h' : Heap} {L : Addr} {m : Str → Option Value} {news inner : List (Addr × Obj)} (F : Fr g L h m) (N : News g L h news) (hk : ∀ b o, b ≠ L → h.get? b = some o → h'.get? b = some o)
    (hi : ∀ p ∈ inner, h'.get? p.1 = some p.2 ∧ h.get? p.1 = none) : News g L h' (inner ++ news) := by
  intro p hp
  rcases List.mem_append.mp hp with hp | hp
  · obtain ⟨h1, h2⟩ := hi p hp
    refine ⟨h1, fun e => ?_, ?_⟩
    · obtain ⟨oL, _, _, hL, _⟩ := F.ns
      rw [e, hL] at h2; cases h2
    · cases q : g.get? p.1 with
      | none => rfl
      | some o' => rw [F.keep _ _ q] at h2; cases h2
  · exact ⟨hk _ _ (N p hp).2.1 (N p hp).1, (N p hp).2⟩
end
section
section
variable {prog : Program} {w : World} {A : Around} {E : Value → Shared → Prop} {s : Shared}
theorem slot_bool_hash : Slot "bool" "__hash__" "int.__hash__" :=
  .of (owner := "int") (n := "__hash__") (by rw [typeLookup_type, builtinLookup_eq_fast]; kernel_rfl) (by decide +kernel) (by decide +kernel) (by decide +kernel)
    (by first | exact .inl (by decide +kernel) | exact .inr (by decide +kernel)) (by rw [isSubtype_type]; kernel_rfl)
theorem hash_true {Q : Int → Shared → Prop} (h : Q 1 { s with toks := s.toks + 1 }) : wpAny (model prog w) A (pyHash (.bool true)) Q E s := by
  have hT : s.TypeIs (.bool true) "bool" := rfl
  have hne : ¬ (some (Value.builtin "int.__hash__") == some Value.none) = true := by decide
  show wpAny _ _ (pyHashByItsType (.bool true)) _ _ _
  unfold pyHashByItsType
  refine wpAny_bind (wpAny_cRoomFor_byValue rfl (wpAny_bind (wpAny_specialOf hT slot_bool_hash.lookup ?_)))
  dsimp only
  rw [if_neg hne]
  refine wpAny_bind (wpAny_specialOf hT slot_bool_hash.lookup ?_)
  refine wpAny_bind (wpAny_callSpecialIfBoundUnlessNone?_slot hT slot_bool_hash (wpAny_call_entry slot_bool_hash hT entry_int_hash ?_ (args_int_hash _)))
  show wpAny _ _ (do ret (← mkInt (rawHash 1))) _ _ s
  refine wpAny_ret_mkInt ?_
  exact wpAny_pure h
def trueKind (prog : Program) (w : World) : KeyKind prog w Unit where
  is := fun _ v => v == .bool true
  hash := fun _ => 1
  inj := fun _ _ _ _ _ => rfl
  byValue := fun k v h => by obtain rfl := eq_of_beq h; rfl
  pyHash := fun hv h => by obtain rfl := eq_of_beq hv; exact hash_true h
  eqBool := fun hu hv h => by
    obtain rfl := eq_of_beq hu
    obtain rfl := eq_of_beq hv
    unfold eqBool
    refine wpAny_holding ?_
    rw [if_pos (by decide)]
    exact wpAny_bind (wpAny_rule (wpAny_pure (by simpa using h)))
  «strs» := fun k x t v h => by exact absurd (eq_of_beq h) (by simp)
end
end
section
section
variable {prog : Program} {w : World} {A : Around} {R : Result → Shared → Prop} {s : Shared}
theorem compTurn_set1 (elt target iter : Expr) (scope : Scope) (pos : Pos) (it acc : Value) (env : Env) :
    compTurn (.SetComp elt [⟨target, iter, [], 0⟩] scope pos) 0 it acc env = (standAt iter.pos >>= fun _ => pyNext it >>= fun r => match r with
      | none => pure (.done .next)
      | some v => letOwnedTupleGo target it v >>= fun _ => assign target env v >>= fun _ =>
        (eval elt env >>= fun x => standAt elt.pos >>= fun _ => call (.builtin "set.add") [acc, x] >>= fun _ => pure ()) >>= fun _ =>
          again (.compLoop (.SetComp elt [⟨target, iter, [], 0⟩] scope pos) 0 it acc env)) := by rfl
theorem loop_set {elt target iter : Expr} {scope : Scope} {pos : Pos} {it acc : Value} {env : Env} (I : Nat → Shared → Prop)
    (turn : ∀ n s, I n s → wpAny (model prog w) A (pyNext it) (fun r s₁ => match r with
      | none => R (.ok .next) s₁
      | some v => wpAny (model prog w) A (assign target env v) (fun _ s₂ => wpAny (model prog w) A (eval elt env) (fun x s₃ =>
          wpAny (model prog w) A (call (.builtin "set.add") [acc, x]) (fun _ s₄ => ∃ m, m < n ∧ I m s₄) (notedBy (model prog w) A env fun e s' => R (.error e) s') s₃)
          (notedBy (model prog w) A env fun e s' => R (.error e) s') s₂) (notedBy (model prog w) A env fun e s' => R (.error e) s') s₁) (notedBy (model prog w) A env fun e s' => R (.error e) s') s)
    (n : Nat) (h : I n s) (ht : ∀ v, letOwnedTupleGo target it v = pure ()) :
    codeAny (model prog w) A (.compLoop (.SetComp elt [⟨target, iter, [], 0⟩] scope pos) 0 it acc env) R s := by
  refine codeAny_loop rfl I (fun n s hI => ?_) n h
  show wpAny _ _ ((compTurn (.SetComp elt [⟨target, iter, [], 0⟩] scope pos) 0 it acc env).onRaise (fun x => do noteFrame x env; theTreesLotGoes x)) _ _ s
  refine wpAny_noted ?_
  rw [compTurn_set1]
  refine wpAny_bind (wpAny_standAt (wpAny_bind (wpAny_mono (turn n s hI) (fun r s₁ h₁ => ?_) fun _ _ h' => h')))
  cases r with
  | none => exact wpAny_pure h₁
  | some v =>
    refine wpAny_bind (wpAny_of_eq (ht v) (wpAny_bind (wpAny_mono h₁ (fun _ s₂ h₂ => ?_) fun _ _ h' => h')))
    refine wpAny_bind (wpAny_bind (wpAny_mono h₂ (fun x s₃ h₃ => ?_) fun _ _ h' => h'))
    exact wpAny_bind (wpAny_standAt (wpAny_bind (wpAny_mono h₃ (fun _ s₄ h₄ => wpAny_pure (wpAny_pure ⟨rfl, h₄⟩)) fun _ _ h' => h')))
theorem start_set {elt target iter : Expr} {scope : Scope} {pos : Pos} {it acc : Value} {env : Env}
    (h0 : codeAny (model prog w) A (.compLoop (.SetComp elt [⟨target, iter, [], 0⟩] scope pos) 0 it acc env) R s)
    (h : wpAny (model prog w) A (pyIter it) (fun it' s' => codeAny (model prog w) A (.compLoop (.SetComp elt [⟨target, iter, [], 0⟩] scope pos) 0 it' acc env) R s')
      (notedBy (model prog w) A env fun x s' => R (.error x) s') s) :
    codeAny (model prog w) A (.compStart (.SetComp elt [⟨target, iter, [], 0⟩] scope pos) 0 it acc env) R s := by
  refine codeAny_of_tree ?_
  show wpAny _ _ ((compStart (.SetComp elt [⟨target, iter, [], 0⟩] scope pos) 0 it acc env).onRaise (fun x => do noteFrame x env; standAt theWindowsPlace)) _ _ s
  refine wpAny_notedAt ?_
  unfold compStart
  show wpAny _ _ (ask >>= _) _ _ s
  refine wpAny_bind (wpAny_askSetting (wpAny_ite ?_))
  split
  · exact wpAny_pure (And.intro rfl h0)
  · refine wpAny_bind (wpAny_rule ?_)
    show wpAny _ _ (standAt iter.pos >>= _) _ _ s
    exact wpAny_bind (wpAny_standAt (wpAny_bind (wpAny_mono h (fun it' s' h' => wpAny_pure (And.intro rfl h')) fun _ _ x => x)))
end
end
section
open PySem.SeqAt
open AutoSeq1 (wpAny_loadPart')
open MeetsSeq MeetsSeq2 MeetsSeq3 SeqRoads2
theorem words_Gen12_0 : True := by
  k_with_none
  (k_with "m ne" => ((refine neN ?_); (try dsimp only); walk_at "om"))
  (k_with "m om" => (first | with_reducible assumption | exact Nat.le_trans (by with_reducible assumption) (by decide) | exact om4 (by with_reducible assumption) (by decide) | exact om2 (by with_reducible assumption) (by decide) | exact om1 (by with_reducible assumption) (by decide) | exact om0 (by with_reducible assumption) | exact om22 (by with_reducible assumption) (by decide) | exact om18 (by decide) | exact om3 (by with_reducible assumption) (by decide) | exact om10 (by with_reducible assumption) (by with_reducible assumption) (by decide) | exact Ne.symm (by with_reducible assumption) | exact Nat.ne_of_lt (by with_reducible assumption) | exact Nat.ne_of_gt (by with_reducible assumption) | exact om12 (by with_reducible assumption) | exact om14 (by decide) | exact om15 (by decide) | exact om16 (by with_reducible assumption) | exact om17 _ | exact om27 _ _ | exact om28 (by with_reducible assumption) | exact om25 (by with_reducible assumption) | exact om26 (by with_reducible assumption) | exact Nat.succ_le_of_lt (by with_reducible assumption) | exact Nat.lt_of_succ_le (by with_reducible assumption) | exact Nat.sub_succ_lt_self (by with_reducible assumption) | exact Nat.le_antisymm (by with_reducible assumption) (by with_reducible assumption) | exact Nat.le_of_lt (by with_reducible assumption) | exact om11 (by with_reducible assumption) | exact om7 (by with_reducible assumption) (by with_reducible assumption) | exact om8 (by with_reducible assumption) (by with_reducible assumption) | exact om9 (by with_reducible assumption) (by with_reducible assumption) | exact om19 (by with_reducible assumption) (by decide) | exact om20 (by with_reducible assumption) (by decide) | exact om21 (by with_reducible assumption) (by decide) | exact om23 (by with_reducible assumption) | exact om24 (by with_reducible assumption) | exact And.right (by with_reducible assumption) | exact And.left (by with_reducible assumption) | lia | omega))
  trivial
def ltS (x y : Str) : Bool := decide (x.cps.toList < y.cps.toList)
def ltL : List Str → List Str → Bool
  | [], [] => false
  | [], _ :: _ => true
  | _ :: _, [] => false
  | x :: xs, y :: ys => if x = y then ltL xs ys else ltS x y
theorem str_drop {xs : List (Str × Tok)} {i : Nat} (h : i < xs.length) : ∃ c t, (strValues xs).toArray[(i : Int).toNat]? = some (.str c t) ∧ (xs.map (·.1)).drop i = c :: (xs.map (·.1)).drop (i + 1) :=
  ⟨xs[i].1, xs[i].2, by simp [strValues, h], by rw [List.drop_eq_getElem_cons (by simpa using h)]; simp⟩
section
variable {prog : Program} {w : World} {A : Around} {E : Value → Shared → Prop} {s : Shared} {x y : Str} {t u : Tok}
theorem rc_lt {Q : Value → Shared → Prop} (h : Q (.bool (ltS x y)) s) : wpAny (model prog w) A (richCompare .Lt (.str x t) (.str y u)) Q E s := lt_str h
theorem rc_gt {Q : Value → Shared → Prop} (h : Q (.bool (ltS y x)) s) : wpAny (model prog w) A (richCompare .Gt (.str x t) (.str y u)) Q E s :=
  richCompare_gives (op := .Gt) (typeIs_str s x t) (typeIs_str s y u) F.slot_str_gt F.entry_str_gt (F.args_str_gt_2 _ _) (gives_str_gt x y t u) (fun e => nomatch e) h
end
theorem lt_loop (l b : Addr) (xs ys : List (Str × Tok)) (n n2 : Nat) (dd dd2 : Option Addr) (sl sl2 : Array (Option Value)) (k : Nat) :
    ∀ i : Nat, xs.length - i = k → i ≤ xs.length → i ≤ ys.length → Meets (Builtin.«list.__eq__.loop» ⟨[.ref l, .ref b, rawInt i, rawInt 0], []⟩)
      (fun A R s => s.heap.get? l = some { cls := .type "list", dict := dd, data := .seq (strValues xs).toArray n, slots := sl } ∧ s.heap.get? b = some { cls := .type "list", dict := dd2, data := .seq (strValues ys).toArray n2, slots := sl2 } ∧
        R (.ok (.ret (.bool (ltL ((xs.map (·.1)).drop i) ((ys.map (·.1)).drop i))))) s) := by
  induction k with
  | zero =>
    intro i hk hx hy prog w A R s h
    obtain ⟨hp, g, d, tk, os⟩ := s; obtain ⟨hl, hb, h⟩ := h
    wp_walk using wpAny_loadPart' hl, wpAny_loadPart' hb
    have hi : i = xs.length := by walk_at "om"
    subst hi
    have hi1 : (strValues xs).toArray[((xs.length : Nat) : Int).toNat]? = none := by simp [strValues]
    rw [hi1]
    wp_walk using wpAny_loadPart' hl, wpAny_loadPart' hb
    show R (.ok (.ret (.bool (decide ((strValues xs).toArray.size < (strValues ys).toArray.size))))) _
    have e : (xs.map (·.1)).drop xs.length = [] := by simp
    rw [e] at h
    rcases Nat.lt_or_ge xs.length ys.length with hlt | hge
    · obtain ⟨c, t, _, e2⟩ := str_drop hlt
      rw [e2] at h
      simpa [strValues, hlt, ltL] using h
    · have e2 : (ys.map (·.1)).drop xs.length = [] := by simp; walk_at "om"
      rw [e2] at h
      have hn : ¬ xs.length < ys.length := by walk_at "om"
      simpa [strValues, hn, ltL] using h
  | succ k ih =>
    intro i hk hx hy prog w A R s h
    obtain ⟨hp, g, d, tk, os⟩ := s; obtain ⟨hl, hb, h⟩ := h
    wp_walk using wpAny_loadPart' hl, wpAny_loadPart' hb
    have hlt : i < xs.length := by walk_at "om"
    obtain ⟨c, t, hi1, e1⟩ := str_drop hlt
    have hc : ((i : Int) + 1) = ((i + 1 : Nat) : Int) := by push_cast; rfl
    rw [e1] at h
    rw [hi1]
    rcases Nat.lt_or_ge i ys.length with hlt2 | hge2
    · obtain ⟨c2, t2, hi2, e2⟩ := str_drop hlt2
      rw [e2] at h
      rw [hi2]
      refine wpAny_bind (EqAt.str_str c t c2 t2 prog w _ _ ?_)
      by_cases hcc : c = c2
      · have hb' : (c == c2) = true := by simpa using hcc
        rw [hb']
        simp only [ltL, if_pos hcc] at h
        wp_walk
        rw [hc]
        exact ⟨plainId_quiet plain_eq_loop _, codeAny_builtin entry_eq_loop (by
          rw [Around.under_plainId plain_eq_loop _]
          exact ih (i + 1) (by walk_at "om") (by walk_at "om") (by walk_at "om") prog w A R _ ⟨hl, hb, h⟩)⟩
      · have hb' : (c == c2) = false := by simpa using hcc
        rw [hb']
        simp only [ltL, if_neg hcc] at h
        wp_walk using wpAny_loadPart' hl, wpAny_loadPart' hb
        rw [hi1, hi2]
        refine wpAny_bind (rc_lt ?_)
        exact wpAny_pure h
    · have e2 : (ys.map (·.1)).drop i = [] := by simp; walk_at "om"
      have hi2 : (strValues ys).toArray[((i : Nat) : Int).toNat]? = none := by simp [strValues]; walk_at "om"
      rw [e2] at h
      rw [hi2]
      wp_walk using wpAny_loadPart' hl, wpAny_loadPart' hb
      show R (.ok (.ret (.bool (decide ((strValues xs).toArray.size < (strValues ys).toArray.size))))) _
      have hn : ¬ xs.length < ys.length := by walk_at "om"
      simpa [strValues, hn, ltL] using h
theorem list_lt (l b : Addr) (xs ys : List (Str × Tok)) (n n2 : Nat) (dd dd2 : Option Addr) (sl sl2 : Array (Option Value)) :
    Meets (Builtin.«list.__lt__» ⟨[.ref l, .ref b], []⟩)
      (fun A R s => s.heap.get? l = some { cls := .type "list", dict := dd, data := .seq (strValues xs).toArray n, slots := sl } ∧ s.heap.get? b = some { cls := .type "list", dict := dd2, data := .seq (strValues ys).toArray n2, slots := sl2 } ∧
        R (.ok (.ret (.bool (ltL (xs.map (·.1)) (ys.map (·.1)))))) s) := by
  intro prog w A R s h
  obtain ⟨hp, g, d, tk, os⟩ := s; obtain ⟨hl, hb, h⟩ := h
  have f3 := AutoSeq1.sub_list_list
  wp_walk using wpAny_loadPart' hl, wpAny_loadPart' hb
  exact ⟨plainId_quiet plain_eq_loop _, codeAny_builtin entry_eq_loop (by
    rw [Around.under_plainId plain_eq_loop _]
    exact lt_loop l b xs ys n n2 dd dd2 sl sl2 _ 0 rfl (Nat.zero_le _) (Nat.zero_le _) prog w A R _ ⟨hl, hb, h⟩)⟩
section
variable {prog : Program} {w : World} {A : Around} {E : Value → Shared → Prop} {s : Shared}
theorem rcl_lt {l b : Addr} {xs ys : List (Str × Tok)} {Q : Value → Shared → Prop} (hl : s.heap.IsList l (strValues xs).toArray) (hb : s.heap.IsList b (strValues ys).toArray) (hu : A.units < cLine)
    (h : Q (.bool (ltL (xs.map (·.1)) (ys.map (·.1)))) s) : wpAny (model prog w) A (richCompare .Lt (.ref l) (.ref b)) Q E s := by
  obtain ⟨⟨c, dct, dt, sl⟩, hl1, hc, n, hd⟩ := id hl
  obtain ⟨⟨c2, dct2, dt2, sl2⟩, hb1, hc2, n2, hd2⟩ := id hb
  dsimp only at hc hd hc2 hd2
  subst hc hd hc2 hd2
  refine wpAny_richCompare_same_room (op := .Lt) hl.typeIs hb.typeIs F.slot_list_lt ?_ hu
  refine call_meets F.slot_list_lt hl.typeIs F.entry_list_lt (F.args_list_lt_2 _ _) (list_lt l b xs ys n n2 dct dct2 sl sl2) ?_
  refine And.intro hl1 (And.intro hb1 ?_)
  exact And.intro Value.noConfusion h
end
theorem gt_loop (l b : Addr) (xs ys : List (Str × Tok)) (n n2 : Nat) (dd dd2 : Option Addr) (sl sl2 : Array (Option Value)) (k : Nat) :
    ∀ i : Nat, xs.length - i = k → i ≤ xs.length → i ≤ ys.length → Meets (Builtin.«list.__eq__.loop» ⟨[.ref l, .ref b, rawInt i, rawInt 4], []⟩)
      (fun A R s => s.heap.get? l = some { cls := .type "list", dict := dd, data := .seq (strValues xs).toArray n, slots := sl } ∧ s.heap.get? b = some { cls := .type "list", dict := dd2, data := .seq (strValues ys).toArray n2, slots := sl2 } ∧
        R (.ok (.ret (.bool (ltL ((ys.map (·.1)).drop i) ((xs.map (·.1)).drop i))))) s) := by
  induction k with
  | zero =>
    intro i hk hx hy prog w A R s h
    obtain ⟨hp, g, d, tk, os⟩ := s; obtain ⟨hl, hb, h⟩ := h
    wp_walk using wpAny_loadPart' hl, wpAny_loadPart' hb
    have hi : i = xs.length := by walk_at "om"
    subst hi
    have hi1 : (strValues xs).toArray[((xs.length : Nat) : Int).toNat]? = none := by simp [strValues]
    rw [hi1]
    wp_walk using wpAny_loadPart' hl, wpAny_loadPart' hb
    show R (.ok (.ret (.bool (decide ((strValues xs).toArray.size > (strValues ys).toArray.size))))) _
    have e : (xs.map (·.1)).drop xs.length = [] := by simp
    rw [e] at h
    rcases Nat.lt_or_ge xs.length ys.length with hlt | hge
    · obtain ⟨c, t, _, e2⟩ := str_drop hlt
      rw [e2] at h
      simpa [strValues, Nat.not_lt.mpr (Nat.le_of_lt hlt), ltL] using h
    · have e2 : (ys.map (·.1)).drop xs.length = [] := by simp; walk_at "om"
      rw [e2] at h
      have hn : ¬ ys.length < xs.length := by walk_at "om"
      simpa [strValues, hn, ltL] using h
  | succ k ih =>
    intro i hk hx hy prog w A R s h
    obtain ⟨hp, g, d, tk, os⟩ := s; obtain ⟨hl, hb, h⟩ := h
    wp_walk using wpAny_loadPart' hl, wpAny_loadPart' hb
    have hlt : i < xs.length := by walk_at "om"
    obtain ⟨c, t, hi1, e1⟩ := str_drop hlt
    have hc : ((i : Int) + 1) = ((i + 1 : Nat) : Int) := by push_cast; rfl
    rw [e1] at h
    rw [hi1]
    rcases Nat.lt_or_ge i ys.length with hlt2 | hge2
    · obtain ⟨c2, t2, hi2, e2⟩ := str_drop hlt2
      rw [e2] at h
      rw [hi2]
      refine wpAny_bind (EqAt.str_str c t c2 t2 prog w _ _ ?_)
      by_cases hcc : c = c2
      · have hb' : (c == c2) = true := by simpa using hcc
        rw [hb']
        simp only [ltL, if_pos hcc.symm] at h
        wp_walk
        rw [hc]
        exact ⟨plainId_quiet plain_eq_loop _, codeAny_builtin entry_eq_loop (by
          rw [Around.under_plainId plain_eq_loop _]
          exact ih (i + 1) (by walk_at "om") (by walk_at "om") (by walk_at "om") prog w A R _ ⟨hl, hb, h⟩)⟩
      · have hb' : (c == c2) = false := by simpa using hcc
        rw [hb']
        simp only [ltL, if_neg (Ne.symm hcc)] at h
        wp_walk using wpAny_loadPart' hl, wpAny_loadPart' hb
        rw [hi1, hi2]
        refine wpAny_bind (rc_gt ?_)
        exact wpAny_pure h
    · have e2 : (ys.map (·.1)).drop i = [] := by simp; walk_at "om"
      have hi2 : (strValues ys).toArray[((i : Nat) : Int).toNat]? = none := by simp [strValues]; walk_at "om"
      rw [e2] at h
      rw [hi2]
      wp_walk using wpAny_loadPart' hl, wpAny_loadPart' hb
      show R (.ok (.ret (.bool (decide ((strValues xs).toArray.size > (strValues ys).toArray.size))))) _
      have hn : ys.length < xs.length := by walk_at "om"
      simpa [strValues, hn, ltL] using h
theorem list_gt (l b : Addr) (xs ys : List (Str × Tok)) (n n2 : Nat) (dd dd2 : Option Addr) (sl sl2 : Array (Option Value)) :
    Meets (Builtin.«list.__gt__» ⟨[.ref l, .ref b], []⟩)
      (fun A R s => s.heap.get? l = some { cls := .type "list", dict := dd, data := .seq (strValues xs).toArray n, slots := sl } ∧ s.heap.get? b = some { cls := .type "list", dict := dd2, data := .seq (strValues ys).toArray n2, slots := sl2 } ∧
        R (.ok (.ret (.bool (ltL (ys.map (·.1)) (xs.map (·.1)))))) s) := by
  intro prog w A R s h
  obtain ⟨hp, g, d, tk, os⟩ := s; obtain ⟨hl, hb, h⟩ := h
  have f3 := AutoSeq1.sub_list_list
  wp_walk using wpAny_loadPart' hl, wpAny_loadPart' hb
  exact ⟨plainId_quiet plain_eq_loop _, codeAny_builtin entry_eq_loop (by
    rw [Around.under_plainId plain_eq_loop _]
    exact gt_loop l b xs ys n n2 dd dd2 sl sl2 _ 0 rfl (Nat.zero_le _) (Nat.zero_le _) prog w A R _ ⟨hl, hb, h⟩)⟩
section
variable {prog : Program} {w : World} {A : Around} {E : Value → Shared → Prop} {s : Shared}
theorem rcl_gt {l b : Addr} {xs ys : List (Str × Tok)} {Q : Value → Shared → Prop} (hl : s.heap.IsList l (strValues xs).toArray) (hb : s.heap.IsList b (strValues ys).toArray) (hu : A.units < cLine)
    (h : Q (.bool (ltL (ys.map (·.1)) (xs.map (·.1)))) s) : wpAny (model prog w) A (richCompare .Gt (.ref l) (.ref b)) Q E s := by
  obtain ⟨⟨c, dct, dt, sl⟩, hl1, hc, n, hd⟩ := id hl
  obtain ⟨⟨c2, dct2, dt2, sl2⟩, hb1, hc2, n2, hd2⟩ := id hb
  dsimp only at hc hd hc2 hd2
  subst hc hd hc2 hd2
  refine wpAny_richCompare_same_room (op := .Gt) hl.typeIs hb.typeIs F.slot_list_gt ?_ hu
  refine call_meets F.slot_list_gt hl.typeIs F.entry_list_gt (F.args_list_gt_2 _ _) (list_gt l b xs ys n n2 dct dct2 sl sl2) ?_
  refine And.intro hl1 (And.intro hb1 ?_)
  exact And.intro Value.noConfusion h
end
end
section
theorem words_Gen13_0 : True := by
  k_with_none
  (k_with "m ne" => ((refine neN ?_); (try dsimp only); walk_at "om"))
  (k_with "m om" => (first | with_reducible assumption | exact Nat.le_trans (by with_reducible assumption) (by decide) | exact om4 (by with_reducible assumption) (by decide) | exact om2 (by with_reducible assumption) (by decide) | exact om1 (by with_reducible assumption) (by decide) | exact om0 (by with_reducible assumption) | exact om22 (by with_reducible assumption) (by decide) | exact om18 (by decide) | exact om3 (by with_reducible assumption) (by decide) | exact om10 (by with_reducible assumption) (by with_reducible assumption) (by decide) | exact Ne.symm (by with_reducible assumption) | exact Nat.ne_of_lt (by with_reducible assumption) | exact Nat.ne_of_gt (by with_reducible assumption) | exact om12 (by with_reducible assumption) | exact om14 (by decide) | exact om15 (by decide) | exact om16 (by with_reducible assumption) | exact om17 _ | exact om27 _ _ | exact om28 (by with_reducible assumption) | exact om25 (by with_reducible assumption) | exact om26 (by with_reducible assumption) | exact Nat.succ_le_of_lt (by with_reducible assumption) | exact Nat.lt_of_succ_le (by with_reducible assumption) | exact Nat.sub_succ_lt_self (by with_reducible assumption) | exact Nat.le_antisymm (by with_reducible assumption) (by with_reducible assumption) | exact Nat.le_of_lt (by with_reducible assumption) | exact om11 (by with_reducible assumption) | exact om7 (by with_reducible assumption) (by with_reducible assumption) | exact om8 (by with_reducible assumption) (by with_reducible assumption) | exact om9 (by with_reducible assumption) (by with_reducible assumption) | exact om19 (by with_reducible assumption) (by decide) | exact om20 (by with_reducible assumption) (by decide) | exact om21 (by with_reducible assumption) (by decide) | exact om23 (by with_reducible assumption) | exact om24 (by with_reducible assumption) | exact And.right (by with_reducible assumption) | exact And.left (by with_reducible assumption) | lia | omega))
  trivial
/-- the first item that no later one is under -/
def bestOf (lt : Value → Value → Bool) (b : Value) (vs : List Value) : Value := vs.foldl (fun b v => if lt v b then v else b) b
section
variable {prog : Program} {w : World} {A : Around} {R : Result → Shared → Prop} {I l S : Addr} {vs : List Value} {lt : Value → Value → Bool} {h₀ : Heap}
theorem min_loop (hh : A.handled = none) (hI : h₀.get? I = none) (hS : h₀.get? S = none) (hIS : S ≠ I) (hl : h₀.IsList l vs.toArray)
    (hcmp : ∀ (s : Shared) (v u : Value) (Q : Value → Shared → Prop) (E : Value → Shared → Prop), h₀.StaysIn s.heap → v ∈ vs → u ∈ vs → Q (.bool (lt v u)) s → wpAny (model prog w) A.in1 (richCompare .Lt v u) Q E s) :
    ∀ (rest : List Value) (j : Nat) (s : Shared) (vb : Value) (c : Nat), vs.drop (j + 1) = rest → j + 1 ≤ vs.length → h₀.StaysIn s.heap → s.heap.IsListIter I l (j + 1) → vb ∈ vs →
      s.heap.get? S = some { cls := .type "list", dict := none, data := .seq #[vb, vb] c, slots := #[] } →
      (∀ h' tk, h₀.StaysIn h' → R (.ok (.ret (bestOf lt vb rest))) { s with heap := h', toks := tk }) →
      codeAny (model prog w) A (.builtin "min.loop" ⟨[.ref I, .none, .ref S], []⟩) R s := by
  have hname : (toString "min" ++ toString ".loop" : String) = "min.loop" := by decide
  have hlI : l ≠ I := by rintro rfl; obtain ⟨o, e, _⟩ := hl; rw [hI] at e; cases e
  have hlS : l ≠ S := by rintro rfl; obtain ⟨o, e, _⟩ := hl; rw [hS] at e; cases e
  have W := Walks.list (prog := prog) (w := w) (A := A.in1) hh I l hlI vs.toArray
  have hsz : vs.toArray.size = vs.length := List.size_toArray ..
  have n1 : ∀ b o, h₀.get? b = some o → b ≠ S := fun b o e q => by rw [q, hS] at e; cases e
  have n2 : ∀ b o, h₀.get? b = some o → b ∉ [I] := fun b o e q => by rw [List.mem_singleton.mp q, hI] at e; cases e
  intro rest
  induction rest with
  | nil =>
    intro j s vb c hr hj st hit hvb hSo hR
    have hin : j + 1 = vs.length := by
      have := List.drop_eq_nil_iff.mp hr
      walk_at "om"
    refine codeAny_builtin F.entry_min_loop ?_
    rw [Around.under_plainId F.plain_min_loop _]
    show wpAny _ A.in1 (seqItems? (.ref S) >>= _) _ _ s
    refine wpAny_bind (wpAny_seqItems hSo rfl ?_)
    show wpAny _ A.in1 (tryCatch (pyNext (.ref I)) _ >>= _) _ _ s
    refine wpAny_bind (wpAny_tryCatch (W.done s _ _ ⟨by rw [hsz, ← hin]; exact hit, hl.at fun o e => st _ o e⟩ fun h' tk hk' => ?_))
    have hS' := hk' S _ (by simpa using hIS) hSo
    show wpAny _ A.in1 (updateSeq S (fun _ => #[]) >>= _) _ _ _
    refine wpAny_bind ?_
    refine wpAny_updateSeq hS' rfl (wpAny_bind (wpAny_letGo (wpAny_pure ?_)))
    exact hR _ tk fun b o e => (Heap.get?_update_other _ _ (Ne.symm (n1 b o e))).trans (hk' b o (n2 b o e) (st b o e))
  | cons v' rest ih =>
    intro j s vb c hr hj st hit hvb hSo hR
    have hlt : j + 1 < vs.length := by
      rcases Nat.lt_or_ge (j + 1) vs.length with h | h
      · exact h
      · rw [List.drop_eq_nil_iff.mpr h] at hr; cases hr
    have hv' : vs[j + 1]? = some v' := by
      have := congrArg List.head? hr
      simpa using this
    have hr' : vs.drop (j + 1 + 1) = rest := by
      rw [← List.drop_drop, hr]; rfl
    refine codeAny_builtin F.entry_min_loop ?_
    rw [Around.under_plainId F.plain_min_loop _]
    show wpAny _ A.in1 (seqItems? (.ref S) >>= _) _ _ s
    refine wpAny_bind (wpAny_seqItems hSo rfl ?_)
    show wpAny _ A.in1 (tryCatch (pyNext (.ref I)) _ >>= _) _ _ s
    refine wpAny_bind (wpAny_tryCatch (W.item (j + 1) s _ _ (by rw [hsz]; exact hlt) ⟨hit, hl.at fun o e => st _ o e⟩ fun v h' tk hP hst' hk' => ?_))
    have hv : v = v' := by
      have hP' : vs[j + 1]? = some v := by simpa using hP
      rw [hv'] at hP'; exact (Option.some.inj hP').symm
    subst hv
    have hS' := hk' S _ (by simpa using hIS) hSo
    have st' : h₀.StaysIn h' := fun b o e => hk' b o (n2 b o e) (st b o e)
    show wpAny _ A.in1 (tryCatch (holding [v, v] (richCompare .Lt v vb >>= _)) _ >>= _) _ _ _
    refine wpAny_bind (wpAny_tryCatch (wpAny_holding (wpAny_bind (hcmp _ v vb _ _ st' (List.mem_of_getElem? hv') hvb ?_))))
    refine wpAny_bind (wpAny_holding (wpAny_truthy_bool ?_))
    refine wpAny_bind (wpAny_letGo (wpAny_pure ?_))
    have hbest : bestOf lt vb (v :: rest) = bestOf lt (if lt v vb then v else vb) rest := rfl
    cases hb : lt v vb with
    | true =>
      rw [hb] at hbest
      simp only [if_true] at hbest ⊢
      refine wpAny_bind ?_
      refine wpAny_updateSeq hS' rfl (wpAny_bind (wpAny_letGo ?_))
      rw [hname]
      have st'' : h₀.StaysIn (h'.update S (Obj.mapSeq fun _ => #[v, v])) := fun b o e => (Heap.get?_update_other _ _ (Ne.symm (n1 b o e))).trans (st' b o e)
      refine wpAny_pure ⟨plainId_quiet F.plain_min_loop _, ih (j + 1) _ v _ hr' hlt st'' (hst'.1.at fun o e => (Heap.get?_update_other _ _ hIS).trans e) (List.mem_of_getElem? hv') (Heap.get?_update_self _ hS' rfl) fun h'' tk'' hs => ?_⟩
      rw [hbest] at hR
      exact hR h'' tk'' hs
    | false =>
      rw [hb] at hbest
      simp only [Bool.false_eq_true, if_false] at hbest ⊢
      refine wpAny_bind (wpAny_letGo ?_)
      rw [hname]
      refine wpAny_pure ⟨plainId_quiet F.plain_min_loop _, ih (j + 1) _ vb c hr' hlt st' hst'.1 hvb hS' fun h'' tk'' hs => ?_⟩
      rw [hbest] at hR
      exact hR h'' tk'' hs
theorem min_first {v0 : Value} {vs : List Value} (hh : A.handled = none) (hI : h₀.get? I = none) (hS : h₀.get? S = none) (hIS : S ≠ I) (hl : h₀.IsList l (v0 :: vs).toArray)
    (hcmp : ∀ (s : Shared) (v u : Value) (Q : Value → Shared → Prop) (E : Value → Shared → Prop), h₀.StaysIn s.heap → v ∈ v0 :: vs → u ∈ v0 :: vs → Q (.bool (lt v u)) s → wpAny (model prog w) A.in1 (richCompare .Lt v u) Q E s)
    {s : Shared} {c : Nat} (st : h₀.StaysIn s.heap) (hit : s.heap.IsListIter I l 0) (hSo : s.heap.get? S = some { cls := .type "list", dict := none, data := .seq #[] c, slots := #[] })
    (hR : ∀ h' tk, h₀.StaysIn h' → R (.ok (.ret (bestOf lt v0 vs))) { s with heap := h', toks := tk }) :
    codeAny (model prog w) A (.builtin "min.loop" ⟨[.ref I, .none, .ref S], []⟩) R s := by
  have hname : (toString "min" ++ toString ".loop" : String) = "min.loop" := by decide
  have hlI : l ≠ I := by rintro rfl; obtain ⟨o, e, _⟩ := hl; rw [hI] at e; cases e
  have W := Walks.list (prog := prog) (w := w) (A := A.in1) hh I l hlI (v0 :: vs).toArray
  have n1 : ∀ b o, h₀.get? b = some o → b ≠ S := fun b o e q => by rw [q, hS] at e; cases e
  have n2 : ∀ b o, h₀.get? b = some o → b ∉ [I] := fun b o e q => by rw [List.mem_singleton.mp q, hI] at e; cases e
  refine codeAny_builtin F.entry_min_loop ?_
  rw [Around.under_plainId F.plain_min_loop _]
  show wpAny _ A.in1 (seqItems? (.ref S) >>= _) _ _ s
  refine wpAny_bind (wpAny_seqItems hSo rfl ?_)
  show wpAny _ A.in1 (tryCatch (pyNext (.ref I)) _ >>= _) _ _ s
  refine wpAny_bind (wpAny_tryCatch (W.item 0 s _ _ (by simp) ⟨hit, hl.at fun o e => st _ o e⟩ fun v h' tk hP hst' hk' => ?_))
  have hv : v = v0 := by
    have hP' : (v0 :: vs)[0]? = some v := by simpa using hP
    simpa using hP'.symm
  subst hv
  have hS' := hk' S _ (by simpa using hIS) hSo
  have st' : h₀.StaysIn (h'.update S (Obj.mapSeq fun _ => #[v, v])) := fun b o e => (Heap.get?_update_other _ _ (Ne.symm (n1 b o e))).trans (hk' b o (n2 b o e) (st b o e))
  show wpAny _ A.in1 (updateSeq S (fun _ => #[v, v]) >>= _) _ _ _
  refine wpAny_bind ?_
  refine wpAny_updateSeq hS' rfl ?_
  rw [hname]
  refine wpAny_pure ⟨plainId_quiet F.plain_min_loop _, min_loop hh hI hS hIS hl hcmp vs 0 _ v _ rfl (by simp) st' (hst'.1.at fun o e => (Heap.get?_update_other _ _ hIS).trans e) (.head _) (Heap.get?_update_self _ hS' rfl) fun h'' tk'' hs => hR h'' tk'' hs⟩
end
section
variable {prog : Program} {w : World} {A : Around} {E : Value → Shared → Prop} {s : Shared} {l : Addr} {v0 : Value} {vs : List Value} {lt : Value → Value → Bool} {Q : Value → Shared → Prop}
theorem call_min (hh : A.handled = none) (hl : s.heap.IsList l (v0 :: vs).toArray)
    (hcmp : ∀ (s' : Shared) (v u : Value) (Q : Value → Shared → Prop) (E : Value → Shared → Prop), s.heap.StaysIn s'.heap → v ∈ v0 :: vs → u ∈ v0 :: vs → Q (.bool (lt v u)) s' → wpAny (model prog w) A.in1 (richCompare .Lt v u) Q E s')
    (h : ∀ h' tk, s.heap.StaysIn h' → Q (bestOf lt v0 vs) { s with heap := h', toks := tk }) :
    wpAny (model prog w) A (call (.builtin "min") [.ref l]) Q E s := by
  have hname : (toString "min" ++ toString ".loop" : String) = "min.loop" := by decide
  refine call_function_tree F.kind_min F.plain_min F.entry_min (F.args_min1 _) ?_
  show wpAny _ A.in1 (Builtin.Builtins.bindParams "min" ["key", "default"] 0 ⟨[], []⟩ >>= _) _ _ s
  refine wpAny_bind (wpAny_of_eq (show Builtin.Builtins.bindParams "min" ["key", "default"] 0 ⟨[], []⟩ = pure [none, none] from rfl) ?_)
  refine wpAny_bind (wpAny_pure ?_)
  refine wpAny_bind (wpAny_pyIter_list hl ?_)
  refine wpAny_bind (wpAny_newObj_type ?_)
  rw [hname]
  have e1 : (s.heap.push { cls := .type "list_iterator", data := .fields #[.ref l, .int 0 0] }).objs.size = s.heap.objs.size + 1 := Heap.size_push ..
  have st : s.heap.StaysIn ((s.heap.push { cls := .type "list_iterator", data := .fields #[.ref l, .int 0 0] }).push { cls := .type "list", data := .seq #[] }) := fun b o e => Heap.get?_push_of_some _ (Heap.get?_push_of_some _ e)
  exact wpAny_pure ⟨plainId_quiet F.plain_min_loop _, min_first (h₀ := s.heap) hh (Heap.get?_none_of_le (Nat.le_refl _)) (Heap.get?_none_of_le (by rw [e1]; exact Nat.le_succ _)) (by rw [e1]; exact Nat.succ_ne_self _) hl hcmp st
    ⟨_, Heap.get?_push_of_some _ (Heap.get?_push_size _ rfl), rfl, rfl⟩ (Heap.get?_push_size _ rfl) fun h' tk hs => h h' tk hs⟩
end
section
variable {prog : Program} {w : World} {A : Around} {R : Result → Shared → Prop} {I l S : Addr} {vs : List Value} {lt : Value → Value → Bool} {h₀ : Heap}
theorem max_loop (hh : A.handled = none) (hI : h₀.get? I = none) (hS : h₀.get? S = none) (hIS : S ≠ I) (hl : h₀.IsList l vs.toArray)
    (hcmp : ∀ (s : Shared) (v u : Value) (Q : Value → Shared → Prop) (E : Value → Shared → Prop), h₀.StaysIn s.heap → v ∈ vs → u ∈ vs → Q (.bool (lt v u)) s → wpAny (model prog w) A.in1 (richCompare .Gt v u) Q E s) :
    ∀ (rest : List Value) (j : Nat) (s : Shared) (vb : Value) (c : Nat), vs.drop (j + 1) = rest → j + 1 ≤ vs.length → h₀.StaysIn s.heap → s.heap.IsListIter I l (j + 1) → vb ∈ vs →
      s.heap.get? S = some { cls := .type "list", dict := none, data := .seq #[vb, vb] c, slots := #[] } →
      (∀ h' tk, h₀.StaysIn h' → R (.ok (.ret (bestOf lt vb rest))) { s with heap := h', toks := tk }) →
      codeAny (model prog w) A (.builtin "max.loop" ⟨[.ref I, .none, .ref S], []⟩) R s := by
  have hname : (toString "max" ++ toString ".loop" : String) = "max.loop" := by decide
  have hlI : l ≠ I := by rintro rfl; obtain ⟨o, e, _⟩ := hl; rw [hI] at e; cases e
  have hlS : l ≠ S := by rintro rfl; obtain ⟨o, e, _⟩ := hl; rw [hS] at e; cases e
  have W := Walks.list (prog := prog) (w := w) (A := A.in1) hh I l hlI vs.toArray
  have hsz : vs.toArray.size = vs.length := List.size_toArray ..
  have n1 : ∀ b o, h₀.get? b = some o → b ≠ S := fun b o e q => by rw [q, hS] at e; cases e
  have n2 : ∀ b o, h₀.get? b = some o → b ∉ [I] := fun b o e q => by rw [List.mem_singleton.mp q, hI] at e; cases e
  intro rest
  induction rest with
  | nil =>
    intro j s vb c hr hj st hit hvb hSo hR
    have hin : j + 1 = vs.length := by
      have := List.drop_eq_nil_iff.mp hr
      walk_at "om"
    refine codeAny_builtin F.entry_max_loop ?_
    rw [Around.under_plainId F.plain_max_loop _]
    show wpAny _ A.in1 (seqItems? (.ref S) >>= _) _ _ s
    refine wpAny_bind (wpAny_seqItems hSo rfl ?_)
    show wpAny _ A.in1 (tryCatch (pyNext (.ref I)) _ >>= _) _ _ s
    refine wpAny_bind (wpAny_tryCatch (W.done s _ _ ⟨by rw [hsz, ← hin]; exact hit, hl.at fun o e => st _ o e⟩ fun h' tk hk' => ?_))
    have hS' := hk' S _ (by simpa using hIS) hSo
    show wpAny _ A.in1 (updateSeq S (fun _ => #[]) >>= _) _ _ _
    refine wpAny_bind ?_
    refine wpAny_updateSeq hS' rfl (wpAny_bind (wpAny_letGo (wpAny_pure ?_)))
    exact hR _ tk fun b o e => (Heap.get?_update_other _ _ (Ne.symm (n1 b o e))).trans (hk' b o (n2 b o e) (st b o e))
  | cons v' rest ih =>
    intro j s vb c hr hj st hit hvb hSo hR
    have hlt : j + 1 < vs.length := by
      rcases Nat.lt_or_ge (j + 1) vs.length with h | h
      · exact h
      · rw [List.drop_eq_nil_iff.mpr h] at hr; cases hr
    have hv' : vs[j + 1]? = some v' := by
      have := congrArg List.head? hr
      simpa using this
    have hr' : vs.drop (j + 1 + 1) = rest := by
      rw [← List.drop_drop, hr]; rfl
    refine codeAny_builtin F.entry_max_loop ?_
    rw [Around.under_plainId F.plain_max_loop _]
    show wpAny _ A.in1 (seqItems? (.ref S) >>= _) _ _ s
    refine wpAny_bind (wpAny_seqItems hSo rfl ?_)
    show wpAny _ A.in1 (tryCatch (pyNext (.ref I)) _ >>= _) _ _ s
    refine wpAny_bind (wpAny_tryCatch (W.item (j + 1) s _ _ (by rw [hsz]; exact hlt) ⟨hit, hl.at fun o e => st _ o e⟩ fun v h' tk hP hst' hk' => ?_))
    have hv : v = v' := by
      have hP' : vs[j + 1]? = some v := by simpa using hP
      rw [hv'] at hP'; exact (Option.some.inj hP').symm
    subst hv
    have hS' := hk' S _ (by simpa using hIS) hSo
    have st' : h₀.StaysIn h' := fun b o e => hk' b o (n2 b o e) (st b o e)
    show wpAny _ A.in1 (tryCatch (holding [v, v] (richCompare .Gt v vb >>= _)) _ >>= _) _ _ _
    refine wpAny_bind (wpAny_tryCatch (wpAny_holding (wpAny_bind (hcmp _ v vb _ _ st' (List.mem_of_getElem? hv') hvb ?_))))
    refine wpAny_bind (wpAny_holding (wpAny_truthy_bool ?_))
    refine wpAny_bind (wpAny_letGo (wpAny_pure ?_))
    have hbest : bestOf lt vb (v :: rest) = bestOf lt (if lt v vb then v else vb) rest := rfl
    cases hb : lt v vb with
    | true =>
      rw [hb] at hbest
      simp only [if_true] at hbest ⊢
      refine wpAny_bind ?_
      refine wpAny_updateSeq hS' rfl (wpAny_bind (wpAny_letGo ?_))
      rw [hname]
      have st'' : h₀.StaysIn (h'.update S (Obj.mapSeq fun _ => #[v, v])) := fun b o e => (Heap.get?_update_other _ _ (Ne.symm (n1 b o e))).trans (st' b o e)
      refine wpAny_pure ⟨plainId_quiet F.plain_max_loop _, ih (j + 1) _ v _ hr' hlt st'' (hst'.1.at fun o e => (Heap.get?_update_other _ _ hIS).trans e) (List.mem_of_getElem? hv') (Heap.get?_update_self _ hS' rfl) fun h'' tk'' hs => ?_⟩
      rw [hbest] at hR
      exact hR h'' tk'' hs
    | false =>
      rw [hb] at hbest
      simp only [Bool.false_eq_true, if_false] at hbest ⊢
      refine wpAny_bind (wpAny_letGo ?_)
      rw [hname]
      refine wpAny_pure ⟨plainId_quiet F.plain_max_loop _, ih (j + 1) _ vb c hr' hlt st' hst'.1 hvb hS' fun h'' tk'' hs => ?_⟩
      rw [hbest] at hR
      exact hR h'' tk'' hs
theorem max_first {v0 : Value} {vs : List Value} (hh : A.handled = none) (hI : h₀.get? I = none) (hS : h₀.get? S = none) (hIS : S ≠ I) (hl : h₀.IsList l (v0 :: vs).toArray)
    (hcmp : ∀ (s : Shared) (v u : Value) (Q : Value → Shared → Prop) (E : Value → Shared → Prop), h₀.StaysIn s.heap → v ∈ v0 :: vs → u ∈ v0 :: vs → Q (.bool (lt v u)) s → wpAny (model prog w) A.in1 (richCompare .Gt v u) Q E s)
    {s : Shared} {c : Nat} (st : h₀.StaysIn s.heap) (hit : s.heap.IsListIter I l 0) (hSo : s.heap.get? S = some { cls := .type "list", dict := none, data := .seq #[] c, slots := #[] })
    (hR : ∀ h' tk, h₀.StaysIn h' → R (.ok (.ret (bestOf lt v0 vs))) { s with heap := h', toks := tk }) :
    codeAny (model prog w) A (.builtin "max.loop" ⟨[.ref I, .none, .ref S], []⟩) R s := by
  have hname : (toString "max" ++ toString ".loop" : String) = "max.loop" := by decide
  have hlI : l ≠ I := by rintro rfl; obtain ⟨o, e, _⟩ := hl; rw [hI] at e; cases e
  have W := Walks.list (prog := prog) (w := w) (A := A.in1) hh I l hlI (v0 :: vs).toArray
  have n1 : ∀ b o, h₀.get? b = some o → b ≠ S := fun b o e q => by rw [q, hS] at e; cases e
  have n2 : ∀ b o, h₀.get? b = some o → b ∉ [I] := fun b o e q => by rw [List.mem_singleton.mp q, hI] at e; cases e
  refine codeAny_builtin F.entry_max_loop ?_
  rw [Around.under_plainId F.plain_max_loop _]
  show wpAny _ A.in1 (seqItems? (.ref S) >>= _) _ _ s
  refine wpAny_bind (wpAny_seqItems hSo rfl ?_)
  show wpAny _ A.in1 (tryCatch (pyNext (.ref I)) _ >>= _) _ _ s
  refine wpAny_bind (wpAny_tryCatch (W.item 0 s _ _ (by simp) ⟨hit, hl.at fun o e => st _ o e⟩ fun v h' tk hP hst' hk' => ?_))
  have hv : v = v0 := by
    have hP' : (v0 :: vs)[0]? = some v := by simpa using hP
    simpa using hP'.symm
  subst hv
  have hS' := hk' S _ (by simpa using hIS) hSo
  have st' : h₀.StaysIn (h'.update S (Obj.mapSeq fun _ => #[v, v])) := fun b o e => (Heap.get?_update_other _ _ (Ne.symm (n1 b o e))).trans (hk' b o (n2 b o e) (st b o e))
  show wpAny _ A.in1 (updateSeq S (fun _ => #[v, v]) >>= _) _ _ _
  refine wpAny_bind ?_
  refine wpAny_updateSeq hS' rfl ?_
  rw [hname]
  refine wpAny_pure ⟨plainId_quiet F.plain_max_loop _, max_loop hh hI hS hIS hl hcmp vs 0 _ v _ rfl (by simp) st' (hst'.1.at fun o e => (Heap.get?_update_other _ _ hIS).trans e) (.head _) (Heap.get?_update_self _ hS' rfl) fun h'' tk'' hs => hR h'' tk'' hs⟩
end
section
variable {prog : Program} {w : World} {A : Around} {E : Value → Shared → Prop} {s : Shared} {l : Addr} {v0 : Value} {vs : List Value} {lt : Value → Value → Bool} {Q : Value → Shared → Prop}
theorem call_max (hh : A.handled = none) (hl : s.heap.IsList l (v0 :: vs).toArray)
    (hcmp : ∀ (s' : Shared) (v u : Value) (Q : Value → Shared → Prop) (E : Value → Shared → Prop), s.heap.StaysIn s'.heap → v ∈ v0 :: vs → u ∈ v0 :: vs → Q (.bool (lt v u)) s' → wpAny (model prog w) A.in1 (richCompare .Gt v u) Q E s')
    (h : ∀ h' tk, s.heap.StaysIn h' → Q (bestOf lt v0 vs) { s with heap := h', toks := tk }) :
    wpAny (model prog w) A (call (.builtin "max") [.ref l]) Q E s := by
  have hname : (toString "max" ++ toString ".loop" : String) = "max.loop" := by decide
  refine call_function_tree F.kind_max F.plain_max F.entry_max (F.args_max1 _) ?_
  show wpAny _ A.in1 (Builtin.Builtins.bindParams "max" ["key", "default"] 0 ⟨[], []⟩ >>= _) _ _ s
  refine wpAny_bind (wpAny_of_eq (show Builtin.Builtins.bindParams "max" ["key", "default"] 0 ⟨[], []⟩ = pure [none, none] from rfl) ?_)
  refine wpAny_bind (wpAny_pure ?_)
  refine wpAny_bind (wpAny_pyIter_list hl ?_)
  refine wpAny_bind (wpAny_newObj_type ?_)
  rw [hname]
  have e1 : (s.heap.push { cls := .type "list_iterator", data := .fields #[.ref l, .int 0 0] }).objs.size = s.heap.objs.size + 1 := Heap.size_push ..
  have st : s.heap.StaysIn ((s.heap.push { cls := .type "list_iterator", data := .fields #[.ref l, .int 0 0] }).push { cls := .type "list", data := .seq #[] }) := fun b o e => Heap.get?_push_of_some _ (Heap.get?_push_of_some _ e)
  exact wpAny_pure ⟨plainId_quiet F.plain_max_loop _, max_first (h₀ := s.heap) hh (Heap.get?_none_of_le (Nat.le_refl _)) (Heap.get?_none_of_le (by rw [e1]; exact Nat.le_succ _)) (by rw [e1]; exact Nat.succ_ne_self _) hl hcmp st
    ⟨_, Heap.get?_push_of_some _ (Heap.get?_push_size _ rfl), rfl, rfl⟩ (Heap.get?_push_size _ rfl) fun h' tk hs => h h' tk hs⟩
end
end
section
abbrev setEmpty (led : Bool) : Obj := { cls := .type "set", data := .set #[] 0 (.fresh 0 0 led) }
abbrev setTrue (led : Bool) : Obj := { cls := .type "set", data := .set #[(1, .bool true)] 1 { mask := 7, place := #[1], dummies := #[], finger := 0, led, moves := 0, plain := true } }
section
variable {prog : Program} {w : World} {A : Around} {E : Value → Shared → Prop} {s : Shared} {a : Addr} {led : Bool}
theorem lay_true (led : Bool) : layNew (.fresh 0 0 led) #[] 1 (.bool true) = (#[(1, .bool true)], { mask := 7, place := #[1], dummies := #[], finger := 0, led, moves := 0, plain := true }, false, false) := by
  cases led <;> rfl
theorem add_first {Q : Value → Shared → Prop} (ho : s.heap.get? a = some (setEmpty led))
    (h : ∀ h', Heap.SameBut a s.heap h' → h'.get? a = some (setTrue led) → Q .none { s with heap := h', toks := s.toks + 1 }) :
    wpAny (model prog w) A (call (.builtin "set.add") [.ref a, .bool true]) Q E s := by
  have hT : s.TypeIs (.ref a) "set" := ⟨_, ho, rfl⟩
  refine wpAny_call_entry F.slot_set_add hT F.entry_set_add ?_ (F.args_set_add_2 _ _)
  unfold Builtin.«set.add» Builtin.Frozenset.oneOther
  simp only [List.isEmpty_nil, bind_assoc]
  unfold Builtin.Frozenset.addrOf setAdd
  refine wpAny_bind (wpAny_pure ?_)
  try dsimp only
  refine wpAny_bind (wpAny_pure ?_)
  try dsimp only
  refine wpAny_bind ?_
  refine wpAny_holding ?_
  refine wpAny_bind (hash_true ?_)
  unfold setAddHashed setAddHashedIn
  refine wpAny_holding (wpAny_bind (wpAny_setState_of (s := { s with toks := s.toks + 1 }) ho rfl (by rfl) ?_))
  dsimp only
  rw [show byScan (.bool true) #[] = true from by simp [byScan, Value.scannable, scanBound]]
  simp only [↓reduceIte]
  unfold setAddByScan
  refine wpAny_bind ?_
  refine wpAny_bind (wpAny_rule ?_)
  refine wpAny_bind (m := setScan _ _ _ _ _) (wpAny_pure ?_)
  dsimp only
  rw [lay_true]
  dsimp only
  refine wpAny_bind (wpAny_pure ?_)
  simp only [↓reduceIte]
  refine wpAny_bind ?_
  rw [hashByValue_scannable 8 (show (Value.bool true).scannable = true from rfl)]
  refine wpAny_pure ?_
  refine wpAny_bind (wpAny_storeSet_of (s := { s with toks := s.toks + 1 }) ho rfl ?_)
  rw [if_neg (by cases led <;> decide)]
  refine wpAny_pure (wpAny_pure ?_)
  dsimp only
  refine wpAny_pure ⟨_, rfl, h _ (Heap.SameBut.update s.heap a _) ?_⟩
  exact Heap.get?_update_self _ ho rfl
theorem add_again {Q : Value → Shared → Prop} (ho : s.heap.get? a = some (setTrue led)) (h : Q .none { s with toks := s.toks + 1 }) :
    wpAny (model prog w) A (call (.builtin "set.add") [.ref a, .bool true]) Q E s := by
  have hT : s.TypeIs (.ref a) "set" := ⟨_, ho, rfl⟩
  refine wpAny_call_entry F.slot_set_add hT F.entry_set_add ?_ (F.args_set_add_2 _ _)
  unfold Builtin.«set.add» Builtin.Frozenset.oneOther
  simp only [List.isEmpty_nil, bind_assoc]
  unfold Builtin.Frozenset.addrOf setAdd
  refine wpAny_bind (wpAny_pure ?_)
  try dsimp only
  refine wpAny_bind (wpAny_pure ?_)
  try dsimp only
  refine wpAny_bind ?_
  refine wpAny_holding ?_
  refine wpAny_bind (hash_true ?_)
  unfold setAddHashed setAddHashedIn
  refine wpAny_holding (wpAny_bind (wpAny_setState_of (s := { s with toks := s.toks + 1 }) ho rfl (by cases led <;> rfl) ?_))
  dsimp only
  rw [show byScan (.bool true) #[(1, .bool true)] = true from by simp [byScan, Value.scannable, scanBound]]
  simp only [↓reduceIte]
  unfold setAddByScan
  refine wpAny_bind ?_
  refine wpAny_bind (wpAny_rule ?_)
  refine wpAny_bind (m := setScan _ _ _ _ _) ?_
  show wpAny _ _ (setScanFrom a (.bool true) 1 true [(1, .bool true)] 0) _ _ _
  unfold setScanFrom
  rw [if_pos (by decide)]
  refine wpAny_bind (wpAny_setEpoch_of (s := { s with toks := s.toks + 1 }) ho rfl (by cases led <;> rfl) ?_)
  refine wpAny_bind ?_
  unfold eqBool
  refine wpAny_holding ?_
  rw [if_pos (by decide)]
  refine wpAny_bind (wpAny_rule (wpAny_pure ?_))
  rw [if_pos (by decide)]
  refine wpAny_pure ?_
  refine wpAny_pure (wpAny_pure ?_)
  exact wpAny_pure ⟨_, rfl, h⟩
theorem new_set {Q : Value → Shared → Prop} (h : Q (.ref s.heap.objs.size) { s with heap := s.heap.push (setEmpty (!w.params.followText "set-order")) }) :
    wpAny (model prog w) A (newSet (.type "set")) Q E s := by
  unfold newSet setsByText
  refine wpAny_bind (wpAny_bind (wpAny_askSetting (wpAny_pure ?_)))
  dsimp only
  simp only [newObj]
  exact wpAny_bind (wpAny_alloc (wpAny_pure h))
end
end
section
theorem slot_setit_next : Slot "set_iterator" "__next__" "set_iterator.__next__" :=
  .of (owner := "set_iterator") (n := "__next__") (by rw [typeLookup_type, builtinLookup_eq_fast]; kernel_rfl) (by decide +kernel) (by decide +kernel) (by decide +kernel)
    (by first | exact .inl (by decide +kernel) | exact .inr (by decide +kernel)) (by rw [isSubtype_type]; kernel_rfl)
theorem entry_setit_next : entryFor table "set_iterator.__next__" = some Builtin.«set_iterator.__next__» := entryFor_of_tree (by kernel_rfl)
theorem entry_set_iter' : entryFor table "set.__iter__" = some Builtin.«frozenset.__iter__» :=
  entryFor_alias (id' := "frozenset.__iter__") (by kernel_rfl) rfl (by decide +kernel) (by kernel_rfl)
theorem args_setit_next (a : Value) : argsOk "set_iterator.__next__" ⟨[a], []⟩ := by unfold argsOk; kernel_rfl
abbrev setIt (f i : Int) (v : Value) : Obj := { cls := .type "set_iterator", data := .fields #[.int f 0, .int i 0, v, .int 1 0, .int 1 0] }
section
variable {prog : Program} {w : World} {A : Around} {E : Value → Shared → Prop} {s : Shared} {a I : Addr}
theorem iter_set {Q : Value → Shared → Prop} (ho : s.heap.get? a = some (setTrue (!w.params.followText "set-order")))
    (h : Q (.ref s.heap.objs.size) { s with heap := s.heap.push (setIt 0 0 (.ref a)) }) :
    wpAny (model prog w) A (pyIter (.ref a)) Q E s := by
  have hT : s.TypeIs (.ref a) "set" := ⟨_, ho, rfl⟩
  refine wpAny_pyIter_slot hT F.slot_set_iter (wpAny_call_entry F.slot_set_iter hT entry_set_iter' ?_ (F.args_set_iter_1 _))
  unfold Builtin.«frozenset.__iter__» Builtin.Frozenset.slot0
  simp only [bind_assoc]
  refine wpAny_bind (wpAny_pure ?_)
  try dsimp only
  unfold Builtin.Frozenset.addrOf
  refine wpAny_bind (wpAny_pure ?_)
  try dsimp only
  unfold Builtin.Frozenset.sizeOf
  refine wpAny_bind (wpAny_bind (wpAny_setEntries_of ho rfl (by cases (w.params.followText "set-order") <;> rfl) (wpAny_pure ?_)))
  unfold setDrawn setsByText
  refine wpAny_bind (wpAny_bind (wpAny_setState_of ho rfl (by cases (w.params.followText "set-order") <;> rfl) ?_))
  dsimp only
  refine wpAny_bind (wpAny_bind (wpAny_askSetting (wpAny_pure ?_)))
  refine wpAny_pure ?_
  rw [if_neg (by
    show ¬ ((!w.params.followText "set-order") && _) = true
    cases w.params.followText "set-order" <;> decide)]
  refine wpAny_bind (wpAny_pure ?_)
  refine wpAny_bind (wpAny_setEpoch_of ho rfl (by cases (w.params.followText "set-order") <;> rfl) ?_)
  refine wpAny_bind ?_
  unfold newFields
  refine wpAny_newObj_type ?_ (by size_fits)
  exact wpAny_pure ⟨_, rfl, "set_iterator", _, ⟨_, Heap.get?_push_size _ rfl, rfl⟩, slot_setit_next.lookup, h⟩
abbrev setF (w : World) : Int := if w.params.followText "set-order" then 0 else 2
theorem pick_one {α : Type} (f : Nat → Nat) (x : α) : pickOrder f #[x] = #[x] := by
  unfold pickOrder
  show pickOrder.go f 1 0 [x] #[] = _
  unfold pickOrder.go
  have e : f 0 % [x].length = 0 := Nat.mod_one _
  rw [e]
  rfl
theorem setNext_item {Q : Option (Value × Nat) → Shared → Prop} (ho : s.heap.get? a = some (setTrue (!w.params.followText "set-order"))) (h : Q (some (.bool true, (setF w).toNat)) s) :
    wpAny (model prog w) A (setNext a 0 0 1) Q E s := by
  unfold setNext setsByText
  refine wpAny_bind (wpAny_setState_of ho rfl (by cases (w.params.followText "set-order") <;> rfl) ?_)
  dsimp only
  refine wpAny_bind (wpAny_bind (wpAny_askSetting (wpAny_pure ?_)))
  cases hb : w.params.followText "set-order" with
  | true =>
    rw [if_pos (by exact hb), if_neg (by decide)]
    unfold setWalk setsByText
    refine wpAny_bind (wpAny_bind (wpAny_setState_of ho rfl (by cases (w.params.followText "set-order") <;> rfl) ?_))
    dsimp only
    refine wpAny_bind (wpAny_bind (wpAny_askSetting (wpAny_pure ?_)))
    rw [if_pos (by exact hb)]
    refine wpAny_bind (wpAny_askSetting (wpAny_pure ?_))
    rw [pick_one]
    refine wpAny_pure ?_
    simp only [setF, hb, if_true] at h
    exact h
  | false =>
    rw [if_neg (by rw [show (Setting.mk (model prog w).prog (model prog w).w.params).params.followText "set-order" = false from hb]; decide), if_neg (by decide)]
    refine wpAny_bind (wpAny_of_eq (a := ()) (by rfl) ?_)
    refine wpAny_pure ?_
    simp only [setF, hb, if_false] at h
    exact h
theorem setNext_end {Q : Option (Value × Nat) → Shared → Prop} (ho : s.heap.get? a = some (setTrue (!w.params.followText "set-order"))) (h : Q none s) :
    wpAny (model prog w) A (setNext a (setF w).toNat 1 1) Q E s := by
  unfold setNext setsByText
  refine wpAny_bind (wpAny_setState_of ho rfl (by cases (w.params.followText "set-order") <;> rfl) ?_)
  dsimp only
  refine wpAny_bind (wpAny_bind (wpAny_askSetting (wpAny_pure ?_)))
  cases hb : w.params.followText "set-order" with
  | true =>
    rw [if_pos (by exact hb), if_neg (by decide)]
    unfold setWalk setsByText
    refine wpAny_bind (wpAny_bind (wpAny_setState_of ho rfl (by cases (w.params.followText "set-order") <;> rfl) ?_))
    dsimp only
    refine wpAny_bind (wpAny_bind (wpAny_askSetting (wpAny_pure ?_)))
    rw [if_pos (by exact hb)]
    refine wpAny_bind (wpAny_askSetting (wpAny_pure ?_))
    rw [pick_one]
    exact wpAny_pure h
  | false =>
    rw [if_neg (by rw [show (Setting.mk (model prog w).prog (model prog w).w.params).params.followText "set-order" = false from hb]; decide), if_neg (by decide)]
    refine wpAny_bind (wpAny_of_eq (a := ()) (by rfl) ?_)
    simp only [setF, hb]
    exact wpAny_pure h
theorem next_set {Q : Option Value → Shared → Prop} (ho : s.heap.get? a = some (setTrue (!w.params.followText "set-order"))) (hI : s.heap.get? I = some (setIt 0 0 (.ref a))) (haI : a ≠ I)
    (h : ∀ h', Heap.SameBut I s.heap h' → h'.get? I = some (setIt (setF w) 1 (.ref a)) → Q (some (.bool true)) { s with heap := h' }) :
    wpAny (model prog w) A (pyNext (.ref I)) Q E s := by
  have hT : s.TypeIs (.ref I) "set_iterator" := ⟨_, hI, rfl⟩
  unfold pyNext
  refine wpAny_bind (wpAny_attempt (wpAny_callSpecial?_slot (name := Str.ofString "__next__") hT slot_setit_next
    (wpAny_call_entry slot_setit_next hT entry_setit_next ?_ (args_setit_next _))))
  unfold Builtin.«set_iterator.__next__»
  refine wpAny_bind (wpAny_pure ?_)
  try dsimp only
  refine wpAny_bind (wpAny_fieldsOf hI rfl ?_)
  dsimp only
  refine wpAny_bind (wpAny_setEntries_of ho rfl (by cases (w.params.followText "set-order") <;> rfl) ?_)
  rw [if_neg (by decide)]
  try dsimp only
  refine wpAny_bind (setNext_item ho ?_)
  dsimp only
  have u1 := Heap.get?_update_self (Obj.mapFields (·.setIfInBounds 0 (rawInt ((setF w).toNat : Nat)))) hI rfl
  refine wpAny_bind (wpAny_setField hI rfl (by simp) ?_)
  refine wpAny_bind (wpAny_setField u1 rfl (by simp) ?_)
  have u2 := Heap.get?_update_self (Obj.mapFields (·.setIfInBounds 1 (rawInt (0 + 1)))) u1 rfl
  have hf : (((setF w).toNat : Nat) : Int) = setF w := by unfold setF; split <;> rfl
  refine wpAny_pure ⟨_, rfl, wpAny_pure (h _ ((Heap.SameBut.update _ I _).trans (Heap.SameBut.update _ I _)) ?_)⟩
  rw [u2]
  simp only [rawInt, hf]
  rfl
theorem end_set {Q : Option Value → Shared → Prop} (hh : A.handled = none) (ho : s.heap.get? a = some (setTrue (!w.params.followText "set-order"))) (hI : s.heap.get? I = some (setIt (setF w) 1 (.ref a)))
    (h : ∀ h', Heap.ExtBut I s.heap h' → Q none { s with heap := h' }) :
    wpAny (model prog w) A (pyNext (.ref I)) Q E s := by
  have hT : s.TypeIs (.ref I) "set_iterator" := ⟨_, hI, rfl⟩
  unfold pyNext
  refine wpAny_bind (wpAny_attempt (wpAny_callSpecial?_slot (name := Str.ofString "__next__") hT slot_setit_next
    (wpAny_call_entry slot_setit_next hT entry_setit_next ?_ (args_setit_next _))))
  unfold Builtin.«set_iterator.__next__»
  refine wpAny_bind (wpAny_pure ?_)
  try dsimp only
  refine wpAny_bind (wpAny_fieldsOf hI rfl ?_)
  dsimp only
  refine wpAny_bind (wpAny_setEntries_of ho rfl (by cases (w.params.followText "set-order") <;> rfl) ?_)
  rw [if_neg (by decide)]
  try dsimp only
  refine wpAny_bind (setNext_end ho ?_)
  dsimp only
  refine wpAny_bind (wpAny_setField hI rfl (by simp) ?_)
  show wpAny _ _ (newExc (.type "StopIteration") [] >>= _) _ _ _
  refine wpAny_bind ?_
  simp only [newExc, newTuple]
  refine wpAny_bind (wpAny_newObj_type ?_ (by size_fits))
  refine wpAny_bind (m := firstArgMember _ _) (wpAny_of_eq (a := Value.none) (by first | rfl | (simp only [firstArgMember]; rfl)) ?_)
  refine wpAny_newObj_type ?_ (by size_fits)
  simp only [raiseNew]
  refine wpAny_bind (wpAny_handled ?_)
  rw [show A.in1.handled = none from hh]
  refine wpAny_bind (wpAny_pure (wpAny_throw ?_))
  refine wpAny_bind (wpAny_isInstance (T := "StopIteration") (b := true) ⟨_, Heap.get?_push_size _ rfl, rfl⟩ isSubtype_stop ?_)
  refine wpAny_pure (h _ ?_)
  exact fun b o hb e => Heap.get?_push_of_some _ (Heap.get?_push_of_some _ ((Heap.get?_update_other _ _ (Ne.symm hb)).trans e))
theorem notIt_set {Q : Bool → Shared → Prop} (hT : s.TypeIs (.ref a) "set") (h : Q false s) : wpAny (model prog w) A (notIterableAtAll (.ref a)) Q E s := by
  unfold notIterableAtAll
  refine wpAny_bind (wpAny_specialOf hT F.slot_set_iter.lookup ?_)
  exact wpAny_pure h
theorem unpack_set {Q : List Value → Shared → Prop} (hh : A.handled = none) (ho : s.heap.get? a = some (setTrue (!w.params.followText "set-order")))
    (h : ∀ h', s.heap.StaysIn h' → Q [.bool true] { s with heap := h' }) :
    wpAny (model prog w) A (unpackItems (.ref a) 1 none) Q E s := by
  have hT : s.TypeIs (.ref a) "set" := ⟨_, ho, rfl⟩
  have hne : a ≠ s.heap.objs.size := Nat.ne_of_lt (Heap.lt_size ho)
  have st : ∀ b o, s.heap.get? b = some o → b ≠ s.heap.objs.size := fun b o e => Nat.ne_of_lt (Heap.lt_size e)
  unfold unpackItems
  refine wpAny_bind (notIt_set hT ?_)
  rw [if_neg (by decide)]
  refine wpAny_bind (wpAny_holding (iter_set ho ?_))
  try dsimp only
  refine wpAny_bind (wpAny_holding ?_)
  unfold draw
  refine wpAny_bind (next_set (Heap.get?_push_of_some _ ho) (Heap.get?_push_size _ rfl) hne fun h1 hs1 hi1 => ?_)
  dsimp only
  refine wpAny_bind (wpAny_holding (wpAny_pure ?_))
  refine wpAny_pure ?_
  rw [if_neg (by decide)]
  have ho1 : h1.get? a = some (setTrue (!w.params.followText "set-order")) := hs1.extBut _ _ hne (Heap.get?_push_of_some _ ho)
  refine wpAny_bind (wpAny_holding (end_set hh ho1 hi1 fun h2 hs2 => ?_))
  rw [if_neg (by decide)]
  refine wpAny_pure (h h2 fun b o e => hs2 b o (st b o e) (hs1.extBut b o (st b o e) (Heap.get?_push_of_some _ e)))
end
end
section
theorem words_Gen16_0 : True := by
  k_with_none
  (k_with "m ne" => ((refine neN ?_); (try dsimp only); walk_at "om"))
  (k_with "m om" => (first | with_reducible assumption | exact Nat.le_trans (by with_reducible assumption) (by decide) | exact om4 (by with_reducible assumption) (by decide) | exact om2 (by with_reducible assumption) (by decide) | exact om1 (by with_reducible assumption) (by decide) | exact om0 (by with_reducible assumption) | exact om22 (by with_reducible assumption) (by decide) | exact om18 (by decide) | exact om3 (by with_reducible assumption) (by decide) | exact om10 (by with_reducible assumption) (by with_reducible assumption) (by decide) | exact Ne.symm (by with_reducible assumption) | exact Nat.ne_of_lt (by with_reducible assumption) | exact Nat.ne_of_gt (by with_reducible assumption) | exact om12 (by with_reducible assumption) | exact om14 (by decide) | exact om15 (by decide) | exact om16 (by with_reducible assumption) | exact om17 _ | exact om27 _ _ | exact om28 (by with_reducible assumption) | exact om25 (by with_reducible assumption) | exact om26 (by with_reducible assumption) | exact Nat.succ_le_of_lt (by with_reducible assumption) | exact Nat.lt_of_succ_le (by with_reducible assumption) | exact Nat.sub_succ_lt_self (by with_reducible assumption) | exact Nat.le_antisymm (by with_reducible assumption) (by with_reducible assumption) | exact Nat.le_of_lt (by with_reducible assumption) | exact om11 (by with_reducible assumption) | exact om7 (by with_reducible assumption) (by with_reducible assumption) | exact om8 (by with_reducible assumption) (by with_reducible assumption) | exact om9 (by with_reducible assumption) (by with_reducible assumption) | exact om19 (by with_reducible assumption) (by decide) | exact om20 (by with_reducible assumption) (by decide) | exact om21 (by with_reducible assumption) (by decide) | exact om23 (by with_reducible assumption) | exact om24 (by with_reducible assumption) | exact And.right (by with_reducible assumption) | exact And.left (by with_reducible assumption) | lia | omega))
  trivial
section
variable {prog : Program} {w : World} {A : Around} {E : Value → Shared → Prop} {env : Env} {s : Shared}
structure SetAt (w : World) (h₀ h : Heap) (l I D C : Addr) (i : Nat) : Prop where
  st : h₀.StaysIn h
  it : h.IsTupleIter I l i
  so : h.get? D = some (if i = 0 then setEmpty (!w.params.followText "set-order") else setTrue (!w.params.followText "set-order"))
  ns : ∃ m, h.Ns C m
theorem setComp {elt iter : Expr} {x : Str} {px : Pos} {scope : Scope} {cl : List (Str × Addr)} {pos : Pos} {Q : Value → Shared → Prop} {l : Addr} {vs : List Value} (hh : A.handled = none) (hne : vs ≠ [])
    (hclos : closureFor scope env = pure cl) (hcell : ∀ y ∈ scope.names, y.2 ≠ .cell) (hkind : scope.kind = .function)
    (hnames : ∀ y ∈ scope.names, y.2 = .local → scope.names.lookup y.1 = some .local) (hx : scope.names.lookup x = some .local)
    (hiter : wpAny (model prog w) A (eval iter env) (fun xv s₁ => xv = .ref l ∧ s₁ = s) E s) (hl : s.heap.IsTuple l vs.toArray)
    (helt : ∀ C v s₃ m₃ E', v ∈ vs → s₃.heap.Ns C m₃ → m₃ x = some v → s.heap.StaysIn s₃.heap → wpAny (model prog w) A (eval elt (compEnvC scope cl C env)) (fun y s₄ => y = .bool true ∧ Keeps s₃ s₄) E' s₃)
    (h : ∀ D h' tk, s.heap.get? D = none → h'.get? D = some (setTrue (!w.params.followText "set-order")) → s.heap.StaysIn h' → Q (.ref D) { s with heap := h', toks := tk })
    (hs : ∀ x, foldedSetIterable iter env x = pure x) :
    wpAny (model prog w) A (eval (.SetComp elt [⟨.Name x px, iter, [], 0⟩] scope pos) env) Q E s := by
  show wpAny (model prog w) A (comprehension (.SetComp elt [⟨.Name x px, iter, [], 0⟩] scope pos) scope env _ (newSet (.type "set")) false (eval iter env)) Q E s
  refine wpAny_comprehension_free (use := none) rfl hs hclos hkind hnames (wpAny_mono hiter (fun xv s₁ h₁ => ?_) fun _ _ e => e)
  obtain ⟨rfl, rfl⟩ := h₁
  have hlt : l < s₁.heap.objs.size := by obtain ⟨o, ho, _⟩ := hl; exact Heap.lt_size ho
  refine wpAny_pyIter_tuple hl (new_set ?_)
  refine wpAny_newFunctionEnv hcell (by intro y hy; simp at hy) (fun h₁ hns₁ hsb₁ => ?_) hkind
  dsimp only at hns₁ hsb₁ ⊢
  generalize hH1 : s₁.heap.push { cls := .type "tuple_iterator", data := .fields #[.ref l, .int 0 0] } = H1 at hns₁ hsb₁ ⊢
  generalize hH2 : H1.push (setEmpty (!w.params.followText "set-order")) = H2 at hns₁ hsb₁ ⊢
  have z1 : H1.objs.size = s₁.heap.objs.size + 1 := by rw [← hH1, Heap.size_push]
  have z2 : H2.objs.size = s₁.heap.objs.size + 2 := by rw [← hH2, Heap.size_push, z1]
  have nDI : H1.objs.size ≠ s₁.heap.objs.size := by rw [z1]; exact Nat.succ_ne_self _
  have nDC : H1.objs.size ≠ H2.objs.size := by rw [z1, z2]; exact Nat.ne_of_lt (Nat.lt_succ_self _)
  have nIC : s₁.heap.objs.size ≠ H2.objs.size := by rw [z2]; exact Nat.ne_of_lt (Nat.lt_succ_of_lt (Nat.lt_succ_self _))
  have old : ∀ b o, s₁.heap.get? b = some o → b ≠ s₁.heap.objs.size ∧ b ≠ H1.objs.size ∧ b ≠ H2.objs.size := fun b o e => by
    have hb := Heap.lt_size e
    rw [z1, z2]
    exact ⟨Nat.ne_of_lt hb, Nat.ne_of_lt (Nat.lt_succ_of_lt hb), Nat.ne_of_lt (Nat.lt_succ_of_lt (Nat.lt_succ_of_lt hb))⟩
  have g1 : ∀ b o, s₁.heap.get? b = some o → H1.get? b = some o := fun b o e => by rw [← hH1]; exact Heap.get?_push_of_some _ e
  have g2 : ∀ b o, H1.get? b = some o → H2.get? b = some o := fun b o e => by rw [← hH2]; exact Heap.get?_push_of_some _ e
  have g3 : ∀ b o, b ≠ H2.objs.size → H2.get? b = some o → h₁.get? b = some o := fun b o hb e => hsb₁.extBut b o hb (Heap.get?_push_of_some _ e)
  have hI : H1.get? s₁.heap.objs.size = some { cls := .type "tuple_iterator", data := .fields #[.ref l, .int 0 0] } := by rw [← hH1]; exact Heap.get?_push_size _ rfl
  have hD : H2.get? H1.objs.size = some (setEmpty (!w.params.followText "set-order")) := by rw [← hH2]; exact Heap.get?_push_size _ rfl
  have init : SetAt w s₁.heap h₁ l s₁.heap.objs.size H1.objs.size H2.objs.size 0 := {
    st := fun b o e => g3 b o (old b o e).2.2 (g2 b o (g1 b o e))
    it := ⟨_, g3 _ _ nIC (g2 _ _ hI), rfl, rfl⟩
    so := g3 _ _ nDC hD
    ns := ⟨_, hns₁⟩ }
  have W := Walks.tuple (prog := prog) (w := w) hh s₁.heap.objs.size l (Nat.ne_of_lt hlt) vs.toArray
  have hsz : vs.toArray.size = vs.length := by simp
  rw [hsz] at W
  have hlen : 0 < vs.length := List.length_pos_iff.mpr hne
  have loop : codeAny (model prog w) A (.compLoop (.SetComp elt [⟨.Name x px, iter, [], 0⟩] scope pos) 0 (.ref s₁.heap.objs.size) (.ref H1.objs.size) (compEnvC scope cl H2.objs.size env)) (compPost (model prog w) A E none Q (.ref H1.objs.size) H2.objs.size) { s₁ with heap := h₁, toks := s₁.toks + ([] : List (Str × Value)).length } := by
    refine loop_set (fun n s' => ∃ i h' tk, n = vs.length - i ∧ i ≤ vs.length ∧ s' = { s₁ with heap := h', toks := tk } ∧ SetAt w s₁.heap h' l s₁.heap.objs.size H1.objs.size H2.objs.size i) ?_ vs.length ⟨0, h₁, _, rfl, Nat.zero_le _, rfl, init⟩ (fun _ => rfl)
    rintro n s' ⟨i, h', tk, rfl, hi, rfl, Z⟩
    rcases Nat.lt_or_ge i vs.length with hlt | hge
    · refine W.item i _ _ _ hlt ⟨Z.it, hl.at fun o e => Z.st _ o e⟩ fun v h2 tk2 hP hst hk => ?_
      dsimp only
      obtain ⟨m, hm⟩ := Z.ns
      have hm2 : h2.Ns H2.objs.size m := hm.at' fun o e => hk _ o (by simpa using Ne.symm nIC) e
      refine wpAny_assign_Name (wpAny_storeName_local (lookup_relabel_local hx) hm2 (fun h3 hn3 hs3 => ?_) (by simp [compEnvC, relabel, hkind]))
      have st3 : s₁.heap.StaysIn h3 := fun b o e => hs3.extBut b o (old b o e).2.2 (hk b o (by simpa using (old b o e).1) (Z.st b o e))
      refine wpAny_mono (helt H2.objs.size v _ _ _ (List.mem_of_getElem? (by simpa using hP)) hn3 (by simp) st3) (fun y s4 h4 => ?_) fun _ _ e => e
      obtain ⟨rfl, h5, tk5, rfl, k5⟩ := h4
      have so5 : h5.get? H1.objs.size = some (if i = 0 then setEmpty (!w.params.followText "set-order") else setTrue (!w.params.followText "set-order")) := k5 _ _ (hs3.extBut _ _ nDC (hk _ _ (by simpa using nDI) Z.so))
      have it5 : h5.IsTupleIter s₁.heap.objs.size l (i + 1) := by
        obtain ⟨o, e, r⟩ := hst.1
        exact ⟨o, k5 _ _ (hs3.extBut _ _ nIC e), r⟩
      have ns5 : h5.Ns H2.objs.size _ := hn3.at' fun o e => k5 _ o e
      have st5 : s₁.heap.StaysIn h5 := fun b o e => k5 b o (st3 b o e)
      by_cases hi0 : i = 0
      · rw [if_pos hi0] at so5
        refine add_first so5 fun h6 hs6 hg6 => ?_
        refine ⟨vs.length - (i + 1), by walk_at "om", i + 1, h6, _, rfl, hlt, rfl, ?_, ?_, ?_, ?_⟩
        · exact fun b o e => hs6.extBut b o (old b o e).2.1 (st5 b o e)
        · obtain ⟨o, e, r⟩ := it5
          exact ⟨o, hs6.extBut _ _ (Ne.symm nDI) e, r⟩
        · rw [if_neg (Nat.succ_ne_zero _)]; exact hg6
        · exact ⟨_, ns5.at' fun o e => hs6.extBut _ o (Ne.symm nDC) e⟩
      · rw [if_neg hi0] at so5
        refine add_again so5 ?_
        refine ⟨vs.length - (i + 1), by walk_at "om", i + 1, h5, _, rfl, hlt, rfl, st5, it5, ?_, ⟨_, ns5⟩⟩
        rw [if_neg (Nat.succ_ne_zero _)]; exact so5
    · obtain rfl : i = vs.length := by walk_at "om"
      refine W.done _ _ _ ⟨Z.it, hl.at fun o e => Z.st _ o e⟩ fun h2 tk2 hk => ?_
      dsimp only
      obtain ⟨m, hm⟩ := Z.ns
      have so := Z.so
      rw [if_neg (by walk_at "om")] at so
      refine ⟨m, hm.at' fun o e => hk _ o (by simpa using Ne.symm nIC) e, fun h3 hs3 => ?_⟩
      refine h H1.objs.size h3 _ (Heap.get?_none_of_le (by rw [z1]; exact Nat.le_succ _)) (hs3.extBut _ _ nDC (hk _ _ (by simpa using nDI) so)) fun b o e => hs3.extBut b o (old b o e).2.2 (hk b o (by simpa using (old b o e).1) (Z.st b o e))
  exact start_set loop (W.self 0 _ _ _ ⟨init.it, hl.at fun o e => init.st _ o e⟩ loop)
end
end
section
section
variable {prog : Program} {w : World} {A : Around} {E : Value → Shared → Prop} {env : Env} {s : Shared}
/-- a comprehension over a list, with one test -/
theorem compF {elt iter t : Expr} {x : Str} {px : Pos} {scope : Scope} {cl : List (Str × Addr)} {pos : Pos} {Q : Value → Shared → Prop} {l : Addr} {vs : List Value} (p : Value → Bool) (G : Value → Value → Prop) (hh : A.handled = none)
    (hclos : closureFor scope env = pure cl) (hcell : ∀ y ∈ scope.names, y.2 ≠ .cell) (hkind : scope.kind = .function)
    (hnames : ∀ y ∈ scope.names, y.2 = .local → scope.names.lookup y.1 = some .local) (hx : scope.names.lookup x = some .local)
    (hiter : wpAny (model prog w) A (eval iter env) (fun xv s₁ => xv = .ref l ∧ s₁ = s) E s) (hl : s.heap.IsList l vs.toArray) (hz : vs.length ≤ sizeLine)
    (htst : ∀ C v s₃ m₃ E', v ∈ vs → s₃.heap.Ns C m₃ → m₃ x = some v → s.heap.StaysIn s₃.heap → wpAny (model prog w) A (isTrue t (compEnvC scope cl C env) (eval t (compEnvC scope cl C env))) (fun ok s₄ => ok = p v ∧ Keeps s₃ s₄) E' s₃)
    (helt : ∀ C v s₃ m₃ E', v ∈ vs → s₃.heap.Ns C m₃ → m₃ x = some v → s.heap.StaysIn s₃.heap → wpAny (model prog w) A (eval elt (compEnvC scope cl C env)) (fun y s₄ => G v y ∧ Keeps s₃ s₄) E' s₃)
    (h : ∀ D h' tk ys n, s.heap.get? D = none → h'.get? D = some (listOf ys.toArray n) → Paired G (vs.filter p) ys → s.heap.StaysIn h' → Q (.ref D) { s with heap := h', toks := tk })
    (hs : ∀ x, foldedSetIterable iter env x = pure x) :
    wpAny (model prog w) A (eval (.ListComp elt [⟨.Name x px, iter, [t], 0⟩] scope pos) env) Q E s := by
  have hlt : l < s.heap.objs.size := by obtain ⟨o, ho, _⟩ := hl; exact Heap.lt_size ho
  refine wpAny_ListComp_free p G hclos hcell hkind hnames hx (wpAny_mono hiter (fun xv s₁ h₁ => ?_) fun _ _ e => e) hs
  obtain ⟨rfl, rfl⟩ := h₁
  refine wpAny_pyIter_list hl ?_
  have W := Walks.list (prog := prog) (w := w) hh s₁.heap.objs.size l (Nat.ne_of_lt hlt) vs.toArray
  have hlen : vs.toArray.size = vs.length := by simp
  rw [hlen] at W
  have st : ∀ b o, s₁.heap.get? b = some o → b ∉ [s₁.heap.objs.size] := fun b o e hm => absurd (Heap.lt_size e) (List.mem_singleton.mp hm ▸ Nat.lt_irrefl _)
  refine ⟨_, _, _, _, _, _, rfl, W, hz, ⟨⟨_, Heap.get?_push_size _ rfl, rfl, rfl⟩, hl.at fun o e => Heap.get?_push_of_some _ e⟩, ?_, ⟨?_, ?_⟩, ?_⟩
  · intro b hb
    rw [Heap.size_push]
    rcases List.mem_cons.mp hb with e | hb
    · rw [e]; exact Nat.lt_succ_self _
    · rw [List.mem_singleton.mp hb]; exact Nat.lt_succ_of_lt hlt
  · intro C i v s₃ m₃ E' _ hP hn hm hk _
    rw [List.forIn_cons]
    refine wpAny_bind ?_
    rw [if_pos rfl]
    refine wpAny_bind (wpAny_mono (htst C v s₃ m₃ E' (List.mem_of_getElem? (by simpa using hP)) hn hm fun b o e => hk b o (st b o e) (Heap.get?_push_of_some _ e)) (fun ok s₄ h₄ => ?_) fun _ _ e => e)
    refine wpAny_pure ?_
    dsimp only
    rw [List.forIn_nil]
    exact wpAny_pure h₄
  · intro C i v s₃ m₃ E' _ hP _ hn hm hk _
    exact helt C v s₃ m₃ E' (List.mem_of_getElem? (by simpa using hP)) hn hm fun b o e => hk b o (st b o e) (Heap.get?_push_of_some _ e)
  · intro D h' tk ys vs' hD hlD hpl hlen' hP hF hk
    have e : vs' = vs := all_items hlen' fun j v hj => by simpa using hP j v hj
    subst e
    obtain ⟨n, hn⟩ := hpl
    have hD' : s₁.heap.get? D = none := by
      cases q : s₁.heap.get? D with
      | none => rfl
      | some o => rw [Heap.get?_push_of_some _ q] at hD; cases hD
    exact h D h' tk ys.toList n hD' (by simpa using hn) hF fun b o e => hk b o (st b o e) (Heap.get?_push_of_some _ e)
/-- «y, = the set of True» -/
theorem assign_set1 {y : Str} {py : Pos} {k : Nat} {tpos : Pos} {a : Addr} {h₀ : Heap} {m : Str → Option Value} {Q : Unit → Shared → Prop} (hh : A.handled = none) (ho : s.heap.get? a = some (setTrue (!w.params.followText "set-order"))) (F : Fr h₀ env.locals s.heap m)
    (hy : env.kindOf y = some .local) (hp : (env.scope.kind == .class || (env.scope.kind == .module && env.locals != env.globals)) = false)
    (h : ∀ h' tk, Fr h₀ env.locals h' (fun z => if z = y then some (.bool true) else m z) → (∀ b o, b ≠ env.locals → s.heap.get? b = some o → h'.get? b = some o) → Q () { s with heap := h', toks := tk }) :
    wpAny (model prog w) A (assign (.Tuple [.Name y py] k tpos) env (.ref a)) Q E s := by
  show wpAny _ _ (do standAt tpos; unpack (.ref a) (assignEach [.Name y py] env)) _ _ _
  refine wpAny_bind (wpAny_standAt ?_)
  show wpAny _ _ (do assignInOrder [assign (.Name y py) env] (← holding [.ref a] (unpackItems (.ref a) 1 none))) _ _ _
  refine wpAny_bind (wpAny_holding (unpack_set hh ho fun h1 hs1 => ?_))
  have F1 : Fr h₀ env.locals h1 m := ⟨F.ns.keeps hs1, fun b o e => hs1 b o (F.keep b o e), F.above⟩
  show wpAny _ _ (do holding [] (assign (.Name y py) env (.bool true)); pure ()) _ _ _
  refine wpAny_bind (wpAny_holding (wpAny_assign_Name (wpAny_storeName_local hy F1.ns (fun h2 hn2 hs2 => ?_) hp)))
  exact wpAny_pure (h h2 _ (F1.set hn2 hs2) fun b o hb e => hs2.extBut b o hb (hs1 b o e))
end
section
variable {prog : Program} {w : World} {A : Around} {E : Value → Shared → Prop} {s : Shared} {env : Env} {h₀ : Heap} {xi xc : Str} {body : List Stmt} {Q : Flow → Shared → Prop}
def EPost (h₀ : Heap) (L : Addr) (xi xc : Str) (m₀ : Str → Option Value) (news : List (Addr × Obj)) (I : Prop) (s₁ : Shared) (Q : Flow → Shared → Prop) (f : Flow) (s₂ : Shared) : Prop :=
  match f with
  | .ret v => Q (.ret v) s₂
  | .brk => Q .next s₂
  | _ => ∃ h' tk m', s₂ = { s₁ with heap := h', toks := tk } ∧ Fr h₀ L h' m' ∧ (∀ z, z ≠ xi → z ≠ xc → m' z = m₀ z) ∧ News h₀ L h' news ∧ I
/-- a for over enumerate(a list), whose turn stores nothing but names that are not read behind -/
theorem iterE {e it l : Addr} {vs : List Value} {m₀ : Str → Option Value} {news : List (Addr × Obj)} {old : Value} (I : Nat → Prop) (hh : A.handled = none)
    (he : IsEnum s.heap e it 0 old) (hit : s.heap.IsListIter it l 0) (hl : s.heap.IsList l vs.toArray) (hei : e ≠ it) (hlL : l ≠ env.locals) (he0 : h₀.get? e = none) (hi0 : h₀.get? it = none) (heL : e ≠ env.locals) (hiL : it ≠ env.locals)
    (hne : ∀ p ∈ news, p.1 ≠ e) (hni : ∀ p ∈ news, p.1 ≠ it) (F : Fr h₀ env.locals s.heap m₀) (N : News h₀ env.locals s.heap news) (hI : I 0)
    (turn : ∀ (i : Nat) v t h tk own, vs[i]? = some v → I i → Fr h₀ env.locals h (fun y => if y = xc then some v else if y = xi then some (.int i t) else m₀ y) → News h₀ env.locals h (news ++ own) →
      wpAny (model prog w) A (execs body env) (EPost h₀ env.locals xi xc m₀ (news ++ own) (I (i + 1)) { s with heap := h, toks := tk } Q) E { s with heap := h, toks := tk })
    (done : ∀ u1 u2 h tk, I vs.length → Fr h₀ env.locals h (fun y => if y = xc then u1 else if y = xi then u2 else m₀ y) → News h₀ env.locals h news → Q .next { s with heap := h, toks := tk }) :
    wpAny (model prog w) A (pyIter (.ref e)) (fun it' s₂ => PairAt3 prog w A h₀ env xi xc body Q E it' s₂) E s := by
  refine wpAny_pyIter_enum he ?_
  have hle : l ≠ e := by
    rintro rfl
    obtain ⟨o, h1, h2, _⟩ := hl
    have he' : s.heap.get? l = some _ := he
    rw [he'] at h1; cases h1; exact absurd h2 (by simp)
  have hli : l ≠ it := by
    rintro rfl
    obtain ⟨o, h1, h2, _⟩ := hl
    obtain ⟨o', h3, h4, _⟩ := hit
    rw [h3] at h1; cases h1; rw [h2] at h4; exact absurd h4 (by simp)
  have W := WalksT.enumerate (prog := prog) (w := w) hh e it l hei hle hli vs.toArray
  have hlen : vs.toArray.size = vs.length := by simp
  rw [hlen] at W
  refine ⟨e, _, _, vs.length, _, _, _, fun i v0 v1 => vs[i]? = some v1 ∧ ∃ t, v0 = .int i t, m₀, news, fun i m' n' => n' = news ∧ I i ∧ ∀ z, z ≠ xi → z ≠ xc → m' z = m₀ z, rfl, W, ?_, ?_, ?_, ?_, ⟨⟨_, he⟩, hit, hl⟩, F, N, ⟨rfl, hI, fun _ _ _ => rfl⟩, ?_, ?_⟩
  · rintro i vals ⟨t, x, h1, h2⟩
    exact ⟨_, _, h2, by simpa using h1, t, rfl⟩
  · intro hm
    rcases List.mem_cons.mp hm with q | hm
    · exact heL q.symm
    · rcases List.mem_cons.mp hm with q | hm
      · exact hiL q.symm
      · exact hlL (List.mem_singleton.mp hm).symm
  · intro b hb
    rcases List.mem_cons.mp hb with q | hb
    · rw [q]; exact he0
    · rw [List.mem_singleton.mp hb]; exact hi0
  · intro p hp hb
    rcases List.mem_cons.mp hb with q | hb
    · exact hne p hp q
    · exact hni p hp (List.mem_singleton.mp hb)
  · rintro i v0 v1 m₁ news₁ s₁ own ⟨h, tk, rfl⟩ hi ⟨hv, t, rfl⟩ ⟨rfl, hIi, hm⟩ _ hown F₁ N₁
    have e1 : (fun y => if y = xc then some v1 else if y = xi then some (Value.int i t) else m₁ y) = fun y => if y = xc then some v1 else if y = xi then some (Value.int i t) else m₀ y := by
      funext z
      by_cases h1 : z = xc
      · simp [h1]
      · by_cases h2 : z = xi
        · simp [h2]
        · simp only [if_neg h1, if_neg h2]; exact hm z h2 h1
    rw [e1] at F₁
    have N₂ : News h₀ env.locals h (news₁ ++ own) := fun p hp => N₁ p ((List.mem_append.mp hp).elim (fun h => List.mem_append.mpr (.inr h)) fun h => List.mem_append.mpr (.inl h))
    refine wpAny_mono (turn i v1 t h tk own hv hIi F₁ N₂) (fun f s₂ p => ?_) fun _ _ e => e
    have fin : (∃ h' tk' m', s₂ = { s with heap := h', toks := tk' } ∧ Fr h₀ env.locals h' m' ∧ (∀ z, z ≠ xi → z ≠ xc → m' z = m₀ z) ∧ News h₀ env.locals h' (news₁ ++ own) ∧ I (i + 1)) → LoopStep2 h₀ env.locals own news₁ (fun m' n' => n' = news₁ ∧ I (i + 1) ∧ ∀ z, z ≠ xi → z ≠ xc → m' z = m₀ z) { s with heap := h, toks := tk } .next s₂ := by
      rintro ⟨h', tk', m', rfl, F', hm', N', hI'⟩
      exact ⟨rfl, h', tk', m', news₁, rfl, F', fun p hp => N' p ((List.mem_append.mp hp).elim (fun h => List.mem_append.mpr (.inr h)) fun h => List.mem_append.mpr (.inl h)), rfl, rfl, hI', hm'⟩
    cases f with
    | ret v => exact p
    | brk => exact p
    | next => exact fin p
    | cont => exact fin p
  · rintro h' tk m' news' F' N' _ ⟨rfl, hI', hm'⟩
    have e1 : m' = fun y => if y = xc then m' xc else if y = xi then m' xi else m₀ y := by
      funext z
      by_cases h1 : z = xc
      · simp [h1]
      · by_cases h2 : z = xi
        · rw [if_neg h1, if_pos h2, h2]
        · simp only [if_neg h1, if_neg h2]; exact hm' z h2 h1
    rw [e1] at F'
    exact done _ _ h' tk hI' F' N'
end
end
section
theorem words_Gen18_0 : True := by
  k_with_none
  (k_with "m ne" => ((refine neN ?_); (try dsimp only); walk_at "om"))
  (k_with "m om" => (first | with_reducible assumption | exact Nat.le_trans (by with_reducible assumption) (by decide) | exact om4 (by with_reducible assumption) (by decide) | exact om2 (by with_reducible assumption) (by decide) | exact om1 (by with_reducible assumption) (by decide) | exact om0 (by with_reducible assumption) | exact om22 (by with_reducible assumption) (by decide) | exact om18 (by decide) | exact om3 (by with_reducible assumption) (by decide) | exact om10 (by with_reducible assumption) (by with_reducible assumption) (by decide) | exact Ne.symm (by with_reducible assumption) | exact Nat.ne_of_lt (by with_reducible assumption) | exact Nat.ne_of_gt (by with_reducible assumption) | exact om12 (by with_reducible assumption) | exact om14 (by decide) | exact om15 (by decide) | exact om16 (by with_reducible assumption) | exact om17 _ | exact om27 _ _ | exact om28 (by with_reducible assumption) | exact om25 (by with_reducible assumption) | exact om26 (by with_reducible assumption) | exact Nat.succ_le_of_lt (by with_reducible assumption) | exact Nat.lt_of_succ_le (by with_reducible assumption) | exact Nat.sub_succ_lt_self (by with_reducible assumption) | exact Nat.le_antisymm (by with_reducible assumption) (by with_reducible assumption) | exact Nat.le_of_lt (by with_reducible assumption) | exact om11 (by with_reducible assumption) | exact om7 (by with_reducible assumption) (by with_reducible assumption) | exact om8 (by with_reducible assumption) (by with_reducible assumption) | exact om9 (by with_reducible assumption) (by with_reducible assumption) | exact om19 (by with_reducible assumption) (by decide) | exact om20 (by with_reducible assumption) (by decide) | exact om21 (by with_reducible assumption) (by decide) | exact om23 (by with_reducible assumption) | exact om24 (by with_reducible assumption) | exact And.right (by with_reducible assumption) | exact And.left (by with_reducible assumption) | lia | omega))
  trivial
theorem ltS_irr (x : Str) : ltS x x = false := by
  unfold ltS; exact decide_eq_false (List.lt_irrefl _)
theorem ltS_tr {x y z : Str} (h1 : ltS x y = true) (h2 : ltS y z = true) : ltS x z = true := by
  unfold ltS at *
  exact decide_eq_true (List.lt_trans (of_decide_eq_true h1) (of_decide_eq_true h2))
theorem ltS_ne {x y : Str} (h : ltS x y = true) : x ≠ y := by rintro rfl; rw [ltS_irr] at h; cases h
theorem ltL_irr : ∀ a : List Str, ltL a a = false
  | [] => rfl
  | x :: xs => by unfold ltL; rw [if_pos rfl]; exact ltL_irr xs
theorem ltL_tr : ∀ {a b c : List Str}, ltL a b = true → ltL b c = true → ltL a c = true
  | [], [], _, h, _ => by cases h
  | [], _ :: _, [], _, h => by cases h
  | [], _ :: _, _ :: _, _, _ => rfl
  | _ :: _, [], _, h, _ => by cases h
  | _ :: _, _ :: _, [], _, h => by cases h
  | x :: xs, y :: ys, z :: zs, h1, h2 => by
    unfold ltL at h1 h2 ⊢
    by_cases e1 : x = y
    · subst e1
      rw [if_pos rfl] at h1
      by_cases e2 : x = z
      · rw [if_pos e2] at h2 ⊢
        exact ltL_tr h1 h2
      · rw [if_neg e2] at h2 ⊢
        exact h2
    · rw [if_neg e1] at h1
      by_cases e2 : y = z
      · subst e2
        rw [if_neg e1]; exact h1
      · rw [if_neg e2] at h2
        have h3 := ltS_tr h1 h2
        rw [if_neg (ltS_ne h3)]; exact h3
theorem bestOf_spec {lt : Value → Value → Bool} (irr : ∀ a, lt a a = false) (tr : ∀ a b c, lt a b = true → lt b c = true → lt a c = true) :
    ∀ (vs : List Value) (b : Value), (bestOf lt b vs = b ∨ lt (bestOf lt b vs) b = true) ∧ bestOf lt b vs ∈ b :: vs ∧ ∀ v ∈ b :: vs, lt v (bestOf lt b vs) = false
  | [], b => ⟨.inl rfl, .head _, fun v hv => by rw [List.mem_singleton.mp hv]; exact irr b⟩
  | u :: vs, b => by
    have e : bestOf lt b (u :: vs) = bestOf lt (if lt u b then u else b) vs := rfl
    rw [e]
    cases hub : lt u b with
    | true =>
      simp only [if_true]
      obtain ⟨h0, h1, h2⟩ := bestOf_spec irr tr vs u
      refine ⟨.inr ?_, List.mem_cons_of_mem _ h1, fun v hv => ?_⟩
      · rcases h0 with h0 | h0
        · rw [h0]; exact hub
        · exact tr _ _ _ h0 hub
      · rcases List.mem_cons.mp hv with rfl | hv
        · cases hc : lt v (bestOf lt u vs) with
          | false => rfl
          | true => have := tr _ _ _ hub hc; rw [h2 u (.head _)] at this; cases this
        · exact h2 v hv
    | false =>
      simp only [Bool.false_eq_true, if_false]
      obtain ⟨h0, h1, h2⟩ := bestOf_spec irr tr vs b
      refine ⟨h0, ?_, fun v hv => ?_⟩
      · rcases List.mem_cons.mp h1 with h | h
        · rw [h]; exact .head _
        · exact List.mem_cons_of_mem _ (List.mem_cons_of_mem _ h)
      · rcases List.mem_cons.mp hv with rfl | hv
        · exact h2 _ (.head _)
        · rcases List.mem_cons.mp hv with rfl | hv
          · cases hc : lt v (bestOf lt b vs) with
            | false => rfl
            | true =>
              rcases h0 with h0 | h0
              · rw [h0, hub] at hc; cases hc
              · have := tr _ _ _ hc h0; rw [hub] at this; cases this
          · exact h2 v (List.mem_cons_of_mem _ hv)
/-- the texts of a list at an address -/
def textsOf (o : Obj) : List Str := match o.data with
  | .seq its _ => its.toList.filterMap fun v => match v with | .str x _ => some x | _ => none
  | _ => []
def rowAt (h : Heap) (v : Value) : List Str := match v with
  | .ref a => match h.get? a with | some o => textsOf o | none => []
  | _ => []
theorem texts_strs (l : List (Str × Tok)) : (strValues l).filterMap (fun v => match v with | .str x _ => some x | _ => none) = l.map (·.1) := by
  induction l with
  | nil => rfl
  | cons p l ih => simp only [strValues, List.map_cons, List.filterMap_cons] at ih ⊢; rw [ih]
theorem rowAt_list {h : Heap} {a : Addr} {l : List (Str × Tok)} (hl : h.IsList a (strValues l).toArray) : rowAt h (.ref a) = l.map (·.1) := by
  obtain ⟨o, e, _, n, hd⟩ := hl
  have h1 : rowAt h (.ref a) = textsOf o := by simp only [rowAt, e]
  rw [h1]
  simp only [textsOf, hd]
  exact texts_strs l
section
variable {prog : Program} {w : World} {A : Around} {E : Value → Shared → Prop} {s : Shared} {l : Addr} {inner : List (Addr × Obj)} {Q : Value → Shared → Prop}
theorem min_rows (hh : A.handled = none) (hu : A.units + 10 < cLine) (hl : s.heap.IsList l (inner.map fun p => Value.ref p.1).toArray) (hne : inner ≠ []) (hin : ∀ p ∈ inner, ∃ xs, s.heap.IsList p.1 (strValues xs).toArray)
    (h : ∀ h' tk p, p ∈ inner → (∀ q ∈ inner, ltL (rowAt s.heap (.ref q.1)) (rowAt s.heap (.ref p.1)) = false) → s.heap.StaysIn h' → Q (.ref p.1) { s with heap := h', toks := tk }) :
    wpAny (model prog w) A (call (.builtin "min") [.ref l]) Q E s := by
  cases inner with
  | nil => exact absurd rfl hne
  | cons p0 ps =>
    rw [List.map_cons] at hl
    refine call_min (lt := fun v u => ltL (rowAt s.heap v) (rowAt s.heap u)) hh hl (fun s' v u Q' E' hs hv hu' hQ => ?_) fun h' tk hs => ?_
    · rw [← List.map_cons (f := fun p : Addr × Obj => Value.ref p.1)] at hv hu'
      obtain ⟨p, hp, rfl⟩ := List.mem_map.mp hv
      obtain ⟨q, hq, rfl⟩ := List.mem_map.mp hu'
      obtain ⟨xs, hx⟩ := hin p hp
      obtain ⟨ys, hy⟩ := hin q hq
      rw [rowAt_list hx, rowAt_list hy] at hQ
      exact rcl_lt (hx.at fun o e => hs _ o e) (hy.at fun o e => hs _ o e) (by show A.units + 1 < cLine; walk_at "om") hQ
    · obtain ⟨_, h1, h2⟩ := bestOf_spec (lt := fun v u => ltL (rowAt s.heap v) (rowAt s.heap u)) (fun a => ltL_irr _) (fun a b c => ltL_tr) (ps.map fun p => Value.ref p.1) (.ref p0.1)
      rw [← List.map_cons (f := fun p : Addr × Obj => Value.ref p.1)] at h1 h2
      obtain ⟨p, hp, e⟩ := List.mem_map.mp h1
      have := h h' tk p hp (fun q hq => by rw [e]; exact h2 _ (List.mem_map.mpr ⟨q, hq, rfl⟩)) hs
      rw [e] at this
      exact this
theorem max_rows (hh : A.handled = none) (hu : A.units + 10 < cLine) (hl : s.heap.IsList l (inner.map fun p => Value.ref p.1).toArray) (hne : inner ≠ []) (hin : ∀ p ∈ inner, ∃ xs, s.heap.IsList p.1 (strValues xs).toArray)
    (h : ∀ h' tk p, p ∈ inner → (∀ q ∈ inner, ltL (rowAt s.heap (.ref p.1)) (rowAt s.heap (.ref q.1)) = false) → s.heap.StaysIn h' → Q (.ref p.1) { s with heap := h', toks := tk }) :
    wpAny (model prog w) A (call (.builtin "max") [.ref l]) Q E s := by
  cases inner with
  | nil => exact absurd rfl hne
  | cons p0 ps =>
    rw [List.map_cons] at hl
    refine call_max (lt := fun v u => ltL (rowAt s.heap u) (rowAt s.heap v)) hh hl (fun s' v u Q' E' hs hv hu' hQ => ?_) fun h' tk hs => ?_
    · rw [← List.map_cons (f := fun p : Addr × Obj => Value.ref p.1)] at hv hu'
      obtain ⟨p, hp, rfl⟩ := List.mem_map.mp hv
      obtain ⟨q, hq, rfl⟩ := List.mem_map.mp hu'
      obtain ⟨xs, hx⟩ := hin p hp
      obtain ⟨ys, hy⟩ := hin q hq
      rw [rowAt_list hx, rowAt_list hy] at hQ
      exact rcl_gt (hx.at fun o e => hs _ o e) (hy.at fun o e => hs _ o e) (by show A.units + 1 < cLine; walk_at "om") hQ
    · obtain ⟨_, h1, h2⟩ := bestOf_spec (lt := fun v u => ltL (rowAt s.heap u) (rowAt s.heap v)) (fun a => ltL_irr _) (fun a b c h1 h2 => ltL_tr h2 h1) (ps.map fun p => Value.ref p.1) (.ref p0.1)
      rw [← List.map_cons (f := fun p : Addr × Obj => Value.ref p.1)] at h1 h2
      obtain ⟨p, hp, e⟩ := List.mem_map.mp h1
      have := h h' tk p hp (fun q hq => by rw [e]; exact h2 _ (List.mem_map.mpr ⟨q, hq, rfl⟩)) hs
      rw [e] at this
      exact this
end
/-- which parts of a path commonpath keeps -/
def keepS (c : Str) : Bool := c != Str.ofString "" && c != Str.ofString "."
def RowE (v : Value) (q : Addr × Obj) : Prop := ∃ x t l n, v = .str x t ∧ q.2.cls = .type "list" ∧ q.2.data = .seq (strValues l).toArray n ∧ l.map (·.1) = (Txt.split x (Str.ofString "/")).filter keepS
def SplitE (v : Value) (its : Array Value) : Prop := ∃ x t l, v = Value.str x t ∧ its = (strValues l).toArray ∧ l.map (·.1) = Txt.split x (Str.ofString "/")
def KeptE (inner : List (Addr × Obj)) (v : Value) (its : Array Value) : Prop := ∃ p l n, p ∈ inner ∧ v = .ref p.1 ∧ p.2.data = .seq (strValues l).toArray n ∧ its = (strValues (l.filter fun q => keepS q.1)).toArray
theorem strs_inj {a b : List (Str × Tok)} (h : (strValues a).toArray = (strValues b).toArray) : a.map (·.1) = b.map (·.1) := by
  have h1 : strValues a = strValues b := by simpa using congrArg Array.toList h
  rw [← texts_strs a, ← texts_strs b, h1]
theorem map_filter_keep (l : List (Str × Tok)) : (l.filter fun q => keepS q.1).map (·.1) = (l.map (·.1)).filter keepS := by
  induction l with
  | nil => rfl
  | cons p l ih =>
    simp only [List.filter_cons, List.map_cons]
    split <;> simp [ih]
theorem rows_comb {all : List (Addr × Obj)} (huniq : ∀ p ∈ all, ∀ q ∈ all, p.1 = q.1 → p.2 = q.2) :
    ∀ {vs : List Value} {inner inner2 : List (Addr × Obj)}, (∀ p ∈ inner, p ∈ all) → Paired (LstE SplitE) vs inner → Paired (LstE (KeptE all)) (inner.map fun p => Value.ref p.1) inner2 → Paired RowE vs inner2
  | _, _, _, _, .nil, .nil => .nil
  | _, _, _, hs, .cons h1 r1, .cons h2 r2 => by
    refine .cons ?_ (rows_comb huniq (fun p hp => hs p (.tail _ hp)) r1 r2)
    obtain ⟨its, n, hc, hd, x, t, l, rfl, rfl, hl⟩ := h1
    obtain ⟨its2, n2, hc2, hd2, p, l2, n3, hp, ev, hd3, rfl⟩ := h2
    have e := huniq _ (hs _ (.head _)) p hp (by injection ev)
    rw [e, hd3] at hd
    injection hd with hd _
    have := strs_inj hd
    exact ⟨x, t, _, n2, rfl, hc2, hd2, by rw [map_filter_keep, this, hl]⟩
theorem same_short : ∀ {a b : List Str}, ltL b a = false → same a b < a.length → same a b < b.length
  | [], _, _, h => by simp [same] at h
  | _ :: _, [], h, _ => by cases h
  | x :: xs, y :: ys, h, h2 => by
    unfold same at h2 ⊢
    unfold ltL at h
    by_cases e : x = y
    · rw [if_pos e] at h2 ⊢
      rw [if_pos e.symm] at h
      simp only [List.length_cons] at h2 ⊢
      have := same_short h (by walk_at "om")
      walk_at "om"
    · rw [if_neg e]; simp
theorem pairR {α β : Type} {F : α → β → Prop} : ∀ {l₁ : List α} {l₂ : List β}, Paired F l₁ l₂ → ∀ b ∈ l₂, ∃ a, a ∈ l₁ ∧ F a b
  | _, _, .nil, _, h => nomatch h
  | _, _, .cons h r, b, hb => by
    rcases List.mem_cons.mp hb with rfl | hb
    · exact ⟨_, .head _, h⟩
    · obtain ⟨a, ha, hF⟩ := pairR r b hb
      exact ⟨a, .tail _ ha, hF⟩
theorem paired_same {a b : List Value} (h : Paired (fun v y => y = v) a b) : b = a := by
  induction h with
  | nil => rfl
  | cons h _ ih => rw [h, ih]
def keepV (v : Value) : Bool := match v with | .str c _ => keepS c | _ => false
theorem keepV_str (c : Str) (t : Tok) : keepV (.str c t) = keepS c := rfl
theorem filter_strs (l : List (Str × Tok)) : (strValues l).filter keepV = strValues (l.filter fun q => keepS q.1) := by
  induction l with
  | nil => rfl
  | cons p l ih =>
    have e : strValues (p :: l) = .str p.1 p.2 :: strValues l := rfl
    rw [e, List.filter_cons, List.filter_cons, ih]
    show (if keepS p.1 = true then _ else _) = _
    split <;> rfl
theorem keepS_yes {c : Str} (h1 : (c.length : Int) ≠ 0) (h2 : (c != Str.ofString ".") = true) : true = keepS c := by
  have h3 : (c != Str.ofString "") = true := by
    rw [bne_iff_ne]; rintro rfl; exact h1 (by decide)
  unfold keepS; rw [h2, h3]; rfl
theorem keepS_dot {c : Str} (h2 : (c != Str.ofString ".") = false) : false = keepS c := by
  unfold keepS; rw [h2, Bool.and_false]
theorem keepS_nil {c : Str} (h1 : (c.length : Int) = 0) : false = keepS c := by
  rw [str_nil h1]; decide
/-- what a list object of the ledger is -/
def TxtObj (o : Obj) : Prop := o.cls = .type "list" ∧ ∃ xs n, o.data = .seq (strValues xs).toArray n
theorem TxtObj.row {h : Heap} {p : Addr × Obj} (ho : TxtObj p.2) (hg : h.get? p.1 = some p.2) : ∃ xs, h.IsList p.1 (strValues xs).toArray ∧ rowAt h (.ref p.1) = textsOf p.2 := by
  obtain ⟨hc, xs, n, hd⟩ := ho
  exact ⟨xs, ⟨_, hg, hc, n, hd⟩, by simp only [rowAt, hg]⟩
section
variable {prog : Program} {w : World} {A : Around} {E : Value → Shared → Prop} {s : Shared} {l : Addr} {inner : List (Addr × Obj)} {Q : Value → Shared → Prop}
theorem min_txt (hh : A.handled = none) (hu : A.units + 10 < cLine) (hl : s.heap.IsList l (inner.map fun p => Value.ref p.1).toArray) (hne : inner ≠ []) (hin : ∀ p ∈ inner, s.heap.get? p.1 = some p.2 ∧ TxtObj p.2)
    (h : ∀ h' tk p, p ∈ inner → (∀ q ∈ inner, ltL (textsOf q.2) (textsOf p.2) = false) → s.heap.StaysIn h' → Q (.ref p.1) { s with heap := h', toks := tk }) :
    wpAny (model prog w) A (call (.builtin "min") [.ref l]) Q E s := by
  refine min_rows hh hu hl hne (fun p hp => ?_) fun h' tk p hp hq hs => h h' tk p hp (fun q hq' => ?_) hs
  · obtain ⟨xs, hx, _⟩ := (hin p hp).2.row (hin p hp).1
    exact ⟨xs, hx⟩
  · have := hq q hq'
    obtain ⟨_, _, e1⟩ := (hin p hp).2.row (hin p hp).1
    obtain ⟨_, _, e2⟩ := (hin q hq').2.row (hin q hq').1
    rw [e1, e2] at this
    exact this
theorem max_txt (hh : A.handled = none) (hu : A.units + 10 < cLine) (hl : s.heap.IsList l (inner.map fun p => Value.ref p.1).toArray) (hne : inner ≠ []) (hin : ∀ p ∈ inner, s.heap.get? p.1 = some p.2 ∧ TxtObj p.2)
    (h : ∀ h' tk p, p ∈ inner → (∀ q ∈ inner, ltL (textsOf p.2) (textsOf q.2) = false) → s.heap.StaysIn h' → Q (.ref p.1) { s with heap := h', toks := tk }) :
    wpAny (model prog w) A (call (.builtin "max") [.ref l]) Q E s := by
  refine max_rows hh hu hl hne (fun p hp => ?_) fun h' tk p hp hq hs => h h' tk p hp (fun q hq' => ?_) hs
  · obtain ⟨xs, hx, _⟩ := (hin p hp).2.row (hin p hp).1
    exact ⟨xs, hx⟩
  · have := hq q hq'
    obtain ⟨_, _, e1⟩ := (hin p hp).2.row (hin p hp).1
    obtain ⟨_, _, e2⟩ := (hin q hq').2.row (hin q hq').1
    rw [e1, e2] at this
    exact this
end
theorem RowE.txt {v : Value} {q : Addr × Obj} (h : RowE v q) : TxtObj q.2 := by
  obtain ⟨x, t, l, n, _, hc, hd, _⟩ := h
  exact ⟨hc, l, n, hd⟩
theorem rows_eq : ∀ {ps : List (Str × Tok)} {inner : List (Addr × Obj)}, Paired RowE (strValues ps) inner → inner.map (fun q => textsOf q.2) = ps.map fun p => (Txt.split p.1 (Str.ofString "/")).filter keepS
  | [], _, h => by cases h; rfl
  | p :: ps, _, h => by
    cases h with
    | cons h r =>
      obtain ⟨x, t, l, n, ev, _, hd, hl⟩ := h
      injection ev with ex _
      rw [List.map_cons, List.map_cons, rows_eq r]
      congr 1
      rw [ex, ← hl]
      simp only [textsOf, hd]
      exact texts_strs l
structure EnumAt (h₀ h : Heap) (L e it l : Addr) (news : List (Addr × Obj)) : Prop where
  he : IsEnum h e it 0 .none
  hit : h.IsListIter it l 0
  hei : e ≠ it
  he0 : h₀.get? e = none
  hi0 : h₀.get? it = none
  heL : e ≠ L
  hiL : it ≠ L
  hne : ∀ p ∈ news, p.1 ≠ e
  hni : ∀ p ∈ news, p.1 ≠ it
section
variable {prog : Program} {w : World} {A : Around} {E : Value → Shared → Prop} {s : Shared} {env : Env} {h₀ : Heap} {L l : Addr} {m : Str → Option Value} {news : List (Addr × Obj)}
theorem call_enumE {vs : List Value} {Q : Value → Shared → Prop} (F : Fr h₀ L s.heap m) (N : News h₀ L s.heap news) (hl : s.heap.IsList l vs.toArray)
    (h : ∀ h' e it, Fr h₀ L h' m → News h₀ L h' news → EnumAt h₀ h' L e it l news → Q (.ref e) { s with heap := h' }) :
    wpAny (model prog w) A (call (.type "enumerate") [.ref l]) Q E s := by
  refine call_enumerate_list hl fun h' he hit hsz hk => ?_
  have z1 : s.heap.get? s.heap.objs.size = none := Heap.get?_none_of_le (Nat.le_refl _)
  have z2 : s.heap.get? (s.heap.objs.size + 1) = none := Heap.get?_none_of_le (Nat.le_succ _)
  have old : ∀ a, s.heap.get? a = none → h₀.get? a = none := fun a e => by
    cases q : h₀.get? a with
    | none => rfl
    | some o => rw [F.keep _ _ q] at e; cases e
  have off : ∀ a, s.heap.get? a = none → ∀ p ∈ news, p.1 ≠ a := fun a e p hp q => by rw [← q, (N p hp).1] at e; cases e
  have offL : ∀ a, s.heap.get? a = none → a ≠ L := fun a e q => by
    obtain ⟨o, _, _, hL, _⟩ := F.ns
    rw [q, hL] at e; cases e
  exact h h' _ _ (frS F hk) (newsS N hk) ⟨he, hit, Nat.succ_ne_self _, old _ z2, old _ z1, offL _ z2, offL _ z1, off _ z2, off _ z1⟩
theorem sliceT {value slice : Expr} {xs : List (Str × Tok)} {i : Nat} {u : Tok} {Q : Value → Shared → Prop}
    (F : Fr h₀ L s.heap m) (N : News h₀ L s.heap news) (hl : s.heap.IsList l (strValues xs).toArray) (hi : i ≤ xs.length) (hz : xs.length ≤ 100000)
    (h : ∀ h' D, Fr h₀ L h' m → News h₀ L h' ((D, W.listOf (strValues (xs.take i)).toArray 0) :: news) → Q (.ref D) { s with heap := h' })
    (hs : subscripted slice false (.ref l) (.ref s.heap.objs.size) = operate [.ref s.heap.objs.size, .ref l] (getItem (.ref l) (.ref s.heap.objs.size)))
    (ht : ∀ r, letTemporaryGo value (.ref l) r = pure ()) :
    wpAny (model prog w) A (subscriptTail value slice (.ref l) (.ref s.heap.objs.size)) Q E { s with heap := s.heap.push { cls := .type "slice", data := .fields #[.none, .int i u, .none] } } := by
  refine slice_list F N hl .none (.int _ _) (fun h' F' N' => ?_) hs ht (by simp [strValues]; rw [sizeLine_eq]; walk_at "om")
  rw [slicePick_upto _ i (by simpa [strValues] using hi)] at N'
  refine h h' _ F' ?_
  have e : (strValues (xs.take i)).toArray = (List.take i (strValues xs).toArray.toList).toArray := by
    simp [strValues, List.map_take]
  rw [e]
  exact N'
theorem joinL {xs : List (Str × Tok)} {texts : List Str} {sep : Str} {t : Tok} {Q : Value → Shared → Prop} (hl : s.heap.IsList l (strValues xs).toArray) (ht : xs.map (·.1) = texts) (hw : Weighs texts 2000000) (hs : sep.length ≤ 4)
    (h : ∀ t' k', (Txt.join sep texts).length ≤ 8000004 → Q (.str (Txt.join sep texts) t') { s with toks := k' }) : wpAny (model prog w) A (call (.builtin "str.join") [.str sep t, .ref l]) Q E s := by
  refine SC.join hl ht (joinOk_of ?_) fun t' k' => h t' k' (len_join_le hw hs)
  have h1 : (texts.map (·.length)).sum + texts.length ≤ 2000000 + 1 := hw
  have h2 : texts.length * sep.length ≤ texts.length * 4 := Nat.mul_le_mul_left _ hs
  walk_at "om"
end
end
section
theorem words_C1_0 : True := by
  k_with_none
  (k_with "m ne" => ((refine neN ?_); (try dsimp only); walk_at "om"))
  (k_with "m om" => (first | with_reducible assumption | exact Nat.le_trans (by with_reducible assumption) (by decide) | exact om4 (by with_reducible assumption) (by decide) | exact om2 (by with_reducible assumption) (by decide) | exact om1 (by with_reducible assumption) (by decide) | exact om0 (by with_reducible assumption) | exact om22 (by with_reducible assumption) (by decide) | exact om18 (by decide) | exact om3 (by with_reducible assumption) (by decide) | exact om10 (by with_reducible assumption) (by with_reducible assumption) (by decide) | exact Ne.symm (by with_reducible assumption) | exact Nat.ne_of_lt (by with_reducible assumption) | exact Nat.ne_of_gt (by with_reducible assumption) | exact om12 (by with_reducible assumption) | exact om14 (by decide) | exact om15 (by decide) | exact om16 (by with_reducible assumption) | exact om17 _ | exact om27 _ _ | exact om28 (by with_reducible assumption) | exact om25 (by with_reducible assumption) | exact om26 (by with_reducible assumption) | exact Nat.succ_le_of_lt (by with_reducible assumption) | exact Nat.lt_of_succ_le (by with_reducible assumption) | exact Nat.sub_succ_lt_self (by with_reducible assumption) | exact Nat.le_antisymm (by with_reducible assumption) (by with_reducible assumption) | exact Nat.le_of_lt (by with_reducible assumption) | exact om11 (by with_reducible assumption) | exact om7 (by with_reducible assumption) (by with_reducible assumption) | exact om8 (by with_reducible assumption) (by with_reducible assumption) | exact om9 (by with_reducible assumption) (by with_reducible assumption) | exact om19 (by with_reducible assumption) (by decide) | exact om20 (by with_reducible assumption) (by decide) | exact om21 (by with_reducible assumption) (by decide) | exact om23 (by with_reducible assumption) | exact om24 (by with_reducible assumption) | exact And.right (by with_reducible assumption) | exact And.left (by with_reducible assumption) | lia | omega))
  trivial
variable {w : World} {loose : List Str} {mean : ExcName → Option Value} {mg mb : Str → Option Value}
theorem words_C1_1 : True := by
  (k_with "m my_fill" => ((have dummy : hd.heap_39 w.params = hd.heap_39 w.params ∧ Mine.rw = Mine.rw := by (k_fill; exact ⟨rfl, rfl⟩)); clear dummy))
  (k_with "m my_deep" => (first | exact om2 (by assumption) (by decide) | exact om1 (by assumption) (by decide) | exact om0 (by assumption) | (simp only [depth_under_make, depth_under_kw, depth_in1, depth_deeper, depth_caller, units_in1, units_deeper] at *; (try dsimp only at *); walk_at "om")))
  (k_with "m my_call" => ((case zz_B => k_asm); (case zz_F => k_asm); (case zz_hA => rfl); (case zz_hf => rfl); (case zz_hk => rfl); (case zz_X => k_asm); (case zz_T => k_asm); (case zz_d => walk_at "my_deep"); (case zz_u => walk_at "my_deep"); (case zz_h => rfl)))
  trivial
section
variable {prog : Program} {A : Around} {E : Value → Shared → Prop} {s : Shared} {h₀ : Heap} {L a : Addr} {news : List (Addr × Obj)} {p0 : Str × Tok} {pr : List (Str × Tok)}
theorem tup_true {Q : Bool → Shared → Prop} (N : News h₀ L s.heap news) (hm : (a, { cls := .type "tuple", data := .seq (strValues (p0 :: pr)).toArray }) ∈ news) (hz : (p0 :: pr).length ≤ 100) (h : ∀ tk, Q true { s with toks := tk }) : wpAny (model prog w) A (truthy (.ref a)) Q E s := by
  refine truthy_tuple ⟨_, N.get hm, rfl, _, rfl⟩ (by simp only [strValues, List.size_toArray, List.length_map]; walk_at "om") ?_
  have e : (!(strValues (p0 :: pr)).toArray.isEmpty) = true := by simp [strValues]
  rw [e]; exact h _
theorem tup_first {value slice : Expr} {u : Tok} {Q : Value → Shared → Prop} (N : News h₀ L s.heap news) (hm : (a, { cls := .type "tuple", data := .seq (strValues (p0 :: pr)).toArray }) ∈ news) (h : Q (.str p0.1 p0.2) s)
    (hs : subscripted slice false (.ref a) (.int 0 u) = operate [.ref a, .int 0 u] (getItem (.ref a) (.int 0 u))) (hg : ∀ r, letTemporaryGo value (.ref a) r = pure ()) :
    wpAny (model prog w) A (subscriptTail value slice (.ref a) (.int 0 u)) Q E s :=
  kim_tup N hm rfl (l := strValues (p0 :: pr)) (n := 0) rfl (by decide) (by decide) (j := 0) (by simp [strValues, seqIndex?]) rfl h hs hg
end
theorem newsRot {g h : Heap} {L : Addr} {p : Addr × Obj} {inner r : List (Addr × Obj)} (N : News g L h (p :: (inner ++ r))) : News g L h (p :: (r ++ inner)) := fun q hq => N q (by
  rcases List.mem_cons.mp hq with rfl | hq
  · exact .head _
  · exact .tail _ (List.mem_append.mpr (List.mem_append.mp hq).symm))
theorem newsK {g h h' : Heap} {L : Addr} {news : List (Addr × Obj)} (N : News g L h news) (hk : ∀ b o, b ≠ L → h.get? b = some o → h'.get? b = some o) : News g L h' news := fun p hp => ⟨hk _ _ (N p hp).2.1 (N p hp).1, (N p hp).2⟩
theorem newsDrop {g h : Heap} {L : Addr} {p a b c d : Addr × Obj} {inner r : List (Addr × Obj)} (N : News g L h (p :: inner ++ a :: b :: c :: d :: r)) : News g L h (p :: b :: c :: d :: inner) := fun q hq => N q (by
  simp only [List.cons_append, List.mem_cons, List.mem_append] at hq ⊢
  rcases hq with h | h | h | h | h
  · exact .inl h
  · exact .inr (.inr (.inr (.inl h)))
  · exact .inr (.inr (.inr (.inr (.inl h))))
  · exact .inr (.inr (.inr (.inr (.inr (.inl h)))))
  · exact .inr (.inl h))
theorem newsPick {g h : Heap} {L : Addr} {p a b c d e : Addr × Obj} {inner : List (Addr × Obj)} (N : News g L h (p :: c :: d :: e :: inner)) (ha : a ∈ inner) (hb : b ∈ inner) : News g L h [a, b, c, d, e] := fun q hq => N q (by
  simp only [List.mem_cons, List.not_mem_nil, or_false] at hq
  rcases hq with h | h | h | h | h
  · rw [h]; exact .tail _ (.tail _ (.tail _ (.tail _ ha)))
  · rw [h]; exact .tail _ (.tail _ (.tail _ (.tail _ hb)))
  · rw [h]; exact .tail _ (.head _)
  · rw [h]; exact .tail _ (.tail _ (.head _))
  · rw [h]; exact .tail _ (.tail _ (.tail _ (.head _))))
theorem sum_filter_le (l : List Str) (p : Str → Bool) : ((l.filter p).map (·.length)).sum + (l.filter p).length ≤ (l.map (·.length)).sum + l.length := by
  induction l with
  | nil => exact Nat.le_refl _
  | cons c l ih =>
    rw [List.filter_cons]
    split <;> simp only [List.map_cons, List.sum_cons, List.length_cons] <;> walk_at "om"
theorem sum_take_le (l : List Str) (i : Nat) : ((l.take i).map (·.length)).sum + (l.take i).length ≤ (l.map (·.length)).sum + l.length := by
  induction l generalizing i with
  | nil => simp
  | cons c l ih =>
    cases i with
    | zero => simp
    | succ i =>
      have := ih i
      simp only [List.take_succ_cons, List.map_cons, List.sum_cons, List.length_cons]
      walk_at "om"
theorem weighs_split {x : Str} (h : x.length ≤ 1000) : Weighs ((Txt.split x (Str.ofString "/")).filter keepS) 1000000 := by
  have h1 := sum_filter_le (Txt.split x (Str.ofString "/")) keepS
  have h2 := split_weight x (Str.ofString "/") (by decide)
  show _ ≤ _
  walk_at "om"
theorem weighs_take {xs : List (Str × Tok)} (h : Weighs (xs.map (·.1)) 1000000) (i : Nat) : Weighs ((xs.take i).map (·.1)) 2000000 := by
  have h1 := sum_take_le (xs.map (·.1)) i
  rw [← List.map_take] at h1
  have h2 : ((xs.map (·.1)).map (·.length)).sum + (xs.map (·.1)).length ≤ 1000000 + 1 := h
  show _ ≤ _
  walk_at "om"
theorem words_C1_2 : True := by
  (k_with "m subscriptTail Name Name ref int" => (k_here; refine' item_strsT ?zz_l ?zz_a ?zz_b ?zz_c ?_ ?zz_s; (case zz_l => walk_at "my_list"); (case zz_a => walk_at "om"); (case zz_b => walk_at "om"); (case zz_c => walk_at "om"); (case zz_s => with_unfolding_all rfl); intro zz_yq zz_tq zz_hyq))
  (k_with "m subscriptTail Name Slice ref ref" => (k_here; refine' sliceT ?zz_F ?zz_N ?zz_l ?zz_a ?zz_b ?_ ?zz_s ?zz_t; (case zz_F => k_asm); (case zz_N => k_asm); (case zz_l => walk_at "my_list"); (case zz_a => walk_at "om"); (case zz_b => walk_at "om"); (case zz_s => with_unfolding_all rfl); (case zz_t => intro _; with_unfolding_all rfl); intro zz_hq zz_Dq zz_Fq zz_Nq; (try k_sweep)))
  (k_with "m call builtin:str.join" => (k_here; (show wpAny _ _ (call (Value.builtin "str.join") [Value.str _ _, Value.ref _]) _ _ _); refine' joinL ?zz_l ?zz_t ?zz_w ?zz_s ?_; (case zz_l => walk_at "my_list"); (case zz_t => exact rfl); (case zz_w => first | assumption | (rename (∀ i, Weighs _ _) => q'; exact q' _)); (case zz_s => decide); intro zz_tq zz_kq zz_hjq))
  (k_with "m my_list" => (exact News.isList (by k_asm) (by k_mem)))
  (k_with "m my_list" => (exact ⟨_, News.get (by k_asm) (by k_mem), by assumption, _, by assumption⟩))
  (k_with "m call type:enumerate" => (k_here; (with_reducible show wpAny _ _ (call (Value.type "enumerate") [Value.ref _]) _ _ _); refine' call_enumE ?zz_F ?zz_N ?zz_l ?_; (case zz_F => k_asm); (case zz_N => k_asm); (case zz_l => walk_at "my_list"); intro zz_hq zz_eq zz_itq zz_Fq zz_Nq zz_EAq; (try k_sweep)))
  (k_with "m pyIter ref" => (k_here; (with_reducible show wpAny _ _ _ (fun it s₂ => PairAt3 _ _ _ _ _ _ _ _ _ _ it s₂) _ _); refine Stop.mk ?_))
  (k_with "m call type:map" => (k_here; (with_reducible show wpAny _ _ (call (Value.type "map") [_, Value.ref _]) _ _ _); refine' call_map ?zz_l ?_; (case zz_l => is_list); intro zz_hq zz_g1 zz_g2 zz_g3 zz_gs zz_hsq; have zz_Mq := MapIs.mk zz_g1 zz_g2 zz_g3 rfl zz_gs zz_hsq; clear zz_g1 zz_g2 zz_g3 zz_gs zz_hsq; (try dsimp only at zz_Mq)))
  (k_with "m call type:tuple" => (k_here; (with_reducible show wpAny _ _ (call (Value.type "tuple") [Value.ref _]) _ _ _); refine' tuple_map ?zz_M (stays_list (Fr.keep ?zz_F) ?zz_hl) (bel ?zz_B ?zz_F ?zz_hA ?zz_hf ?zz_hk) (keepX ?zz_X ?zz_F) (Top.keeps ?zz_T (Fr.keep ?zz_F)) ?zz_d ?zz_u ?zz_h ?zz_z ?_; (case zz_M => assumption); (case zz_hl => assumption); walk_at "my_call"; (case zz_z => walk_at "om"); intro zz_Dq zz_hq zz_tkq zz_hsq zz_hDq zz_hoq; have zz_Fq := frS (by k_asm) zz_hsq; have zz_Nq := newsAdd (by k_asm) (by k_asm) zz_hsq zz_hDq zz_hoq; have zz_l1 := newsNe (by k_asm) zz_hDq; simp only [AllNe, and_true] at zz_l1; clear zz_hsq zz_hDq zz_hoq; (rename MapIs _ _ _ _ => MM'); clear MM'; (try k_sweep); (try dsimp only)))
  (k_with "m truthy ref" => (k_here; refine' tup_true ?zz_N ?zz_m ?zz_z ?_; (case zz_N => k_asm); (case zz_m => k_mem); (case zz_z => assumption); intro zz_tkq))
  (k_with "m subscriptTail Name Constant ref int" => (k_here; refine' tup_first ?zz_N ?zz_m ?_ ?zz_s ?zz_g; (case zz_N => k_asm); (case zz_m => k_mem); (case zz_s => with_unfolding_all rfl); (case zz_g => intro _; with_unfolding_all rfl)))
  (k_with "m exec Assign cons ListComp" => (k_here; refine Stop.mk ?_))
  (k_with "m eval ListComp" => (k_here; (with_reducible show wpAny _ _ (eval (PySem.Expr.ListComp _ _ _ _) (compEnvC _ _ _ _)) _ _ _); refine Stop.mk ?_))
  (k_with "m call builtin:min" => (k_here; refine Stop.mk ?_))
  (k_with "m call builtin:max" => (k_here; refine Stop.mk ?_))
  (k_with "m eval SetComp" => (k_here; refine Stop.mk ?_))
  (k_with "m eval Name" => (k_here; (with_reducible show wpAny _ _ (eval (PySem.Expr.Name _ _) (compEnvC _ _ _ _)) _ _ _); with_unfolding_all first | (refine' nmL ?zz_n ?zz_v ?_ ?zz_a ?zz_b ?zz_c; (case zz_b => exact rfl); (case zz_n => assumption); (case zz_v => assumption); (case zz_a => exact rfl); (case zz_c => decide)) | (refine' nmC ?zz_e ?zz_o ?zz_d ?_ ?zz_a ?zz_b ?zz_c; (case zz_b => exact rfl); (case zz_e => exact rfl); (case zz_o => assumption); (case zz_d => assumption); (case zz_a => exact rfl); (case zz_c => decide))))
  (k_with "m call builtin:str.split" => (k_here; (show wpAny _ _ (call (Value.builtin "str.split") [Value.str _ _, Value.str _ _]) _ _ _); refine' split_new ?zz_y ?zz_x ?_; (case zz_y => decide); (case zz_x => (rw [sizeLine_eq]; walk_at "om")); intro zz_lq zz_hq zz_kq zz_eq zz_gq zz_sq))
  trivial
theorem commonpath {A : Around} {base : Heap} {outer : List Env} {s : Shared} {R : Result → Shared → Prop} {l1 : Addr} {p0 : Str × Tok} {pr : List (Str × Tok)}
  (B : Below A base outer s.heap) (X : (hd.heap_39 w.params).In s.heap) (T : Top hd.view_39 loose mean mg mb s.heap) (hdp : A.depth + 30 < recursionLimit) (hun : A.units + 300 < cLine) (hh : A.handled = none)
  (hl : s.heap.IsList l1 (strValues (p0 :: pr)).toArray) (hps : (p0 :: pr).length ≤ 100) (hpl : ∀ p ∈ p0 :: pr, p.1.length ≤ 1000) (hsw : ∀ p ∈ p0 :: pr, Txt.startswith p.1 (Str.ofString "/") = true)
  (ret : ∀ h' tk t' a b, a ∈ (p0 :: pr).map (fun p => (Txt.split p.1 (Str.ofString "/")).filter keepS) → (∀ r ∈ (p0 :: pr).map (fun p => (Txt.split p.1 (Str.ofString "/")).filter keepS), ltL r a = false) → (∀ r ∈ (p0 :: pr).map (fun p => (Txt.split p.1 (Str.ofString "/")).filter keepS), ltL b r = false) → b ∈ (p0 :: pr).map (fun p => (Txt.split p.1 (Str.ofString "/")).filter keepS) →
    s.heap.StaysIn h' → R (.ok (.ret (.str (Str.ofString "/" ++ Txt.join (Str.ofString "/") (a.take (same a b))) t'))) { s with heap := h', toks := tk }) :
  codeAny (model Pg w) A (.call (.ref 141) ⟨[.ref l1], []⟩) R s := by
  obtain ⟨ah, ad, af, ag, au⟩ := A
  obtain rfl : ah = none := hh
  obtain rfl : af = some outer := B.stack
  w_on
  walk_at "my_fill"
  refine enterC (binds := [(Str.ofString "paths", .ref l1)]) B X T (by k_is) (by k_is) (by dsimp only at *; walk_at "om") (BindsTo.of_eq rfl) rfl (by decide +kernel) ?_ rfl rfl rfl
  intro g L h₁ tk cells eg F N Y B' X' T'
  rw [← eg] at ret hl
  clear B X T eg
  k_cells Y
  with_reducible show wpAny _ _ _ _ _ _
  k_fold
  k_steps
  refine Stop.out ?_
  rename Fr _ _ _ _ => F9
  rename News _ _ _ _ => N9
  refine' asgOT (vs := strValues (p0 :: pr)) (fun v its => ∃ x t l, v = .str x t ∧ its = (strValues l).toArray ∧ l.map (·.1) = Txt.split x (Str.ofString "/")) rfl ?c0 ?c1 ?c2 ?c3 ?c4 ?c5 ?c6 ?c7 ?it ⟨_, N9.get (List.Mem.head _), rfl, _, rfl⟩ ?sz F9 ?el ?dn ?fs
  case c0 => rfl
  case c1 => rfl
  case c2 => decide
  case c3 => rfl
  case c4 => decide
  case c5 => rfl
  case c6 => rfl
  case c7 => rfl
  case fs => intro _; rfl
  case it =>
    with_reducible show wpAny _ _ _ _ _ _
    k_steps
  case sz => simp only [strValues, List.length_map]; rw [sizeLine_eq]; walk_at "om"
  case el =>
    intro C v s₃ m₃ E' hv hn hm hs
    obtain ⟨p, hp, rfl⟩ := List.mem_map.mp hv
    have hpl1 := hpl p hp
    have g1 := hs _ _ (N9.get (List.Mem.tail _ (List.Mem.head _)))
    have g2 := hs _ _ (N9.get (List.Mem.tail _ (List.Mem.tail _ (List.Mem.head _))))
    clear F9 N9 hv
    with_reducible show wpAny _ _ _ _ _ _
    k_steps
    · exact Heap.get?_none_of_le (Nat.le_refl _)
    · exact ⟨_, by assumption, rfl, _, rfl⟩
    · exact ⟨_, _, rfl, by assumption⟩
  case dn =>
    intro D h' tk ys n hD ho hP hnd hne F' hk
    obtain ⟨inner, rfl, hin, hpair⟩ := inner_of hP
    replace hpair : Paired (LstE SplitE) (strValues (p0 :: pr)) inner := hpair
    have N0 := newsMany (inner := (D, _) :: inner) F9 N9 hk (by
      intro p hp
      rcases List.mem_cons.mp hp with rfl | hp
      · exact ⟨ho, hD⟩
      · exact hin p hp)
    clear F9 N9 hk ho hP hin
    have N' := newsRot N0
    dsimp only [List.cons_append, List.nil_append] at N'
    clear N0
    (try dsimp only)
    k_steps
    refine Stop.out ?_
    rename Fr _ _ _ _ => F9
    rename News _ _ _ _ => N9
    refine' setComp (vs := strValues (p0 :: pr)) rfl ?s0 ?s1 ?s2 ?s3 ?s4 ?s5 ?sit ⟨_, N9.get (List.Mem.tail _ (List.Mem.head _)), rfl, _, rfl⟩ ?sel ?sdn ?sfs
    case s0 => simp [strValues]
    case s1 => rfl
    case s2 => decide
    case s3 => rfl
    case s4 => decide
    case s5 => rfl
    case sfs => intro _; rfl
    case sit =>
      with_reducible show wpAny _ _ _ _ _ _
      k_steps
    case sel =>
      intro C v s₃ m₃ E' hv hn hm hs
      obtain ⟨p, hp, rfl⟩ := List.mem_map.mp hv
      have hpl1 := hsw p hp
      have g1 := hs _ _ (N9.get (List.Mem.tail _ (List.Mem.tail _ (List.Mem.head _))))
      have g2 := hs _ _ (N9.get (List.Mem.tail _ (List.Mem.tail _ (List.Mem.tail _ (List.Mem.head _)))))
      clear F9 N9 hv
      with_reducible show wpAny _ _ _ _ _ _
      k_steps
      · exact congrArg Value.bool hpl1
      · exact ⟨_, _, rfl, fun _ _ e => e⟩
    case sdn =>
      intro D2 h2 tk2 hD2 ho2 hs2
      have F0 := frS F9 hs2
      have N0 := newsS N9 hs2
      clear F9 N9
      refine' assign_set1 rfl ho2 F0 ?a1 ?a2 ?adn
      case a1 => rfl
      case a2 => rfl
      case adn =>
        intro h3 tk3 F' hk3
        have N' := newsK N0 hk3
        clear F0 N0 hs2 hk3 ho2 hD2
        (try dsimp only)
        refine id ?_
        with_reducible show wpAny _ _ _ _ _ _
        k_fold
        k_steps
        refine Stop.out ?_
        rename Fr _ _ _ _ => F9
        rename News _ _ _ _ => N9
        have huniq : ∀ p ∈ inner, ∀ q ∈ inner, p.1 = q.1 → p.2 = q.2 := fun p hp q hq e => by
          have h1 := N9.get (show (p.1, p.2) ∈ _ from List.Mem.tail _ (List.Mem.tail _ (List.Mem.tail _ (List.Mem.tail _ hp))))
          have h2 := N9.get (show (q.1, q.2) ∈ _ from List.Mem.tail _ (List.Mem.tail _ (List.Mem.tail _ (List.Mem.tail _ hq))))
          rw [e, h2] at h1
          exact (Option.some.inj h1).symm
        have hinl : inner.length ≤ 100 := by rw [← hpair.length]; simpa [strValues] using hps
        refine' asgOL (vs := inner.map fun p => Value.ref p.1) (KeptE inner) rfl ?d0 ?d1 ?d2 ?d3 ?d4 ?d5 ?d6 ?d7 ?dit ⟨_, N9.get (List.Mem.head _), rfl, _, rfl⟩ ?dsz F9 ?del ?ddn ?dfs
        case d0 => rfl
        case d1 => rfl
        case d2 => decide
        case d3 => rfl
        case d4 => decide
        case d5 => rfl
        case d6 => rfl
        case d7 => rfl
        case dfs => intro _; rfl
        case dsz => rw [List.length_map, sizeLine_eq]; walk_at "om"
        case dit =>
          with_reducible show wpAny _ _ _ _ _ _
          k_steps
        case del =>
          intro C v s₃ m₃ E' hv hn hm hs
          obtain ⟨p, hp, rfl⟩ := List.mem_map.mp hv
          obtain ⟨v0, hv0, its, n0, hcls, hdat, x, t, l, rfl, rfl, hl2⟩ := pairR hpair p hp
          obtain ⟨px, hpx, ex⟩ := List.mem_map.mp hv0
          injection ex with ex _
          have hxl := hpl px hpx
          rw [ex] at hxl
          clear ex hv0 hpx
          have g0 := hs _ _ (N9.get (show (p.1, p.2) ∈ _ from List.Mem.tail _ (List.Mem.tail _ (List.Mem.tail _ (List.Mem.tail _ hp)))))
          have g1 := hs _ _ (N9.get (List.Mem.tail _ (List.Mem.tail _ (List.Mem.head _))))
          have g2 := hs _ _ (N9.get (List.Mem.tail _ (List.Mem.tail _ (List.Mem.tail _ (List.Mem.head _)))))
          clear F9 N9 hv
          refine' compF (l := p.1) (vs := strValues l) keepV (fun v y => y = v) rfl ?f0 ?f1 ?f2 ?f3 ?f4 ?fit ⟨_, g0, hcls, _, hdat⟩ ?fsz ?ftst ?fel ?fdn ?ffs
          case f0 => rfl
          case f1 => decide
          case f2 => rfl
          case f3 => decide
          case f4 => rfl
          case ffs => intro _; rfl
          case fsz =>
            have h1 := split_weight x (Str.ofString "/") (by decide)
            have h2 : (strValues l).length = (Txt.split x (Str.ofString "/")).length := by rw [← hl2]; simp [strValues]
            rw [h2, sizeLine_eq]; walk_at "om"
          case fit =>
            with_reducible show wpAny _ _ _ _ _ _
            k_steps
          case ftst =>
            intro C2 v2 s4 m4 E4 hv2 hn2 hm2 hs2
            obtain ⟨⟨c, tc⟩, hc, rfl⟩ := List.mem_map.mp hv2
            have g1' := hs2 _ _ g1
            dsimp only at hm2 hv2 ⊢
            rw [keepV_str]
            have hcl : c.length ≤ 1000 := Nat.le_trans (part_short (y := Str.ofString "/") (by rw [← hl2]; exact List.mem_map.mpr ⟨_, hc, rfl⟩)) hxl
            clear hv2
            with_reducible show wpAny _ _ _ _ _ _
            k_steps
            · exact keepS_yes (by assumption) (by assumption)
            · exact ⟨_, _, rfl, fun _ _ e => e⟩
            · exact keepS_dot (by assumption)
            · exact ⟨_, _, rfl, fun _ _ e => e⟩
            · exact keepS_nil (by assumption)
            · exact ⟨_, _, rfl, fun _ _ e => e⟩
          case fel =>
            intro C2 v2 s4 m4 E4 hv2 hn2 hm2 hs2
            with_reducible show wpAny _ _ _ _ _ _
            k_steps
            exact ⟨_, _, rfl, fun _ _ e => e⟩
          case fdn =>
            intro D4 h4 tk4 ys n4 hD4 ho4 hP4 hs4
            have e4 := paired_same hP4
            rw [filter_strs] at e4
            subst e4
            exact ⟨⟨D4, _, rfl, hD4, ⟨_, ho4, rfl, _, rfl⟩, p, l, n0, hp, rfl, hdat, rfl⟩, ⟨_, _, rfl, hs4⟩⟩
        case ddn =>
          intro D3 h4 tk4 ys n3 hD3 ho3 hP3 hnd3 hne3 F' hk3
          obtain ⟨inner2, rfl, hin2, hpair2⟩ := inner_of hP3
          have hrows := rows_comb huniq (fun p hp => hp) hpair hpair2
          have N0 := newsMany (inner := (D3, _) :: inner2) F9 N9 hk3 (by
            intro p hp
            rcases List.mem_cons.mp hp with rfl | hp
            · exact ⟨ho3, hD3⟩
            · exact hin2 p hp)
          clear F9 N9 hk3 ho3 hP3 hin2 hpair hpair2 huniq
          have N' := newsDrop N0
          clear N0
          (try dsimp only)
          refine id ?_
          with_reducible show wpAny _ _ _ _ _ _
          k_fold
          k_steps
          refine Stop.out ?_
          rename Fr _ _ _ _ => F9
          rename News _ _ _ _ => N9
          have hne2 : inner2 ≠ [] := by
            rintro rfl
            cases hrows
          have hre := rows_eq hrows
          have htx : ∀ p ∈ inner2, TxtObj p.2 := fun p hp => by
            obtain ⟨_, _, h⟩ := pairR hrows p hp
            exact h.txt
          have hmemr : ∀ p ∈ inner2, textsOf p.2 ∈ (p0 :: pr).map (fun p => (Txt.split p.1 (Str.ofString "/")).filter keepS) := fun p hp => by
            rw [← hre]; exact List.mem_map.mpr ⟨p, hp, rfl⟩
          have hall : ∀ (P : List Str → Prop), (∀ p ∈ inner2, P (textsOf p.2)) → ∀ r ∈ (p0 :: pr).map (fun p => (Txt.split p.1 (Str.ofString "/")).filter keepS), P r := fun P h r hr => by
            rw [← hre] at hr
            obtain ⟨p, hp, rfl⟩ := List.mem_map.mp hr
            exact h p hp
          refine min_txt (inner := inner2) rfl (by walk_at "my_deep") ⟨_, N9.get (List.Mem.head _), rfl, _, rfl⟩ hne2 (fun p hp => ⟨N9.get (show (p.1, p.2) ∈ _ from List.Mem.tail _ (List.Mem.tail _ (List.Mem.tail _ (List.Mem.tail _ hp)))), htx p hp⟩) fun h5 tk5 pm hpm hmin hs5 => ?_
          have F' := frS F9 hs5
          have N' := newsS N9 hs5
          clear F9 N9 hs5
          (try dsimp only)
          refine id ?_
          with_reducible show wpAny _ _ _ _ _ _
          k_fold
          k_steps
          refine Stop.out ?_
          rename Fr _ _ _ _ => F9
          rename News _ _ _ _ => N9
          refine max_txt (inner := inner2) rfl (by walk_at "my_deep") ⟨_, N9.get (List.Mem.head _), rfl, _, rfl⟩ hne2 (fun p hp => ⟨N9.get (show (p.1, p.2) ∈ _ from List.Mem.tail _ (List.Mem.tail _ (List.Mem.tail _ (List.Mem.tail _ hp)))), htx p hp⟩) fun h6 tk6 px hpx hmax hs6 => ?_
          have F' := frS F9 hs6
          have N0 := newsS N9 hs6
          have N' := newsPick (a := (pm.1, pm.2)) (b := (px.1, px.2)) N0 hpm hpx
          clear F9 N9 N0 hs6
          have ret' := fun h' tk t' hs => ret h' tk t' _ _ (hmemr pm hpm) (hall (fun r => ltL r (textsOf pm.2) = false) hmin) (hall (fun r => ltL (textsOf px.2) r = false) hmax) (hmemr px hpx) hs
          have hsh := same_short (hmax pm hpm)
          obtain ⟨hc1, xs1, n1, hd1⟩ := htx pm hpm
          obtain ⟨hc2, xs2, n2, hd2⟩ := htx px hpx
          have e1 : textsOf pm.2 = xs1.map (·.1) := by simp only [textsOf, hd1]; exact texts_strs xs1
          have e2 : textsOf px.2 = xs2.map (·.1) := by simp only [textsOf, hd2]; exact texts_strs xs2
          rw [e1, e2] at hsh
          simp only [e1, e2] at ret'
          have hw : Weighs (xs1.map (·.1)) 1000000 := by
            have := hmemr pm hpm
            rw [e1] at this
            obtain ⟨p, hp, e⟩ := List.mem_map.mp this
            rw [← e]
            exact weighs_split (hpl p hp)
          have hlen1 : (xs1.map (·.1)).length ≤ 2000 := by
            have := hmemr pm hpm
            rw [e1] at this
            obtain ⟨p, hp, e⟩ := List.mem_map.mp this
            rw [← e]
            have h1 := split_weight p.1 (Str.ofString "/") (by decide)
            have h2 := List.length_filter_le keepS (Txt.split p.1 (Str.ofString "/"))
            have h3 := hpl p hp
            walk_at "om"
          clear hmin hmax hall hmemr htx hre hrows hne2 ret hpm hpx e1 e2 hnd3 hne3 hnd hne hpl hsw
          (try dsimp only)
          refine id ?_
          with_reducible show wpAny _ _ _ _ _ _
          k_fold
          k_steps
          refine Stop.out ?_
          rename Fr _ _ _ _ => F9
          rename News _ _ _ _ => N9
          rename EnumAt _ _ _ _ _ _ _ => EA
          have hl1 : xs1.length ≤ 2000 := by have := hlen1; rwa [List.length_map] at this
          have hw2 : ∀ i, Weighs ((xs1.take i).map (·.1)) 2000000 := fun i => weighs_take hw i
          have hw3 : Weighs (xs1.map (·.1)) 2000000 := by have := hw2 xs1.length; rwa [List.take_length] at this
          clear hw
          refine' iterE (vs := strValues xs1) (fun i => i ≤ same (xs1.map (·.1)) (xs2.map (·.1))) rfl EA.he EA.hit ⟨_, N9.get (List.Mem.head _), hc1, _, hd1⟩ EA.hei (N9 _ (List.Mem.head _)).2.1 EA.he0 EA.hi0 EA.heL EA.hiL EA.hne EA.hni F9 N9 (Nat.zero_le _) ?turn ?done
          case turn =>
            clear F9 N9 EA
            intro i v t h tk own hv hi F9 N9
            obtain ⟨c, tc, rfl, hc⟩ := str_at rfl hv
            clear hv
            have hi1 : i < xs1.length := by
              have := (List.getElem?_eq_some_iff.mp hc).1
              simpa using this
            have hi2 : i < xs2.length := by
              have h2 := same_le2 (xs1.map (·.1)) (xs2.map (·.1))
              rw [List.length_map] at h2
              rcases Nat.lt_or_ge (same (xs1.map (·.1)) (xs2.map (·.1))) (xs1.map (·.1)).length with h3 | h3
              · have := hsh h3
                rw [List.length_map] at this
                walk_at "om"
              · rw [List.length_map] at h3
                have h4 := same_le1 (xs1.map (·.1)) (xs2.map (·.1))
                rw [List.length_map] at h4
                walk_at "om"
            dsimp only [List.cons_append, List.nil_append] at N9
            with_reducible show wpAny _ _ _ _ _ _
            k_fold
            k_steps
            · rename (c != _) = true => hcc
              rename _ = some _ => hy
              (try dsimp only)
              (try k_unfold)
              dsimp only [EPost]
              k_steps
              dsimp only
              (try k_unfold)
              (try dsimp only)
              have ei : i = same (xs1.map (·.1)) (xs2.map (·.1)) := by
                rcases Nat.lt_or_ge i (same (xs1.map (·.1)) (xs2.map (·.1))) with h3 | h3
                · exact absurd ((same_lt _ _ i _ _ hi hc (by simpa using hy)).mpr h3) (bne_iff_ne.mp hcc)
                · walk_at "om"
              have ret2 := fun h' tk t' hs => ret' h' tk t' hs
              rw [← ei, ← List.map_take] at ret2
              exact ret2 _ _ _ (Fr.keep (by assumption))
            · rename (c != _) = false => hcc
              rename _ = some _ => hy
              dsimp only [EPost]
              refine ⟨_, _, _, rfl, by assumption, ?_, by assumption, ?_⟩
              · intro z h1 h2
                simp only [if_neg h1, if_neg h2]
              · exact (same_lt _ _ i _ _ hi hc (by simpa using hy)).mp (bne_eq_false_iff_eq.mp hcc)
          case done =>
            clear F9 N9 EA
            intro u1 u2 h tk hi F9 N9
            dsimp only
            k_steps
            dsimp only
            (try k_unfold)
            (try dsimp only)
            have ei : (xs1.map (·.1)).take (same (xs1.map (·.1)) (xs2.map (·.1))) = xs1.map (·.1) := by
              refine List.take_of_length_le ?_
              rw [List.length_map]
              simpa [strValues] using hi
            have ret2 := fun h' tk t' hs => ret' h' tk t' hs
            rw [ei] at ret2
            exact ret2 _ _ _ (Fr.keep (by assumption))
end
section
theorem words_Gen19_0 : True := by
  k_with_none
  (k_with "m ne" => ((refine neN ?_); (try dsimp only); walk_at "om"))
  (k_with "m om" => (first | with_reducible assumption | exact Nat.le_trans (by with_reducible assumption) (by decide) | exact om4 (by with_reducible assumption) (by decide) | exact om2 (by with_reducible assumption) (by decide) | exact om1 (by with_reducible assumption) (by decide) | exact om0 (by with_reducible assumption) | exact om22 (by with_reducible assumption) (by decide) | exact om18 (by decide) | exact om3 (by with_reducible assumption) (by decide) | exact om10 (by with_reducible assumption) (by with_reducible assumption) (by decide) | exact Ne.symm (by with_reducible assumption) | exact Nat.ne_of_lt (by with_reducible assumption) | exact Nat.ne_of_gt (by with_reducible assumption) | exact om12 (by with_reducible assumption) | exact om14 (by decide) | exact om15 (by decide) | exact om16 (by with_reducible assumption) | exact om17 _ | exact om27 _ _ | exact om28 (by with_reducible assumption) | exact om25 (by with_reducible assumption) | exact om26 (by with_reducible assumption) | exact Nat.succ_le_of_lt (by with_reducible assumption) | exact Nat.lt_of_succ_le (by with_reducible assumption) | exact Nat.sub_succ_lt_self (by with_reducible assumption) | exact Nat.le_antisymm (by with_reducible assumption) (by with_reducible assumption) | exact Nat.le_of_lt (by with_reducible assumption) | exact om11 (by with_reducible assumption) | exact om7 (by with_reducible assumption) (by with_reducible assumption) | exact om8 (by with_reducible assumption) (by with_reducible assumption) | exact om9 (by with_reducible assumption) (by with_reducible assumption) | exact om19 (by with_reducible assumption) (by decide) | exact om20 (by with_reducible assumption) (by decide) | exact om21 (by with_reducible assumption) (by decide) | exact om23 (by with_reducible assumption) | exact om24 (by with_reducible assumption) | exact And.right (by with_reducible assumption) | exact And.left (by with_reducible assumption) | lia | omega))
  trivial
section
variable {prog : Program} {w : World} {A : Around} {R : Result → Shared → Prop} {s : Shared}
theorem compTurn_lst1 (elt target iter : Expr) (scope : Scope) (pos : Pos) (it acc : Value) (env : Env) :
    compTurn (.ListComp elt [⟨target, iter, [], 0⟩] scope pos) 0 it acc env = (standAt iter.pos >>= fun _ => pyNext it >>= fun r => match r with
      | none => pure (.done .next)
      | some v => letOwnedTupleGo target it v >>= fun _ => assign target env v >>= fun _ =>
        (eval elt env >>= fun x => call (.builtin "list.append") [acc, x] >>= fun _ => pure ()) >>= fun _ =>
          again (.compLoop (.ListComp elt [⟨target, iter, [], 0⟩] scope pos) 0 it acc env)) := by rfl
theorem loop_lst {elt target iter : Expr} {scope : Scope} {pos : Pos} {it acc : Value} {env : Env} (I : Nat → Shared → Prop)
    (turn : ∀ n s, I n s → wpAny (model prog w) A (pyNext it) (fun r s₁ => match r with
      | none => R (.ok .next) s₁
      | some v => wpAny (model prog w) A (assign target env v) (fun _ s₂ => wpAny (model prog w) A (eval elt env) (fun x s₃ =>
          wpAny (model prog w) A (call (.builtin "list.append") [acc, x]) (fun _ s₄ => ∃ m, m < n ∧ I m s₄) (notedBy (model prog w) A env fun e s' => R (.error e) s') s₃)
          (notedBy (model prog w) A env fun e s' => R (.error e) s') s₂) (notedBy (model prog w) A env fun e s' => R (.error e) s') s₁) (notedBy (model prog w) A env fun e s' => R (.error e) s') s)
    (n : Nat) (h : I n s) (ht : ∀ v, letOwnedTupleGo target it v = pure ()) :
    codeAny (model prog w) A (.compLoop (.ListComp elt [⟨target, iter, [], 0⟩] scope pos) 0 it acc env) R s := by
  refine codeAny_loop rfl I (fun n s hI => ?_) n h
  show wpAny _ _ ((compTurn (.ListComp elt [⟨target, iter, [], 0⟩] scope pos) 0 it acc env).onRaise (fun x => do noteFrame x env; theTreesLotGoes x)) _ _ s
  refine wpAny_noted ?_
  rw [compTurn_lst1]
  refine wpAny_bind (wpAny_standAt (wpAny_bind (wpAny_mono (turn n s hI) (fun r s₁ h₁ => ?_) fun _ _ h' => h')))
  cases r with
  | none => exact wpAny_pure h₁
  | some v =>
    refine wpAny_bind (wpAny_of_eq (ht v) (wpAny_bind (wpAny_mono h₁ (fun _ s₂ h₂ => ?_) fun _ _ h' => h')))
    refine wpAny_bind (wpAny_bind (wpAny_mono h₂ (fun x s₃ h₃ => ?_) fun _ _ h' => h'))
    exact wpAny_bind (wpAny_mono h₃ (fun _ s₄ h₄ => wpAny_pure (wpAny_pure ⟨rfl, h₄⟩)) fun _ _ h' => h')
end
section
variable {M : Model} {A : Around} {E : Value → Shared → Prop} {s : Shared}
theorem newEnv_cell {scope : Scope} {globals : Addr} {x r : Str} {qual : Str} {outer : Env} {Q : Env → Shared → Prop} (hn : scope.names = [(Str.ofString ".0", .local), (x, .cell), (r, .globalImplicit)])
    (h : Q { scope, locals := s.heap.objs.size, globals, cells := [(x, s.heap.objs.size + 1)], qual, func := none, code := outer.code, frame := outer.frame, builtins := outer.builtins }
      { s with heap := (s.heap.push { cls := .type "dict", data := .dict #[] }).push { cls := .type "cell", data := .cell none } }) :
    wpAny M A (newFunctionEnv scope globals [] [] qual none .none (some outer)) Q E s := by
  simp only [newFunctionEnv, Option.isSome_some, if_true, hn]
  refine wpAny_bind (wpAny_alloc ?_)
  rw [List.forIn_cons]
  refine wpAny_bind ?_
  refine wpAny_bind (m := pure _) (wpAny_pure ?_)
  dsimp only
  rw [List.forIn_cons]
  refine wpAny_bind ?_
  rw [if_pos (show (NameKind.cell == NameKind.cell) = true from by decide)]
  refine wpAny_bind (wpAny_alloc (wpAny_pure ?_))
  dsimp only
  rw [List.forIn_cons]
  refine wpAny_bind ?_
  refine wpAny_pure ?_
  dsimp only
  rw [List.forIn_nil]
  refine wpAny_pure ?_
  refine wpAny_bind (m := forIn ([] : List (Str × Value)) _ _) (wpAny_pure ?_)
  rw [show (s.heap.push { cls := Value.type "dict", data := Data.dict #[] }).objs.size = s.heap.objs.size + 1 from Heap.size_push ..]
  exact wpAny_pure h
end
section
variable {prog : Program} {w : World} {A : Around} {E : Value → Shared → Prop} {env : Env} {s : Shared}
def LstOk (h₁ : Heap) (off : List Addr) (G : Value → Array Value → Prop) (h : Heap) (v y : Value) : Prop := ∃ T its, y = .ref T ∧ h₁.get? T = none ∧ T ∉ off ∧ h.IsList T its ∧ G v its
structure RowsAt (h₀ h : Heap) (l I D C K : Addr) (G : Value → Array Value → Prop) (vs : List Value) (i : Nat) : Prop where
  st : h₀.StaysIn h
  it : h.IsListIter I l i
  ac : ∃ ys, h.PlainList D ys ∧ Paired (LstOk h₀ [I, D, C, K] G h) (vs.take i) ys.toList
  ns : ∃ m, h.Ns C m
  ce : ∃ v, h.IsCell K v
structure SrcAt (s : Shared) (P : Heap → Prop) (Src : List Value → Prop) (xv : Value) (s₁ : Shared) : Prop where
  ex : ∃ l vs h₁ tk₁, xv = .ref l ∧ s₁ = { s with heap := h₁, toks := tk₁ } ∧ P h₁ ∧ h₁.IsList l vs.toArray ∧ Src vs ∧ vs.length ≤ sizeLine
/-- a name that gets a comprehension's list of new lists, where the comprehension's name is a cell -/
theorem asgCell {elt iter : Expr} {x y r : Str} {px py : Pos} {scope : Scope} {pos spos : Pos} {Q : Flow → Shared → Prop} {m : Str → Option Value} {h₀ : Heap} (G : Value → Array Value → Prop) (Src : List Value → Prop) (P : Heap → Prop) (hh : A.handled = none)
    (hsw : swapsWith (.ListComp elt [⟨.Name x px, iter, [], 0⟩] scope pos) (some (.Name y py)) spos.line env = pure true)
    (hclos : closureFor scope env = pure []) (hkind : scope.kind = .function) (hn : scope.names = [(Str.ofString ".0", .local), (x, .cell), (r, .globalImplicit)])
    (hx : (relabel scope env).names.lookup x = some .cell)
    (hy : env.kindOf y = some .local) (hp : (env.scope.kind == .class || (env.scope.kind == .module && env.locals != env.globals)) = false)
    (hiter : wpAny (model prog w) A (eval iter env) (SrcAt s P Src) E s) (F' : ∀ h₁, P h₁ → Fr h₀ env.locals h₁ m)
    (helt : ∀ g₁ vs C K v s₃ E', P g₁ → Src vs → v ∈ vs → s₃.heap.IsCell K (some v) → g₁.StaysIn s₃.heap →
      wpAny (model prog w) A (eval elt (compEnvC scope [(x, K)] C env)) (fun y s₄ => (∃ T its, y = .ref T ∧ s₃.heap.get? T = none ∧ s₄.heap.IsList T its ∧ G v its) ∧ Keeps s₃ s₄) E' s₃)
    (h : ∀ g₁ vs D h' tk ys n, P g₁ → Src vs → g₁.get? D = none → h'.get? D = some (W.listOf ys.toArray n) → Paired (LstIs g₁ G h') vs ys → Fr h₀ env.locals h' (fun z => if z = y then some (.ref D) else m z) →
      (∀ b o, b ≠ env.locals → g₁.get? b = some o → h'.get? b = some o) → Q .next { s with heap := h', toks := tk })
    (hs : ∀ x, foldedSetIterable iter env x = pure x) :
    wpAny (model prog w) A (exec (.Assign [.Name y py] (.ListComp elt [⟨.Name x px, iter, [], 0⟩] scope pos) spos) env) Q E s := by
  have hnames : ∀ z ∈ scope.names, z.2 = .local → scope.names.lookup z.1 = some .local := by
    intro z hz hl
    rw [hn] at hz ⊢
    simp only [List.mem_cons, List.not_mem_nil, or_false] at hz
    rcases hz with rfl | rfl | rfl
    · simp
    · cases hl
    · cases hl
  rw [exec_Assign_Name_used _ _ _ _ hsw]
  refine wpAny_bind (wpAny_standAt (wpAny_bind ?_))
  show wpAny _ A (do let _ ← comprehension (.ListComp elt [⟨.Name x px, iter, [], 0⟩] scope pos) scope env _ (newList []) false (eval iter env) (some (assign (.Name y py) env))) _ _ s
  refine wpAny_bind (wpAny_mono (wpAny_comprehension_free (use := some (assign (.Name y py) env)) (Q := fun _ s' => Q .next s') rfl hs hclos hkind hnames
    (wpAny_mono hiter (fun xv s₁ h₁ => ?_) fun _ _ e => e)) (fun _ s' hq => wpAny_pure (wpAny_pure hq)) fun _ _ e => e)
  obtain ⟨l, vs, g₁, tk₁, rfl, rfl, hP₁, hl, hsrc, hz⟩ := h₁.ex
  have hst₁ : g₁.StaysIn g₁ := fun _ _ e => e
  have F := F' g₁ hP₁
  have hlt : l < g₁.objs.size := by obtain ⟨o, ho, _⟩ := hl; exact Heap.lt_size ho
  refine wpAny_pyIter_list hl ?_
  refine wpAny_newObj_type (newEnv_cell hn ?_)
  dsimp only
  generalize hH1 : g₁.push { cls := .type "list_iterator", data := .fields #[.ref l, .int 0 0] } = H1
  generalize hH2 : H1.push { cls := .type "list", data := .seq ([] : List Value).toArray } = H2
  generalize hH3 : H2.push { cls := .type "dict", data := .dict #[] } = H3
  generalize hH4 : H3.push { cls := .type "cell", data := .cell none } = H4
  have z1 : H1.objs.size = g₁.objs.size + 1 := by rw [← hH1, Heap.size_push]
  have z2 : H2.objs.size = g₁.objs.size + 2 := by rw [← hH2, Heap.size_push, z1]
  have z3 : H3.objs.size = g₁.objs.size + 3 := by rw [← hH3, Heap.size_push, z2]
  have k1 : ∀ b o, g₁.get? b = some o → H1.get? b = some o := fun b o e => by rw [← hH1]; exact Heap.get?_push_of_some _ e
  have k2 : ∀ b o, H1.get? b = some o → H2.get? b = some o := fun b o e => by rw [← hH2]; exact Heap.get?_push_of_some _ e
  have k3 : ∀ b o, H2.get? b = some o → H3.get? b = some o := fun b o e => by rw [← hH3]; exact Heap.get?_push_of_some _ e
  have k4 : ∀ b o, H3.get? b = some o → H4.get? b = some o := fun b o e => by rw [← hH4]; exact Heap.get?_push_of_some _ e
  have oI : H1.get? g₁.objs.size = some { cls := .type "list_iterator", data := .fields #[.ref l, .int 0 0] } := by rw [← hH1]; exact Heap.get?_push_size _ rfl
  have oD : H2.get? H1.objs.size = some { cls := .type "list", data := .seq ([] : List Value).toArray } := by rw [← hH2]; exact Heap.get?_push_size _ rfl
  have oC : H4.Ns H2.objs.size (fun _ => none) := by
    have := Heap.Ns.new H2 (.type "dict")
    rw [hH3] at this
    exact this.keeps fun b o e => k4 b o e
  have eK : H2.objs.size + 1 = H3.objs.size := by rw [z2, z3]
  have oK : H4.get? H3.objs.size = some { cls := .type "cell", data := .cell none } := by rw [← hH4]; exact Heap.get?_push_size _ rfl
  rw [eK]
  have nDI : H1.objs.size ≠ g₁.objs.size := by rw [z1]; exact Nat.succ_ne_self _
  have nDC : H1.objs.size ≠ H2.objs.size := neN (by rw [z1, z2]; walk_at "om")
  have nDK : H1.objs.size ≠ H3.objs.size := neN (by rw [z1, z3]; walk_at "om")
  have nIC : g₁.objs.size ≠ H2.objs.size := neN (by rw [z2]; walk_at "om")
  have nIK : g₁.objs.size ≠ H3.objs.size := neN (by rw [z3]; walk_at "om")
  have nCK : H2.objs.size ≠ H3.objs.size := neN (by rw [z2, z3]; walk_at "om")
  have old : ∀ b o, g₁.get? b = some o → b ≠ g₁.objs.size ∧ b ≠ H1.objs.size ∧ b ≠ H2.objs.size ∧ b ≠ H3.objs.size := fun b o e => by
    have hb : @LT.lt Nat _ b g₁.objs.size := Heap.lt_size (hst₁ b o e)
    exact ⟨neN (by walk_at "om"), neN (by rw [z1]; walk_at "om"), neN (by rw [z2]; walk_at "om"), neN (by rw [z3]; walk_at "om")⟩
  have init : RowsAt g₁ H4 l g₁.objs.size H1.objs.size H2.objs.size H3.objs.size G vs 0 := {
    st := fun b o e => k4 b o (k3 b o (k2 b o (k1 b o (hst₁ b o e))))
    it := ⟨_, k4 _ _ (k3 _ _ (k2 _ _ oI)), rfl, rfl⟩
    ac := ⟨#[], ⟨_, k4 _ _ (k3 _ _ oD)⟩, .nil⟩
    ns := ⟨_, oC⟩
    ce := ⟨none, _, oK, rfl⟩ }
  have hl4 : H4.IsList l vs.toArray := hl.at fun o e => k4 _ o (k3 _ o (k2 _ o (k1 _ o e)))
  have nl : l ≠ g₁.objs.size ∧ l ≠ H1.objs.size ∧ l ≠ H2.objs.size ∧ l ≠ H3.objs.size := by
    have hb : @LT.lt Nat _ l g₁.objs.size := hlt
    exact ⟨neN (by walk_at "om"), neN (by rw [z1]; walk_at "om"), neN (by rw [z2]; walk_at "om"), neN (by rw [z3]; walk_at "om")⟩
  have W := Walks.list (prog := prog) (w := w) hh g₁.objs.size l nl.1 vs.toArray
  have hsz : vs.toArray.size = vs.length := by simp
  rw [hsz] at W
  have loop : codeAny (model prog w) A (.compLoop (.ListComp elt [⟨.Name x px, iter, [], 0⟩] scope pos) 0 (.ref g₁.objs.size) (.ref H1.objs.size) (compEnvC scope [(x, H3.objs.size)] H2.objs.size env))
      (compPost (model prog w) A E (some (assign (.Name y py) env)) (fun _ s' => Q .next s') (.ref H1.objs.size) H2.objs.size) { s with heap := H4, toks := tk₁ } := by
    refine loop_lst (fun n s' => ∃ i h' tk, n = vs.length - i ∧ i ≤ vs.length ∧ s' = { s with heap := h', toks := tk } ∧ h'.IsList l vs.toArray ∧ RowsAt g₁ h' l g₁.objs.size H1.objs.size H2.objs.size H3.objs.size G vs i) ?_ vs.length ⟨0, H4, _, rfl, Nat.zero_le _, rfl, hl4, init⟩ (fun _ => rfl)
    rintro n s' ⟨i, h', tk, rfl, hi, rfl, hl', Z⟩
    obtain ⟨m1, hm1⟩ := Z.ns
    obtain ⟨v1, hv1⟩ := Z.ce
    obtain ⟨ys, hys, hpr⟩ := Z.ac
    rcases Nat.lt_or_ge i vs.length with hlt | hge
    · refine W.item i _ _ _ hlt ⟨Z.it, hl'⟩ fun v h2 tk2 hP hst hk => ?_
      dsimp only
      have hv : vs[i]? = some v := by simpa using hP
      have kk : ∀ b o, b ≠ g₁.objs.size → h'.get? b = some o → h2.get? b = some o := fun b o hb e => hk b o (by simpa using hb) e
      obtain ⟨ok, hok1, hok2⟩ := hv1
      refine wpAny_assign_Name (wpAny_storeName_cell (by simp [compEnvC, relabel, hkind]) hx (by simp [compEnvC]) ⟨ok, kk _ _ (Ne.symm nIK) hok1, hok2⟩ fun h3 hc3 hs3 => ?_)
      have kk3 : ∀ b o, b ≠ g₁.objs.size → b ≠ H3.objs.size → h'.get? b = some o → h3.get? b = some o := fun b o hb hb2 e => hs3.extBut b o hb2 (kk b o hb e)
      have st3 : g₁.StaysIn h3 := fun b o e => kk3 b o (old b o e).1 (old b o e).2.2.2 (Z.st b o e)
      refine wpAny_mono (helt g₁ vs H2.objs.size H3.objs.size v _ _ hP₁ hsrc (List.mem_of_getElem? hv) hc3 st3) (fun y4 s4 h4 => ?_) fun _ _ e => e
      obtain ⟨⟨T, its, rfl, hT, hTl, hG⟩, h5, tk5, rfl, k5⟩ := h4
      dsimp only at hT hTl
      obtain ⟨c1, hacc⟩ := hys
      have hacc5 : h5.PlainList H1.objs.size ys := ⟨c1, k5 _ _ (kk3 _ _ nDI nDK hacc)⟩
      have hysz : ys.size ≤ sizeLine := by
        have := hpr.length
        rw [List.length_take] at this
        have e : ys.toList.length = ys.size := by simp
        walk_at "om"
      refine wpAny_list_append_plain (hsz := hysz) hacc5 fun h6 hl6 hs6 => ?_
      have hnT : ∀ a o, h3.get? a = some o → T ≠ a := fun a o e q => by rw [q, e] at hT; cases hT
      obtain ⟨oI3, eI3, rI3⟩ := hst.1
      obtain ⟨oC3, _, _, eC3, _⟩ := id hm1
      have gI := hs3.extBut _ _ nIK eI3
      have tI := hnT _ _ gI
      have tD := hnT _ _ (kk3 _ _ nDI nDK hacc)
      have tC := hnT _ _ (kk3 _ _ (Ne.symm nIC) nCK eC3)
      obtain ⟨oK3, eK3, _⟩ := id hc3
      have tK := hnT _ _ eK3
      have up : ∀ b o, b ≠ g₁.objs.size → b ≠ H3.objs.size → b ≠ H1.objs.size → h'.get? b = some o → h6.get? b = some o := fun b o h1 h2 h3 e => hs6.extBut b o h3 (k5 b o (kk3 b o h1 h2 e))
      refine ⟨vs.length - (i + 1), by walk_at "om", i + 1, h6, _, rfl, hlt, rfl, hl'.at fun o e => up l o nl.1 nl.2.2.2 nl.2.1 e, ?_, ?_, ?_, ?_, ?_⟩
      · exact fun b o e => up b o (old b o e).1 (old b o e).2.2.2 (old b o e).2.1 (Z.st b o e)
      · exact ⟨oI3, hs6.extBut _ _ (Ne.symm nDI) (k5 _ _ gI), rI3⟩
      · refine ⟨_, hl6, ?_⟩
        rw [List.take_add_one, hv, Array.toList_push]
        refine Paired.snoc ?_ ?_
        · refine hpr.mono fun v y hy => ?_
          obtain ⟨T', its', rfl, a1, a2, ⟨o, a3, a4⟩, a5⟩ := hy
          simp only [List.mem_cons, List.not_mem_nil, or_false, not_or] at a2
          exact ⟨T', its', rfl, a1, by simp only [List.mem_cons, List.not_mem_nil, or_false, not_or]; exact a2, ⟨o, up T' o a2.1 a2.2.2.2 a2.2.1 a3, a4⟩, a5⟩
        · refine ⟨T, its, rfl, ?_, by simp only [List.mem_cons, List.not_mem_nil, or_false, not_or]; exact ⟨tI, tD, tC, tK⟩, ?_, hG⟩
          · cases q : g₁.get? T with
            | none => rfl
            | some o => rw [st3 T o q] at hT; cases hT
          · obtain ⟨o, a3, a4⟩ := hTl
            exact ⟨o, hs6.extBut T o tD a3, a4⟩
      · exact ⟨m1, hm1.at' fun o e => up _ o (Ne.symm nIC) nCK (Ne.symm nDC) e⟩
      · exact ⟨some v, _, hs6.extBut _ _ (Ne.symm nDK) (k5 _ _ eK3), by obtain ⟨o', e1, e2⟩ := hc3; rw [eK3] at e1; cases e1; exact e2⟩
    · obtain rfl : i = vs.length := by walk_at "om"
      refine W.done _ _ _ ⟨Z.it, hl'⟩ fun h2 tk2 hk => ?_
      dsimp only
      have kk : ∀ b o, b ≠ g₁.objs.size → h'.get? b = some o → h2.get? b = some o := fun b o hb e => hk b o (by simpa using hb) e
      obtain ⟨oL, es, ep, hL, rL⟩ := F.ns
      have oL2 := kk _ _ (old _ _ hL).1 (Z.st _ _ hL)
      have hnL : h2.Ns env.locals m := ⟨oL, es, ep, oL2, rL⟩
      show wpAny _ A (assign (.Name y py) env (.ref H1.objs.size)) _ _ _
      refine wpAny_assign_Name (wpAny_storeName_local hy hnL (fun h3 hn3 hs3 => ?_) hp)
      have hCL : H2.objs.size ≠ env.locals := Ne.symm (old _ _ hL).2.2.1
      have hnC : h2.Ns H2.objs.size m1 := hm1.at' fun o e => kk _ o (Ne.symm nIC) e
      refine ⟨m1, hnC.sameBut hs3 hCL, fun h4 hs4 => ?_⟩
      obtain ⟨c1, hacc⟩ := hys
      have up : ∀ b o, b ≠ env.locals → b ≠ H2.objs.size → b ≠ g₁.objs.size → h'.get? b = some o → h4.get? b = some o := fun b o h1 h2 h3 e => hs4.extBut b o h2 (hs3.extBut b o h1 (kk b o h3 e))
      have hDL : H1.objs.size ≠ env.locals := Ne.symm (old _ _ hL).2.1
      rw [List.take_length] at hpr
      have e1 : g₁.get? H1.objs.size = none := by
        cases q : g₁.get? H1.objs.size with
        | none => rfl
        | some o => exact absurd rfl (old _ _ q).2.1
      refine h g₁ vs H1.objs.size h4 _ ys.toList c1 hP₁ hsrc e1 (by simpa using up _ _ hDL nDC nDI hacc) ?_ ?_ ?_
      · refine hpr.mono fun v y hy => ?_
        obtain ⟨T', its', rfl, a1, a2, ⟨o, a3, a4⟩, a5⟩ := hy
        simp only [List.mem_cons, List.not_mem_nil, or_false, not_or] at a2
        refine ⟨T', its', rfl, a1, ⟨o, up T' o ?_ a2.2.2.1 a2.1 a3, a4⟩, a5⟩
        rintro rfl
        rw [hL] at a1; cases a1
      · exact ⟨hn3.sameBut hs4 (Ne.symm hCL), fun b o e => up b o (Nat.ne_of_lt (Nat.lt_of_lt_of_le (Heap.lt_size e) F.above)) (old b o (F.keep b o e)).2.2.1 (old b o (F.keep b o e)).1 (Z.st b o (F.keep b o e)), F.above⟩
      · exact fun b o hb e => up b o hb (old b o e).2.2.1 (old b o e).1 (Z.st b o e)
  exact codeAny_compStart_list loop (W.self 0 _ _ _ ⟨init.it, hl4⟩ loop)
/-- a frame and a ledger, both -/
structure FN (h₀ : Heap) (L : Addr) (m : Str → Option Value) (news : List (Addr × Obj)) (h : Heap) : Prop where
  F : Fr h₀ L h m
  N : News h₀ L h news
theorem asgCellN {elt iter : Expr} {x y r : Str} {px py : Pos} {scope : Scope} {pos spos : Pos} {Q : Flow → Shared → Prop} {m : Str → Option Value} {h₀ : Heap} {news : List (Addr × Obj)} (P9 : FN h₀ env.locals m news s.heap) (G : Value → Array Value → Prop) (Src : List Value → Prop) (hh : A.handled = none)
    (hsw : swapsWith (.ListComp elt [⟨.Name x px, iter, [], 0⟩] scope pos) (some (.Name y py)) spos.line env = pure true)
    (hclos : closureFor scope env = pure []) (hkind : scope.kind = .function) (hn : scope.names = [(Str.ofString ".0", .local), (x, .cell), (r, .globalImplicit)])
    (hx : (relabel scope env).names.lookup x = some .cell)
    (hy : env.kindOf y = some .local) (hp : (env.scope.kind == .class || (env.scope.kind == .module && env.locals != env.globals)) = false)
    (hiter : wpAny (model prog w) A (eval iter env) (SrcAt s (FN h₀ env.locals m news) Src) E s)
    (helt : ∀ g₁ vs C K v s₃ E', FN h₀ env.locals m news g₁ → Src vs → v ∈ vs → s₃.heap.IsCell K (some v) → g₁.StaysIn s₃.heap →
      wpAny (model prog w) A (eval elt (compEnvC scope [(x, K)] C env)) (fun y s₄ => (∃ T its, y = .ref T ∧ s₃.heap.get? T = none ∧ s₄.heap.IsList T its ∧ G v its) ∧ Keeps s₃ s₄) E' s₃)
    (h : ∀ g₁ vs D h' tk ys n, FN h₀ env.locals m news g₁ → Src vs → g₁.get? D = none → h'.get? D = some (W.listOf ys.toArray n) → Paired (LstIs g₁ G h') vs ys → Fr h₀ env.locals h' (fun z => if z = y then some (.ref D) else m z) →
      (∀ b o, b ≠ env.locals → g₁.get? b = some o → h'.get? b = some o) → Q .next { s with heap := h', toks := tk })
    (hs : ∀ x, foldedSetIterable iter env x = pure x) :
    wpAny (model prog w) A (exec (.Assign [.Name y py] (.ListComp elt [⟨.Name x px, iter, [], 0⟩] scope pos) spos) env) Q E s :=
  asgCell G Src (FN h₀ env.locals m news) hh hsw hclos hkind hn hx hy hp hiter (fun _ P => P.F) helt h hs
end
end
section
theorem words_Gen20_0 : True := by
  k_with_none
  (k_with "m ne" => ((refine neN ?_); (try dsimp only); walk_at "om"))
  (k_with "m om" => (first | with_reducible assumption | exact Nat.le_trans (by with_reducible assumption) (by decide) | exact om4 (by with_reducible assumption) (by decide) | exact om2 (by with_reducible assumption) (by decide) | exact om1 (by with_reducible assumption) (by decide) | exact om0 (by with_reducible assumption) | exact om22 (by with_reducible assumption) (by decide) | exact om18 (by decide) | exact om3 (by with_reducible assumption) (by decide) | exact om10 (by with_reducible assumption) (by with_reducible assumption) (by decide) | exact Ne.symm (by with_reducible assumption) | exact Nat.ne_of_lt (by with_reducible assumption) | exact Nat.ne_of_gt (by with_reducible assumption) | exact om12 (by with_reducible assumption) | exact om14 (by decide) | exact om15 (by decide) | exact om16 (by with_reducible assumption) | exact om17 _ | exact om27 _ _ | exact om28 (by with_reducible assumption) | exact om25 (by with_reducible assumption) | exact om26 (by with_reducible assumption) | exact Nat.succ_le_of_lt (by with_reducible assumption) | exact Nat.lt_of_succ_le (by with_reducible assumption) | exact Nat.sub_succ_lt_self (by with_reducible assumption) | exact Nat.le_antisymm (by with_reducible assumption) (by with_reducible assumption) | exact Nat.le_of_lt (by with_reducible assumption) | exact om11 (by with_reducible assumption) | exact om7 (by with_reducible assumption) (by with_reducible assumption) | exact om8 (by with_reducible assumption) (by with_reducible assumption) | exact om9 (by with_reducible assumption) (by with_reducible assumption) | exact om19 (by with_reducible assumption) (by decide) | exact om20 (by with_reducible assumption) (by decide) | exact om21 (by with_reducible assumption) (by decide) | exact om23 (by with_reducible assumption) | exact om24 (by with_reducible assumption) | exact And.right (by with_reducible assumption) | exact And.left (by with_reducible assumption) | lia | omega))
  trivial
section
variable {prog : Program} {w : World} {A : Around} {E : Value → Shared → Prop} {env : Env} {s : Shared}
theorem walks_lt {I : Addr} {fp wr : List Addr} {n : Nat} {P : Nat → Value → Prop} {St : Nat → Heap → Prop} (W : Walks prog w A I fp wr n P St) : Walks prog w A I fp wr n (fun i v => i < n ∧ P i v) St where
  sub := W.sub
  frame := W.frame
  item := fun i s Q E hi st hQ => W.item i s Q E hi st fun v h' tk hP => hQ v h' tk ⟨hi, hP⟩
  done := W.done
  self := W.self
theorem ints_of_range {f : Nat → Int} : ∀ (n k : Nat) (vs ys : List Value), vs.length = n → (∀ j v, vs[j]? = some v → ∃ t, v = Value.int (k + j : Nat) t) → Paired (fun v y => ∃ i : Nat, ∃ t t', v = Value.int i t ∧ y = Value.int (f i) t') vs ys → IntsAre ys ((List.range' k n).map f)
  | 0, k, vs, ys, hl, _, h => by
    cases h with
    | nil => exact .nil
    | cons _ _ => simp at hl
  | n + 1, k, vs, ys, hl, hv, h => by
    cases h with
    | nil => simp at hl
    | @cons v y vs ys hF hr =>
      obtain ⟨i, t, t', e1, rfl⟩ := hF
      obtain ⟨t2, e2⟩ := hv 0 v rfl
      rw [e1] at e2
      injection e2 with e2 _
      have hi : i = k := by walk_at "om"
      subst hi
      rw [List.range'_succ, List.map_cons]
      refine .cons _ _ (ints_of_range n (i + 1) vs ys (by simpa using hl) (fun j v hj => ?_) hr)
      obtain ⟨t3, e3⟩ := hv (j + 1) v (by simpa using hj)
      exact ⟨t3, by rw [e3]; congr 1; walk_at "om"⟩
structure RngAt (s : Shared) (n : Nat) (xv : Value) (s₁ : Shared) : Prop where
  ex : ∃ r t u v, xv = .ref r ∧ IsRange s₁.heap r 0 n 1 t u v ∧ Keeps s s₁
/-- a comprehension over range(n), whose items are ints -/
theorem compR {elt iter : Expr} {x : Str} {px : Pos} {scope : Scope} {cl : List (Str × Addr)} {pos : Pos} {Q : Value → Shared → Prop} {n : Nat} (f : Nat → Int) (hh : A.handled = none) (hn : n ≤ 1000)
    (hclos : closureFor scope env = pure cl) (hcell : ∀ y ∈ scope.names, y.2 ≠ .cell) (hkind : scope.kind = .function)
    (hnames : ∀ y ∈ scope.names, y.2 = .local → scope.names.lookup y.1 = some .local) (hx : scope.names.lookup x = some .local)
    (hiter : wpAny (model prog w) A (eval iter env) (RngAt s n) E s)
    (helt : ∀ C (i : Nat) t s₃ m₃ E', i < n → s₃.heap.Ns C m₃ → m₃ x = some (.int i t) → s.heap.StaysIn s₃.heap → wpAny (model prog w) A (eval elt (compEnvC scope cl C env)) (fun y s₄ => (∃ t', y = Value.int (f i) t') ∧ Keeps s₃ s₄) E' s₃)
    (h : ∀ D h' tk ys c, s.heap.get? D = none → h'.get? D = some (W.listOf ys.toArray c) → IntsAre ys ((List.range n).map f) → s.heap.StaysIn h' → Q (.ref D) { s with heap := h', toks := tk })
    (hs : ∀ x, foldedSetIterable iter env x = pure x) :
    wpAny (model prog w) A (eval (.ListComp elt [⟨.Name x px, iter, [], 0⟩] scope pos) env) Q E s := by
  refine wpAny_ListComp_free (fun _ => true) (fun v y => ∃ i : Nat, ∃ t t', v = Value.int i t ∧ y = Value.int (f i) t') hclos hcell hkind hnames hx (wpAny_mono hiter (fun xv s₁ h₁ => ?_) fun _ _ e => e) hs
  have hex := h₁.ex
  clear h₁
  obtain ⟨r, t, u, v, rfl, hr, h₁, tk₁, rfl, hst₁⟩ := hex
  refine wpAny_pyIter_range hr (small_one (by walk_at "om") (by walk_at "om") (by walk_at "om") (by walk_at "om")) ?_
  have hsz : Builtin.Range.rangeSize 0 n 1 = (n : Int) := by rw [rangeSize_one]; split <;> walk_at "om"
  rw [hsz]
  dsimp only
  have W := walks_lt (Walks.range (prog := prog) (w := w) hh h₁.objs.size 0 1 n)
  have st : ∀ b o, s.heap.get? b = some o → b ∉ [h₁.objs.size] := fun b o e hm => absurd (Heap.lt_size (hst₁ b o e)) (List.mem_singleton.mp hm ▸ Nat.lt_irrefl _)
  refine ⟨_, _, _, _, _, _, rfl, W, by rw [sizeLine_eq]; walk_at "om", ?_, ?_, ⟨?_, ?_⟩, ?_⟩
  · have e1 : ((0 : Int) + ((0 : Nat) : Int) * 1) = 0 := by simp
    have e2 : ((n : Int) - ((0 : Nat) : Int)) = n := by simp
    rw [e1, e2]
    exact Heap.get?_push_size _ rfl
  · intro b hb
    rw [List.mem_singleton.mp hb, Heap.size_push]
    exact Nat.lt_succ_self _
  · intro C i v s₃ m₃ E' _ _ _ _ _ _
    exact wpAny_pure ⟨rfl, _, _, rfl, fun _ _ e => e⟩
  · intro C i v s₃ m₃ E' _ hP _ hn' hm hk _
    obtain ⟨hi, t3, e3⟩ := hP
    have e4 : v = .int i t3 := by rw [e3]; congr 1; walk_at "om"
    subst e4
    refine wpAny_mono (helt C i t3 s₃ m₃ E' hi hn' hm fun b o e => hk b o (st b o e) (Heap.get?_push_of_some _ (hst₁ b o e))) (fun y s₄ h₄ => ?_) fun _ _ e => e
    obtain ⟨⟨t', rfl⟩, hk4⟩ := h₄
    exact ⟨⟨i, t3, t', rfl, rfl⟩, hk4⟩
  · intro D h' tk ys vs' hD hlD hpl hlen' hP hF hk
    obtain ⟨c, hc⟩ := hpl
    have hD' : s.heap.get? D = none := by
      cases q : s.heap.get? D with
      | none => rfl
      | some o => rw [Heap.get?_push_of_some _ (hst₁ _ _ q)] at hD; cases hD
    rw [List.filter_eq_self.mpr (by intro _ _; rfl)] at hF
    have hi := ints_of_range n 0 vs' ys.toList hlen' (fun j v hj => by obtain ⟨_, t, e⟩ := hP j v hj; exact ⟨t, by rw [e]; congr 1; walk_at "om"⟩) hF
    rw [← List.range_eq_range'] at hi
    exact h D h' tk ys.toList c hD' (by simpa using hc) hi fun b o e => hk b o (st b o e) (Heap.get?_push_of_some _ (hst₁ b o e))
end
end
section
section
variable {prog : Program} {w : World} {A : Around} {E : Value → Shared → Prop} {s : Shared} {env : Env} {h₀ : Heap} {x : Str} {body : List Stmt} {Q : Flow → Shared → Prop}
def GEnd {σ : Type} (h₀ : Heap) (L : Addr) (x : Str) (I : σ → Prop) (mp : σ → Str → Option Value) (led : σ → List (Addr × Obj)) (own : List (Addr × Obj)) (It : Addr) (s₁ s₂ : Shared) : Prop :=
  ∃ h' tk m' news' a', s₂ = { s₁ with heap := h', toks := tk } ∧ Fr h₀ L h' m' ∧ News h₀ L h' news' ∧ (∀ p ∈ led a', p ∈ news') ∧ (∀ p ∈ own, p ∈ news') ∧ (∀ p ∈ led a', p.1 ≠ It) ∧ I a' ∧ ∀ z, z ≠ x → m' z = mp a' z
def GPost {σ : Type} (h₀ : Heap) (L : Addr) (x : Str) (I : σ → Prop) (mp : σ → Str → Option Value) (led : σ → List (Addr × Obj)) (own : List (Addr × Obj)) (It : Addr) (s₁ : Shared) (Q : Flow → Shared → Prop) (f : Flow) (s₂ : Shared) : Prop :=
  match f with
  | .ret v => Q (.ret v) s₂
  | .brk => Q .next s₂
  | _ => GEnd h₀ L x I mp led own It s₁ s₂
theorem GEnd.intro {σ : Type} {L It : Addr} {I : σ → Prop} {mp : σ → Str → Option Value} {led : σ → List (Addr × Obj)} {own news' : List (Addr × Obj)} {s₁ : Shared} {h' : Heap} {tk : Nat} {m' : Str → Option Value} (a' : σ)
    (F : Fr h₀ L h' m') (N : News h₀ L h' news') (h1 : ∀ p ∈ led a', p ∈ news') (h2 : ∀ p ∈ own, p ∈ news') (h3 : ∀ p ∈ led a', p.1 ≠ It) (hI : I a') (hm : ∀ z, z ≠ x → m' z = mp a' z) :
    GEnd h₀ L x I mp led own It s₁ { s₁ with heap := h', toks := tk } := ⟨h', tk, m', news', a', rfl, F, N, h1, h2, h3, hI, hm⟩
/-- a for over a list, whose state is a datum of one's own; what it keeps may move -/
theorem iterG {σ : Type} {l : Addr} {vs : List Value} {m₀ : Str → Option Value} (I : Nat → σ → Prop) (mp : (Str → Option Value) → σ → Str → Option Value) (led : σ → List (Addr × Obj)) (mu : List Addr) (a₀ : σ)
    (hh : A.handled = none) (hl : s.heap.IsList l vs.toArray) (hlL : l ≠ env.locals) (hlm : ∀ b ∈ mu, b ≠ l) (hmut : ∀ b ∈ mu, ∃ o, s.heap.get? b = some o)
    (F : Fr h₀ env.locals s.heap m₀) (N : News h₀ env.locals s.heap (led a₀)) (hI : I 0 a₀) (hm : ∀ z, z ≠ x → m₀ z = mp m₀ a₀ z)
    (turn : ∀ i v a h tk own It, vs[i]? = some v → OwnOff own mu → (∃ oI, (It, oI) ∈ own) → (∀ p ∈ led a, p.1 ≠ It) → I i a → Fr h₀ env.locals h (fun y => if y = x then some v else mp m₀ a y) → News h₀ env.locals h (led a ++ own) →
      wpAny (model prog w) A (execs body env) (GPost h₀ env.locals x (I (i + 1)) (mp m₀) led own It { s with heap := h, toks := tk } Q) E { s with heap := h, toks := tk })
    (done : ∀ a u h tk, I vs.length a → Fr h₀ env.locals h (fun y => if y = x then u else mp m₀ a y) → News h₀ env.locals h (led a) → Q .next { s with heap := h, toks := tk }) :
    wpAny (model prog w) A (pyIter (.ref l)) (fun it s₂ => LoopAtV prog w A h₀ env x body Q E it s₂) E s := by
  obtain ⟨ol, hol, _⟩ := id hl
  have hlt : l < s.heap.objs.size := Heap.lt_size hol
  have hne : l ≠ s.heap.objs.size := Nat.ne_of_lt hlt
  refine wpAny_pyIter_list hl ?_
  have W := Walks.list (prog := prog) (w := w) hh s.heap.objs.size l hne vs.toArray
  have hlen : vs.toArray.size = vs.length := by simp
  rw [hlen] at W
  have hnew := next_is_new F
  refine ⟨s.heap.objs.size, _, _, vs.length, _, _, m₀, led a₀, fun i m' n' => ∃ a, I i a ∧ (∀ z, z ≠ x → m' z = mp m₀ a z) ∧ n' = led a, rfl, W, ?_, ?_, ?_,
    ⟨⟨_, Heap.get?_push_size _ rfl, rfl, rfl⟩, hl.at fun o e => Heap.get?_push_of_some _ e⟩, F.push _, (fun p hp => ⟨Heap.get?_push_of_some _ (N p hp).1, (N p hp).2⟩), ⟨a₀, hI, hm, rfl⟩, ?_, ?_⟩
  · intro hm
    rcases List.mem_cons.mp hm with e | hm
    · exact absurd F.ns.lt (e ▸ Nat.lt_irrefl _)
    · exact hlL (List.mem_singleton.mp hm).symm
  · intro b hb
    rw [List.mem_singleton.mp hb]
    exact hnew
  · intro p hp hI
    exact absurd (Heap.lt_size (N p hp).1) ((List.mem_singleton.mp hI) ▸ Nat.lt_irrefl _)
  · rintro i v m₁ news₁ s₁ own ⟨h, tk, rfl⟩ hi hP ⟨a, hIa, hma, rfl⟩ hoff hown hget hall hst F₁ N₁
    have e : (fun y => if y = x then some v else m₁ y) = fun y => if y = x then some v else mp m₀ a y := by
      funext z
      by_cases h1 : z = x
      · simp [h1]
      · simp only [if_neg h1]; exact hma z h1
    rw [e] at F₁
    have N₂ : News h₀ env.locals h (led a ++ own) := fun p hp => N₁ p ((List.mem_append.mp hp).elim (fun h => List.mem_append.mpr (.inr h)) fun h => List.mem_append.mpr (.inl h))
    have hsep : OwnOff own mu := by
      intro p hp b hb e
      rcases List.mem_cons.mp (hown p hp) with h1 | h1
      · obtain ⟨o, ho⟩ := hmut b hb
        rw [← e, h1] at ho
        exact absurd (Heap.lt_size ho) (Nat.lt_irrefl _)
      · exact hlm b hb (by rw [← e]; exact List.mem_singleton.mp h1)
    have hit : ∃ oI, (s.heap.objs.size, oI) ∈ own := by
      obtain ⟨o, ho, _⟩ := hst.1
      exact ⟨o, hall _ (List.mem_cons_self ..) hnew o ho⟩
    refine wpAny_mono (turn i v a h tk own s.heap.objs.size (by simpa using hP) hsep hit (fun p hp q => hoff p hp (by rw [q]; exact List.mem_singleton.mpr rfl)) hIa F₁ N₂) (fun f s₂ p => ?_) fun _ _ e => e
    have fin : GEnd h₀ env.locals x (I (i + 1)) (mp m₀) led own s.heap.objs.size { s with heap := h, toks := tk } s₂ → LoopStepU h₀ env.locals [s.heap.objs.size] own (fun m' n' => ∃ a, I (i + 1) a ∧ (∀ z, z ≠ x → m' z = mp m₀ a z) ∧ n' = led a) { s with heap := h, toks := tk } .next s₂ := by
      rintro ⟨h', tk', m', news', a', rfl, F', N', h1, h2, h3, hI', hm'⟩
      exact ⟨rfl, h', tk', m', led a', rfl, F', fun p hp => N' p ((List.mem_append.mp hp).elim (h2 p) (h1 p)), fun p hp hq => h3 p hp (List.mem_singleton.mp hq), a', hI', hm', rfl⟩
    cases f with
    | ret v => exact .ret p
    | brk => exact .brk p
    | next => exact .next (fin p)
    | cont => exact .cont (fin p)
  · rintro h' tk m' news' F' N' _ ⟨a, hIa, hma, rfl⟩
    have e : (fun y => if y = x then m' x else mp m₀ a y) = m' := by
      funext z
      by_cases h1 : z = x
      · simp [h1]
      · simp only [if_neg h1]; exact (hma z h1).symm
    exact done a (m' x) h' tk hIa (by rw [e]; exact F') N'
end
/-- an entry of the ledger that is a list of these ints -/
def RowObj (r : List Int) (p : Addr × Obj) : Prop := p.2.cls = .type "list" ∧ ∃ ys n, p.2.data = .seq ys.toArray n ∧ IntsAre ys r
theorem RowObj.list {r : List Int} {p : Addr × Obj} {h : Heap} (x : RowObj r p) (hg : h.get? p.1 = some p.2) : ∃ ys, h.IsList p.1 ys.toArray ∧ IntsAre ys r := by
  obtain ⟨hc, ys, n, hd, hi⟩ := x
  exact ⟨ys, ⟨_, hg, hc, n, hd⟩, hi⟩
end
section
theorem words_Gen22_0 : True := by
  k_with_none
  (k_with "m ne" => ((refine neN ?_); (try dsimp only); walk_at "om"))
  (k_with "m om" => (first | with_reducible assumption | exact Nat.le_trans (by with_reducible assumption) (by decide) | exact om4 (by with_reducible assumption) (by decide) | exact om2 (by with_reducible assumption) (by decide) | exact om1 (by with_reducible assumption) (by decide) | exact om0 (by with_reducible assumption) | exact om22 (by with_reducible assumption) (by decide) | exact om18 (by decide) | exact om3 (by with_reducible assumption) (by decide) | exact om10 (by with_reducible assumption) (by with_reducible assumption) (by decide) | exact Ne.symm (by with_reducible assumption) | exact Nat.ne_of_lt (by with_reducible assumption) | exact Nat.ne_of_gt (by with_reducible assumption) | exact om12 (by with_reducible assumption) | exact om14 (by decide) | exact om15 (by decide) | exact om16 (by with_reducible assumption) | exact om17 _ | exact om27 _ _ | exact om28 (by with_reducible assumption) | exact om25 (by with_reducible assumption) | exact om26 (by with_reducible assumption) | exact Nat.succ_le_of_lt (by with_reducible assumption) | exact Nat.lt_of_succ_le (by with_reducible assumption) | exact Nat.sub_succ_lt_self (by with_reducible assumption) | exact Nat.le_antisymm (by with_reducible assumption) (by with_reducible assumption) | exact Nat.le_of_lt (by with_reducible assumption) | exact om11 (by with_reducible assumption) | exact om7 (by with_reducible assumption) (by with_reducible assumption) | exact om8 (by with_reducible assumption) (by with_reducible assumption) | exact om9 (by with_reducible assumption) (by with_reducible assumption) | exact om19 (by with_reducible assumption) (by decide) | exact om20 (by with_reducible assumption) (by decide) | exact om21 (by with_reducible assumption) (by decide) | exact om23 (by with_reducible assumption) | exact om24 (by with_reducible assumption) | exact And.right (by with_reducible assumption) | exact And.left (by with_reducible assumption) | lia | omega))
  trivial
section
variable {prog : Program} {w : World} {A : Around} {E : Value → Shared → Prop} {s : Shared} {h₀ : Heap} {L l D b : Addr} {m : Str → Option Value} {news news' : List (Addr × Obj)} {vs ws : List Value} {n n2 : Nat}
theorem ls_extend {Q : Value → Shared → Prop} (F : Fr h₀ L s.heap m) (N : News h₀ L s.heap news) (hb : (b, W.listOf ws.toArray n2) ∈ news) (hne : ws.length ≠ 0)
    (U : Upd D (W.listOf vs.toArray n) (W.listOf (vs ++ ws).toArray (n + 1)) news news') (hz : vs.length + ws.length ≤ 100000)
    (h : ∀ h', Fr h₀ L h' m → News h₀ L h' news' → Q .none { s with heap := h' }) : wpAny (model prog w) A (call (.builtin "list.extend") [.ref D, .ref b]) Q E s := by
  refine kl_extend F N hb (by simp) (by simpa using hne) U ?_ (by simp; rw [sizeLine_eq]; walk_at "om") (by simp; rw [sizeLine_eq]; walk_at "om") h
  have e : Builtin.List.listTooLong (vs.toArray.size + ws.toArray.size) = false := by
    unfold Builtin.List.listTooLong
    rw [sizeLine_eq]
    simp
    walk_at "om"
  rw [e, Bool.and_false]
  exact Bool.false_ne_true
theorem lenL {Q : Value → Shared → Prop} (hl : s.heap.IsList l vs.toArray) (hi : IntsAre vs ns) (hz : ns.length ≤ 100000) (h : ∀ t tk, Q (.int (ns.length : Nat) t) { s with toks := tk }) : wpAny (model prog w) A (call (.builtin "len") [.ref l]) Q E s := by
  refine len_list hl (by rw [List.size_toArray, hi.length]; walk_at "om") ?_
  rw [List.size_toArray, hi.length]
  exact h _ _
end
/-- what the way from one place to the next is told by -/
def numsOf (a r : List Int) : List Int := ((a.length - same a r : Nat) : Int) :: ((r.length - same a r : Nat) : Int) :: r.drop (same a r)
def chunk (a r : List Int) : List Int := (numsOf a r).flatMap fun n => octs n.toNat
def aheadAt (R : List (List Int)) (i : Nat) : List Int := if i = 0 then [] else R.getD (i - 1) []
def encT (R : List (List Int)) (i : Nat) : List Int := (List.range i).flatMap fun j => chunk (aheadAt R j) (R.getD j [])
def headT (R : List (List Int)) (i : Nat) : List Int := (R.take i).foldl (fun hd r => hd.take (same hd r)) (R.getD 0 [])
theorem octs_len (n : Nat) : (octs n).length ≤ 3 ∧ (octs n).length ≠ 0 := by
  unfold octs
  rw [List.length_reverse, List.length_cons]
  have := tailOf_len n
  walk_at "om"
theorem flat_octs_len : ∀ (l : List Int), (l.flatMap fun n => octs n.toNat).length ≤ 3 * l.length
  | [] => by simp
  | n :: l => by
    have h1 := flat_octs_len l
    have h2 := (octs_len n.toNat).1
    rw [List.flatMap_cons, List.length_append, List.length_cons]
    walk_at "om"
theorem encT_succ (R : List (List Int)) (i : Nat) : encT R (i + 1) = encT R i ++ chunk (aheadAt R i) (R.getD i []) := by
  unfold encT
  rw [List.range_succ, List.flatMap_append]
  simp
theorem chunk_len {a r : List Int} (h : r.length ≤ 3) : (chunk a r).length ≤ 15 := by
  have h1 := flat_octs_len (numsOf a r)
  have h2 : (numsOf a r).length ≤ 5 := by
    unfold numsOf
    simp only [List.length_cons, List.length_drop]
    walk_at "om"
  unfold chunk
  walk_at "om"
theorem encT_len {R : List (List Int)} (h : ∀ r ∈ R, r.length ≤ 3) : ∀ i, (encT R i).length ≤ 15 * i
  | 0 => by simp [encT]
  | i + 1 => by
    have h1 := encT_len h i
    have h2 : (R.getD i []).length ≤ 3 := by
      rw [List.getD_eq_getElem?_getD]
      cases e : R[i]? with
      | none => simp
      | some r => simpa using h r (List.mem_of_getElem? e)
    have h3 := chunk_len (a := aheadAt R i) h2
    rw [encT_succ, List.length_append]
    walk_at "om"
theorem headT_succ {R : List (List Int)} {i : Nat} {r : List Int} (h : R[i]? = some r) : headT R (i + 1) = (headT R i).take (same (headT R i) r) := by
  unfold headT
  rw [List.take_add_one, h]
  simp
theorem aheadAt_succ {R : List (List Int)} {i : Nat} {r : List Int} (h : R[i]? = some r) : aheadAt R (i + 1) = r := by
  unfold aheadAt
  rw [if_neg (Nat.succ_ne_zero _), Nat.add_sub_cancel, List.getD_eq_getElem?_getD, h]
  rfl
/-- a row of the law -/
def RowOk (r : List Int) : Prop := r.length ≤ 3 ∧ ∀ n ∈ r, 0 ≤ n ∧ n < 10000
theorem nums_ok {a r : List Int} (ha : a.length ≤ 3) (h : RowOk r) : ∀ n ∈ numsOf a r, 0 ≤ n ∧ n < 10000 := by
  intro n hn
  unfold numsOf at hn
  have := h.1
  rcases List.mem_cons.mp hn with rfl | hn
  · walk_at "om"
  · rcases List.mem_cons.mp hn with rfl | hn
    · walk_at "om"
    · exact h.2 n (List.mem_of_mem_drop hn)
end
section
theorem words_Gen23_0 : True := by
  k_with_none
  (k_with "m ne" => ((refine neN ?_); (try dsimp only); walk_at "om"))
  (k_with "m om" => (first | with_reducible assumption | exact Nat.le_trans (by with_reducible assumption) (by decide) | exact om4 (by with_reducible assumption) (by decide) | exact om2 (by with_reducible assumption) (by decide) | exact om1 (by with_reducible assumption) (by decide) | exact om0 (by with_reducible assumption) | exact om22 (by with_reducible assumption) (by decide) | exact om18 (by decide) | exact om3 (by with_reducible assumption) (by decide) | exact om10 (by with_reducible assumption) (by with_reducible assumption) (by decide) | exact Ne.symm (by with_reducible assumption) | exact Nat.ne_of_lt (by with_reducible assumption) | exact Nat.ne_of_gt (by with_reducible assumption) | exact om12 (by with_reducible assumption) | exact om14 (by decide) | exact om15 (by decide) | exact om16 (by with_reducible assumption) | exact om17 _ | exact om27 _ _ | exact om28 (by with_reducible assumption) | exact om25 (by with_reducible assumption) | exact om26 (by with_reducible assumption) | exact Nat.succ_le_of_lt (by with_reducible assumption) | exact Nat.lt_of_succ_le (by with_reducible assumption) | exact Nat.sub_succ_lt_self (by with_reducible assumption) | exact Nat.le_antisymm (by with_reducible assumption) (by with_reducible assumption) | exact Nat.le_of_lt (by with_reducible assumption) | exact om11 (by with_reducible assumption) | exact om7 (by with_reducible assumption) (by with_reducible assumption) | exact om8 (by with_reducible assumption) (by with_reducible assumption) | exact om9 (by with_reducible assumption) (by with_reducible assumption) | exact om19 (by with_reducible assumption) (by decide) | exact om20 (by with_reducible assumption) (by decide) | exact om21 (by with_reducible assumption) (by decide) | exact om23 (by with_reducible assumption) | exact om24 (by with_reducible assumption) | exact And.right (by with_reducible assumption) | exact And.left (by with_reducible assumption) | lia | omega))
  trivial
section
variable {prog : Program} {w : World} {A : Around} {E : Value → Shared → Prop} {s : Shared} {h₀ : Heap} {L l : Addr} {m : Str → Option Value} {news : List (Addr × Obj)} {vs : List Value}
theorem call_iterL {Q : Value → Shared → Prop} (hl : s.heap.IsList l vs.toArray) (h : Q (.ref s.heap.objs.size) { s with heap := s.heap.push (iterObj l 0) }) :
    wpAny (model prog w) A (call (.builtin "iter") [.ref l]) Q E s := by
  refine call_function_entry (by decide +kernel) (by decide +kernel) kdk_entry_iter (kdk_args_iter _) ?_
  unfold Builtin.«iter»
  refine wpAny_bind (m := someArgs "iter" 1 2 _) (wpAny_of_eq (a := [Value.ref l]) (by first | rfl | kernel_rfl!) ?_)
  dsimp only
  exact wpAny_bind (wpAny_pyIter_list hl (wpAny_pure ⟨_, rfl, h⟩))
theorem iterN {Q : Value → Shared → Prop} (F : Fr h₀ L s.heap m) (N : News h₀ L s.heap news) (hl : s.heap.IsList l vs.toArray)
    (h : ∀ h' I, Fr h₀ L h' m → News h₀ L h' ((I, iterObj l 0) :: news) → (∀ p ∈ news, p.1 < I) → Q (.ref I) { s with heap := h' }) :
    wpAny (model prog w) A (call (.builtin "iter") [.ref l]) Q E s :=
  call_iterL hl (h _ _ (F.push _) (News.push F N _ rfl) fun p hp => Heap.lt_size (N p hp).1)
end
theorem octs_bj {n : Nat} (hn : n < 262144) : ∃ k, k ≤ 2 ∧ n < 64 ^ (k + 1) ∧ (octs n).length = k + 1 ∧ ∀ j, j ≤ k → (octs n)[j]? = some (bj n k j : Int) := by
  unfold octs tailOf
  by_cases h1 : n < 64
  · refine ⟨0, by decide, by simpa using h1, by rw [if_pos h1]; rfl, ?_⟩
    intro j hj
    obtain rfl : j = 0 := by walk_at "om"
    rw [if_pos h1]
    simp [bj]
  · by_cases h2 : n < 4096
    · refine ⟨1, by decide, h2, by rw [if_neg h1, if_pos h2]; rfl, ?_⟩
      intro j hj
      rw [if_neg h1, if_pos h2]
      rcases (show j = 0 ∨ j = 1 by walk_at "om") with rfl | rfl
      · simp [bj]
        walk_at "om"
      · simp [bj]
    · refine ⟨2, by decide, hn, by rw [if_neg h1, if_neg h2]; rfl, ?_⟩
      intro j hj
      rw [if_neg h1, if_neg h2]
      rcases (show j = 0 ∨ j = 1 ∨ j = 2 by walk_at "om") with rfl | rfl | rfl
      · simp [bj]
        walk_at "om"
      · simp [bj]
      · simp [bj]
theorem drop_get {ns a b : List Int} {i j : Nat} (h : ns.drop i = a ++ b) {x : Int} (hx : a[j]? = some x) : ns[i + j]? = some x := by
  rw [← List.getElem?_drop, h, List.getElem?_append_left (List.getElem?_eq_some_iff.mp hx).1, hx]
section
variable {w : World} {loose : List Str} {mean : ExcName → Option Value} {mg mb : Str → Option Value}
theorem vstep {A A₀ : Around} {E : Value → Shared → Prop} {Q : Value → Shared → Prop} {s : Shared} {base g : Heap} {env : Env} {L I O : Addr} {m : Str → Option Value} {news news' : List (Addr × Obj)} {i n : Nat} {vs : List Value} {ns rest : List Int}
  (B : Below A₀ base [] g) (F : Fr g L s.heap m) (N : News g L s.heap news) (U : Upd I (iterObj O i) (iterObj O (i + (octs n).length)) news news')
  (X : (hd.heap_39 w.params).In g) (T : Top hd.view_39 loose mean mg mb g) (hA : A.frames = some [env]) (hf : env.frame = some L) (hk : env.scope.kind = .function)
  (hdp : A.depth + 20 < recursionLimit) (hun : A.units + 200 < cLine) (hh : A.handled = none)
  (hl : s.heap.IsList O vs.toArray) (hi : IntsAre vs ns) (hd : ns.drop i = octs n ++ rest) (hn : n < 262144)
  (h : ∀ h' tk t, Fr g L h' m → News g L h' news' → Q (.int n t) { s with heap := h', toks := tk }) :
  wpAny (model Pg w) A (call (.ref 28) [.ref I]) Q E s := by
  obtain ⟨pre, post, rfl, rfl, a, b⟩ := U.split
  have z := N (I, iterObj O i) (List.mem_append.mpr (.inr (.head _)))
  obtain ⟨k, hk2, hnk, hlen, ho⟩ := octs_bj hn
  have B1 : Below A₀ g [] g := ⟨B.stack, fun _ _ e => e, trivial⟩
  refine wpAny_call (varint (k := k) (bel B1 F hA hf hk) X T hdp hun hh z.2.2 ?_ z.1 hl hi hk2 hnk (fun j hj => drop_get hd (ho j hj)) fun h' tk t hkp hI => ?_)
  · intro env' he q
    rw [List.mem_singleton.mp he, hf] at q
    injection q with q
    exact z.2.1 q.symm
  · refine h h' tk t ?_ ?_
    · refine ⟨F.ns.at' fun o e => hkp _ o (Ne.symm z.2.1) e, fun b' o e => hkp b' o ?_ (F.keep b' o e), F.above⟩
      rintro rfl
      rw [z.2.2] at e; cases e
    · intro p hp
      rcases List.mem_append.mp hp with hp | hp
      · exact ⟨hkp _ _ (a p hp) (N p (List.mem_append_left _ hp)).1, (N p (List.mem_append_left _ hp)).2⟩
      · rcases List.mem_cons.mp hp with rfl | hp
        · exact ⟨by rw [hlen]; exact hI, z.2⟩
        · have hp' := N p (List.mem_append_right _ (.tail _ hp))
          exact ⟨hkp _ _ (b p hp) hp'.1, hp'.2⟩
end
end
section
theorem words_Gen24_0 : True := by
  k_with_none
  (k_with "m ne" => ((refine neN ?_); (try dsimp only); walk_at "om"))
  (k_with "m om" => (first | with_reducible assumption | exact Nat.le_trans (by with_reducible assumption) (by decide) | exact om4 (by with_reducible assumption) (by decide) | exact om2 (by with_reducible assumption) (by decide) | exact om1 (by with_reducible assumption) (by decide) | exact om0 (by with_reducible assumption) | exact om22 (by with_reducible assumption) (by decide) | exact om18 (by decide) | exact om3 (by with_reducible assumption) (by decide) | exact om10 (by with_reducible assumption) (by with_reducible assumption) (by decide) | exact Ne.symm (by with_reducible assumption) | exact Nat.ne_of_lt (by with_reducible assumption) | exact Nat.ne_of_gt (by with_reducible assumption) | exact om12 (by with_reducible assumption) | exact om14 (by decide) | exact om15 (by decide) | exact om16 (by with_reducible assumption) | exact om17 _ | exact om27 _ _ | exact om28 (by with_reducible assumption) | exact om25 (by with_reducible assumption) | exact om26 (by with_reducible assumption) | exact Nat.succ_le_of_lt (by with_reducible assumption) | exact Nat.lt_of_succ_le (by with_reducible assumption) | exact Nat.sub_succ_lt_self (by with_reducible assumption) | exact Nat.le_antisymm (by with_reducible assumption) (by with_reducible assumption) | exact Nat.le_of_lt (by with_reducible assumption) | exact om11 (by with_reducible assumption) | exact om7 (by with_reducible assumption) (by with_reducible assumption) | exact om8 (by with_reducible assumption) (by with_reducible assumption) | exact om9 (by with_reducible assumption) (by with_reducible assumption) | exact om19 (by with_reducible assumption) (by decide) | exact om20 (by with_reducible assumption) (by decide) | exact om21 (by with_reducible assumption) (by decide) | exact om23 (by with_reducible assumption) | exact om24 (by with_reducible assumption) | exact And.right (by with_reducible assumption) | exact And.left (by with_reducible assumption) | lia | omega))
  trivial
section
variable {prog : Program} {w : World} {A : Around} {E : Value → Shared → Prop} {env : Env} {s : Shared}
structure JAt (s : Shared) (h : Heap) (n : Nat) (It D C : Addr) (J : Nat → Heap → Prop) (G : Nat → Value → Prop) (j : Nat) : Prop where
  it : IsRangeIter h It (0 + (j : Nat) * 1) ((n : Int) - (j : Nat)) 1
  ac : ∃ ys : List Value, h.PlainList D ys.toArray ∧ ys.length = j ∧ ∀ i y, ys[i]? = some y → G i y
  ns : ∃ m, h.Ns C m
  jj : J j h
  lv : ∀ b o, s.heap.get? b = some o → ∃ o', h.get? b = some o'
structure EltAt (s s₃ : Shared) (J : Nat → Heap → Prop) (G : Nat → Value → Prop) (j : Nat) (v : Value) (s₄ : Shared) : Prop where
  ex : ∃ h' tk', s₄ = { s with heap := h', toks := tk' } ∧ G j v ∧ J (j + 1) h' ∧ (∀ b o, s.heap.get? b = none → s₃.heap.get? b = some o → h'.get? b = some o) ∧ ∀ b o, s₃.heap.get? b = some o → ∃ o', h'.get? b = some o'
/-- a name that gets a comprehension's list over range(n), whose element turns things that stood ahead -/
theorem asgJ {elt iter : Expr} {x y : Str} {px py : Pos} {scope : Scope} {cl : List (Str × Addr)} {pos spos : Pos} {Q : Flow → Shared → Prop} {m : Str → Option Value} {n : Nat} (J : Nat → Heap → Prop) (G : Nat → Value → Prop) (hh : A.handled = none) (hn : n ≤ 1000)
    (hsw : swapsWith (.ListComp elt [⟨.Name x px, iter, [], 0⟩] scope pos) (some (.Name y py)) spos.line env = pure true)
    (hclos : closureFor scope env = pure cl) (hcell : ∀ z ∈ scope.names, z.2 ≠ .cell) (hkind : scope.kind = .function)
    (hnames : ∀ z ∈ scope.names, z.2 = .local → scope.names.lookup z.1 = some .local) (hx : scope.names.lookup x = some .local)
    (hy : env.kindOf y = some .local) (hp : (env.scope.kind == .class || (env.scope.kind == .module && env.locals != env.globals)) = false)
    (hiter : wpAny (model prog w) A (eval iter env) (RngAt s n) E s) (hL : s.heap.Ns env.locals m)
    (hJ0 : J 0 s.heap) (hJf : ∀ j h h', J j h → (∀ b o, s.heap.get? b = some o → h'.get? b = h.get? b) → J j h') (hJL : ∀ h, J n h → h.Ns env.locals m)
    (helt : ∀ C j t s₃ m₃ E', j < n → J j s₃.heap → s₃.heap.Ns C m₃ → m₃ x = some (.int (j : Nat) t) → (∃ h tk, s₃ = { s with heap := h, toks := tk }) →
      wpAny (model prog w) A (eval elt (compEnvC scope cl C env)) (EltAt s s₃ J G j) E' s₃)
    (h : ∀ D h' tk ys c h₁, J n h₁ → s.heap.get? D = none → h'.get? D = some (W.listOf (List.toArray ys) c) → ys.length = n → (∀ i y, ys[i]? = some y → G i y) → h'.Ns env.locals (fun z => if z = y then some (.ref D) else m z) →
      (∀ b o, s.heap.get? b = some o → b ≠ env.locals → h'.get? b = h₁.get? b) → Q .next { s with heap := h', toks := tk })
    (hs : ∀ x, foldedSetIterable iter env x = pure x) :
    wpAny (model prog w) A (exec (.Assign [.Name y py] (.ListComp elt [⟨.Name x px, iter, [], 0⟩] scope pos) spos) env) Q E s := by
  rw [exec_Assign_Name_used _ _ _ _ hsw]
  refine wpAny_bind (wpAny_standAt (wpAny_bind ?_))
  show wpAny _ A (do let _ ← comprehension (.ListComp elt [⟨.Name x px, iter, [], 0⟩] scope pos) scope env _ (newList []) false (eval iter env) (some (assign (.Name y py) env))) _ _ s
  refine wpAny_bind (wpAny_mono (wpAny_comprehension_free (use := some (assign (.Name y py) env)) (Q := fun _ s' => Q .next s') rfl hs hclos hkind hnames
    (wpAny_mono hiter (fun xv s₁ h₁ => ?_) fun _ _ e => e)) (fun _ s' hq => wpAny_pure (wpAny_pure hq)) fun _ _ e => e)
  have hex := h₁.ex
  clear h₁
  obtain ⟨r, t, u, v, rfl, hr, g₁, tk₁, rfl, hst₁⟩ := hex
  refine wpAny_pyIter_range hr (small_one (by walk_at "om") (by walk_at "om") (by walk_at "om") (by walk_at "om")) ?_
  have hsz : Builtin.Range.rangeSize 0 n 1 = (n : Int) := by rw [rangeSize_one]; split <;> walk_at "om"
  rw [hsz]
  dsimp only
  refine wpAny_newObj_type (wpAny_newFunctionEnv hcell (by intro y hy; simp at hy) (fun H4 hns₁ hsb₁ => ?_) hkind)
  dsimp only at hns₁ hsb₁ ⊢
  generalize hH1 : g₁.push { cls := .type "range_iterator", data := .fields #[rawInt 0, rawInt n, rawInt 1] } = H1 at hns₁ hsb₁ ⊢
  generalize hH2 : H1.push { cls := .type "list", data := .seq ([] : List Value).toArray } = H2 at hns₁ hsb₁ ⊢
  have z1 : H1.objs.size = g₁.objs.size + 1 := by rw [← hH1, Heap.size_push]
  have z2 : H2.objs.size = g₁.objs.size + 2 := by rw [← hH2, Heap.size_push, z1]
  have nDI : H1.objs.size ≠ g₁.objs.size := by rw [z1]; exact Nat.succ_ne_self _
  have nDC : H1.objs.size ≠ H2.objs.size := neN (by rw [z1, z2]; walk_at "om")
  have nIC : g₁.objs.size ≠ H2.objs.size := neN (by rw [z2]; walk_at "om")
  have old : ∀ b o, s.heap.get? b = some o → b ≠ g₁.objs.size ∧ b ≠ H1.objs.size ∧ b ≠ H2.objs.size := fun b o e => by
    have hb : @LT.lt Nat _ b g₁.objs.size := Heap.lt_size (hst₁ b o e)
    exact ⟨neN (by walk_at "om"), neN (by rw [z1]; walk_at "om"), neN (by rw [z2]; walk_at "om")⟩
  have nw : ∀ a, @LE.le Nat _ g₁.objs.size a → s.heap.get? a = none := fun a ha => by
    cases q : s.heap.get? a with
    | none => rfl
    | some o => exact absurd (Heap.lt_size (hst₁ a o q)) (Nat.not_lt.mpr ha)
  have k1 : ∀ b o, g₁.get? b = some o → H1.get? b = some o := fun b o e => by rw [← hH1]; exact Heap.get?_push_of_some _ e
  have k2 : ∀ b o, H1.get? b = some o → H2.get? b = some o := fun b o e => by rw [← hH2]; exact Heap.get?_push_of_some _ e
  have k3 : ∀ b o, b ≠ H2.objs.size → H2.get? b = some o → H4.get? b = some o := fun b o hb e => hsb₁.extBut b o hb (Heap.get?_push_of_some _ e)
  have oI : H1.get? g₁.objs.size = some { cls := .type "range_iterator", data := .fields #[rawInt 0, rawInt n, rawInt 1] } := by rw [← hH1]; exact Heap.get?_push_size _ rfl
  have oD : H2.get? H1.objs.size = some { cls := .type "list", data := .seq ([] : List Value).toArray } := by rw [← hH2]; exact Heap.get?_push_size _ rfl
  have sI : s.heap.get? g₁.objs.size = none := nw _ (Nat.le_refl _)
  have sD : s.heap.get? H1.objs.size = none := nw _ (by rw [z1]; exact Nat.le_succ _)
  have sC : s.heap.get? H2.objs.size = none := nw _ (by rw [z2]; walk_at "om")
  have init : JAt s H4 n g₁.objs.size H1.objs.size H2.objs.size J G 0 := {
    it := by
      have e1 : ((0 : Int) + ((0 : Nat) : Int) * 1) = 0 := by simp
      have e2 : ((n : Int) - ((0 : Nat) : Int)) = n := by simp
      rw [e1, e2]
      exact k3 _ _ nIC (k2 _ _ oI)
    ac := ⟨[], ⟨_, k3 _ _ nDC oD⟩, rfl, fun i y hy => by simp at hy⟩
    ns := ⟨_, hns₁⟩
    jj := hJf 0 s.heap H4 hJ0 fun b o e => by rw [e]; exact k3 b o (old b o e).2.2 (k2 b o (k1 b o (hst₁ b o e)))
    lv := fun b o e => ⟨o, k3 b o (old b o e).2.2 (k2 b o (k1 b o (hst₁ b o e)))⟩ }
  have W := walks_lt (Walks.range (prog := prog) (w := w) hh g₁.objs.size 0 1 n)
  have loop : codeAny (model prog w) A (.compLoop (.ListComp elt [⟨.Name x px, iter, [], 0⟩] scope pos) 0 (.ref g₁.objs.size) (.ref H1.objs.size) (compEnvC scope cl H2.objs.size env))
      (compPost (model prog w) A E (some (assign (.Name y py) env)) (fun _ s' => Q .next s') (.ref H1.objs.size) H2.objs.size) { s with heap := H4, toks := tk₁ + ([] : List (Str × Value)).length } := by
    refine loop_lst (fun k s' => ∃ j h' tk, k = n - j ∧ j ≤ n ∧ s' = { s with heap := h', toks := tk } ∧ JAt s h' n g₁.objs.size H1.objs.size H2.objs.size J G j) ?_ n ⟨0, H4, _, rfl, Nat.zero_le _, rfl, init⟩ (fun _ => rfl)
    rintro k s' ⟨j, h', tk, rfl, hj, rfl, Z⟩
    obtain ⟨m1, hm1⟩ := Z.ns
    obtain ⟨ys, hys, hyl, hyG⟩ := Z.ac
    rcases Nat.lt_or_ge j n with hlt | hge
    · refine W.item j _ _ _ hlt Z.it fun v h2 tk2 hP hst hk => ?_
      dsimp only
      obtain ⟨_, t3, e3⟩ := hP
      have e4 : v = .int (j : Nat) t3 := by rw [e3]; congr 1; walk_at "om"
      subst e4
      have kk : ∀ b o, b ≠ g₁.objs.size → h'.get? b = some o → h2.get? b = some o := fun b o hb e => hk b o (by simpa using hb) e
      have hm2 : h2.Ns H2.objs.size m1 := hm1.at' fun o e => kk _ o (Ne.symm nIC) e
      refine wpAny_assign_Name (wpAny_storeName_local (lookup_relabel_local hx) hm2 (fun h3 hn3 hs3 => ?_) (by simp [compEnvC, relabel, hkind]))
      have e23 : ∀ b o, s.heap.get? b = some o → h3.get? b = h'.get? b := fun b o e => by
        rw [hs3.2 b (old b o e).2.2]
        obtain ⟨o', ho'⟩ := Z.lv b o e
        rw [ho']
        exact kk b o' (old b o e).1 ho'
      have hJ3 : J j h3 := hJf j h' h3 Z.jj e23
      refine wpAny_mono (helt H2.objs.size j t3 _ _ _ hlt hJ3 hn3 (by simp) ⟨h3, _, rfl⟩) (fun v4 s4 h4 => ?_) fun _ _ e => e
      obtain ⟨h5, tk5, rfl, hG5, hJ5, k5, l5⟩ := h4.ex
      dsimp only at k5 l5
      obtain ⟨c1, hacc⟩ := hys
      have gD := k5 _ _ sD (hs3.extBut _ _ nDC (kk _ _ nDI hacc))
      have hysz : ys.toArray.size ≤ sizeLine := by rw [List.size_toArray, hyl, sizeLine_eq]; walk_at "om"
      refine wpAny_list_append_plain (hsz := hysz) ⟨c1, gD⟩ fun h6 hl6 hs6 => ?_
      refine ⟨n - (j + 1), by walk_at "om", j + 1, h6, _, rfl, hlt, rfl, ?_, ⟨ys ++ [v4], by simpa using hl6, by simp [hyl], ?_⟩, ?_, ?_, ?_⟩
      · exact hs6.extBut _ _ (Ne.symm nDI) (k5 _ _ sI (hs3.extBut _ _ nIC hst))
      · intro i y hi
        rcases Nat.lt_trichotomy i ys.length with h | h | h
        · rw [List.getElem?_append_left h] at hi
          exact hyG i y hi
        · subst h
          rw [List.getElem?_append_right (Nat.le_refl _), Nat.sub_self] at hi
          simp at hi
          subst hi
          rw [hyl]
          exact hG5
        · rw [List.getElem?_eq_none (by rw [List.length_append, List.length_singleton]; walk_at "om")] at hi
          cases hi
      · obtain ⟨oC, a1, a2, a3, a4⟩ := hn3
        exact ⟨_, oC, a1, a2, hs6.extBut _ _ (Ne.symm nDC) (k5 _ _ sC a3), a4⟩
      · exact hJf (j + 1) h5 h6 hJ5 fun b o e => hs6.2 b (old b o e).2.1
      · intro b o e
        obtain ⟨o', ho'⟩ := Z.lv b o e
        obtain ⟨o2, ho2⟩ := l5 b o' (by rw [e23 b o e]; exact ho')
        exact ⟨o2, (hs6.2 b (old b o e).2.1).trans ho2⟩
    · obtain rfl : j = n := by walk_at "om"
      refine W.done _ _ _ Z.it fun h2 tk2 hk => ?_
      dsimp only
      have kk : ∀ b o, b ≠ g₁.objs.size → h'.get? b = some o → h2.get? b = some o := fun b o hb e => hk b o (by simpa using hb) e
      have e2 : ∀ b o, s.heap.get? b = some o → h2.get? b = h'.get? b := fun b o e => by
        obtain ⟨o', ho'⟩ := Z.lv b o e
        rw [ho']
        exact kk b o' (old b o e).1 ho'
      have hJ2 : J j h2 := hJf j h' h2 Z.jj e2
      have hnL := hJL h2 hJ2
      obtain ⟨oL, _, _, eL, _⟩ := id hL
      show wpAny _ A (assign (.Name y py) env (.ref H1.objs.size)) _ _ _
      refine wpAny_assign_Name (wpAny_storeName_local hy hnL (fun h3 hn3 hs3 => ?_) hp)
      have hCL : H2.objs.size ≠ env.locals := Ne.symm (old _ _ eL).2.2
      have hDL : H1.objs.size ≠ env.locals := Ne.symm (old _ _ eL).2.1
      have hnC : h2.Ns H2.objs.size m1 := hm1.at' fun o e => kk _ o (Ne.symm nIC) e
      refine ⟨m1, hnC.sameBut hs3 hCL, fun h4 hs4 => ?_⟩
      obtain ⟨c1, hacc⟩ := hys
      refine h H1.objs.size h4 _ ys c1 h2 hJ2 sD (hs4.extBut _ _ nDC (hs3.extBut _ _ hDL (kk _ _ nDI hacc))) hyl hyG (hn3.sameBut hs4 (Ne.symm hCL)) fun b o e hb => ?_
      rw [hs4.2 b (old b o e).2.2, hs3.2 b hb]
  exact codeAny_compStart_list loop (W.self 0 _ _ _ init.it loop)
end
end
section
theorem words_P1_0 : True := by
  k_with_none
  (k_with "m ne" => ((refine neN ?_); (try dsimp only); walk_at "om"))
  (k_with "m om" => (first | with_reducible assumption | exact Nat.le_trans (by with_reducible assumption) (by decide) | exact om4 (by with_reducible assumption) (by decide) | exact om2 (by with_reducible assumption) (by decide) | exact om1 (by with_reducible assumption) (by decide) | exact om0 (by with_reducible assumption) | exact om22 (by with_reducible assumption) (by decide) | exact om18 (by decide) | exact om3 (by with_reducible assumption) (by decide) | exact om10 (by with_reducible assumption) (by with_reducible assumption) (by decide) | exact Ne.symm (by with_reducible assumption) | exact Nat.ne_of_lt (by with_reducible assumption) | exact Nat.ne_of_gt (by with_reducible assumption) | exact om12 (by with_reducible assumption) | exact om14 (by decide) | exact om15 (by decide) | exact om16 (by with_reducible assumption) | exact om17 _ | exact om27 _ _ | exact om28 (by with_reducible assumption) | exact om25 (by with_reducible assumption) | exact om26 (by with_reducible assumption) | exact Nat.succ_le_of_lt (by with_reducible assumption) | exact Nat.lt_of_succ_le (by with_reducible assumption) | exact Nat.sub_succ_lt_self (by with_reducible assumption) | exact Nat.le_antisymm (by with_reducible assumption) (by with_reducible assumption) | exact Nat.le_of_lt (by with_reducible assumption) | exact om11 (by with_reducible assumption) | exact om7 (by with_reducible assumption) (by with_reducible assumption) | exact om8 (by with_reducible assumption) (by with_reducible assumption) | exact om9 (by with_reducible assumption) (by with_reducible assumption) | exact om19 (by with_reducible assumption) (by decide) | exact om20 (by with_reducible assumption) (by decide) | exact om21 (by with_reducible assumption) (by decide) | exact om23 (by with_reducible assumption) | exact om24 (by with_reducible assumption) | exact And.right (by with_reducible assumption) | exact And.left (by with_reducible assumption) | lia | omega))
  trivial
theorem ltS_tot {x y : Str} (h1 : ltS x y = false) (h2 : ltS y x = false) : x = y := by
  unfold ltS at h1 h2
  have h1 := of_decide_eq_false h1
  have h2 := of_decide_eq_false h2
  exact Str.ext' (Array.toList_inj.mp (List.le_antisymm (as := x.cps.toList) (bs := y.cps.toList) h2 h1))
theorem same_comm {α : Type} [DecidableEq α] : ∀ (a b : List α), same a b = same b a
  | [], [] => rfl
  | [], _ :: _ => rfl
  | _ :: _, [] => rfl
  | x :: xs, y :: ys => by
    unfold same
    by_cases e : x = y
    · rw [if_pos e, if_pos e.symm, same_comm xs ys]
    · rw [if_neg e, if_neg (Ne.symm e)]
theorem take_same {α : Type} [DecidableEq α] : ∀ (a b : List α), a.take (same a b) = b.take (same a b)
  | [], [] => rfl
  | [], _ :: _ => by simp [same]
  | _ :: _, [] => by simp [same]
  | x :: xs, y :: ys => by
    unfold same
    by_cases e : x = y
    · rw [if_pos e, List.take_succ_cons, List.take_succ_cons, e, take_same xs ys]
    · rw [if_neg e]; rfl
theorem same_ge {α : Type} [DecidableEq α] : ∀ {p a b : List α}, p <+: a → p <+: b → p.length ≤ same a b
  | [], _, _, _, _ => Nat.zero_le _
  | x :: p, a, b, h1, h2 => by
    obtain ⟨a', rfl⟩ := h1
    obtain ⟨b', rfl⟩ := h2
    show _ ≤ same (x :: (p ++ a')) (x :: (p ++ b'))
    unfold same
    rw [if_pos rfl]
    have := same_ge (p := p) (a := p ++ a') (b := p ++ b') (List.prefix_append _ _) (List.prefix_append _ _)
    simp only [List.length_cons]
    walk_at "om"
theorem between : ∀ {a b r : List Str}, ltL r a = false → ltL b r = false → a.take (same a b) = r.take (same a b)
  | [], _, _, _, _ => by simp [same]
  | _ :: _, [], _, _, _ => by simp [same]
  | x :: xs, y :: ys, [], h1, _ => by cases h1
  | x :: xs, y :: ys, z :: zs, h1, h2 => by
    unfold same
    by_cases e : x = y
    · subst e
      rw [if_pos rfl]
      unfold ltL at h1 h2
      by_cases e : z = x
      · subst e
        rw [if_pos rfl] at h1 h2
        rw [List.take_succ_cons, List.take_succ_cons, between h1 h2]
      · rw [if_neg e] at h1
        rw [if_neg (Ne.symm e)] at h2
        exact absurd (ltS_tot h1 h2) e
    · rw [if_neg e]; rfl
theorem ltL_tot : ∀ {a b : List Str}, ltL a b = false → ltL b a = false → a = b
  | [], [], _, _ => rfl
  | [], _ :: _, h, _ => by cases h
  | _ :: _, [], _, h => by cases h
  | x :: xs, y :: ys, h1, h2 => by
    unfold ltL at h1 h2
    by_cases e : x = y
    · subst e
      rw [if_pos rfl] at h1 h2
      rw [ltL_tot h1 h2]
    · rw [if_neg e] at h1
      rw [if_neg (Ne.symm e)] at h2
      exact absurd (ltS_tot h1 h2) e
theorem same_self {α : Type} [DecidableEq α] : ∀ (a : List α), same a a = a.length
  | [] => rfl
  | x :: xs => by unfold same; rw [if_pos rfl, same_self xs]; rfl
/-- the least and the greatest of two rows begin alike as the rows do -/
theorem cp_two {x y a b : List Str} (ha : a ∈ [x, y]) (h1 : ∀ r ∈ [x, y], ltL r a = false) (h2 : ∀ r ∈ [x, y], ltL b r = false) (hb : b ∈ [x, y]) : a.take (same a b) = x.take (same x y) := by
  have h1x := h1 x (.head _)
  have h1y := h1 y (.tail _ (.head _))
  have h2x := h2 x (.head _)
  have h2y := h2 y (.tail _ (.head _))
  rcases List.mem_cons.mp ha with rfl | ha
  · rcases List.mem_cons.mp hb with rfl | hb
    · rw [ltL_tot h1y h2y]
    · rw [List.mem_singleton.mp hb]
  · obtain rfl := List.mem_singleton.mp ha
    rcases List.mem_cons.mp hb with rfl | hb
    · rw [take_same, same_comm]
    · obtain rfl := List.mem_singleton.mp hb
      rw [ltL_tot h1x h2x]
theorem fold_le : ∀ (l : List (List Int)) (hd : List Int), l.foldl (fun hd r => hd.take (same hd r)) hd <+: hd ∧ ∀ r ∈ l, l.foldl (fun hd r => hd.take (same hd r)) hd <+: r
  | [], hd => ⟨List.prefix_rfl, fun _ h => nomatch h⟩
  | r :: l, hd => by
    obtain ⟨h1, h2⟩ := fold_le l (hd.take (same hd r))
    refine ⟨h1.trans (List.take_prefix _ _), fun q hq => ?_⟩
    rcases List.mem_cons.mp hq with rfl | hq
    · refine h1.trans ?_
      rw [take_same]
      exact List.take_prefix _ _
    · exact h2 q hq
theorem pre_take {p a : List Int} {k : Nat} (h : p <+: a) (hk : p.length ≤ k) : p <+: a.take k := by
  obtain ⟨b, rfl⟩ := h
  rw [List.take_append, List.take_of_length_le hk]
  exact List.prefix_append _ _
theorem fold_ge {p : List Int} : ∀ (l : List (List Int)) (hd : List Int), p <+: hd → (∀ r ∈ l, p <+: r) → p <+: l.foldl (fun hd r => hd.take (same hd r)) hd
  | [], _, h, _ => h
  | r :: l, hd, h, h2 => fold_ge l _ (pre_take h (same_ge h (h2 r (.head _)))) fun q hq => h2 q (.tail _ hq)
theorem cp_ext {x y : Str} (h : x.cps.toList = y.cps.toList) : x = y := Str.ext' (Array.toList_inj.mp h)
theorem str_app (x y : Str) : (x ++ y).cps.toList = x.cps.toList ++ y.cps.toList := by simp [Str.cps_append]
theorem sep_cp : (Str.ofString "/").cps.toList = [47] := by decide
theorem sep_eq : Str.ofString "/" = ⟨#[47]⟩ := cp_ext sep_cp
theorem nm_cp {n : Int} (h : 0 ≤ n) : ∃ m : Nat, n = m ∧ (nm n).cps.toList = 110 :: (Nat.toDigits 10 m).map Char.toNat := by
  obtain ⟨m, rfl⟩ := Int.eq_ofNat_of_zero_le h
  refine ⟨m, rfl, ?_⟩
  unfold nm
  rw [str_app]
  rw [show toString ((m : Nat) : Int) = toString (Int.ofNat m) from rfl, text_ofNat]
  rfl
theorem toNat_inj' {a b : Char} (h : a.toNat = b.toNat) : a = b := Char.ext (UInt32.toNat_inj.mp h)
theorem map_inj_of {α β : Type} {f : α → β} : ∀ {a b : List α}, (∀ x ∈ a, ∀ y ∈ b, f x = f y → x = y) → a.map f = b.map f → a = b
  | [], [], _, _ => rfl
  | [], _ :: _, _, h => by cases h
  | _ :: _, [], _, h => by cases h
  | x :: a, y :: b, hi, h => by
    rw [List.map_cons, List.map_cons] at h
    injection h with h1 h2
    rw [hi x (.head _) y (.head _) h1, map_inj_of (fun x hx y hy => hi x (.tail _ hx) y (.tail _ hy)) h2]
theorem nm_inj {a b : Int} (ha : 0 ≤ a) (hb : 0 ≤ b) (h : nm a = nm b) : a = b := by
  obtain ⟨m, rfl, e1⟩ := nm_cp ha
  obtain ⟨k, rfl, e2⟩ := nm_cp hb
  rw [h, e2] at e1
  injection e1 with _ e1
  have e := map_inj_of (fun _ _ _ _ => toNat_inj') e1
  have := congrArg (fun d => Nat.ofDigitChars 10 d 0) e
  simp only [Nat.ofDigitChars_ten_toDigits] at this
  rw [this]
theorem same_nm : ∀ {a b : List Int}, (∀ n ∈ a, 0 ≤ n) → (∀ n ∈ b, 0 ≤ n) → same (a.map nm) (b.map nm) = same a b
  | [], _, _, _ => by simp [same]
  | _ :: _, [], _, _ => by simp [same]
  | x :: xs, y :: ys, ha, hb => by
    have h1 := ha x (.head _)
    have h2 := hb y (.head _)
    have ih := same_nm (a := xs) (b := ys) (fun n hn => ha n (.tail _ hn)) (fun n hn => hb n (.tail _ hn))
    rw [List.map_cons, List.map_cons]
    unfold same
    by_cases e : x = y
    · rw [if_pos e, if_pos (by rw [e]), ih]
    · rw [if_neg e, if_neg (fun q => e (nm_inj h1 h2 q))]
/-- and of the rows of the law -/
theorem cp_all {R : List (List Int)} (hok : ∀ r ∈ R, RowOk r) {a b : List Str} (hR : R ≠ []) (ha : a ∈ R.map (·.map nm)) (h1 : ∀ r ∈ R.map (·.map nm), ltL r a = false) (h2 : ∀ r ∈ R.map (·.map nm), ltL b r = false) (hb : b ∈ R.map (·.map nm)) :
    a.take (same a b) = (headT R R.length).map nm := by
  obtain ⟨a, hA, rfl⟩ := List.mem_map.mp ha
  obtain ⟨b, hB, rfl⟩ := List.mem_map.mp hb
  have na : ∀ r ∈ R, ∀ n ∈ r, 0 ≤ n := fun r hr n hn => ((hok r hr).2 n hn).1
  have hp : ∀ r ∈ R, a.take (same a b) <+: r := fun r hr => by
    have e := between (h1 _ (List.mem_map.mpr ⟨r, hr, rfl⟩)) (h2 _ (List.mem_map.mpr ⟨r, hr, rfl⟩))
    rw [same_nm (na a hA) (na b hB), ← List.map_take, ← List.map_take] at e
    have e := map_inj_of (fun x hx y hy => nm_inj (na a hA x (List.mem_of_mem_take hx)) (na r hr y (List.mem_of_mem_take hy))) e
    rw [e]
    exact List.take_prefix _ _
  cases R with
  | nil => exact absurd rfl hR
  | cons r0 Rt =>
    have e0 : headT (r0 :: Rt) (r0 :: Rt).length = (r0 :: Rt).foldl (fun hd r => hd.take (same hd r)) r0 := by
      unfold headT
      rw [List.take_length]
      rfl
    rw [e0]
    obtain ⟨_, l2⟩ := fold_le (r0 :: Rt) r0
    have g1 := fold_ge (r0 :: Rt) r0 (hp r0 (.head _)) hp
    have g2 := same_ge (l2 a hA) (l2 b hB)
    have e1 : a.take (same a b) = (r0 :: Rt).foldl (fun hd r => hd.take (same hd r)) r0 := g1.eq_of_length_le (by rw [List.length_take]; have := same_le1 a b; walk_at "om")
    rw [same_nm (na a hA) (na b hB), ← List.map_take, e1]
end
section
theorem words_P2_0 : True := by
  k_with_none
  (k_with "m ne" => ((refine neN ?_); (try dsimp only); walk_at "om"))
  (k_with "m om" => (first | with_reducible assumption | exact Nat.le_trans (by with_reducible assumption) (by decide) | exact om4 (by with_reducible assumption) (by decide) | exact om2 (by with_reducible assumption) (by decide) | exact om1 (by with_reducible assumption) (by decide) | exact om0 (by with_reducible assumption) | exact om22 (by with_reducible assumption) (by decide) | exact om18 (by decide) | exact om3 (by with_reducible assumption) (by decide) | exact om10 (by with_reducible assumption) (by with_reducible assumption) (by decide) | exact Ne.symm (by with_reducible assumption) | exact Nat.ne_of_lt (by with_reducible assumption) | exact Nat.ne_of_gt (by with_reducible assumption) | exact om12 (by with_reducible assumption) | exact om14 (by decide) | exact om15 (by decide) | exact om16 (by with_reducible assumption) | exact om17 _ | exact om27 _ _ | exact om28 (by with_reducible assumption) | exact om25 (by with_reducible assumption) | exact om26 (by with_reducible assumption) | exact Nat.succ_le_of_lt (by with_reducible assumption) | exact Nat.lt_of_succ_le (by with_reducible assumption) | exact Nat.sub_succ_lt_self (by with_reducible assumption) | exact Nat.le_antisymm (by with_reducible assumption) (by with_reducible assumption) | exact Nat.le_of_lt (by with_reducible assumption) | exact om11 (by with_reducible assumption) | exact om7 (by with_reducible assumption) (by with_reducible assumption) | exact om8 (by with_reducible assumption) (by with_reducible assumption) | exact om9 (by with_reducible assumption) (by with_reducible assumption) | exact om19 (by with_reducible assumption) (by decide) | exact om20 (by with_reducible assumption) (by decide) | exact om21 (by with_reducible assumption) (by decide) | exact om23 (by with_reducible assumption) | exact om24 (by with_reducible assumption) | exact And.right (by with_reducible assumption) | exact And.left (by with_reducible assumption) | lia | omega))
  trivial
def joinS (l : List Str) : Str := Str.join (Str.ofString "/") l
theorem tjoin (l : List Str) : Txt.join (Str.ofString "/") l = joinS l := StrLaws.glued_eq_join _ _
def Free (p : Str) : Prop := 47 ∉ p.cps.toList
theorem cut {a b A B : List Nat} (ha : 47 ∉ a) (hb : 47 ∉ b) (h : a ++ 47 :: A = b ++ 47 :: B) : a = b ∧ A = B := by
  induction a generalizing b with
  | nil =>
    cases b with
    | nil => exact ⟨rfl, by simpa using h⟩
    | cons y b => simp at h hb; exact absurd h.1 hb.1
  | cons x a ih =>
    cases b with
    | nil => simp at h ha; exact absurd h.1.symm ha.1
    | cons y b =>
      simp only [List.cons_append, List.cons.injEq, List.mem_cons, not_or] at h ha hb
      obtain ⟨r1, r2⟩ := ih ha.2 hb.2 h.2
      exact ⟨by rw [h.1, r1], r2⟩
theorem joinS_cons2 (p q : Str) (r : List Str) : (joinS (p :: q :: r)).cps.toList = p.cps.toList ++ 47 :: (joinS (q :: r)).cps.toList := by
  show (p ++ Str.ofString "/" ++ joinS (q :: r)).cps.toList = _
  rw [str_app, str_app, sep_cp]
  simp
theorem joinS_inj : ∀ {ps qs : List Str}, ps ≠ [] → qs ≠ [] → (∀ p ∈ ps, Free p) → (∀ q ∈ qs, Free q) → joinS ps = joinS qs → ps = qs
  | [], _, h, _, _, _, _ => absurd rfl h
  | _, [], _, h, _, _, _ => absurd rfl h
  | [p], [q], _, _, _, _, h => by rw [show p = q from h]
  | [p], q :: q2 :: r, _, _, hp, _, h => by
    have h := congrArg (·.cps.toList) h
    rw [joinS_cons2] at h
    exact absurd (show 47 ∈ p.cps.toList by rw [show p.cps.toList = _ from h]; simp) (hp p (.head _))
  | p :: p2 :: r, [q], _, _, _, hq, h => by
    have h := congrArg (·.cps.toList) h
    rw [joinS_cons2] at h
    exact absurd (show 47 ∈ q.cps.toList by rw [← show _ = q.cps.toList from h]; simp) (hq q (.head _))
  | p :: p2 :: r, q :: q2 :: t, _, _, hp, hq, h => by
    have h := congrArg (·.cps.toList) h
    rw [joinS_cons2, joinS_cons2] at h
    obtain ⟨e1, e2⟩ := cut (hp p (.head _)) (hq q (.head _)) h
    rw [cp_ext e1, joinS_inj (List.cons_ne_nil _ _) (List.cons_ne_nil _ _) (fun x hx => hp x (.tail _ hx)) (fun x hx => hq x (.tail _ hx)) (cp_ext e2)]
theorem split_ne (x y : Str) : Txt.split x y ≠ [] := by
  unfold Txt.split
  split
  · exact List.cons_ne_nil _ _
  · split
    · exact List.cons_ne_nil _ _
    · rw [StrLaws.partsBetween_eq]
      obtain ⟨p, r, e⟩ := StrLaws.partsFrom_ne x y.length 0 (Builtin.Str.occurrences x y 0 x.length (x.length + 1))
      rw [e]
      exact List.cons_ne_nil _ _
theorem split_joinS {ps : List Str} (h : ps ≠ []) (hp : ∀ p ∈ ps, Free p) : Txt.split (joinS ps) (Str.ofString "/") = ps := by
  refine joinS_inj (split_ne _ _) h ?_ hp ?_
  · rw [sep_eq]; exact StrLaws.split_free _ _
  · exact StrLaws.join_split _ _
def pathT (l : List Str) : Str := Str.ofString "/" ++ joinS l
def comps (l : List Str) : List Str := if l = [] then [Str.ofString ""] else l
theorem comps_ne (l : List Str) : comps l ≠ [] := by unfold comps; split <;> simp_all
theorem joinS_comps (l : List Str) : joinS (comps l) = joinS l := by
  unfold comps
  split
  · rename_i h; subst h; rfl
  · rfl
theorem emp_free : Free (Str.ofString "") := by unfold Free; decide
theorem comps_free {l : List Str} (h : ∀ p ∈ l, Free p) : ∀ p ∈ comps l, Free p := by
  unfold comps
  split
  · intro p hp; rw [List.mem_singleton.mp hp]; exact emp_free
  · exact h
theorem pathT_cp (l : List Str) : (pathT l).cps.toList = 47 :: (joinS l).cps.toList := by unfold pathT; rw [str_app, sep_cp]; rfl
theorem pathT_join (l : List Str) : pathT l = joinS (Str.ofString "" :: comps l) := by
  refine cp_ext ?_
  rw [pathT_cp, ← joinS_comps]
  cases e : comps l with
  | nil => exact absurd e (comps_ne l)
  | cons q r => rw [joinS_cons2]; rfl
theorem split_pathT {l : List Str} (h : ∀ p ∈ l, Free p) : Txt.split (pathT l) (Str.ofString "/") = Str.ofString "" :: comps l := by
  rw [pathT_join]
  refine split_joinS (List.cons_ne_nil _ _) fun p hp => ?_
  rcases List.mem_cons.mp hp with rfl | hp
  · exact emp_free
  · exact comps_free h p hp
/-- a piece of a path -/
structure Seg (p : Str) : Prop where
  free : Free p
  ne : p ≠ Str.ofString ""
  nd : p ≠ Str.ofString "."
theorem keep_comps {l : List Str} (h : ∀ p ∈ l, Seg p) : (Str.ofString "" :: comps l).filter keepS = l := by
  have h0 : keepS (Str.ofString "") = false := by decide
  have h1 : l.filter keepS = l := List.filter_eq_self.mpr fun p hp => by
    unfold keepS
    rw [bne_iff_ne.mpr (h p hp).ne, bne_iff_ne.mpr (h p hp).nd]; rfl
  rw [List.filter_cons_of_neg (by rw [h0]; exact Bool.false_ne_true)]
  unfold comps
  split
  · rename_i e; subst e; rw [List.filter_cons_of_neg (by rw [h0]; exact Bool.false_ne_true)]; rfl
  · exact h1
theorem starts_iff (x : Str) : Txt.startswith x (Str.ofString "/") = true ↔ x.cps.toList[0]? = some 47 := by
  rw [sep_eq, ← StrLaws.subAt_one, Nat.zero_add]
  unfold Txt.startswith
  rw [Bool.and_eq_true, decide_eq_true_eq, Nat.zero_add]
theorem ends_iff (x : Str) : Txt.endswith x (Str.ofString "/") = true ↔ x.cps.toList[x.length - 1]? = some 47 := by
  rw [sep_eq, ← StrLaws.subAt_one]
  unfold Txt.endswith
  rw [Bool.and_eq_true, decide_eq_true_eq, Nat.zero_add]
  show (1 ≤ x.length ∧ Builtin.Str.subAt x _ (x.length - 1) = true) ↔ (x.length - 1 + 1 ≤ x.length ∧ _)
  constructor
  · rintro ⟨h1, h2⟩; exact ⟨by walk_at "om", h2⟩
  · rintro ⟨h1, h2⟩; exact ⟨by walk_at "om", h2⟩
theorem joinS_snoc : ∀ {l : List Str} (p : Str), l ≠ [] → (joinS (l ++ [p])).cps.toList = (joinS l).cps.toList ++ 47 :: p.cps.toList
  | [], _, h => absurd rfl h
  | [q], p, _ => joinS_cons2 q p []
  | q :: q2 :: r, p, _ => by
    show (joinS (q :: q2 :: (r ++ [p]))).cps.toList = _
    rw [joinS_cons2, joinS_cons2]
    have := joinS_snoc (l := q2 :: r) p (List.cons_ne_nil _ _)
    rw [show q2 :: (r ++ [p]) = (q2 :: r) ++ [p] from rfl, this]
    simp
theorem len_cp (x : Str) : x.length = x.cps.toList.length := by simp [Str.length]
theorem cp_ne {p : Str} (h : p ≠ Str.ofString "") : p.cps.toList ≠ [] := fun e => h (cp_ext (by rw [e]; rfl))
theorem path_ends {l : List Str} (hl : ∀ p ∈ l, Seg p) (h : l ≠ []) : Txt.endswith (pathT l) (Str.ofString "/") = false := by
  rw [Bool.eq_false_iff]
  intro q
  rw [ends_iff, len_cp, ← List.getLast?_eq_getElem?] at q
  obtain ⟨l', p, rfl⟩ : ∃ l' p, l = l' ++ [p] := ⟨l.dropLast, l.getLast h, (List.dropLast_concat_getLast h).symm⟩
  have hp := hl p (by simp)
  have hpn := cp_ne hp.ne
  have key : ∃ A, (pathT (l' ++ [p])).cps.toList = A ++ p.cps.toList := by
    rw [pathT_cp]
    by_cases e : l' = []
    · subst e; exact ⟨[47], rfl⟩
    · rw [joinS_snoc p e]; exact ⟨47 :: ((joinS l').cps.toList ++ [47]), by simp⟩
  obtain ⟨A, eA⟩ := key
  rw [eA, List.getLast?_append] at q
  cases e : p.cps.toList.getLast? with
  | none => exact hpn (List.getLast?_eq_none_iff.mp e)
  | some c =>
    rw [e] at q
    obtain rfl : c = 47 := by simpa using q
    exact hp.free (List.mem_of_getLast? e)
theorem seg_starts {b : Str} (h : Free b) : Txt.startswith b (Str.ofString "/") = false := by
  rw [Bool.eq_false_iff]
  intro q
  exact h (List.mem_of_getElem? ((starts_iff b).mp q))
theorem pathT_len (l : List Str) : (pathT l).length ≠ 0 := by rw [len_cp, pathT_cp]; simp
theorem join_step {l : List Str} (hl : ∀ p ∈ l, Seg p) {b : Str} (hb : Seg b) : joinStep (pathT l) b = pathT (l ++ [b]) := by
  unfold joinStep
  rw [if_neg (by
    rw [not_or]
    refine ⟨by rw [seg_starts hb.free]; exact Bool.false_ne_true, ?_⟩
    have := pathT_len l
    walk_at "om")]
  by_cases e : l = []
  · subst e
    rw [if_pos (by decide)]
    rfl
  · rw [if_neg (by rw [path_ends hl e]; exact Bool.false_ne_true)]
    refine cp_ext ?_
    rw [str_app, str_app, pathT_cp, pathT_cp, joinS_snoc b e, sep_cp]
    rfl
theorem join_fold : ∀ {bs l : List Str}, (∀ p ∈ l, Seg p) → (∀ p ∈ bs, Seg p) → bs.foldl joinStep (pathT l) = pathT (l ++ bs)
  | [], l, _, _ => by simp
  | b :: bs, l, hl, hb => by
    rw [List.foldl_cons, join_step hl (hb b (.head _)), join_fold (l := l ++ [b]) (fun p hp => by
      rcases List.mem_append.mp hp with hp | hp
      · exact hl p hp
      · rw [List.mem_singleton.mp hp]; exact hb b (.head _)) (fun p hp => hb p (.tail _ hp))]
    simp
theorem slice1 (x : Str) {A : List Nat} (h : x.cps.toList = 47 :: A) : (Txt.slice x (some 1) none).cps.toList = A := by
  have e := StrLaws.sliceText_from (x := x) (i := 1) ⟨by walk_at "om", by rw [h]; simp; walk_at "om"⟩
  rw [show Txt.slice x (some 1) none = StrLaws.sliceText x (some 1) none from rfl, e, h]
  have : ((47 :: A).length : Int) - 1 = (A.length : Nat) := by simp
  rw [this]
  simp
theorem slice0 (x : Str) {A : List Nat} (h : x.cps.toList = 47 :: A) : Txt.slice x none (some 1) = Str.ofString "/" := by
  have e := StrLaws.sliceText_to (x := x) (j := 1) ⟨by walk_at "om", by rw [h]; simp; walk_at "om"⟩
  rw [show Txt.slice x none (some 1) = StrLaws.sliceText x none (some 1) from rfl, e, h]
  exact cp_ext (by rw [sep_cp]; rfl)
theorem slice12 (x : Str) {c : Nat} {A : List Nat} (h : x.cps.toList = 47 :: c :: A) : (Txt.slice x (some 1) (some 2)).cps.toList = [c] := by
  have e := StrLaws.sliceText_plain (x := x) (i := 1) (j := 2) ⟨by walk_at "om", by walk_at "om", by rw [h]; simp; walk_at "om"⟩
  rw [show Txt.slice x (some 1) (some 2) = StrLaws.sliceText x (some 1) (some 2) from rfl, e, h]
  rfl
/-- what normpath makes of an absolute path -/
def normT (x : Str) : Str := Str.ofString "/" ++ Txt.join (Str.ofString "/") ((Txt.split (Txt.slice x (some 1) none) (Str.ofString "/")).foldl normStep [])
theorem norm_pathT {l : List Str} (h : ∀ p ∈ l, Free p) : normT (pathT l) = pathT (l.foldl normStep []) := by
  have e1 : Txt.slice (pathT l) (some 1) none = joinS (comps l) := cp_ext (by rw [slice1 _ (pathT_cp l), joinS_comps])
  have e2 : (comps l).foldl normStep [] = l.foldl normStep [] := by
    unfold comps
    split
    · rename_i e
      subst e
      rfl
    · rfl
  unfold normT
  rw [e1, split_joinS (comps_ne l) (comps_free h), e2, tjoin]
  rfl
/-- a text that normpath's contract takes -/
structure AbsT (x : Str) : Prop where
  len : x.length ≤ 1000
  e1 : (Txt.slice x none (some 1) != Str.ofString "/") = false
  e2 : (Txt.slice x (some 1) (some 2) != Str.ofString "/") = true
  ne : (x.length : Int) ≠ 0
theorem abs_pathT {l : List Str} (h : ∀ p ∈ l, Seg p) (hl : (pathT l).length ≤ 1000) : AbsT (pathT l) := by
  refine ⟨hl, bne_eq_false_iff_eq.mpr (slice0 _ (pathT_cp l)), ?_, by have := pathT_len l; walk_at "om"⟩
  cases l with
  | nil => decide
  | cons p r =>
    have hp := h p (.head _)
    have hpn := cp_ne hp.ne
    cases e : p.cps.toList with
    | nil => exact absurd e hpn
    | cons c A =>
      have key : ∃ B, (pathT (p :: r)).cps.toList = 47 :: c :: B := by
        rw [pathT_cp]
        cases r with
        | nil => exact ⟨A, by rw [show joinS [p] = p from rfl, e]⟩
        | cons q t => rw [joinS_cons2, e]; exact ⟨_, rfl⟩
      obtain ⟨B, eB⟩ := key
      refine bne_iff_ne.mpr fun q => ?_
      have := slice12 _ eB
      rw [q, sep_cp] at this
      injection this with this
      exact hp.free (by rw [e, ← this]; exact .head _)
theorem joinS_len (l : List Str) {k : Nat} (h : ∀ p ∈ l, p.length ≤ k) : (joinS l).length ≤ l.length * (k + 1) := by
  refine Nat.le_trans (StrLaws.join_length_le _ _) ?_
  have e1 : (Str.ofString "/").length = 1 := by decide
  rw [e1, Nat.mul_one, Nat.mul_succ]
  have : (l.map (·.length)).sum ≤ l.length * k := by
    clear e1
    induction l with
    | nil => simp
    | cons p l ih =>
      rw [List.map_cons, List.sum_cons, List.length_cons, Nat.succ_mul]
      have h1 := h p (.head _)
      have h2 := ih fun q hq => h q (.tail _ hq)
      walk_at "om"
  walk_at "om"
theorem pathT_le (l : List Str) {k : Nat} (h : ∀ p ∈ l, p.length ≤ k) : (pathT l).length ≤ 1 + l.length * (k + 1) := by
  unfold pathT
  rw [Str.length_append]
  have := joinS_len l h
  have e1 : (Str.ofString "/").length = 1 := by decide
  walk_at "om"
theorem nm_seg {n : Int} (h : 0 ≤ n) : Seg (nm n) ∧ nm n ≠ Str.ofString ".." := by
  obtain ⟨m, rfl, e⟩ := nm_cp h
  have hne : ∀ y : Str, y.cps.toList[0]? ≠ some 110 → nm (m : Int) ≠ y := fun y hy q => hy (by rw [← q, e]; rfl)
  refine ⟨⟨?_, hne _ (by decide), hne _ (by decide)⟩, hne _ (by decide)⟩
  unfold Free
  rw [e, List.mem_cons, not_or]
  refine ⟨by decide, fun hm => ?_⟩
  obtain ⟨c, hc, ec⟩ := List.mem_map.mp hm
  have hd := Nat.isDigit_of_mem_toDigits (by decide) (by decide) hc
  have : c = '/' := toNat_inj' (by rw [ec]; rfl)
  subst this
  exact absurd hd (by decide)
theorem dd_seg : Seg (Str.ofString "..") := ⟨by unfold Free; decide, by decide, by decide⟩
theorem norm_name {ys : List Str} {p : Str} (h : Seg p) (hd : p ≠ Str.ofString "..") : normStep ys p = ys ++ [p] := by
  unfold normStep
  rw [if_neg (by rw [not_or]; exact ⟨h.ne, h.nd⟩), if_neg hd]
theorem norm_names : ∀ {ns : List Int} {ys : List Str}, (∀ n ∈ ns, 0 ≤ n) → (ns.map nm).foldl normStep ys = ys ++ ns.map nm
  | [], ys, _ => by simp
  | n :: ns, ys, h => by
    have hn := nm_seg (h n (.head _))
    rw [List.map_cons, List.foldl_cons, norm_name hn.1 hn.2, norm_names fun q hq => h q (.tail _ hq)]
    simp
def dots (u : Nat) : List Str := List.replicate u (Str.ofString "..")
theorem norm_dots : ∀ (u : Nat) (ys : List Str), (dots u).foldl normStep ys = ys.take (ys.length - u)
  | 0, ys => by simp [dots]
  | u + 1, ys => by
    have e : normStep ys (Str.ofString "..") = ys.dropLast := by
      unfold normStep
      rw [if_neg (by rw [not_or]; exact ⟨dd_seg.ne, dd_seg.nd⟩), if_pos rfl]
    show (Str.ofString ".." :: dots u).foldl normStep ys = _
    rw [List.foldl_cons, e, norm_dots u, List.dropLast_eq_take, List.take_take, List.length_take, Nat.min_eq_left (Nat.sub_le ys.length 1), Nat.min_eq_left (Nat.sub_le (ys.length - 1) u), Nat.sub_sub, Nat.add_comm 1 u]
def jt1 (a : List Int) (u : Nat) : Str := (dots u).foldl joinStep (pathOf a)
def jt2 (a : List Int) (u : Nat) (ns : List Int) : Str := (dots u ++ ns.map nm).foldl joinStep (pathOf a)
theorem pathOf_eq (a : List Int) : pathOf a = pathT (a.map nm) := by unfold pathOf pathT; rw [tjoin]
theorem names_seg {a : List Int} (h : ∀ n ∈ a, 0 ≤ n) : ∀ p ∈ a.map nm, Seg p := fun p hp => by
  obtain ⟨n, hn, rfl⟩ := List.mem_map.mp hp
  exact (nm_seg (h n hn)).1
theorem dots_seg (u : Nat) : ∀ p ∈ dots u, Seg p := fun p hp => by rw [List.eq_of_mem_replicate hp]; exact dd_seg
theorem segs_app {a b : List Str} (h1 : ∀ p ∈ a, Seg p) (h2 : ∀ p ∈ b, Seg p) : ∀ p ∈ a ++ b, Seg p := fun p hp => (List.mem_append.mp hp).elim (h1 p) (h2 p)
theorem lens_app {a b : List Str} {k : Nat} (h1 : ∀ p ∈ a, p.length ≤ k) (h2 : ∀ p ∈ b, p.length ≤ k) : ∀ p ∈ a ++ b, p.length ≤ k := fun p hp => (List.mem_append.mp hp).elim (h1 p) (h2 p)
theorem dots_len (u : Nat) : ∀ p ∈ dots u, p.length ≤ 100 := fun p hp => by rw [List.eq_of_mem_replicate hp]; decide
theorem path_starts' (l : List Str) : Txt.startswith (pathT l) (Str.ofString "/") = true := by rw [starts_iff, pathT_cp]; rfl
section
variable {a r : List Int} (ha : RowOk a) (hr : RowOk r)
include ha
theorem names_len : ∀ p ∈ a.map nm, p.length ≤ 100 := fun p hp => by
  obtain ⟨n, hn, rfl⟩ := List.mem_map.mp hp
  have := ha.2 n hn
  exact nm_len this.1 (by walk_at "om")
theorem row_pos : ∀ n ∈ a, 0 ≤ n := fun n hn => (ha.2 n hn).1
theorem row_drop (k : Nat) : RowOk (a.drop k) := ⟨by rw [List.length_drop]; have := ha.1; walk_at "om", fun n hn => ha.2 n (List.mem_of_mem_drop hn)⟩
theorem row_take (k : Nat) : RowOk (a.take k) := ⟨by rw [List.length_take]; have := ha.1; walk_at "om", fun n hn => ha.2 n (List.mem_of_mem_take hn)⟩
theorem path_len : (pathOf a).length ≤ 400 := by
  rw [pathOf_eq]
  have := pathT_le _ (names_len ha)
  have h3 := ha.1
  rw [List.length_map] at this
  walk_at "om"
theorem jt1_eq (u : Nat) : jt1 a u = pathT (a.map nm ++ dots u) := by
  unfold jt1
  rw [pathOf_eq, join_fold (names_seg (row_pos ha)) (dots_seg u)]
theorem jt1_abs : AbsT (jt1 a (a.length - same a r)) := by
  rw [jt1_eq ha]
  refine abs_pathT (segs_app (names_seg (row_pos ha)) (dots_seg _)) ?_
  have := pathT_le _ (lens_app (names_len ha) (dots_len (a.length - same a r)))
  have h3 := ha.1
  unfold dots at *
  rw [List.length_append, List.length_map, List.length_replicate] at this
  walk_at "om"
theorem jt1_norm : normT (jt1 a (a.length - same a r)) = pathOf (a.take (same a r)) := by
  rw [jt1_eq ha, norm_pathT fun p hp => (segs_app (names_seg (row_pos ha)) (dots_seg _) p hp).free, List.foldl_append, norm_names (row_pos ha), List.nil_append, norm_dots, List.length_map, pathOf_eq, List.map_take]
  congr 2
  exact Nat.sub_sub_self (same_le1 a r)
include hr
theorem take_drop : (a.take (same a r)).map nm ++ (r.drop (same a r)).map nm = r.map nm := by
  rw [take_same, ← List.map_append, List.take_append_drop]
theorem jt2_eq (u k : Nat) : jt2 a u (r.drop k) = pathT (a.map nm ++ (dots u ++ (r.drop k).map nm)) := by
  unfold jt2
  rw [pathOf_eq, join_fold (names_seg (row_pos ha)) (segs_app (dots_seg u) (names_seg (row_pos (row_drop hr k))))]
theorem jt2_abs : AbsT (jt2 a (a.length - same a r) (r.drop (same a r))) := by
  rw [jt2_eq ha hr]
  refine abs_pathT (segs_app (names_seg (row_pos ha)) (segs_app (dots_seg _) (names_seg (row_pos (row_drop hr _))))) ?_
  have := pathT_le _ (lens_app (names_len ha) (lens_app (dots_len (a.length - same a r)) (names_len (row_drop hr (same a r)))))
  have h3 := ha.1
  have h4 := hr.1
  unfold dots at *
  rw [List.length_append, List.length_append, List.length_map, List.length_map, List.length_replicate, List.length_drop] at this
  walk_at "om"
theorem jt2_norm : normT (jt2 a (a.length - same a r) (r.drop (same a r))) = pathOf r := by
  rw [jt2_eq ha hr, norm_pathT fun p hp => (segs_app (names_seg (row_pos ha)) (segs_app (dots_seg _) (names_seg (row_pos (row_drop hr _)))) p hp).free, List.foldl_append, List.foldl_append, norm_names (row_pos ha), List.nil_append, norm_dots, List.length_map, norm_names (row_pos (row_drop hr _)), pathOf_eq]
  have e : a.length - (a.length - same a r) = same a r := by
    exact Nat.sub_sub_self (same_le1 a r)
  rw [e, ← List.map_take, take_drop ha hr]
theorem jt3 : ((r.drop (same a r)).map nm).foldl joinStep (pathOf (a.take (same a r))) = pathOf r := by
  rw [pathOf_eq, join_fold (names_seg (row_pos (row_take ha _))) (names_seg (row_pos (row_drop hr _))), take_drop ha hr, pathOf_eq]
end
theorem path_rows {a : List Int} (ha : RowOk a) : (Txt.split (pathOf a) (Str.ofString "/")).filter keepS = a.map nm := by
  have h := names_seg (row_pos ha)
  rw [pathOf_eq, split_pathT fun p hp => (h p hp).free, keep_comps h]
theorem path_starts {a : List Int} (ha : RowOk a) : Txt.startswith (pathOf a) (Str.ofString "/") = true := by
  rw [pathOf_eq]; exact path_starts' _
end
section
theorem words_Gen25_0 : True := by
  k_with_none
  (k_with "m ne" => ((refine neN ?_); (try dsimp only); walk_at "om"))
  (k_with "m om" => (first | with_reducible assumption | exact Nat.le_trans (by with_reducible assumption) (by decide) | exact om4 (by with_reducible assumption) (by decide) | exact om2 (by with_reducible assumption) (by decide) | exact om1 (by with_reducible assumption) (by decide) | exact om0 (by with_reducible assumption) | exact om22 (by with_reducible assumption) (by decide) | exact om18 (by decide) | exact om3 (by with_reducible assumption) (by decide) | exact om10 (by with_reducible assumption) (by with_reducible assumption) (by decide) | exact Ne.symm (by with_reducible assumption) | exact Nat.ne_of_lt (by with_reducible assumption) | exact Nat.ne_of_gt (by with_reducible assumption) | exact om12 (by with_reducible assumption) | exact om14 (by decide) | exact om15 (by decide) | exact om16 (by with_reducible assumption) | exact om17 _ | exact om27 _ _ | exact om28 (by with_reducible assumption) | exact om25 (by with_reducible assumption) | exact om26 (by with_reducible assumption) | exact Nat.succ_le_of_lt (by with_reducible assumption) | exact Nat.lt_of_succ_le (by with_reducible assumption) | exact Nat.sub_succ_lt_self (by with_reducible assumption) | exact Nat.le_antisymm (by with_reducible assumption) (by with_reducible assumption) | exact Nat.le_of_lt (by with_reducible assumption) | exact om11 (by with_reducible assumption) | exact om7 (by with_reducible assumption) (by with_reducible assumption) | exact om8 (by with_reducible assumption) (by with_reducible assumption) | exact om9 (by with_reducible assumption) (by with_reducible assumption) | exact om19 (by with_reducible assumption) (by decide) | exact om20 (by with_reducible assumption) (by decide) | exact om21 (by with_reducible assumption) (by decide) | exact om23 (by with_reducible assumption) | exact om24 (by with_reducible assumption) | exact And.right (by with_reducible assumption) | exact And.left (by with_reducible assumption) | lia | omega))
  trivial
theorem strs_append (a b : List (Str × Tok)) : strValues a ++ strValues b = strValues (a ++ b) := by simp [strValues]
theorem fold_rep (v : Value) (u : Nat) : List.foldl (fun x1 x2 : Array Value => x1 ++ x2) #[] (List.replicate u #[v]) = (List.replicate u v).toArray := by
  have h : ∀ (u : Nat) (a : List Value), List.foldl (fun x1 x2 : Array Value => x1 ++ x2) a.toArray (List.replicate u #[v]) = (a ++ List.replicate u v).toArray := by
    intro u
    induction u with
    | zero => intro a; simp
    | succ u ih =>
      intro a
      rw [List.replicate_succ, List.foldl_cons]
      have e : a.toArray ++ #[v] = (a ++ [v]).toArray := by simp
      rw [e, ih (a ++ [v]), List.replicate_succ, List.append_assoc]
      rfl
  simpa using h u []
section
variable {prog : Program} {w : World} {A : Around} {E : Value → Shared → Prop} {s : Shared} {h₀ : Heap} {L l : Addr} {m : Str → Option Value} {news : List (Addr × Obj)}
theorem mulDots {c : Str} {t t2 : Tok} {k u : Nat} {Q : Value → Shared → Prop} (F : Fr h₀ L s.heap m) (N : News h₀ L s.heap news) (hm : (l, W.listOf #[.str c t] k) ∈ news) (hu : u ≤ 100)
    (h : ∀ D h', Fr h₀ L h' m → News h₀ L h' ((D, W.listOf (strValues (List.replicate u (c, t))).toArray 0) :: news) → (∀ p ∈ news, p.1 < D) → Q (.ref D) { s with heap := h' }) :
    wpAny (model prog w) A (binaryOp .Mult (.ref l) (.int (u : Nat) t2)) Q E s := by
  refine mul_list F N (N _ hm).1 (by walk_at "om") (by walk_at "om") (by simp; walk_at "om") fun h' F' N' => ?_
  have e : List.foldl (fun x1 x2 : Array Value => x1 ++ x2) #[] (List.replicate (if (#[Value.str c t] : Array Value).isEmpty = true then 0 else (u : Int).toNat) #[.str c t]) = (strValues (List.replicate u (c, t))).toArray := by
    rw [if_neg (by simp), Int.toNat_natCast, fold_rep]
    simp [strValues]
  rw [e] at N'
  exact h _ _ F' N' fun p hp => Heap.lt_size (N p hp).1
end
end
section
theorem words_Gen26_0 : True := by
  k_with_none
  (k_with "m ne" => ((refine neN ?_); (try dsimp only); walk_at "om"))
  (k_with "m om" => (first | with_reducible assumption | exact Nat.le_trans (by with_reducible assumption) (by decide) | exact om4 (by with_reducible assumption) (by decide) | exact om2 (by with_reducible assumption) (by decide) | exact om1 (by with_reducible assumption) (by decide) | exact om0 (by with_reducible assumption) | exact om22 (by with_reducible assumption) (by decide) | exact om18 (by decide) | exact om3 (by with_reducible assumption) (by decide) | exact om10 (by with_reducible assumption) (by with_reducible assumption) (by decide) | exact Ne.symm (by with_reducible assumption) | exact Nat.ne_of_lt (by with_reducible assumption) | exact Nat.ne_of_gt (by with_reducible assumption) | exact om12 (by with_reducible assumption) | exact om14 (by decide) | exact om15 (by decide) | exact om16 (by with_reducible assumption) | exact om17 _ | exact om27 _ _ | exact om28 (by with_reducible assumption) | exact om25 (by with_reducible assumption) | exact om26 (by with_reducible assumption) | exact Nat.succ_le_of_lt (by with_reducible assumption) | exact Nat.lt_of_succ_le (by with_reducible assumption) | exact Nat.sub_succ_lt_self (by with_reducible assumption) | exact Nat.le_antisymm (by with_reducible assumption) (by with_reducible assumption) | exact Nat.le_of_lt (by with_reducible assumption) | exact om11 (by with_reducible assumption) | exact om7 (by with_reducible assumption) (by with_reducible assumption) | exact om8 (by with_reducible assumption) (by with_reducible assumption) | exact om9 (by with_reducible assumption) (by with_reducible assumption) | exact om19 (by with_reducible assumption) (by decide) | exact om20 (by with_reducible assumption) (by decide) | exact om21 (by with_reducible assumption) (by decide) | exact om23 (by with_reducible assumption) | exact om24 (by with_reducible assumption) | exact And.right (by with_reducible assumption) | exact And.left (by with_reducible assumption) | lia | omega))
  trivial
section
variable {w : World} {loose : List Str} {mean : ExcName → Option Value} {mg mb : Str → Option Value}
variable {A A₀ : Around} {E : Value → Shared → Prop} {Q : Value → Shared → Prop} {s : Shared} {base g : Heap} {env : Env} {L : Addr} {m : Str → Option Value} {news : List (Addr × Obj)}
theorem jstep {x y : Str} {t : Tok} {bs : List (Str × Tok)} {args : List Value}
  (B : Below A₀ base [] g) (F : Fr g L s.heap m) (N : News g L s.heap news) (X : (hd.heap_39 w.params).In g) (T : Top hd.view_39 loose mean mg mb g) (hA : A.frames = some [env]) (hf : env.frame = some L) (hk : env.scope.kind = .function)
  (hdp : A.depth + 40 < recursionLimit) (hun : A.units + 400 < cLine) (hh : A.handled = none)
  (ha : args = .str x t :: strValues bs) (hlen : x.length ≤ 1000) (hbl : ∀ b ∈ bs, b.1.length ≤ 100) (hbn : bs.length ≤ 100) (he : (bs.map (·.1)).foldl joinStep x = y)
  (h : ∀ h' tk t', Fr g L h' m → News g L h' news → Q (.str y t') { s with heap := h', toks := tk }) : wpAny (model Pg w) A (call (.ref 122) args) Q E s := by
  subst ha he
  exact wpAny_call (join (bel B F hA hf hk) (keepX X F) (T.keeps F.keep) (by walk_at "om") (by walk_at "om") hh hlen hbl hbn fun h' tk t' hs => h h' tk t' (frS F hs) (newsS N hs))
theorem nstep {x y : Str} {t : Tok} {args : List Value}
  (B : Below A₀ base [] g) (F : Fr g L s.heap m) (N : News g L s.heap news) (X : (hd.heap_39 w.params).In g) (T : Top hd.view_39 loose mean mg mb g) (hA : A.frames = some [env]) (hf : env.frame = some L) (hk : env.scope.kind = .function)
  (hdp : A.depth + 40 < recursionLimit) (hun : A.units + 400 < cLine) (hh : A.handled = none)
  (ha : args = [.str x t]) (hx : AbsT x) (he : normT x = y)
  (h : ∀ h' tk t', Fr g L h' m → News g L h' news → Q (.str y t') { s with heap := h', toks := tk }) : wpAny (model Pg w) A (call (.ref 136) args) Q E s := by
  subst ha he
  exact wpAny_call (normpath (bel B F hA hf hk) (keepX X F) (T.keeps F.keep) (by walk_at "om") (by walk_at "om") hh hx.len hx.e1 hx.e2 hx.ne fun h' tk t' hs => h h' tk t' (frS F hs) (newsS N hs))
theorem pstep {l : Addr} {vs : List Value} {ns : List Int}
  (B : Below A₀ base [] g) (F : Fr g L s.heap m) (N : News g L s.heap news) (X : (hd.heap_39 w.params).In g) (T : Top hd.view_39 loose mean mg mb g) (hA : A.frames = some [env]) (hf : env.frame = some L) (hk : env.scope.kind = .function)
  (hdp : A.depth + 40 < recursionLimit) (hun : A.units + 400 < cLine) (hh : A.handled = none)
  (hl : s.heap.IsList l vs.toArray) (hi : IntsAre vs ns) (hr : RowOk ns)
  (h : ∀ h' tk t', Fr g L h' m → News g L h' news → Q (.str (pathOf ns) t') { s with heap := h', toks := tk }) : wpAny (model Pg w) A (call (.ref 160) [.ref l]) Q E s :=
  wpAny_call (law_path (bel B F hA hf hk) (keepX X F) (T.keeps F.keep) (by walk_at "om") (by walk_at "om") hh hl hi (by have := hr.1; walk_at "om") (fun n hn => by have := hr.2 n hn; walk_at "om") fun h' tk t' hs => h h' tk t' (frS F hs) (newsS N hs))
theorem cstep {l : Addr} {p0 : Str × Tok} {pr : List (Str × Tok)} {y : Str}
  (B : Below A₀ base [] g) (F : Fr g L s.heap m) (N : News g L s.heap news) (X : (hd.heap_39 w.params).In g) (T : Top hd.view_39 loose mean mg mb g) (hA : A.frames = some [env]) (hf : env.frame = some L) (hk : env.scope.kind = .function)
  (hdp : A.depth + 40 < recursionLimit) (hun : A.units + 400 < cLine) (hh : A.handled = none)
  (hl : s.heap.IsList l (strValues (p0 :: pr)).toArray) (hps : (p0 :: pr).length ≤ 100) (hpl : ∀ p ∈ p0 :: pr, p.1.length ≤ 1000) (hsw : ∀ p ∈ p0 :: pr, Txt.startswith p.1 (Str.ofString "/") = true)
  (he : ∀ a b, a ∈ (p0 :: pr).map (fun p => (Txt.split p.1 (Str.ofString "/")).filter keepS) → (∀ r ∈ (p0 :: pr).map (fun p => (Txt.split p.1 (Str.ofString "/")).filter keepS), ltL r a = false) → (∀ r ∈ (p0 :: pr).map (fun p => (Txt.split p.1 (Str.ofString "/")).filter keepS), ltL b r = false) → b ∈ (p0 :: pr).map (fun p => (Txt.split p.1 (Str.ofString "/")).filter keepS) →
    Str.ofString "/" ++ Txt.join (Str.ofString "/") (a.take (same a b)) = y)
  (h : ∀ h' tk t', Fr g L h' m → News g L h' news → Q (.str y t') { s with heap := h', toks := tk }) : wpAny (model Pg w) A (call (.ref 141) [.ref l]) Q E s := by
  refine wpAny_call (commonpath (bel B F hA hf hk) (keepX X F) (T.keeps F.keep) (by walk_at "om") (by walk_at "om") hh hl hps hpl hsw fun h' tk t' a b h1 h2 h3 h4 hs => ?_)
  rw [he a b h1 h2 h3 h4]
  exact h h' tk t' (frS F hs) (newsS N hs)
theorem vraw {I O : Addr} {i n : Nat} {vs : List Value} {ns rest : List Int}
  (B : Below A g [env] s.heap) (X : (hd.heap_39 w.params).In g) (T : Top hd.view_39 loose mean mg mb g) (hbI : g.get? I = none) (hf : env.frame ≠ some I)
  (hdp : A.depth + 20 < recursionLimit) (hun : A.units + 200 < cLine) (hh : A.handled = none)
  (hit : s.heap.get? I = some (iterObj O i)) (hl : s.heap.IsList O vs.toArray) (hi : IntsAre vs ns) (hd : ns.drop i = octs n ++ rest) (hn : n < 262144)
  (h : ∀ h' tk t, (∀ b o, b ≠ I → s.heap.get? b = some o → h'.get? b = some o) → h'.get? I = some (iterObj O (i + (octs n).length)) → Q (.int n t) { s with heap := h', toks := tk }) :
  wpAny (model Pg w) A (call (.ref 28) [.ref I]) Q E s := by
  obtain ⟨k, hk2, hnk, hlen, ho⟩ := octs_bj hn
  refine wpAny_call (varint (k := k) B X T hdp hun hh hbI ?_ hit hl hi hk2 hnk (fun j hj => drop_get hd (ho j hj)) fun h' tk t hkp hI => ?_)
  · intro env' he q
    rw [List.mem_singleton.mp he] at q
    exact hf q
  · exact h h' tk t hkp (by rw [hlen]; exact hI)
end
theorem ys_strs : ∀ {ys : List Value} {ns : List Int}, ys.length = ns.length → (∀ (i : Nat) y, ys[i]? = some y → ∃ n t, ns[i]? = some n ∧ y = Value.str (nm n) t) → ∃ bs : List (Str × Tok), ys = strValues bs ∧ bs.map (·.1) = ns.map nm
  | [], [], _, _ => ⟨[], rfl, rfl⟩
  | y :: ys, n :: ns, hl, h => by
    obtain ⟨n', t, e1, e2⟩ := h 0 y rfl
    simp at e1
    subst e1
    obtain ⟨bs, rfl, e3⟩ := ys_strs (ys := ys) (ns := ns) (by simpa using hl) fun i y hy => by
      obtain ⟨n', t, e1, e2⟩ := h (i + 1) y (by simpa using hy)
      exact ⟨n', t, by simpa using e1, e2⟩
    exact ⟨(nm n, t) :: bs, by rw [e2]; rfl, by simp [e3]⟩
  | [], _ :: _, hl, _ => by simp at hl
  | _ :: _, [], hl, _ => by simp at hl
/-- where the j-th number of a row of octets begins -/
def posAt (ns : List Int) (j : Nat) : Nat := ((ns.take j).flatMap fun n => octs n.toNat).length
theorem posAt_drop {es ns rest : List Int} {i j : Nat} {n : Int} (h : es.drop i = ns.flatMap (fun n => octs n.toNat) ++ rest) (hn : ns[j]? = some n) :
    posAt ns (j + 1) = posAt ns j + (octs n.toNat).length ∧ ∃ rest', es.drop (i + posAt ns j) = octs n.toNat ++ rest' := by
  have e1 : ns.take (j + 1) = ns.take j ++ [n] := by rw [List.take_add_one, hn]; rfl
  refine ⟨?_, ?_⟩
  · unfold posAt
    rw [e1, List.flatMap_append, List.length_append]
    simp
  · have e2 : ns = ns.take j ++ n :: ns.drop (j + 1) := by
      have h1 := (List.getElem?_eq_some_iff.mp hn)
      obtain ⟨h1, h2⟩ := h1
      conv => lhs; rw [← List.take_append_drop j ns]
      rw [List.drop_eq_getElem_cons h1, h2]
    have e3 : ns.flatMap (fun n => octs n.toNat) = (ns.take j).flatMap (fun n => octs n.toNat) ++ (octs n.toNat ++ (ns.drop (j + 1)).flatMap fun n => octs n.toNat) := by
      conv => lhs; rw [e2]
      rw [List.flatMap_append, List.flatMap_cons]
    rw [← List.drop_drop, h, e3, List.append_assoc]
    unfold posAt
    rw [List.drop_left]
    exact ⟨_, by rw [List.append_assoc]⟩
section
variable {prog : Program} {w : World} {A : Around} {E : Value → Shared → Prop} {s : Shared} {env : Env}
theorem nmG {p : Program} {loose : List Str} {mean : ExcName → Option Value} {mg mb : Str → Option Value} {K : Frag} {scope : Scope} {cl : List (Str × Addr)} {C : Addr} {x : Str} {pos : Pos} {v : Value} {Q : Value → Shared → Prop} (X : K.In s.heap) (T : Top p loose mean mg mb s.heap)
    (e : nsIn K mainGlobals x = some (some v)) (h : Q v s) (hg : env.globals = mainGlobals)
    (hk : (compEnvC scope cl C env).scope.kind = .function) (hx : (compEnvC scope cl C env).kindOf x = some .globalImplicit) (hd : (x == ("__debug__" : Str)) = false) : wpAny (model prog w) A (eval (.Name x pos) (compEnvC scope cl C env)) Q E s :=
  Name_function_global hk hx (loadGlobal_global (env := compEnvC scope cl C env) (mg := mg) (by show s.heap.Ns env.globals mg; rw [hg]; exact T.g) (mg_of X T.g e) h) hd
end
end
section
theorem words_Gen27_0 : True := by
  k_with_none
  (k_with "m ne" => ((refine neN ?_); (try dsimp only); walk_at "om"))
  (k_with "m om" => (first | with_reducible assumption | exact Nat.le_trans (by with_reducible assumption) (by decide) | exact om4 (by with_reducible assumption) (by decide) | exact om2 (by with_reducible assumption) (by decide) | exact om1 (by with_reducible assumption) (by decide) | exact om0 (by with_reducible assumption) | exact om22 (by with_reducible assumption) (by decide) | exact om18 (by decide) | exact om3 (by with_reducible assumption) (by decide) | exact om10 (by with_reducible assumption) (by with_reducible assumption) (by decide) | exact Ne.symm (by with_reducible assumption) | exact Nat.ne_of_lt (by with_reducible assumption) | exact Nat.ne_of_gt (by with_reducible assumption) | exact om12 (by with_reducible assumption) | exact om14 (by decide) | exact om15 (by decide) | exact om16 (by with_reducible assumption) | exact om17 _ | exact om27 _ _ | exact om28 (by with_reducible assumption) | exact om25 (by with_reducible assumption) | exact om26 (by with_reducible assumption) | exact Nat.succ_le_of_lt (by with_reducible assumption) | exact Nat.lt_of_succ_le (by with_reducible assumption) | exact Nat.sub_succ_lt_self (by with_reducible assumption) | exact Nat.le_antisymm (by with_reducible assumption) (by with_reducible assumption) | exact Nat.le_of_lt (by with_reducible assumption) | exact om11 (by with_reducible assumption) | exact om7 (by with_reducible assumption) (by with_reducible assumption) | exact om8 (by with_reducible assumption) (by with_reducible assumption) | exact om9 (by with_reducible assumption) (by with_reducible assumption) | exact om19 (by with_reducible assumption) (by decide) | exact om20 (by with_reducible assumption) (by decide) | exact om21 (by with_reducible assumption) (by decide) | exact om23 (by with_reducible assumption) | exact om24 (by with_reducible assumption) | exact And.right (by with_reducible assumption) | exact And.left (by with_reducible assumption) | lia | omega))
  trivial
section
variable {w : World} {loose : List Str} {mean : ExcName → Option Value} {mg mb : Str → Option Value}
variable {A A₀ : Around} {E : Value → Shared → Prop} {Q : Value → Shared → Prop} {s : Shared} {base g : Heap} {env : Env} {L I O : Addr} {m : Str → Option Value} {news : List (Addr × Obj)} {vs : List Value} {i : Nat}
theorem over_fr {h h' : Heap} (F : Fr g L h m) (hI : g.get? I = none) (hIL : I ≠ L) (k1 : ∀ b o, b ≠ I → b ∉ [L] → h.get? b = some o → h'.get? b = some o) (k2 : ∀ b o, b ∈ [L] → h.get? b = some o → ∃ sl, h'.get? b = some { o with slots := sl }) : Fr g L h' m := by
  refine ⟨?_, fun b o e => k1 b o (by rintro rfl; rw [hI] at e; cases e) (fun hb => ?_) (F.keep b o e), F.above⟩
  · obtain ⟨o, es, ep, ho, hd, hk, hn⟩ := F.ns
    obtain ⟨sl, e⟩ := k2 L o (.head _) ho
    exact ⟨_, es, ep, e, hd, hk, hn⟩
  · rw [List.mem_singleton.mp hb] at e
    exact Nat.lt_irrefl _ (Nat.lt_of_lt_of_le (Heap.lt_size e) F.above)
theorem over_dicts (F : Fr g L s.heap m) : KtsDicts [L] s.heap := fun b hb => by
  obtain ⟨o, es, ep, ho, hd, _⟩ := F.ns
  rw [List.mem_singleton.mp hb]
  exact ⟨o, es, ep, ho, hd⟩
theorem ostep0
  (B : Below A₀ base [] g) (F : Fr g L s.heap m) (N : News g L s.heap news) (X : (hd.heap_39 w.params).In g) (T : Top hd.view_39 loose mean mg mb g) (hA : A.frames = some [env]) (hf : env.frame = some L) (hk : env.scope.kind = .function)
  (hdp : A.depth + 40 < recursionLimit) (hun : A.units + 400 < cLine) (hh : A.handled = none)
  (hm : (I, iterObj O i) ∈ news) (hl : s.heap.IsList O vs.toArray) (hx : vs.toArray[i]? = none)
  (h : ∀ h' tk, Fr g L h' m → Q (.bool true) { s with heap := h', toks := tk }) : wpAny (model Pg w) A (call (.ref 167) [.ref I]) Q E s := by
  obtain ⟨z1, z2, z3⟩ := N _ hm
  have ef : [env].filterMap (·.frame) = [L] := by simp [hf]
  have B1 : Below A₀ g [] g := ⟨B.stack, fun _ _ e => e, trivial⟩
  refine wpAny_call (law_over0 (bel B1 F hA hf hk) X T (by walk_at "om") (by walk_at "om") hh z3 ?_ z1 hl hx (by rw [ef]; exact over_dicts F) fun h' tk k1 k2 => ?_)
  · intro env' he q
    rw [List.mem_singleton.mp he, hf] at q
    injection q with q
    exact z2 q.symm
  · rw [ef] at k1 k2
    exact h h' tk (over_fr F z3 z2 k1 k2)
theorem ostep1
  (B : Below A₀ base [] g) (F : Fr g L s.heap m) (N : News g L s.heap news) (X : (hd.heap_39 w.params).In g) (T : Top hd.view_39 loose mean mg mb g) (hA : A.frames = some [env]) (hf : env.frame = some L) (hk : env.scope.kind = .function)
  (hdp : A.depth + 40 < recursionLimit) (hun : A.units + 400 < cLine) (hh : A.handled = none)
  (hm : (I, iterObj O i) ∈ news) (hl : s.heap.IsList O vs.toArray) {t0 : Tok} (hx : vs.toArray[i]? = some (.int 65 t0)) (hx1 : vs.toArray[i + 1]? = none)
  (h : ∀ h' tk, Fr g L h' m → Q (.bool true) { s with heap := h', toks := tk }) : wpAny (model Pg w) A (call (.ref 167) [.ref I]) Q E s := by
  obtain ⟨z1, z2, z3⟩ := N _ hm
  have ef : [env].filterMap (·.frame) = [L] := by simp [hf]
  have B1 : Below A₀ g [] g := ⟨B.stack, fun _ _ e => e, trivial⟩
  refine wpAny_call (law_over1 (bel B1 F hA hf hk) X T (by walk_at "om") (by walk_at "om") hh z3 ?_ z1 hl hx hx1 (by rw [ef]; exact over_dicts F) fun h' tk k1 k2 => ?_)
  · intro env' he q
    rw [List.mem_singleton.mp he, hf] at q
    injection q with q
    exact z2 q.symm
  · rw [ef] at k1 k2
    exact h h' tk (over_fr F z3 z2 k1 k2)
theorem ostep2
  (B : Below A₀ base [] g) (F : Fr g L s.heap m) (N : News g L s.heap news) (X : (hd.heap_39 w.params).In g) (T : Top hd.view_39 loose mean mg mb g) (hA : A.frames = some [env]) (hf : env.frame = some L) (hk : env.scope.kind = .function)
  (hdp : A.depth + 40 < recursionLimit) (hun : A.units + 400 < cLine) (hh : A.handled = none)
  (hm : (I, iterObj O i) ∈ news) (hl : s.heap.IsList O vs.toArray) {t0 t1 : Tok} (hx : vs.toArray[i]? = some (.int 65 t0)) (hx1 : vs.toArray[i + 1]? = some (.int 75 t1)) (hx2 : vs.toArray[i + 1 + 1]? = none)
  (h : ∀ h' tk, Fr g L h' m → Q (.bool true) { s with heap := h', toks := tk }) : wpAny (model Pg w) A (call (.ref 167) [.ref I]) Q E s := by
  obtain ⟨z1, z2, z3⟩ := N _ hm
  have ef : [env].filterMap (·.frame) = [L] := by simp [hf]
  have B1 : Below A₀ g [] g := ⟨B.stack, fun _ _ e => e, trivial⟩
  refine wpAny_call (law_over2 (bel B1 F hA hf hk) X T (by walk_at "om") (by walk_at "om") hh z3 ?_ z1 hl hx hx1 hx2 (by rw [ef]; exact over_dicts F) fun h' tk k1 k2 => ?_)
  · intro env' he q
    rw [List.mem_singleton.mp he, hf] at q
    injection q with q
    exact z2 q.symm
  · rw [ef] at k1 k2
    exact h h' tk (over_fr F z3 z2 k1 k2)
theorem newsNil {h : Heap} : News g L h [] := fun q hq => nomatch hq
end
theorem cp_rows {R : List (List Int)} (hok : ∀ r ∈ R, RowOk r) {ps : List (Str × Tok)} (e : ps.map (·.1) = R.map pathOf) : ps.map (fun p => (Txt.split p.1 (Str.ofString "/")).filter keepS) = R.map (·.map nm) := by
  have e1 : ps.map (fun p => (Txt.split p.1 (Str.ofString "/")).filter keepS) = (ps.map (·.1)).map fun x => (Txt.split x (Str.ofString "/")).filter keepS := by rw [List.map_map]; rfl
  rw [e1, e, List.map_map]
  exact List.map_congr_left fun r hr => path_rows (hok r hr)
theorem cp_len {R : List (List Int)} (hok : ∀ r ∈ R, RowOk r) {ps : List (Str × Tok)} (e : ps.map (·.1) = R.map pathOf) : (∀ p ∈ ps, p.1.length ≤ 1000) ∧ ∀ p ∈ ps, Txt.startswith p.1 (Str.ofString "/") = true := by
  have h : ∀ p ∈ ps, ∃ r ∈ R, pathOf r = p.1 := fun p hp => by
    have : p.1 ∈ R.map pathOf := by rw [← e]; exact List.mem_map.mpr ⟨p, hp, rfl⟩
    exact List.mem_map.mp this
  refine ⟨fun p hp => ?_, fun p hp => ?_⟩
  · obtain ⟨r, hr, e⟩ := h p hp
    rw [← e]
    exact Nat.le_trans (path_len (hok r hr)) (by decide)
  · obtain ⟨r, hr, e⟩ := h p hp
    rw [← e]
    exact path_starts (hok r hr)
theorem cp_here {ra r : List Int} (hal : RowOk ra) (hr : RowOk r) {ps : List (Str × Tok)} (e : ps.map (·.1) = [pathOf ra, pathOf r]) : ∀ a b, a ∈ ps.map (fun p => (Txt.split p.1 (Str.ofString "/")).filter keepS) → (∀ r ∈ ps.map (fun p => (Txt.split p.1 (Str.ofString "/")).filter keepS), ltL r a = false) → (∀ r ∈ ps.map (fun p => (Txt.split p.1 (Str.ofString "/")).filter keepS), ltL b r = false) → b ∈ ps.map (fun p => (Txt.split p.1 (Str.ofString "/")).filter keepS) →
    Str.ofString "/" ++ Txt.join (Str.ofString "/") (a.take (same a b)) = pathOf (ra.take (same ra r)) := by
  have e2 := cp_rows (R := [ra, r]) (fun q hq => by
    rcases List.mem_cons.mp hq with rfl | hq
    · exact hal
    · rw [List.mem_singleton.mp hq]; exact hr) e
  rw [e2]
  intro a b h1 h2 h3 h4
  rw [cp_two h1 h2 h3 h4, same_nm (row_pos hal) (row_pos hr), ← List.map_take]
  rfl
theorem cp_told {R : List (List Int)} (hok : ∀ r ∈ R, RowOk r) (hR : R ≠ []) {ps : List (Str × Tok)} (e : ps.map (·.1) = R.map pathOf) : ∀ a b, a ∈ ps.map (fun p => (Txt.split p.1 (Str.ofString "/")).filter keepS) → (∀ r ∈ ps.map (fun p => (Txt.split p.1 (Str.ofString "/")).filter keepS), ltL r a = false) → (∀ r ∈ ps.map (fun p => (Txt.split p.1 (Str.ofString "/")).filter keepS), ltL b r = false) → b ∈ ps.map (fun p => (Txt.split p.1 (Str.ofString "/")).filter keepS) →
    Str.ofString "/" ++ Txt.join (Str.ofString "/") (a.take (same a b)) = pathOf (headT R R.length) := by
  rw [cp_rows hok e]
  intro a b h1 h2 h3 h4
  rw [cp_all hok hR h1 h2 h3 h4]
  rfl
theorem headT_ok {R : List (List Int)} (h : ∀ r ∈ R, RowOk r) (i : Nat) : RowOk (headT R i) := by
  unfold headT
  have h0 : RowOk (R.getD 0 []) := by
    rw [List.getD_eq_getElem?_getD]
    cases e : R[0]? with
    | none => exact ⟨by simp, fun n hn => nomatch hn⟩
    | some r => exact h r (List.mem_of_getElem? e)
  revert h0
  generalize R.getD 0 [] = b
  generalize R.take i = l
  induction l generalizing b with
  | nil => exact id
  | cons r l ih => intro h0; exact ih _ ⟨by rw [List.length_take]; have := h0.1; walk_at "om", fun n hn => h0.2 n (List.mem_of_mem_take hn)⟩
end
section
theorem words_L1_0 : True := by
  k_with_none
  (k_with "m ne" => ((refine neN ?_); (try dsimp only); walk_at "om"))
  (k_with "m om" => (first | with_reducible assumption | exact Nat.le_trans (by with_reducible assumption) (by decide) | exact om4 (by with_reducible assumption) (by decide) | exact om2 (by with_reducible assumption) (by decide) | exact om1 (by with_reducible assumption) (by decide) | exact om0 (by with_reducible assumption) | exact om22 (by with_reducible assumption) (by decide) | exact om18 (by decide) | exact om3 (by with_reducible assumption) (by decide) | exact om10 (by with_reducible assumption) (by with_reducible assumption) (by decide) | exact Ne.symm (by with_reducible assumption) | exact Nat.ne_of_lt (by with_reducible assumption) | exact Nat.ne_of_gt (by with_reducible assumption) | exact om12 (by with_reducible assumption) | exact om14 (by decide) | exact om15 (by decide) | exact om16 (by with_reducible assumption) | exact om17 _ | exact om27 _ _ | exact om28 (by with_reducible assumption) | exact om25 (by with_reducible assumption) | exact om26 (by with_reducible assumption) | exact Nat.succ_le_of_lt (by with_reducible assumption) | exact Nat.lt_of_succ_le (by with_reducible assumption) | exact Nat.sub_succ_lt_self (by with_reducible assumption) | exact Nat.le_antisymm (by with_reducible assumption) (by with_reducible assumption) | exact Nat.le_of_lt (by with_reducible assumption) | exact om11 (by with_reducible assumption) | exact om7 (by with_reducible assumption) (by with_reducible assumption) | exact om8 (by with_reducible assumption) (by with_reducible assumption) | exact om9 (by with_reducible assumption) (by with_reducible assumption) | exact om19 (by with_reducible assumption) (by decide) | exact om20 (by with_reducible assumption) (by decide) | exact om21 (by with_reducible assumption) (by decide) | exact om23 (by with_reducible assumption) | exact om24 (by with_reducible assumption) | exact And.right (by with_reducible assumption) | exact And.left (by with_reducible assumption) | lia | omega))
  trivial
variable {w : World} {loose : List Str} {mean : ExcName → Option Value} {mg mb : Str → Option Value}
theorem words_L1_1 : True := by
  (k_with "m my_hide" => ((have zz_Bq := True.intro); (have zz_Dq := True.intro); (have zz_EAq := True.intro); (have zz_FGq := True.intro); (have zz_Fq := True.intro); (have zz_Iq := True.intro); (have zz_Lq := True.intro); (have zz_MMq := True.intro); (have zz_Mq := True.intro); (have zz_Nq := True.intro); (have zz_Rnq := True.intro); (have zz_Rq := True.intro); (have zz_Tq := True.intro); (have zz_Uq := True.intro); (have zz_Xq := True.intro); (have zz_eq := True.intro); (have zz_g1 := True.intro); (have zz_g2 := True.intro); (have zz_g3 := True.intro); (have zz_gq := True.intro); (have zz_gs := True.intro); (have zz_h1q := True.intro); (have zz_hCq := True.intro); (have zz_hDq := True.intro); (have zz_hIq := True.intro); (have zz_hLq := True.intro); (have zz_hiq := True.intro); (have zz_hjq := True.intro); (have zz_hoq := True.intro); (have zz_hq := True.intro); (have zz_hsq := True.intro); (have zz_hwq := True.intro); (have zz_hxq := True.intro); (have zz_hyq := True.intro); (have zz_itq := True.intro); (have zz_kq := True.intro); (have zz_l1 := True.intro); (have zz_lFq := True.intro); (have zz_lq := True.intro); (have zz_qq := True.intro); (have zz_sq := True.intro); (have zz_t1q := True.intro); (have zz_t2q := True.intro); (have zz_t3q := True.intro); (have zz_tk9 := True.intro); (have zz_tkq := True.intro); (have zz_tq := True.intro); (have zz_wsq := True.intro); (have zz_yq := True.intro)))
  (k_with "m my_show" => (clear zz_Bq zz_Dq zz_EAq zz_FGq zz_Fq zz_Iq zz_Lq zz_MMq zz_Mq zz_Nq zz_Rnq zz_Rq zz_Tq zz_Uq zz_Xq zz_eq zz_g1 zz_g2 zz_g3 zz_gq zz_gs zz_h1q zz_hCq zz_hDq zz_hIq zz_hLq zz_hiq zz_hjq zz_hoq zz_hq zz_hsq zz_hwq zz_hxq zz_hyq zz_itq zz_kq zz_l1 zz_lFq zz_lq zz_qq zz_sq zz_t1q zz_t2q zz_t3q zz_tk9 zz_tkq zz_tq zz_wsq zz_yq))
  (k_with "m my_fill" => ((have dummy : hd.heap_39 w.params = hd.heap_39 w.params ∧ Mine.rw = Mine.rw := by (k_fill; exact ⟨rfl, rfl⟩)); clear dummy))
  (k_with "m my_deep" => (first | exact om2 (by assumption) (by decide) | exact om1 (by assumption) (by decide) | exact om0 (by assumption) | (simp only [depth_under_make, depth_under_kw, depth_in1, depth_deeper, depth_caller, units_in1, units_deeper]; (try dsimp only); walk_at "om")))
  (k_with "m eval Name" => (k_here; (with_reducible show wpAny _ _ (eval (PySem.Expr.Name _ _) (compEnvC _ _ _ _)) _ _ _); with_unfolding_all first | (refine' nmL ?zz_n ?zz_v ?_ ?zz_a ?zz_b ?zz_c; (case zz_b => exact rfl); (case zz_n => assumption); (case zz_v => assumption); (case zz_a => exact rfl); (case zz_c => decide)) | (refine' nmC ?zz_e ?zz_o ?zz_d ?_ ?zz_a ?zz_b ?zz_c; (case zz_b => exact rfl); (case zz_e => exact rfl); (case zz_o => assumption); (case zz_d => assumption); (case zz_a => exact rfl); (case zz_c => decide)) | (refine' nmB ?zz_X ?zz_T ?zz_e ?zz_v ?zz_n ?_ ?zz_g ?zz_b ?zz_h ?zz_i ?zz_j; (case zz_i => exact rfl); (case zz_X => assumption); (case zz_T => assumption); (case zz_e => k_is); (case zz_v => boot_fast); (case zz_n => decide); (case zz_g => exact rfl); (case zz_b => exact rfl); (case zz_h => exact rfl); (case zz_j => decide)) | (refine' nmG ?zz_X ?zz_T ?zz_e ?_ ?zz_g ?zz_h ?zz_i ?zz_j; (case zz_i => exact rfl); (case zz_X => assumption); (case zz_T => assumption); (case zz_e => k_is); (case zz_g => exact rfl); (case zz_h => exact rfl); (case zz_j => decide))))
  (k_with "m call type:range" => (k_here; (with_reducible show wpAny _ _ (call (Value.type "range") [Value.int _ _]) _ _ _); refine call_range_1 ?_))
  trivial
def rowF (x : Int) (k : Nat) : Int := Int.fmod (Int.fdiv (Int.fdiv x 3) (90 ^ k)) 90 * 97
def rowOf (x : Int) : List Int := (List.range (1 + Int.fmod x 3).toNat).map (rowF x)
def xsOf (ns : List Int) : List Int := ns.take 7 ++ [5, 5, 4, 11614, 11885, 3, 5]
def RowG (v : Value) (its : Array Value) : Prop := ∃ x t ys, v = .int x t ∧ its = ys.toArray ∧ IntsAre ys (rowOf x)
theorem rowF_ok (x : Int) (k : Nat) : 0 ≤ rowF x k ∧ rowF x k < 10000 := by
  unfold rowF
  generalize (x.fdiv 3).fdiv (90 ^ k) = y
  have h0 := Int.fmod_nonneg_of_pos y (show (0 : Int) < 90 by decide)
  have h1 := Int.fmod_lt_of_pos y (show (0 : Int) < 90 by decide)
  walk_at "om"
theorem rowsOk (ns : List Int) : ∀ r ∈ (xsOf ns).map rowOf, RowOk r := by
  intro r hr
  obtain ⟨x, _, rfl⟩ := List.mem_map.mp hr
  have h0 := Int.fmod_nonneg_of_pos x (show (0 : Int) < 3 by decide)
  have h1 := Int.fmod_lt_of_pos x (show (0 : Int) < 3 by decide)
  refine ⟨by unfold rowOf; rw [List.length_map, List.length_range]; walk_at "om", ?_⟩
  intro n hn
  obtain ⟨k, _, rfl⟩ := List.mem_map.mp hn
  exact rowF_ok x k
theorem xsOf_len (ns : List Int) : 7 ≤ ((xsOf ns).map rowOf).length ∧ ((xsOf ns).map rowOf).length ≤ 14 := by
  have := List.length_take_le 7 ns
  simp only [xsOf, List.length_map, List.length_append, List.length_cons, List.length_nil]
  walk_at "om"
theorem rows_of {vs : List Value} {xs : List Int} {inner : List (Addr × Obj)} (hi : IntsAre vs xs) (h : Paired (LstE RowG) vs inner) : Paired RowObj (xs.map rowOf) inner := by
  induction hi generalizing inner with
  | nil => cases h; exact .nil
  | cons k t r ih =>
    cases h with
    | cons h hr =>
      refine .cons ?_ (ih hr)
      obtain ⟨its, n, hc, hd, x, t', ys, e1, rfl, hy⟩ := h
      cases e1
      exact ⟨hc, ys, n, hd, hy⟩
theorem words_L1_2 : True := by
  (k_with "m my_list" => (first | exact News.isList (by k_asm) (by k_mem) | exact ⟨_, News.get (by k_asm) (by k_mem), by assumption, _, by assumption⟩))
  trivial
theorem item_first {prog : Program} {A : Around} {E : Value → Shared → Prop} {s : Shared} {value slice : Expr} {a : Addr} {v : Value} {l : List Value} {u : Tok} {Q : Value → Shared → Prop} (hl : s.heap.IsList a (v :: l).toArray) (h : Q v s)
    (hs : subscripted slice false (.ref a) (.int 0 u) = operate [.ref a, .int 0 u] (getItem (.ref a) (.int 0 u)))
    (hg : ∀ r, letTemporaryGo value (.ref a) r = pure ()) : wpAny (model prog w) A (subscriptTail value slice (.ref a) (.int 0 u)) Q E s :=
  item_listL hl (by decide) (by decide) rfl h hs hg
theorem words_L1_3 : True := by
  (k_with "m subscriptTail Name Constant ref int" => (k_here; refine' item_first ?zz_l ?_ ?zz_s ?zz_g; (case zz_l => walk_at "my_list"); (case zz_s => with_unfolding_all rfl); (case zz_g => intro _; with_unfolding_all rfl)))
  (k_with "m exec For Name Name cons nil" => (k_here; (rename Fr _ _ _ _ => zz_lFq); (with_unfolding_all refine' For_invVF zz_lFq ?zz_k1 ?zz_k2 ?_; (case zz_k1 => exact rfl); (case zz_k2 => exact rfl); k_whole)))
  (k_with "m exec For Name BinOp cons nil" => (k_here; (rename Fr _ _ _ _ => zz_lFq); (with_unfolding_all refine' For_invVF zz_lFq ?zz_k1 ?zz_k2 ?_; (case zz_k1 => exact rfl); (case zz_k2 => exact rfl); k_whole)))
  (k_with "m pyIter ref" => (k_here; (with_reducible show wpAny _ _ _ (fun it s₂ => LoopAtV _ _ _ _ _ _ _ _ _ it s₂) _ _); refine Stop.mk ?_))
  trivial
theorem allLt_mem {d : Addr} : ∀ {l : List (Addr × Obj)} {p : Addr × Obj}, AllLt d l → p ∈ l → p.1 < d
  | [], _, _, hp => nomatch hp
  | a :: l, p, h, hp => by
    rcases List.mem_cons.mp hp with rfl | hp
    · exact h.1
    · exact allLt_mem h.2 hp
theorem perm_off {O A D C : Addr} {oA oD oc : Obj} {p0 : Addr × Obj} {l : List (Addr × Obj)} (h1 : O < A) (h2 : D < O) (h3 : p0.1 < O) (h4 : AllLt O (l ++ [(C, oc)])) (hD : D ≠ C) (hp0 : p0.1 ≠ C) (hl : ∀ p ∈ l, p.1 ≠ C) : C < O ∧ ∀ p ∈ (A, oA) :: (D, oD) :: p0 :: l, p.1 ≠ O ∧ p.1 ≠ C := by
  have hC : C < O := allLt_mem h4 (p := (C, oc)) (List.mem_append_right _ (.head _))
  refine ⟨hC, fun p hp => ?_⟩
  rcases List.mem_cons.mp hp with rfl | hp
  · exact ⟨Nat.ne_of_gt h1, Nat.ne_of_gt (Nat.lt_trans hC h1)⟩
  · rcases List.mem_cons.mp hp with rfl | hp
    · exact ⟨Nat.ne_of_lt h2, hD⟩
    · rcases List.mem_cons.mp hp with rfl | hp
      · exact ⟨Nat.ne_of_lt h3, hp0⟩
      · exact ⟨Nat.ne_of_lt (allLt_mem h4 (List.mem_append_left _ hp)), hl p hp⟩
theorem perm_news {g h : Heap} {L : Addr} {t a b c d e : Addr × Obj} {l : List (Addr × Obj)} (N : News g L h (t :: a :: b :: c :: d :: (l ++ [e]))) : News g L h (b :: e :: a :: c :: d :: l) := fun q hq => N q (by
  simp only [List.mem_cons, List.mem_append, List.not_mem_nil, or_false] at hq ⊢
  rcases hq with h | h | h | h | h | h
  · exact .inr (.inr (.inl h))
  · exact .inr (.inr (.inr (.inr (.inr (.inr h)))))
  · exact .inr (.inl h)
  · exact .inr (.inr (.inr (.inl h)))
  · exact .inr (.inr (.inr (.inr (.inl h))))
  · exact .inr (.inr (.inr (.inr (.inr (.inl h))))))
theorem lsx_append {prog : Program} {A : Around} {E : Value → Shared → Prop} {s : Shared} {h₀ : Heap} {L a : Addr} {m : Str → Option Value} {news news' : List (Addr × Obj)} {us : List (Str × Tok)} {k : Nat} {c : Str} {t : Tok} {Q : Value → Shared → Prop} (F : Fr h₀ L s.heap m) (N : News h₀ L s.heap news) (U : Upd a (W.listOf (strValues us).toArray k) (W.listOf (strValues (us ++ [(c, t)])).toArray (k + 1)) news news') (hz : us.length ≤ 100000)
    (h : ∀ h', Fr h₀ L h' m → News h₀ L h' news' → Q .none { s with heap := h' }) : wpAny (model prog w) A (call (.builtin "list.append") [.ref a, .str c t]) Q E s := by
  refine ls_append (k := k) F N (vs := strValues us) (y := .str c t) ?_ (by simpa [strValues] using hz) h
  rw [show strValues us ++ [Value.str c t] = strValues (us ++ [(c, t)]) by simp [strValues]]
  exact U
structure S1 where
  ovs : List Value
  n : Nat
  ad : Addr × Obj
  hd : Addr × Obj
  sm : Option Value
  nb : Option Value
  perm : List (Addr × Obj)
def led1 (O C : Addr) (oc : Obj) (a : S1) : List (Addr × Obj) := (O, W.listOf a.ovs.toArray a.n) :: (C, oc) :: a.perm
structure I1 (R : List (List Int)) (perm0 : List (Addr × Obj)) (O C : Addr) (i : Nat) (a : S1) : Prop where
  ov : IntsAre a.ovs (encT R i)
  ad : RowObj (aheadAt R i) a.ad
  hd : RowObj (headT R i) a.hd
  adm : a.ad ∈ a.perm
  hdm : a.hd ∈ a.perm
  sub : ∀ p ∈ perm0, p ∈ a.perm
  off : ∀ p ∈ a.perm, p.1 ≠ O ∧ p.1 ≠ C
theorem nums_eq {a r : List Int} (h1 : same a r ≤ a.length) (h2 : same a r ≤ r.length) : [((a.length : Int) - (same a r : Nat)), ((r.length : Int) - (same a r : Nat))] ++ r.drop ((same a r : Nat) : Int).toNat = numsOf a r := by
  unfold numsOf
  rw [Int.toNat_natCast, Int.ofNat_sub h1, Int.ofNat_sub h2]
  rfl
theorem newsCut {g h : Heap} {L : Addr} {a b c : Addr × Obj} {l : List (Addr × Obj)} (N : News g L h (a :: b :: c :: l)) : News g L h l := fun q hq => N q (.tail _ (.tail _ (.tail _ hq)))
theorem ints_get {vs : List Value} {ns : List Int} (h : IntsAre vs ns) {i : Nat} {v : Value} (hv : vs[i]? = some v) : ∃ n t, v = .int n t ∧ ns[i]? = some n := by
  have hl := h.length
  have h1 := (List.getElem?_eq_some_iff.mp hv).1
  obtain ⟨t, ht⟩ := h.get i ns[i] (by simp [hl ▸ h1])
  rw [hv] at ht
  exact ⟨_, t, Option.some.inj ht, by simp [hl ▸ h1]⟩
theorem ints_app {vs ws : List Value} {ns ms : List Int} (h : IntsAre vs ns) (h2 : IntsAre ws ms) : IntsAre (vs ++ ws) (ns ++ ms) := by
  induction h with
  | nil => exact h2
  | cons k t _ ih => exact .cons k t ih
theorem newsTail {g h : Heap} {L : Addr} {a : Addr × Obj} {l : List (Addr × Obj)} (N : News g L h (a :: l)) : News g L h l := fun q hq => N q (.tail _ hq)
theorem getD_some {R : List (List Int)} {i : Nat} {r : List Int} (h : R[i]? = some r) : R.getD i [] = r := by
  rw [List.getD_eq_getElem?_getD, h]; rfl
theorem newsPerm4 {g h : Heap} {L : Addr} {a b c d : Addr × Obj} {l : List (Addr × Obj)} (N : News g L h (a :: b :: c :: d :: l)) : News g L h (c :: d :: b :: a :: l) := fun q hq => N q (by
  simp only [List.mem_cons] at hq ⊢
  rcases hq with h | h | h | h | h
  · exact .inr (.inr (.inl h))
  · exact .inr (.inr (.inr (.inl h)))
  · exact .inr (.inl h)
  · exact .inl h
  · exact .inr (.inr (.inr (.inr h))))
structure S2 where
  here : Str
  ht : Tok
  pos : Nat
  told : List (Str × Tok)
  tn : Nat
  up : Option Value
  dn : Option Value
  tp : Option Value
  nm : Option Value
  th : Option Value
def led2 (O C I T : Addr) (oO oC : Obj) (perm : List (Addr × Obj)) (a : S2) : List (Addr × Obj) := (O, oO) :: (C, oC) :: (I, iterObj O a.pos) :: (T, W.listOf (strValues a.told).toArray a.tn) :: perm
structure I2 (R : List (List Int)) (i : Nat) (a : S2) : Prop where
  here : a.here = pathOf (aheadAt R i)
  pos : a.pos = (encT R i).length
  told : a.told.map (·.1) = (R.take i).map pathOf
def mp2 (m₀ : Str → Option Value) (a : S2) (z : Str) : Option Value :=
  if z = Str.ofString "here" then some (.str a.here a.ht) else if z = Str.ofString "ups" then a.up else if z = Str.ofString "downs" then a.dn else if z = Str.ofString "top" then a.tp else if z = Str.ofString "names" then a.nm else if z = Str.ofString "there" then a.th else m₀ z
theorem aheadAt_ok {R : List (List Int)} (h : ∀ r ∈ R, RowOk r) (i : Nat) : RowOk (aheadAt R i) := by
  unfold aheadAt
  split
  · exact ⟨by simp, fun n hn => nomatch hn⟩
  · rw [List.getD_eq_getElem?_getD]
    cases e : R[i - 1]? with
    | none => exact ⟨by simp, fun n hn => nomatch hn⟩
    | some r => exact h r (List.mem_of_getElem? e)
theorem encT_pre (R : List (List Int)) (i j : Nat) : ∃ rest, encT R (i + j) = encT R i ++ rest := by
  induction j with
  | zero => exact ⟨[], by simp⟩
  | succ j ih =>
    obtain ⟨rest, e⟩ := ih
    refine ⟨rest ++ chunk (aheadAt R (i + j)) (R.getD (i + j) []), ?_⟩
    rw [← Nat.add_assoc, encT_succ, e, List.append_assoc]
theorem encT_split {R : List (List Int)} {i : Nat} {r : List Int} (h : R[i]? = some r) : ∃ rest, encT R R.length = encT R i ++ (chunk (aheadAt R i) r ++ rest) := by
  have hi := (List.getElem?_eq_some_iff.mp h).1
  obtain ⟨rest, e⟩ := encT_pre R (i + 1) (R.length - (i + 1))
  refine ⟨rest, ?_⟩
  rw [show i + 1 + (R.length - (i + 1)) = R.length by walk_at "om"] at e
  rw [e, encT_succ, getD_some h, List.append_assoc]
theorem chunk_drop {a r ns rest : List Int} {pos : Nat} (h : ns.drop pos = chunk a r ++ rest) :
    ns.drop pos = octs (a.length - same a r) ++ (octs (r.length - same a r) ++ ((r.drop (same a r)).flatMap (fun n => octs n.toNat) ++ rest)) ∧
    ns.drop (pos + (octs (a.length - same a r)).length) = octs (r.length - same a r) ++ ((r.drop (same a r)).flatMap (fun n => octs n.toNat) ++ rest) ∧
    ns.drop (pos + (octs (a.length - same a r)).length + (octs (r.length - same a r)).length) = (r.drop (same a r)).flatMap (fun n => octs n.toNat) ++ rest ∧
    (chunk a r).length = (octs (a.length - same a r)).length + (octs (r.length - same a r)).length + ((r.drop (same a r)).flatMap fun n => octs n.toNat).length := by
  have e : chunk a r = octs (a.length - same a r) ++ (octs (r.length - same a r) ++ (r.drop (same a r)).flatMap (fun n => octs n.toNat)) := by
    unfold chunk numsOf
    rw [List.flatMap_cons, List.flatMap_cons, Int.toNat_natCast, Int.toNat_natCast]
  rw [e, List.append_assoc, List.append_assoc] at h
  have h2 : ns.drop (pos + (octs (a.length - same a r)).length) = octs (r.length - same a r) ++ ((r.drop (same a r)).flatMap (fun n => octs n.toNat) ++ rest) := by
    rw [← List.drop_drop, h, List.drop_left]
  refine ⟨h, h2, ?_, by rw [e]; simp only [List.length_append]; walk_at "om"⟩
  rw [← List.drop_drop, h2, List.drop_left]
theorem rowOk_take {a : List Int} (h : RowOk a) (k : Nat) : RowOk (a.take k) := ⟨by rw [List.length_take]; have := h.1; walk_at "om", fun n hn => h.2 n (List.mem_of_mem_take hn)⟩
theorem ws_len {ws : List Value} {n : Nat} (h : IntsAre ws (octs n)) : ws.length ≤ 3 ∧ ws.length ≠ 0 := by rw [h.length]; exact octs_len n
theorem map_get {α β : Type} {f : α → β} {l : List α} {i : Nat} {v : β} (h : (l.map f)[i]? = some v) : ∃ p, l[i]? = some p ∧ v = f p := by
  rw [List.getElem?_map] at h
  cases q : l[i]? with
  | none => rw [q] at h; cases h
  | some p => rw [q] at h; exact ⟨p, rfl, (Option.some.inj h).symm⟩
theorem paired_get {α β : Type} {F : α → β → Prop} : ∀ {l₁ : List α} {l₂ : List β} {i : Nat} {b : β}, Paired F l₁ l₂ → l₂[i]? = some b → ∃ a, l₁[i]? = some a ∧ F a b
  | _, _, _, _, .nil, h => by simp at h
  | _, _, 0, b, .cons hf _, h => by
    simp at h; subst h; exact ⟨_, rfl, hf⟩
  | _, _, i + 1, b, .cons _ hr, h => by
    obtain ⟨a, h1, h2⟩ := paired_get hr (by simpa using h)
    exact ⟨a, by simpa using h1, h2⟩
theorem getD_len {R : List (List Int)} (h : ∀ r ∈ R, RowOk r) (i : Nat) : (R.getD i []).length ≤ 3 := by
  rw [List.getD_eq_getElem?_getD]
  cases e : R[i]? with
  | none => simp
  | some r => simpa using (h r (List.mem_of_getElem? e)).1
theorem aheadAt_len {R : List (List Int)} (h : ∀ r ∈ R, RowOk r) (i : Nat) : (aheadAt R i).length ≤ 3 := by
  unfold aheadAt
  split
  · simp
  · exact getD_len h _
theorem headT_len {R : List (List Int)} (h : ∀ r ∈ R, RowOk r) (i : Nat) : (headT R i).length ≤ 3 := by
  unfold headT
  have h0 := getD_len h 0
  revert h0
  generalize R.getD 0 [] = b
  generalize R.take i = l
  induction l generalizing b with
  | nil => exact id
  | cons r l ih => intro h0; exact ih _ (by rw [List.length_take]; walk_at "om")
theorem words_L1_4 : True := by
  (k_with "m my_call" => ((case zz_B => k_asm); (case zz_F => k_asm); (case zz_hA => rfl); (case zz_hf => rfl); (case zz_hk => rfl); (case zz_X => k_asm); (case zz_T => k_asm); (case zz_d => walk_at "my_deep"); (case zz_u => walk_at "my_deep"); (case zz_h => rfl)))
  (k_with "m call ref" => (k_here; with_reducible (first | show wpAny _ _ (call (Value.ref 122) _ _) _ _ _ | show wpAny _ _ (call (Value.ref 136) _ _) _ _ _ | show wpAny _ _ (call (Value.ref 160) _ _) _ _ _ | show wpAny _ _ (call (Value.ref 141) _ _) _ _ _ | show wpAny _ _ (call (Value.ref 167) _ _) _ _ _); refine Stop.mk ?_))
  (k_with "m call ref" => (k_here; (with_reducible show wpAny _ _ (call (Value.ref 155) _ _) _ _ _); refine' wpAny_call (law_same (bel ?zz_B ?zz_F ?zz_hA ?zz_hf ?zz_hk) (keepX ?zz_X ?zz_F) (Top.keeps ?zz_T (Fr.keep ?zz_F)) ?zz_d ?zz_u ?zz_h ?zz_l1 ?zz_i1 ?zz_l2 ?zz_i2 ?zz_z1 ?zz_z2 ?_); walk_at "my_call"; (case zz_l1 => walk_at "my_list"); (case zz_i1 => assumption); (case zz_l2 => walk_at "my_list"); (case zz_i2 => assumption); (case zz_z1 => walk_at "om"); (case zz_z2 => walk_at "om"); intro zz_hq zz_tkq zz_tq zz_hsq; have zz_Fq := frS (by k_asm) zz_hsq; have zz_Nq := newsS (by k_asm) zz_hsq; clear zz_hsq; (try k_sweep); (try dsimp only)))
  (k_with "m call ref" => (k_here; (with_reducible show wpAny _ _ (call (Value.ref 148) _ _) _ _ _); refine' wpAny_call (law_octets (bel ?zz_B ?zz_F ?zz_hA ?zz_hf ?zz_hk) (keepX ?zz_X ?zz_F) (Top.keeps ?zz_T (Fr.keep ?zz_F)) ?zz_d ?zz_u ?zz_h ?zz_n ?_); walk_at "my_call"; (case zz_n => walk_at "om"); intro zz_hq zz_tkq zz_Dq zz_wsq zz_hsq zz_hDq zz_hoq zz_hiq; have zz_hwq := ws_len zz_hiq; have zz_Fq := frS (by k_asm) zz_hsq; have zz_Nq := newsAdd (by k_asm) (by k_asm) zz_hsq zz_hDq zz_hoq; have zz_l1 := newsNe (by k_asm) zz_hDq; simp only [AllNe, and_true] at zz_l1; clear zz_hsq zz_hDq zz_hoq; (try k_sweep); (try dsimp only)))
  (k_with "m call builtin:list.extend" => (k_here; (with_reducible show wpAny _ _ (call (Value.builtin _) [Value.ref _, Value.ref _]) _ _ _); refine' ls_extend ?zz_F ?zz_N ?zz_b ?zz_ne ?zz_U ?zz_z ?_; (case zz_F => k_asm); (case zz_N => k_asm); (case zz_b => k_mem); (case zz_ne => walk_at "om"); (case zz_U => k_upd); (case zz_z => walk_at "om"); intro zz_hq zz_Fq zz_Nq; (try k_sweep)))
  (k_with "m call builtin:iter" => (k_here; (with_reducible show wpAny _ _ (call (Value.builtin "iter") [Value.ref _]) _ _ _); refine' iterN ?zz_F ?zz_N ?zz_l ?_; (case zz_F => k_asm); (case zz_N => k_asm); (case zz_l => walk_at "my_list"); intro zz_hq zz_Iq zz_Fq zz_Nq zz_l1; (try k_lt zz_l1); (try k_sweep)))
  (k_with "m call ref" => (k_here; (with_reducible show wpAny _ _ (call (Value.ref 28) [Value.ref _] _) _ _ _); refine' vstep ?zz_B ?zz_F ?zz_N ?zz_U ?zz_X ?zz_T ?zz_A ?zz_f ?zz_k ?zz_d ?zz_u ?zz_h ?zz_l ?zz_i ?zz_dr ?zz_n ?_; (case zz_B => k_asm); (case zz_F => k_asm); (case zz_N => k_asm); (case zz_U => k_upd); (case zz_X => k_asm); (case zz_T => k_asm); (case zz_A => rfl); (case zz_f => rfl); (case zz_k => rfl); (case zz_d => walk_at "my_deep"); (case zz_u => walk_at "my_deep"); (case zz_h => rfl); (case zz_l => walk_at "my_list"); (case zz_i => assumption); (case zz_dr => assumption); (case zz_n => walk_at "om"); intro zz_hq zz_tkq zz_tq zz_Fq zz_Nq; (try k_sweep); (try dsimp only)))
  (k_with "m binaryOp Mult ref int" => (k_here; (with_reducible show wpAny _ _ (binaryOp _ (Value.ref _) (Value.int _ _)) _ _ _); refine' mulDots ?zz_F ?zz_N ?zz_m ?zz_u ?_; (case zz_F => k_asm); (case zz_N => k_asm); (case zz_m => k_mem); (case zz_u => walk_at "om"); intro zz_Dq zz_hq zz_Fq zz_Nq zz_l1; (try k_lt zz_l1); (try k_sweep)))
  (k_with "m StarOf ref" => (k_here; k_dflt (refine' star_seq ?zz_k1 ?zz_k2 ?zz_m ?zz_c ?zz_d ?zz_T ?zz_e ?zz_z ?_; (case zz_k1 => k_asm); (case zz_k2 => k_asm); (case zz_m => k_mem); (case zz_c => exact rfl); (case zz_d => exact rfl); (case zz_T => exact .inl rfl); (case zz_e => exact rfl); (case zz_z => (simp only [strValues, List.size_toArray, List.length_map, List.length_replicate]; rw [sizeLine_eq]; walk_at "om")); k_whole); intro zz_hq zz_Fq zz_Nq; (try k_sweep); try dsimp only [List.nil_append, List.cons_append]))
  (k_with "m call builtin:list.append" => (k_here; (with_unfolding_all show wpAny _ _ (call (Value.builtin "list.append") [Value.ref _, Value.str _ _]) _ _ _); refine' lsx_append ?zz_F ?zz_N ?zz_U ?zz_z ?_; (case zz_F => k_asm); (case zz_N => k_asm); (case zz_U => k_upd); (case zz_z => walk_at "om"); intro zz_hq zz_Fq zz_Nq; (try k_sweep)))
  (k_with "m call builtin:len" => (k_here; (with_reducible show wpAny _ _ (call (Value.builtin "len") [Value.ref _]) _ _ _); refine' lenL ?zz_l ?zz_i ?zz_z ?_; (case zz_l => walk_at "my_list"); (case zz_i => assumption); (case zz_z => walk_at "om"); intro zz_tq zz_tkq))
  (k_with "m subscriptTail Name Slice ref ref" => (k_here; refine' kmk_slice_ints ?zz_F ?zz_N ?zz_l ?zz_p ?zz_q ?zz_i ?zz_m ?zz_c ?_ ?zz_s ?zz_t ?zz_z; (case zz_F => k_asm); (case zz_N => k_asm); (case zz_l => walk_at "my_list"); (case zz_p => first | exact IsPart.none | exact IsPart.int _ _); (case zz_q => first | exact IsPart.none | exact IsPart.int _ _); (case zz_i => assumption); (case zz_m => first | exact kmk_from (by assumption) (by walk_at "om") | exact kmk_upto (by assumption) (by walk_at "om")); (case zz_c => exact rfl); (case zz_s => with_unfolding_all rfl); (case zz_t => intro _; with_unfolding_all rfl); (case zz_z => (rw [List.size_toArray, IntsAre.length (by assumption), sizeLine_eq]; walk_at "om")); intro zz_Dq zz_wsq zz_hq zz_Fq zz_Nq zz_l1 zz_hIq zz_hCq zz_hLq; (try k_lt zz_l1); (try k_sweep)))
  (k_with "m exec Assign cons ListComp" => (k_here; refine Stop.mk ?_))
  trivial
theorem law {A : Around} {base : Heap} {s : Shared} {R : Result → Shared → Prop} {l1 : Addr} {vs1 : List Value} {ns1 : List Int}
  (B : Below A base [] s.heap) (X : (hd.heap_39 w.params).In s.heap) (T : Top hd.view_39 loose mean mg mb s.heap) (hdp : A.depth + 50 < recursionLimit) (hun : A.units + 500 < cLine) (hh : A.handled = none)
  (hl : s.heap.IsList l1 vs1.toArray) (hi : IntsAre vs1 ns1) (hz : ns1.length ≤ 63)
  (ret : ∀ h' tk, s.heap.StaysIn h' → R (.ok (.ret (.bool true))) { s with heap := h', toks := tk }) :
  codeAny (model Pg w) A (.call (.ref 172) ⟨[.ref l1], []⟩) R s := by
  obtain ⟨ah, ad, af, ag, au⟩ := A
  obtain rfl : ah = none := hh
  obtain rfl : af = some [] := B.stack
  dsimp only at hdp hun
  w_on
  walk_at "my_fill"
  refine enterC (binds := [(Str.ofString "script", .ref l1)]) B X T (by k_is) (by k_is) (by dsimp only at *; walk_at "om") (BindsTo.of_eq rfl) rfl (by decide +kernel) ?_ rfl rfl rfl
  intro g L h₁ tk cells eg F N Y B' X' T'
  rw [← eg] at ret hl
  clear B X T eg
  k_cells Y
  with_reducible show wpAny _ _ _ _ _ _
  k_fold
  k_steps
  refine Stop.out ?_
  rename Fr _ _ _ _ => F9
  rename News _ _ _ _ => N9
  rename Obj => oc
  have P9 := FN.mk F9 N9
  clear F9 N9
  refine' asgCellN P9 RowG (fun vs => IntsAre vs (xsOf ns1)) rfl ?c0 ?c1 ?c2 ?c3 ?c4 ?c5 ?c6 ?it ?el ?dn ?fs
  case c0 => rfl
  case c1 => rfl
  case c2 => rfl
  case c3 => rfl
  case c4 => rfl
  case c5 => rfl
  case c6 => rfl
  case fs => intro _; rfl
  case it =>
    obtain ⟨F9, N9⟩ := P9
    with_reducible show wpAny _ _ _ _ _ _
    k_steps
    rename Fr _ _ _ _ => F9
    rename News _ _ _ _ => N9
    have hi2 : IntsAre _ (xsOf ns1) := (by assumption : IntsAre _ (List.take 7 ns1 ++ [5, 5, 4, 11614, 11885, 3, 5]))
    refine ⟨_, _, _, _, rfl, rfl, ⟨F9, ?_⟩, News.isList N9 (List.Mem.head _), hi2, ?_⟩
    · intro q hq
      exact N9 q (by rw [List.mem_singleton.mp hq]; k_mem)
    · rw [hi2.length, sizeLine_eq]
      have := List.length_take_le 7 ns1
      simp only [xsOf, List.length_append, List.length_cons, List.length_nil]
      walk_at "om"
  case el =>
    intro g₁ vs C K v s₃ E' hP9 hvs hv hc hs
    obtain ⟨F9, N9⟩ := hP9
    obtain ⟨x, tx, rfl, hx⟩ := ints_mem hvs hv
    obtain ⟨ox, hoc, hdc⟩ := hc
    have hm0 := Int.fmod_nonneg_of_pos x (show (0 : Int) < 3 by decide)
    have hm1 := Int.fmod_lt_of_pos x (show (0 : Int) < 3 by decide)
    have X₃ := Frag.In.keeps (keepX X' F9) hs
    have T₃ := (Top.keeps T' F9.keep).keeps hs
    clear F9 N9
    refine' compR (n := (1 + Int.fmod x 3).toNat) (rowF x) rfl ?e0 ?e1 ?e2 ?e3 ?e4 ?e5 ?eit ?eel ?edn ?efs
    case e0 => walk_at "om"
    case e1 => rfl
    case e2 => decide
    case e3 => rfl
    case e4 => decide
    case e5 => rfl
    case efs => intro _; rfl
    case eit =>
      with_reducible show wpAny _ _ _ _ _ _
      k_steps
      have en : ((1 + Int.fmod x 3).toNat : Int) = 1 + Int.fmod x 3 := by walk_at "om"
      have hR : ∀ (h : Heap) (a : Addr) (t u v : Tok), IsRange h a 0 (1 + Int.fmod x 3) 1 t u v → IsRange h a 0 ((1 + Int.fmod x 3).toNat : Int) 1 t u v := by rw [en]; exact fun _ _ _ _ _ h => h
      exact ⟨⟨_, _, _, _, rfl, hR _ _ _ _ _ (IsRange.new ..), _, _, rfl, fun _ _ e => Heap.get?_push_of_some _ e⟩⟩
    case eel =>
      intro C2 i t s4 m4 E4 hi4 hn4 hm4 hs4
      have g1 := hs4 _ _ hoc
      rcases (show i = 0 ∨ i = 1 ∨ i = 2 by walk_at "om") with rfl | rfl | rfl
      · with_reducible show wpAny _ _ _ _ _ _
        k_steps
        exact ⟨_, _, rfl, fun _ _ e => e⟩
      · with_reducible show wpAny _ _ _ _ _ _
        k_steps
        exact ⟨_, _, rfl, fun _ _ e => e⟩
      · with_reducible show wpAny _ _ _ _ _ _
        k_steps
        exact ⟨_, _, rfl, fun _ _ e => e⟩
    case edn =>
      intro D h' tk ys c hD ho hi5 hs5
      exact ⟨⟨D, _, rfl, hD, ⟨_, ho, rfl, _, rfl⟩, x, tx, ys, rfl, rfl, hi5⟩, ⟨_, _, rfl, hs5⟩⟩
  case dn =>
    intro g₁ vs D h' tk ys n hP9 hvs hD ho hP F' hk
    obtain ⟨F9, N9⟩ := hP9
    obtain ⟨inner, rfl, hin, hpair⟩ := inner_of hP
    have N' := newsMany (inner := (D, _) :: inner) F9 N9 hk (by
      intro p hp
      rcases List.mem_cons.mp hp with rfl | hp
      · exact ⟨ho, hD⟩
      · exact hin p hp)
    have hofc : ∀ p ∈ inner, p.1 ≠ L + 1 := fun p hp q => by
      have h1 := (hin p hp).2
      rw [q, N9.get (List.Mem.head _)] at h1
      cases h1
    have hDc : D ≠ L + 1 := fun q => by
      rw [q] at hD
      have h1 := N9.get (List.Mem.head _)
      rw [h1] at hD
      cases hD
    clear F9 N9 hk ho hP hin hD
    have hrows := rows_of hvs hpair
    have hok := rowsOk ns1
    have hlen := xsOf_len ns1
    clear hvs hpair
    revert hrows hok hlen
    generalize (xsOf ns1).map rowOf = Rw
    intro hrows hok hlen
    obtain ⟨r0, Rt, rfl⟩ : ∃ r0 Rt, Rw = r0 :: Rt := by
      cases Rw with
      | nil => simp at hlen
      | cons a b => exact ⟨a, b, rfl⟩
    cases hrows with
    | @cons _ p0 _ inner ho0 hrt =>
    dsimp only [List.cons_append, List.map_cons] at N'
    (try dsimp only)
    k_steps
    refine Stop.out ?_
    walk_at "my_hide"
    rename_i O hO lO A0 hA lA DT hT lT h3' F3' N3' h2' h1' h0' F9 N9
    walk_at "my_show"
    clear N3' F3'
    dsimp only at F9
    have hoffp := perm_off (oA := W.listOf #[] 0) (oD := { cls := Value.type "list", data := Data.seq (((p0 :: inner).map fun p => Value.ref p.1)).toArray n }) lA.1 lO.1 lO.2.1 lO.2.2 hDc (hofc _ (.head _)) fun p hp => hofc p (.tail _ hp)
    obtain ⟨hCO, hoffp⟩ := hoffp
    have N' := perm_news N9
    clear N9 lO lA lT hofc hDc
    revert hoffp N'
    generalize hperm : (A0, W.listOf #[] 0) :: (D, { cls := Value.type "list", data := Data.seq (((p0 :: inner).map fun p => Value.ref p.1)).toArray n }) :: p0 :: inner = perm0
    intro hoffp N9
    have hsub : ∀ p ∈ p0 :: inner, p ∈ perm0 := by
      intro p hp
      rw [← hperm]
      exact .tail _ (.tail _ hp)
    refine' iterG (σ := S1) (vs := (p0 :: inner).map fun p => Value.ref p.1) (I1 (r0 :: Rt) perm0 O (L + 1))
      (fun m₀ a z => if z = Str.ofString "ahead" then some (.ref a.ad.1) else if z = Str.ofString "head" then some (.ref a.hd.1) else if z = Str.ofString "same" then a.sm else if z = Str.ofString "number" then a.nb else m₀ z)
      (led1 O (L + 1) oc) [O] ⟨[], 0, (A0, W.listOf #[] 0), p0, ?sm, ?nb, perm0⟩ rfl ⟨_, N9.get (show (D, _) ∈ _ from .tail _ (.tail _ (by rw [← hperm]; exact .tail _ (.head _)))), rfl, _, rfl⟩ ?hlL ?hlm ?hmut F9 N9 ?hI ?hm ?turn ?done
    case hlL => exact (N9 (D, _) (.tail _ (.tail _ (by rw [← hperm]; exact .tail _ (.head _))))).2.1
    case hlm =>
      intro b hb
      rw [List.mem_singleton.mp hb]
      exact Ne.symm (hoffp (D, _) (by rw [← hperm]; exact .tail _ (.head _))).1
    case hmut =>
      intro b hb
      rw [List.mem_singleton.mp hb]
      exact ⟨_, N9.get (List.Mem.head _)⟩
    case hI => exact ⟨.nil, ⟨rfl, [], 0, rfl, .nil⟩, ho0, by rw [← hperm]; exact .head _, hsub _ (.head _), fun p hp => hp, hoffp⟩
    case hm =>
      intro z hz
      by_cases h1 : z = Str.ofString "ahead"
      · subst h1; rfl
      · by_cases h2 : z = Str.ofString "head"
        · subst h2; rfl
        · by_cases h3 : z = Str.ofString "same"
          · subst h3; rfl
          · by_cases h4 : z = Str.ofString "number"
            · subst h4; rfl
            · simp only [if_neg h1, if_neg h2, if_neg h3, if_neg h4]
    case turn =>
      clear F9 N9
      rintro i v ⟨ovs, no, ad, hd, sm, nb, perm⟩ h tk own It hv hoff hIt hne hIa F9 N9
      obtain ⟨hovs, had, hhd, hadm, hhdm, hsub', hoffp'⟩ := hIa
      dsimp only [led1] at hovs had hhd hadm hhdm hsub' hoffp' F9 N9 hne
      obtain ⟨p, hp, rfl⟩ := map_get hv
      obtain ⟨r, hr, hro⟩ := paired_get (Paired.cons ho0 hrt) hp
      have hpm := hsub' _ (hsub _ (List.mem_of_getElem? hp))
      have hrok := hok r (List.mem_of_getElem? hr)
      have hrl := hrok.1
      have hal := aheadAt_len hok i
      have hhl := headT_len hok i
      have hol := encT_len (fun r hr => (hok r hr).1) i
      have hi14 : i < 14 := Nat.lt_of_lt_of_le (List.getElem?_eq_some_iff.mp hr).1 hlen.2
      rw [← hovs.length] at hol
      have era := aheadAt_succ hr
      have erh := headT_succ hr
      have ere := encT_succ (r0 :: Rt) i
      rw [getD_some hr] at ere
      revert had hhd hal hhl hovs era erh ere
      generalize aheadAt (r0 :: Rt) i = ra
      generalize headT (r0 :: Rt) i = rh
      generalize encT (r0 :: Rt) i = re
      intro hovs had hhd hal hhl era erh ere
      obtain ⟨hc1, y1, n1, hd1, hi1⟩ := had
      obtain ⟨hc2, y2, n2, hd2, hi2⟩ := hro
      obtain ⟨hc3, y3, n3, hd3, hi3⟩ := hhd
      have hnk := nums_ok hal hrok
      have hsl1 := same_le1 ra r
      have hsl2 := same_le2 ra r
      have hnums : numsOf ra r = [((ra.length - same ra r : Nat) : Int), ((r.length - same ra r : Nat) : Int)] ++ r.drop (same ra r) := rfl
      revert hnums hsl1 hsl2 hnk
      have e1 : @Ne Nat ad.1 O := (hoffp' _ hadm).1
      have e2 : @Ne Nat p.1 O := (hoffp' _ hpm).1
      have e3 : @Ne Nat hd.1 O := (hoffp' _ hhdm).1
      have e4 : @Ne Nat (L + 1) O := Nat.ne_of_lt hCO
      have hoff' : OwnOff (perm ++ own) [O] := by
        intro q hq b hb
        rcases List.mem_append.mp hq with hq | hq
        · rw [List.mem_singleton.mp hb]; exact (hoffp' q hq).1
        · exact hoff q hq b hb
      have N' : News g L h ((O, W.listOf ovs.toArray no) :: (L + 1, oc) :: (ad.1, ad.2) :: (p.1, p.2) :: (hd.1, hd.2) :: (perm ++ own)) := by
        intro q hq
        refine N9 q ?_
        simp only [List.mem_cons, List.cons_append] at hq ⊢
        rcases hq with rfl | rfl | rfl | rfl | rfl | hq
        · exact .inl rfl
        · exact .inr (.inl rfl)
        · exact .inr (.inr (List.mem_append_left _ hadm))
        · exact .inr (.inr (List.mem_append_left _ hpm))
        · exact .inr (.inr (List.mem_append_left _ hhdm))
        · exact .inr (.inr hq)
      intro hnk hsl1 hsl2 hnums
      clear N9 hv hoff
      revert hoff' N'
      generalize hown : perm ++ own = own'
      intro hoff' N9
      with_reducible show wpAny _ _ _ _ _ _
      k_fold
      k_steps
      refine Stop.out ?_
      rename Fr _ _ _ _ => F7
      rename News _ _ _ _ => N7
      rename IntsAre _ (_ ++ _) => hI7
      walk_at "my_hide"
      rename_i D7 ws7 h7 l7
      walk_at "my_show"
      rw [nums_eq hsl1 hsl2] at hI7
      have N8 := newsCut N7
      have hO7 : O ≠ D7 := Nat.ne_of_lt l7.2.2.1
      refine' iterG (σ := List Value × Nat) (vs := ws7) (fun j a => IntsAre a.1 (re ++ ((numsOf ra r).take j).flatMap fun n => octs n.toNat)) (fun m₀ _ => m₀)
        (fun a => (O, W.listOf a.1.toArray a.2) :: (L + 1, oc) :: (ad.1, ad.2) :: (p.1, p.2) :: (hd.1, hd.2) :: own') [O] (ovs, no) rfl (News.isList N7 (List.Mem.head _)) (N7 _ (List.Mem.head _)).2.1 ?gm ?gu F7 N8 ?gI ?gn ?gt ?gd
      case gm => intro b hb; rw [List.mem_singleton.mp hb]; exact hO7
      case gu => intro b hb; rw [List.mem_singleton.mp hb]; exact ⟨_, N8.get (List.Mem.head _)⟩
      case gI => simpa using hovs
      case gn => exact fun _ _ => rfl
      case gt =>
        clear F7 N7 N8
        rintro j v ⟨os, nq⟩ h9 tk9 own9 It9 hv9 hoff9 hIt9 hne9 hIo F9 N9
        dsimp only at hIo F9 N9 hne9
        obtain ⟨k, tk', rfl, hk⟩ := ints_get hI7 hv9
        obtain ⟨hk0, hk1⟩ := hnk k (List.mem_of_getElem? hk)
        obtain ⟨kn, rfl⟩ := Int.eq_ofNat_of_zero_le hk0
        have hos : os.length ≤ 1000 := by
          rw [hIo.length, List.length_append, ← hovs.length]
          have h1 := flat_octs_len ((numsOf ra r).take j)
          have h2 := List.length_take_le j (numsOf ra r)
          have h3 : (numsOf ra r).length ≤ 5 := by
            unfold numsOf
            simp only [List.length_cons, List.length_drop]
            walk_at "om"
          rw [List.length_take] at h1
          walk_at "om"
        dsimp only [List.cons_append] at N9
        have hoff8 : OwnOff (own' ++ own9) [O] := fun q hq b hb => (List.mem_append.mp hq).elim (fun h => hoff' q h b hb) (fun h => hoff9 q h b hb)
        have hs8 : (∀ q ∈ own', q ∈ own' ++ own9) ∧ ∀ q ∈ own9, q ∈ own' ++ own9 := ⟨fun q => List.mem_append_left _, fun q => List.mem_append_right _⟩
        clear hv9 hoff' hoff9 hIt9
        revert hoff8 N9 hs8
        generalize own' ++ own9 = own8
        intro hoff8 N9 hs8
        with_reducible show wpAny _ _ _ _ _ _
        k_fold
        k_steps
        dsimp only [GPost]
        walk_at "my_hide"
        rename_i DX wx hiX hwX lX hhX FX NX
        walk_at "my_show"
        refine' GEnd.intro (os ++ wx, nq + 1) ?xF ?xN ?xa (fun q hq => ?xb) ?xc ?xd ?xe
        case xF => assumption
        case xN => assumption
        case xa =>
          intro q hq
          rcases List.mem_cons.mp hq with rfl | hq
          · exact .tail _ (.head _)
          · rcases List.mem_cons.mp hq with rfl | hq
            · exact .tail _ (.tail _ (.head _))
            · rcases List.mem_cons.mp hq with rfl | hq
              · exact .tail _ (.tail _ (.tail _ (.head _)))
              · rcases List.mem_cons.mp hq with rfl | hq
                · exact .tail _ (.tail _ (.tail _ (.tail _ (.head _))))
                · rcases List.mem_cons.mp hq with rfl | hq
                  · exact .tail _ (.tail _ (.tail _ (.tail _ (.tail _ (.head _)))))
                  · exact .tail _ (.tail _ (.tail _ (.tail _ (.tail _ (.tail _ (hs8.1 q hq))))))
        case xb => exact .tail _ (.tail _ (.tail _ (.tail _ (.tail _ (.tail _ (hs8.2 q hq))))))
        case xc =>
          intro q hq
          rcases List.mem_cons.mp hq with rfl | hq
          · exact hne9 (O, W.listOf os.toArray nq) (.head _)
          · exact hne9 q (.tail _ hq)
        case xd =>
          dsimp only
          rw [List.take_add_one, hk, List.flatMap_append]
          rw [← List.append_assoc]
          refine ints_app hIo ?_
          simp only [Option.toList_some, List.flatMap_cons, List.flatMap_nil, List.append_nil]
          assumption
        case xe =>
          intro z hz
          simp only [if_neg hz]
      case gd =>
        clear F7 N7 N8
        intro a u h9 tk9 hIo F9 N9
        rw [hI7.length, List.take_length] at hIo
        obtain ⟨os, nq⟩ := a
        dsimp only at hIo F9 N9
        clear hI7
        dsimp only
        k_steps
        dsimp only [GPost]
        rename Fr _ _ _ _ => F5
        rename News _ _ _ _ => N5
        rename IntsAre _ (List.take _ _) => hI5
        walk_at "my_hide"
        rename_i DH wsH hh1 hCH hLH lH DT5 hh2 lT5 hh3 hF6 hN6 hh4 hh5
        walk_at "my_show"
        rw [Int.toNat_natCast, ← erh] at hI5
        obtain ⟨oIt, hIt'⟩ := hIt
        have hItO : (It, oIt) ∈ own' := by rw [← hown]; exact List.mem_append_right _ hIt'
        refine' GEnd.intro ⟨os, nq, (p.1, p.2), (DH, W.listOf wsH.toArray 0), some (.int (same ra r : Nat) ?tz), u, (DH, W.listOf wsH.toArray 0) :: perm⟩ F5 N5 ?ya (fun q hq => .tail _ (.tail _ (.tail _ (.tail _ (.tail _ (.tail _ (.tail _ (by rw [← hown]; exact List.mem_append_right _ hq)))))))) ?yc ?yd ?ye
        case ya =>
          intro q hq
          rcases List.mem_cons.mp hq with rfl | hq
          · exact .tail _ (.tail _ (.head _))
          · rcases List.mem_cons.mp hq with rfl | hq
            · exact .tail _ (.tail _ (.tail _ (.head _)))
            · rcases List.mem_cons.mp hq with rfl | hq
              · exact .tail _ (.head _)
              · exact .tail _ (.tail _ (.tail _ (.tail _ (.tail _ (.tail _ (.tail _ (by rw [← hown]; exact List.mem_append_left _ hq)))))))
        case yc =>
          intro q hq
          rcases List.mem_cons.mp hq with rfl | hq
          · exact hne (O, W.listOf ovs.toArray no) (.head _)
          · rcases List.mem_cons.mp hq with rfl | hq
            · exact hne (L + 1, oc) (.tail _ (.head _))
            · rcases List.mem_cons.mp hq with rfl | hq
              · exact Nat.ne_of_gt (allLt_mem lH.2.2.2.2.2 hItO)
              · exact hne q (.tail _ (.tail _ hq))
        case yd =>
          refine ⟨?_, ?_, ?_, .tail _ hpm, .head _, fun q hq => .tail _ (hsub' q hq), ?_⟩
          · rw [ere]
            exact hIo
          · rw [era]
            exact ⟨hc2, y2, n2, hd2, hi2⟩
          · exact ⟨rfl, wsH, 0, rfl, hI5⟩
          · intro q hq
            rcases List.mem_cons.mp hq with rfl | hq
            · exact ⟨Nat.ne_of_gt lH.1, Nat.ne_of_gt lH.2.1⟩
            · exact hoffp' q hq
        case ye =>
          intro z hz
          by_cases h1 : z = Str.ofString "ahead"
          · subst h1; rfl
          · by_cases h2 : z = Str.ofString "head"
            · subst h2; rfl
            · by_cases h3 : z = Str.ofString "same"
              · subst h3; rfl
              · by_cases h4 : z = Str.ofString "number"
                · subst h4; rfl
                · simp only [if_neg h1, if_neg h2, if_neg h3, if_neg h4, if_neg hz]
    case done =>
      clear F9 N9
      rintro ⟨ovs, no, ad, hd, sm, nb, perm⟩ u h tk hIa F9 N9
      obtain ⟨hovs, had, hhd, hadm, hhdm, hsub', hoffp'⟩ := hIa
      have hlenR : ((p0 :: inner).map fun p => Value.ref p.1).length = (r0 :: Rt).length := by
        rw [List.length_map]
        simp only [List.length_cons]
        rw [hrt.length]
      rw [hlenR] at hovs had hhd
      dsimp only [led1] at hovs had hhd hadm hhdm hsub' hoffp' F9 N9
      have hOC : @Ne Nat O (L + 1) := Nat.ne_of_gt hCO
      have hoffO : OwnOff perm [O, L + 1] := by
        intro q hq b hb
        rcases List.mem_cons.mp hb with rfl | hb
        · exact (hoffp' q hq).1
        · rw [List.mem_singleton.mp hb]; exact (hoffp' q hq).2
      have hol := encT_len (fun r hr => (hok r hr).1) (r0 :: Rt).length
      rw [← hovs.length] at hol
      have hovl : ovs.length ≤ 1000 := by walk_at "om"
      (try dsimp only)
      with_reducible show wpAny _ _ _ _ _ _
      k_steps
      refine Stop.out ?_
      rename Fr _ _ _ _ => F9
      walk_at "my_hide"
      rename_i hx4 I4 l41 T4 h42 l42 DT4 h43 l43 h44 F44 N44 h45 oC4 dC4 h46 h47 N9
      walk_at "my_show"
      clear F44 N44
      have N8 := newsTail N9
      clear N9 l43
      have n1 : @Ne Nat T4 I4 := Nat.ne_of_gt l42.1
      have n2 : @Ne Nat T4 O := Nat.ne_of_gt l42.2.1
      have n3 : @Ne Nat T4 (L + 1) := Nat.ne_of_gt l42.2.2.1
      have n4 : @Ne Nat I4 O := Nat.ne_of_gt l41.1
      have n5 : @Ne Nat I4 (L + 1) := Nat.ne_of_gt l41.2.1
      have hpIT : ∀ q ∈ perm, q.1 ≠ I4 ∧ q.1 ≠ T4 := fun q hq => ⟨Nat.ne_of_lt (allLt_mem l41.2.2 hq), Nat.ne_of_lt (allLt_mem l42.2.2.2 hq)⟩
      have N9 : News g L _ ((O, W.listOf ovs.toArray no) :: (L + 1, oC4) :: (I4, iterObj O 0) :: (T4, W.listOf (strValues []).toArray 0) :: perm) := newsPerm4 N8
      have hDp : (D, ({ cls := Value.type "list", data := Data.seq (((p0 :: inner).map fun p => Value.ref p.1)).toArray n } : Obj)) ∈ perm := hsub' _ (by rw [← hperm]; exact .tail _ (.head _))
      have hdisj := fun q hq => (hpIT q hq).1
      clear N8 l41 l42 hoffO
      refine' iterG (σ := S2) (vs := (p0 :: inner).map fun p => Value.ref p.1) (I2 (r0 :: Rt)) mp2
        (led2 O (L + 1) I4 T4 (W.listOf ovs.toArray no) oC4 perm) [I4, T4] ⟨Str.ofString "/", ?ht, 0, [], 0, ?up, ?dn, ?tp, ?nm, ?th⟩ rfl ⟨_, N9.get (.tail _ (.tail _ (.tail _ (.tail _ hDp)))), rfl, _, rfl⟩ (N9 _ (.tail _ (.tail _ (.tail _ (.tail _ hDp))))).2.1 ?hlm ?hmut F9 N9 ?hI ?hm ?turn2 ?done2
      case hlm =>
        intro b hb
        rcases List.mem_cons.mp hb with rfl | hb
        · exact Ne.symm (hpIT _ hDp).1
        · rw [List.mem_singleton.mp hb]; exact Ne.symm (hpIT _ hDp).2
      case hmut =>
        intro b hb
        rcases List.mem_cons.mp hb with rfl | hb
        · exact ⟨_, N9.get (.tail _ (.tail _ (.head _)))⟩
        · rw [List.mem_singleton.mp hb]; exact ⟨_, N9.get (.tail _ (.tail _ (.tail _ (.head _))))⟩
      case hI => exact ⟨show Str.ofString "/" = pathOf [] by decide, rfl, rfl⟩
      case hm =>
        intro z hz
        unfold mp2
        by_cases h1 : z = Str.ofString "here"
        · subst h1; rfl
        · by_cases h2 : z = Str.ofString "ups"
          · subst h2; rfl
          · by_cases h3 : z = Str.ofString "downs"
            · subst h3; rfl
            · by_cases h4 : z = Str.ofString "top"
              · subst h4; rfl
              · by_cases h5 : z = Str.ofString "names"
                · subst h5; rfl
                · by_cases h6 : z = Str.ofString "there"
                  · subst h6; rfl
                  · simp only [if_neg h1, if_neg h2, if_neg h3, if_neg h4, if_neg h5, if_neg h6]
      case turn2 =>
        clear F9 N9
        rintro i v ⟨here, ht, pos, told, tn, up, dn, tp, nm, th⟩ h tk own It hv hoff hIt hne hIa F9 N9
        obtain ⟨hhere, hpos, htold⟩ := hIa
        dsimp only [led2] at hhere hpos htold F9 N9 hne
        obtain ⟨p, hp, rfl⟩ := map_get hv
        obtain ⟨r, hr, hro⟩ := paired_get (Paired.cons ho0 hrt) hp
        have hpm := hsub' _ (hsub _ (List.mem_of_getElem? hp))
        have hrok := hok r (List.mem_of_getElem? hr)
        have hrl := hrok.1
        have hal := aheadAt_ok hok i
        have hi14 : i < 14 := Nat.lt_of_lt_of_le (List.getElem?_eq_some_iff.mp hr).1 hlen.2
        have era := aheadAt_succ hr
        have htl : told.length ≤ 14 := by
          have := congrArg List.length htold
          rw [List.length_map, List.length_map] at this
          have h2 := List.length_take_le i (r0 :: Rt)
          walk_at "om"
        obtain ⟨rest, hENC⟩ := encT_split hr
        have ere := encT_succ (r0 :: Rt) i
        rw [getD_some hr] at ere
        have hdr : (encT (r0 :: Rt) (r0 :: Rt).length).drop pos = chunk (aheadAt (r0 :: Rt) i) r ++ rest := by rw [hENC, hpos]; simp
        have htake : (r0 :: Rt).take (i + 1) = (r0 :: Rt).take i ++ [r] := by rw [List.take_add_one, hr]; rfl
        clear hENC
        revert hhere hdr era ere hal
        generalize aheadAt (r0 :: Rt) i = ra
        intro hhere hal era ere hdr
        have hsl1 := same_le1 ra r
        have hsl2 := same_le2 ra r
        have hk1 := hal.1
        obtain ⟨d0, d1, d2, hch⟩ := chunk_drop hdr
        clear hdr
        have hgu3 : ra.length - same ra r ≤ 3 := Nat.le_trans (Nat.sub_le _ _) hk1
        have hgd3 : r.length - same ra r ≤ 3 := Nat.le_trans (Nat.sub_le _ _) hrl
        revert d0 d1 d2 hch hsl1 hsl2 hgu3 hgd3
        generalize hgu : ra.length - same ra r = gu
        generalize hgd : r.length - same ra r = gd
        generalize hgr : (r.drop (same ra r)).flatMap (fun n => octs n.toNat) = gr
        intro hsl1 hsl2 d0 d1 d2 hch hgu3 hgd3
        have hhl : here.length ≤ 1000 := by rw [hhere]; exact Nat.le_trans (path_len hal) (by decide)
        subst hhere
        have hA1 := jt1_abs (r := r) hal
        have hN1 := jt1_norm (r := r) hal
        have hA2 := jt2_abs hal hrok
        have hN2 := jt2_norm hal hrok
        have hN3 := jt3 hal hrok
        rw [hgu] at hA1 hN1 hA2 hN2
        have hnn : (pathOf r != pathOf r) = false := bne_self_eq_false _
        have hnt : (pathOf (ra.take (same ra r)) != pathOf (ra.take (same ra r))) = false := bne_self_eq_false _
        have hoffm : ∀ q ∈ perm, q.1 ≠ I4 ∧ q.1 ≠ T4 := hpIT
        have N' : News g L h ((O, W.listOf ovs.toArray no) :: (L + 1, oC4) :: (I4, iterObj O pos) :: (T4, W.listOf (strValues told).toArray tn) :: (p.1, p.2) :: (perm ++ own)) := by
          intro q hq
          refine N9 q ?_
          simp only [List.mem_cons, List.cons_append] at hq ⊢
          rcases hq with h | h | h | h | rfl | h
          · exact .inl h
          · exact .inr (.inl h)
          · exact .inr (.inr (.inl h))
          · exact .inr (.inr (.inr (.inl h)))
          · exact .inr (.inr (.inr (.inr (List.mem_append_left _ hpm))))
          · exact .inr (.inr (.inr (.inr h)))
        have e1 : @Ne Nat p.1 I4 := (hpIT _ hpm).1
        have e2 : @Ne Nat p.1 T4 := (hpIT _ hpm).2
        have hoff' : OwnOff (perm ++ own) [I4, T4] := by
          intro q hq b hb
          rcases List.mem_append.mp hq with hq | hq
          · rcases List.mem_cons.mp hb with rfl | hb
            · exact (hpIT q hq).1
            · rw [List.mem_singleton.mp hb]; exact (hpIT q hq).2
          · exact hoff q hq b hb
        obtain ⟨hc2, y2, n2', hd2, hi2⟩ := hro
        clear N9 hv hoff
        revert hoff' N'
        generalize hown : perm ++ own = own'
        intro N9 hoff'
        with_reducible show wpAny _ _ _ _ _ _
        k_fold
        k_steps
        refine Stop.out ?_
        refine' jstep (y := jt1 ra gu) (by k_asm) (by k_asm) (by k_asm) (by k_asm) (by k_asm) rfl rfl rfl (by walk_at "my_deep") (by walk_at "my_deep") rfl ?a1 hhl ?bl1 ?bn1 ?e1 ?_
        case a1 => simp only [List.append_nil]; rfl
        case bl1 => intro b hb; rw [List.eq_of_mem_replicate hb]; exact (show (Str.ofString "..").length ≤ 100 by decide)
        case bn1 => rw [List.length_replicate]; walk_at "om"
        case e1 => rw [List.map_replicate]; rfl
        intro h' tk' t' F' N'
        (try dsimp only)
        k_steps
        refine Stop.out ?_
        refine' nstep (by k_asm) (by k_asm) (by k_asm) (by k_asm) (by k_asm) rfl rfl rfl (by walk_at "my_deep") (by walk_at "my_deep") rfl rfl hA1 hN1 ?_
        intro h' tk' t' F' N'
        (try dsimp only)
        k_steps
        refine Stop.out ?_
        rename Fr _ _ _ _ => F5
        rename News _ _ _ _ => N5
        walk_at "my_hide"
        rename_i h5
        walk_at "my_show"
        have hmI := N5 (I4, iterObj O (pos + (octs gu).length + (octs gd).length)) (.tail _ (.tail _ (.tail _ (.tail _ (.tail _ (.head _))))))
        have hmO := N5.get (show (O, W.listOf ovs.toArray no) ∈ _ from .tail _ (.tail _ (.tail _ (.head _))))
        have hmC := N5.get (show (L + 1, oC4) ∈ _ from .tail _ (.tail _ (.tail _ (.tail _ (.head _)))))
        have hgl : (r.drop (same ra r)).length = gd := by rw [List.length_drop]; exact hgd
        rw [← hgr] at d2
        refine' asgJ (n := gd) (fun j h => (∀ b o, b ≠ I4 → h5.get? b = some o → h.get? b = some o) ∧ h.get? I4 = some (iterObj O (pos + (octs gu).length + (octs gd).length + posAt (r.drop (same ra r)) j))) (fun i y => ∃ n t, (r.drop (same ra r))[i]? = some n ∧ y = .str (Mine.nm n) t) rfl ?m0 ?m1 ?m2 ?m3 ?m4 ?m5 ?m6 ?m7 ?m8 ?mit F5.ns ?mJ0 ?mJf ?mJL ?mel ?mdn ?mfs
        case m0 => walk_at "om"
        case m1 => rfl
        case m2 => rfl
        case m3 => decide
        case m4 => rfl
        case m5 => decide
        case m6 => rfl
        case m7 => rfl
        case m8 => rfl
        case mfs => intro _; rfl
        case mit =>
          with_reducible show wpAny _ _ _ _ _ _
          k_steps
          exact ⟨⟨_, _, _, _, rfl, IsRange.new .., _, _, rfl, fun _ _ e => Heap.get?_push_of_some _ e⟩⟩
        case mJ0 => exact ⟨fun _ _ _ e => e, hmI.1⟩
        case mJf =>
          intro j h h' hj hk
          exact ⟨fun b o hb e => by rw [hk b o e]; exact hj.1 b o hb e, by rw [hk _ _ hmI.1]; exact hj.2⟩
        case mJL => exact fun h hj => F5.ns.at' fun o e => hj.1 _ o (Ne.symm hmI.2.1) e
        case mel =>
          intro C j t s₃ m₃ E' hj hJ hn hm hs3
          obtain ⟨h9, tk9, rfl⟩ := hs3
          obtain ⟨hJ1, hJ2⟩ := hJ
          obtain ⟨nj, hnj⟩ : ∃ nj, (r.drop (same ra r))[j]? = some nj := ⟨_, List.getElem?_eq_getElem (by walk_at "om")⟩
          obtain ⟨hn0, hn1⟩ := hrok.2 nj (List.mem_of_mem_drop (List.mem_of_getElem? hnj))
          obtain ⟨kn, rfl⟩ := Int.eq_ofNat_of_zero_le hn0
          obtain ⟨hp1, rest', hp2⟩ := posAt_drop d2 hnj
          rw [Int.toNat_natCast] at hp1 hp2
          have F3 : Fr g L h9 _ := ⟨F5.ns.at' fun o e => hJ1 _ o (Ne.symm hmI.2.1) e, fun b o e => hJ1 b o (by rintro rfl; rw [hmI.2.2] at e; cases e) (F5.keep b o e), F5.above⟩
          have B0 : Below _ g [] g := ⟨B'.stack, fun _ _ e => e, trivial⟩
          have hC9 := hJ1 _ _ (Ne.symm n5) hmC
          have hO9 : h9.IsList O ovs.toArray := ⟨_, hJ1 _ _ (Ne.symm n4) hmO, rfl, _, rfl⟩
          have X₃ := keepX X' F3
          have T₃ := Top.keeps T' F3.keep
          have hgI := hmI.2.2
          have hLI : @Ne Nat L I4 := Ne.symm hmI.2.1
          clear F5 N5
          dsimp only at hn
          with_reducible show wpAny _ _ _ _ _ _
          k_steps
          refine' vraw ?B ?X ?T ?I ?f ?d ?u ?h ?it ?l ?i ?dr ?n ?_
          case B => exact bel (by assumption) (by assumption) rfl rfl rfl
          case X => assumption
          case T => assumption
          case I => assumption
          case f => intro q; injection q with q; exact hLI q
          case d => walk_at "my_deep"
          case u => walk_at "my_deep"
          case h => rfl
          case it => assumption
          case l => assumption
          case i => assumption
          case dr => assumption
          case n => walk_at "om"
          intro h' tk' t' hk' hI'
          k_steps
          refine ⟨⟨h', _, rfl, ⟨_, _, hnj, rfl⟩, ⟨fun b o hb e => hk' b o hb (hJ1 b o hb e), by rw [hp1, ← Nat.add_assoc]; exact hI'⟩, fun b o hb e => hk' b o (by rintro rfl; rw [hmI.1] at hb; cases hb) e, fun b o e => ?_⟩⟩
          by_cases hb : b = I4
          · rw [hb]; exact ⟨_, hI'⟩
          · exact ⟨o, hk' b o hb e⟩
        case mdn =>
          intro D6 h6 tk6 ys c6 h₁ hJ hD hD6 hyl hyG hN6 hk6
          obtain ⟨hJ1, hJ2⟩ := hJ
          obtain ⟨nbs, rfl, hnb⟩ := ys_strs (ns := r.drop (same ra r)) (hyl.trans hgl.symm) hyG
          have hpa : pos + (octs gu).length + (octs gd).length + posAt (r.drop (same ra r)) gd = pos + (chunk ra r).length := by
            unfold posAt
            rw [← hgl, List.take_length, hgr, hch]
            rw [hgl, Nat.add_assoc pos, Nat.add_assoc pos]
          rw [hpa] at hJ2
          have kk : ∀ b o, b ≠ I4 → b ≠ L → h5.get? b = some o → h6.get? b = some o := fun b o h1 h2 e => by
            rw [hk6 b o e h2]; exact hJ1 b o h1 e
          have F6 : Fr g L h6 _ := ⟨hN6, fun b o e => kk b o (by rintro rfl; rw [hmI.2.2] at e; cases e) (Nat.ne_of_lt (Nat.lt_of_lt_of_le (Heap.lt_size e) F5.above)) (F5.keep b o e), F5.above⟩
          have hD6n : ∀ q : Addr × Obj, h5.get? q.1 = some q.2 → q.1 ≠ D6 := fun (q : Addr × Obj) e q' => by rw [q', hD] at e; cases e
          have n6 : @Ne Nat T4 D6 := hD6n (T4, W.listOf (strValues told).toArray tn) (N5.get (.tail _ (.tail _ (.tail _ (.tail _ (.tail _ (.tail _ (.head _))))))))
          have n7 : @Ne Nat I4 D6 := hD6n _ hmI.1
          have N6 : News g L h6 ((D6, W.listOf (strValues nbs).toArray c6) :: (I4, iterObj O (pos + (chunk ra r).length)) :: (O, W.listOf ovs.toArray no) :: (L + 1, oC4) :: (T4, W.listOf (strValues told).toArray tn) :: (p.1, p.2) :: own') := by
            have hLl : h5.get? L ≠ none := by
              obtain ⟨oL, _, _, eL, _⟩ := F5.ns
              rw [eL]; exact fun q => nomatch q
            have stepN : ∀ q : Addr × Obj, (h5.get? q.1 = some q.2 ∧ q.1 ≠ L ∧ g.get? q.1 = none) → q.1 ≠ I4 → h6.get? q.1 = some q.2 ∧ q.1 ≠ L ∧ g.get? q.1 = none := fun q hq hn => ⟨kk _ _ hn hq.2.1 hq.1, hq.2⟩
            intro q hq
            rcases List.mem_cons.mp hq with rfl | hq
            · refine ⟨hD6, fun e => hLl (by rw [← e]; exact hD), ?_⟩
              cases qq : g.get? D6 with
              | none => rfl
              | some o => rw [F5.keep _ _ qq] at hD; cases hD
            · rcases List.mem_cons.mp hq with rfl | hq
              · refine ⟨?_, hmI.2⟩
                rw [hk6 _ _ hmI.1 hmI.2.1]
                exact hJ2
              · rcases List.mem_cons.mp hq with rfl | hq
                · exact stepN _ (N5 _ (.tail _ (.tail _ (.tail _ (.head _))))) (Ne.symm n4)
                · rcases List.mem_cons.mp hq with rfl | hq
                  · exact stepN _ (N5 _ (.tail _ (.tail _ (.tail _ (.tail _ (.head _)))))) (Ne.symm n5)
                  · rcases List.mem_cons.mp hq with rfl | hq
                    · exact stepN _ (N5 _ (.tail _ (.tail _ (.tail _ (.tail _ (.tail _ (.tail _ (.head _)))))))) n1
                    · rcases List.mem_cons.mp hq with rfl | hq
                      · exact stepN _ (N5 _ (.tail _ (.tail _ (.tail _ (.tail _ (.tail _ (.tail _ (.tail _ (.head _))))))))) e1
                      · exact stepN _ (N5 _ (.tail _ (.tail _ (.tail _ (.tail _ (.tail _ (.tail _ (.tail _ (.tail _ hq))))))))) (hoff' q hq I4 (.head _))
          have hnbl : nbs.length ≤ 3 := by
            have := congrArg List.length hnb
            rw [List.length_map, List.length_map, hgl] at this
            rw [this]; exact hgd3
          have hnbt : ∀ b ∈ nbs, b.1.length ≤ 100 := fun b hb => by
            have : b.1 ∈ (r.drop (same ra r)).map Mine.nm := by rw [← hnb]; exact List.mem_map.mpr ⟨b, hb, rfl⟩
            obtain ⟨n, hn, e⟩ := List.mem_map.mp this
            rw [← e]
            have := hrok.2 n (List.mem_of_mem_drop hn)
            exact nm_len this.1 (by walk_at "om")
          clear F5 N5 hmI hmO hmC hD hD6 hyl hyG hN6 hk6 hJ1 hJ2 kk hD6n d0 d1 d2
          (try dsimp only)
          refine id ?_
          with_reducible show wpAny _ _ _ _ _ _
          k_steps
          refine Stop.out ?_
          refine' jstep (y := jt2 ra gu (r.drop (same ra r))) (by k_asm) (by k_asm) (by k_asm) (by k_asm) (by k_asm) rfl rfl rfl (by walk_at "my_deep") (by walk_at "my_deep") rfl ?a3 hhl ?bl3 ?bn3 ?e3 ?_
          case a3 => simp only [List.append_nil, strs_append]; rfl
          case bl3 =>
            intro b hb
            rcases List.mem_append.mp hb with hb | hb
            · rw [List.eq_of_mem_replicate hb]; exact (show (Str.ofString "..").length ≤ 100 by decide)
            · exact hnbt b hb
          case bn3 => rw [List.length_append, List.length_replicate]; exact Nat.le_trans (Nat.add_le_add hgu3 hnbl) (by decide)
          case e3 => rw [List.map_append, List.map_replicate, hnb]; rfl
          intro h' tk' t' F' N'
          (try dsimp only)
          k_steps
          refine Stop.out ?_
          refine' nstep (by k_asm) (by k_asm) (by k_asm) (by k_asm) (by k_asm) rfl rfl rfl (by walk_at "my_deep") (by walk_at "my_deep") rfl rfl hA2 hN2 ?_
          intro h' tk' tTh F' N'
          (try dsimp only)
          k_steps
          refine Stop.out ?_
          refine' pstep (by k_asm) (by k_asm) (by k_asm) (by k_asm) (by k_asm) rfl rfl rfl (by walk_at "my_deep") (by walk_at "my_deep") rfl ?l5 ?i5 hrok ?_
          case l5 => walk_at "my_list"
          case i5 => assumption
          intro h' tk' t' F' N'
          (try dsimp only)
          k_steps
          refine Stop.out ?_
          refine' jstep (y := pathOf r) (by k_asm) (by k_asm) (by k_asm) (by k_asm) (by k_asm) rfl rfl rfl (by walk_at "my_deep") (by walk_at "my_deep") rfl ?a6 ?l6 ?bl6 ?bn6 ?e6 ?_
          case a6 => simp only [List.append_nil]; rfl
          case l6 => exact Nat.le_trans (path_len (rowOk_take hal _)) (by decide)
          case bl6 => exact hnbt
          case bn6 => walk_at "om"
          case e6 => rw [hnb]; exact hN3
          intro h' tk' t' F' N'
          (try dsimp only)
          k_steps
          refine Stop.out ?_
          refine' cstep (p0 := (pathOf ra, ht)) (pr := [(pathOf r, ?tt)]) (by k_asm) (by k_asm) (by k_asm) (by k_asm) (by k_asm) rfl rfl rfl (by walk_at "my_deep") (by walk_at "my_deep") rfl ?l7 ?pn7 ?pl7 ?sw7 (cp_here hal hrok rfl) ?_
          case l7 => walk_at "my_list"
          case pn7 => exact (by walk_at "om" : (2 : Nat) ≤ 100)
          case pl7 => exact (cp_len (R := [ra, r]) (fun q hq => by
            rcases List.mem_cons.mp hq with rfl | hq
            · exact hal
            · rw [List.mem_singleton.mp hq]; exact hrok) rfl).1
          case sw7 => exact (cp_len (R := [ra, r]) (fun q hq => by
            rcases List.mem_cons.mp hq with rfl | hq
            · exact hal
            · rw [List.mem_singleton.mp hq]; exact hrok) rfl).2
          intro h' tk' t' F' N'
          (try dsimp only)
          k_steps
          dsimp only [GPost]
          rename Fr _ _ _ _ => FY
          rename News _ _ _ _ => NY
          refine' GEnd.intro ⟨pathOf r, tTh, pos + (chunk ra r).length, told ++ [(pathOf r, tTh)], tn + 1, _, _, _, _, _⟩ FY NY ?za (fun q hq => .tail _ (.tail _ (.tail _ (.tail _ (.tail _ (.tail _ (.tail _ (.tail _ (.tail _ (by rw [← hown]; exact List.mem_append_right _ hq)))))))))) ?zc ?zd ?ze
          case ze =>
            intro z hz
            unfold mp2
            by_cases h1 : z = Str.ofString "here"
            · subst h1; rfl
            · by_cases h2 : z = Str.ofString "ups"
              · subst h2; rfl
              · by_cases h3 : z = Str.ofString "downs"
                · subst h3; rfl
                · by_cases h4 : z = Str.ofString "top"
                  · subst h4; rfl
                  · by_cases h5 : z = Str.ofString "names"
                    · subst h5; rfl
                    · by_cases h6 : z = Str.ofString "there"
                      · subst h6; rfl
                      · simp only [if_neg h1, if_neg h2, if_neg h3, if_neg h4, if_neg h5, if_neg h6, if_neg hz]
          case za =>
            intro q hq
            rcases List.mem_cons.mp hq with rfl | hq
            · exact .tail _ (.tail _ (.tail _ (.tail _ (.tail _ (.head _)))))
            · rcases List.mem_cons.mp hq with rfl | hq
              · exact .tail _ (.tail _ (.tail _ (.tail _ (.tail _ (.tail _ (.head _))))))
              · rcases List.mem_cons.mp hq with rfl | hq
                · exact .tail _ (.tail _ (.tail _ (.tail _ (.head _))))
                · rcases List.mem_cons.mp hq with rfl | hq
                  · exact .tail _ (.tail _ (.tail _ (.tail _ (.tail _ (.tail _ (.tail _ (.head _)))))))
                  · exact .tail _ (.tail _ (.tail _ (.tail _ (.tail _ (.tail _ (.tail _ (.tail _ (.tail _ (by rw [← hown]; exact List.mem_append_left _ hq)))))))))
          case zc =>
            intro q hq
            rcases List.mem_cons.mp hq with rfl | hq
            · exact hne (O, W.listOf ovs.toArray no) (.head _)
            · rcases List.mem_cons.mp hq with rfl | hq
              · exact hne (L + 1, oC4) (.tail _ (.head _))
              · rcases List.mem_cons.mp hq with rfl | hq
                · exact hne (I4, iterObj O pos) (.tail _ (.tail _ (.head _)))
                · rcases List.mem_cons.mp hq with rfl | hq
                  · exact hne (T4, W.listOf (strValues told).toArray tn) (.tail _ (.tail _ (.tail _ (.head _))))
                  · exact hne q (.tail _ (.tail _ (.tail _ (.tail _ hq))))
          case zd =>
            refine ⟨?_, ?_, ?_⟩
            · rw [era]
            · dsimp only
              rw [ere, List.length_append, hpos]
            · dsimp only
              rw [List.map_append, htold, htake, List.map_append]
              rfl
      case done2 =>
        clear F9 N9
        rintro ⟨here, ht, pos, told, tn, up, dn, tp, nm, th⟩ u2 h tk hIa F9 N9
        obtain ⟨hhere, hpos, htold⟩ := hIa
        rw [hlenR] at hpos htold
        dsimp only [led2] at hpos htold F9 N9
        rw [List.take_length] at htold
        have htl := congrArg List.length htold
        rw [List.length_map, List.length_map] at htl
        have hlen2 := hlen.2
        obtain ⟨ta, tl, rfl⟩ : ∃ a l, told = a :: l := by
          cases told with
          | nil => cases htold
          | cons a l => exact ⟨_, _, rfl⟩
        have hcl := cp_len hok htold
        have hct := cp_told hok (List.cons_ne_nil _ _) htold
        have hhok := headT_ok hok (r0 :: Rt).length
        revert hct hhok hhd
        generalize headT (r0 :: Rt) (r0 :: Rt).length = rh
        intro hhd hct hhok
        have hnn : (pathOf rh != pathOf rh) = false := bne_self_eq_false _
        obtain ⟨hc3, y3, n3, hd3, hi3⟩ := hhd
        have hx : ovs.toArray[pos]? = none := by
          rw [List.getElem?_toArray]
          exact List.getElem?_eq_none (by rw [hovs.length, hpos]; exact Nat.le_refl _)
        have N' : News g L h [(I4, iterObj O pos), (T4, W.listOf (strValues (ta :: tl)).toArray tn), (O, W.listOf ovs.toArray no), (L + 1, oC4), (hd.1, hd.2)] := by
          intro q hq
          refine N9 q ?_
          simp only [List.mem_cons, List.not_mem_nil, or_false] at hq ⊢
          rcases hq with h | h | h | h | h
          · exact .inr (.inr (.inl h))
          · exact .inr (.inr (.inr (.inl h)))
          · exact .inl h
          · exact .inr (.inl h)
          · exact .inr (.inr (.inr (.inr (by rw [h]; exact hhdm))))
        clear N9
        (try dsimp only)
        with_reducible show wpAny _ _ _ _ _ _
        k_steps
        refine Stop.out ?_
        refine' cstep (p0 := ta) (pr := tl) (by k_asm) (by k_asm) (by k_asm) (by k_asm) (by k_asm) rfl rfl rfl (by walk_at "my_deep") (by walk_at "my_deep") rfl ?l8 ?pn8 hcl.1 hcl.2 hct ?_
        case l8 => walk_at "my_list"
        case pn8 => walk_at "om"
        intro h' tk' t' F' N'
        (try dsimp only)
        k_steps
        refine Stop.out ?_
        refine' pstep (by k_asm) (by k_asm) (by k_asm) (by k_asm) (by k_asm) rfl rfl rfl (by walk_at "my_deep") (by walk_at "my_deep") rfl ?l9 ?i9 hhok ?_
        case l9 => walk_at "my_list"
        case i9 => assumption
        intro h' tk' t' F' N'
        (try dsimp only)
        k_steps
        refine Stop.out ?_
        refine' ostep0 (O := O) (i := pos) (vs := ovs) (by k_asm) (by k_asm) (by k_asm) (by k_asm) (by k_asm) rfl rfl rfl (by walk_at "my_deep") (by walk_at "my_deep") rfl (by k_mem) ?l10 hx ?_
        case l10 => walk_at "my_list"
        intro h' tk' F'
        have N0 : News g L h' [] := newsNil
        (try dsimp only)
        k_steps
        refine Stop.out ?_
        refine' ostep1 (vs := [.int 65 _]) (i := 0) (by k_asm) (by k_asm) (by k_asm) (by k_asm) (by k_asm) rfl rfl rfl (by walk_at "my_deep") (by walk_at "my_deep") rfl (by k_mem) ?l11 rfl rfl ?_
        case l11 => walk_at "my_list"
        intro h' tk' F'
        have N0 : News g L h' [] := newsNil
        (try dsimp only)
        k_steps
        refine Stop.out ?_
        refine' ostep2 (vs := [.int 65 _, .int 75 _]) (i := 0) (by k_asm) (by k_asm) (by k_asm) (by k_asm) (by k_asm) rfl rfl rfl (by walk_at "my_deep") (by walk_at "my_deep") rfl (by k_mem) ?l12 rfl rfl rfl ?_
        case l12 => walk_at "my_list"
        intro h' tk' F'
        (try dsimp only)
        k_steps
        exact ret _ _ (Fr.keep (by assumption))
end
theorem good_true {c : ClaimW} {cl : Str → Option Addr} {mean : ExcName → Option Value} {args : List WData} {s₁ : Shared} {h' : Heap} {tk : Nat} (hr : ∀ cls, c.raises args cls = false) (hp : c.post args (.bool true) args = true) (hu : c.unshared = true → True) (hs : s₁.heap.StaysIn h') (hg : s₁.gens = #[]) :
    GoodWG c cl mean args s₁ (.ok (.ret (.bool true))) { s₁ with heap := h', toks := tk } := by
  refine GoodW.toG ⟨.inl ⟨_, .bool true, [], rfl, hr, ?_, hp, fun _ => ⟨.nil, fun _ ha => nomatch ha⟩⟩, hs, rfl, hg⟩
  exact .bool true
end Mine
theorem PySem.Challenge.cw_pd0101_01_holds : PySem.Challenge.rw_pd0101_01.Holds := by
  exact Eq.mp (congrArg OpenLaw.Holds Mine.rw_same) (Mine.hd (by
  k_fill
  intro w s₀ s₁ mg mb G Y fa o pm cd doc dV kV ho hd' hcd hD hmg hg args vals as hpre hlay hrd hwl hlo
  have KX := kIn_of Y
  have X := (Ground.X G).1
  have V := (Ground.X G).2
  refine Ground.open G ?_
  intro T B D TE TW
  wrow_args hpre hlay hrd hwl hlo
  refine enter_call ?_
  have e1 := mg_of KX T.g (show nsIn (Mine.hd.heap_39 w.params) mainGlobals "law" = some (some (.ref 172)) by k_is)
  have e2 : fa = 172 := by
    have e3 := hmg
    rw [show _ = mg _ from rfl] at e3
    injection (Option.some.inj (e1.symm.trans hmg)) with e4
    exact e4.symm
  subst e2
  rename IntsAre _ _ => hw
  rename Heap.IsList _ _ _ => hl
  refine Mine.law (below_caller s₁.heap) KX T (by decide) (by decide) rfl hl hw (by omega) fun h' tk hs => ?_
  refine Mine.good_true ?_ ?_ (fun _ => trivial) hs hg
  · intro cls; rfl
  · wrow_post))
