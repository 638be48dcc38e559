import PyProof.Rows.All
import Wide.All
import OpenK.AllK
import Wide.FinOn
import PySem.Challenge.RW_ec5001_01
set_option Elab.async false
section
open PySem PySem.W PyProof.Rows
set_option Elab.async false
namespace Mine
set_option maxRecDepth 100000
set_option maxHeartbeats 8000000
open_top hd for PySem.Challenge.rw_ec5001_01
end Mine
end
section
open PySem PySem.W PySem.Calls PyProof.Rows
set_option Elab.async false
set_option maxRecDepth 100000
namespace Mine
noncomputable abbrev KF (w : World) : Frag := Mine.hd.heap_39 w.params
/-- all that stood still stands -/
abbrev Keep (h h' : Heap) : Prop := ∀ b o, h.get? b = some o → h'.get? b = some o


section
variable {prog : Program} {w : World} {A₀ A : Around} {s : Shared} {base h₀ : Heap} {outer : List Env} {L : Addr} {m mg mb : Str → Option Value} {env : Env} {K : Frag} {p : Program} {loose : List Str} {mean : ExcName → Option Value}
  {R : Result → Shared → Prop} {name qual : Str} {params : Arguments} {body : List Stmt} {scope : Scope} {dV kV doc pm cdv ct oc : Value} {an od : Option Addr} {osl : Array (Option Value)} {f : Addr} {args : Args} {binds : List (Str × Value)}

theorem call_pure (B : Below A₀ base outer h₀) (F : Fr h₀ L s.heap m) (X₀ : K.In h₀) (T : Top p loose mean mg mb h₀) (hA : A.frames = some (env :: outer)) (hf : env.frame = some L) (hke : env.scope.kind = .function)
    (ho : K.lookup f = some ⟨oc, od, .func (fnOf name qual params body scope dV kV doc pm an cdv ct), osl⟩) (hcd : codeIn K cdv qual = true) (hroom : A.depth < recursionLimit)
    (hbind : BindsTo s (fnOf name qual params body scope dV kV doc pm an cdv ct) args binds) (hloc : ∀ y ∈ binds, scope.names.lookup y.1 = some .local)
    (h : ∀ g L' h₁, g = s.heap → Fr g L' h₁ (fun y => binds.reverse.lookup y) → News g L' h₁ [] → Below A base (env :: outer) g → K.In g → Top p loose mean mg mb g →
      wpAny (model prog w) (A.deeper (envOf qual scope L' f cdv)) (execs body (envOf qual scope L' f cdv))
        (fun fl s' => R (.ok (.ret (match fl with | .ret v => v | _ => .none))) s')
        (fun e s' => wpAny (model prog w) (A.deeper (envOf qual scope L' f cdv)) (leaving (envOf qual scope L' f cdv) e) (fun _ s'' => R (.error e) s'') (fun e' s'' => R (.error e') s'') s')
        { s with heap := h₁, toks := s.toks + binds.length })
    (hcell : ∀ x ∈ scope.names, x.2 ≠ .cell) (hco : scope.isCoroutine = false) (hgen : scope.isGenerator = false) (hk : scope.kind = .function) : codeAny (model prog w) A (.call (.ref f) args) R s := by
  have X := X₀.keeps F.keep
  obtain ⟨FG, BG, st, lv⟩ := groundX (R := R) B F (News.nil (h₀ := h₀) (h := s.heap) (L := L)) hA hf hke
  refine codeAny_call_def (fd := fnOf name qual params body scope dV kV doc pm an cdv ct) (body := body) (binds := binds) hroom (X _ _ ho) rfl (T.nolimit.keeps F.keep) (codeRec_of X hcd) rfl hbind hcell hloc (fun h₁ hns hk₁ => ?_) hco hgen hk
  exact h s.heap s.heap.objs.size h₁ rfl ⟨hns, hk₁, Nat.le_refl _⟩ News.nil BG X (T.keeps F.keep)
end
end Mine
namespace Mine
/-- a place at which the walk is to stop -/
def Stop (P : Prop) : Prop := P
theorem Stop.mk {P : Prop} (h : Stop P) : P := h
theorem Stop.go {P : Prop} (h : P) : Stop P := h
theorem fr_name {h₀ h : Heap} {L : Addr} {m : Str → Option Value} (x : Str) {v : Value} (F : Fr h₀ L h m) (e : m x = some v) : Fr h₀ L h (fun y => if y = x then some v else m y) := by
  have q : (fun y => if y = x then some v else m y) = m := by
    funext y
    by_cases h : y = x
    · subst h; rw [if_pos rfl, e]
    · rw [if_neg h]
  rw [q]; exact F
end Mine
namespace Mine
noncomputable def popc (n : Nat) : Nat := if h : n = 0 then 0 else n % 2 + popc (n / 2)
termination_by n
decreasing_by omega
theorem popc_zero : popc 0 = 0 := by unfold popc; rfl
theorem popc_step {n : Nat} (h : 0 < n) : popc n = n % 2 + popc (n / 2) := by rw [popc, dif_neg (by omega)]
end Mine
namespace Mine
theorem wstep {h₀ h' : Heap} {L : Addr} {s : Shared} {J : Nat → (Str → Option Value) → List (Addr × Obj) → Prop} {Q : Flow → Shared → Prop} {n n' tk : Nat} {m₂ : Str → Option Value} {news₂ : List (Addr × Obj)}
    (F : Fr h₀ L h' m₂) (N : News h₀ L h' news₂) (hn : n' < n) (hJ : J n' m₂ news₂) : WhileStep2 h₀ L s J Q n .next { s with heap := h', toks := tk } := ⟨h', tk, m₂, news₂, n', rfl, F, N, hn, hJ⟩
theorem fdiv_two (n : Nat) : Int.fdiv (n : Int) 2 = ((n / 2 : Nat) : Int) := by rw [Int.fdiv_eq_ediv_of_nonneg _ (by decide)]; omega
theorem fmod_two (n : Nat) : Int.fmod (n : Int) 2 = ((n % 2 : Nat) : Int) := by rw [Int.fmod_eq_emod_of_nonneg _ (by decide)]; omega
end Mine
namespace Mine
/-- a name of the frame's holds an int -/
def NI (m : Str → Option Value) (x : Str) (i : Int) : Prop := ∃ t, m x = some (.int i t)
theorem NI.mk {m : Str → Option Value} {x : Str} {i j : Int} {t : Tok} (h : m x = some (.int j t)) (e : j = i) : NI m x i := ⟨t, e ▸ h⟩
end Mine
namespace Mine
/-- a list of lists, each with an int at its head -/
def RowAt (h : Heap) (r : Addr) (ds : List Int) : Prop :=
  ∃ rs : List Value, h.IsList r rs.toArray ∧ rs.length = ds.length ∧ ∀ (i : Nat) (d : Int), ds[i]? = some d → ∃ (b : Addr) (t : Tok) (more : List Value), rs[i]? = some (Value.ref b) ∧ h.IsList b (Value.int d t :: more).toArray
/-- what a search to the right yields -/
def Ub (ds : List Int) (x : Int) (r : Nat) : Prop := r ≤ ds.length ∧ (∀ (i : Nat) (d : Int), i < r → ds[i]? = some d → d ≤ x) ∧ (∀ (i : Nat) (d : Int), r ≤ i → ds[i]? = some d → x < d)
theorem sorted_get {l : List Int} (hl : l.Pairwise (· ≤ ·)) {i j : Nat} {a b : Int} (hij : i ≤ j) (hi : l[i]? = some a) (hj : l[j]? = some b) : a ≤ b := by
  obtain ⟨hi', rfl⟩ := List.getElem?_eq_some_iff.mp hi
  obtain ⟨hj', rfl⟩ := List.getElem?_eq_some_iff.mp hj
  rcases Nat.lt_or_eq_of_le hij with h | h
  · exact List.pairwise_iff_getElem.mp hl i j hi' hj' h
  · subst h; exact Int.le_refl _
end Mine
end
section
open PySem PySem.W PySem.Calls PyProof.Rows
set_option Elab.async false
set_option maxRecDepth 100000
set_option maxHeartbeats 4000000
namespace Mine
local macro_rules | `(tactic| walk_at "exec While Compare cons nil") => `(tactic| refine Stop.mk ?_)
local macro_rules | `(tactic| k_steps) => `(tactic| repeat' (first | (k_unfold; (try dsimp only)) | walk1 | (dsimp only; walk1) | (leave1; walk_say "STEP leave1"; try dsimp only) | fail "no step"))
theorem count_call {prog : Program} {w : World} {p : Program} {loose : List Str} {mean : ExcName → Option Value} {mg mb : Str → Option Value}
    {dp un : Nat} {gd : Option (List Code)} {cn : Str} {cs : Scope} {a : Addr} {ccd : Value} {cl : List (Str × Addr)} {outer : List Env} {A₀ : Around} {base h₀ : Heap} {L : Addr} {m : Str → Option Value} {s : Shared} {Q E : Value → Shared → Prop} {x : Nat} {tx : Tok}
    (B : Below A₀ base outer h₀) (F : Fr h₀ L s.heap m) (X : (Mine.hd.heap_39 w.params).In h₀) (T : Top p loose mean mg mb h₀) (hk : cs.kind = .function)
    (hd : dp + 1 < recursionLimit) (hu : un + 8 < cLine)
    (ret : ∀ t h' tk', Keep s.heap h' → Q (.int (popc x) t) { s with heap := h', toks := tk' }) :
    wpAny (model prog w) (ktrTop dp un gd cn cs L a ccd cl outer) (call (.ref 42) [.int x tx]) Q E s := by
  have _ : PySem.Challenge.rw_ec5001_01 = PySem.Challenge.rw_ec5001_01 ∧ Mine.hd.heap_39 = Mine.hd.heap_39 := by { k_fill; exact ⟨rfl, rfl⟩ }
  refine wpAny_call ?_
  k_dflt (refine' call_pure (binds := [(Str.ofString "mask", .int x tx)]) ?k1 ?k2 ?k3 ?k5 ?kA ?kF ?kK ?k6 ?k7 ?k8 ?k9 ?kB ?_ ?c5 ?c2 ?c3 ?c4; (case kA => exact rfl); (case kF => exact rfl); (case kK => assumption); (case k1 => k_asm); (case k2 => k_asm); (case k3 => k_asm); (case k5 => k_asm); (case k6 => k_is); (case k7 => k_is); (case k8 => ktr_room); (case k9 => exact BindsTo.of_eq rfl); (case c5 => decide); (case kB => exact locs rfl); (case c2 => exact rfl); (case c3 => exact rfl); (case c4 => exact rfl); k_whole; intro g' L' h' eg' F' N' B' X' T'; (try dsimp only))
  k_steps
  rename Fr g' _ _ _ => F1
  rename News _ _ _ _ => N1
  refine Stop.go (While_inv2 (fun n m news => ∃ (c : Nat), NI m (Str.ofString "mask") n ∧ NI m (Str.ofString "count") c ∧ c + popc n = popc x ∧ news = []) F1 N1 ⟨0, .mk (by with_unfolding_all rfl) rfl, .mk (by with_unfolding_all rfl) rfl, by omega, rfl⟩ ?_)
  clear F1 N1
  rintro n m₁ news₁ h₁ tk₁ F₂ N₂ ⟨c, ⟨t1, hm⟩, ⟨t2, hc⟩, e, rfl⟩
  have F₃ := fr_name (Str.ofString "mask") (fr_name (Str.ofString "count") F₂ hc) hm
  clear F₂
  k_steps
  · rename Fr g' _ _ (fun y => if y = Str.ofString "mask" then _ else _) => F4
    rename News g' _ _ _ => N4
    have hpos : 0 < n := by omega
    refine wstep F4 N4 (n' := n / 2) (by omega) ⟨c + n % 2, .mk (by with_unfolding_all rfl) (fdiv_two n), .mk (by with_unfolding_all rfl) (by rw [fmod_two, Int.natCast_add]), ?_, rfl⟩
    rw [popc_step hpos] at e; omega
  · rename Fr g' _ _ _ => F4
    have h0 : n = 0 := by omega
    subst h0
    rw [popc_zero] at e
    have e' : c = popc x := by omega
    subst e'
    subst eg'
    exact ret _ _ _ F4.keep
end Mine
end
section
open PySem PySem.W PySem.Calls PyProof.Rows
set_option Elab.async false
set_option maxRecDepth 100000
set_option maxHeartbeats 4000000
set_option linter.unusedVariables false
namespace Mine
theorem my_item {prog w A E s} {value slice : PySem.Expr} {l : Addr} {vs : List Value} {k : Int} {u : Tok} {v : Value} {Q : Value → Shared → Prop}
    (hl : s.heap.IsList l vs.toArray) (h0 : 0 ≤ k) (hhi : k < 2 ^ 63) (hx : vs[k.toNat]? = some v) (h : Q v s)
    (hs : subscripted slice false (.ref l) (.int k u) = operate [.ref l, .int k u] (getItem (.ref l) (.int k u))) :
    wpAny (model prog w) A (subscriptTail value slice (.ref l) (.int k u)) Q E s :=
  tail_any hl.typeIs slot_list_getitem.lookup (wpAny_getItem_list hl h0 hhi (by simpa using hx) h) hs
theorem isList_keep {h h' : Heap} {l : Addr} {its : Array Value} (k : Keep h h') (x : h.IsList l its) : h'.IsList l its := let ⟨o, ho, r⟩ := x; ⟨o, k _ _ ho, r⟩

local macro_rules | `(tactic| walk_at "subscriptTail Name Constant ref int") => `(tactic| refine Stop.mk ?_)
local macro_rules | `(tactic| k_steps) => `(tactic| repeat' (first | (k_unfold; (try dsimp only)) | walk1 | (dsimp only; walk1) | (leave1; walk_say "STEP leave1"; try dsimp only) | fail "no step"))
theorem due_call {prog : Program} {w : World} {p : Program} {loose : List Str} {mean : ExcName → Option Value} {mg mb : Str → Option Value}
    {dp un : Nat} {gd : Option (List Code)} {cn : Str} {cs : Scope} {a : Addr} {ccd : Value} {cl : List (Str × Addr)} {outer : List Env} {A₀ : Around} {base h₀ : Heap} {L : Addr} {m : Str → Option Value} {s : Shared} {Q E : Value → Shared → Prop} {b : Addr} {v : Value} {vs : List Value}
    (B : Below A₀ base outer h₀) (F : Fr h₀ L s.heap m) (X : (Mine.hd.heap_39 w.params).In h₀) (T : Top p loose mean mg mb h₀) (hk : cs.kind = .function)
    (hd : dp + 1 < recursionLimit) (hu : un + 8 < cLine) (hl : s.heap.IsList b (v :: vs).toArray)
    (ret : ∀ h' tk', Keep s.heap h' → Q v { s with heap := h', toks := tk' }) :
    wpAny (model prog w) (ktrTop dp un gd cn cs L a ccd cl outer) (call (.ref 30) [.ref b]) Q E s := by
  have _ : PySem.Challenge.rw_ec5001_01 = PySem.Challenge.rw_ec5001_01 ∧ Mine.hd.heap_39 = Mine.hd.heap_39 := by { k_fill; exact ⟨rfl, rfl⟩ }
  refine wpAny_call ?_
  k_dflt (refine' call_pure (binds := [(Str.ofString "work", .ref b)]) ?k1 ?k2 ?k3 ?k5 ?kA ?kF ?kK ?k6 ?k7 ?k8 ?k9 ?kB ?_ ?c5 ?c2 ?c3 ?c4; (case kA => exact rfl); (case kF => exact rfl); (case kK => assumption); (case k1 => k_asm); (case k2 => k_asm); (case k3 => k_asm); (case k5 => k_asm); (case k6 => k_is); (case k7 => k_is); (case k8 => ktr_room); (case k9 => exact BindsTo.of_eq rfl); (case c5 => decide); (case kB => exact locs rfl); (case c2 => exact rfl); (case c3 => exact rfl); (case c4 => exact rfl); k_whole; intro g' L' h' eg' F' N' B' X' T'; (try dsimp only))
  subst eg'
  k_steps
  rename Fr s.heap _ _ _ => F1
  refine Stop.go (my_item (vs := v :: vs) (isList_keep F1.keep hl) (by decide) (by decide) rfl ?_ (by with_unfolding_all rfl))
  k_steps
  rename Fr s.heap _ _ _ => F1
  exact ret _ _ F1.keep
end Mine
end
section
open PySem PySem.W PySem.Calls PyProof.Rows
set_option Elab.async false
set_option maxRecDepth 100000
set_option maxHeartbeats 4000000
set_option pp.deepTerms false
set_option pp.deepTerms.threshold 5
set_option linter.unusedVariables false
namespace Mine
local macro_rules | `(tactic| walk_at "exec While Compare cons nil") => `(tactic| refine Stop.mk ?_)
local macro_rules | `(tactic| walk_at "subscriptTail Name Name ref int") => `(tactic| refine Stop.mk ?_)
local macro_rules | `(tactic| walk_at "call ref cons nil") => `(tactic| refine Stop.mk ?_)
local macro_rules | `(tactic| walk_at "call builtin:len") => `(tactic| refine Stop.mk ?_)
local macro_rules | `(tactic| walk_at "call ref") => `(tactic| refine Stop.mk ?_)
local macro_rules | `(tactic| k_steps) => `(tactic| repeat' (first | (k_unfold; (try dsimp only)) | walk1 | (dsimp only; walk1) | (leave1; walk_say "STEP leave1"; try dsimp only) | fail "no step"))
theorem bisK_call {prog : Program} {w : World} {p : Program} {loose : List Str} {mean : ExcName → Option Value} {mg mb : Str → Option Value}
    {dp un : Nat} {gd : Option (List Code)} {cn : Str} {cs : Scope} {a : Addr} {ccd : Value} {cl : List (Str × Addr)} {outer : List Env} {A₀ : Around} {base h₀ : Heap} {L : Addr} {m : Str → Option Value} {s : Shared} {Q E : Value → Shared → Prop} {r : Addr} {ds : List Int} {x : Int} {tx : Tok}
    (B : Below A₀ base outer h₀) (F : Fr h₀ L s.heap m) (X : (Mine.hd.heap_39 w.params).In h₀) (T : Top p loose mean mg mb h₀) (hk : cs.kind = .function)
    (hd : dp + 2 < recursionLimit) (hu : un + 16 < cLine) (hr : RowAt s.heap r ds) (hs : ds.Pairwise (· ≤ ·)) (hn : ds.length < 100)
    (ret : ∀ k t h' tk', Ub ds x k → Keep s.heap h' → Q (.int (k : Nat) t) { s with heap := h', toks := tk' }) :
    wpAny (model prog w) (ktrTop dp un gd cn cs L a ccd cl outer) (call (.ref 23) [.ref r, .int x tx] [(Str.ofString "key", .ref 30)]) Q E s := by
  have _ : PySem.Challenge.rw_ec5001_01 = PySem.Challenge.rw_ec5001_01 ∧ Mine.hd.heap_39 = Mine.hd.heap_39 := by { k_fill; exact ⟨rfl, rfl⟩ }
  refine wpAny_call ?_
  k_dflt (refine' call_pure (binds := [(Str.ofString "a", .ref r), (Str.ofString "x", .int x tx), (Str.ofString "lo", .int 0 189), (Str.ofString "hi", .none), (Str.ofString "key", .ref 30)]) ?k1 ?k2 ?k3 ?k5 ?kA ?kF ?kK ?k6 ?k7 ?k8 ?k9 ?kB ?_ ?c5 ?c2 ?c3 ?c4; (case kA => exact rfl); (case kF => exact rfl); (case kK => assumption); (case k1 => k_asm); (case k2 => k_asm); (case k3 => k_asm); (case k5 => k_asm); (case k6 => k_is); (case k7 => k_is); (case k8 => ktr_room); (case k9 => (refine' kp_binds ?kx ?ke; (case kx => k_in); (case ke => exact fun _ => rfl))); (case c5 => decide); (case kB => exact locs rfl); (case c2 => exact rfl); (case c3 => exact rfl); (case c4 => exact rfl); k_whole; intro g' L' h' eg' F' N' B' X' T'; (try dsimp only))
  subst eg'
  obtain ⟨rs, hr1, hr2, hr3⟩ := id hr
  k_steps
  have hr1' := isList_keep F'.keep hr1
  refine Stop.go (len_list hr1' (by rw [List.size_toArray]; omega) ?_)
  k_steps
  rename Fr s.heap L' _ _ => F1
  rename News s.heap L' _ _ => N1
  refine Stop.go (While_inv2 (fun n m news => ∃ (lo hi : Nat), NI m (Str.ofString "lo") lo ∧ NI m (Str.ofString "hi") hi ∧ m (Str.ofString "a") = some (.ref r) ∧ m (Str.ofString "x") = some (.int x tx) ∧ m (Str.ofString "key") = some (.ref 30) ∧ n = hi - lo ∧ lo ≤ hi ∧ hi ≤ ds.length ∧
      (∀ (i : Nat) (d : Int), i < lo → ds[i]? = some d → d ≤ x) ∧ (∀ (i : Nat) (d : Int), hi ≤ i → ds[i]? = some d → x < d) ∧ news = [])
    F1 N1 ⟨0, ds.length, .mk (by with_unfolding_all rfl) rfl, .mk (by with_unfolding_all rfl) (by rw [List.size_toArray, hr2]), by with_unfolding_all rfl, by with_unfolding_all rfl, by with_unfolding_all rfl, rfl, by omega, by omega, by intro i d h; omega, by (intro i d h e; rw [List.getElem?_eq_none h] at e; cases e), rfl⟩ ?_)
  clear F1 N1
  rintro n m₁ news₁ h₁ tk₁ F₂ N₂ ⟨lo, hi, ⟨t1, hlo⟩, ⟨t2, hhi⟩, ha, hx, hkey, hn1, hle, hlen, i1, i2, rfl⟩
  have F₃ := fr_name (Str.ofString "lo") (fr_name (Str.ofString "hi") (fr_name (Str.ofString "a") (fr_name (Str.ofString "x") (fr_name (Str.ofString "key") F₂ hkey) hx) ha) hhi) hlo
  clear F₂
  k_steps
  · have hlt : lo < hi := by omega
    have emid : Int.fdiv ((lo : Int) + (hi : Int)) 2 = (((lo + hi) / 2 : Nat) : Int) := by rw [← Int.natCast_add, fdiv_two]
    obtain ⟨mid, hmid⟩ : ∃ mid, mid = (lo + hi) / 2 := ⟨_, rfl⟩
    rw [← hmid] at emid
    have hml : lo ≤ mid := by omega
    have hmh : mid < hi := by omega
    obtain ⟨d, hdm⟩ : ∃ d, ds[mid]? = some d := ⟨_, List.getElem?_eq_getElem (by omega)⟩
    obtain ⟨b, t, more, hb1, hb2⟩ := hr3 mid d hdm
    rename Fr s.heap L' _ _ => F4
    refine Stop.go (my_item (isList_keep F4.keep hr1) (by rw [emid]; omega) (by rw [emid]; omega) (by rw [emid, Int.toNat_natCast]; exact hb1) ?_ (by with_unfolding_all rfl))
    k_steps
    rename Fr s.heap L' _ _ => F5
    rename News s.heap L' _ _ => N5
    refine Stop.go ?_
    k_dflt (refine' due_call ?k1 ?k2 ?k3 ?k4 ?k5 ?k6 ?k7 ?k8 ?_; (case k1 => k_asm); (case k2 => k_asm); (case k3 => k_asm); (case k4 => k_asm); (case k5 => exact rfl); (case k6 => ktr_room); (case k7 => ktr_units); (case k8 => exact isList_keep F5.keep hb2))
    intro h6 tk6 K6
    have F6 := F5.keeps K6
    have N6 : News s.heap L' h6 [] := News.nil
    dsimp only
    k_steps
    · rename Fr s.heap L' _ (fun y => if y = Str.ofString "hi" then some (Value.int (Int.fdiv _ _) _) else _) => F7
      rename x < d => hxd
      refine wstep F7 News.nil (n' := mid - lo) (by omega) ⟨lo, mid, .mk (by with_unfolding_all rfl) rfl, .mk (by with_unfolding_all rfl) emid, by with_unfolding_all rfl, by with_unfolding_all rfl, by with_unfolding_all rfl, rfl, hml, by omega, i1, fun i e hi' he => ?_, rfl⟩
      exact Int.lt_of_lt_of_le hxd (sorted_get hs hi' hdm he)
    · rename Fr s.heap L' _ (fun y => if y = Str.ofString "lo" then some (Value.int (Int.fdiv _ _ + _) _) else _) => F7
      rename ¬ x < d => hxd
      refine wstep F7 News.nil (n' := hi - (mid + 1)) (by omega) ⟨mid + 1, hi, .mk (by with_unfolding_all rfl) (by rw [emid, Int.natCast_add]; rfl), .mk (by with_unfolding_all rfl) rfl, by with_unfolding_all rfl, by with_unfolding_all rfl, by with_unfolding_all rfl, rfl, by omega, hlen, fun i e hi' he => ?_, i2, rfl⟩
      exact Int.le_trans (sorted_get hs (Nat.le_of_lt_succ hi') he hdm) (Int.not_lt.mp hxd)
  · exact ret lo t1 _ _ ⟨Nat.le_trans hle hlen, i1, fun i d h e => i2 i d (by omega) e⟩ F₃.keep
end Mine
end
section
open PySem PySem.W PySem.Calls PyProof.Rows
set_option Elab.async false
set_option maxRecDepth 100000
set_option maxHeartbeats 4000000
set_option pp.deepTerms false
set_option pp.deepTerms.threshold 5
set_option linter.unusedVariables false
namespace Mine
local macro_rules | `(tactic| walk_at "exec While Compare cons nil") => `(tactic| refine Stop.mk ?_)
local macro_rules | `(tactic| walk_at "subscriptTail Name Name ref int") => `(tactic| refine Stop.mk ?_)
local macro_rules | `(tactic| walk_at "call ref cons nil") => `(tactic| refine Stop.mk ?_)
local macro_rules | `(tactic| walk_at "call builtin:len") => `(tactic| refine Stop.mk ?_)
local macro_rules | `(tactic| walk_at "call ref") => `(tactic| refine Stop.mk ?_)
local macro_rules | `(tactic| k_steps) => `(tactic| repeat' (first | (k_unfold; (try dsimp only)) | walk1 | (dsimp only; walk1) | (leave1; walk_say "STEP leave1"; try dsimp only) | fail "no step"))
theorem bis_call {prog : Program} {w : World} {p : Program} {loose : List Str} {mean : ExcName → Option Value} {mg mb : Str → Option Value}
    {dp un : Nat} {gd : Option (List Code)} {cn : Str} {cs : Scope} {a : Addr} {ccd : Value} {cl : List (Str × Addr)} {outer : List Env} {A₀ : Around} {base h₀ : Heap} {L : Addr} {m : Str → Option Value} {s : Shared} {Q E : Value → Shared → Prop} {r : Addr} {ds : List Int} {x : Int} {tx : Tok}
    (B : Below A₀ base outer h₀) (F : Fr h₀ L s.heap m) (X : (Mine.hd.heap_39 w.params).In h₀) (T : Top p loose mean mg mb h₀) (hk : cs.kind = .function)
    (hd : dp + 2 < recursionLimit) (hu : un + 16 < cLine) {rs : List Value} (hr1 : s.heap.IsList r rs.toArray) (hI : IntsAre rs ds) (hs : ds.Pairwise (· ≤ ·)) (hn : ds.length < 100)
    (ret : ∀ k t h' tk', Ub ds x k → Keep s.heap h' → Q (.int (k : Nat) t) { s with heap := h', toks := tk' }) :
    wpAny (model prog w) (ktrTop dp un gd cn cs L a ccd cl outer) (call (.ref 23) [.ref r, .int x tx] []) Q E s := by
  have _ : PySem.Challenge.rw_ec5001_01 = PySem.Challenge.rw_ec5001_01 ∧ Mine.hd.heap_39 = Mine.hd.heap_39 := by { k_fill; exact ⟨rfl, rfl⟩ }
  refine wpAny_call ?_
  k_dflt (refine' call_pure (binds := [(Str.ofString "a", .ref r), (Str.ofString "x", .int x tx), (Str.ofString "lo", .int 0 189), (Str.ofString "hi", .none), (Str.ofString "key", .none)]) ?k1 ?k2 ?k3 ?k5 ?kA ?kF ?kK ?k6 ?k7 ?k8 ?k9 ?kB ?_ ?c5 ?c2 ?c3 ?c4; (case kA => exact rfl); (case kF => exact rfl); (case kK => assumption); (case k1 => k_asm); (case k2 => k_asm); (case k3 => k_asm); (case k5 => k_asm); (case k6 => k_is); (case k7 => k_is); (case k8 => ktr_room); (case k9 => (refine' kp_binds ?kx ?ke; (case kx => k_in); (case ke => exact fun _ => rfl))); (case c5 => decide); (case kB => exact locs rfl); (case c2 => exact rfl); (case c3 => exact rfl); (case c4 => exact rfl); k_whole; intro g' L' h' eg' F' N' B' X' T'; (try dsimp only))
  subst eg'
  have hr2 : rs.length = ds.length := hI.length
  k_steps
  have hr1' := isList_keep F'.keep hr1
  refine Stop.go (len_list hr1' (by rw [List.size_toArray]; omega) ?_)
  k_steps
  rename Fr s.heap L' _ _ => F1
  rename News s.heap L' _ _ => N1
  refine Stop.go (While_inv2 (fun n m news => ∃ (lo hi : Nat), NI m (Str.ofString "lo") lo ∧ NI m (Str.ofString "hi") hi ∧ m (Str.ofString "a") = some (.ref r) ∧ m (Str.ofString "x") = some (.int x tx) ∧ n = hi - lo ∧ lo ≤ hi ∧ hi ≤ ds.length ∧
      (∀ (i : Nat) (d : Int), i < lo → ds[i]? = some d → d ≤ x) ∧ (∀ (i : Nat) (d : Int), hi ≤ i → ds[i]? = some d → x < d) ∧ news = [])
    F1 N1 ⟨0, ds.length, .mk (by with_unfolding_all rfl) rfl, .mk (by with_unfolding_all rfl) (by rw [List.size_toArray, hr2]), by with_unfolding_all rfl, by with_unfolding_all rfl, rfl, by omega, by omega, by intro i d h; omega, by (intro i d h e; rw [List.getElem?_eq_none h] at e; cases e), rfl⟩ ?_)
  clear F1 N1
  rintro n m₁ news₁ h₁ tk₁ F₂ N₂ ⟨lo, hi, ⟨t1, hlo⟩, ⟨t2, hhi⟩, ha, hx, hn1, hle, hlen, i1, i2, rfl⟩
  have F₃ := fr_name (Str.ofString "lo") (fr_name (Str.ofString "hi") (fr_name (Str.ofString "a") (fr_name (Str.ofString "x") F₂ hx) ha) hhi) hlo
  clear F₂
  k_steps
  · have hlt : lo < hi := by omega
    have emid : Int.fdiv ((lo : Int) + (hi : Int)) 2 = (((lo + hi) / 2 : Nat) : Int) := by rw [← Int.natCast_add, fdiv_two]
    obtain ⟨mid, hmid⟩ : ∃ mid, mid = (lo + hi) / 2 := ⟨_, rfl⟩
    rw [← hmid] at emid
    have hml : lo ≤ mid := by omega
    have hmh : mid < hi := by omega
    obtain ⟨d, hdm⟩ : ∃ d, ds[mid]? = some d := ⟨_, List.getElem?_eq_getElem (by omega)⟩
    obtain ⟨t, hb1⟩ := hI.get mid d hdm
    rename Fr s.heap L' _ _ => F4
    refine Stop.go (my_item (isList_keep F4.keep hr1) (by rw [emid]; omega) (by rw [emid]; omega) (by rw [emid, Int.toNat_natCast]; exact hb1) ?_ (by with_unfolding_all rfl))
    k_steps
    · rename Fr s.heap L' _ (fun y => if y = Str.ofString "hi" then some (Value.int (Int.fdiv _ _) _) else _) => F7
      rename x < d => hxd
      refine wstep F7 News.nil (n' := mid - lo) (by omega) ⟨lo, mid, .mk (by with_unfolding_all rfl) rfl, .mk (by with_unfolding_all rfl) emid, by with_unfolding_all rfl, by with_unfolding_all rfl, rfl, hml, by omega, i1, fun i e hi' he => ?_, rfl⟩
      exact Int.lt_of_lt_of_le hxd (sorted_get hs hi' hdm he)
    · rename Fr s.heap L' _ (fun y => if y = Str.ofString "lo" then some (Value.int (Int.fdiv _ _ + _) _) else _) => F7
      rename ¬ x < d => hxd
      refine wstep F7 News.nil (n' := hi - (mid + 1)) (by omega) ⟨mid + 1, hi, .mk (by with_unfolding_all rfl) (by rw [emid, Int.natCast_add]; rfl), .mk (by with_unfolding_all rfl) rfl, by with_unfolding_all rfl, by with_unfolding_all rfl, rfl, by omega, hlen, fun i e hi' he => ?_, i2, rfl⟩
      exact Int.le_trans (sorted_get hs (Nat.le_of_lt_succ hi') he hdm) (Int.not_lt.mp hxd)
  · exact ret lo t1 _ _ ⟨Nat.le_trans hle hlen, i1, fun i d h e => i2 i d (by omega) e⟩ F₃.keep
end Mine
end
section
open PySem PySem.W PySem.Calls PyProof.Rows
set_option Elab.async false
set_option maxRecDepth 100000
set_option linter.unusedVariables false
namespace Mine
section
variable {prog : Program} {w : World} {A₀ A : Around} {s : Shared} {base h₀ : Heap} {outer : List Env} {L : Addr} {m mg mb : Str → Option Value} {env : Env} {K : Frag} {p : Program} {loose : List Str} {mean : ExcName → Option Value}
  {R : Result → Shared → Prop} {name qual : Str} {params : Arguments} {body : List Stmt} {scope : Scope} {dV kV doc pm cdv ct oc : Value} {an od : Option Addr} {osl : Array (Option Value)} {f : Addr} {args : Args} {binds : List (Str × Value)}

theorem call_pureC (B : Below A₀ base outer h₀) (F : Fr h₀ L s.heap m) (X₀ : K.In h₀) (T : Top p loose mean mg mb h₀) (hA : A.frames = some (env :: outer)) (hf : env.frame = some L) (hke : env.scope.kind = .function)
    (ho : K.lookup f = some ⟨oc, od, .func (fnOf name qual params body scope dV kV doc pm an cdv ct), osl⟩) (hcd : codeIn K cdv qual = true) (hroom : A.depth < recursionLimit)
    (hbind : BindsTo s (fnOf name qual params body scope dV kV doc pm an cdv ct) args binds) (hkind : (binds.all fun y => scope.names.lookup y.1 == some .local || scope.names.lookup y.1 == some .cell) = true)
    (hnd : ((cellsFrom 0 scope.names []).map (·.1)).Nodup)
    (h : ∀ g L' h₁ tk cells, g = s.heap → Fr g L' h₁ (bindL (envOfC qual scope L' f cdv).kindOf binds fun _ => none) → News g L' h₁ cells →
      CellsAre (bindC (envOfC qual scope L' f cdv).kindOf binds fun _ => none) (cellsFrom (L' + 1) scope.names []) cells → Below A base (env :: outer) g → K.In g → Top p loose mean mg mb g →
      wpAny (model prog w) (A.deeper (envOfC qual scope L' f cdv)) (execs body (envOfC qual scope L' f cdv))
        (fun fl s' => R (.ok (.ret (match fl with | .ret v => v | _ => .none))) s')
        (fun e s' => wpAny (model prog w) (A.deeper (envOfC qual scope L' f cdv)) (leaving (envOfC qual scope L' f cdv) e) (fun _ s'' => R (.error e) s'') (fun e' s'' => R (.error e') s'') s')
        { s with heap := h₁, toks := tk })
    (hco : scope.isCoroutine = false) (hgen : scope.isGenerator = false) (hk : scope.kind = .function) : codeAny (model prog w) A (.call (.ref f) args) R s := by
  have X := X₀.keeps F.keep
  obtain ⟨FG, BG, st, lv⟩ := groundX (R := R) B F (News.nil (h₀ := h₀) (h := s.heap) (L := L)) hA hf hke
  refine codeAny_call_function hroom (X _ _ ho) rfl hco hgen rfl (codeRec_of X hcd) (hbind _ _ _ _ ?_)
  refine wpAny_newFunctionEnv_cells hk (kindsX hkind _) fun env' he s' x => ?_
  subst he
  refine ⟨(T.nolimit.keeps F.keep).keeps x.toInCall.keep, codeAny_func ?_⟩
  obtain ⟨h₁, tk, rfl, _⟩ := x.done
  have hk₁ := x.toInCall.keep
  obtain ⟨cells, NC, Y⟩ := Cl.news (h₀ := s.heap) (Nat.le_refl _) fun n c hm => ⟨x.cell n c (lookup_of_mem_nodup (cellsFrom_names scope.names 0 (s.heap.objs.size + 1) [] [] rfl ▸ hnd) hm), x.above n c hm⟩
  exact h s.heap s.heap.objs.size h₁ tk cells rfl ⟨x.toInCall.ns, hk₁, Nat.le_refl _⟩ NC Y BG X (T.keeps F.keep)
end

/-- a turn's end -/
def TurnEnd (h₀ : Heap) (L I : Addr) (oI : Obj) (J : (Str → Option Value) → List (Addr × Obj) → Prop) (s₁ : Shared) (Q : Flow → Shared → Prop) (f : Flow) (s₂ : Shared) : Prop := match f with
  | .ret v => Q (.ret v) s₂
  | .brk => Q .next s₂
  | _ => ∃ h' tk m' news', s₂ = { s₁ with heap := h', toks := tk } ∧ Fr h₀ L h' m' ∧ News h₀ L h' ((I, oI) :: news') ∧ (∀ p ∈ news', p.1 ≠ I) ∧ J m' news'
theorem turn_end {h₀ h' : Heap} {L I : Addr} {oI : Obj} {J : (Str → Option Value) → List (Addr × Obj) → Prop} {s₁ : Shared} {Q : Flow → Shared → Prop} {tk : Nat} {m' : Str → Option Value} {all : List (Addr × Obj)} (news' : List (Addr × Obj))
    (F : Fr h₀ L h' m') (N : News h₀ L h' all) (hs : ∀ p ∈ (I, oI) :: news', p ∈ all) (hI : ∀ p ∈ news', p.1 ≠ I) (hJ : J m' news') : TurnEnd h₀ L I oI J s₁ Q .next { s₁ with heap := h', toks := tk } :=
  ⟨h', tk, m', news', rfl, F, fun p hp => N p (hs p hp), hI, hJ⟩

section
variable {prog : Program} {w : World} {A : Around} {E : Value → Shared → Prop} {Q : Flow → Shared → Prop} {s : Shared} {env : Env} {h₀ : Heap} {L : Addr}
theorem for_loop {target : Expr} {body : List Stmt} {r : Addr} {a b : Int} {t u v : Tok} {n : Nat} {m : Str → Option Value} {news : List (Addr × Obj)} (hh : A.handled = none)
    (F : Fr h₀ L s.heap m) (N : News h₀ L s.heap news) (hr : IsRange s.heap r a b 1 t u v) (hsm : Builtin.Range.small a b 1 = true) (hn : Builtin.Range.rangeSize a b 1 = ((n : Nat) : Int))
    (J : Nat → (Str → Option Value) → List (Addr × Obj) → Prop) (h0 : J 0 m news)
    (turn : ∀ i m₁ news₁ h tk tv I oI, i < n → J i m₁ news₁ → Fr h₀ L h m₁ → News h₀ L h ((I, oI) :: news₁) → (∀ p ∈ news₁, p.1 ≠ I) →
      wpAny (model prog w) A (assign target env (.int (a + (i : Nat)) tv)) (fun _ s₂ => wpAny (model prog w) A (execs body env) (TurnEnd h₀ L I oI (J (i + 1)) s Q) E s₂) E { s with heap := h, toks := tk })
    (done : ∀ h tk m' news', Fr h₀ L h m' → News h₀ L h news' → J n m' news' → Q .next { s with heap := h, toks := tk })
    (ht : ∀ it v, letOwnedTupleGo target it v = pure () := by intro _ _; rfl)
    (hE : PassesOwn (model prog w) A env E := by passes_own) :
    wpAny (model prog w) A (pyIter (.ref r)) (fun it s₂ => codeAny (model prog w) A (.forLoop target it body [] env) (fun r s' => match r with | .ok f => Q f s' | .error e => cameBackBy (model prog w) A env E e s') s₂) E s := by
  refine wpAny_pyIter_range hr hsm ?_
  obtain ⟨I, hI⟩ : ∃ I, I = s.heap.objs.size := ⟨_, rfl⟩
  have W := LCg.range_walks (prog := prog) (w := w) (I := I) hh a n
  have hL : L ≠ I := hI ▸ Nat.ne_of_lt F.ns.lt
  have hI₀ : h₀.get? I = none := by
    cases e : h₀.get? I with
    | none => rfl
    | some o => exact absurd (Heap.lt_size (F.keep _ _ e)) (hI ▸ Nat.lt_irrefl _)
  rw [← hI]
  refine codeAny_forLoop (fun k s' => ∃ h' tk m' news' i, s' = { s with heap := h', toks := tk } ∧ IsRangeIter h' I (a + (i : Nat) * 1) ((n : Int) - (i : Nat)) 1 ∧ Fr h₀ L h' m' ∧ News h₀ L h' news' ∧ (∀ p ∈ news', p.1 ≠ I) ∧ J i m' news' ∧ i ≤ n ∧ k = n + 1 - i) ?_ (n + 1)
    ⟨_, s.toks, m, news, 0, rfl, by (rw [hn]; subst hI; simpa using Heap.get?_push_size _ rfl), F.keeps fun _ _ e => Heap.get?_push_of_some _ e, N.grown fun _ _ e => Heap.get?_push_of_some _ e, fun p hp => hI ▸ Nat.ne_of_lt (Heap.lt_size (N p hp).1), h0, Nat.zero_le _, rfl⟩ (ht _)
  rintro k s' ⟨h', tk, m', news', i, rfl, st, F', N', off, hJ, hi, rfl⟩
  by_cases hlt : i < n
  · refine W.item i _ _ _ hlt st fun x h₂ tk₂ hx st₂ hk₂ => ?_
    obtain ⟨tv, rfl⟩ := hx
    have F₂ := LCg.fr_but F' hk₂ hL hI₀
    have N₂ := LCg.news_but N' hk₂ off
    have st₂' : h₂.get? I = some _ := st₂
    have N₃ : News h₀ L h₂ ((I, _) :: news') := fun p hp => by
      rcases List.mem_cons.mp hp with rfl | hp
      · exact ⟨st₂', Ne.symm hL, hI₀⟩
      · exact N₂ p hp
    refine wpAny_passesOwn hE (wpAny_mono (turn i m' news' h₂ tk₂ tv I _ hlt hJ F₂ N₃ off) (fun _ s₂ q => wpAny_passesOwn hE (wpAny_mono q (fun f s₃ e => ?_) fun _ _ e => e)) fun _ _ e => e)
    cases f with
    | ret v => exact e
    | brk => exact e
    | next => (obtain ⟨h₄, tk₄, m₄, news₄, e₄, F₄, N₄, off₄, J₄⟩ := e; exact ⟨n + 1 - (i + 1), by omega, h₄, tk₄, m₄, news₄, i + 1, e₄, (N₄ _ (.head _)).1, F₄, fun p hp => N₄ p (.tail _ hp), off₄, J₄, hlt, rfl⟩)
    | cont => (obtain ⟨h₄, tk₄, m₄, news₄, e₄, F₄, N₄, off₄, J₄⟩ := e; exact ⟨n + 1 - (i + 1), by omega, h₄, tk₄, m₄, news₄, i + 1, e₄, (N₄ _ (.head _)).1, F₄, fun p hp => N₄ p (.tail _ hp), off₄, J₄, hlt, rfl⟩)
  · have hin : i = n := by omega
    subst hin
    refine W.done _ _ _ st fun h₁ tk₁ hk₁ => wpAny_execs_nil ?_
    exact done h₁ tk₁ m' news' (LCg.fr_but F' hk₁ hL hI₀) (LCg.news_but N' hk₁ off) hJ
end
end Mine
end
section
open PySem PySem.W PySem.Calls PyProof.Rows
set_option Elab.async false
set_option maxRecDepth 100000
set_option linter.unusedVariables false
namespace Mine
/-- an element's end: frame and ledger as they were, and what is said -/
def El (h₀ : Heap) (L : Addr) (m : Str → Option Value) (s₁ : Shared) (all : List (Addr × Obj)) (J : Prop) (s₂ : Shared) : Prop :=
  ∃ h' tk, s₂ = { s₁ with heap := h', toks := tk } ∧ Fr h₀ L h' m ∧ News h₀ L h' all ∧ J
theorem El.mk {h₀ : Heap} {L : Addr} {m : Str → Option Value} {s₁ : Shared} {all big : List (Addr × Obj)} {J : Prop} {h' : Heap} {tk : Nat} (F : Fr h₀ L h' m) (N : News h₀ L h' big) (hs : ∀ p ∈ all, p ∈ big) (hj : J) : El h₀ L m s₁ all J { s₁ with heap := h', toks := tk } :=
  ⟨h', tk, rfl, F, fun p hp => N p (hs p hp), hj⟩
section
variable {prog : Program} {w : World} {A : Around} {s : Shared} {h₀ : Heap} {L : Addr} {m : Str → Option Value} {env : Env} {elt ct : Expr} {x : Str} {scope : Scope} {cl : List (Str × Addr)} {S : List (Addr × Obj) → Prop} {P : Nat → Value → Prop} {Fin : List Value → List (Addr × Obj) → Prop} {news : List (Addr × Obj)}
theorem rest_U (N : Nat) (J : Nat → List Value → Prop) (hS : S news)
    (turn : ∀ i ys v I oI C oC D m₂ h tk (E' : Value → Shared → Prop), i < N → J i ys → P i v → LCg.NsObj oC m₂ → m₂ x = some v → Fr h₀ L h m → News h₀ L h ((I, oI) :: (C, oC) :: (D, LCg.lst ys) :: news) → LCg.Off3 I C D news → ((@Ne Nat I C) ∧ (@Ne Nat I D) ∧ (@Ne Nat C D)) →
      wpAny (model prog w) A (eval elt (compEnvC scope cl C env)) (fun y s₂ => El h₀ L m { s with heap := h, toks := tk } ((I, oI) :: (C, oC) :: (D, LCg.lst ys) :: news) (J (i + 1) (ys ++ [y])) s₂) E' { s with heap := h, toks := tk })
    (fin : ∀ ys, J N ys → Fin ys news) : ∀ k i ys, i + k = N → J i ys → LCg.CompRest prog w A h₀ L m env elt x scope cl s S P Fin k i ys news := by
  intro k
  induction k with
  | zero => intro i ys e hj; exact LCg.CompRest.zero (fin ys (by have : i = N := e; rw [← this]; exact hj))
  | succ k ih =>
    intro i ys e hj
    refine LCg.CompRest.succ fun v I oI C oC D m₂ h tk E' hv hC hx F N' off ne => ?_
    refine wpAny_mono (turn i ys v I oI C oC D m₂ h tk E' (by omega) hj hv hC hx F N' off ne) (fun y s₂ q => ?_) fun _ _ e => e
    obtain ⟨h', tk', e', F', N'', hj'⟩ := q
    exact ⟨h', tk', news, e', F', N'', off, hS, ih (i + 1) (ys ++ [y]) (by omega) hj'⟩
theorem rest_T (N : Nat) (J : Nat → List Value → Prop) (hS : S news)
    (turn : ∀ i ys v I oI C oC D m₂ h tk (E' : Value → Shared → Prop), i < N → J i ys → P i v → LCg.NsObj oC m₂ → m₂ x = some v → Fr h₀ L h m → News h₀ L h ((I, oI) :: (C, oC) :: (D, LCg.lst ys) :: news) → LCg.Off3 I C D news → ((@Ne Nat I C) ∧ (@Ne Nat I D) ∧ (@Ne Nat C D)) →
      wpAny (model prog w) A (isTrue ct (compEnvC scope cl C env) (eval ct (compEnvC scope cl C env))) (fun ok s' => if ok = true then
        wpAny (model prog w) A (eval elt (compEnvC scope cl C env)) (fun y s₂ => El h₀ L m { s with heap := h, toks := tk } ((I, oI) :: (C, oC) :: (D, LCg.lst ys) :: news) (J (i + 1) (ys ++ [y])) s₂) E' s'
        else El h₀ L m { s with heap := h, toks := tk } ((I, oI) :: (C, oC) :: (D, LCg.lst ys) :: news) (J (i + 1) ys) s') E' { s with heap := h, toks := tk })
    (fin : ∀ ys, J N ys → Fin ys news) : ∀ k i ys, i + k = N → J i ys → LCt.CompRestT prog w A h₀ L m env ct elt x scope cl s S P Fin k i ys news := by
  intro k
  induction k with
  | zero => intro i ys e hj; exact LCt.CompRestT.zero (fin ys (by have : i = N := e; rw [← this]; exact hj))
  | succ k ih =>
    intro i ys e hj
    refine LCt.CompRestT.succ fun v I oI C oC D m₂ h tk E' hv hC hx F N' off ne => ?_
    refine wpAny_mono (turn i ys v I oI C oC D m₂ h tk E' (by omega) hj hv hC hx F N' off ne) (fun ok s₂ q => ?_) fun _ _ e => e
    by_cases hok : ok = true
    · rw [if_pos hok] at q ⊢
      refine wpAny_mono q (fun y s₃ q => ?_) fun _ _ e => e
      obtain ⟨h', tk', e', F', N'', hj'⟩ := q
      exact ⟨h', tk', news, e', F', N'', off, hS, ih (i + 1) (ys ++ [y]) (by omega) hj'⟩
    · rw [if_neg hok] at q ⊢
      obtain ⟨h', tk', e', F', N'', hj'⟩ := q
      exact ⟨h', tk', news, e', F', N'', off, hS, ih (i + 1) ys (by omega) hj'⟩
end
/-- the set bits below n -/
def held (n m : Nat) : List Nat := (List.range n).filter fun k => m.testBit k
def dueAt (js : List (Int × Int)) (k : Nat) : Int := (js.getD k (0, 0)).1
def sizeAt (js : List (Int × Int)) (k : Nat) : Int := (js.getD k (0, 0)).2
def sumH (js : List (Int × Int)) (m : Nat) : Int := ((held js.length m).map (sizeAt js)).sum
inductive Poss (js : List (Int × Int)) : Nat → Prop
  | zero : Poss js 0
  | step {m k : Nat} : k < js.length → m.testBit k = true → Poss js (m - 2 ^ k) → sumH js m ≤ dueAt js k → Poss js m
theorem poss_iff {js : List (Int × Int)} {m : Nat} (hm : m ≠ 0) : Poss js m ↔ ∃ k ∈ held js.length m, Poss js (m - 2 ^ k) ∧ sumH js m ≤ dueAt js k := by
  constructor
  · intro h
    cases h with
    | zero => exact absurd rfl hm
    | step hk hb hp hs => exact ⟨_, List.mem_filter.mpr ⟨List.mem_range.mpr hk, hb⟩, hp, hs⟩
  · rintro ⟨k, hk, hp, hs⟩
    obtain ⟨h1, h2⟩ := List.mem_filter.mp hk
    exact .step (List.mem_range.mp h1) h2 hp hs
end Mine
namespace Mine
theorem held_zero (n : Nat) : held n 0 = [] := by
  unfold held
  exact List.filter_eq_nil_iff.mpr fun k _ => by rw [Nat.zero_testBit]; exact Bool.false_ne_true
theorem sumH_zero (js : List (Int × Int)) : sumH js 0 = 0 := by
  unfold sumH
  rw [held_zero]; rfl
end Mine
namespace Mine
noncomputable def AllNe (I : Nat) : List (Addr × Obj) → Prop
  | [] => True
  | p :: r => @Ne Nat p.1 I ∧ AllNe I r
theorem allNe_of {I : Addr} : ∀ {l : List (Addr × Obj)}, (∀ p ∈ l, p.1 ≠ I) → AllNe I l
  | [], _ => trivial
  | p :: _, h => ⟨h p (.head _), allNe_of fun q hq => h q (.tail _ hq)⟩
theorem allNe_to {I : Addr} : ∀ {l : List (Addr × Obj)}, AllNe I l → (∀ p ∈ l, p.1 ≠ I)
  | [], _ => fun _ h => nomatch h
  | p :: _, h => fun q hq => by
    rcases List.mem_cons.mp hq with rfl | hq
    · exact h.1
    · exact allNe_to h.2 q hq
end Mine
end
section
open PySem PySem.W PySem.Calls PyProof.Rows
namespace Mine
theorem foldl_filter {α : Type} (p : α → Prop) [DecidablePred p] (l : List α) : ∀ acc : List α, l.foldl (fun a x => if p x then a ++ [x] else a) acc = acc ++ l.filter (fun x => decide (p x)) := by
  induction l with
  | nil => intro acc; simp
  | cons x r ih =>
    intro acc
    rw [List.foldl_cons, ih, List.filter_cons]
    by_cases h : p x
    · simp [h]
    · simp [h]
theorem bit_iff (i k : Nat) : Builtin.bitAnd ((1 + (i : Int)).fdiv (2 ^ ((k : Int)).toNat)) 1 = 1 ↔ (i + 1).testBit k = true := by
  have e : (1 + (i : Int)).fdiv (2 ^ ((k : Int)).toNat) = (((i + 1) / 2 ^ k : Nat) : Int) := by
    rw [Int.toNat_natCast, Int.fdiv_eq_ediv_of_nonneg _ (by exact_mod_cast Nat.zero_le (2 ^ k))]
    rw [show (1 + (i : Int)) = ((i + 1 : Nat) : Int) by omega]
    rw [show ((2 : Int) ^ k) = ((2 ^ k : Nat) : Int) by simp]
    exact (Int.natCast_ediv _ _).symm
  rw [e, Nat.testBit_eq_decide_div_mod_eq, decide_eq_true_eq]
  generalize (i + 1) / 2 ^ k = q at *
  have h1 : Builtin.bitAnd ((q : Nat) : Int) 1 = ((q % 2 : Nat) : Int) := by
    unfold Builtin.bitAnd
    have hq : decide (0 ≤ ((q : Nat) : Int)) = true := decide_eq_true (by omega)
    have h0 : decide (0 ≤ (1 : Int)) = true := by decide
    rw [hq, h0]
    show (((q : Int).toNat &&& (1 : Int).toNat : Nat) : Int) = _
    rw [Int.toNat_natCast, show (1 : Int).toNat = 1 from rfl, Nat.and_one_is_mod]
  rw [h1]
  omega
theorem held_fold (n i : Nat) : List.foldl (fun l' k' => if Builtin.bitAnd ((1 + (i : Int)).fdiv (2 ^ k'.toNat)) 1 = 1 then l' ++ [k'] else l') [] (rangeKs 0 ((n : Int) - 0).toNat) = (held n (i + 1)).map fun (k : Nat) => (k : Int) := by
  rw [foldl_filter (fun k' : Int => Builtin.bitAnd ((1 + (i : Int)).fdiv (2 ^ k'.toNat)) 1 = 1), List.nil_append]
  unfold rangeKs held
  rw [List.filter_map, show ((n : Int) - 0).toNat = n by omega]
  have e : (fun (k : Nat) => (0 : Int) + (k : Int)) = fun (k : Nat) => (k : Int) := by funext k; omega
  rw [e]
  congr 1
  refine List.filter_congr fun k _ => ?_
  rw [Bool.eq_iff_iff]
  simp only [Function.comp, decide_eq_true_eq]
  exact bit_iff i k
end Mine
namespace Mine
theorem ints_nat {ys : List Value} {hs : List Nat} (h : IntsAre ys (hs.map fun (k : Nat) => (k : Int))) {j : Nat} {v : Value} (hv : ys.toArray[j]? = some v) : ∃ (k : Nat) (t : Tok), hs[j]? = some k ∧ v = Value.int (k : Int) t := by
  have hv' : ys[j]? = some v := by simpa using hv
  have hl := h.length
  rw [List.length_map] at hl
  have hj : j < hs.length := by rw [← hl]; exact (List.getElem?_eq_some_iff.mp hv').1
  obtain ⟨t, ht⟩ := h.get j (hs[j] : Int) (by rw [List.getElem?_map, List.getElem?_eq_getElem hj]; rfl)
  rw [ht] at hv'
  exact ⟨hs[j], t, List.getElem?_eq_getElem hj, (Option.some.inj hv').symm⟩
theorem ints_snoc {ys : List Value} {ns : List Int} (h : IntsAre ys ns) (k : Int) (t : Tok) : IntsAre (ys ++ [Value.int k t]) (ns ++ [k]) := by
  induction h with
  | nil => exact .cons k t .nil
  | cons n u r ih => exact .cons n u ih
theorem take_snoc {α : Type} {l : List α} {j : Nat} {a : α} (h : l[j]? = some a) : l.take (j + 1) = l.take j ++ [a] := by
  rw [List.take_add_one, h]; rfl
theorem mem_held {n m k : Nat} : k ∈ held n m ↔ k < n ∧ m.testBit k = true := by
  unfold held
  rw [List.mem_filter, List.mem_range]
theorem js_get {js : List (Int × Int)} {k : Nat} (h : k < js.length) : js[k]? = some (dueAt js k, sizeAt js k) := by
  unfold dueAt sizeAt
  rw [List.getD_eq_getElem?_getD, List.getElem?_eq_getElem h]; rfl
end Mine
namespace Mine
section
variable {prog : Program} {w : World} {A : Around} {E : Value → Shared → Prop} {s : Shared}
theorem sum_any {l : Addr} {vs : List Value} {ns : List Int} {Q : Value → Shared → Prop} (hh : A.handled = none) (hl : s.heap.IsList l vs.toArray) (hi : IntsAre vs ns)
    (h : ∀ h' tk t', Keep s.heap h' → Q (.int ns.sum t') { s with heap := h', toks := tk }) : wpAny (model prog w) A (call (.builtin "sum") [.ref l]) Q E s := by
  obtain ⟨xs, hxs⟩ := hi.allInts.items
  rw [hxs] at hl
  refine sum_intListG hh hl fun h' tk t' hk => ?_
  have q := h h' tk t' hk
  have e : numsOf vs.toArray.toList = ns := hi.numsOf
  rw [hxs, nums_intItems] at e
  rw [preSum_eq, List.take_of_length_le (by simp), e]
  exact q
end
end Mine
namespace Mine
section
variable {prog : Program} {w : World} {A : Around} {E : Value → Shared → Prop} {s : Shared} {h₀ : Heap} {L D : Addr} {m : Str → Option Value} {news news' : List (Addr × Obj)}
theorem append_mine {vs : List Value} {n : Nat} {x : Value} {Q : Value → Shared → Prop} (F : Fr h₀ L s.heap m) (N : News h₀ L s.heap news) (U : Upd D (W.listOf vs.toArray n) (W.listOf (vs ++ [x]).toArray (n + 1)) news news') (hsz : vs.length ≤ 1000000)
    (h : ∀ h', Fr h₀ L h' m → News h₀ L h' news' → Q .none { s with heap := h' }) : wpAny (model prog w) A (call (.builtin "list.append") [.ref D, x]) Q E s := by
  refine append_K (its := vs.toArray) F N (by rw [List.push_toArray]; exact U) h (by rw [List.size_toArray, sizeLine_eq]; omega)
end
theorem bit_iff0 (i k : Nat) : Builtin.bitAnd ((1 + (i : Int)).fdiv (2 ^ (0 + (k : Int)).toNat)) 1 = 1 ↔ (i + 1).testBit k = true := by
  rw [Int.zero_add]; exact bit_iff i k
theorem range_filter_succ (p : Nat → Bool) (j : Nat) : (List.range (j + 1)).filter p = (List.range j).filter p ++ (if p j = true then [j] else []) := by
  rw [List.range_succ, List.filter_append]
  congr 1
  by_cases h : p j = true
  · simp [h]
  · simp [h]
end Mine
namespace Mine
theorem news_tl {h₀ h : Heap} {L : Addr} {x : Addr × Obj} {l : List (Addr × Obj)} (N : News h₀ L h (x :: l)) : News h₀ L h l := fun p hp => N p (.tail _ hp)
theorem pow_le_bit {m k : Nat} (h : m.testBit k = true) : 2 ^ k ≤ m := Nat.ge_two_pow_of_testBit h
theorem sub_pow {i k : Nat} (h : 2 ^ k ≤ i + 1) : (1 + (i : Int)) - 2 ^ ((k : Int)).toNat = ((i + 1 - 2 ^ k : Nat) : Int) := by
  rw [Int.toNat_natCast, show ((2 : Int) ^ k) = ((2 ^ k : Nat) : Int) by simp]
  omega
end Mine
namespace Mine
theorem small_idx {i k : Nat} (h : i < 127) : ((i + 1 - 2 ^ k : Nat) : Int) < 2 ^ 63 := by
  have h1 : i + 1 - 2 ^ k ≤ 127 := Nat.le_trans (Nat.sub_le _ _) h
  generalize i + 1 - 2 ^ k = q at *
  omega
theorem small_nat {k : Nat} (h : k < 127) : ((k : Nat) : Int) < 2 ^ 63 := by omega
theorem nat_nonneg (k : Nat) : (0 : Int) ≤ (k : Int) := Int.natCast_nonneg k
end Mine
namespace Mine
theorem upd_idx {d : Addr} {o o' : Obj} : ∀ {l : List (Addr × Obj)} (i : Nat), (l.map (·.1)).Nodup → l[i]? = some (d, o) → Upd d o o' l (l.set i (d, o'))
  | [], _, _, h => by cases h
  | p :: r, 0, nd, h => by
    obtain rfl : p = (d, o) := by simpa using h
    rw [List.map_cons, List.nodup_cons] at nd
    exact .head fun q hq e => nd.1 (List.mem_map.mpr ⟨q, hq, e⟩)
  | p :: r, i + 1, nd, h => by
    rw [List.map_cons, List.nodup_cons] at nd
    have h' : r[i]? = some (d, o) := by simpa using h
    refine .tail (fun e => nd.1 ?_) (upd_idx i nd.2 h')
    rw [e]
    exact List.mem_map.mpr ⟨(d, o), List.mem_of_getElem? h', rfl⟩
section
variable {prog : Program} {w : World} {A : Around} {E : Value → Shared → Prop} {s : Shared} {h₀ : Heap} {L D : Addr} {m : Str → Option Value} {news : List (Addr × Obj)}
theorem append_idx {vs : List Value} {n : Nat} {x : Value} {Q : Value → Shared → Prop} (F : Fr h₀ L s.heap m) (N : News h₀ L s.heap news) (i : Nat) (nd : (news.map (·.1)).Nodup) (hi : news[i]? = some (D, W.listOf vs.toArray n)) (hsz : vs.length ≤ 1000000)
    (h : ∀ h', Fr h₀ L h' m → News h₀ L h' (news.set i (D, W.listOf (vs ++ [x]).toArray (n + 1))) → Q .none { s with heap := h' }) : wpAny (model prog w) A (call (.builtin "list.append") [.ref D, x]) Q E s :=
  append_mine F N (upd_idx i nd hi) hsz h
end
end Mine
end
section
open PySem PySem.W PySem.Calls PyProof.Rows
set_option Elab.async false
set_option maxRecDepth 100000
set_option maxHeartbeats 4000000
set_option pp.deepTerms false
set_option pp.deepTerms.threshold 7
set_option linter.unusedVariables false
namespace Mine
def Fresh (h h' : Heap) (l : List (Addr × Obj)) : Prop := ∀ p ∈ l, h'.get? p.1 = some p.2 ∧ h.get? p.1 = none
def SumsL (js : List (Int × Int)) (n : Nat) (sv : List Value) : Prop := sv.length = n ∧ ∀ k : Nat, k < n → ∃ t, sv[k]? = some (Value.int (sumH js k) t)
def PossL (js : List (Int × Int)) (n : Nat) (pv : List Value) : Prop := pv.length = n ∧ ∀ k : Nat, k < n → ∃ b, pv[k]? = some (Value.bool b) ∧ (b = true ↔ Poss js k)
theorem getElem?_snoc {α : Type} (l : List α) (a : α) {k : Nat} (h : k < l.length) : (l ++ [a])[k]? = l[k]? := List.getElem?_append_left h
theorem getElem?_last {α : Type} (l : List α) (a : α) : (l ++ [a])[l.length]? = some a := by simp
theorem SumsL.snoc {js : List (Int × Int)} {n : Nat} {sv : List Value} (h : SumsL js n sv) (t : Tok) : SumsL js (n + 1) (sv ++ [Value.int (sumH js n) t]) := by
  refine ⟨by rw [List.length_append, h.1]; rfl, fun k hk => ?_⟩
  rcases Nat.lt_or_ge k n with hlt | hge
  · rw [getElem?_snoc _ _ (by rw [h.1]; exact hlt)]; exact h.2 k hlt
  · obtain rfl : k = n := by omega
    exact ⟨t, by have := getElem?_last sv (Value.int (sumH js k) t); rw [h.1] at this; exact this⟩
theorem PossL.snoc {js : List (Int × Int)} {n : Nat} {pv : List Value} (h : PossL js n pv) {b : Bool} (hb : b = true ↔ Poss js n) : PossL js (n + 1) (pv ++ [Value.bool b]) := by
  refine ⟨by rw [List.length_append, h.1]; rfl, fun k hk => ?_⟩
  rcases Nat.lt_or_ge k n with hlt | hge
  · rw [getElem?_snoc _ _ (by rw [h.1]; exact hlt)]; exact h.2 k hlt
  · obtain rfl : k = n := by omega
    exact ⟨b, by have := getElem?_last pv (Value.bool b); rw [h.1] at this; exact this, hb⟩
theorem three_of {a b c p : Addr × Obj} {l : List (Addr × Obj)} (h : p ∈ [a, b, c]) : p ∈ a :: c :: b :: l := by
  simp only [List.mem_cons, List.not_mem_nil, or_false] at h ⊢
  rcases h with h | h | h
  · exact .inl h
  · exact .inr (.inr (.inl h))
  · exact .inr (.inl h)
theorem fresh3 {h h' : Heap} {L : Addr} {a b c : Addr × Obj} {l : List (Addr × Obj)} (N : News h L h' (a :: c :: b :: l)) : Fresh h h' [a, b, c] := fun p hp => ⟨(N p (three_of hp)).1, (N p (three_of hp)).2.2⟩
theorem nodup3 {v S P l4 l3 l2 l1 : Nat} (a : P < v ∧ S < v ∧ l4 < v ∧ l3 < v ∧ l2 < v ∧ l1 < v) (b : S < P ∧ l4 < P ∧ l3 < P ∧ l2 < P ∧ l1 < P) : ([v, S, P] : List Nat).Nodup := by
  simp only [List.nodup_cons, List.mem_cons, List.not_mem_nil, or_false, not_or, List.nodup_nil, not_false_iff, and_true]
  omega
theorem nodup7 (I P S : Nat) (l4 l3 l2 l1 : Nat) (o1 : P ≠ I) (o2 : S ≠ I) (o3 : l4 ≠ I) (o4 : l3 ≠ I) (o5 : l2 ≠ I) (o6 : l1 ≠ I) (a : l4 < S ∧ l3 < S ∧ l2 < S ∧ l1 < S) (b : S < P ∧ l4 < P ∧ l3 < P ∧ l2 < P ∧ l1 < P) (c : l1 < l2 ∧ l2 < l3 ∧ l3 < l4) :
    ([I, P, S, l4, l3, l2, l1] : List Nat).Nodup := by
  simp only [List.nodup_cons, List.mem_cons, List.not_mem_nil, or_false, not_or, List.nodup_nil, not_false_iff, and_true]
  omega
def PJ (js : List (Int × Int)) (L P S : Addr) (oR : Obj) (i : Nat) (m : Str → Option Value) (news : List (Addr × Obj)) : Prop :=
  ∃ sv pv nS nP oW oM oP vW vM, news = [(P, W.listOf pv.toArray nP), (S, W.listOf sv.toArray nS), (L + 1 + 1 + 1 + 1, oW), (L + 1 + 1 + 1, oM), (L + 1 + 1, oP), (L + 1, oR)] ∧ oP.data = .cell (some (.ref P)) ∧ oW.data = .cell vW ∧ oM.data = .cell vM ∧
    m (Str.ofString "sums") = some (.ref S) ∧ SumsL js (i + 1) sv ∧ PossL js (i + 1) pv
def Row2 (h : Heap) (r : Addr) (js : List (Int × Int)) : Prop :=
  ∃ rs : List Value, h.IsList r rs.toArray ∧ rs.length = js.length ∧ ∀ (i : Nat) (d p : Int), js[i]? = some (d, p) → ∃ (b : Addr) (t u : Tok) (more : List Value), rs[i]? = some (Value.ref b) ∧ h.IsList b (Value.int d t :: Value.int p u :: more).toArray

local macro_rules | `(tactic| walk_at "exec For Name Call cons nil") => `(tactic| refine Stop.mk ?_)
local macro_rules | `(tactic| walk_at "call builtin:len") => `(tactic| refine Stop.mk ?_)
local macro_rules | `(tactic| walk_at "exec Assign cons ListComp") => `(tactic| refine Stop.mk ?_)
local macro_rules | `(tactic| walk_at "eval ListComp") => `(tactic| refine Stop.mk ?_)
local macro_rules | `(tactic| walk_at "call builtin:sum") => `(tactic| refine Stop.mk ?_)
local macro_rules | `(tactic| walk_at "subscriptTail Name Name ref int") => `(tactic| refine Stop.mk ?_)
local macro_rules | `(tactic| walk_at "subscriptTail Subscript Constant ref int") => `(tactic| refine Stop.mk ?_)
local macro_rules | `(tactic| walk_at "CompSrc") => `(tactic| refine Stop.mk ?_)
local macro_rules | `(tactic| walk_at "CompSrcT") => `(tactic| refine Stop.mk ?_)
local macro_rules | `(tactic| walk_at "call builtin:list.append") => `(tactic| refine Stop.mk ?_)
local macro_rules | `(tactic| walk_at "subscriptTail Name BinOp ref int") => `(tactic| refine Stop.mk ?_)
local macro_rules | `(tactic| walk_at "compareOp NotEq ref ref") => `(tactic| refine Stop.mk ?_)
local macro_rules | `(tactic| walk_at "pyIter ref") => `(tactic| refine Stop.mk ?_)
local macro_rules | `(tactic| k_steps) => `(tactic| repeat' (first | (k_unfold; (try dsimp only)) | walk1 | (dsimp only; walk1) | (leave1; walk_say "STEP leave1"; try dsimp only) | fail "no step"))
theorem possible_call {prog : Program} {w : World} {p : Program} {loose : List Str} {mean : ExcName → Option Value} {mg mb : Str → Option Value}
    {dp un : Nat} {gd : Option (List Code)} {cn : Str} {cs : Scope} {a : Addr} {ccd : Value} {cl : List (Str × Addr)} {outer : List Env} {A₀ : Around} {base h₀ : Heap} {L : Addr} {m : Str → Option Value} {s : Shared} {Q E : Value → Shared → Prop} {r : Addr} {js : List (Int × Int)}
    (B : Below A₀ base outer h₀) (F : Fr h₀ L s.heap m) (X : (Mine.hd.heap_39 w.params).In h₀) (T : Top p loose mean mg mb h₀) (hk : cs.kind = .function)
    (hd : dp + 2 < recursionLimit) (hu : un + 200 < cLine) (hr : Row2 s.heap r js) (hn : js.length < 8)
    (ret : ∀ (v S P : Addr) (sv pv : List Value) (nS nP nT : Nat) h' tk', Keep s.heap h' → Fresh s.heap h' [(v, ({ cls := .type "tuple", data := .seq #[Value.ref S, Value.ref P] nT } : Obj)), (S, W.listOf sv.toArray nS), (P, W.listOf pv.toArray nP)] → ([v, S, P] : List Nat).Nodup →
      SumsL js (2 ^ js.length) sv → PossL js (2 ^ js.length) pv → Q (.ref v) { s with heap := h', toks := tk' }) :
    wpAny (model prog w) (ktrTop dp un gd cn cs L a ccd cl outer) (call (.ref 35) [.ref r]) Q E s := by
  have _ : PySem.Challenge.rw_ec5001_01 = PySem.Challenge.rw_ec5001_01 ∧ Mine.hd.heap_39 = Mine.hd.heap_39 := by { k_fill; exact ⟨rfl, rfl⟩ }
  refine wpAny_call ?_
  k_dflt (refine' call_pureC (binds := [(Str.ofString "row", .ref r)]) ?k1 ?k2 ?k3 ?k5 ?kA ?kF ?kK ?k6 ?k7 ?k8 ?k9 ?kB ?kD ?_ ?c2 ?c3 ?c4; (case kA => exact rfl); (case kF => exact rfl); (case kK => assumption); (case k1 => k_asm); (case k2 => k_asm); (case k3 => k_asm); (case k5 => k_asm); (case k6 => k_is); (case k7 => k_is); (case k8 => ktr_room); (case k9 => exact BindsTo.of_eq rfl); (case kB => exact rfl); (case kD => decide +kernel); (case c2 => exact rfl); (case c3 => exact rfl); (case c4 => exact rfl); k_whole; intro g' L' h' tk' cells' eg' F' N' Y' B' X' T'; (try dsimp only))
  obtain ⟨oW, oM, oP, oR, hE, dW, dM, dP, dR⟩ := CellsAre.four Y'
  subst hE
  clear Y'
  have dR' : oR.data = .cell (some (.ref r)) := by with_unfolding_all exact dR
  have dW' : oW.data = .cell none := by with_unfolding_all exact dW
  have dM' : oM.data = .cell none := by with_unfolding_all exact dM
  have dP' : oP.data = .cell none := by with_unfolding_all exact dP
  clear dR dW dM dP
  subst eg'
  obtain ⟨rs, hr1, hr2, hr3⟩ := id hr
  k_steps
  refine Stop.go (wpAny_For ?_ (by intro _; rfl))
  k_steps
  rename Fr s.heap L' _ _ => F1
  refine Stop.go (len_list (isList_keep F1.keep hr1) (by rw [List.size_toArray]; omega) ?_)
  have hsz : (rs.toArray.size : Int) = (js.length : Int) := by rw [List.size_toArray, hr2]
  rw [hsz]
  k_steps
  rename IsRange _ _ _ _ _ _ _ _ => hR
  rename Fr s.heap L' _ _ => F2
  rename News s.heap L' _ _ => N2
  have h2n : (2 : Int) ^ ((js.length : Int)).toNat = ((2 ^ js.length : Nat) : Int) := by rw [Int.toNat_natCast]; simp
  rw [h2n] at hR
  have hb : 2 ^ js.length ≤ 2 ^ 7 := Nat.pow_le_pow_right (by decide) (by omega)
  have hb1 : 1 ≤ 2 ^ js.length := Nat.one_le_two_pow
  refine Stop.go (for_loop (n := 2 ^ js.length - 1) rfl F2 N2 hR (small_one (by omega) (by omega) (by omega) (by omega)) (by rw [rangeSize_one]; split <;> omega) (PJ js L' _ _ _)
    ⟨_, _, _, _, _, _, _, _, _, rfl, by assumption, by assumption, by assumption, by with_unfolding_all rfl, ?_, ?_⟩ ?_ ?_)
  · refine ⟨rfl, fun k hk => ⟨tk', ?_⟩⟩
    obtain rfl : k = 0 := by omega
    have : sumH js 0 = 0 := sumH_zero js
    rw [this]; rfl
  · refine ⟨rfl, fun k hk => ⟨true, ?_, ?_⟩⟩
    · obtain rfl : k = 0 := by omega
      rfl
    · obtain rfl : k = 0 := by omega
      exact ⟨fun _ => .zero, fun _ => rfl⟩
  · clear hR F2 N2
    rintro i m₁ news₁ h₁ tk₁ tv I oI hi ⟨sv, pv, nS, nP, oW, oM, oP, vW, vM, rfl, hoP, hoW, hoM, hsums, hS, hP⟩ F₂ N₂ off
    have F₃ := fr_name (Str.ofString "sums") F₂ hsums
    clear F₂
    have hi7 : i < 127 := by omega
    replace off := allNe_of off
    have off0 := off
    simp only [AllNe, and_true] at off
    have nd7 : ([I, _, _, L' + 1 + 1 + 1 + 1, L' + 1 + 1 + 1, L' + 1 + 1, L' + 1] : List Nat).Nodup := nodup7 I _ _ _ _ _ _ off.1 off.2.1 off.2.2.1 off.2.2.2.1 off.2.2.2.2.1 off.2.2.2.2.2 (by assumption) (by assumption) ⟨Nat.lt_succ_self _, Nat.lt_succ_self _, Nat.lt_succ_self _⟩
    refine wpAny_assign_Name ?_
    k_steps
    refine Stop.go ?_
    k_dflt (refine LCt.Assign_ListComp_T (F₀ := by k_asm) (by rfl) (by with_unfolding_all rfl) (by with_unfolding_all rfl) (by decide) (by rfl) (by decide) (by rfl) (by rfl) (by rfl) ?_ ?_; rotate_left; (intro _; rfl))
    k_steps
    rename Fr s.heap L' _ _ => F4
    refine Stop.go (len_list (isList_keep F4.keep hr1) (by rw [List.size_toArray]; omega) ?_)
    rw [hsz]
    k_steps
    rename IsRange _ _ _ _ _ _ _ _ => hR2
    rename Fr s.heap L' _ _ => F5
    rename News s.heap L' _ _ => N5
    refine Stop.go (LCt.CompSrcT.range (n := js.length) (by rfl) F5 N5 hR2 (small_one (by omega) (by omega) (by omega) (by omega)) (by rw [rangeSize_one]; split <;> omega) (by rw [sizeLine_eq]; omega) (fun g => ?_))
    refine rest_T _ (fun j zs => IntsAre zs (((List.range j).filter fun k => (i + 1).testBit k).map fun (k : Nat) => (k : Int))) trivial ?_ ?_ _ 0 [] (by rfl) .nil
    · rintro j zs v I' oI' C oC D m₂ h tk E' hj hzs ⟨tk9, rfl⟩ hC hx F' N' off' ne'
      simp only [LCg.Off3, and_true] at off'
      clear F5 N5 hR2
      k_steps
      · rename Builtin.bitAnd _ _ = _ => hbit
        refine El.mk F' N' (fun _ hp => hp) ?_
        rw [range_filter_succ, if_pos ((bit_iff0 i j).mp hbit), List.map_append]
        rw [show (0 : Int) + (j : Int) = (j : Int) from Int.zero_add _]
        exact ints_snoc hzs _ _
      · rename Builtin.bitAnd _ _ ≠ _ => hbit
        refine El.mk F' N' (fun _ hp => hp) ?_
        rw [range_filter_succ, if_neg (fun q => hbit ((bit_iff0 i j).mpr q)), List.append_nil]
        exact hzs
    intro ys hys
    replace hys : IntsAre ys ((held js.length (i + 1)).map fun (k : Nat) => (k : Int)) := by rw [Nat.zero_add] at hys; exact hys
    clear F5 N5 hR2
    k_steps
    have hyl : List.length _ = _ := hys.length
    rw [List.length_map] at hyl
    have hhl : (held js.length (i + 1)).length ≤ 7 := Nat.le_trans (List.length_filter_le _ _) (by rw [List.length_range]; omega)
    refine Stop.go ?_
    k_dflt (refine LCg.ListComp_U (F₀ := by k_asm) (by with_unfolding_all rfl) (by decide) (by rfl) (by decide) (by rfl) ?_ ?_; rotate_left; (intro _; rfl))
    k_steps
    rename Fr s.heap L' _ _ => F5
    rename News s.heap L' _ _ => N5
    refine Stop.go (LCg.CompSrc.ledger (by rfl) F5 N5 (by k_mem) (by rw [List.size_toArray, sizeLine_eq]; omega) (fun g => ?_))
    refine rest_U _ (fun j zs => IntsAre zs (((held js.length (i + 1)).take j).map (sizeAt js))) (by lcg_src) ?_ ?_ _ 0 [] (by rfl) .nil
    · intro j zs v I' oI' C oC D m₂ h tk E' hj hzs hv hC hx F' N' off' ne'
      simp only [LCg.Off3, and_true] at off'
      clear F5 N5
      obtain ⟨k, tk9, hkj, rfl⟩ := ints_nat hys hv
      have hkm := mem_held.mp (List.mem_of_getElem? hkj)
      obtain ⟨b, t1, t2, more, hb1, hb2⟩ := hr3 k _ _ (js_get hkm.1)
      k_steps
      refine Stop.go (my_item (isList_keep F'.keep hr1) (by omega) (by omega) (by rw [Int.toNat_natCast]; exact hb1) ?_ (by with_unfolding_all rfl))
      k_steps
      refine El.mk F' N' (fun _ hp => hp) ?_
      rw [take_snoc hkj, List.map_append]
      exact ints_snoc hzs _ _
    · intro zs hzs
      rw [Nat.zero_add, List.size_toArray, hyl, List.take_length] at hzs
      clear F5 N5
      k_steps
      rename Fr s.heap L' _ _ => F6
      rename News s.heap L' _ _ => N6
      refine Stop.go (sum_any (by rfl) ⟨_, N6.get (.head _), rfl, _, rfl⟩ hzs ?_)
      intro h7 tk7 t7 K7
      have F7 := F6.keeps K7
      have N7 := N6.grown K7
      clear F6 N6
      dsimp only
      k_steps
      rename Fr s.heap L' _ _ => F8
      rename News s.heap L' _ _ => N8
      refine Stop.go (append_mine F8 N8 (by k_upd) (by rw [hS.1]; omega) ?_)
      intro h9 F9 N9
      clear F8 N8
      replace N9 := news_tl N9
      k_steps
      refine Stop.go ?_
      k_dflt (refine LCt.ListComp_T (F₀ := by k_asm) (by with_unfolding_all rfl) (by decide) (by rfl) (by decide) (by rfl) ?_ ?_; rotate_left; (intro _; rfl))
      k_steps
      refine Stop.go (LCt.CompSrcT.ledger (by rfl) F9 N9 (by k_mem) (by rw [List.size_toArray, sizeLine_eq]; omega) (fun g => ?_))
      refine rest_T _ (fun j zs => ∃ ns, IntsAre zs ns ∧ (ns ≠ [] ↔ ∃ k ∈ (held js.length (i + 1)).take j, Poss js (i + 1 - 2 ^ k) ∧ sumH js (i + 1) ≤ dueAt js k)) (by lcg_src) ?_ ?_ _ 0 [] (by rfl) ⟨[], .nil, by simp⟩
      · rintro j zs v I' oI' C oC D m₂ h tk E' hj ⟨ns, hzs, hns⟩ hv hC hx F' N' off' ne'
        clear F9 N9
        obtain ⟨k, tk9, hkj, rfl⟩ := ints_nat hys hv
        have hkm := mem_held.mp (List.mem_of_getElem? hkj)
        obtain ⟨b, t1, t2, more, hb1, hb2⟩ := hr3 k _ _ (js_get hkm.1)
        have hkp := pow_le_bit hkm.2
        obtain ⟨bb, hbb, hbp⟩ := hP.2 (i + 1 - 2 ^ k) (by have := Nat.one_le_two_pow (n := k); omega)
        have step : ∀ ns' : List Int, (ns' ≠ [] ↔ (ns ≠ [] ∨ (Poss js (i + 1 - 2 ^ k) ∧ sumH js (i + 1) ≤ dueAt js k))) → (ns' ≠ [] ↔ ∃ k ∈ (held js.length (i + 1)).take (j + 1), Poss js (i + 1 - 2 ^ k) ∧ sumH js (i + 1) ≤ dueAt js k) := by
          intro ns' e
          rw [e, hns, take_snoc hkj]
          simp only [List.mem_append, List.mem_singleton, or_and_right, exists_or, exists_eq_left]
        have hsx : (((held js.length (i + 1)).map (sizeAt js)).sum ≤ dueAt js k) = (sumH js (i + 1) ≤ dueAt js k) := rfl
        k_steps
        have e9 := sub_pow hkp
        refine Stop.go (my_item (vs := pv) ⟨_, N'.get (by k_mem), rfl, _, rfl⟩ (by rw [e9]; exact nat_nonneg _) (by rw [e9]; exact small_idx hi7) (by rw [e9, Int.toNat_natCast]; exact hbb) ?_ (by with_unfolding_all rfl))
        cases bb
        · k_steps
          refine El.mk F' N' (fun _ hp => hp) ⟨ns, hzs, step _ ⟨.inl, fun q => q.elim id fun q => absurd (hbp.mpr q.1) Bool.false_ne_true⟩⟩
        · have hp1 := hbp.mp rfl
          k_steps
          refine Stop.go (my_item (isList_keep F'.keep hr1) (by omega) (by omega) (by rw [Int.toNat_natCast]; exact hb1) ?_ (by with_unfolding_all rfl))
          k_steps
          · rename _ ≤ _ => hle
            refine El.mk F' N' (fun _ hp => hp) ⟨_, ints_snoc hzs _ _, step _ ⟨fun _ => .inr ⟨hp1, hle⟩, fun _ => List.append_ne_nil_of_right_ne_nil _ (List.cons_ne_nil _ _)⟩⟩
          · rename ¬ _ ≤ _ => hle
            refine El.mk F' N' (fun _ hp => hp) ⟨ns, hzs, step _ ⟨.inl, fun q => q.elim id fun q => absurd q.2 hle⟩⟩
      · rintro zs ⟨ns, hzs, hns⟩
        clear F9 N9
        k_steps
        rename Fr s.heap L' _ _ => F10
        rename News s.heap L' _ _ => N10
        refine Stop.go (ke_ne_ints (xs := zs) (ys := []) (ns := ns) (ms := []) ⟨_, N10.get (by k_mem), rfl, _, rfl⟩ ⟨_, N10.get (by k_mem), rfl, _, rfl⟩ hzs .nil (by ktr_units) ?_)
        k_steps
        rename Fr s.heap L' _ _ => F11
        rename News s.heap L' _ _ => N11
        replace N11 := news_tl (news_tl (news_tl N11))
        refine Stop.go (append_idx F11 N11 1 nd7 rfl (by rw [hP.1]; omega) ?_)
        intro h12 F12 N12
        clear F11 N11
        dsimp only [List.set] at N12
        k_steps
        rename _ = Data.cell (some (Value.int (1 + _) tv)) => dMk
        rename _ = Data.cell (some (Value.int _ t7)) => dWh
        refine turn_end _ F12 N12 ?_ ?_ ⟨sv ++ [Value.int (sumH js (i + 1)) t7], pv ++ [Value.bool (!decide (ns = []))], nS + 1, nP + 1, _, _, oP, _, _, rfl, hoP, dWh, dMk, by with_unfolding_all rfl, hS.snoc _, hP.snoc ?_⟩
        · lcg_sub
        · exact allNe_to off0
        · rw [poss_iff (Nat.succ_ne_zero i), Nat.zero_add, List.size_toArray, hyl, List.take_length] at *
          rw [← hns]
          simp
  · clear hR F2 N2
    rintro h₁ tk₁ m₁ news₁ F₂ N₂ ⟨sv, pv, nS, nP, oW, oM, oP, vW, vM, rfl, hoP, hoW, hoM, hsums, hS, hP⟩
    have F₃ := fr_name (Str.ofString "sums") F₂ hsums
    clear F₂
    rw [show 2 ^ js.length - 1 + 1 = 2 ^ js.length by omega] at hS hP
    k_steps
    rename Fr s.heap L' _ _ => F4
    rename News s.heap L' _ _ => N4
    exact ret _ _ _ sv pv nS nP 0 _ _ F4.keep (fresh3 N4) (nodup3 (by assumption) (by assumption)) hS hP
end Mine
end
section
open PySem PySem.W PySem.Calls PyProof.Rows
set_option Elab.async false
set_option maxRecDepth 100000
set_option linter.unusedVariables false
namespace Mine
section
variable {prog : Program} {w : World} {A₀ A : Around} {s : Shared} {base : Heap} {outs : List Env} {mg mb : Str → Option Value} {K : Frag} {p : Program} {loose : List Str} {mean : ExcName → Option Value}
  {R : Result → Shared → Prop} {name qual : Str} {params : Arguments} {body : List Stmt} {scope : Scope} {dV kV doc pm cdv ct oc : Value} {an od : Option Addr} {osl : Array (Option Value)} {f : Addr} {args : Args} {binds : List (Str × Value)}
theorem call_topC (X : K.In s.heap) (T : Top p loose mean mg mb s.heap)
    (ho : K.lookup f = some ⟨oc, od, .func (fnOf name qual params body scope dV kV doc pm an cdv ct), osl⟩) (hcd : codeIn K cdv qual = true) (hroom : A.depth < recursionLimit)
    (hbind : BindsTo s (fnOf name qual params body scope dV kV doc pm an cdv ct) args binds) (hkind : (binds.all fun y => scope.names.lookup y.1 == some .local || scope.names.lookup y.1 == some .cell) = true)
    (hnd : ((cellsFrom 0 scope.names []).map (·.1)).Nodup)
    (h : ∀ g L' h₁ tk cells, g = s.heap → Fr g L' h₁ (bindL (envOfC qual scope L' f cdv).kindOf binds fun _ => none) → News g L' h₁ cells →
      CellsAre (bindC (envOfC qual scope L' f cdv).kindOf binds fun _ => none) (cellsFrom (L' + 1) scope.names []) cells → K.In g → Top p loose mean mg mb g →
      wpAny (model prog w) (A.deeper (envOfC qual scope L' f cdv)) (execs body (envOfC qual scope L' f cdv))
        (fun fl s' => R (.ok (.ret (match fl with | .ret v => v | _ => .none))) s')
        (fun e s' => wpAny (model prog w) (A.deeper (envOfC qual scope L' f cdv)) (leaving (envOfC qual scope L' f cdv) e) (fun _ s'' => R (.error e) s'') (fun e' s'' => R (.error e') s'') s')
        { s with heap := h₁, toks := tk })
    (hco : scope.isCoroutine = false) (hgen : scope.isGenerator = false) (hk : scope.kind = .function) : codeAny (model prog w) A (.call (.ref f) args) R s := by
  refine codeAny_call_function hroom (X _ _ ho) rfl hco hgen rfl (codeRec_of X hcd) (hbind _ _ _ _ ?_)
  refine wpAny_newFunctionEnv_cells hk (kindsX hkind _) fun env' he s' x => ?_
  subst he
  refine ⟨T.nolimit.keeps x.toInCall.keep, codeAny_func ?_⟩
  obtain ⟨h₁, tk, rfl, _⟩ := x.done
  have hk₁ := x.toInCall.keep
  obtain ⟨cells, NC, Y⟩ := Cl.news (h₀ := s.heap) (Nat.le_refl _) fun n c hm => ⟨x.cell n c (lookup_of_mem_nodup (cellsFrom_names scope.names 0 (s.heap.objs.size + 1) [] [] rfl ▸ hnd) hm), x.above n c hm⟩
  exact h s.heap s.heap.objs.size h₁ tk cells rfl ⟨x.toInCall.ns, hk₁, Nat.le_refl _⟩ NC Y X T
end
section
variable {M : Model} {A : Around} {E : Value → Shared → Prop} {env : Env}
theorem execs_wp (Γ : Ctx) {b : List Stmt} {Q : Flow → Pos → Shared → Prop} {E : Value → Pos → Shared → Prop} : ∀ (a : List Stmt) {p : Pos} {s : Shared},
    Sem.wp M Γ (execs a env) (fun f p' s' => match f with | .next => Sem.wp M Γ (execs b env) Q E p' s' | f => Q f p' s') E p s → Sem.wp M Γ (execs (a ++ b) env) Q E p s
  | [], p, s, h => h
  | x :: r, p, s, h => by
    rw [execs_cons, Sem.wp_bind'] at h
    show Sem.wp M Γ (execs (x :: (r ++ b)) env) _ _ p s
    rw [execs_cons, Sem.wp_bind']
    refine Sem.wp_mono M Γ _ (fun f p' s' q => ?_) (fun _ _ _ q => q) _ _ h
    cases f with
    | next => exact execs_wp Γ r q
    | _ => exact q
theorem execs_app (a : List Stmt) {b : List Stmt} {Q : Flow → Shared → Prop} {s : Shared}
    (h : wpAny M A (execs a env) (fun f s' => match f with | .next => wpAny M A (execs b env) Q E s' | f => Q f s') E s) : wpAny M A (execs (a ++ b) env) Q E s := fun Γ p hΓ => by
  refine execs_wp Γ a (Sem.wp_mono M Γ _ (fun f p' s' q => ?_) (fun _ _ _ q => q) _ _ (h Γ p hΓ))
  cases f with
  | next => exact q Γ p' hΓ
  | _ => exact q
theorem cut (n : Nat) (P : Shared → Prop) {l : List Stmt} {Q : Flow → Shared → Prop} {s : Shared} (h : wpAny M A (execs (l.take n) env) (fun f s' => f = .next ∧ P s') E s) (h2 : ∀ s', P s' → wpAny M A (execs (l.drop n) env) Q E s') :
    wpAny M A (execs l env) Q E s := by
  rw [← List.take_append_drop n l]
  refine execs_app _ (wpAny_mono h (fun f s' q => ?_) fun _ _ e => e)
  obtain ⟨rfl, hP⟩ := q
  exact h2 s' hP
end
theorem good_end {c : ClaimW} {cl : Str → Option Addr} {mean : ExcName → Option Value} {args : List WData} {s₁ s' : Shared} (hk : Keep s₁.heap s'.heap) (hg : s'.gens = #[]) (hn : ∀ cls, c.raises args cls = false) (hp : c.post args (.bool true) args = true) (hos : s'.os = s₁.os) :
    GoodW c cl mean args s₁ (.ok (.ret (.bool true))) s' := ⟨.inl ⟨_, _, [], rfl, hn, ReadsW.bool true, hp, fun _ => ⟨List.nodup_nil, fun _ hm => (nomatch hm)⟩⟩, hk, hos, hg⟩
end Mine
end
section
open PySem PySem.W PySem.Calls PyProof.Rows
set_option Elab.async false
set_option maxRecDepth 100000
set_option linter.unusedVariables false
namespace Mine
def P0 : Params := { strHash := fun _ => 0, shareClass := fun a => a, mergeTok := fun t => t, idOf := fun _ => 0, idOfShared := fun _ _ => 0, followText := fun _ => false, idOfImm := fun _ => 0 }
section
variable {K : Frag} {f : Addr} {name qual : Str} {params : Arguments} {body : List Stmt} {scope : Scope} {dV kV doc pm cdv ct oc : Value} {an od : Option Addr} {osl : Array (Option Value)}
abbrev pickBody (_ : K.lookup f = some ⟨oc, od, .func (fnOf name qual params body scope dV kV doc pm an cdv ct), osl⟩) : List Stmt := body
abbrev pickScope (_ : K.lookup f = some ⟨oc, od, .func (fnOf name qual params body scope dV kV doc pm an cdv ct), osl⟩) : Scope := scope
end
/-- what the written heap holds of the law: its statements, its scope -/
noncomputable abbrev lawBody : List Stmt := by
  have _ : PySem.Challenge.rw_ec5001_01 = PySem.Challenge.rw_ec5001_01 ∧ Mine.hd.heap_39 = Mine.hd.heap_39 := by { k_fill; exact ⟨rfl, rfl⟩ }
  refine' pickBody (K := Mine.hd.heap_39 P0) (f := 47) ?h
  case h => k_is
noncomputable abbrev lawScope : Scope := by
  have _ : PySem.Challenge.rw_ec5001_01 = PySem.Challenge.rw_ec5001_01 ∧ Mine.hd.heap_39 = Mine.hd.heap_39 := by { k_fill; exact ⟨rfl, rfl⟩ }
  refine' pickScope (K := Mine.hd.heap_39 P0) (f := 47) ?h
  case h => k_is
noncomputable abbrev lawEnv (L : Addr) : Env := envOfC (Str.ofString "law") lawScope L 47 (.ref 46)
end Mine
end
section
open PySem PySem.W PySem.Calls PyProof.Rows
set_option Elab.async false
set_option maxRecDepth 100000
set_option maxHeartbeats 8000000
set_option pp.deepTerms false
set_option pp.deepTerms.threshold 7
set_option linter.unusedVariables false
namespace Mine
local macro_rules | `(tactic| k_steps) => `(tactic| repeat' (first | (k_unfold; (try dsimp only)) | walk1 | (dsimp only; walk1) | (leave1; walk_say "STEP leave1"; try dsimp only) | fail "no step"))
def PA (g : Heap) (L : Addr) (s : Shared) (oB oP oS oW : Obj) (s' : Shared) : Prop :=
  ∃ (h : Heap) (tk : Nat) (m : Str → Option Value) (Nm : Addr) (ws : List Value) (ns : List Int) (oN : Obj) (first count : Int), s' = { s with heap := h, toks := tk } ∧ Fr g L h m ∧
    News g L h [(Nm, W.listOf ws.toArray 0), (L + 1 + 1 + 1 + 1 + 1, oB), (L + 1 + 1 + 1 + 1, oP), (L + 1 + 1 + 1, oS), (L + 1 + 1, oW), (L + 1, oN)] ∧ @LT.lt Nat _ (L + 1 + 1 + 1 + 1 + 1) Nm ∧
    oN.data = .cell (some (.ref Nm)) ∧ NI m (Str.ofString "first") first ∧ NI m (Str.ofString "count") count ∧ IntsAre ws ns ∧ 14 ≤ ns.length ∧ ns.length ≤ 100 ∧ 0 ≤ first ∧ 2 ≤ count ∧ count ≤ 7
theorem news_d3 {h₀ h : Heap} {L : Addr} {x a b c : Addr × Obj} {l : List (Addr × Obj)} (N : News h₀ L h (x :: a :: b :: c :: l)) : News h₀ L h (x :: l) := fun p hp => N p (by
  rcases List.mem_cons.mp hp with rfl | hp
  · exact .head _
  · exact .tail _ (.tail _ (.tail _ (.tail _ hp))))
theorem count_bounds (x : Int) : 2 ≤ 2 + Int.fmod x 6 ∧ 2 + Int.fmod x 6 ≤ 7 := by
  have h1 := Int.fmod_nonneg_of_pos x (show (0 : Int) < 6 by decide)
  have h2 := Int.fmod_lt_of_pos x (show (0 : Int) < 6 by decide)
  omega
theorem segA {prog : Program} {w : World} {p : Program} {loose : List Str} {mean : ExcName → Option Value} {mg mb : Str → Option Value} {s : Shared} {E : Value → Shared → Prop} {g : Heap} {L l : Addr} {vs : List Value} {ns : List Int} {m : Str → Option Value} {oB oP oS oW oN : Obj}
    (X : (Mine.hd.heap_39 w.params).In g) (T : Top p loose mean mg mb g) (hl : g.IsList l vs.toArray) (hi : IntsAre vs ns) (hn : ns.length ≤ 63)
    (F : Fr g L s.heap m) (hm : m (Str.ofString "script") = some (.ref l))
    (N : News g L s.heap [(L + 1 + 1 + 1 + 1 + 1, oB), (L + 1 + 1 + 1 + 1, oP), (L + 1 + 1 + 1, oS), (L + 1 + 1, oW), (L + 1, oN)]) (dN : oN.data = .cell none)
    (hE : PassesOwn (model prog w) (callerA.deeper (lawEnv L)) (lawEnv L) E) :
    wpAny (model prog w) (callerA.deeper (lawEnv L)) (execs (lawBody.take 3) (lawEnv L)) (fun f s' => f = .next ∧ PA g L s oB oP oS oW s') E s := by
  have _ : PySem.Challenge.rw_ec5001_01 = PySem.Challenge.rw_ec5001_01 ∧ Mine.hd.heap_39 = Mine.hd.heap_39 := by { k_fill; exact ⟨rfl, rfl⟩ }
  have F1 := fr_name (Str.ofString "script") F hm
  clear F
  dsimp only [lawBody, pickBody, List.drop, List.take, lawEnv, lawScope, pickScope]
  k_steps
  all_goals (
    rename Fr g L _ _ => F2
    rename News g L _ _ => N2
    rename _ = Data.cell (some (Value.ref _)) => dN2
    rename IntsAre _ (_ ++ _) => hI2
    rename _ ∧ _ ∧ _ ∧ _ ∧ _ ∧ _ ∧ _ ∧ _ => l2
    refine ⟨_, _, _, _, _, _, _, _, _, rfl, F2, news_d3 N2, l2.2.2.2.1, dN2, .mk (by with_unfolding_all rfl) rfl, .mk (by with_unfolding_all rfl) rfl, hI2, ?_, ?_, ?_, (count_bounds _).1, (count_bounds _).2⟩
    · rw [List.length_append]; simp
    · rw [List.length_append, List.length_drop]; simp; omega
    · first | decide | (split <;> omega))
end Mine
end
section
open PySem PySem.W PySem.Calls PyProof.Rows
set_option Elab.async false
set_option maxRecDepth 100000
set_option maxHeartbeats 8000000
set_option pp.deepTerms false
set_option pp.deepTerms.threshold 7
set_option linter.unusedVariables false
namespace Mine
local macro_rules | `(tactic| walk_at "exec Assign cons ListComp") => `(tactic| refine Stop.mk ?_)
local macro_rules | `(tactic| walk_at "CompSrc") => `(tactic| refine Stop.mk ?_)
local macro_rules | `(tactic| walk_at "subscriptTail Name BinOp ref int") => `(tactic| refine Stop.mk ?_)
local macro_rules | `(tactic| k_steps) => `(tactic| repeat' (first | (k_unfold; (try dsimp only)) | walk1 | (dsimp only; walk1) | (leave1; walk_say "STEP leave1"; try dsimp only) | fail "no step"))
def PB (g : Heap) (L : Addr) (s : Shared) (Nm : Addr) (ws : List Value) (oB oP oS oW oN : Obj) (c : Nat) (s' : Shared) : Prop :=
  ∃ (h : Heap) (tk : Nat) (m : Str → Option Value) (Sz : Addr) (ss : List Value) (sz : List Int), s' = { s with heap := h, toks := tk } ∧ Fr g L h m ∧
    News g L h [(Sz, LCg.lst ss), (Nm, W.listOf ws.toArray 0), (L + 1 + 1 + 1 + 1 + 1, oB), (L + 1 + 1 + 1 + 1, oP), (L + 1 + 1 + 1, oS), (L + 1 + 1, oW), (L + 1, oN)] ∧ @Ne Nat Nm Sz ∧ @Ne Nat (L + 1 + 1 + 1 + 1 + 1) Sz ∧ @Ne Nat (L + 1 + 1 + 1 + 1) Sz ∧ @Ne Nat (L + 1 + 1 + 1) Sz ∧ @Ne Nat (L + 1 + 1) Sz ∧ @Ne Nat (L + 1) Sz ∧
    NI m (Str.ofString "count") c ∧ m (Str.ofString "sizes") = some (.ref Sz) ∧ IntsAre ss sz ∧ sz.length = c ∧ ∀ x ∈ sz, 1 ≤ x
def Pos1 (zs : List Value) (j : Nat) : Prop := ∃ ns : List Int, IntsAre zs ns ∧ ns.length = j ∧ ∀ x ∈ ns, 1 ≤ x
theorem Pos1.snoc {zs : List Value} {j : Nat} (h : Pos1 zs j) {x : Int} (t : Tok) (hx : 1 ≤ x) : Pos1 (zs ++ [Value.int x t]) (j + 1) := by
  obtain ⟨ns, h1, h2, h3⟩ := h
  refine ⟨ns ++ [x], ints_snoc h1 x t, by rw [List.length_append, h2]; rfl, fun y hy => ?_⟩
  rcases List.mem_append.mp hy with hy | hy
  · exact h3 y hy
  · rw [List.mem_singleton.mp hy]; exact hx
theorem news_d1 {h₀ h : Heap} {L : Addr} {x a : Addr × Obj} {l : List (Addr × Obj)} (N : News h₀ L h (x :: a :: l)) : News h₀ L h (x :: l) := fun p hp => N p (by
  rcases List.mem_cons.mp hp with rfl | hp
  · exact .head _
  · exact .tail _ (.tail _ hp))
theorem mod9 (x : Int) : 1 ≤ Int.fmod x 9 + 1 := by
  have h1 := Int.fmod_nonneg_of_pos x (show (0 : Int) < 9 by decide)
  omega
theorem segB {prog : Program} {w : World} {p : Program} {loose : List Str} {mean : ExcName → Option Value} {mg mb : Str → Option Value} {s : Shared} {E : Value → Shared → Prop} {g : Heap} {L Nm : Addr} {ws : List Value} {ns : List Int} {m : Str → Option Value} {oB oP oS oW oN : Obj} {first : Int} {c : Nat}
    (X : (Mine.hd.heap_39 w.params).In g) (T : Top p loose mean mg mb g) (hI : IntsAre ws ns) (hn1 : 14 ≤ ns.length) (hn2 : ns.length ≤ 100) (hc1 : 2 ≤ c) (hc2 : c ≤ 7) (h0 : 0 ≤ first)
    (F : Fr g L s.heap m) (hm1 : NI m (Str.ofString "first") first) (hm2 : NI m (Str.ofString "count") c)
    (N : News g L s.heap [(Nm, W.listOf ws.toArray 0), (L + 1 + 1 + 1 + 1 + 1, oB), (L + 1 + 1 + 1 + 1, oP), (L + 1 + 1 + 1, oS), (L + 1 + 1, oW), (L + 1, oN)]) (dN : oN.data = .cell (some (.ref Nm)))
    (hE : PassesOwn (model prog w) (callerA.deeper (lawEnv L)) (lawEnv L) E) :
    wpAny (model prog w) (callerA.deeper (lawEnv L)) (execs ((lawBody.drop 3).take 2) (lawEnv L)) (fun f s' => f = .next ∧ PB g L s Nm ws oB oP oS oW oN c s') E s := by
  have _ : PySem.Challenge.rw_ec5001_01 = PySem.Challenge.rw_ec5001_01 ∧ Mine.hd.heap_39 = Mine.hd.heap_39 := by { k_fill; exact ⟨rfl, rfl⟩ }
  obtain ⟨tf, hm1⟩ := hm1
  obtain ⟨tc, hm2⟩ := hm2
  have F1 := fr_name (Str.ofString "first") (fr_name (Str.ofString "count") F hm2) hm1
  clear F
  dsimp only [lawBody, pickBody, List.drop, List.take, lawEnv, lawScope, pickScope]
  k_steps
  refine Stop.go ?_
  k_dflt (refine LCg.Assign_ListComp_U (F₀ := by k_asm) (by rfl) (by with_unfolding_all rfl) (by with_unfolding_all rfl) (by decide) (by rfl) (by decide) (by rfl) (by rfl) (by rfl) ?_ ?_; rotate_left; (intro _; rfl))
  k_steps
  rename IsRange _ _ _ _ _ _ _ _ => hR
  rename Fr g L _ _ => F2
  rename News g L _ _ => N2
  refine Stop.go (LCg.CompSrc.range (n := c) (by rfl) F2 N2 hR (small_one (by omega) (by omega) (by omega) (by omega)) (by rw [rangeSize_one]; split <;> omega) (by rw [sizeLine_eq]; omega) (fun gg => ?_))
  refine rest_U _ (fun j zs => Pos1 zs j) trivial ?_ ?_ _ 0 [] (by rfl) ⟨[], .nil, rfl, fun _ h => nomatch h⟩
  · rintro j zs v I' oI' C oC D m₂ h tk E' hj hzs ⟨tk9, rfl⟩ hC hx F' N' off' ne'
    clear F2 N2 hR
    have hj2 : 2 * j < ns.length := by omega
    obtain ⟨t8, hx8⟩ := (‹IntsAre ws ns›).get (2 * j) ns[2 * j] (List.getElem?_eq_getElem hj2)
    have e8 : (2 * (0 + (j : Int))) = ((2 * j : Nat) : Int) := by omega
    have hj3 : 2 * j < 127 := by omega
    k_steps
    refine Stop.go (my_item (vs := ws) ⟨_, N'.get (by k_mem), rfl, _, rfl⟩ (by rw [e8]; exact nat_nonneg _) (by rw [e8]; exact small_nat hj3) (by rw [e8, Int.toNat_natCast]; exact hx8) ?_ (by with_unfolding_all rfl))
    k_steps
    refine El.mk F' N' (fun _ hp => hp) (hzs.snoc _ ?_)
    split <;> omega
  · intro zs hzs
    rw [Nat.zero_add] at hzs
    clear F2 N2 hR
    k_steps
    · refine Stop.go ?_
      k_dflt (refine LCg.Assign_ListComp_U (F₀ := by k_asm) (by rfl) (by with_unfolding_all rfl) (by with_unfolding_all rfl) (by decide) (by rfl) (by decide) (by rfl) (by rfl) (by rfl) ?_ ?_; rotate_left; (intro _; rfl))
      k_steps
      rename IsRange _ _ _ _ _ _ _ _ => hR
      rename Fr g L _ _ => F3
      rename News g L _ _ => N3
      refine Stop.go (LCg.CompSrc.range (n := c) (by rfl) F3 N3 hR (small_one (by omega) (by omega) (by omega) (by omega)) (by rw [rangeSize_one]; split <;> omega) (by rw [sizeLine_eq]; omega) (fun gg => ?_))
      refine rest_U _ (fun j zs => Pos1 zs j) trivial ?_ ?_ _ 0 [] (by rfl) ⟨[], .nil, rfl, fun _ h => nomatch h⟩
      · rintro j zs v I' oI' C oC D m₂ h tk E' hj hzs ⟨tk9, rfl⟩ hC hx F' N' off' ne'
        clear F3 N3 hR
        have hj2 : 2 * j < ns.length := by omega
        obtain ⟨t8, hx8⟩ := (‹IntsAre ws ns›).get (2 * j) ns[2 * j] (List.getElem?_eq_getElem hj2)
        have e8 : (2 * (0 + (j : Int))) = ((2 * j : Nat) : Int) := by omega
        have hj3 : 2 * j < 127 := by omega
        k_steps
        refine Stop.go (my_item (vs := ws) ⟨_, N'.get (by k_mem), rfl, _, rfl⟩ (by rw [e8]; exact nat_nonneg _) (by rw [e8]; exact small_nat hj3) (by rw [e8, Int.toNat_natCast]; exact hx8) ?_ (by with_unfolding_all rfl))
        k_steps
        refine El.mk F' N' (fun _ hp => hp) (hzs.snoc _ ?_)
        exact mod9 _
      · intro zs' hzs'
        rw [Nat.zero_add] at hzs'
        clear F3 N3 hR
        k_steps
        rename Fr g L _ _ => F4
        rename News g L _ _ => N4
        rename _ ∧ _ ∧ _ ∧ _ ∧ _ ∧ _ ∧ _ => l2
        obtain ⟨nz, hz1, hz2, hz3⟩ := hzs'
        exact ⟨_, _, _, _, _, nz, rfl, F4, news_d1 N4, l2.2.1, l2.2.2.1, l2.2.2.2.1, l2.2.2.2.2.1, l2.2.2.2.2.2.1, l2.2.2.2.2.2.2, .mk (by with_unfolding_all rfl) rfl, by with_unfolding_all rfl, hz1, hz2, hz3⟩
    · rename Fr g L _ _ => F4
      rename News g L _ _ => N4
      rename _ ∧ _ ∧ _ ∧ _ ∧ _ ∧ _ => l2
      obtain ⟨nz, hz1, hz2, hz3⟩ := hzs
      exact ⟨_, _, _, _, _, nz, rfl, F4, N4, l2.1, l2.2.1, l2.2.2.1, l2.2.2.2.1, l2.2.2.2.2.1, l2.2.2.2.2.2, .mk (by with_unfolding_all rfl) rfl, by with_unfolding_all rfl, hz1, hz2, hz3⟩
end Mine
end
section
open PySem PySem.W PySem.Calls PyProof.Rows
set_option Elab.async false
set_option maxRecDepth 100000
set_option maxHeartbeats 8000000
set_option pp.deepTerms false
set_option pp.deepTerms.threshold 7
set_option linter.unusedVariables false
namespace Mine
local macro_rules | `(tactic| walk_at "exec Assign cons ListComp") => `(tactic| refine Stop.mk ?_)
local macro_rules | `(tactic| walk_at "CompSrc") => `(tactic| refine Stop.mk ?_)
local macro_rules | `(tactic| walk_at "call builtin:sum") => `(tactic| refine Stop.mk ?_)
local macro_rules | `(tactic| walk_at "subscriptTail Name BinOp ref int") => `(tactic| refine Stop.mk ?_)
local macro_rules | `(tactic| k_steps) => `(tactic| repeat' (first | (k_unfold; (try dsimp only)) | walk1 | (dsimp only; walk1) | (leave1; walk_say "STEP leave1"; try dsimp only) | fail "no step"))
def PC (g : Heap) (L : Addr) (s : Shared) (Sz : Addr) (ss : List Value) (oB oP oS : Obj) (c : Nat) (s' : Shared) : Prop :=
  ∃ (h : Heap) (tk : Nat) (m : Str → Option Value) (Du : Addr) (dd : List Value) (dz : List Int), s' = { s with heap := h, toks := tk } ∧ Fr g L h m ∧
    News g L h [(Du, LCg.lst dd), (Sz, LCg.lst ss), (L + 1 + 1 + 1 + 1 + 1, oB), (L + 1 + 1 + 1 + 1, oP), (L + 1 + 1 + 1, oS)] ∧ @Ne Nat Sz Du ∧ @Ne Nat (L + 1 + 1 + 1 + 1 + 1) Du ∧ @Ne Nat (L + 1 + 1 + 1 + 1) Du ∧ @Ne Nat (L + 1 + 1 + 1) Du ∧
    NI m (Str.ofString "count") c ∧ m (Str.ofString "sizes") = some (.ref Sz) ∧ m (Str.ofString "dues") = some (.ref Du) ∧ IntsAre dd dz ∧ dz.length = c
def LenIs (zs : List Value) (j : Nat) : Prop := ∃ ns : List Int, IntsAre zs ns ∧ ns.length = j
theorem LenIs.snoc {zs : List Value} {j : Nat} (h : LenIs zs j) (x : Int) (t : Tok) : LenIs (zs ++ [Value.int x t]) (j + 1) := by
  obtain ⟨ns, h1, h2⟩ := h
  exact ⟨ns ++ [x], ints_snoc h1 x t, by rw [List.length_append, h2]; rfl⟩
theorem sum_pos : ∀ {l : List Int}, (∀ x ∈ l, 1 ≤ x) → 0 ≤ l.sum
  | [], _ => Int.le_refl _
  | x :: r, h => by
    have h1 := h x (.head _)
    have h2 := sum_pos (l := r) fun y hy => h y (.tail _ hy)
    rw [List.sum_cons]; omega
theorem news_sub {h₀ h : Heap} {L : Addr} {l l' : List (Addr × Obj)} (N : News h₀ L h l) (hs : ∀ p ∈ l', p ∈ l) : News h₀ L h l' := fun p hp => N p (hs p hp)
theorem news_c {h₀ h : Heap} {L : Addr} {a b c d e f : Addr × Obj} {l : List (Addr × Obj)} (N : News h₀ L h (a :: b :: c :: d :: e :: f :: l)) : News h₀ L h [a, b, d, e, f] := news_sub N (by
  intro p hp
  simp only [List.mem_cons, List.not_mem_nil, or_false] at hp ⊢
  rcases hp with h | h | h | h | h <;> simp [h])
theorem segC {prog : Program} {w : World} {p : Program} {loose : List Str} {mean : ExcName → Option Value} {mg mb : Str → Option Value} {s : Shared} {E : Value → Shared → Prop} {g : Heap} {L Nm Sz : Addr} {ws ss : List Value} {ns sz : List Int} {m : Str → Option Value} {oB oP oS oW oN : Obj} {c : Nat}
    (X : (Mine.hd.heap_39 w.params).In g) (T : Top p loose mean mg mb g) (hI : IntsAre ws ns) (hn1 : 14 ≤ ns.length) (hn2 : ns.length ≤ 100) (hc1 : 2 ≤ c) (hc2 : c ≤ 7) (hJ : IntsAre ss sz) (hsz : sz.length = c) (hpos : ∀ x ∈ sz, 1 ≤ x)
    (F : Fr g L s.heap m) (hm1 : m (Str.ofString "sizes") = some (.ref Sz)) (hm2 : NI m (Str.ofString "count") c)
    (N : News g L s.heap [(Sz, LCg.lst ss), (Nm, W.listOf ws.toArray 0), (L + 1 + 1 + 1 + 1 + 1, oB), (L + 1 + 1 + 1 + 1, oP), (L + 1 + 1 + 1, oS), (L + 1 + 1, oW), (L + 1, oN)]) (dN : oN.data = .cell (some (.ref Nm))) (dW : oW.data = .cell none)
    (q1 : @LT.lt Nat _ (L + 1 + 1 + 1 + 1 + 1) Nm) (q2 : @Ne Nat Nm Sz ∧ @Ne Nat (L + 1 + 1 + 1 + 1 + 1) Sz ∧ @Ne Nat (L + 1 + 1 + 1 + 1) Sz ∧ @Ne Nat (L + 1 + 1 + 1) Sz ∧ @Ne Nat (L + 1 + 1) Sz ∧ @Ne Nat (L + 1) Sz)
    (hE : PassesOwn (model prog w) (callerA.deeper (lawEnv L)) (lawEnv L) E) :
    wpAny (model prog w) (callerA.deeper (lawEnv L)) (execs ((lawBody.drop 5).take 2) (lawEnv L)) (fun f s' => f = .next ∧ PC g L s Sz ss oB oP oS c s') E s := by
  have _ : PySem.Challenge.rw_ec5001_01 = PySem.Challenge.rw_ec5001_01 ∧ Mine.hd.heap_39 = Mine.hd.heap_39 := by { k_fill; exact ⟨rfl, rfl⟩ }
  obtain ⟨tc, hm2⟩ := hm2
  have F1 := fr_name (Str.ofString "sizes") (fr_name (Str.ofString "count") F hm2) hm1
  clear F
  dsimp only [lawBody, pickBody, List.drop, List.take, lawEnv, lawScope, pickScope]
  k_steps
  rename Fr g L _ _ => F2
  rename News g L _ _ => N2
  refine Stop.go (sum_any (by rfl) ⟨_, N2.get (.head _), rfl, _, rfl⟩ hJ ?_)
  intro h7 tk7 t7 K7
  have F7 := F2.keeps K7
  have N7 := N2.grown K7
  clear F2 N2
  have hs0 := sum_pos hpos
  (try dsimp only)
  k_steps
  refine Stop.go ?_
  k_dflt (refine LCg.Assign_ListComp_U (F₀ := by k_asm) (by rfl) (by with_unfolding_all rfl) (by with_unfolding_all rfl) (by decide) (by rfl) (by decide) (by rfl) (by rfl) (by rfl) ?_ ?_; rotate_left; (intro _; rfl))
  k_steps
  rename IsRange _ _ _ _ _ _ _ _ => hR
  rename Fr g L _ _ => F2
  rename News g L _ _ => N2
  refine Stop.go (LCg.CompSrc.range (n := c) (by rfl) F2 N2 hR (small_one (by omega) (by omega) (by omega) (by omega)) (by rw [rangeSize_one]; split <;> omega) (by rw [sizeLine_eq]; omega) (fun gg => ?_))
  refine rest_U _ (fun j zs => LenIs zs j) trivial ?_ ?_ _ 0 [] (by rfl) ⟨[], .nil, rfl⟩
  · rintro j zs v I' oI' C oC D m₂ h tk E' hj hzs ⟨tk9, rfl⟩ hC hx F' N' off' ne'
    clear F2 N2 hR
    have hj2 : 2 * j + 1 < ns.length := by omega
    obtain ⟨t8, hx8⟩ := hI.get (2 * j + 1) ns[2 * j + 1] (List.getElem?_eq_getElem hj2)
    have e8 : (2 * (0 + (j : Int)) + 1) = ((2 * j + 1 : Nat) : Int) := by omega
    have hj3 : 2 * j + 1 < 127 := by omega
    k_steps
    refine Stop.go (my_item (vs := ws) ⟨_, N'.get (by k_mem), rfl, _, rfl⟩ (by rw [e8]; exact nat_nonneg _) (by rw [e8]; exact small_nat hj3) (by rw [e8, Int.toNat_natCast]; exact hx8) ?_ (by with_unfolding_all rfl))
    k_steps
    exact El.mk F' N' (fun _ hp => hp) (hzs.snoc _ _)
  · intro zs hzs
    rw [Nat.zero_add] at hzs
    clear F2 N2 hR
    k_steps
    rename Fr g L _ _ => F4
    rename News g L _ _ => N4
    rename _ ∧ _ ∧ _ ∧ _ ∧ _ ∧ _ ∧ _ => l2
    obtain ⟨nz, hz1, hz2⟩ := hzs
    exact ⟨_, _, _, _, _, nz, rfl, F4, news_c N4, l2.1, l2.2.2.1, l2.2.2.2.1, l2.2.2.2.2.1, .mk (by with_unfolding_all rfl) rfl, by with_unfolding_all rfl, by with_unfolding_all rfl, hz1, hz2⟩
end Mine
end
section
open PySem PySem.W PySem.Calls PyProof.Rows
set_option Elab.async false
set_option maxRecDepth 100000
set_option linter.unusedVariables false
namespace Mine
section
variable {prog : Program} {w : World} {A : Around} {E : Value → Shared → Prop} {s : Shared} {h₀ : Heap} {L D : Addr} {m : Str → Option Value} {news : List (Addr × Obj)}
theorem insert_idx {vs : List Value} {n : Nat} {k : Nat} {u : Tok} {y : Value} {Q : Value → Shared → Prop} (F : Fr h₀ L s.heap m) (N : News h₀ L s.heap news) (i : Nat) (nd : (news.map (·.1)).Nodup) (hi : news[i]? = some (D, W.listOf vs.toArray n)) (hk : k ≤ vs.length) (hsz : vs.length ≤ 1000000)
    (h : ∀ h', Fr h₀ L h' m → News h₀ L h' (news.set i (D, W.listOf (vs.take k ++ y :: vs.drop k).toArray (n + 1))) → Q .none { s with heap := h' }) : wpAny (model prog w) A (call (.builtin "list.insert") [.ref D, .int (k : Int) u, y]) Q E s := by
  have e : kl_ins vs (k : Int) y = vs.take k ++ y :: vs.drop k := by
    unfold kl_ins
    rw [if_neg (by omega), Int.toNat_natCast, Nat.min_eq_left hk]
  refine kl_insert (its := vs.toArray) F N (by simp [Builtin.List.listFitsIndex]; omega) e (upd_idx i nd hi) (by rw [sizeLine_eq]; show vs.length ≤ _; omega) h
theorem updF_idx {d : Addr} {o : Obj} : ∀ {l : List (Addr × Obj)} (i : Nat), (l.map (·.1)).Nodup → l[i]? = some (d, o) → UpdF d o l (fun o' => l.set i (d, o'))
  | [], _, _, h => by cases h
  | p :: r, 0, nd, h => by
    obtain rfl : p = (d, o) := by simpa using h
    rw [List.map_cons, List.nodup_cons] at nd
    exact .head fun q hq e => nd.1 (List.mem_map.mpr ⟨q, hq, e⟩)
  | p :: r, i + 1, nd, h => by
    rw [List.map_cons, List.nodup_cons] at nd
    have h' : r[i]? = some (d, o) := by simpa using h
    refine .tail (fun e => nd.1 ?_) (updF_idx i nd.2 h')
    rw [e]
    exact List.mem_map.mpr ⟨(d, o), List.mem_of_getElem? h', rfl⟩
end
theorem ins_get {α : Type} (l : List α) (a : α) {r : Nat} (hr : r ≤ l.length) (j : Nat) : (l.take r ++ a :: l.drop r)[j]? = if j < r then l[j]? else if j = r then some a else l[j - 1]? := by
  have hlen : (l.take r).length = r := by rw [List.length_take, Nat.min_eq_left hr]
  by_cases h1 : j < r
  · rw [if_pos h1, List.getElem?_append_left (by rw [hlen]; exact h1), List.getElem?_take, if_pos h1]
  · rw [if_neg h1, List.getElem?_append_right (by rw [hlen]; omega), hlen]
    by_cases h2 : j = r
    · rw [if_pos h2, h2, Nat.sub_self]; rfl
    · rw [if_neg h2]
      obtain ⟨q, rfl⟩ : ∃ q, j = r + 1 + q := ⟨j - (r + 1), by omega⟩
      rw [show r + 1 + q - r = q + 1 by omega, List.getElem?_cons_succ, List.getElem?_drop, show r + 1 + q - 1 = r + q by omega]
abbrev It := Int × Int × Int
/-- the row's items stand in the ledger -/
def RowOf (items : List (Addr × Obj)) (rs : List Value) (ts : List It) : Prop :=
  rs.length = ts.length ∧ ∀ (j : Nat) (d p k : Int), ts[j]? = some (d, p, k) → ∃ (b : Addr) (t u v : Tok), rs[j]? = some (Value.ref b) ∧ (b, W.listOf #[Value.int d t, Value.int p u, Value.int k v] 0) ∈ items
theorem RowOf.ins {items : List (Addr × Obj)} {rs : List Value} {ts : List It} (h : RowOf items rs ts) {r : Nat} (hr : r ≤ ts.length) (b : Addr) (d p k : Int) (t u v : Tok) :
    RowOf ((b, W.listOf #[Value.int d t, Value.int p u, Value.int k v] 0) :: items) (rs.take r ++ Value.ref b :: rs.drop r) (ts.take r ++ (d, p, k) :: ts.drop r) := by
  have hr' : r ≤ rs.length := by rw [h.1]; exact hr
  refine ⟨by simp [h.1], fun j d' p' k' e => ?_⟩
  rw [ins_get _ _ hr] at e
  rw [ins_get _ _ hr']
  by_cases h1 : j < r
  · rw [if_pos h1] at e ⊢
    obtain ⟨b', t', u', v', e1, e2⟩ := h.2 j d' p' k' e
    exact ⟨b', t', u', v', e1, .tail _ e2⟩
  · rw [if_neg h1] at e ⊢
    by_cases h2 : j = r
    · rw [if_pos h2] at e ⊢
      cases e
      exact ⟨b, t, u, v, rfl, .head _⟩
    · rw [if_neg h2] at e ⊢
      obtain ⟨b', t', u', v', e1, e2⟩ := h.2 (j - 1) d' p' k' e
      exact ⟨b', t', u', v', e1, .tail _ e2⟩
def Stable (ts : List It) : Prop := ts.Pairwise fun a b => a.1 < b.1 ∨ (a.1 = b.1 ∧ a.2.2 < b.2.2)
def KsOf (ts : List It) (i : Nat) : Prop := (ts.map (·.2.2)).Perm ((List.range i).map fun (k : Nat) => (k : Int))
theorem KsOf.lt {ts : List It} {i : Nat} (h : KsOf ts i) {a : It} (ha : a ∈ ts) : a.2.2 < (i : Int) := by
  have h1 : a.2.2 ∈ ts.map (·.2.2) := List.mem_map_of_mem ha
  obtain ⟨k, hk, e⟩ := List.mem_map.mp (h.mem_iff.mp h1)
  rw [← e]
  have := List.mem_range.mp hk
  omega
theorem KsOf.len {ts : List It} {i : Nat} (h : KsOf ts i) : ts.length = i := by
  have := h.length_eq
  simpa using this
theorem KsOf.ins {ts : List It} {i : Nat} (h : KsOf ts i) (r : Nat) (d p : Int) : KsOf (ts.take r ++ (d, p, (i : Int)) :: ts.drop r) (i + 1) := by
  unfold KsOf at *
  rw [List.map_append, List.map_cons, List.range_succ, List.map_append]
  refine (List.perm_middle).trans ?_
  rw [← List.map_append, List.take_append_drop]
  exact (List.Perm.cons _ h).trans (List.perm_append_singleton _ _).symm
theorem Stable.ins {ts : List It} {i r : Nat} (hs : Stable ts) (hk : KsOf ts i) {d : Int} (p : Int) (hu : Ub (ts.map (·.1)) d r) : Stable (ts.take r ++ (d, p, (i : Int)) :: ts.drop r) := by
  obtain ⟨h1, h2, h3⟩ := hu
  unfold Stable at *
  rw [List.pairwise_append, List.pairwise_cons]
  have hd : ts.Pairwise fun a b => a.1 < b.1 ∨ (a.1 = b.1 ∧ a.2.2 < b.2.2) := hs
  have key : (ts.take r ++ ts.drop r).Pairwise fun a b => a.1 < b.1 ∨ (a.1 = b.1 ∧ a.2.2 < b.2.2) := by rw [List.take_append_drop]; exact hd
  rw [List.pairwise_append] at key
  have tk : ∀ a ∈ ts.take r, a.1 ≤ d := fun a ha => by
    obtain ⟨j, hj⟩ := List.mem_iff_getElem?.mp ha
    have hjr : j < r := by
      have := (List.getElem?_eq_some_iff.mp hj).1
      rw [List.length_take] at this; omega
    rw [List.getElem?_take, if_pos hjr] at hj
    exact h2 j a.1 hjr (by rw [List.getElem?_map, hj]; rfl)
  have dr : ∀ a ∈ ts.drop r, d < a.1 := fun a ha => by
    obtain ⟨j, hj⟩ := List.mem_iff_getElem?.mp ha
    rw [List.getElem?_drop] at hj
    exact h3 (r + j) a.1 (by omega) (by rw [List.getElem?_map, hj]; rfl)
  refine ⟨key.1, ⟨fun a ha => .inl (dr a ha), key.2.1⟩, fun a ha b hb => ?_⟩
  rcases List.mem_cons.mp hb with rfl | hb
  · have hle := tk a ha
    have hlt := hk.lt (List.mem_of_mem_take ha)
    rcases Int.lt_or_eq_of_le hle with q | q
    · exact .inl q
    · exact .inr ⟨q, hlt⟩
  · exact key.2.2 a ha b hb
theorem Stable.sorted {ts : List It} (h : Stable ts) : (ts.map (·.1)).Pairwise (· ≤ ·) := by
  rw [List.pairwise_map]
  exact h.imp fun q => by rcases q with q | q <;> omega
theorem RowOf.at {items : List (Addr × Obj)} {rs : List Value} {ts : List It} (h : RowOf items rs ts) {hp g : Heap} {L R : Addr} {n : Nat} {l : List (Addr × Obj)} (N : News g L hp l) (hR : (R, W.listOf rs.toArray n) ∈ l) (hi : ∀ p ∈ items, p ∈ l) : RowAt hp R (ts.map (·.1)) := by
  refine ⟨rs, ⟨_, N.get hR, rfl, _, rfl⟩, by rw [List.length_map]; exact h.1, fun j d e => ?_⟩
  rw [List.getElem?_map] at e
  obtain ⟨⟨d', p, k⟩, e1, e2⟩ := Option.map_eq_some_iff.mp e
  obtain rfl : d' = d := e2
  obtain ⟨b, t, u, v, f1, f2⟩ := h.2 j d' p k e1
  exact ⟨b, t, [Value.int p u, Value.int k v], f1, _, N.get (hi _ f2), rfl, _, rfl⟩
theorem RowOf.at2 {items : List (Addr × Obj)} {rs : List Value} {ts : List It} (h : RowOf items rs ts) {hp g : Heap} {L R : Addr} {n : Nat} {l : List (Addr × Obj)} (N : News g L hp l) (hR : (R, W.listOf rs.toArray n) ∈ l) (hi : ∀ p ∈ items, p ∈ l) : Row2 hp R (ts.map fun t => (t.1, t.2.1)) := by
  refine ⟨rs, ⟨_, N.get hR, rfl, _, rfl⟩, by rw [List.length_map]; exact h.1, fun j d p e => ?_⟩
  rw [List.getElem?_map] at e
  obtain ⟨⟨d', p', k⟩, e1, e2⟩ := Option.map_eq_some_iff.mp e
  cases e2
  obtain ⟨b, t, u, v, f1, f2⟩ := h.2 j d' p' k e1
  exact ⟨b, t, u, [Value.int k v], f1, _, N.get (hi _ f2), rfl, _, rfl⟩
end Mine
namespace Mine
theorem nd_cons {l : Addr} {news : List (Addr × Obj)} {as : List Nat} (h : ∀ p ∈ news, p.1 < l) (nd : as.Nodup) (e : news.map (·.1) = as := by rfl) : (l :: as).Nodup := by
  subst e
  refine List.nodup_cons.mpr ⟨fun q => ?_, nd⟩
  obtain ⟨p, hp, e⟩ := List.mem_map.mp q
  exact absurd (h p hp) (by rw [e]; exact Nat.lt_irrefl _)
end Mine
namespace Mine
theorem nd_cons' {l : Addr} {news : List (Addr × Obj)} {as : List Nat} (h : ∀ p ∈ news, p.1 ≠ l) (nd : as.Nodup) (e : news.map (·.1) = as := by rfl) : (l :: as).Nodup := by
  subst e
  refine List.nodup_cons.mpr ⟨fun q => ?_, nd⟩
  obtain ⟨p, hp, e⟩ := List.mem_map.mp q
  exact h p hp e
end Mine
namespace Mine
theorem nodup_mv {b I R a2 a3 a4 a5 a6 : Nat} {l : List Nat} (h : (b :: I :: R :: a2 :: a3 :: a4 :: a5 :: a6 :: l).Nodup) : (R :: a2 :: a3 :: a4 :: a5 :: a6 :: b :: l).Nodup := by
  simp only [List.nodup_cons, List.mem_cons, not_or] at h ⊢
  grind
theorem sub_mv {b I R a2 a3 a4 a5 a6 : Addr × Obj} {l : List (Addr × Obj)} : ∀ p ∈ I :: R :: a2 :: a3 :: a4 :: a5 :: a6 :: b :: l, p ∈ b :: I :: R :: a2 :: a3 :: a4 :: a5 :: a6 :: l := by
  intro p hp
  simp only [List.mem_cons] at hp ⊢
  grind
theorem off_of_nodup {I : Nat} {as : List Nat} {news : List (Addr × Obj)} (h : (I :: as).Nodup) (e : news.map (·.1) = as := by rfl) : ∀ p ∈ news, p.1 ≠ I := by
  subst e
  intro p hp q
  exact (List.nodup_cons.mp h).1 (List.mem_map.mpr ⟨p, hp, q⟩)
theorem nodup_mvI {b I R a2 a3 a4 a5 a6 : Nat} {l : List Nat} (h : (b :: I :: R :: a2 :: a3 :: a4 :: a5 :: a6 :: l).Nodup) : (I :: R :: a2 :: a3 :: a4 :: a5 :: a6 :: b :: l).Nodup := by
  simp only [List.nodup_cons, List.mem_cons, not_or] at h ⊢
  grind
theorem sizes_ins {ts : List It} (h : ∀ t ∈ ts, 1 ≤ t.2.1) (r : Nat) {a : It} (ha : 1 ≤ a.2.1) : ∀ t ∈ ts.take r ++ a :: ts.drop r, 1 ≤ t.2.1 := by
  intro t ht
  rcases List.mem_append.mp ht with q | q
  · exact h t (List.mem_of_mem_take q)
  · rcases List.mem_cons.mp q with rfl | q
    · exact ha
    · exact h t (List.mem_of_mem_drop q)
end Mine
namespace Mine
theorem stable_next {ts : List It} (h : Stable ts) {i : Nat} {a b : It} (ha : ts[i]? = some a) (hb : ts[i + 1]? = some b) : a.1 < b.1 ∨ (a.1 = b.1 ∧ a.2.2 < b.2.2) := by
  obtain ⟨h1, rfl⟩ := List.getElem?_eq_some_iff.mp ha
  obtain ⟨h2, rfl⟩ := List.getElem?_eq_some_iff.mp hb
  exact List.pairwise_iff_getElem.mp h i (i + 1) h1 h2 (Nat.lt_succ_self i)
end Mine
namespace Mine
theorem range_sorted (c : Nat) : ((List.range c).map fun (k : Nat) => (k : Int)).Pairwise (· ≤ ·) := by
  rw [List.pairwise_map]
  refine (List.pairwise_lt_range (n := c)).imp ?_
  intro a b h; omega
end Mine
namespace Mine
theorem rangeKs_nat (c : Nat) : rangeKs 0 ((c : Int) - 0).toNat = (List.range c).map fun (k : Nat) => (k : Int) := by
  unfold rangeKs
  rw [show ((c : Int) - 0).toNat = c by omega]
  congr 1
  funext k; omega
end Mine
namespace Mine
theorem stop_cell {M : Model} {A : Around} {env : Env} {x : Str} {v : Value} {Q : Unit → Shared → Prop} {E : Value → Shared → Prop} {s : Shared} (hx : env.kindOf x = some .cell) (h : Stop (wpAny M A (storeName env x v) Q E s)) : wpAny M A (storeName env x v) Q E s := h
section
variable {M : Model} {A : Around} {E : Value → Shared → Prop} {s : Shared} {h₀ : Heap} {L a : Addr} {m : Str → Option Value} {cn : Str} {cs : Scope} {ccd : Value} {cl : List (Str × Addr)}
  {x : Str} {v : Value} {Q : Unit → Shared → Prop} {news : List (Addr × Obj)} {c : Addr} {o : Obj} {v₀ : Option Value}
theorem storeC_idx (F : Fr h₀ L s.heap m) (N : News h₀ L s.heap news) (i : Nat) (nd : (news.map (·.1)).Nodup) (hi : news[i]? = some (c, o)) (hc : cl.lookup x = some c) (hd : o.data = .cell v₀)
    (h : ∀ h' o', Fr h₀ L h' m → News h₀ L h' (news.set i (c, o')) → o'.data = .cell (some v) → Q () { s with heap := h' })
    (hk : cs.kind = .function) (hx : (envX cn cs L a ccd cl).kindOf x = some .cell) : wpAny M A (storeName (envX cn cs L a ccd cl) x v) Q E s :=
  storeX_C F N hc (updF_idx i nd hi) hd h hk hx
end
theorem nd_fresh {h h' : Heap} {fr news : List (Addr × Obj)} {as bs : List Nat} (hf : Fresh h h' fr) (hn : ∀ p ∈ news, h.get? p.1 = some p.2) (na : as.Nodup) (nb : bs.Nodup) (ea : fr.map (·.1) = as := by rfl) (eb : news.map (·.1) = bs := by rfl) : (as ++ bs).Nodup := by
  subst ea eb
  rw [List.nodup_append]
  refine ⟨na, nb, fun a ha b hb e => ?_⟩
  obtain ⟨p, hp, rfl⟩ := List.mem_map.mp ha
  obtain ⟨q, hq, rfl⟩ := List.mem_map.mp hb
  have h1 := (hf p hp).2
  have h2 := hn q hq
  rw [e, h2] at h1
  cases h1
theorem news_fresh {g h h' : Heap} {L : Addr} {m : Str → Option Value} {fr news : List (Addr × Obj)} (F : Fr g L h m) (N : News g L h news) (K : Keep h h') (hf : Fresh h h' fr) : News g L h' (fr ++ news) := by
  intro p hp
  rcases List.mem_append.mp hp with q | q
  · refine ⟨(hf p q).1, fun e => ?_, ?_⟩
    · obtain ⟨o, es, ep, ho, _⟩ := F.ns
      have h1 := (hf p q).2
      rw [e, ho] at h1; cases h1
    · cases e : g.get? p.1 with
      | none => rfl
      | some o =>
        have h1 := (hf p q).2
        rw [F.keep _ _ e] at h1; cases h1
  · exact ⟨K _ _ (N p q).1, (N p q).2⟩
end Mine
end
section
open PySem PySem.W PySem.Calls PyProof.Rows
set_option Elab.async false
set_option maxRecDepth 100000
set_option maxHeartbeats 8000000
set_option pp.deepTerms false
set_option pp.deepTerms.threshold 7
set_option linter.unusedVariables false
namespace Mine
local macro_rules | `(tactic| walk_at "exec For Name Call cons nil") => `(tactic| refine Stop.mk ?_)
local macro_rules | `(tactic| walk_at "pyIter ref") => `(tactic| refine Stop.mk ?_)
local macro_rules | `(tactic| walk_at "newList") => `(tactic| refine Stop.mk ?_)
local macro_rules | `(tactic| walk_at "call ref") => `(tactic| refine Stop.mk ?_)
local macro_rules | `(tactic| walk_at "call builtin:list.insert") => `(tactic| refine Stop.mk ?_)
local macro_rules | `(tactic| walk_at "subscriptTail Name Name ref int") => `(tactic| refine Stop.mk ?_)
local macro_rules | `(tactic| k_steps) => `(tactic| repeat' (first | (k_unfold; (try dsimp only)) | walk1 | (dsimp only; walk1) | (leave1; walk_say "STEP leave1"; try dsimp only) | fail "no step"))
/-- the row's loop: what holds behind i turns -/
def DJ (L R Du Sz : Addr) (dd ss : List Value) (oB oP oS : Obj) (c : Nat) (i : Nat) (m : Str → Option Value) (news : List (Addr × Obj)) : Prop :=
  ∃ (rs : List Value) (nR : Nat) (items : List (Addr × Obj)) (ts : List It), news = (R, W.listOf rs.toArray nR) :: (Du, LCg.lst dd) :: (Sz, LCg.lst ss) :: (L + 1 + 1 + 1 + 1 + 1, oB) :: (L + 1 + 1 + 1 + 1, oP) :: (L + 1 + 1 + 1, oS) :: items ∧
    (R :: Du :: Sz :: (L + 1 + 1 + 1 + 1 + 1) :: (L + 1 + 1 + 1 + 1) :: (L + 1 + 1 + 1) :: items.map (·.1)).Nodup ∧
    m (Str.ofString "row") = some (.ref R) ∧ m (Str.ofString "dues") = some (.ref Du) ∧ m (Str.ofString "sizes") = some (.ref Sz) ∧ NI m (Str.ofString "count") c ∧
    RowOf items rs ts ∧ Stable ts ∧ KsOf ts i ∧ ∀ t ∈ ts, 1 ≤ t.2.1
theorem segD {prog : Program} {w : World} {p : Program} {loose : List Str} {mean : ExcName → Option Value} {mg mb : Str → Option Value} {s : Shared} {E : Value → Shared → Prop} {g : Heap} {L Du Sz : Addr} {dd ss : List Value} {dz sz : List Int} {m : Str → Option Value} {oB oP oS : Obj} {c : Nat}
    (X : (Mine.hd.heap_39 w.params).In g) (T : Top p loose mean mg mb g) (hc1 : 2 ≤ c) (hc2 : c ≤ 7) (hI : IntsAre dd dz) (hdz : dz.length = c) (hJ : IntsAre ss sz) (hsz : sz.length = c) (hpos : ∀ x ∈ sz, 1 ≤ x)
    (F : Fr g L s.heap m) (hm1 : m (Str.ofString "sizes") = some (.ref Sz)) (hm2 : NI m (Str.ofString "count") c) (hm3 : m (Str.ofString "dues") = some (.ref Du))
    (N : News g L s.heap [(Du, LCg.lst dd), (Sz, LCg.lst ss), (L + 1 + 1 + 1 + 1 + 1, oB), (L + 1 + 1 + 1 + 1, oP), (L + 1 + 1 + 1, oS)])
    (nd : ([Du, Sz, L + 1 + 1 + 1 + 1 + 1, L + 1 + 1 + 1 + 1, L + 1 + 1 + 1] : List Nat).Nodup)
    (hE : PassesOwn (model prog w) (callerA.deeper (lawEnv L)) (lawEnv L) E) :
    wpAny (model prog w) (callerA.deeper (lawEnv L)) (execs ((lawBody.drop 7).take 2) (lawEnv L)) (fun f s' => f = .next ∧ ∃ (h : Heap) (tk : Nat) (m : Str → Option Value) (R : Addr) (news : List (Addr × Obj)), s' = { s with heap := h, toks := tk } ∧ Fr g L h m ∧ News g L h news ∧ DJ L R Du Sz dd ss oB oP oS c c m news) E s := by
  have _ : PySem.Challenge.rw_ec5001_01 = PySem.Challenge.rw_ec5001_01 ∧ Mine.hd.heap_39 = Mine.hd.heap_39 := by { k_fill; exact ⟨rfl, rfl⟩ }
  obtain ⟨tc, hm2⟩ := hm2
  have F1 := fr_name (Str.ofString "dues") (fr_name (Str.ofString "sizes") (fr_name (Str.ofString "count") F hm2) hm1) hm3
  clear F
  have B' := below_caller g
  dsimp only [lawBody, pickBody, List.drop, List.take, lawEnv, lawScope, pickScope]
  k_steps
  refine Stop.go (newList_K F1 N ?_ (by rw [sizeLine_eq]; exact Nat.zero_le _))
  intro R h1 F2 N2 l1
  have nd2 : (R :: [Du, Sz, L + 1 + 1 + 1 + 1 + 1, L + 1 + 1 + 1 + 1, L + 1 + 1 + 1]).Nodup := nd_cons l1 nd
  k_steps
  refine Stop.go (wpAny_For ?_ (by intro _; rfl))
  k_steps
  rename IsRange _ _ _ _ _ _ _ _ => hR
  rename Fr g L _ _ => F3
  rename News g L _ _ => N3
  refine Stop.go (for_loop (n := c) rfl F3 N3 hR (small_one (by omega) (by omega) (by omega) (by omega)) (by rw [rangeSize_one]; split <;> omega) (DJ L R Du Sz dd ss oB oP oS c)
    ⟨[], 0, [], [], rfl, nd2, by with_unfolding_all rfl, by with_unfolding_all rfl, by with_unfolding_all rfl, .mk (by with_unfolding_all rfl) rfl, ⟨rfl, fun j d p k e => by cases e⟩, .nil, .nil, fun _ h => nomatch h⟩ ?_ ?_)
  · clear hR F3 N3
    rintro i m₁ news₁ h₁ tk₁ tv I oI hi ⟨rs, nR, items, ts, rfl, ndi, m1, m2, m3, ⟨t4, m4⟩, hrow, hst, hks, hps⟩ F₂ N₂ off
    have F₃ := fr_name (Str.ofString "row") (fr_name (Str.ofString "dues") (fr_name (Str.ofString "sizes") (fr_name (Str.ofString "count") F₂ m4) m3) m2) m1
    clear F₂
    have hlen := hks.len
    refine wpAny_assign_Name ?_
    rw [show (0 : Int) + (i : Int) = (i : Int) from Int.zero_add _]
    have hi7 : i < 127 := by omega
    obtain ⟨td, hdi⟩ := hI.get i dz[i] (List.getElem?_eq_getElem (by omega))
    obtain ⟨tz, hzi⟩ := hJ.get i sz[i] (List.getElem?_eq_getElem (by omega))
    k_steps
    rename News g L _ _ => N4
    refine Stop.go (my_item (vs := dd) ⟨_, N4.get (by k_mem), rfl, _, rfl⟩ (nat_nonneg _) (small_nat hi7) (by rw [Int.toNat_natCast]; exact hdi) ?_ (by with_unfolding_all rfl))
    k_steps
    refine Stop.go ?_
    k_dflt (refine' bisK_call (ds := ts.map (·.1)) ?k1 ?k2 ?k3 ?k4 ?k5 ?k6 ?k7 ?k8 ?k9 ?k10 ?_; (case k1 => k_asm); (case k2 => k_asm); (case k3 => k_asm); (case k4 => k_asm); (case k5 => exact rfl); (case k6 => decide); (case k7 => decide); (case k8 => exact hrow.at N4 (.tail _ (.head _)) (fun p hp => by (repeat (first | exact hp | refine .tail _ ?_)))); (case k9 => exact hst.sorted); (case k10 => rw [List.length_map]; omega))
    intro r tr h5 tk5 hub K5
    rename Fr g L _ _ => F4
    have F5 := F4.keeps K5
    have N5 := N4.grown K5
    clear F4 N4
    (try dsimp only)
    k_steps
    refine Stop.go (my_item (vs := dd) ⟨_, N5.get (by k_mem), rfl, _, rfl⟩ (nat_nonneg _) (small_nat hi7) (by rw [Int.toNat_natCast]; exact hdi) ?_ (by with_unfolding_all rfl))
    k_steps
    refine Stop.go (my_item (vs := ss) ⟨_, N5.get (by k_mem), rfl, _, rfl⟩ (nat_nonneg _) (small_nat hi7) (by rw [Int.toNat_natCast]; exact hzi) ?_ (by with_unfolding_all rfl))
    k_steps
    refine Stop.go (newList_K F5 N5 ?_ (by rw [sizeLine_eq]; show 3 ≤ _; decide))
    intro b h6 F6 N6 l6
    clear F5 N5
    k_steps
    have ndi' : (b :: I :: R :: Du :: Sz :: (L + 1 + 1 + 1 + 1 + 1) :: (L + 1 + 1 + 1 + 1) :: (L + 1 + 1 + 1) :: items.map (·.1)).Nodup := nd_cons l6 (nd_cons' off ndi)
    have hrl : r ≤ rs.length := by have := hub.1; rw [List.length_map] at this; rw [hrow.1]; exact this
    refine Stop.go (insert_idx F6 N6 2 ndi' rfl hrl (by rw [hrow.1]; omega) ?_)
    intro h7 F7 N7
    clear F6 N6
    dsimp only [List.set] at N7
    k_steps
    have hrt : r ≤ ts.length := by rw [← hrow.1]; exact hrl
    refine turn_end _ F7 N7 ?_ ?_ ⟨rs.take r ++ Value.ref b :: rs.drop r, nR + 1, (b, W.listOf #[Value.int dz[i] td, Value.int sz[i] tz, Value.int (i : Int) tv] 0) :: items, ts.take r ++ (dz[i], sz[i], (i : Int)) :: ts.drop r, rfl,
      nodup_mv ndi', by with_unfolding_all rfl, by with_unfolding_all rfl, by with_unfolding_all rfl, .mk (by with_unfolding_all rfl) rfl, hrow.ins hrt b _ _ _ td tz tv, hst.ins hks _ hub, hks.ins r _ _, sizes_ins hps r (hpos _ (List.getElem_mem _))⟩
    · exact sub_mv
    · exact off_of_nodup (nodup_mvI ndi')
  · clear hR F3 N3
    intro h tk m' news' F' N' hJ
    exact wpAny_execs_nil ⟨rfl, h, tk, m', R, news', rfl, F', N', hJ⟩
end Mine
end
section
open PySem PySem.W PySem.Calls PyProof.Rows
set_option Elab.async false
set_option maxRecDepth 100000
set_option maxHeartbeats 8000000
set_option pp.deepTerms false
set_option pp.deepTerms.threshold 7
set_option linter.unusedVariables false
namespace Mine
local macro_rules | `(tactic| walk_at "exec For Name Call cons nil") => `(tactic| refine Stop.mk ?_)
local macro_rules | `(tactic| walk_at "pyIter ref") => `(tactic| refine Stop.mk ?_)
local macro_rules | `(tactic| walk_at "eval ListComp") => `(tactic| refine Stop.mk ?_)
local macro_rules | `(tactic| walk_at "CompSrc") => `(tactic| refine Stop.mk ?_)
local macro_rules | `(tactic| walk_at "subscriptTail Name Name ref int") => `(tactic| refine Stop.mk ?_)
local macro_rules | `(tactic| walk_at "subscriptTail Name BinOp ref int") => `(tactic| refine Stop.mk ?_)
local macro_rules | `(tactic| walk_at "subscriptTail Name Constant ref int") => `(tactic| refine Stop.mk ?_)
local macro_rules | `(tactic| walk_at "subscriptTail Subscript Constant ref int") => `(tactic| refine Stop.mk ?_)
local macro_rules | `(tactic| walk_at "call builtin:sorted") => `(tactic| refine Stop.mk ?_)
local macro_rules | `(tactic| walk_at "compareOp NotEq ref ref") => `(tactic| refine Stop.mk ?_)
local macro_rules | `(tactic| k_steps) => `(tactic| repeat' (first | (k_unfold; (try dsimp only)) | walk1 | (dsimp only; walk1) | (leave1; walk_say "STEP leave1"; try dsimp only) | fail "no step"))
def EJ (R : Addr) (c : Nat) (l : List (Addr × Obj)) (i : Nat) (m : Str → Option Value) (news : List (Addr × Obj)) : Prop :=
  news = l ∧ m (Str.ofString "row") = some (.ref R) ∧ NI m (Str.ofString "count") c
def PE (g : Heap) (L : Addr) (s : Shared) (R : Addr) (c : Nat) (l : List (Addr × Obj)) (s' : Shared) : Prop :=
  ∃ (h : Heap) (tk : Nat) (m : Str → Option Value), s' = { s with heap := h, toks := tk } ∧ Fr g L h m ∧ News g L h l ∧ m (Str.ofString "row") = some (.ref R) ∧ NI m (Str.ofString "count") c
theorem segE {prog : Program} {w : World} {p : Program} {loose : List Str} {mean : ExcName → Option Value} {mg mb : Str → Option Value} {s : Shared} {E : Value → Shared → Prop} {g : Heap} {L R : Addr} {rs : List Value} {nR : Nat} {items : List (Addr × Obj)} {ts : List It} {m : Str → Option Value} {oB oP oS : Obj} {c : Nat}
    (X : (Mine.hd.heap_39 w.params).In g) (T : Top p loose mean mg mb g) (hc1 : 2 ≤ c) (hc2 : c ≤ 7) (hrow : RowOf items rs ts) (hst : Stable ts) (hks : KsOf ts c)
    (F : Fr g L s.heap m) (hm1 : m (Str.ofString "row") = some (.ref R)) (hm2 : NI m (Str.ofString "count") c)
    (N : News g L s.heap ((R, W.listOf rs.toArray nR) :: (L + 1 + 1 + 1 + 1 + 1, oB) :: (L + 1 + 1 + 1 + 1, oP) :: (L + 1 + 1 + 1, oS) :: items))
    (hE : PassesOwn (model prog w) (callerA.deeper (lawEnv L)) (lawEnv L) E) :
    wpAny (model prog w) (callerA.deeper (lawEnv L)) (execs ((lawBody.drop 9).take 1) (lawEnv L)) (fun f s' => f = .next ∧ PE g L s R c ((R, W.listOf rs.toArray nR) :: (L + 1 + 1 + 1 + 1 + 1, oB) :: (L + 1 + 1 + 1 + 1, oP) :: (L + 1 + 1 + 1, oS) :: items) s') E s := by
  have _ : PySem.Challenge.rw_ec5001_01 = PySem.Challenge.rw_ec5001_01 ∧ Mine.hd.heap_39 = Mine.hd.heap_39 := by { k_fill; exact ⟨rfl, rfl⟩ }
  obtain ⟨tc, hm2⟩ := hm2
  have F1 := fr_name (Str.ofString "row") (fr_name (Str.ofString "count") F hm2) hm1
  clear F
  dsimp only [lawBody, pickBody, List.drop, List.take, lawEnv, lawScope, pickScope]
  k_steps
  refine Stop.go (wpAny_For ?_ (by intro _; rfl))
  k_steps
  rename IsRange _ _ _ _ _ _ _ _ => hR
  rename Fr g L _ _ => F3
  rename News g L _ _ => N3
  refine Stop.go (for_loop (n := c - 1) rfl F3 N3 hR (small_one (by omega) (by omega) (by omega) (by omega)) (by rw [rangeSize_one]; split <;> omega) (EJ R c ((R, W.listOf rs.toArray nR) :: (L + 1 + 1 + 1 + 1 + 1, oB) :: (L + 1 + 1 + 1 + 1, oP) :: (L + 1 + 1 + 1, oS) :: items))
    ⟨rfl, by with_unfolding_all rfl, .mk (by with_unfolding_all rfl) rfl⟩ ?_ ?_)
  · clear hR F3 N3
    rintro i m₁ news₁ h₁ tk₁ tv I oI hi ⟨rfl, m1, ⟨t4, m4⟩⟩ F₂ N₂ off
    have F₃ := fr_name (Str.ofString "row") (fr_name (Str.ofString "count") F₂ m4) m1
    clear F₂
    have hlen := hks.len
    have hin : ∀ p ∈ items, p ∈ (I, oI) :: (R, W.listOf rs.toArray nR) :: (L + 1 + 1 + 1 + 1 + 1, oB) :: (L + 1 + 1 + 1 + 1, oP) :: (L + 1 + 1 + 1, oS) :: items := fun p hp => by (repeat (first | exact hp | refine .tail _ ?_))
    have hi7 : i < 127 := by omega
    have hi8 : i + 1 < 127 := by omega
    obtain ⟨d0, p0, k0, e0⟩ : ∃ d p k, ts[i]? = some (d, p, k) := ⟨_, _, _, List.getElem?_eq_getElem (by omega)⟩
    obtain ⟨d1, p1, k1, e1⟩ : ∃ d p k, ts[i + 1]? = some (d, p, k) := ⟨_, _, _, List.getElem?_eq_getElem (by omega)⟩
    have hord := stable_next hst e0 e1
    obtain ⟨b0, t0, u0, v0, x0, y0⟩ := hrow.2 _ _ _ _ e0
    obtain ⟨b1, t1, u1, v1, x1, y1⟩ := hrow.2 _ _ _ _ e1
    refine wpAny_assign_Name ?_
    rw [show (1 : Int) + (i : Int) = ((i + 1 : Nat) : Int) by omega]
    have em : (((i + 1 : Nat) : Int) - 1) = (i : Int) := by omega
    k_steps
    rename News g L _ _ => N4
    refine Stop.go (my_item (vs := rs) ⟨_, N4.get (by k_mem), rfl, _, rfl⟩ (by rw [em]; exact nat_nonneg _) (by rw [em]; exact small_nat hi7) (by rw [em, Int.toNat_natCast]; exact x0) ?_ (by with_unfolding_all rfl))
    k_steps
    (try dsimp only)
    refine Stop.go (my_item (vs := [Value.int d0 t0, Value.int p0 u0, Value.int k0 v0]) ⟨_, N4.get (hin _ y0), rfl, _, rfl⟩ (by decide) (by decide) rfl ?_ (by with_unfolding_all rfl))
    k_steps
    (try dsimp only)
    refine Stop.go (my_item (vs := rs) ⟨_, N4.get (by k_mem), rfl, _, rfl⟩ (nat_nonneg _) (small_nat hi8) (by rw [Int.toNat_natCast]; exact x1) ?_ (by with_unfolding_all rfl))
    k_steps
    (try dsimp only)
    refine Stop.go (my_item (vs := [Value.int d1 t1, Value.int p1 u1, Value.int k1 v1]) ⟨_, N4.get (hin _ y1), rfl, _, rfl⟩ (by decide) (by decide) rfl ?_ (by with_unfolding_all rfl))
    k_steps
    (try dsimp only)
    refine Stop.go (my_item (vs := rs) ⟨_, N4.get (by k_mem), rfl, _, rfl⟩ (by rw [em]; exact nat_nonneg _) (by rw [em]; exact small_nat hi7) (by rw [em, Int.toNat_natCast]; exact x0) ?_ (by with_unfolding_all rfl))
    k_steps
    (try dsimp only)
    refine Stop.go (my_item (vs := [Value.int d0 t0, Value.int p0 u0, Value.int k0 v0]) ⟨_, N4.get (hin _ y0), rfl, _, rfl⟩ (by decide) (by decide) rfl ?_ (by with_unfolding_all rfl))
    k_steps
    (try dsimp only)
    refine Stop.go (my_item (vs := rs) ⟨_, N4.get (by k_mem), rfl, _, rfl⟩ (nat_nonneg _) (small_nat hi8) (by rw [Int.toNat_natCast]; exact x1) ?_ (by with_unfolding_all rfl))
    k_steps
    (try dsimp only)
    refine Stop.go (my_item (vs := [Value.int d1 t1, Value.int p1 u1, Value.int k1 v1]) ⟨_, N4.get (hin _ y1), rfl, _, rfl⟩ (by decide) (by decide) rfl ?_ (by with_unfolding_all rfl))
    k_steps
    · refine Stop.go (my_item (vs := rs) ⟨_, N4.get (by k_mem), rfl, _, rfl⟩ (by rw [em]; exact nat_nonneg _) (by rw [em]; exact small_nat hi7) (by rw [em, Int.toNat_natCast]; exact x0) ?_ (by with_unfolding_all rfl))
      k_steps
      (try dsimp only)
      refine Stop.go (my_item (vs := [Value.int d0 t0, Value.int p0 u0, Value.int k0 v0]) ⟨_, N4.get (hin _ y0), rfl, _, rfl⟩ (by decide) (by decide) rfl ?_ (by with_unfolding_all rfl))
      k_steps
      (try dsimp only)
      refine Stop.go (my_item (vs := rs) ⟨_, N4.get (by k_mem), rfl, _, rfl⟩ (nat_nonneg _) (small_nat hi8) (by rw [Int.toNat_natCast]; exact x1) ?_ (by with_unfolding_all rfl))
      k_steps
      (try dsimp only)
      refine Stop.go (my_item (vs := [Value.int d1 t1, Value.int p1 u1, Value.int k1 v1]) ⟨_, N4.get (hin _ y1), rfl, _, rfl⟩ (by decide) (by decide) rfl ?_ (by with_unfolding_all rfl))
      k_steps
      (try dsimp only)
      rename Fr g L _ _ => F9
      exact turn_end _ F9 N4 (fun _ hp => hp) off ⟨rfl, by with_unfolding_all rfl, .mk (by with_unfolding_all rfl) rfl⟩
    · rename Fr g L _ _ => F9
      exact turn_end _ F9 N4 (fun _ hp => hp) off ⟨rfl, by with_unfolding_all rfl, .mk (by with_unfolding_all rfl) rfl⟩
  · clear hR F3 N3
    rintro h tk m' news' F' N' ⟨rfl, m1, m2⟩
    exact wpAny_execs_nil ⟨rfl, h, tk, m', rfl, F', N', m1, m2⟩
end Mine
end
section
open PySem PySem.W PySem.Calls PyProof.Rows
set_option Elab.async false
set_option maxRecDepth 100000
set_option maxHeartbeats 8000000
set_option pp.deepTerms false
set_option pp.deepTerms.threshold 7
set_option linter.unusedVariables false
namespace Mine
local macro_rules | `(tactic| walk_at "exec For Name Call cons nil") => `(tactic| refine Stop.mk ?_)
local macro_rules | `(tactic| walk_at "pyIter ref") => `(tactic| refine Stop.mk ?_)
local macro_rules | `(tactic| walk_at "eval ListComp") => `(tactic| refine Stop.mk ?_)
local macro_rules | `(tactic| walk_at "CompSrc") => `(tactic| refine Stop.mk ?_)
local macro_rules | `(tactic| walk_at "subscriptTail Name Name ref int") => `(tactic| refine Stop.mk ?_)
local macro_rules | `(tactic| walk_at "subscriptTail Name BinOp ref int") => `(tactic| refine Stop.mk ?_)
local macro_rules | `(tactic| walk_at "subscriptTail Name Constant ref int") => `(tactic| refine Stop.mk ?_)
local macro_rules | `(tactic| walk_at "subscriptTail Subscript Constant ref int") => `(tactic| refine Stop.mk ?_)
local macro_rules | `(tactic| walk_at "call builtin:sorted") => `(tactic| refine Stop.mk ?_)
local macro_rules | `(tactic| walk_at "compareOp NotEq ref ref") => `(tactic| refine Stop.mk ?_)
local macro_rules | `(tactic| k_steps) => `(tactic| repeat' (first | (k_unfold; (try dsimp only)) | walk1 | (dsimp only; walk1) | (leave1; walk_say "STEP leave1"; try dsimp only) | fail "no step"))
theorem segH {prog : Program} {w : World} {p : Program} {loose : List Str} {mean : ExcName → Option Value} {mg mb : Str → Option Value} {s : Shared} {E : Value → Shared → Prop} {g : Heap} {L R : Addr} {rs : List Value} {nR : Nat} {items : List (Addr × Obj)} {ts : List It} {m : Str → Option Value} {oB oP oS : Obj} {c : Nat}
    (X : (Mine.hd.heap_39 w.params).In g) (T : Top p loose mean mg mb g) (hc1 : 2 ≤ c) (hc2 : c ≤ 7) (hrow : RowOf items rs ts) (hst : Stable ts) (hks : KsOf ts c)
    (F : Fr g L s.heap m) (hm1 : m (Str.ofString "row") = some (.ref R)) (hm2 : NI m (Str.ofString "count") c)
    (N : News g L s.heap ((R, W.listOf rs.toArray nR) :: (L + 1 + 1 + 1 + 1 + 1, oB) :: (L + 1 + 1 + 1 + 1, oP) :: (L + 1 + 1 + 1, oS) :: items))
    (hE : PassesOwn (model prog w) (callerA.deeper (lawEnv L)) (lawEnv L) E) :
    wpAny (model prog w) (callerA.deeper (lawEnv L)) (execs ((lawBody.drop 10).take 1) (lawEnv L)) (fun f s' => f = .next ∧ PE g L s R c ((R, W.listOf rs.toArray nR) :: (L + 1 + 1 + 1 + 1 + 1, oB) :: (L + 1 + 1 + 1 + 1, oP) :: (L + 1 + 1 + 1, oS) :: items) s') E s := by
  have _ : PySem.Challenge.rw_ec5001_01 = PySem.Challenge.rw_ec5001_01 ∧ Mine.hd.heap_39 = Mine.hd.heap_39 := by { k_fill; exact ⟨rfl, rfl⟩ }
  obtain ⟨tc, hm2⟩ := hm2
  have F1 := fr_name (Str.ofString "row") (fr_name (Str.ofString "count") F hm2) hm1
  clear F
  dsimp only [lawBody, pickBody, List.drop, List.take, lawEnv, lawScope, pickScope]
  k_steps
  refine Stop.go ?_
  k_dflt (refine LCg.ListComp_U (F₀ := by k_asm) (by with_unfolding_all rfl) (by decide) (by rfl) (by decide) (by rfl) ?_ ?_; rotate_left; (intro _; rfl))
  k_steps
  rename Fr g L _ _ => F5
  rename News g L _ _ => N5
  have hlen := hks.len
  have hrl : rs.length = c := by rw [hrow.1]; exact hlen
  refine Stop.go (LCg.CompSrc.ledger (by rfl) F5 N5 (by k_mem) (by rw [List.size_toArray, sizeLine_eq]; omega) (fun gg => ?_))
  refine rest_U _ (fun j zs => IntsAre zs ((ts.take j).map (·.2.2))) (.inr ⟨_, by k_mem, rfl, _, rfl⟩) ?_ ?_ _ 0 [] (by rfl) .nil
  · intro j zs v I' oI' C oC D m₂ h tk E' hj hzs hv hC hx F' N' off' ne'
    clear F5 N5
    have hj' : j < ts.length := by rw [Nat.zero_add, List.size_toArray] at hj; omega
    obtain ⟨d0, p0, k0, e0⟩ : ∃ d p k, ts[j]? = some (d, p, k) := ⟨_, _, _, List.getElem?_eq_getElem hj'⟩
    obtain ⟨b0, t0, u0, v0, x0, y0⟩ := hrow.2 _ _ _ _ e0
    have ev : v = Value.ref b0 := by
      have hv' : rs[j]? = some v := by simpa using hv
      rw [x0] at hv'; exact (Option.some.inj hv').symm
    subst ev
    k_steps
    refine Stop.go (my_item (vs := [Value.int d0 t0, Value.int p0 u0, Value.int k0 v0]) ⟨_, N'.get (by (repeat (first | exact y0 | refine .tail _ ?_))), rfl, _, rfl⟩ (by decide) (by decide) rfl ?_ (by with_unfolding_all rfl))
    refine El.mk F' N' (fun _ hp => hp) ?_
    rw [take_snoc e0, List.map_append]
    exact ints_snoc hzs _ _
  · intro zs hzs
    rw [Nat.zero_add, List.size_toArray, hrow.1, List.take_length] at hzs
    clear F5 N5
    k_steps
    rename Fr g L _ _ => F6
    rename News g L _ _ => N6
    refine Stop.go (kso_sorted F6 N6 ⟨_, N6.get (.head _), rfl, _, rfl⟩ hzs (by rw [List.length_map]; omega) ?_)
    intro D2 vs2 ns2 c2 h2 F7 N7 l7 hi2 hl2 hp2 ho2 _
    clear F6 N6
    have e2 : ns2 = (List.range c).map fun (k : Nat) => (k : Int) := lks_uniq (hp2.trans hks) ho2 (range_sorted c)
    subst e2
    (try dsimp only)
    k_steps
    rename Fr g L _ _ => F8
    rename News g L _ _ => N8
    rename IntsAre _ (rangeKs 0 _) => hI8
    rw [rangeKs_nat] at hI8
    refine Stop.go (ke_ne_ints ⟨_, N8.get (.tail _ (.head _)), rfl, _, rfl⟩ ⟨_, N8.get (.head _), rfl, _, rfl⟩ hi2 hI8 (by ktr_units) ?_)
    rw [show (!decide (((List.range c).map fun (k : Nat) => (k : Int)) = (List.range c).map fun (k : Nat) => (k : Int))) = false by simp]
    k_steps
    exact ⟨_, _, _, rfl, F8, news_sub N8 (fun p hp => .tail _ (.tail _ (.tail _ hp))), by with_unfolding_all rfl, .mk (by with_unfolding_all rfl) rfl⟩
end Mine
end
section
open PySem PySem.W PySem.Calls PyProof.Rows
set_option Elab.async false
set_option maxRecDepth 100000
set_option maxHeartbeats 8000000
set_option pp.deepTerms false
set_option pp.deepTerms.threshold 7
set_option linter.unusedVariables false
namespace Mine
local macro_rules | `(tactic| walk_at "call ref") => `(tactic| refine Stop.mk ?_)
local macro_rules | `(tactic| walk_at "newList") => `(tactic| refine Stop.mk ?_)
local macro_rules | `(tactic| walk_at "storeName") => `(tactic| (k_dflt (refine stop_cell (by rfl) ?_)))
local macro_rules | `(tactic| k_steps) => `(tactic| repeat' (first | (k_unfold; (try dsimp only)) | walk1 | (dsimp only; walk1) | (leave1; walk_say "STEP leave1"; try dsimp only) | fail "no step"))
abbrev jsOf (ts : List It) : List (Int × Int) := ts.map fun t => (t.1, t.2.1)
def PI (g : Heap) (L : Addr) (s : Shared) (R : Addr) (rs : List Value) (nR : Nat) (items : List (Addr × Obj)) (ts : List It) (c : Nat) (s' : Shared) : Prop :=
  ∃ (h : Heap) (tk : Nat) (m : Str → Option Value) (K S P : Addr) (sv pv : List Value) (nS nP : Nat) (oB oP oS : Obj) (tb : Tok), s' = { s with heap := h, toks := tk } ∧ Fr g L h m ∧
    News g L h ((K, W.listOf #[] 0) :: (S, W.listOf sv.toArray nS) :: (P, W.listOf pv.toArray nP) :: (R, W.listOf rs.toArray nR) :: (L + 1 + 1 + 1 + 1 + 1, oB) :: (L + 1 + 1 + 1 + 1, oP) :: (L + 1 + 1 + 1, oS) :: items) ∧
    (K :: S :: P :: R :: (L + 1 + 1 + 1 + 1 + 1) :: (L + 1 + 1 + 1 + 1) :: (L + 1 + 1 + 1) :: items.map (·.1)).Nodup ∧ oB.data = .cell (some (.int 0 tb)) ∧ oP.data = .cell (some (.ref P)) ∧ oS.data = .cell (some (.ref S)) ∧
    SumsL (jsOf ts) (2 ^ c) sv ∧ PossL (jsOf ts) (2 ^ c) pv ∧ m (Str.ofString "row") = some (.ref R) ∧ NI m (Str.ofString "count") c ∧ m (Str.ofString "kept") = some (.ref K) ∧ NI m (Str.ofString "so_far") 0 ∧ NI m (Str.ofString "least") 0
theorem segI {prog : Program} {w : World} {p : Program} {loose : List Str} {mean : ExcName → Option Value} {mg mb : Str → Option Value} {s : Shared} {E : Value → Shared → Prop} {g : Heap} {L R : Addr} {rs : List Value} {nR : Nat} {items : List (Addr × Obj)} {ts : List It} {m : Str → Option Value} {oB oP oS : Obj} {c : Nat}
    (X : (Mine.hd.heap_39 w.params).In g) (T : Top p loose mean mg mb g) (hc1 : 2 ≤ c) (hc2 : c ≤ 7) (hrow : RowOf items rs ts) (hks : KsOf ts c)
    (F : Fr g L s.heap m) (hm1 : m (Str.ofString "row") = some (.ref R)) (hm2 : NI m (Str.ofString "count") c)
    (N : News g L s.heap ((R, W.listOf rs.toArray nR) :: (L + 1 + 1 + 1 + 1 + 1, oB) :: (L + 1 + 1 + 1 + 1, oP) :: (L + 1 + 1 + 1, oS) :: items))
    (nd : (R :: (L + 1 + 1 + 1 + 1 + 1) :: (L + 1 + 1 + 1 + 1) :: (L + 1 + 1 + 1) :: items.map (·.1)).Nodup) (dB : oB.data = .cell none) (dP : oP.data = .cell none) (dS : oS.data = .cell none)
    (hE : PassesOwn (model prog w) (callerA.deeper (lawEnv L)) (lawEnv L) E) :
    wpAny (model prog w) (callerA.deeper (lawEnv L)) (execs ((lawBody.drop 11).take 5) (lawEnv L)) (fun f s' => f = .next ∧ PI g L s R rs nR items ts c s') E s := by
  have _ : PySem.Challenge.rw_ec5001_01 = PySem.Challenge.rw_ec5001_01 ∧ Mine.hd.heap_39 = Mine.hd.heap_39 := by { k_fill; exact ⟨rfl, rfl⟩ }
  obtain ⟨tc, hm2⟩ := hm2
  have F1 := fr_name (Str.ofString "row") (fr_name (Str.ofString "count") F hm2) hm1
  clear F
  have B' := below_caller g
  have hlen := hks.len
  dsimp only [lawBody, pickBody, List.drop, List.take, lawEnv, lawScope, pickScope]
  k_steps
  refine Stop.go ?_
  k_dflt (refine' possible_call (js := jsOf ts) ?k1 ?k2 ?k3 ?k4 ?k5 ?k6 ?k7 ?k8 ?k9 ?_; (case k1 => k_asm); (case k2 => k_asm); (case k3 => k_asm); (case k4 => k_asm); (case k5 => exact rfl); (case k6 => decide); (case k7 => ktr_units); (case k8 => exact hrow.at2 N (.head _) (fun p hp => .tail _ (.tail _ (.tail _ (.tail _ hp))))); (case k9 => rw [List.length_map]; omega))
  intro v S P sv pv nS nP nT h5 tk5 K5 fr5 nd5 hS hP
  have F5 := F1.keeps K5
  have N5 := news_fresh F1 N K5 fr5
  have nd6 := nd_fresh fr5 (fun p hp => (N p hp).1) nd5 nd
  simp only [List.cons_append, List.nil_append] at N5 nd6
  clear N F1
  (try dsimp only)
  k_steps
  rename Fr g L _ _ => F6
  rename News g L _ _ => N6
  refine Stop.go (storeC_idx F6 N6 6 nd6 rfl (by rfl) dS ?_ rfl rfl)
  intro h7 oS' F7 N7 dS'
  clear F6 N6
  dsimp only [List.set] at N7
  k_steps
  refine Stop.go (storeC_idx F7 N7 5 nd6 rfl (by rfl) dP ?_ rfl rfl)
  intro h8 oP' F8 N8 dP'
  clear F7 N7
  dsimp only [List.set] at N8
  replace N8 := news_tl N8
  have nd8 := (List.nodup_cons.mp nd6).2
  (try dsimp only)
  k_steps
  refine Stop.go (newList_K F8 N8 ?_ (by rw [sizeLine_eq]; exact Nat.zero_le _))
  intro K h9 F9 N9 l9
  have nd9 := nd_cons l9 nd8
  clear F8 N8
  k_steps
  rename Fr g L _ _ => F10
  rename News g L _ _ => N10
  refine Stop.go (storeC_idx F10 N10 4 nd9 rfl (by rfl) dB ?_ rfl rfl)
  intro h11 oB' F11 N11 dB'
  clear F10 N10
  dsimp only [List.set] at N11
  (try dsimp only)
  k_steps
  rename Fr g L _ _ => F12
  rename News g L _ _ => N12
  have hS' : SumsL (jsOf ts) (2 ^ c) sv := by
    have := hS
    rw [List.length_map, hlen] at this; exact this
  have hP' : PossL (jsOf ts) (2 ^ c) pv := by
    have := hP
    rw [List.length_map, hlen] at this; exact this
  exact ⟨_, _, _, K, S, P, sv, pv, nS, nP, oB', oP', oS', _, rfl, F12, N12, nd9, dB', dP', dS', hS', hP', by with_unfolding_all rfl, .mk (by with_unfolding_all rfl) rfl, by with_unfolding_all rfl, .mk (by with_unfolding_all rfl) rfl, .mk (by with_unfolding_all rfl) rfl⟩
end Mine
end
section
open PySem PySem.W PySem.Calls PyProof.Rows
namespace Mine
theorem perm_sum {a b : List Int} (h : a.Perm b) : a.sum = b.sum := by
  induction h with
  | nil => rfl
  | cons x _ ih => rw [List.sum_cons, List.sum_cons, ih]
  | swap x y l => simp only [List.sum_cons]; omega
  | trans _ _ h1 h2 => exact h1.trans h2
theorem tb_sub : ∀ (k : Nat) {m : Nat} (x : Nat), m.testBit k = true → (m - 2 ^ k).testBit x = (m.testBit x && decide (x ≠ k))
  | 0, m, x, h => by
    have h0 : m % 2 = 1 := by simpa [Nat.testBit_zero] using h
    cases x with
    | zero => simp [Nat.testBit_zero]; omega
    | succ x =>
      rw [Nat.testBit_succ, Nat.testBit_succ, show (m - 2 ^ 0) / 2 = m / 2 by omega]
      simp
  | k + 1, m, x, h => by
    rw [Nat.testBit_succ] at h
    have hle := Nat.ge_two_pow_of_testBit h
    have hp : 2 ^ (k + 1) = 2 * 2 ^ k := by rw [Nat.pow_succ]; omega
    cases x with
    | zero =>
      rw [Nat.testBit_zero, Nat.testBit_zero, show (m - 2 ^ (k + 1)) % 2 = m % 2 by rw [hp]; omega]
      simp
    | succ x =>
      rw [Nat.testBit_succ, Nat.testBit_succ, show (m - 2 ^ (k + 1)) / 2 = m / 2 - 2 ^ k by rw [hp]; omega, tb_sub k x h]
      congr 1
      simp
theorem filter_cons_perm {p q : Nat → Bool} {k : Nat} (hk : p k = true) (hq : ∀ x, q x = (p x && decide (x ≠ k))) : ∀ {l : List Nat}, k ∈ l → l.Nodup → (l.filter p).Perm (k :: l.filter q)
  | [], h, _ => nomatch h
  | y :: r, h, nd => by
    rw [List.nodup_cons] at nd
    by_cases e : y = k
    · subst e
      have hqk : q y = false := by rw [hq]; simp
      rw [List.filter_cons_of_pos hk, List.filter_cons_of_neg (by rw [hqk]; exact Bool.false_ne_true)]
      refine List.Perm.cons _ (List.Perm.of_eq (List.filter_congr fun x hx => ?_))
      have hx : x ≠ y := fun e => nd.1 (e ▸ hx)
      rw [hq, decide_eq_true hx, Bool.and_true]
    · have hr : k ∈ r := (List.mem_cons.mp h).resolve_left (Ne.symm e)
      have ih := filter_cons_perm hk hq hr nd.2
      have hqy : q y = p y := by rw [hq, decide_eq_true e, Bool.and_true]
      by_cases hy : p y = true
      · rw [List.filter_cons_of_pos hy, List.filter_cons_of_pos (by rw [hqy]; exact hy)]
        exact (List.Perm.cons _ ih).trans (List.Perm.swap _ _ _)
      · rw [List.filter_cons_of_neg hy, List.filter_cons_of_neg (by rw [hqy]; exact hy)]
        exact ih
theorem held_perm {n m k : Nat} (hk : k < n) (hb : m.testBit k = true) : (held n m).Perm (k :: held n (m - 2 ^ k)) :=
  filter_cons_perm hb (fun x => tb_sub k x hb) (List.mem_range.mpr hk) List.nodup_range
theorem held_len {n m k : Nat} (hk : k < n) (hb : m.testBit k = true) : (held n m).length = (held n (m - 2 ^ k)).length + 1 := by
  rw [(held_perm hk hb).length_eq]; rfl
theorem sumH_sub {js : List (Int × Int)} {m k : Nat} (hk : k < js.length) (hb : m.testBit k = true) : sumH js m = sizeAt js k + sumH js (m - 2 ^ k) := by
  unfold sumH
  rw [perm_sum ((held_perm hk hb).map (sizeAt js))]; rfl
theorem held_succ (n m : Nat) : held (n + 1) m = (if m % 2 = 1 then [0] else []) ++ (held n (m / 2)).map Nat.succ := by
  unfold held
  rw [List.range_succ_eq_map, List.filter_cons, List.filter_map]
  have e : ((fun k => m.testBit k) ∘ Nat.succ) = fun k => (m / 2).testBit k := by
    funext k; exact Nat.testBit_succ m k
  rw [e]
  by_cases h : m % 2 = 1
  · simp [Nat.testBit_zero, h]
  · simp [Nat.testBit_zero, h]
theorem popc_held : ∀ (n : Nat) {m : Nat}, m < 2 ^ n → popc m = (held n m).length
  | 0, m, h => by
    obtain rfl : m = 0 := by simpa using h
    rw [popc_zero]; rfl
  | n + 1, m, h => by
    have hp : 2 ^ (n + 1) = 2 * 2 ^ n := by rw [Nat.pow_succ]; omega
    rw [held_succ, List.length_append, List.length_map, ← popc_held n (m := m / 2) (by omega)]
    rcases Nat.eq_zero_or_pos m with e | e
    · subst e; rw [popc_zero]; rfl
    · rw [popc_step e]
      rcases Nat.mod_two_eq_zero_or_one m with q | q <;> simp [q]
theorem poss_sub {js : List (Int × Int)} (hp : ∀ i, i < js.length → 0 ≤ sizeAt js i) {T : Nat} (h : Poss js T) : ∀ {x : Nat}, x < js.length → T.testBit x = true → Poss js (T - 2 ^ x) := by
  induction h with
  | zero => intro x _ hb; rw [Nat.zero_testBit] at hb; cases hb
  | @step m k hk hb hP hs ih =>
    intro x hx hbx
    by_cases e : x = k
    · subst e; exact hP
    · have h1 : (m - 2 ^ k).testBit x = true := by rw [tb_sub k x hb, hbx, decide_eq_true e]; rfl
      have h2 : (m - 2 ^ x).testBit k = true := by rw [tb_sub x k hbx, hb, decide_eq_true (Ne.symm e)]; rfl
      refine .step hk h2 ?_ ?_
      · rw [Nat.sub_sub, Nat.add_comm, ← Nat.sub_sub]; exact ih hx h1
      · have := sumH_sub hx hbx
        have := hp x hx
        omega
theorem poss_le {js : List (Int × Int)} (hs : ∀ i j, i ≤ j → j < js.length → dueAt js i ≤ dueAt js j) {T k : Nat} (hk : k < js.length) (h : Poss js T) (h0 : T ≠ 0) (hT : T < 2 ^ (k + 1)) : sumH js T ≤ dueAt js k := by
  cases h with
  | zero => exact absurd rfl h0
  | @step _ x hx hb hP hle =>
    have : x ≤ k := by
      have h1 := Nat.ge_two_pow_of_testBit hb
      have h2 : 2 ^ x < 2 ^ (k + 1) := Nat.lt_of_le_of_lt h1 hT
      have := (Nat.pow_lt_pow_iff_right (by decide : 1 < 2)).mp h2
      omega
    exact Int.le_trans hle (hs x k this hk)
/-- the sorted list with p laid in -/
abbrev insAt (l : List Int) (r : Nat) (p : Int) : List Int := l.take r ++ p :: l.drop r
theorem ins_perm (l : List Int) (r : Nat) (p : Int) : (insAt l r p).Perm (p :: l) := by
  refine List.perm_middle.trans ?_
  rw [List.take_append_drop]
theorem ins_take {l : List Int} {r : Nat} {p : Int} (hr : r ≤ l.length) (j : Nat) : ((insAt l r p).take j).sum = if j ≤ r then (l.take j).sum else (l.take (j - 1)).sum + p := by
  have hl : (l.take r).length = r := by rw [List.length_take, Nat.min_eq_left hr]
  by_cases h : j ≤ r
  · rw [if_pos h, List.take_append_of_le_length (by rw [hl]; exact h), List.take_take, Nat.min_eq_left h]
  · rw [if_neg h]
    obtain ⟨q, rfl⟩ : ∃ q, j = r + 1 + q := ⟨j - (r + 1), by omega⟩
    rw [List.take_append, hl, List.take_of_length_le (by rw [hl]; omega), show r + 1 + q - r = q + 1 by omega, List.take_succ_cons, List.sum_append, List.sum_cons,
      show r + 1 + q - 1 = r + q by omega, List.take_add, List.sum_append]
    omega
theorem take_sum_succ {l : List Int} {j : Nat} {a : Int} (h : l[j]? = some a) : (l.take (j + 1)).sum = (l.take j).sum + a := by
  rw [List.take_add_one, h]; simp
theorem ins_small {l : List Int} {r : Nat} {p : Int} (hu : Ub l p r) {j : Nat} (hj : j ≤ l.length) : ((insAt l r p).take j).sum ≤ (l.take j).sum := by
  rw [ins_take hu.1]
  by_cases h : j ≤ r
  · rw [if_pos h]; exact Int.le_refl _
  · rw [if_neg h]
    obtain ⟨q, rfl⟩ : ∃ q, j = q + 1 := ⟨j - 1, by omega⟩
    have e : l[q]? = some l[q] := List.getElem?_eq_getElem (by omega)
    have := hu.2.2 q _ (by omega) e
    rw [take_sum_succ e, Nat.add_sub_cancel]; omega
theorem ins_small1 {l : List Int} {r : Nat} {p : Int} (hu : Ub l p r) {j : Nat} (hj : j ≤ l.length) : ((insAt l r p).take (j + 1)).sum ≤ (l.take j).sum + p := by
  rw [ins_take hu.1]
  by_cases h : j + 1 ≤ r
  · rw [if_pos h]
    have hr := hu.1
    have e : l[j]? = some l[j] := List.getElem?_eq_getElem (by omega)
    have := hu.2.1 j _ (by omega) e
    rw [take_sum_succ e]; omega
  · rw [if_neg h, Nat.add_sub_cancel]; exact Int.le_refl _
theorem ins_sorted {l : List Int} {r : Nat} {p : Int} (hs : l.Pairwise (· ≤ ·)) (hu : Ub l p r) : (insAt l r p).Pairwise (· ≤ ·) := by
  obtain ⟨h1, h2, h3⟩ := hu
  have key : (l.take r ++ l.drop r).Pairwise (· ≤ ·) := by rw [List.take_append_drop]; exact hs
  rw [List.pairwise_append] at key
  rw [List.pairwise_append, List.pairwise_cons]
  have tk : ∀ a ∈ l.take r, a ≤ p := fun a ha => by
    obtain ⟨j, hj⟩ := List.mem_iff_getElem?.mp ha
    have hjr : j < r := by
      have := (List.getElem?_eq_some_iff.mp hj).1
      rw [List.length_take] at this; omega
    rw [List.getElem?_take, if_pos hjr] at hj
    exact h2 j a hjr hj
  have dr : ∀ a ∈ l.drop r, p < a := fun a ha => by
    obtain ⟨j, hj⟩ := List.mem_iff_getElem?.mp ha
    rw [List.getElem?_drop] at hj
    exact h3 (r + j) a (by omega) hj
  refine ⟨key.1, ⟨fun a ha => Int.le_of_lt (dr a ha), key.2.1⟩, fun a ha b hb => ?_⟩
  rcases List.mem_cons.mp hb with rfl | hb
  · exact tk a ha
  · exact key.2.2 a ha b hb
structure Inv (js : List (Int × Int)) (k : Nat) (kz : List Int) : Prop where
  sorted : kz.Pairwise (· ≤ ·)
  ex : ∃ M, M < 2 ^ k ∧ Poss js M ∧ ((held js.length M).map (sizeAt js)).Perm kz
  all : ∀ T, T < 2 ^ k → Poss js T → (held js.length T).length ≤ kz.length ∧ (kz.take (held js.length T).length).sum ≤ sumH js T
theorem Inv.zero (js : List (Int × Int)) : Inv js 0 [] := by
  refine ⟨.nil, ⟨0, by decide, .zero, by rw [held_zero]; exact .nil⟩, fun T hT _ => ?_⟩
  obtain rfl : T = 0 := by simpa using hT
  rw [held_zero, sumH_zero]; exact ⟨Nat.le_refl _, Int.le_refl _⟩
section
variable {js : List (Int × Int)} {k r : Nat} {kz : List Int}
theorem tb_add {M : Nat} (hM : M < 2 ^ k) : (M + 2 ^ k).testBit k = true := by
  rw [Nat.add_comm, Nat.testBit_two_pow_add_eq, Nat.testBit_lt_two_pow hM]; rfl
theorem pow_two_succ (k : Nat) : 2 ^ (k + 1) = 2 ^ k + 2 ^ k := by rw [Nat.pow_succ]; omega
theorem lt_of_bit {T : Nat} (hT : T < 2 ^ (k + 1)) (hb : T.testBit k = true) : T - 2 ^ k < 2 ^ k := by
  have := pow_two_succ k
  have := Nat.ge_two_pow_of_testBit hb
  omega
theorem lt_of_nobit {T : Nat} (hT : T < 2 ^ (k + 1)) (hb : ¬ T.testBit k = true) : T < 2 ^ k := by
  rcases Nat.lt_or_ge T (2 ^ k) with h | h
  · exact h
  · refine absurd ?_ hb
    have h1 := pow_two_succ k
    have := tb_add (k := k) (M := T - 2 ^ k) (by omega)
    rw [Nat.sub_add_cancel h] at this
    exact this
/-- what is said of all possible sets, with the new one laid in -/
theorem Inv.all_ins (I : Inv js k kz) (hp : ∀ i, i < js.length → 0 ≤ sizeAt js i) (hk : k < js.length) (hu : Ub kz (sizeAt js k) r) : ∀ T, T < 2 ^ (k + 1) → Poss js T →
    (held js.length T).length ≤ kz.length + 1 ∧ ((insAt kz r (sizeAt js k)).take (held js.length T).length).sum ≤ sumH js T := by
  intro T hT P
  by_cases hb : T.testBit k = true
  · obtain ⟨h1, h2⟩ := I.all _ (lt_of_bit hT hb) (poss_sub hp P hk hb)
    rw [held_len hk hb, sumH_sub hk hb]
    refine ⟨by omega, ?_⟩
    have := ins_small1 hu h1
    omega
  · obtain ⟨h1, h2⟩ := I.all _ (lt_of_nobit hT hb) P
    exact ⟨by omega, Int.le_trans (ins_small hu h1) h2⟩
theorem ins_len (_ : r ≤ kz.length) (p : Int) : (insAt kz r p).length = kz.length + 1 := (ins_perm kz r p).length_eq
theorem ins_sum (r : Nat) (p : Int) : (insAt kz r p).sum = kz.sum + p := by
  rw [perm_sum (ins_perm kz r p), List.sum_cons]; omega
theorem Inv.keep (I : Inv js k kz) (hp : ∀ i, i < js.length → 0 ≤ sizeAt js i) (hk : k < js.length) (hu : Ub kz (sizeAt js k) r) (hle : kz.sum + sizeAt js k ≤ dueAt js k) : Inv js (k + 1) (insAt kz r (sizeAt js k)) := by
  refine ⟨ins_sorted I.sorted hu, ?_, fun T hT P => by rw [ins_len hu.1]; exact I.all_ins hp hk hu T hT P⟩
  obtain ⟨M, hM, P, hperm⟩ := I.ex
  have hb := tb_add hM
  have hsub : M + 2 ^ k - 2 ^ k = M := Nat.add_sub_cancel ..
  refine ⟨M + 2 ^ k, by rw [pow_two_succ]; omega, .step hk hb (by rw [hsub]; exact P) ?_, ?_⟩
  · rw [sumH_sub hk hb, hsub]
    have : sumH js M = kz.sum := perm_sum hperm
    omega
  · refine ((held_perm hk hb).map _).trans ?_
    rw [hsub, List.map_cons]
    exact (List.Perm.cons _ hperm).trans (ins_perm ..).symm
theorem getLastD_snoc (l : List Int) (a : Int) : (l ++ [a]).getLastD 0 = a := by simp
theorem Inv.drop (I : Inv js k kz) (hs : ∀ i j, i ≤ j → j < js.length → dueAt js i ≤ dueAt js j) (hp : ∀ i, i < js.length → 0 ≤ sizeAt js i) (hk : k < js.length) (hu : Ub kz (sizeAt js k) r) (hgt : ¬ kz.sum + sizeAt js k ≤ dueAt js k) :
    Inv js (k + 1) (insAt kz r (sizeAt js k)).dropLast ∧ (insAt kz r (sizeAt js k)).dropLast.sum = kz.sum + sizeAt js k - (insAt kz r (sizeAt js k)).getLastD 0 := by
  have hlen := ins_len hu.1 (sizeAt js k)
  have hsum := ins_sum (kz := kz) r (sizeAt js k)
  have hso := ins_sorted I.sorted hu
  have hall := I.all_ins hp hk hu
  have hperm := ins_perm kz r (sizeAt js k)
  obtain ⟨pre, y, e⟩ : ∃ pre y, insAt kz r (sizeAt js k) = pre ++ [y] := by
    rcases List.eq_nil_or_concat (insAt kz r (sizeAt js k)) with h | ⟨a, b, h⟩
    · rw [h] at hlen; cases hlen
    · exact ⟨a, b, by rw [h, List.concat_eq_append]⟩
  have hy : (kz.length ≤ r ∧ y = sizeAt js k) ∨ (r < kz.length ∧ y ∈ kz ∧ sizeAt js k < y) := by
    rcases Nat.lt_or_ge r kz.length with h | h
    · refine .inr ⟨h, ?_⟩
      have e1 : (insAt kz r (sizeAt js k)).getLast? = some y := by rw [e]; simp
      have hd : kz.drop r ≠ [] := by
        intro q
        have := congrArg List.length q
        rw [List.length_drop] at this
        have : kz.length - r = 0 := this
        omega
      have e2 : (kz.drop r).getLast? = some y := by
        rw [← e1]
        show _ = (kz.take r ++ sizeAt js k :: kz.drop r).getLast?
        rw [List.getLast?_append, List.getLast?_cons]
        cases hq : (kz.drop r).getLast? with
        | none => exact absurd (List.getLast?_eq_none_iff.mp hq) hd
        | some z => simp
      have hm := List.mem_of_getLast? e2
      refine ⟨List.mem_of_mem_drop hm, ?_⟩
      obtain ⟨j, hj⟩ := List.mem_iff_getElem?.mp hm
      rw [List.getElem?_drop] at hj
      exact hu.2.2 (r + j) y (by omega) hj
    · refine .inl ⟨h, ?_⟩
      have e1 : (insAt kz r (sizeAt js k)).getLast? = some y := by rw [e]; simp
      have : kz.drop r = [] := List.drop_eq_nil_of_le h
      have e2 : insAt kz r (sizeAt js k) = kz.take r ++ [sizeAt js k] := by show kz.take r ++ sizeAt js k :: kz.drop r = _; rw [this]
      rw [e2] at e1
      simpa using e1.symm
  generalize insAt kz r (sizeAt js k) = ins at *
  subst e
  rw [List.dropLast_concat, getLastD_snoc]
  have hpl : pre.length = kz.length := by rw [List.length_append] at hlen; simpa using hlen
  have hps : pre.sum + y = kz.sum + sizeAt js k := by rw [List.sum_append] at hsum; simpa using hsum
  refine ⟨⟨(List.pairwise_append.mp hso).1, ?_, fun T hT P => ?_⟩, by omega⟩
  · obtain ⟨M, hM, P, hMk⟩ := I.ex
    have hyp : (y :: pre).Perm (sizeAt js k :: kz) := (List.perm_append_singleton y pre).symm.trans hperm
    rcases hy with ⟨_, rfl⟩ | ⟨_, hy1, hy2⟩
    · refine ⟨M, by rw [pow_two_succ]; omega, P, hMk.trans ?_⟩
      exact (List.Perm.cons_inv hyp).symm
    · obtain ⟨x, hx, rfl⟩ := List.mem_map.mp (hMk.mem_iff.mpr hy1)
      obtain ⟨hx1, hx2⟩ := List.mem_filter.mp hx
      have hx1 := List.mem_range.mp hx1
      have hMx := Nat.ge_two_pow_of_testBit hx2
      have h2x := Nat.one_le_two_pow (n := x)
      have hb := tb_add (k := k) (M := M - 2 ^ x) (by omega)
      have hsub : M - 2 ^ x + 2 ^ k - 2 ^ k = M - 2 ^ x := Nat.add_sub_cancel ..
      have hSM : sumH js M = kz.sum := perm_sum hMk
      have hM0 : M ≠ 0 := by have := Nat.one_le_two_pow (n := x); omega
      have hle : sumH js M ≤ dueAt js k := poss_le hs hk P hM0 (by rw [pow_two_succ]; omega)
      have hSx := sumH_sub hx1 hx2
      refine ⟨M - 2 ^ x + 2 ^ k, by rw [pow_two_succ]; omega, .step hk hb (by rw [hsub]; exact poss_sub hp P hx1 hx2) ?_, ?_⟩
      · rw [sumH_sub hk hb, hsub]; omega
      · refine ((held_perm hk hb).map _).trans ?_
        rw [hsub, List.map_cons]
        have h1 : (sizeAt js x :: (held js.length (M - 2 ^ x)).map (sizeAt js)).Perm kz := ((held_perm hx1 hx2).map (sizeAt js)).symm.trans hMk
        have h2 : (sizeAt js x :: pre).Perm (sizeAt js x :: sizeAt js k :: (held js.length (M - 2 ^ x)).map (sizeAt js)) :=
          hyp.trans ((List.Perm.cons _ h1.symm).trans (List.Perm.swap _ _ _))
        exact (List.Perm.cons_inv h2).symm
  · obtain ⟨h1, h2⟩ := hall T hT P
    have h3 : (held js.length T).length ≤ pre.length := by
      rcases Nat.lt_or_ge (held js.length T).length (kz.length + 1) with h | h
      · omega
      · exfalso
        have h4 : (held js.length T).length = kz.length + 1 := by omega
        rw [List.take_of_length_le (by rw [hlen]; exact h), hsum] at h2
        have hT0 : T ≠ 0 := by
          rintro rfl
          rw [held_zero] at h4; cases h4
        have := poss_le hs hk P hT0 hT
        omega
    refine ⟨h3, ?_⟩
    rw [List.take_append_of_le_length h3] at h2
    exact h2
theorem Inv.best (I : Inv js k kz) (hk : k ≤ js.length) {b : Nat} (h1 : ∃ M, M < 2 ^ k ∧ Poss js M ∧ popc M = b) (h2 : ∀ M, M < 2 ^ k → Poss js M → popc M ≤ b) : b = kz.length := by
  have hpw : 2 ^ k ≤ 2 ^ js.length := Nat.pow_le_pow_right (by decide) hk
  obtain ⟨M, hM, P, e⟩ := h1
  obtain ⟨N, hN, Q, f⟩ := I.ex
  have a := (I.all M hM P).1
  rw [← popc_held js.length (by omega)] at a
  have c := h2 N hN Q
  have f' := f.length_eq
  rw [List.length_map, ← popc_held js.length (by omega)] at f'
  omega
theorem Inv.least (I : Inv js k kz) (hk : k ≤ js.length) {l : Int} (h1 : ∃ M, M < 2 ^ k ∧ Poss js M ∧ popc M = kz.length ∧ sumH js M = l) (h2 : ∀ M, M < 2 ^ k → Poss js M → popc M = kz.length → l ≤ sumH js M) : l = kz.sum := by
  have hpw : 2 ^ k ≤ 2 ^ js.length := Nat.pow_le_pow_right (by decide) hk
  obtain ⟨M, hM, P, e, rfl⟩ := h1
  obtain ⟨N, hN, Q, f⟩ := I.ex
  have a := (I.all M hM P).2
  rw [← popc_held js.length (by omega), e, List.take_length] at a
  have f' := f.length_eq
  rw [List.length_map, ← popc_held js.length (by omega)] at f'
  have c := h2 N hN Q f'
  have : sumH js N = kz.sum := perm_sum f
  omega
end
end Mine
end
section
open PySem PySem.W PySem.Calls PyProof.Rows
set_option Elab.async false
set_option maxRecDepth 100000
set_option linter.unusedVariables false
namespace Mine
theorem ints_ins {ks : List Value} {kz : List Int} (h : IntsAre ks kz) (p : Int) (t : Tok) : ∀ r, IntsAre (ks.take r ++ Value.int p t :: ks.drop r) (kz.take r ++ p :: kz.drop r) := by
  induction h with
  | nil => intro r; cases r <;> exact .cons p t .nil
  | cons n u h ih =>
    intro r
    cases r with
    | zero => exact .cons p t (.cons n u h)
    | succ r => exact .cons n u (ih r)
def forBody : List Stmt → List Stmt
  | .For _ _ b _ _ :: _ => b
  | _ => []
noncomputable abbrev lawLoop : List Stmt := forBody (lawBody.drop 16)
theorem dueAt_js {ts : List It} {k : Nat} {d p x : Int} (h : ts[k]? = some (d, p, x)) : dueAt (jsOf ts) k = d ∧ sizeAt (jsOf ts) k = p := by
  unfold dueAt sizeAt jsOf
  rw [List.getD_eq_getElem?_getD, List.getElem?_map, h]
  exact ⟨rfl, rfl⟩
theorem js_sorted {ts : List It} (h : Stable ts) : ∀ i j, i ≤ j → j < (jsOf ts).length → dueAt (jsOf ts) i ≤ dueAt (jsOf ts) j := by
  intro i j hij hj
  rw [List.length_map] at hj
  have e1 : ts[i]? = some ts[i] := List.getElem?_eq_getElem (by omega)
  have e2 : ts[j]? = some ts[j] := List.getElem?_eq_getElem hj
  rw [(dueAt_js (d := ts[i].1) (p := ts[i].2.1) (x := ts[i].2.2) e1).1, (dueAt_js (d := ts[j].1) (p := ts[j].2.1) (x := ts[j].2.2) e2).1]
  refine sorted_get h.sorted hij (by rw [List.getElem?_map, e1]; rfl) (by rw [List.getElem?_map, e2]; rfl)
theorem js_pos {ts : List It} (h : ∀ t ∈ ts, 1 ≤ t.2.1) : ∀ i, i < (jsOf ts).length → 0 ≤ sizeAt (jsOf ts) i := by
  intro i hi
  rw [List.length_map] at hi
  have e1 : ts[i]? = some ts[i] := List.getElem?_eq_getElem hi
  rw [(dueAt_js (d := ts[i].1) (p := ts[i].2.1) (x := ts[i].2.2) e1).2]
  have := h _ (List.getElem_mem hi)
  omega
end Mine
end
section
open PySem PySem.W PySem.Calls PyProof.Rows
set_option Elab.async false
set_option maxRecDepth 100000
set_option maxHeartbeats 8000000
set_option pp.deepTerms false
set_option pp.deepTerms.threshold 7
set_option linter.unusedVariables false
namespace Mine
local macro_rules | `(tactic| walk_at "call ref") => `(tactic| refine Stop.mk ?_)
local macro_rules | `(tactic| walk_at "call builtin:list.insert") => `(tactic| refine Stop.mk ?_)
local macro_rules | `(tactic| walk_at "call builtin:list.pop") => `(tactic| refine Stop.mk ?_)
local macro_rules | `(tactic| walk_at "subscriptTail Name Name ref int") => `(tactic| refine Stop.mk ?_)
local macro_rules | `(tactic| walk_at "subscriptTail Subscript Constant ref int") => `(tactic| refine Stop.mk ?_)
local macro_rules | `(tactic| k_steps) => `(tactic| repeat' (first | (k_unfold; (try dsimp only)) | walk1 | (dsimp only; walk1) | (leave1; walk_say "STEP leave1"; try dsimp only) | fail "no step"))
/-- behind the loop's first half -/
def PF (g : Heap) (L : Addr) (s : Shared) (K R : Addr) (ts : List It) (c i : Nat) (tv : Tok) (first last : List (Addr × Obj)) (s' : Shared) : Prop :=
  ∃ (h : Heap) (tk : Nat) (m : Str → Option Value) (ks : List Value) (nK : Nat) (kz : List Int), s' = { s with heap := h, toks := tk } ∧ Fr g L h m ∧
    News g L h (first ++ (K, W.listOf ks.toArray nK) :: last) ∧ IntsAre ks kz ∧ kz.length ≤ i + 1 ∧ Inv (jsOf ts) (i + 1) kz ∧
    m (Str.ofString "k") = some (.int (i : Int) tv) ∧ m (Str.ofString "row") = some (.ref R) ∧ NI m (Str.ofString "count") c ∧ m (Str.ofString "kept") = some (.ref K) ∧ NI m (Str.ofString "so_far") kz.sum
theorem segF1 {prog : Program} {w : World} {p : Program} {loose : List Str} {mean : ExcName → Option Value} {mg mb : Str → Option Value} {s : Shared} {E : Value → Shared → Prop} {g : Heap} {L R K I : Addr} {oI : Obj} {rs : List Value} {nR : Nat} {items : List (Addr × Obj)} {ts : List It} {m : Str → Option Value} {c i : Nat} {tv : Tok}
    {ks : List Value} {nK : Nat} {kz : List Int} {mid : List (Addr × Obj)}
    (X : (Mine.hd.heap_39 w.params).In g) (T : Top p loose mean mg mb g) (hc1 : 2 ≤ c) (hc2 : c ≤ 7) (hi : i < c) (hrow : RowOf items rs ts) (hst : Stable ts) (hks : KsOf ts c) (hps : ∀ t ∈ ts, 1 ≤ t.2.1)
    (F : Fr g L s.heap m) (m1 : m (Str.ofString "k") = some (.int (i : Int) tv)) (m2 : m (Str.ofString "row") = some (.ref R)) (m3 : NI m (Str.ofString "count") c) (m4 : m (Str.ofString "kept") = some (.ref K)) (m5 : NI m (Str.ofString "so_far") kz.sum)
    (N : News g L s.heap ((I, oI) :: (K, W.listOf ks.toArray nK) :: (R, W.listOf rs.toArray nR) :: mid)) (hin : ∀ p ∈ items, p ∈ mid) (nd : (I :: K :: R :: mid.map (·.1)).Nodup)
    (hI : IntsAre ks kz) (hkl : kz.length ≤ i) (hInv : Inv (jsOf ts) i kz)
    (hE : PassesOwn (model prog w) (callerA.deeper (lawEnv L)) (lawEnv L) E) :
    wpAny (model prog w) (callerA.deeper (lawEnv L)) (execs (lawLoop.take 3) (lawEnv L)) (fun f s' => f = .next ∧ PF g L s K R ts c i tv [(I, oI)] ((R, W.listOf rs.toArray nR) :: mid) s') E s := by
  have _ : PySem.Challenge.rw_ec5001_01 = PySem.Challenge.rw_ec5001_01 ∧ Mine.hd.heap_39 = Mine.hd.heap_39 := by { k_fill; exact ⟨rfl, rfl⟩ }
  obtain ⟨tc, m3⟩ := m3
  obtain ⟨tf, m5⟩ := m5
  have F1 := fr_name (Str.ofString "k") (fr_name (Str.ofString "row") (fr_name (Str.ofString "count") (fr_name (Str.ofString "kept") (fr_name (Str.ofString "so_far") F m5) m4) m3) m2) m1
  clear F
  have B' := below_caller g
  have hlen := hks.len
  have hi7 : i < 127 := by omega
  obtain ⟨d0, p0, k0, e0⟩ : ∃ d p k, ts[i]? = some (d, p, k) := ⟨_, _, _, List.getElem?_eq_getElem (by omega)⟩
  obtain ⟨b0, t0, u0, v0, x0, y0⟩ := hrow.2 _ _ _ _ e0
  obtain ⟨ed, ep⟩ := dueAt_js e0
  have hjl : i < (jsOf ts).length := by rw [List.length_map]; omega
  have hjs := js_sorted hst
  have hjp := js_pos hps
  dsimp only [lawLoop, forBody, lawBody, pickBody, List.drop, List.take, lawEnv, lawScope, pickScope]
  k_steps
  rename Fr g L _ _ => F2
  rename News g L _ _ => N2
  refine Stop.go (my_item (vs := rs) ⟨_, N2.get (by k_mem), rfl, _, rfl⟩ (nat_nonneg _) (small_nat hi7) (by rw [Int.toNat_natCast]; exact x0) ?_ (by with_unfolding_all rfl))
  k_steps
  (try dsimp only)
  refine Stop.go (my_item (vs := [Value.int d0 t0, Value.int p0 u0, Value.int k0 v0]) ⟨_, N2.get (.tail _ (.tail _ (.tail _ (hin _ y0)))), rfl, _, rfl⟩ (by decide) (by decide) rfl ?_ (by with_unfolding_all rfl))
  k_steps
  (try dsimp only)
  refine Stop.go ?_
  k_dflt (refine' bis_call (rs := ks) (ds := kz) ?k1 ?k2 ?k3 ?k4 ?k5 ?k6 ?k7 ?k8 ?k9 ?k10 ?k11 ?_; (case k1 => k_asm); (case k2 => k_asm); (case k3 => k_asm); (case k4 => k_asm); (case k5 => exact rfl); (case k6 => decide); (case k7 => ktr_units); (case k8 => exact ⟨_, N2.get (by k_mem), rfl, _, rfl⟩); (case k9 => exact hI); (case k10 => exact hInv.sorted); (case k11 => omega))
  intro r tr h5 tk5 hub K5
  have F5 := F2.keeps K5
  have N5 := N2.grown K5
  clear F2 N2
  (try dsimp only)
  k_steps
  refine Stop.go (my_item (vs := rs) ⟨_, N5.get (by k_mem), rfl, _, rfl⟩ (nat_nonneg _) (small_nat hi7) (by rw [Int.toNat_natCast]; exact x0) ?_ (by with_unfolding_all rfl))
  k_steps
  (try dsimp only)
  refine Stop.go (my_item (vs := [Value.int d0 t0, Value.int p0 u0, Value.int k0 v0]) ⟨_, N5.get (.tail _ (.tail _ (.tail _ (hin _ y0)))), rfl, _, rfl⟩ (by decide) (by decide) rfl ?_ (by with_unfolding_all rfl))
  k_steps
  (try dsimp only)
  have hkk := hI.length
  have hrl : r ≤ ks.length := by have := hub.1; omega
  refine Stop.go (insert_idx F5 N5 1 nd rfl hrl (by omega) ?_)
  intro h7 F7 N7
  clear F5 N5
  dsimp only [List.set] at N7
  have hI7 := ints_ins hI p0 u0 r
  (try dsimp only)
  k_steps
  refine Stop.go (my_item (vs := rs) ⟨_, N7.get (by k_mem), rfl, _, rfl⟩ (nat_nonneg _) (small_nat hi7) (by rw [Int.toNat_natCast]; exact x0) ?_ (by with_unfolding_all rfl))
  k_steps
  (try dsimp only)
  refine Stop.go (my_item (vs := [Value.int d0 t0, Value.int p0 u0, Value.int k0 v0]) ⟨_, N7.get (.tail _ (.tail _ (.tail _ (hin _ y0)))), rfl, _, rfl⟩ (by decide) (by decide) rfl ?_ (by with_unfolding_all rfl))
  k_steps
  (try dsimp only)
  rename Fr g L _ _ => F8
  rename News g L _ _ => N8
  refine Stop.go (my_item (vs := rs) ⟨_, N8.get (by k_mem), rfl, _, rfl⟩ (nat_nonneg _) (small_nat hi7) (by rw [Int.toNat_natCast]; exact x0) ?_ (by with_unfolding_all rfl))
  k_steps
  (try dsimp only)
  refine Stop.go (my_item (vs := [Value.int d0 t0, Value.int p0 u0, Value.int k0 v0]) ⟨_, N8.get (.tail _ (.tail _ (.tail _ (hin _ y0)))), rfl, _, rfl⟩ (by decide) (by decide) rfl ?_ (by with_unfolding_all rfl))
  k_steps
  · have hl7 := hI7.length
    have hn7 : (kz.take r ++ p0 :: kz.drop r).length = kz.length + 1 := ins_len (by omega) p0
    refine Stop.go (kpa_pop (us := ks.take r ++ Value.int p0 u0 :: ks.drop r) (n := nK + 1) F8 N8 (upd_idx 1 nd rfl) hI7 (by omega) (by rw [sizeLine_eq]; omega) ?_)
    intro h9 t9 F9 N9 hI9
    clear F8 N8
    dsimp only [List.set] at N9
    (try dsimp only)
    k_steps
    rename Fr g L _ _ => F10
    rename News g L _ _ => N10
    rename d0 < _ => hgt
    subst ed ep
    obtain ⟨J, hs⟩ := hInv.drop hjs hjp hjl hub (Int.not_le.mpr hgt)
    exact ⟨_, _, _, _, _, _, rfl, F10, N10, hI9, by rw [List.length_dropLast]; omega, J, by with_unfolding_all rfl, by with_unfolding_all rfl, .mk (by with_unfolding_all rfl) rfl, by with_unfolding_all rfl, .mk (by with_unfolding_all rfl) hs.symm⟩
  · rename ¬ d0 < _ => hgt
    have hn7 : (kz.take r ++ p0 :: kz.drop r).length = kz.length + 1 := ins_len (by omega) p0
    subst ed ep
    exact ⟨_, _, _, _, _, _, rfl, F8, N8, hI7, by omega, hInv.keep hjp hjl hub (Int.not_lt.mp hgt), by with_unfolding_all rfl, by with_unfolding_all rfl, .mk (by with_unfolding_all rfl) rfl, by with_unfolding_all rfl, .mk (by with_unfolding_all rfl) (ins_sum ..).symm⟩
end Mine
end
section
open PySem PySem.W PySem.Calls PyProof.Rows
set_option Elab.async false
set_option maxRecDepth 100000
set_option maxHeartbeats 8000000
set_option pp.deepTerms false
set_option pp.deepTerms.threshold 7
set_option linter.unusedVariables false
namespace Mine
local macro_rules | `(tactic| walk_at "call ref") => `(tactic| refine Stop.mk ?_)
local macro_rules | `(tactic| walk_at "exec Assign cons ListComp") => `(tactic| refine Stop.mk ?_)
local macro_rules | `(tactic| walk_at "eval ListComp") => `(tactic| refine Stop.mk ?_)
local macro_rules | `(tactic| walk_at "CompSrc") => `(tactic| refine Stop.mk ?_)
local macro_rules | `(tactic| walk_at "CompSrcT") => `(tactic| refine Stop.mk ?_)
local macro_rules | `(tactic| walk_at "call builtin:max") => `(tactic| refine Stop.mk ?_)
local macro_rules | `(tactic| walk_at "call builtin:min") => `(tactic| refine Stop.mk ?_)
local macro_rules | `(tactic| walk_at "call builtin:len") => `(tactic| refine Stop.mk ?_)
local macro_rules | `(tactic| walk_at "storeName") => `(tactic| (k_dflt (refine stop_cell (by rfl) ?_)))
local macro_rules | `(tactic| walk_at "subscriptTail Name Name ref int") => `(tactic| refine Stop.mk ?_)
local macro_rules | `(tactic| walk_at "subscriptTail Subscript Constant ref int") => `(tactic| refine Stop.mk ?_)
local macro_rules | `(tactic| k_steps) => `(tactic| repeat' (first | (k_unfold; (try dsimp only)) | walk1 | (dsimp only; walk1) | (leave1; walk_say "STEP leave1"; try dsimp only) | fail "no step"))
theorem off1_nd {D : Addr} : ∀ {l : List (Addr × Obj)}, LCg.Off1 D l → ∀ p ∈ l, p.1 ≠ D
  | [], _ => fun _ h => nomatch h
  | p :: r, h => fun q hq => by
    rcases List.mem_cons.mp hq with rfl | hq
    · exact h.1
    · exact off1_nd h.2 q hq
theorem off_nd {D : Addr} {l : List (Addr × Obj)} {as : List Nat} (h : LCg.Off1 D l) (nd : as.Nodup) (e : l.map (·.1) = as := by rfl) : (D :: as).Nodup := nd_cons' (off1_nd h) nd e
def MaskSpec (js : List (Int × Int)) (j : Nat) (ms : List Nat) : Prop := ms.length ≤ j ∧ ∀ x, x ∈ ms ↔ x < j ∧ Poss js x
theorem MaskSpec.no {js : List (Int × Int)} {j : Nat} {ms : List Nat} (h : MaskSpec js j ms) (hn : ¬ Poss js j) : MaskSpec js (j + 1) ms := by
  refine ⟨Nat.le_succ_of_le h.1, fun x => (h.2 x).trans ⟨fun q => ⟨Nat.lt_succ_of_lt q.1, q.2⟩, fun q => ⟨?_, q.2⟩⟩⟩
  rcases Nat.lt_or_eq_of_le (Nat.le_of_lt_succ q.1) with e | e
  · exact e
  · subst e; exact absurd q.2 hn
theorem MaskSpec.yes {js : List (Int × Int)} {j : Nat} {ms : List Nat} (h : MaskSpec js j ms) (hn : Poss js j) : MaskSpec js (j + 1) (ms ++ [j]) := by
  refine ⟨by rw [List.length_append]; exact Nat.succ_le_succ h.1, fun x => ?_⟩
  rw [List.mem_append, h.2 x, List.mem_singleton]
  constructor
  · rintro (q | rfl)
    · exact ⟨Nat.lt_succ_of_lt q.1, q.2⟩
    · exact ⟨Nat.lt_succ_self _, hn⟩
  · rintro ⟨q, r⟩
    rcases Nat.lt_or_eq_of_le (Nat.le_of_lt_succ q) with e | e
    · exact .inl ⟨e, r⟩
    · exact .inr e
theorem MaskSpec.zero (js : List (Int × Int)) : MaskSpec js 0 [] := ⟨Nat.le_refl _, fun x => ⟨fun q => (nomatch q), fun q => absurd q.1 (Nat.not_lt_zero _)⟩⟩
/-- behind a turn of the loop -/
def PG (g : Heap) (L : Addr) (s : Shared) (K R : Addr) (kz : List Int) (c : Nat) (first last : List (Addr × Obj)) (s' : Shared) : Prop :=
  ∃ (h : Heap) (tk : Nat) (m : Str → Option Value) (oB : Obj) (tb : Tok), s' = { s with heap := h, toks := tk } ∧ Fr g L h m ∧
    News g L h (first ++ (L + 1 + 1 + 1 + 1 + 1, oB) :: last) ∧ oB.data = .cell (some (.int kz.length tb)) ∧
    m (Str.ofString "row") = some (.ref R) ∧ NI m (Str.ofString "count") c ∧ m (Str.ofString "kept") = some (.ref K) ∧ NI m (Str.ofString "so_far") kz.sum ∧ NI m (Str.ofString "least") kz.sum
theorem segF2 {prog : Program} {w : World} {p : Program} {loose : List Str} {mean : ExcName → Option Value} {mg mb : Str → Option Value} {s : Shared} {E : Value → Shared → Prop} {g : Heap} {L R K I S P : Addr} {oI oB oP oS : Obj} {vB : Option Value} {rs sv pv : List Value} {nR nS nP : Nat} {items : List (Addr × Obj)} {ts : List It} {m : Str → Option Value} {c i : Nat} {tv : Tok}
    {ks : List Value} {nK : Nat} {kz : List Int}
    (X : (Mine.hd.heap_39 w.params).In g) (T : Top p loose mean mg mb g) (hc1 : 2 ≤ c) (hc2 : c ≤ 7) (hi : i < c) (hks : KsOf ts c)
    (F : Fr g L s.heap m) (m1 : m (Str.ofString "k") = some (.int (i : Int) tv)) (m2 : m (Str.ofString "row") = some (.ref R)) (m3 : NI m (Str.ofString "count") c) (m4 : m (Str.ofString "kept") = some (.ref K)) (m5 : NI m (Str.ofString "so_far") kz.sum)
    (N : News g L s.heap ((I, oI) :: (K, W.listOf ks.toArray nK) :: (R, W.listOf rs.toArray nR) :: (S, W.listOf sv.toArray nS) :: (P, W.listOf pv.toArray nP) :: (L + 1 + 1 + 1 + 1 + 1, oB) :: (L + 1 + 1 + 1 + 1, oP) :: (L + 1 + 1 + 1, oS) :: items))
    (nd : (I :: K :: R :: S :: P :: (L + 1 + 1 + 1 + 1 + 1) :: (L + 1 + 1 + 1 + 1) :: (L + 1 + 1 + 1) :: items.map (·.1)).Nodup)
    (dB : oB.data = .cell vB) (dP : oP.data = .cell (some (.ref P))) (dS : oS.data = .cell (some (.ref S)))
    (hS : SumsL (jsOf ts) (2 ^ c) sv) (hP : PossL (jsOf ts) (2 ^ c) pv)
    (hI : IntsAre ks kz) (hkl : kz.length ≤ i + 1) (hInv : Inv (jsOf ts) (i + 1) kz)
    (hE : PassesOwn (model prog w) (callerA.deeper (lawEnv L)) (lawEnv L) E) :
    wpAny (model prog w) (callerA.deeper (lawEnv L)) (execs (lawLoop.drop 3) (lawEnv L)) (fun f s' => f = .next ∧ PG g L s K R kz c [(I, oI), (K, W.listOf ks.toArray nK), (R, W.listOf rs.toArray nR), (S, W.listOf sv.toArray nS), (P, W.listOf pv.toArray nP)] ((L + 1 + 1 + 1 + 1, oP) :: (L + 1 + 1 + 1, oS) :: items) s') E s := by
  have _ : PySem.Challenge.rw_ec5001_01 = PySem.Challenge.rw_ec5001_01 ∧ Mine.hd.heap_39 = Mine.hd.heap_39 := by { k_fill; exact ⟨rfl, rfl⟩ }
  obtain ⟨tc, m3⟩ := m3
  obtain ⟨tf, m5⟩ := m5
  have F1 := fr_name (Str.ofString "k") (fr_name (Str.ofString "row") (fr_name (Str.ofString "count") (fr_name (Str.ofString "kept") (fr_name (Str.ofString "so_far") F m5) m4) m3) m2) m1
  clear F
  have B' := below_caller g
  have hlen := hks.len
  have hjl : i < (jsOf ts).length := by rw [List.length_map]; omega
  dsimp only [lawLoop, forBody, lawBody, pickBody, List.drop, List.take, lawEnv, lawScope, pickScope]
  k_steps
  refine Stop.go ?_
  k_dflt (refine LCt.Assign_ListComp_T (F₀ := by k_asm) (by rfl) (by with_unfolding_all rfl) (by with_unfolding_all rfl) (by decide) (by rfl) (by decide) (by rfl) (by rfl) (by rfl) ?_ ?_; rotate_left; (intro _; rfl))
  k_steps
  rename IsRange _ _ _ _ _ _ _ _ => hR
  rename Fr g L _ _ => F3
  rename News g L _ _ => N3
  have h2n : (2 : Int) ^ ((i : Int) + 1).toNat = ((2 ^ (i + 1) : Nat) : Int) := by
    rw [show ((i : Int) + 1).toNat = i + 1 by omega]; simp
  rw [h2n] at hR
  have hb7 : 2 ^ (i + 1) ≤ 2 ^ 7 := Nat.pow_le_pow_right (by decide) (by omega)
  have hbc : 2 ^ (i + 1) ≤ 2 ^ c := Nat.pow_le_pow_right (by decide) (by omega)
  have hb1 : 1 ≤ 2 ^ (i + 1) := Nat.one_le_two_pow
  have hb127 : 2 ^ (i + 1) < 129 := by omega
  refine Stop.go (LCt.CompSrcT.range (n := 2 ^ (i + 1)) (by rfl) F3 N3 hR (small_one (by omega) (by omega) (by omega) (by omega)) (by rw [rangeSize_one]; split <;> omega) (by rw [sizeLine_eq]; omega) (fun gg => ?_))
  refine rest_T _ (fun j zs => ∃ ms : List Nat, IntsAre zs (ms.map fun (k : Nat) => (k : Int)) ∧ MaskSpec (jsOf ts) j ms) trivial ?_ ?_ _ 0 [] (by rfl) ⟨[], .nil, .zero _⟩
  · rintro j zs v I' oI' C oC D m₂ h tk E' hj ⟨ms, hzs, hms⟩ ⟨tk9, rfl⟩ hC hx F' N' off' ne'
    clear F3 N3 hR
    rw [show (0 : Int) + (j : Int) = (j : Int) from Int.zero_add _] at hx
    have hj8 : j < 128 := by omega
    obtain ⟨bb, hbb, hbp⟩ := hP.2 j (by omega)
    k_steps
    refine Stop.go (my_item (vs := pv) ⟨_, N'.get (by k_mem), rfl, _, rfl⟩ (nat_nonneg _) (by omega) (by rw [Int.toNat_natCast]; exact hbb) ?_ (by with_unfolding_all rfl))
    cases bb
    · k_steps
      exact El.mk F' N' (fun _ hp => hp) ⟨ms, hzs, hms.no fun q => Bool.false_ne_true (hbp.mpr q)⟩
    · k_steps
      refine El.mk F' N' (fun _ hp => hp) ⟨ms ++ [j], ?_, hms.yes (hbp.mp rfl)⟩
      rw [List.map_append]
      exact ints_snoc hzs _ _
  · rintro ys ⟨ms, hys, hms⟩
    clear F3 N3 hR
    rw [Nat.zero_add] at hms
    have hyl := hys.length
    rw [List.length_map] at hyl
    have hml := hms.1
    have h0m : 0 ∈ ms := (hms.2 0).mpr ⟨hb1, .zero⟩
    have hmne : 0 < ms.length := List.length_pos_of_mem h0m
    unfold LCg.FinA
    intro Ma h4 tk4 F4 N4 off4
    have nd4 := off_nd off4 nd
    (try dsimp only)
    k_steps
    refine Stop.go ?_
    k_dflt (refine LCg.ListComp_U (F₀ := by k_asm) (by with_unfolding_all rfl) (by decide) (by rfl) (by decide) (by rfl) ?_ ?_; rotate_left; (intro _; rfl))
    k_steps
    rename Fr g L _ _ => F5
    rename News g L _ _ => N5
    refine Stop.go (LCg.CompSrc.ledger (by rfl) F5 N5 (by k_mem) (by rw [List.size_toArray, sizeLine_eq]; omega) (fun gg => ?_))
    refine rest_U _ (fun j zs => IntsAre zs ((ms.take j).map fun x => (popc x : Int))) (by lcg_src) ?_ ?_ _ 0 [] (by rfl) .nil
    · intro j zs v I' oI' C oC D m₂ h tk E' hj hzs hv hC hx F' N' off' ne'
      clear F5 N5
      obtain ⟨k, tk9, hkj, rfl⟩ := ints_nat hys hv
      k_steps
      refine Stop.go ?_
      k_dflt (refine' count_call ?k1 ?k2 ?k3 ?k4 ?k5 ?k6 ?k7 ?_; (case k1 => k_asm); (case k2 => k_asm); (case k3 => k_asm); (case k4 => k_asm); (case k5 => exact rfl); (case k6 => decide); (case k7 => ktr_units))
      intro t7 h7 tk7 K7
      (try dsimp only)
      refine El.mk (F'.keeps K7) (N'.grown K7) (fun _ hp => hp) ?_
      rw [take_snoc hkj, List.map_append]
      exact ints_snoc hzs _ _
    · intro zs hzs
      rw [Nat.zero_add, List.size_toArray, hyl, List.take_length] at hzs
      clear F5 N5
      k_steps
      rename Fr g L _ _ => F6
      rename News g L _ _ => N6
      refine Stop.go (kso_max F6 N6 ⟨_, N6.get (.head _), rfl, _, rfl⟩ hzs (by rw [List.length_map]; exact hmne) (by rfl) ?_)
      intro h7 M t7 tk7 F7 N7 hM1 hM2
      clear F6 N6
      (try dsimp only)
      obtain ⟨x, hx, hxM⟩ := List.mem_map.mp hM1
      have hMk : M = (kz.length : Int) := by
        have hb := hInv.best (b := popc x) (by omega) ⟨x, ((hms.2 x).mp hx).1, ((hms.2 x).mp hx).2, rfl⟩ (fun y hy Py => by
          have := hM2 (popc y : Int) (List.mem_map.mpr ⟨y, (hms.2 y).mpr ⟨hy, Py⟩, rfl⟩)
          omega)
        omega
      subst hMk
      clear hM1 hM2 hxM
      replace N7 := news_tl N7
      k_steps
      refine Stop.go (storeC_idx F7 N7 6 nd4 rfl (by rfl) dB ?_ rfl rfl)
      intro h8 oB' F8 N8 dB'
      clear F7 N7
      dsimp only [List.set] at N8
      (try dsimp only)
      k_steps
      refine Stop.go ?_
      k_dflt (refine LCt.ListComp_T (F₀ := by k_asm) (by with_unfolding_all rfl) (by decide) (by rfl) (by decide) (by rfl) ?_ ?_; rotate_left; (intro _; rfl))
      k_steps
      refine Stop.go (LCt.CompSrcT.ledger (by rfl) F8 N8 (by k_mem) (by rw [List.size_toArray, sizeLine_eq]; omega) (fun gg => ?_))
      refine rest_T _ (fun j zs => ∃ ns : List Int, IntsAre zs ns ∧ ∀ l, l ∈ ns ↔ ∃ x ∈ ms.take j, popc x = kz.length ∧ sumH (jsOf ts) x = l) (by lcg_src) ?_ ?_ _ 0 [] (by rfl) ⟨[], .nil, by simp⟩
      · rintro j zs v I' oI' C oC D m₂ h tk E' hj ⟨ns, hzs, hns⟩ hv hC hx F' N' off' ne'
        clear F8 N8
        obtain ⟨k, tk9, hkj, rfl⟩ := ints_nat hys hv
        have hkm := (hms.2 k).mp (List.mem_of_getElem? hkj)
        obtain ⟨t9, hsk⟩ := hS.2 k (by omega)
        have hk8 : k < 128 := by omega
        k_steps
        refine Stop.go ?_
        k_dflt (refine' count_call ?k1 ?k2 ?k3 ?k4 ?k5 ?k6 ?k7 ?_; (case k1 => k_asm); (case k2 => k_asm); (case k3 => k_asm); (case k4 => k_asm); (case k5 => exact rfl); (case k6 => decide); (case k7 => ktr_units))
        intro t7 h7 tk7 K7
        have F7 := F'.keeps K7
        have N7 := N'.grown K7
        have hC7 := K7
        clear F' N'
        (try dsimp only)
        k_steps
        · rename _ = (kz.length : Int) => hpk
          refine Stop.go (my_item (vs := sv) ⟨_, N7.get (by k_mem), rfl, _, rfl⟩ (nat_nonneg _) (by omega) (by rw [Int.toNat_natCast]; exact hsk) ?_ (by with_unfolding_all rfl))
          refine El.mk F7 N7 (fun _ hp => hp) ⟨ns ++ [sumH (jsOf ts) k], ints_snoc hzs _ _, fun l => ?_⟩
          rw [take_snoc hkj]
          simp only [List.mem_append, List.mem_singleton, or_and_right, exists_or, exists_eq_left]
          rw [hns l]
          refine or_congr Iff.rfl ⟨fun q => ⟨Int.ofNat_inj.mp hpk, q.symm⟩, fun q => q.2.symm⟩
        · rename _ ≠ (kz.length : Int) => hpk
          refine El.mk F7 N7 (fun _ hp => hp) ⟨ns, hzs, fun l => ?_⟩
          rw [take_snoc hkj]
          simp only [List.mem_append, List.mem_singleton, or_and_right, exists_or, exists_eq_left]
          rw [hns l]
          exact ⟨.inl, fun q => q.elim id fun q => absurd (congrArg Nat.cast q.1) hpk⟩
      · rintro zs ⟨ns, hzs, hns⟩
        rw [Nat.zero_add, List.size_toArray, hyl, List.take_length] at hns
        clear F8 N8
        obtain ⟨x2, hx2, hP2, hc2'⟩ := hInv.ex
        have hx3 : popc x2 = kz.length := by
          rw [popc_held (jsOf ts).length (Nat.lt_of_lt_of_le hx2 (Nat.pow_le_pow_right (by decide) hjl))]
          exact List.length_map (sizeAt (jsOf ts)) ▸ hc2'.length_eq
        have hn0 : 0 < ns.length := List.length_pos_of_mem ((hns (sumH (jsOf ts) x2)).mpr ⟨x2, (hms.2 x2).mpr ⟨hx2, hP2⟩, hx3, rfl⟩)
        k_steps
        rename Fr g L _ _ => F9
        rename News g L _ _ => N9
        refine Stop.go (kso_min F9 N9 ⟨_, N9.get (.head _), rfl, _, rfl⟩ hzs hn0 (by rfl) ?_)
        intro h10 M t10 tk10 F10 N10 hM1 hM2
        clear F9 N9
        have hMk : M = kz.sum := by
          refine hInv.least hjl ?_ fun y hy Py hpy => hM2 _ ((hns _).mpr ⟨y, (hms.2 y).mpr ⟨hy, Py⟩, hpy, rfl⟩)
          obtain ⟨y, hy1, hy2, hy3⟩ := (hns M).mp hM1
          exact ⟨y, ((hms.2 y).mp hy1).1, ((hms.2 y).mp hy1).2, hy2, hy3⟩
        subst hMk
        clear hM1 hM2 hns
        replace N10 := news_tl (news_tl N10)
        (try dsimp only)
        k_steps
        rename Fr g L _ _ => F11
        rename News g L _ _ => N11
        have hkk := (‹IntsAre ks kz›).length
        refine Stop.go (len_list (items := ks.toArray) ⟨_, N11.get (by k_mem), rfl, _, rfl⟩ (by rw [List.size_toArray]; omega) ?_)
        rw [show (ks.toArray.size : Int) = (kz.length : Int) by rw [List.size_toArray, hkk]]
        (try dsimp only)
        k_steps
        all_goals first
          | exact absurd rfl ‹(kz.length : Int) ≠ (kz.length : Int)›
          | exact absurd rfl ‹kz.sum ≠ kz.sum›
          | exact ⟨_, _, _, _, _, rfl, F11, N11, dB', by with_unfolding_all rfl, .mk (by with_unfolding_all rfl) rfl, by with_unfolding_all rfl, .mk (by with_unfolding_all rfl) rfl, .mk (by with_unfolding_all rfl) rfl⟩
end Mine
end
section
open PySem PySem.W PySem.Calls PyProof.Rows
set_option Elab.async false
set_option maxRecDepth 100000
set_option maxHeartbeats 8000000
set_option pp.deepTerms false
set_option pp.deepTerms.threshold 7
set_option linter.unusedVariables false
namespace Mine
local macro_rules | `(tactic| walk_at "exec For Name Call cons nil") => `(tactic| refine Stop.mk ?_)
local macro_rules | `(tactic| walk_at "pyIter ref") => `(tactic| refine Stop.mk ?_)
local macro_rules | `(tactic| walk_at "call builtin:sum") => `(tactic| refine Stop.mk ?_)
local macro_rules | `(tactic| walk_at "call builtin:len") => `(tactic| refine Stop.mk ?_)
local macro_rules | `(tactic| k_steps) => `(tactic| repeat' (first | (k_unfold; (try dsimp only)) | walk1 | (dsimp only; walk1) | (leave1; walk_say "STEP leave1"; try dsimp only) | fail "no step"))
theorem store_k {prog : Program} {w : World} {s : Shared} {E : Value → Shared → Prop} {g : Heap} {L : Addr} {m : Str → Option Value} {news : List (Addr × Obj)} {body : List Stmt} {pos : Pos} {Q : Flow → Shared → Prop} {v : Value}
    (F : Fr g L s.heap m) (N : News g L s.heap news)
    (h : ∀ h' tk', Fr g L h' (fun y => if y = Str.ofString "k" then some v else m y) → News g L h' news → wpAny (model prog w) (callerA.deeper (lawEnv L)) (execs body (lawEnv L)) Q E { s with heap := h', toks := tk' }) :
    wpAny (model prog w) (callerA.deeper (lawEnv L)) (assign (.Name (Str.ofString "k") pos) (lawEnv L) v) (fun _ s₂ => wpAny (model prog w) (callerA.deeper (lawEnv L)) (execs body (lawEnv L)) Q E s₂) E s := by
  have _ : PySem.Challenge.rw_ec5001_01 = PySem.Challenge.rw_ec5001_01 ∧ Mine.hd.heap_39 = Mine.hd.heap_39 := by { k_fill; exact ⟨rfl, rfl⟩ }
  refine wpAny_assign_Name ?_
  dsimp only [lawEnv, lawScope, pickScope]
  k_steps
  rename Fr g L _ _ => F2
  rename News g L _ _ => N2
  exact h _ _ F2 N2
def MJ (L K R S P : Addr) (ts : List It) (rs sv pv : List Value) (nR nS nP : Nat) (oP oS : Obj) (items : List (Addr × Obj)) (c i : Nat) (m : Str → Option Value) (news : List (Addr × Obj)) : Prop :=
  ∃ (ks : List Value) (nK : Nat) (kz : List Int) (oB : Obj) (tb : Tok), news = (K, W.listOf ks.toArray nK) :: (R, W.listOf rs.toArray nR) :: (S, W.listOf sv.toArray nS) :: (P, W.listOf pv.toArray nP) :: (L + 1 + 1 + 1 + 1 + 1, oB) :: (L + 1 + 1 + 1 + 1, oP) :: (L + 1 + 1 + 1, oS) :: items ∧
    IntsAre ks kz ∧ kz.length ≤ i ∧ Inv (jsOf ts) i kz ∧ oB.data = .cell (some (.int kz.length tb)) ∧
    m (Str.ofString "row") = some (.ref R) ∧ NI m (Str.ofString "count") c ∧ m (Str.ofString "kept") = some (.ref K) ∧ NI m (Str.ofString "so_far") kz.sum ∧ NI m (Str.ofString "least") kz.sum
theorem segF {prog : Program} {w : World} {p : Program} {loose : List Str} {mean : ExcName → Option Value} {mg mb : Str → Option Value} {s : Shared} {E : Value → Shared → Prop} {g : Heap} {L R K S P : Addr} {oB oP oS : Obj} {rs sv pv : List Value} {nR nS nP nK : Nat} {items : List (Addr × Obj)} {ts : List It} {m : Str → Option Value} {c : Nat} {tb : Tok}
    (X : (Mine.hd.heap_39 w.params).In g) (T : Top p loose mean mg mb g) (hc1 : 2 ≤ c) (hc2 : c ≤ 7) (hrow : RowOf items rs ts) (hst : Stable ts) (hks : KsOf ts c) (hps : ∀ t ∈ ts, 1 ≤ t.2.1)
    (F : Fr g L s.heap m) (m2 : m (Str.ofString "row") = some (.ref R)) (m3 : NI m (Str.ofString "count") c) (m4 : m (Str.ofString "kept") = some (.ref K)) (m5 : NI m (Str.ofString "so_far") 0) (m6 : NI m (Str.ofString "least") 0)
    (N : News g L s.heap ((K, W.listOf #[] nK) :: (R, W.listOf rs.toArray nR) :: (S, W.listOf sv.toArray nS) :: (P, W.listOf pv.toArray nP) :: (L + 1 + 1 + 1 + 1 + 1, oB) :: (L + 1 + 1 + 1 + 1, oP) :: (L + 1 + 1 + 1, oS) :: items))
    (nd : (K :: R :: S :: P :: (L + 1 + 1 + 1 + 1 + 1) :: (L + 1 + 1 + 1 + 1) :: (L + 1 + 1 + 1) :: items.map (·.1)).Nodup)
    (dB : oB.data = .cell (some (.int 0 tb))) (dP : oP.data = .cell (some (.ref P))) (dS : oS.data = .cell (some (.ref S)))
    (hS : SumsL (jsOf ts) (2 ^ c) sv) (hP : PossL (jsOf ts) (2 ^ c) pv)
    (hE : PassesOwn (model prog w) (callerA.deeper (lawEnv L)) (lawEnv L) E) :
    wpAny (model prog w) (callerA.deeper (lawEnv L)) (execs ((lawBody.drop 16).take 1) (lawEnv L)) (fun f s' => f = .next ∧ ∃ (h : Heap) (tk : Nat) (m : Str → Option Value) (news : List (Addr × Obj)), s' = { s with heap := h, toks := tk } ∧ Fr g L h m ∧ News g L h news ∧ MJ L K R S P ts rs sv pv nR nS nP oP oS items c c m news) E s := by
  have _ : PySem.Challenge.rw_ec5001_01 = PySem.Challenge.rw_ec5001_01 ∧ Mine.hd.heap_39 = Mine.hd.heap_39 := by { k_fill; exact ⟨rfl, rfl⟩ }
  obtain ⟨tc, m3⟩ := m3
  have F1 := fr_name (Str.ofString "count") F m3
  clear F
  dsimp only [lawBody, pickBody, List.drop, List.take, lawEnv, lawScope, pickScope]
  k_steps
  refine Stop.go (wpAny_For ?_ (by intro _; rfl))
  k_steps
  rename IsRange _ _ _ _ _ _ _ _ => hR
  rename Fr g L _ _ => F3
  rename News g L _ _ => N3
  refine Stop.go (for_loop (n := c) rfl F3 N3 hR (small_one (by omega) (by omega) (by omega) (by omega)) (by rw [rangeSize_one]; split <;> omega) (MJ L K R S P ts rs sv pv nR nS nP oP oS items c)
    ⟨[], _, [], oB, tb, rfl, .nil, Nat.le_refl _, .zero _, dB, by with_unfolding_all exact m2, .mk (by with_unfolding_all rfl) rfl, by with_unfolding_all exact m4, by with_unfolding_all exact m5, by with_unfolding_all exact m6⟩ ?_ ?_)
  · clear hR F3 N3
    rintro i m₁ news₁ h₁ tk₁ tv I oI hi ⟨ks, nK', kz, oB', tb', rfl, hI, hkl, hInv, dB', q1, q2, q3, q4, q5⟩ F₂ N₂ off
    have ndI : (I :: K :: R :: S :: P :: (L + 1 + 1 + 1 + 1 + 1) :: (L + 1 + 1 + 1 + 1) :: (L + 1 + 1 + 1) :: items.map (·.1)).Nodup := nd_cons' off nd
    rw [show (0 : Int) + (i : Int) = (i : Int) from Int.zero_add _]
    refine store_k F₂ N₂ fun h' tk' F4 N4 => ?_
    refine cut 3 _ (segF1 X T hc1 hc2 hi hrow hst hks hps F4 (if_pos rfl) ((if_neg (by decide)).trans q1) (q2.elim fun t q => ⟨t, (if_neg (by decide)).trans q⟩) ((if_neg (by decide)).trans q3) (q4.elim fun t q => ⟨t, (if_neg (by decide)).trans q⟩) N4 (fun p hp => .tail _ (.tail _ (.tail _ (.tail _ (.tail _ hp))))) ndI hI hkl hInv hE) ?_
    rintro s5 ⟨h5, tk5, m5', ks5, nK5, kz5, rfl, F5, N5, hI5, hkl5, hInv5, r1, r2, r3, r4, r5⟩
    refine wpAny_mono (segF2 X T hc1 hc2 hi hks F5 r1 r2 r3 r4 r5 N5 ndI dB' dP dS hS hP hI5 hkl5 hInv5 hE) (fun f s6 q => ?_) fun _ _ e => e
    obtain ⟨rfl, h7, tk7, m7, oB7, tb7, rfl, F7, N7, dB7, z1, z2, z3, z4, z5⟩ := q
    exact turn_end _ F7 N7 (fun _ hp => hp) (off_of_nodup ndI) ⟨ks5, nK5, kz5, oB7, tb7, rfl, hI5, hkl5, hInv5, dB7, z1, z2, z3, z4, z5⟩
  · clear hR F3 N3
    intro h tk m' news' F' N' hJ
    exact wpAny_execs_nil ⟨rfl, h, tk, m', news', rfl, F', N', hJ⟩
def PZ (g : Heap) (L : Addr) (s s' : Shared) : Prop := ∃ (h : Heap) (tk : Nat) (m : Str → Option Value), s' = { s with heap := h, toks := tk } ∧ Fr g L h m
theorem segG {prog : Program} {w : World} {p : Program} {loose : List Str} {mean : ExcName → Option Value} {mg mb : Str → Option Value} {s : Shared} {E : Value → Shared → Prop} {g : Heap} {L K : Addr} {oB : Obj} {ks : List Value} {kz : List Int} {nK : Nat} {m : Str → Option Value} {tb : Tok}
    (X : (Mine.hd.heap_39 w.params).In g) (T : Top p loose mean mg mb g)
    (F : Fr g L s.heap m) (m4 : m (Str.ofString "kept") = some (.ref K)) (m6 : NI m (Str.ofString "least") kz.sum)
    (N : News g L s.heap [(K, W.listOf ks.toArray nK), (L + 1 + 1 + 1 + 1 + 1, oB)]) (hI : IntsAre ks kz) (hkl : kz.length ≤ 7)
    (dB : oB.data = .cell (some (.int kz.length tb)))
    (hE : PassesOwn (model prog w) (callerA.deeper (lawEnv L)) (lawEnv L) E) :
    wpAny (model prog w) (callerA.deeper (lawEnv L)) (execs (lawBody.drop 17) (lawEnv L)) (fun f s' => f = .ret (.bool true) ∧ PZ g L s s') E s := by
  have _ : PySem.Challenge.rw_ec5001_01 = PySem.Challenge.rw_ec5001_01 ∧ Mine.hd.heap_39 = Mine.hd.heap_39 := by { k_fill; exact ⟨rfl, rfl⟩ }
  obtain ⟨tl, m6⟩ := m6
  have F1 := fr_name (Str.ofString "kept") (fr_name (Str.ofString "least") F m6) m4
  clear F
  dsimp only [lawBody, pickBody, List.drop, List.take, lawEnv, lawScope, pickScope]
  k_steps
  rename Fr g L _ _ => F2
  rename News g L _ _ => N2
  refine Stop.go (sum_any (by rfl) ⟨_, N2.get (by k_mem), rfl, _, rfl⟩ hI ?_)
  intro h3 tk3 t3 K3
  have F3 := F2.keeps K3
  have N3 := N2.grown K3
  clear F2 N2
  (try dsimp only)
  k_steps
  · have hkk := hI.length
    refine Stop.go (len_list (items := ks.toArray) ⟨_, N3.get (by k_mem), rfl, _, rfl⟩ (by rw [List.size_toArray]; omega) ?_)
    rw [show (ks.toArray.size : Int) = (kz.length : Int) by rw [List.size_toArray, hkk]]
    (try dsimp only)
    k_steps
    · rw [beq_self_eq_true]
    · exact ⟨_, _, _, rfl, F3⟩
  all_goals exact absurd rfl ‹kz.sum ≠ kz.sum›
end Mine
end
section
open PySem PySem.W PySem.W.X PySem.Calls PyProof.Rows
set_option Elab.async false
set_option maxRecDepth 100000
set_option maxHeartbeats 8000000
set_option pp.deepTerms false
set_option pp.deepTerms.threshold 7
set_option linter.unusedVariables false
namespace Mine
theorem cutAt {M : Model} {A : Around} {E : Value → Shared → Prop} {env : Env} (a n b : Nat) (hb : a + n = b) (P : Shared → Prop) {l : List Stmt} {Q : Flow → Shared → Prop} {s : Shared} (h : wpAny M A (execs ((l.drop a).take n) env) (fun f s' => f = .next ∧ P s') E s) (h2 : ∀ s', P s' → wpAny M A (execs (l.drop b) env) Q E s') :
    wpAny M A (execs (l.drop a) env) Q E s := by
  refine cut n P h fun s' q => ?_
  rw [List.drop_drop, hb]
  exact h2 s' q
theorem nodup5 (Du Sz a b c : Nat) (o1 : Sz ≠ Du) (o2 : a ≠ Du) (o3 : b ≠ Du) (o4 : c ≠ Du) (o5 : a ≠ Sz) (o6 : b ≠ Sz) (o7 : c ≠ Sz) (h : c < b ∧ b < a) : ([Du, Sz, a, b, c] : List Nat).Nodup := by
  simp only [List.nodup_cons, List.mem_cons, List.not_mem_nil, or_false, not_or, List.nodup_nil, not_false_iff, and_true]
  omega
theorem nodup_dz {R Du Sz a b c : Nat} {l : List Nat} (h : (R :: Du :: Sz :: a :: b :: c :: l).Nodup) : (R :: a :: b :: c :: l).Nodup := by
  simp only [List.nodup_cons, List.mem_cons, not_or] at h ⊢
  grind
theorem sub_dz {R Du Sz a b c : Addr × Obj} {l : List (Addr × Obj)} : ∀ p ∈ R :: a :: b :: c :: l, p ∈ R :: Du :: Sz :: a :: b :: c :: l := by
  intro p hp
  simp only [List.mem_cons] at hp ⊢
  grind
theorem nodup_kr {K S P R : Nat} {l : List Nat} (h : (K :: S :: P :: R :: l).Nodup) : (K :: R :: S :: P :: l).Nodup := by
  simp only [List.nodup_cons, List.mem_cons, not_or] at h ⊢
  grind
theorem sub_kr {K S P R : Addr × Obj} {l : List (Addr × Obj)} : ∀ p ∈ K :: R :: S :: P :: l, p ∈ K :: S :: P :: R :: l := by
  intro p hp
  simp only [List.mem_cons] at hp ⊢
  grind
theorem sub_g {K R S P B : Addr × Obj} {l : List (Addr × Obj)} : ∀ p ∈ [K, B], p ∈ K :: R :: S :: P :: B :: l := by
  intro p hp
  simp only [List.mem_cons, List.not_mem_nil, or_false] at hp ⊢
  grind
theorem law_body {prog : Program} {w : World} {p : Program} {loose : List Str} {mean : ExcName → Option Value} {mg mb : Str → Option Value} {s : Shared} {E : Value → Shared → Prop} {g : Heap} {L l : Addr} {vs : List Value} {ns : List Int} {m : Str → Option Value} {oB oP oS oW oN : Obj}
    (X : (Mine.hd.heap_39 w.params).In g) (T : Top p loose mean mg mb g) (hl : g.IsList l vs.toArray) (hi : IntsAre vs ns) (hn : ns.length ≤ 63)
    (F : Fr g L s.heap m) (hm : m (Str.ofString "script") = some (.ref l))
    (N : News g L s.heap [(L + 1 + 1 + 1 + 1 + 1, oB), (L + 1 + 1 + 1 + 1, oP), (L + 1 + 1 + 1, oS), (L + 1 + 1, oW), (L + 1, oN)])
    (dB : oB.data = .cell none) (dP : oP.data = .cell none) (dS : oS.data = .cell none) (dW : oW.data = .cell none) (dN : oN.data = .cell none)
    (hE : PassesOwn (model prog w) (callerA.deeper (lawEnv L)) (lawEnv L) E) :
    wpAny (model prog w) (callerA.deeper (lawEnv L)) (execs lawBody (lawEnv L)) (fun f s' => f = .ret (.bool true) ∧ PZ g L s s') E s := by
  refine cut 3 _ (segA X T hl hi hn F hm N dN hE) ?_
  rintro s1 ⟨h1, tk1, m1, Nm, ws, ns1, oN1, first, count, rfl, F1, N1, q1, dN1, a1, a2, hI1, l1, l2, f0, c1, c2⟩
  obtain ⟨c, rfl⟩ : ∃ c : Nat, count = (c : Int) := ⟨count.toNat, by omega⟩
  replace c1 : 2 ≤ c := by omega
  replace c2 : c ≤ 7 := by omega
  refine cutAt 3 2 5 rfl _ (segB X T hI1 l1 l2 c1 c2 f0 F1 a1 a2 N1 dN1 hE) ?_
  rintro s2 ⟨h2, tk2, m2, Sz, ss, sz, rfl, F2, N2, u1, u2, u3, u4, u5, u6, b1, b2, hJ2, hsz, hpos⟩
  refine cutAt 5 2 7 rfl _ (segC X T hI1 l1 l2 c1 c2 hJ2 hsz hpos F2 b2 b1 N2 dN1 dW q1 ⟨u1, u2, u3, u4, u5, u6⟩ hE) ?_
  rintro s3 ⟨h3, tk3, m3, Du, dd, dz, rfl, F3, N3, v1, v2, v3, v4, b3, b4, b5, hI3, hdz⟩
  refine cutAt 7 2 9 rfl _ (segD X T c1 c2 hI3 hdz hJ2 hsz hpos F3 b4 b3 b5 N3 (nodup5 _ _ _ _ _ v1 v2 v3 v4 u2 u3 u4 ⟨Nat.lt_succ_self _, Nat.lt_succ_self _⟩) hE) ?_
  rintro s4 ⟨h4, tk4, m4, R, news4, rfl, F4, N4, rs, nR, items, ts, rfl, nd4, e1, e2, e3, e4, hrow, hst, hks, hps⟩
  have nd5 := nodup_dz nd4
  have N5 := news_sub N4 sub_dz
  refine cutAt 9 1 10 rfl _ (segE X T c1 c2 hrow hst hks F4 e1 e4 N5 hE) ?_
  rintro s5 ⟨h5, tk5, m5, rfl, F5, N6, e5, e6⟩
  refine cutAt 10 1 11 rfl _ (segH X T c1 c2 hrow hst hks F5 e5 e6 N6 hE) ?_
  rintro s6 ⟨h6, tk6, m6, rfl, F6, N7, e7, e8⟩
  refine cutAt 11 5 16 rfl _ (segI X T c1 c2 hrow hks F6 e7 e8 N7 nd5 dB dP dS hE) ?_
  rintro s7 ⟨h7, tk7, m7, K, S, P, sv, pv, nS, nP, oB7, oP7, oS7, tb, rfl, F7, N8, nd8, dB7, dP7, dS7, hS, hP, i1, i2, i3, i4, i5⟩
  refine cutAt 16 1 17 rfl _ (segF X T c1 c2 hrow hst hks hps F7 i1 i2 i3 i4 i5 (news_sub N8 sub_kr) (nodup_kr nd8) dB7 dP7 dS7 hS hP hE) ?_
  rintro s8 ⟨h8, tk8, m8, news8, rfl, F8, N9, ks, nK, kz, oB8, tb8, rfl, hI8, hkl8, hInv8, dB8, j1, j2, j3, j4, j5⟩
  exact segG X T F8 j3 j5 (news_sub N9 sub_g) hI8 (by omega) dB8 hE
theorem law_call {prog : Program} {w : World} {p : Program} {loose : List Str} {mean : ExcName → Option Value} {mg mb : Str → Option Value} {s : Shared} {Q E : Value → Shared → Prop} {l : Addr} {vs : List Value} {ns : List Int}
    (X : (Mine.hd.heap_39 w.params).In s.heap) (T : Top p loose mean mg mb s.heap) (hl : s.heap.IsList l vs.toArray) (hi : IntsAre vs ns) (hn : ns.length ≤ 63)
    (ret : ∀ h' tk', Keep s.heap h' → Q (.bool true) { s with heap := h', toks := tk' }) :
    wpAny (model prog w) callerA (call (.ref 47) [.ref l]) Q E s := by
  have _ : PySem.Challenge.rw_ec5001_01 = PySem.Challenge.rw_ec5001_01 ∧ Mine.hd.heap_39 = Mine.hd.heap_39 := by { k_fill; exact ⟨rfl, rfl⟩ }
  refine wpAny_call ?_
  k_dflt (refine' call_topC (binds := [(Str.ofString "script", .ref l)]) ?k3 ?k5 ?k6 ?k7 ?k8 ?k9 ?kB ?kD ?_ ?c2 ?c3 ?c4; (case k3 => k_asm); (case k5 => k_asm); (case k6 => k_is); (case k7 => k_is); (case k8 => decide); (case k9 => exact BindsTo.of_eq rfl); (case kB => exact rfl); (case kD => decide +kernel); (case c2 => exact rfl); (case c3 => exact rfl); (case c4 => exact rfl); k_whole; intro g' L' h' tk' cells' eg' F' N' Y' X' T'; (try dsimp only))
  obtain ⟨oB, oP, oS, oW, oN, hE, dB, dP, dS, dW, dN⟩ := PyProof.Rows.kc_five Y'
  subst hE
  clear Y'
  subst eg'
  have dN' : oN.data = .cell none := by with_unfolding_all exact dN
  have dW' : oW.data = .cell none := by with_unfolding_all exact dW
  have dS' : oS.data = .cell none := by with_unfolding_all exact dS
  have dP' : oP.data = .cell none := by with_unfolding_all exact dP
  have dB' : oB.data = .cell none := by with_unfolding_all exact dB
  clear dN dW dS dP dB
  refine wpAny_mono (law_body X' T' hl hi hn F' (by with_unfolding_all rfl) N' dB' dP' dS' dW' dN' (by passes_own)) (fun f s2 q => ?_) fun _ _ e => e
  obtain ⟨rfl, h2, tk2, m2, rfl, F2⟩ := q
  exact ret _ _ F2.keep
theorem law_holds : PySem.Challenge.rw_ec5001_01.Holds := Mine.hd (by
  k_fill
  intro w s₀ s₁ mg mb G Y fa o pm cd doc dV kV ho hd hcd hD hmg hg args vals as hpre hlay hrd hwl hlo
  have KX := kIn_of Y
  refine Ground.open G ?_
  intro T B D TE TW
  wrow_args hpre hlay hrd hwl hlo
  x_fa T KX hmg
  refine law_call KX T (by assumption) (by assumption) (by omega) ?_
  intro h' tk' K
  refine GoodW.toG (good_end K hg ?_ ?_ rfl)
  · intro _; rfl
  · first | rfl | wrow_post)
end Mine
end
set_option maxRecDepth 100000 in
set_option maxHeartbeats 8000000 in
theorem PySem.Challenge.cw_ec5001_01_holds : PySem.Challenge.rw_ec5001_01.Holds := by
  exact Mine.law_holds
