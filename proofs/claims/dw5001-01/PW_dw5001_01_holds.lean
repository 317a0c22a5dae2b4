import PyProof.Rows.All
import Wide.All
import OpenK.AllK
import Wide.FinOn
import Lean
import PySem.Challenge.RW_dw5001_01
set_option Elab.async false
set_option rowWalk.seconds 0
section
open PySem PySem.W PyProof.Rows
set_option maxRecDepth 100000
set_option maxHeartbeats 8000000
namespace Mine
open_top wk for PySem.Challenge.rw_dw5001_01
local macro_rules | `(tactic| k_head) => `(tactic| o_head (kmHook wk.heap_39 [2, 3, 15, 17, 18, 20, 21, 22, 25, 30, 31, 32, 34, 35, 37, 38, 39, 41, 42, 44, 45, 46, 47, 49, 50, 52, 53, 54, 55, 57, 58, 60, 61, 62, 64, 65, 67, 68, 69, 71, 72, 74, 75, 76, 77, 79, 80, 82, 83, 84, 86, 87, 89, 90, 91, 92, 94, 95, 97, 98, 99, 100, 101, 102, 103, 106, 109, 110, 111, 113, 114, 116, 117, 118, 120, 121, 123, 124, 125, 127, 128, 130, 131, 132, 134, 135, 137, 138, 139, 141, 142, 144, 145] (fun _ => by kernel_rfl) [63]))
open_top hd for PySem.Challenge.rw_dw5001_01
end Mine
end
section
open PySem PySem.W PyProof.Rows PySem.Calls
set_option maxRecDepth 100000
set_option maxHeartbeats 8000000
namespace Mine
theorem part_WBase : True := by
  w_top off
  trivial
/-- what stood stands -/
def Kept (h h' : Heap) : Prop := ∀ b o, h.get? b = some o → h'.get? b = some o
theorem Kept.refl (h : Heap) : Kept h h := fun _ _ e => e
theorem Kept.trans {a b c : Heap} (x : Kept a b) (y : Kept b c) : Kept a c := fun p o e => y p o (x p o e)
theorem Kept.list {h h' : Heap} {l : Addr} {items : Array Value} (k : Kept h h') (x : h.IsList l items) : h'.IsList l items := stays_list k x
theorem Kept.fr {h₀ h h' : Heap} {L : Addr} {m : Str → Option Value} (k : Kept h h') (F : Fr h₀ L h m) : Fr h₀ L h' m := by
  obtain ⟨oL, es, ep, hL, r⟩ := F.ns
  exact ⟨⟨oL, es, ep, k _ _ hL, r⟩, fun b o e => k b o (F.keep b o e), F.above⟩
theorem Kept.news {h₀ h h' : Heap} {L : Addr} {news : List (Addr × Obj)} (k : Kept h h') (N : News h₀ L h news) : News h₀ L h' news :=
  fun p hp => ⟨k _ _ (N p hp).1, (N p hp).2⟩
/-- what the call of a generator expression may leave behind, beside the heap -/
def Side (s s' : Shared) : Prop := (AllBare s.gens → AllBare s'.gens) ∧ s'.os = s.os
theorem Side.refl (s : Shared) : Side s s := ⟨id, rfl⟩
theorem Side.trans {a b c : Shared} (x : Side a b) (y : Side b c) : Side a c := ⟨fun h => y.1 (x.1 h), y.2.trans x.2⟩
theorem Side.heap {s s' : Shared} (x : Side s s') {h : Heap} {tk : Nat} : Side s { s' with heap := h, toks := tk } := x
theorem Side.of {s : Shared} {h h' : Heap} {tk tk' : Nat} : Side { s with heap := h, toks := tk } { s with heap := h', toks := tk' } := ⟨id, rfl⟩
/-- a def that comes back, having changed nothing which stood -/
def Exit0 (h₀ : Heap) (R : Result → Shared → Prop) (v : Value) (s' : Shared) : Prop := ∃ L' m', Fr h₀ L' s'.heap m' ∧ (Kept h₀ s'.heap → R (.ok (.ret v)) s')
section
variable {w : World}
theorem enter0 {A A₀ : Around} {s : Shared} {base h₀ : Heap} {outer : List Env} {L : Addr} {K : Frag} {prog p : Program} {loose : List Str} {m mg mb : Str → Option Value} {env : Env} {mean : ExcName → Option Value}
    {R : Result → Shared → Prop} {name qual : Str} {params : Arguments} {body : List Stmt} {scope : Scope} {dV kV doc pm cdv ct oc : Value} {an od : Option Addr} {osl : Array (Option Value)} {f : Addr} {args : Args} {binds : List (Str × Value)}
    (B : Below A₀ base outer h₀) (F : Fr h₀ L s.heap m) (X₀ : K.In h₀) (T : Top p loose mean mg mb h₀) (hA : A.frames = some (env :: outer)) (hf : env.frame = some L) (hke : env.scope.kind = .function)
    (ho : K.lookup f = some ⟨oc, od, .func (fnOf name qual params body scope dV kV doc pm an cdv ct), osl⟩) (hcd : codeIn K cdv qual = true) (hroom : A.depth < recursionLimit)
    (hbind : BindsTo s (fnOf name qual params body scope dV kV doc pm an cdv ct) args binds) (hloc : ∀ y ∈ binds, scope.names.lookup y.1 = some .local)
    (h : ∀ L' h₁, Fr s.heap L' h₁ (fun y => binds.reverse.lookup y) → News s.heap L' h₁ [] → Below A base (env :: outer) s.heap → K.In s.heap → Top p loose mean mg mb s.heap →
      wpAny (model prog w) (A.deeper (envOf qual scope L' f cdv)) (execs body (envOf qual scope L' f cdv))
        (fun fl s' => Exit0 s.heap R (match fl with | .ret v => v | _ => .none) s')
        (fun _ _ => False)
        { s with heap := h₁, toks := s.toks + binds.length })
    (hco : scope.isCoroutine = false := by rfl) (hgen : scope.isGenerator = false := by rfl) (hk : scope.kind = .function := by rfl)
    (hcell : ∀ x ∈ scope.names, x.2 ≠ .cell := by decide) : codeAny (model prog w) A (.call (.ref f) args) R s := by
  obtain ⟨FG, BG, st, lv⟩ := groundX (R := R) (news := []) B F (fun p hp => nomatch hp) hA hf hke
  refine codeAny_call_def (fd := fnOf name qual params body scope dV kV doc pm an cdv ct) (body := body) (binds := binds) hroom ((X₀.keeps F.keep) _ _ ho) rfl (T.nolimit.keeps F.keep) (codeRec_of (X₀.keeps F.keep) hcd) rfl hbind hcell hloc (fun h₁ hns hk₁ => ?_) hco hgen hk
  have F' : Fr s.heap s.heap.objs.size h₁ (fun y => binds.reverse.lookup y) := ⟨hns, fun b o e => hk₁ b o e, Nat.le_refl _⟩
  refine wpAny_mono (h _ h₁ F' (fun p hp => nomatch hp) BG (X₀.keeps F.keep) (T.keeps F.keep)) (fun fl s' hl => ?_) fun _ _ y => y.elim
  obtain ⟨L', m', F', k⟩ := hl
  exact k fun b o e => F'.keep b o e
end
end Mine
end
section
open PySem PySem.W PyProof.Rows PySem.Calls
set_option maxRecDepth 100000
set_option maxHeartbeats 8000000
namespace Mine
theorem part_WAcc : True := by
  w_top off
  trivial
theorem acc_inst {h₀ h : Heap} {L x C dx : Addr} {news : List (Addr × Obj)} {od : Obj} {sl : Array (Option Value)} {xs : Array Value} {n : Nat} (N : News h₀ L h news) (h1 : (x, (⟨.ref C, some dx, .seq xs n, sl⟩ : Obj)) ∈ news) (h2 : (dx, od) ∈ news) :
    PySem.W.InstAt h x ⟨.ref C, some dx, .seq xs n, sl⟩ C (some od) := ⟨(N _ h1).1, rfl, rfl, (N _ h2).1⟩
section
variable {prog : Program} {w : World} {A : Around} {E : Value → Shared → Prop} {s : Shared} {K : Frag} {x C : Addr} {ox : Obj} {od : Option Obj} {name : Str}
theorem acc_method {pl : Sem Bool} {Q : Value × List Value → Shared → Prop} {ga : String} {f tf : Value} (X : K.In s.heap) (I : PySem.W.InstAt s.heap x ox C od)
    (hga : findIn K (.ref C) "__getattribute__" = some (some (.builtin ga))) (hcan : (Manifest.canonical ga != "object.__getattribute__") = false) (hk : findIn K (.ref C) "__getattr__" = some none)
    (hf : findIn K (.ref C) name = some (some f)) (ht : typeIn K f = some tf) (htf : (tf != .type "function" && tf != .type "method_descriptor" && tf != .type "wrapper_descriptor") = false)
    (hs : shadowIn od name = some false) (h : Q (f, [.ref x]) s) :
    wpAny (model prog w) A (getMethod (.ref x) name pl) Q E s := by
  unfold getMethod specialOf
  refine wpAny_bind (wpAny_bind (I.type.here ((looks_findIn X hga).here ?_)))
  dsimp only
  rw [hcan, if_neg (by decide)]
  refine wpAny_bind (wpAny_bind (I.type.here ((looks_findIn X hk).here ?_)))
  refine wpAny_bind (wpAny_bind (I.type.here ((looks_findIn X hf).here (wpAny_bind ((looks_typeIn X ht).here ?_)))))
  rw [htf, if_neg (by decide)]
  refine wpAny_bind (wpAny_loadPart I.at_ ?_)
  have hd := I.dict
  cases e : ox.dict with
  | none => exact wpAny_bind (wpAny_rule (wpAny_pure h))
  | some dx =>
    cases od with
    | none => rw [e] at hd; exact hd.elim
    | some o =>
      rw [e] at hd
      obtain ⟨r, a, b⟩ := Option.map_eq_some_iff.mp hs
      refine wpAny_bind (wpAny_bind (wpAny_loadPart hd ?_))
      rw [nsLook_of a]
      refine wpAny_pure ?_
      rw [b]
      exact wpAny_bind (wpAny_rule (wpAny_pure h))
theorem canon_lga : (Manifest.canonical "list.__getattribute__" != "object.__getattribute__") = false := by decide +kernel
/-- a built-in method or slot of list upon an object of an own subclass -/
theorem acc_check {M : Model} {Q : Unit → Shared → Prop} {id owner n : String} {rest : List Value} (hsplit : splitId id = some (owner, n))
    (hkind : (Manifest.find? owner).bind (·.attrs.lookup n) = some .slot ∨ (Manifest.find? owner).bind (·.attrs.lookup n) = some .method)
    (X : K.In s.heap) (I : PySem.W.InstAt s.heap x ox C od) (hm : mroIn K C (.type owner) = some true) (ha : argsOk id ⟨.ref x :: rest, []⟩) (hQ : Q () s) :
    wpAny M A (checkBuiltinCall id ⟨.ref x :: rest, []⟩) Q E s := by
  have hk : builtinKind id = (Manifest.find? owner).bind (·.attrs.lookup n) := by simp only [builtinKind, hsplit]
  have hi : Looks M s.heap (isInstance (.ref x) (.type owner)) true := I.type.andThen (looks_mroIn X hm)
  rcases hkind with h | h <;>
    · simp only [checkBuiltinCall, hk, h, hsplit]
      refine wpAny_bind (hi.here ?_)
      simp only [Bool.not_true, Bool.false_eq_true, if_false]
      cases hsig : Manifest.signature? id with
      | none => exact wpAny_pure hQ
      | some sig =>
        simp only [argsOk, hsig] at ha
        have h2 : Bind.checkArgs id sig ⟨.ref x :: rest, []⟩ = pure () := ha
        show wpAny M A (Bind.checkArgs id sig ⟨.ref x :: rest, []⟩) Q E s
        rw [h2]; exact wpAny_pure hQ
theorem acc_call {Q : Value → Shared → Prop} {id owner n : String} {b : Builtin} {rest : List Value} (hsplit : splitId id = some (owner, n))
    (hkind : (Manifest.find? owner).bind (·.attrs.lookup n) = some .slot ∨ (Manifest.find? owner).bind (·.attrs.lookup n) = some .method) (hp : plainId id = true) (hb : entryFor table id = some b)
    (X : K.In s.heap) (I : PySem.W.InstAt s.heap x ox C od) (hm : mroIn K C (.type owner) = some true) (ha : argsOk id ⟨.ref x :: rest, []⟩)
    (hc : wpAny (model prog w) A.in1 (b ⟨.ref x :: rest, []⟩) (fun fin s' => ∃ v, fin = .done (.ret v) ∧ Q v s') E s) :
    wpAny (model prog w) A (call (.builtin id) (.ref x :: rest)) Q E s := by
  refine wpAny_call (codeAny_call_builtin hp hb (acc_check hsplit hkind X I hm ha (wpAny_mono hc (fun fin s' h' => ?_) fun _ _ h' => h')))
  obtain ⟨v, rfl, hv⟩ := h'; exact hv
end
section
variable {prog : Program} {w : World} {A : Around} {E : Value → Shared → Prop} {s : Shared} {K : Frag} {x C dx L : Addr} {h₀ : Heap} {m : Str → Option Value} {news : List (Addr × Obj)} {od : Obj} {its : List Value} {n : Nat}
abbrev accObj (C dx : Addr) (its : List Value) (n : Nat) : Obj := { cls := .ref C, dict := some dx, data := .seq its.toArray n }
theorem acc_upd {g : Obj → List (Addr × Obj)} {f : Array Value → Array Value} {its' : List Value} {R : Prop} (F : Fr h₀ L s.heap m) (N : News h₀ L s.heap news) (U : UpdF x (accObj C dx its n) news g)
    (hf : f its.toArray = its'.toArray) (h : ∀ n', Fr h₀ L (s.heap.update x (Obj.mapSeq f)) m → News h₀ L (s.heap.update x (Obj.mapSeq f)) (g (accObj C dx its' n')) → R) : R := by
  obtain ⟨pre, post, rfl, hg, h1, h2⟩ := U.split
  have e : Obj.mapSeq f (accObj C dx its n) = accObj C dx its' (if its'.toArray.size == its.toArray.size then n else n + 1) := by
    simp only [Obj.mapSeq, accObj, hf]
  obtain ⟨U1, U2⟩ := news_upd (f := Obj.mapSeq f) F N h1 h2 e rfl
  exact h _ U1 (hg _ ▸ U2)
theorem acc_mem {g : Obj → List (Addr × Obj)} {o : Obj} (U : UpdF x o news g) : (x, o) ∈ news := by
  obtain ⟨pre, post, rfl, hg, h1, h2⟩ := U.split
  simp
theorem acc_append {g : Obj → List (Addr × Obj)} {v : Value} {Q : Value → Shared → Prop} (X : K.In h₀) (F : Fr h₀ L s.heap m) (N : News h₀ L s.heap news) (U : UpdF x (accObj C dx its n) news g) (hd : (dx, od) ∈ news) (hm : mroIn K C (.type "list") = some true)
    (hsz : its.length ≤ 1000000)
    (h : ∀ h' n', Fr h₀ L h' m → News h₀ L h' (g (accObj C dx (its ++ [v]) n')) → Q .none { s with heap := h' }) :
    wpAny (model prog w) A (call (.builtin "list.append") [.ref x, v]) Q E s := by
  refine acc_call (owner := "list") (n := "append") (by decide +kernel) (by first | exact .inl (by decide +kernel) | exact .inr (by decide +kernel)) (by decide +kernel) entry_list_append (X.keeps F.keep) (acc_inst N (acc_mem U) hd) hm (args_list_append _ _) ?_
  show wpAny _ _ (updateSeq x (·.push v) >>= fun _ => ret .none) _ _ s
  refine wpAny_bind ?_
  have hz : its.toArray.size ≤ sizeLine := by rw [List.size_toArray, sizeLine_eq]; omega
  refine acc_upd F N U (f := (·.push v)) (its' := its ++ [v]) (by simp) fun n' F' N' => ?_
  refine wpAny_updateSeq (N _ (acc_mem U)).1 rfl (wpAny_pure ⟨.none, rfl, h _ n' F' N'⟩) (hz := hz) (by rw [Array.size_push]; omega)
end
end Mine
end
section
open PySem PySem.W PyProof.Rows PySem.Calls
set_option maxRecDepth 100000
set_option maxHeartbeats 8000000
namespace Mine
theorem part_WSup : True := by
  w_top off
  trivial
section
variable {prog : Program} {w : World} {A : Around} {E : Value → Shared → Prop} {s : Shared} {K : Frag} {x C dx L : Addr} {h₀ : Heap} {m : Str → Option Value} {news : List (Addr × Obj)} {od : Obj} {its : List Value} {n : Nat}
theorem acc_pop_run {g : Obj → List (Addr × Obj)} {v : Value} {Q : PySem.Fin → Shared → Prop} (F : Fr h₀ L s.heap m) (N : News h₀ L s.heap news) (U : UpdF x (accObj C dx (its ++ [v]) n) news g)
    (hsz : its.length ≤ 1000000)
    (h : ∀ h' n', Fr h₀ L h' m → News h₀ L h' (g (accObj C dx its n')) → Q (.done (.ret v)) { s with heap := h' }) :
    wpAny (model prog w) A (Builtin.«list.pop» ⟨[.ref x], []⟩) Q E s := by
  have hl := (N _ (acc_mem U)).1
  have hsz' : (its ++ [v]).toArray.size = its.length + 1 := by simp
  have hemp : (its ++ [v]).toArray.isEmpty = false := by simp
  have hidx : (seqIndex? (-1) (its ++ [v]).toArray.size) = some its.length := by
    rw [hsz']; unfold seqIndex?
    have e : ((-1 : Int) + ((its.length + 1 : Nat) : Int)) = (its.length : Int) := by omega
    simp only [show ((-1 : Int) < 0) from by decide, if_true, e]
    simp
    omega
  have hget : (its ++ [v]).toArray[its.length]? = some v := by simp
  have her : (fun xs : Array Value => xs.eraseIdxIfInBounds its.length) (its ++ [v]).toArray = its.toArray := by simp [List.eraseIdx_append_of_length_le]
  have hz : (its ++ [v]).toArray.size ≤ sizeLine := by rw [hsz', sizeLine_eq]; omega
  obtain ⟨hp, gs, d, tk, os⟩ := s
  dsimp only at *
  wp_walk
  rw [hidx]
  simp only [Option.bind_some, hget, Option.map_some]
  refine wpAny_bind ?_
  show wpAny _ _ (updateSeq x (fun xs => xs.eraseIdxIfInBounds its.length)) _ _ _
  refine acc_upd (s := ⟨hp, gs, d, tk, os⟩) (f := fun xs => xs.eraseIdxIfInBounds its.length) F N U her fun n' F' N' => ?_
  refine wpAny_updateSeq hl rfl (wpAny_pure (h _ n' F' N')) (hz := hz) (by rw [her]; rw [hsz'] at hz; rw [List.size_toArray]; omega)
theorem acc_len_run {Q : PySem.Fin → Shared → Prop} (hl : s.heap.get? x = some (accObj C dx its n)) (h : ∀ t, Q (.done (.ret (.int its.length t))) { s with toks := s.toks + 1 }) :
    wpAny (model prog w) A (Builtin.«list.__len__» ⟨[.ref x], []⟩) Q E s := by
  obtain ⟨hp, gs, d, tk, os⟩ := s
  dsimp only at *
  wp_walk
  exact h _
theorem acc_init_run {g : Obj → List (Addr × Obj)} {Q : PySem.Fin → Shared → Prop} (F : Fr h₀ L s.heap m) (N : News h₀ L s.heap news) (U : UpdF x (accObj C dx [] n) news g)
    (h : ∀ h' n', Fr h₀ L h' m → News h₀ L h' (g (accObj C dx [] n')) → Q (.done (.ret .none)) { s with heap := h' }) :
    wpAny (model prog w) A (Builtin.«list.__init__» ⟨[.ref x], []⟩) Q E s := by
  have hl := (N _ (acc_mem U)).1
  obtain ⟨hp, gs, d, tk, os⟩ := s
  dsimp only at *
  wp_walk using (wpAny_updateSeq hl rfl (hz := by rw [List.size_toArray, sizeLine_eq]; decide) (_hz' := by decide))
  exact acc_upd (s := ⟨hp, gs, d, tk, os⟩) (f := fun _ => #[]) (its' := []) F N U rfl fun n' F' N' => h _ n' F' N'
/-- what super() hands out for a built-in of list -/
abbrev boundObj (bt id : String) (x : Addr) : Obj := { cls := .type bt, data := .fields #[.builtin id, .ref x] }
theorem slot_wget : Slot "wrapper_descriptor" "__get__" "wrapper_descriptor.__get__" :=
  .of (owner := "wrapper_descriptor") (n := "__get__") (by rw [typeLookup_type, builtinLookup_eq_fast]; kernel_rfl) (by decide +kernel) (by decide +kernel) (by decide +kernel)
    (by first | exact .inl (by decide +kernel) | exact .inr (by decide +kernel)) (by rw [isSubtype_type]; kernel_rfl)
theorem slot_mget : Slot "method_descriptor" "__get__" "method_descriptor.__get__" :=
  .of (owner := "method_descriptor") (n := "__get__") (by rw [typeLookup_type, builtinLookup_eq_fast]; kernel_rfl) (by decide +kernel) (by decide +kernel) (by decide +kernel)
    (by first | exact .inl (by decide +kernel) | exact .inr (by decide +kernel)) (by rw [isSubtype_type]; kernel_rfl)
theorem entry_wget : entryFor table "wrapper_descriptor.__get__" = some Builtin.«wrapper_descriptor.__get__» := entryFor_of_tree (by kernel_rfl)
theorem entry_mget : entryFor table "method_descriptor.__get__" = some Builtin.«method_descriptor.__get__» := entryFor_of_tree (by kernel_rfl)
theorem args_wget (a b c : Value) : argsOk "wrapper_descriptor.__get__" ⟨[a, b, c], []⟩ := by unfold argsOk; kernel_rfl
theorem args_mget (a b c : Value) : argsOk "method_descriptor.__get__" ⟨[a, b, c], []⟩ := by unfold argsOk; kernel_rfl
structure GetsBound (id dT gid bt : String) (Bg : Builtin) : Prop where
  type : typeOf (.builtin id) = pure (.type dT)
  slot : Slot dT "__get__" gid
  entry : entryFor table gid = some Bg
  args : ∀ a b c, argsOk gid ⟨[a, b, c], []⟩
  run : ∀ (prog : Program) (w : World) (A : Around) (E : Value → Shared → Prop) (s : Shared) (x C : Addr) (ox : Obj) (Q : PySem.Fin → Shared → Prop), s.heap.get? x = some ox → ox.cls = .ref C → Looks (model prog w) s.heap (isType (.ref C)) true → Looks (model prog w) s.heap (isSubtype (.ref C) (.type "list")) true →
    Q (.done (.ret (.ref s.heap.objs.size))) { s with heap := s.heap.push (boundObj bt id x) } → wpAny (model prog w) A (Bg ⟨[.builtin id, .ref x, .ref C], []⟩) Q E s
theorem gets_init : GetsBound "list.__init__" "wrapper_descriptor" "wrapper_descriptor.__get__" "method-wrapper" Builtin.«wrapper_descriptor.__get__» := by
  refine ⟨by show builtinType _ = _; rw [builtinType_eq_fast]; kernel_rfl, slot_wget, entry_wget, args_wget, ?_⟩
  intro prog w A E s x C ox Q hx hc hty hi hq
  obtain ⟨hp, g, d, tk, os⟩ := s
  dsimp only at *
  wp_walk
  rw [hc, show (".".intercalate ("list.__init__".cutAt '.').dropLast) = "list" from by decide +kernel]
  refine Looks.at hi ?_
  wp_walk
  exact hq
theorem gets_len : GetsBound "list.__len__" "wrapper_descriptor" "wrapper_descriptor.__get__" "method-wrapper" Builtin.«wrapper_descriptor.__get__» := by
  refine ⟨by show builtinType _ = _; rw [builtinType_eq_fast]; kernel_rfl, slot_wget, entry_wget, args_wget, ?_⟩
  intro prog w A E s x C ox Q hx hc hty hi hq
  obtain ⟨hp, g, d, tk, os⟩ := s
  dsimp only at *
  wp_walk
  rw [hc, show (".".intercalate ("list.__len__".cutAt '.').dropLast) = "list" from by decide +kernel]
  refine Looks.at hi ?_
  wp_walk
  exact hq
theorem gets_pop : GetsBound "list.pop" "method_descriptor" "method_descriptor.__get__" "builtin_function_or_method" Builtin.«method_descriptor.__get__» := by
  refine ⟨by show builtinType _ = _; rw [builtinType_eq_fast]; kernel_rfl, slot_mget, entry_mget, args_mget, ?_⟩
  intro prog w A E s x C ox Q hx hc hty hi hq
  obtain ⟨hp, g, d, tk, os⟩ := s
  dsimp only at *
  have hno : Manifest.toldItsClass.contains "list.pop" = false := by decide +kernel
  wp_walk
  rw [hc, show (".".intercalate ("list.pop".cutAt '.').dropLast) = "list" from by decide +kernel]
  refine Looks.at hi ?_
  wp_walk
  exact hq
theorem acc_super_ga {so D : Addr} {ox : Obj} {l₀ l : List Value} {name : Str} {tk : Tok} {id dT gid bt : String} {Bg : Builtin} {Q : PySem.Fin → Shared → Prop} {h : Heap} {g : Array GenState} {d : Drawn} {t : Nat} {os : OsState}
    (GB : GetsBound id dT gid bt Bg) (hso : h.get? so = some (ks_superObj D x C)) (hno : Looks (model prog w) h (opaqueClassAbove (.ref C)) none)
    (hC : Looks (model prog w) h (mroOf (.ref C)) l₀) (hl : (l₀.dropWhile (· != .ref D)).drop 1 = l) (X : K.In h)
    (hf : alongIn K name l = some (some (.builtin id))) (hx : h.get? x = some ox) (hxc : ox.cls = .ref C) (hty : Looks (model prog w) h (isType (.ref C)) true) (hsub : Looks (model prog w) h (isSubtype (.ref C) (.type "list")) true)
    (hxC : x ≠ C) (hn : (name == ("__class__" : Str)) = false)
    (hq : Q (.done (.ret (.ref h.objs.size))) ⟨h.push (boundObj bt id x), g, d, t, os⟩) :
    wpAny (model prog w) A (Builtin.«super.__getattribute__» ⟨[.ref so, .str name tk], []⟩) Q E ⟨h, g, d, t, os⟩ := by
  have hlk := GB.slot.lookup
  have hne : (Value.ref x == Value.ref C) = false := by simp [hxC]
  have hTf : (⟨h, g, d, t, os⟩ : Shared).TypeIs (.builtin id) dT := GB.type
  have hdt : (ks_superObj D x C).data = .fields #[.ref D, .ref x, .ref C] := rfl
  have f0 : (#[.ref D, .ref x, .ref C] : Array Value)[0]? = some (.ref D) := rfl
  have f1 : (#[.ref D, .ref x, .ref C] : Array Value)[1]? = some (.ref x) := rfl
  have f2 : (#[.ref D, .ref x, .ref C] : Array Value)[2]? = some (.ref C) := rfl
  unfold Builtin.«super.__getattribute__»
  repeat (first
    | (with_reducible refine wpAny_field hso hdt f0 ?_) | (with_reducible refine wpAny_field hso hdt f1 ?_) | (with_reducible refine wpAny_field hso hdt f2 ?_)
    | (with_reducible refine ks_wpAny_notOpaque hno ?_)
    | (with_reducible refine Looks.at hC ?_; rw [hl])
    | (refine ks_forIn_along X (fun _ _ => rfl) rfl ?_ hf)
    | (with_reducible refine wpAny_typeOf hTf ?_)
    | (with_reducible refine wpAny_call_entry GB.slot hTf GB.entry ?_ (GB.args _ _ _))
    | (refine GB.run prog w _ _ ⟨h, g, d, t, os⟩ x C ox _ hx hxc hty hsub ?_)
    | (with_reducible refine ⟨_, rfl, ?_⟩)
    | (simp only [hn, hne, Bool.or_false, Bool.false_eq_true, if_false])
    | wp_step
    | dsimp only)
  all_goals exact hq
theorem acc_super_method {so D : Addr} {ox : Obj} {l₀ l : List Value} {name : Str} {pl : Sem Bool} {id dT gid bt : String} {Bg : Builtin} {Q : Value × List Value → Shared → Prop} {h : Heap} {g : Array GenState} {d : Drawn} {t : Nat} {os : OsState}
    (GB : GetsBound id dT gid bt Bg) (hso : h.get? so = some (ks_superObj D x C)) (hno : Looks (model prog w) h (opaqueClassAbove (.ref C)) none)
    (hC : Looks (model prog w) h (mroOf (.ref C)) l₀) (hl : (l₀.dropWhile (· != .ref D)).drop 1 = l) (X : K.In h)
    (hf : alongIn K name l = some (some (.builtin id))) (hx : h.get? x = some ox) (hxc : ox.cls = .ref C) (hty : Looks (model prog w) h (isType (.ref C)) true) (hsub : Looks (model prog w) h (isSubtype (.ref C) (.type "list")) true)
    (hxC : x ≠ C) (hn : (name == ("__class__" : Str)) = false)
    (hq : Q (.ref h.objs.size, []) ⟨h.push (boundObj bt id x), g, d, t + 1, os⟩) :
    wpAny (model prog w) A (getMethod (.ref so) name pl) Q E ⟨h, g, d, t, os⟩ := by
  have hlk := PySem.F.ks_slot_super_ga.lookup
  have hcan := PySem.F.ks_canon_super_ga
  have hT : ∀ t', (⟨h, g, d, t', os⟩ : Shared).TypeIs (.ref so) "super" := fun _ => ⟨_, hso, rfl⟩
  unfold getMethod
  refine wpAny_bind (wpAny_specialOf (hT _) hlk ?_)
  show wpAny _ _ (if (Manifest.canonical "super.__getattribute__" != "object.__getattribute__") = true then _ else _) _ _ _
  rw [if_pos hcan]
  unfold getAttr getAttrBy
  refine wpAny_bind (wpAny_bind (wpAny_mkText (wpAny_holding (wpAny_bind (wpAny_typeOf (hT _) (wpAny_bind (wpAny_of_eq hlk ?_)))))))
  show wpAny _ _ (getAttrByItsOwn (.ref so) (.str name t) (.type "super") (.builtin "super.__getattribute__") true false) _ _ _
  unfold getAttrByItsOwn hookBefore callGetattribute boundAndCalled
  refine wpAny_bind (wpAny_of_eq (show (if onTheHeap (.type "super") then typeLookup (.type "super") "__getattr__" else pure none) = pure none from rfl) ?_)
  refine wpAny_bind (wpAny_attempt (wpAny_holding ?_))
  show wpAny _ _ (bindSpecial (.builtin "super.__getattribute__") (.ref so) >>= _) _ _ _
  refine wpAny_bind (wpAny_of_eq (PySem.F.ks_slot_super_ga.bind _) ?_)
  refine wpAny_mono (Q := fun v s' => v = .ref h.objs.size ∧ s' = ⟨h.push (boundObj bt id x), g, d, t + 1, os⟩) (E := fun _ _ => False)
    (wpAny_call_entry PySem.F.ks_slot_super_ga (hT _) PySem.F.ks_entry_super_ga (acc_super_ga GB hso hno hC hl X hf hx hxc hty hsub hxC hn ⟨_, rfl, rfl, rfl⟩) (PySem.F.ks_gaArgs_super _ _)) (fun v s' hv => ?_) fun _ _ z => z.elim
  obtain ⟨rfl, rfl⟩ := hv
  exact wpAny_pure (wpAny_pure hq)
end
end Mine
end
section
open PySem PySem.W PyProof.Rows PySem.Calls
set_option maxRecDepth 100000
set_option maxHeartbeats 8000000
namespace Mine
theorem part_WSup2 : True := by
  w_top off
  trivial
section
variable {prog : Program} {w : World} {A : Around} {E : Value → Shared → Prop} {s : Shared} {K : Frag} {x C D dx L so q : Addr} {h₀ : Heap} {m : Str → Option Value} {news : List (Addr × Obj)} {od : Obj} {its : List Value} {n : Nat} {ox : Obj} {odx : Option Obj}
theorem acc_super {name : Str} {pl : Sem Bool} {id dT gid bt : String} {Bg : Builtin} {Q : Value × List Value → Shared → Prop} (GB : GetsBound id dT gid bt Bg) (F : Fr h₀ L s.heap m) (X₀ : K.In h₀) (N : News h₀ L s.heap news) (hso : (so, ks_superObj D x C) ∈ news)
    (I : PySem.W.InstAt s.heap x ox C odx) (ho : nsIn K cStatics "thirdparty.any" = some none) (hm : ks_superIn K C D name = some (some (.builtin id))) (hl : mroIn K C (.type "list") = some true) (hn : (name == ("__class__" : Str)) = false)
    (h : ∀ q h', Fr h₀ L h' m → News h₀ L h' ((q, boundObj bt id x) :: news) → (∀ p ∈ news, p.1 < q) → Q (.ref q, []) { s with heap := h', toks := s.toks + 1 }) : wpAny (model prog w) A (getMethod (.ref so) name pl) Q E s := by
  have X : K.In s.heap := X₀.keeps F.keep
  obtain ⟨hh, g, d, t, os⟩ := s
  cases hc : clsIn K C with
  | none => unfold ks_superIn at hm; rw [hc] at hm; cases hm
  | some cd =>
    unfold ks_superIn at hm
    rw [hc] at hm
    have hty : Looks (model prog w) hh (isType (.ref C)) true := by
      intro A Q E s k q
      unfold clsIn at hc
      split at hc
      · rename_i ho; exact ks_wpAny_isType_cls (k _ _ (X _ _ ho)) rfl q
      · cases hc
    refine acc_super_method GB (N _ hso).1 (looks_opaque X ho) (l₀ := cd.mro) ?_ rfl X hm I.at_ I.cls hty (looks_mroIn X hl) (ks_ne X I hc) hn ?_
    · exact fun A Q E s k q => wpAny_bind ((looks_clsIn X hc) A _ E s k (wpAny_pure q))
    · obtain ⟨F', N', l'⟩ := ks_newsPush (s := ⟨hh, g, d, t, os⟩) (o := boundObj bt id x) F N rfl (Heap.get?_push_at rfl rfl) (fun b o e => Heap.get?_push_of_some _ e)
      exact h _ _ F' N' l'
theorem keeps_bound {M : Model} {bt id : String} (hb : (Value.type bt != Value.type "method") = true) (hb' : (Value.type bt == Value.type "builtin_function_or_method" || Value.type bt == Value.type "method-wrapper") = true) (h : Heap) (hq : h.get? q = some (boundObj bt id x)) :
    ∃ k, (k = Keeper.frame ∨ k = Keeper.machine ∨ k = Keeper.boundFrame) ∧ Looks M h (keeperOf (.ref q)) k := by
  refine ⟨.machine, .inr (.inl rfl), ?_⟩
  unfold keeperOf
  refine (Looks.ld (part := none) hq).andThen ?_
  simp only [hb, hb', if_true]
  exact .now
theorem callWith_bnd {pos : Pos} {bt id : String} {first : List Value} {env : Env} {Q : Value → Shared → Prop} (N : News h₀ L s.heap news) (hq : (q, boundObj bt id x) ∈ news)
    (hb : (Value.type bt != Value.type "method") = true) (hb' : (Value.type bt == Value.type "builtin_function_or_method" || Value.type bt == Value.type "method-wrapper") = true)
    (h : wpAny (model prog w) A (call (.ref q) (first ++ [])) Q E s) : wpAny (model prog w) A (callWith pos (.ref q) first (backTo pos (starEach [] env)) []) Q E s :=
  callWith_of (P := fun h => h.get? q = some (boundObj bt id x)) rfl (keeps_bound hb hb') (evalArgs_nil3 ⟨(N _ hq).1, h⟩)
/-- the call of such a bound object -/
theorem bnd_call {bt id : String} {b : Builtin} {rest : List Value} {Q : Value → Shared → Prop} (hq : s.heap.get? q = some (boundObj bt id x))
    (hb : (Value.type bt == Value.type "method" || Value.type bt == Value.type "builtin_function_or_method" || Value.type bt == Value.type "method-wrapper") = true) (hb2 : (Value.type bt != Value.type "method") = true)
    (hchk : ∀ A Q E, Q () s → wpAny (model prog w) A (checkBoundCall id ⟨.ref x :: rest, []⟩) Q E s) (hp : plainId id = true) (hbe : entryFor table id = some b)
    (hc : wpAny (model prog w) A.in1 (b ⟨.ref x :: rest, []⟩) (fun fin s' => ∃ v, fin = .done (.ret v) ∧ Q v s') E s) : wpAny (model prog w) A (call (.ref q) rest) Q E s := by
  refine wpAny_call (codeAny_of_tree ?_)
  show wpAny _ _ (callAny (.ref q) ⟨rest, []⟩) _ _ _
  unfold callAny
  refine wpAny_bind (wpAny_load hq ?_)
  dsimp only [boundObj]
  rw [if_pos hb]
  show wpAny _ _ (if (Value.type bt != Value.type "method") = true then (checkBoundCall id ⟨.ref x :: rest, []⟩ >>= fun _ => again (.builtin id ⟨.ref x :: rest, []⟩)) else again (.call (.builtin id) ⟨.ref x :: rest, []⟩)) _ _ _
  rw [if_pos hb2]
  refine wpAny_bind (hchk _ _ _ (wpAny_pure ⟨plainId_quiet hp _, codeAny_builtin hbe ?_⟩))
  rw [Around.under_plainId hp _]
  refine wpAny_mono hc (fun fin s' h' => ?_) fun _ _ z => z
  obtain ⟨v, rfl, hv⟩ := h'
  exact hv
end
section
variable {M : Model} {A : Around} {E : Value → Shared → Prop} {s : Shared} {K : Frag} {x C : Addr} {ox : Obj} {od : Option Obj}
theorem bcheck_slot {id : String} {rest : List Value} {Q : Unit → Shared → Prop} (hk : builtinKind id = some .slot) (ha : argsOk id ⟨.ref x :: rest, []⟩) (hq : Q () s) : wpAny M A (checkBoundCall id ⟨.ref x :: rest, []⟩) Q E s := by
  unfold checkBoundCall
  cases hsig : Manifest.signature? id with
  | none => exact wpAny_pure hq
  | some sig =>
    simp only [argsOk, hsig] at ha
    dsimp only
    rw [hk]
    dsimp only
    rw [if_pos (by decide)]
    exact wpAny_of_eq ha hq
theorem kind_linit : builtinKind "list.__init__" = some .slot := by decide +kernel
theorem kind_llen : builtinKind "list.__len__" = some .slot := by decide +kernel
theorem kind_lpop : builtinKind "list.pop" = some .method := by decide +kernel
theorem args_linit (a : Value) : argsOk "list.__init__" ⟨[a], []⟩ := by unfold argsOk; kernel_rfl
theorem args_llen (a : Value) : argsOk "list.__len__" ⟨[a], []⟩ := by unfold argsOk; kernel_rfl
theorem args_lpop (a : Value) : argsOk "list.pop" ⟨[a], []⟩ := by unfold argsOk; kernel_rfl
theorem entry_linit : entryFor table "list.__init__" = some Builtin.«list.__init__» := entryFor_of_tree (by kernel_rfl)
theorem entry_llen : entryFor table "list.__len__" = some Builtin.«list.__len__» := entryFor_of_tree (by kernel_rfl)
theorem entry_lpop : entryFor table "list.pop" = some Builtin.«list.pop» := entryFor_of_tree (by kernel_rfl)
theorem sig_pop : Manifest.signature? "list.pop" = some ⟨.positional, "list.pop", "pop", .self, [⟨"index", .posOnly, false⟩]⟩ := by kernel_rfl
theorem chk_pop (a : Value) : Bind.checkArgs "list.pop" ⟨.positional, toString (Str.ofString "_Accumulator").toString ++ toString "." ++ toString (Bind.lastOf "list.pop"), "pop", .self, [⟨"index", .posOnly, false⟩]⟩ ⟨[a], []⟩ = pure () := by kernel_rfl
theorem bcheck_pop {cd : ClassData} {Q : Unit → Shared → Prop} (X : K.In s.heap) (I : PySem.W.InstAt s.heap x ox C od) (hm : mroIn K C (.type "module") = some false) (hcd : clsIn K C = some cd) (hqn : cd.qualname = Str.ofString "_Accumulator") (ht : typeIn K (.ref C) = some (.type "type")) (hq : Q () s) :
    wpAny M A (checkBoundCall "list.pop" ⟨[.ref x], []⟩) Q E s := by
  have hi : Looks M s.heap (isInstance (.ref x) (.type "module")) false := I.type.andThen (looks_mroIn X hm)
  have L2 := looks_clsIn (M := M) X hcd
  have L3 := looks_typeIn (M := M) X ht
  have hv : Manifest.varargsMethods.contains "list.pop" = false := by decide +kernel
  unfold checkBoundCall
  rw [sig_pop]
  dsimp only
  rw [kind_lpop]
  dsimp only
  rw [if_neg (by decide)]
  refine wpAny_bind (hi.here ?_)
  rw [hv]
  simp only [Bool.or_false, Bool.false_eq_true, if_false]
  refine wpAny_bind ?_
  have hnt : ∀ c, ox.data ≠ .cls c := fun c e => by have := I.no; unfold notCls at this; rw [e] at this; cases this
  obtain ⟨hp, g, d, tk, os⟩ := s
  refine ks_wpAny_isType_inst I.at_ hnt ?_
  simp only [Bool.false_eq_true, if_false]
  refine wpAny_bind (I.type.here ?_)
  dsimp only
  refine wpAny_bind (L2.here ?_)
  refine wpAny_bind (L3.here ?_)
  rw [if_pos (by decide), hqn]
  exact wpAny_of_eq (chk_pop _) hq
end
end Mine
end
section
open PySem PySem.W PyProof.Rows PySem.Calls PySem.Builtin PySem.Builtin.ObjectAttr
set_option maxRecDepth 100000
set_option maxHeartbeats 8000000
namespace Mine
theorem part_WAttr : True := by
  w_top off
  trivial
theorem slot_lga : Slot "list" "__getattribute__" "list.__getattribute__" := PySem.F.slot_list_getattribute
theorem refuse_list (self : Value) : refuseLoop self "__setattr__" [.type "list", .type "object"] = pure () := by kernel_rfl
def listMro (K : Frag) (C : Addr) : Bool := (clsIn K C).any fun cd => cd.mro == [.ref C, .type "list", .type "object"] && cd.hasDict
section
variable {prog : Program} {w : World} {A : Around} {E : Value → Shared → Prop} {s : Shared} {K : Frag} {x C D dx L : Addr} {h₀ : Heap} {m : Str → Option Value} {news : List (Addr × Obj)} {ox : Obj} {od : Option Obj} {its : List Value} {n : Nat} {name : Str}
theorem acc_get {expr : Bool} {v : Value} {Q : Value → Shared → Prop} (X : K.In s.heap) (I : PySem.W.InstAt s.heap x ox C od)
    (hga : findIn K (.ref C) "__getattribute__" = some (some (.builtin "list.__getattribute__"))) (hk : findIn K (.ref C) "__getattr__" = some none) (hm : mroIn K C (.type "list") = some true)
    (hf : findObj K C od name = some (.value v)) (hh : handedIn v = true) (h : Q v { s with toks := s.toks + 1 }) : wpAny (model prog w) A (getAttr (.ref x) name expr) Q E s := by
  obtain ⟨hp, g, d, t, os⟩ := s
  have L0 := I.type (M := model prog w)
  have L1 := looks_findIn (M := model prog w) X hga
  have L2 := looks_findIn (M := model prog w) X hk
  have L3 := looks_find (M := model prog w) X I hf
  dsimp only at X I L0 L1 L2 L3
  unfold getAttr getAttrBy
  refine wpAny_bind (wpAny_mkText (wpAny_holding (wpAny_bind (L0.at (wpAny_bind (L1.at ?_))))))
  show wpAny _ _ (getAttrByItsOwn (.ref x) (.str name t) (.ref C) (.builtin "list.__getattribute__") true expr) _ _ _
  unfold getAttrByItsOwn hookBefore callGetattribute boundAndCalled
  refine wpAny_bind ?_
  show wpAny _ _ (typeLookup (.ref C) "__getattr__") _ _ _
  refine L2.at ?_
  refine wpAny_bind (wpAny_attempt (wpAny_holding ?_))
  rw [show (expr && onTheHeap (Value.builtin "list.__getattribute__")) = false from Bool.and_false _, if_neg (by decide)]
  refine wpAny_bind (wpAny_of_eq (slot_lga.bind _) ?_)
  show wpAny _ _ (call (.builtin "list.__getattribute__") [.ref x, .str name t]) _ _ _
  refine acc_call (s := ⟨hp, g, d, t + 1, os⟩) (owner := "list") (n := "__getattribute__") (by decide +kernel) (by first | exact .inl (by decide +kernel) | exact .inr (by decide +kernel)) slot_lga.plain PySem.am_entry_list_getattribute X I hm (PySem.F.args_list_getattribute_2 _ _) ?_
  unfold Builtin.«object.__getattribute__»
  refine wpAny_bind (wpAny_pure ?_)
  dsimp only
  refine wpAny_bind (wpAny_pure (wpAny_bind (L0.at (wpAny_bind (L3.at ?_)))))
  refine wpAny_pure ⟨v, rfl, ?_⟩
  show wpAny _ _ (handedOut v) _ _ _
  rw [handedOut_of hh]; exact wpAny_pure h
theorem acc_set {gl : Obj → List (Addr × Obj)} {oe : List DictEntry} {on : Nat} {v : Value} {Q : Unit → Shared → Prop} {es' : List DictEntry} {n' : Nat} (X : K.In h₀) (F : Fr h₀ L s.heap m) (N : News h₀ L s.heap news) (hxm : (x, accObj C dx its n) ∈ news) (U : UpdF dx (dictOf oe on) news gl)
    (hs : findIn K (.ref C) "__setattr__" = some (some (.builtin "object.__setattr__"))) (hl : listMro K C = true) (ht : takerIn K C name = some none) (hg : (getL name oe).isSome = true)
    (e : (putL name (PyData.keyHash w.params name) (.str name (s.toks + 1)) v oe, putN name oe on) = (es', n')) (hz : es'.length ≤ 1000)
    (h : ∀ h', Fr h₀ L h' m → News h₀ L h' (gl (dictOf es' n')) → Q () { s with heap := h', toks := s.toks + 1 + 1 }) :
    wpAny (model prog w) A (setAttr (.ref x) name v) Q E s := by
  have X' := X.keeps F.keep
  have I := acc_inst N hxm (acc_mem U)
  have hdm := acc_mem U
  obtain ⟨pre, post, rfl, hgl, h1, h2⟩ := U.split
  rw [hgl] at h
  refine set_plain X' I hs ?_
  obtain ⟨cd, hc, hl2⟩ := any_some hl
  simp only [Bool.and_eq_true, beq_iff_eq] at hl2
  obtain ⟨hmro, hdict⟩ := hl2
  have SF := PySem.F.store_object
  have sub : Looks (model prog w) s.heap (isInstance (.ref x) (.type "object")) true := I.type.andThen (looks_mroIn X' (by unfold mroIn; rw [hc, Option.bind_some, hmro]; simp))
  have hm : Looks (model prog w) s.heap (mroOf (.ref C)) cd.mro := (looks_clsIn X' hc).andThen .now
  refine codeAny_call_builtin SF.slot.plain SF.entry (@check_slot (model prog w) _ _ { s with toks := s.toks + 1 } "object.__setattr__" "object" "__setattr__" (.ref x) [.str name s.toks, v] [] _ SF.kind SF.split sub (SF.args (.ref x) (.str name s.toks) v) ?_)
  obtain ⟨attr, ha, hr⟩ := Option.bind_eq_some_iff.mp ht
  have L3 : Looks (model prog w) s.heap (storeTaker? attr) none := by
    cases attr with
    | none => cases hr; exact .now
    | some a =>
      obtain ⟨b, hb, hbn⟩ := Option.map_eq_some_iff.mp hr
      refine (looks_takesIn X' hb).andThen ?_
      cases b with
      | true => cases hbn
      | false => exact .now
  rw [osa_eq, refuse_eq]
  obtain ⟨hp, g, d, t, os⟩ := s
  dsimp only at *
  refine wpAny_bind (wpAny_bind (I.type.at (wpAny_bind (hm.at ?_))))
  rw [hmro, refuseLoop_ref, refuse_list]
  refine wpAny_pure (wpAny_bind (I.type.at (wpAny_bind ((looks_findIn X' ha).at (wpAny_bind (L3.at ?_))))))
  obtain ⟨U1, U2⟩ := news_upd (d := dx) (o' := dictOf es' n') (f := Obj.putName name (PyData.keyHash w.params name) (.str name (t + 1)) v) F N h1 h2
    (by rw [putName_dict]; injection e with e1 e2; rw [e1, e2]) rfl
  have D1 := (N (dx, _) hdm).1
  have D2 := (U2 (dx, dictOf es' n') (by simp)).1
  have hx := (N _ hxm).1
  refine wpAny_bind (wpAny_pure (wpAny_bind (wpAny_bind (wpAny_loadPart hx (wpAny_bind ((looks_clsIn X' hc).at ?_))))))
  rw [hdict]
  refine wpAny_pure (a := some dx) (wpAny_bind (wpAny_pure (wpAny_bind ?_)))
  unfold nsSet
  refine wpAny_bind (wpAny_bind (wpAny_askSetting (wpAny_pure (wpAny_bind (wpAny_mkText (wpAny_bind (wpAny_loadPart D1 ?_)))))))
  have c : (!oe.toArray.any (·.key.isStr name) && oe.toArray.any (·.refKey)) = false := by
    rw [← Array.any_toList, ← Array.any_toList]
    simp only [getL] at hg
    split at hg
    · rename_i en he
      rw [show (oe.any fun x => x.key.isStr name) = true from List.any_eq_true.mpr ⟨en, List.mem_of_find?_eq_some he, List.find?_some (p := fun x : DictEntry => x.key.isStr name) he⟩]; rfl
    · split at hg
      · cases hg
      · rename_i z; rw [Bool.not_eq_true] at z; rw [z, Bool.and_false]
  dsimp only [dictOf]
  rw [aRefKeyMayBeTheName_at, c]
  refine wpAny_updatePart D1 ?_
  refine wpAny_bind (wpAny_lookBehind D2 (pastItsLine_dict (by rw [List.size_toArray, sizeLine_eq]; omega)) ?_)
  exact wpAny_pure (h _ U1 U2)
end
end Mine
end
section
open PySem PySem.W PyProof.Rows PySem.Calls PySem.Builtin PySem.Builtin.ObjectAttr
set_option maxRecDepth 100000
set_option maxHeartbeats 8000000
namespace Mine
theorem part_WMake : True := by
  w_top off
  trivial
def makesL (K : Frag) (C : Addr) : Bool := match K.lookup C with
  | some ⟨_, _, .cls cd, sl⟩ => !cd.abstract && !cd.hasDel && (sl.toList[4]?).join == some (.builtin "list.__new__") && cd.mro == [.ref C, .type "list", .type "object"] &&
      specialIn K (.ref C) "__call__" == some (some (.builtin "type.__call__")) && instIn K (.ref C) (.type "type") == some true
  | _ => false
structure MakesL (M : Model) (h : Heap) (C : Addr) : Prop where
  obj : ∃ oc od cd sl, h.get? C = some ⟨oc, od, .cls cd, sl⟩ ∧ cd.abstract = false ∧ cd.hasDel = false ∧ cd.mro = [.ref C, .type "list", .type "object"]
  made : Looks M h (Bind.madeBy (.ref C)) (some "list.__new__")
  base : Looks M h (Bind.staticBase (.ref C)) (.ref C)
  self : Looks M h (isSubtype (.ref C) (.ref C)) true
  top : Looks M h (isSubtype (.ref C) (.type "list")) true
  call : Looks M h (specialOf (.ref C) "__call__") (some (.builtin "type.__call__"))
  typ : Looks M h (isInstance (.ref C) (.type "type")) true
theorem makesL_of {K : Frag} {M : Model} {h : Heap} (X : K.In h) {C : Addr} (e : makesL K C = true) : MakesL M h C := by
  unfold makesL at e
  split at e
  · rename_i oc od cd sl ho
    simp only [Bool.and_eq_true, Bool.not_eq_true', beq_iff_eq] at e
    obtain ⟨⟨⟨⟨⟨e1, e2⟩, e3⟩, e4⟩, e7⟩, e8⟩ := e
    have hc : clsIn K C = some cd := by unfold clsIn; rw [ho]
    have hm : Looks M h (mroOf (.ref C)) cd.mro := (looks_clsIn X hc).andThen .now
    have made : Looks M h (Bind.madeBy (.ref C)) (some "list.__new__") := by
      intro A Q E s k q
      unfold Bind.madeBy
      refine wpAny_bind (hm A _ E s k ?_)
      rw [e4, List.forIn_cons]
      refine wpAny_bind (wpAny_bind (wpAny_bind (wpAny_bind (wpAny_loadPart (k _ _ (X _ _ ho)) (wpAny_pure ?_)))))
      dsimp only
      rw [← Array.getElem?_toList, e3]
      exact wpAny_pure (wpAny_pure (wpAny_pure q))
    refine ⟨⟨oc, od, cd, sl, X _ _ ho, e1, e2, e4⟩, made, ?_, looks_mroIn X ?_, looks_mroIn X ?_, looks_specialIn X e7, looks_instIn X e8⟩
    · intro A Q E s k q
      unfold Bind.staticBase
      refine wpAny_bind (hm A _ E s k ?_)
      rw [e4, List.forIn_cons]
      exact wpAny_bind (wpAny_bind (wpAny_bind (made A _ E s k (wpAny_pure (wpAny_pure (wpAny_pure q))))))
    · unfold mroIn; rw [hc, Option.bind_some, e4]; simp
    · unfold mroIn; rw [hc, Option.bind_some, e4]; simp
  · cases e
section
variable {prog : Program} {w : World} {A : Around} {K : Frag} {C : Addr} {R : Result → Shared → Prop} {h : Heap} {g : Array GenState} {d : Drawn} {t : Nat} {os : OsState}
theorem args_lnew (a b : Value) : argsOk "list.__new__" ⟨[a, b], []⟩ := by unfold argsOk; kernel_rfl
theorem kind_lnew : builtinKind "list.__new__" = some .builtinFn := by decide +kernel
theorem split_lnew : splitId "list.__new__" = some ("list", "__new__") := by decide +kernel
theorem new_L {z : Value} (Y : MakesL (model prog w) h C)
    (hq : R (.ok (.ret (.ref (h.objs.size + 1)))) ⟨(h.push emptyDict).push (accObj C h.objs.size [] 0), g, d, t, os⟩) :
    codeAny (model prog w) A (.call (.builtin "list.__new__") ⟨[.ref C, z], []⟩) R ⟨h, g, d, t, os⟩ := by
  obtain ⟨⟨oc, od, cd, sl, hC, e1, e2, e4⟩, made, base, self, top, call, typ⟩ := Y
  have hnt : ∀ {A' : Around} {Q' : Bool → Shared → Prop} {E' : Value → Shared → Prop}, Q' true ⟨h, g, d, t, os⟩ → wpAny (model prog w) A' (isType (.ref C)) Q' E' ⟨h, g, d, t, os⟩ := fun q => ks_wpAny_isType_cls hC rfl q
  refine codeAny_of_tree ?_
  show wpAny _ A.in1 (do checkBuiltinCall "list.__new__" ⟨[.ref C, z], []⟩; again (.builtin "list.__new__" ⟨[.ref C, z], []⟩)) _ _ _
  refine wpAny_bind ?_
  have rest : wpAny (model prog w) A.in1 (again (.builtin "list.__new__" ⟨[.ref C, z], []⟩)) (fun fin s' => match fin with | .done f => R (.ok f) s' | .again c' => c'.quiet = true ∧ codeAny (model prog w) A c' R s') (fun e s' => R (.error e) s') ⟨h, g, d, t, os⟩ := by
    refine wpAny_pure ⟨plainId_quiet PySem.F.plain_list_new _, codeAny_builtin_stack PySem.F.entry_list_new rfl fun p st => ?_⟩
    rw [Around.under_plainId PySem.F.plain_list_new _]
    have hown := owner_list_new
    simp only [hown]
    refine wpAny_bind (hnt ?_)
    simp only [Bool.not_true, Bool.false_eq_true, if_false]
    refine wpAny_bind (top.at ?_)
    simp only [Bool.not_true, Bool.false_eq_true, if_false]
    have hC1 := Heap.get?_push_of_some emptyDict hC
    have hC2 := Heap.get?_push_of_some (accObj C h.objs.size [] 0) hC1
    have fin : wpAny (model prog w) A.in1 (do
        let .ref d ← newDict | unsupported "internal:list.__new__"
        ret (← newObj (.ref C) (.seq #[]) (some d))) (fun fin s' => match fin with | .done f => R (.ok f) s' | .again c' => c'.quiet = true ∧ codeAny (model prog w) A c' R s') (fun e s' => R (.error e) s') ⟨h, g, d, t, os⟩ := by
      refine wpAny_bind (wpAny_newObj_type (T := "dict") ?_ (by size_fits))
      dsimp only
      refine wpAny_bind ?_
      show wpAny _ _ (newObjAsIs _ _ _) _ _ _
      unfold newObjAsIs classHasDel
      refine wpAny_bind (wpAny_alloc (wpAny_bind (wpAny_bind (wpAny_load hC2 (wpAny_pure ?_)))))
      rw [e2]
      refine wpAny_pure (wpAny_pure ?_)
      show R _ _
      rw [Heap.size_push]
      exact hq
    refine wpAny_bind (wpAny_pure ?_)
    rw [show (!typeHasDict (.ref C)) = false from rfl, if_neg (by decide)]
    exact fin
  have hargs := args_lnew (.ref C) z
  simp only [checkBuiltinCall, kind_lnew, split_lnew]
  rw [if_pos (by decide)]
  refine wpAny_bind (hnt ?_)
  simp only [Bool.not_true, Bool.false_eq_true, if_false]
  refine wpAny_bind (top.at ?_)
  simp only [Bool.not_true, Bool.false_eq_true, if_false]
  refine wpAny_bind (base.at (wpAny_bind (made.at ?_)))
  simp only [bne_self_eq_false, Bool.false_eq_true, if_false]
  revert hargs
  unfold argsOk
  cases Manifest.signature? "list.__new__" with
  | none => intro _; exact wpAny_pure rest
  | some sig => intro ha; exact wpAny_of_eq ha rest
theorem makeL_core {z : Value} {init : Value} (Y : MakesL (model prog w) h C) (hi : Looks (model prog w) h (typeLookup (.ref C) "__init__") (some init))
    (hb : ∀ self, Looks (model prog w) h (bindSpecial init self) (init, [self]))
    (hq : codeAny (model prog w) (A.under (.builtin "type.__call__" ⟨[.ref C, z], []⟩)) (.call init ⟨[.ref (h.objs.size + 1), z], []⟩) (InitBack (h.objs.size + 1) R) ⟨(h.push emptyDict).push (accObj C h.objs.size [] 0), g, d, t, os⟩) :
    codeAny (model prog w) A (.call (.ref C) ⟨[z], []⟩) R ⟨h, g, d, t, os⟩ := by
  have Y' := Y
  obtain ⟨⟨oc, od, cd, sl, hC, e1, e2, e4⟩, made, base, self, top, call, typ⟩ := Y
  refine codeAny_of_tree ?_
  show wpAny _ _ (callAny (.ref C) _) _ _ _
  refine nd_load hC ?_
  show wpAny _ _ (callAny.viaDunder (.ref C) _) _ _ _
  unfold callAny.viaDunder
  refine wpAny_bind (call.at ?_)
  dsimp only
  rw [tc_bind]
  refine wpAny_bind (wpAny_pure (wpAny_bind (wpAny_pure ?_)))
  refine wpAny_pure (a := Fin.again (.call (.builtin "type.__call__") ⟨[.ref C, z], []⟩)) (And.intro rfl ?_)
  refine codeAny_call_builtin_at (Code.quiet_builtin _ (by decide +kernel)) entry_typeCall (check_slot tc_kind tc_split typ (tc_args _ _ _) ?_)
  unfold Builtin.«type.__call__»
  have hm : Looks (model prog w) h (mroOf (.ref C)) cd.mro := ((Looks.ld (part := none) hC).andThen .now).andThen .now
  have e5 : cd.mro.isEmpty = false := by rw [e4]; rfl
  repeat (first | simp only [e5, Bool.false_eq_true, if_false] | with_reducible refine wpAny_call ?_ | lk)
  refine new_L Y' ?_
  have k : ∀ b o, h.get? b = some o → ((h.push emptyDict).push (accObj C h.objs.size [] 0)).get? b = some o := fun b o e => Heap.get?_push_of_some _ (Heap.get?_push_of_some _ e)
  have hx : ((h.push emptyDict).push (accObj C h.objs.size [] 0)).get? (h.objs.size + 1) = some (accObj C h.objs.size [] 0) := by heap_get
  have t1 : Looks (model prog w) ((h.push emptyDict).push (accObj C h.objs.size [] 0)) (typeOf (.ref (h.objs.size + 1))) (.ref C) := (Looks.ld hx).andThen .now
  have s1 := self.keeps k
  have i1 := hi.keeps k
  have b1 := (hb (.ref (h.objs.size + 1))).keeps k
  unfold isInstance callSpecial? specialOf
  repeat (first | with_reducible refine wpAny_call ?_ | lk)
  refine codeAny_mono hq fun r s' z => ?_
  rcases r with e | (v | _ | _ | _) <;> first | exact z | exact z.elim | skip
  obtain ⟨rfl, z⟩ := z
  exact wpAny_pure (wpAny_pure z)
end
section
variable {prog : Program} {w : World} {A : Around} {E : Value → Shared → Prop} {K : Frag} {C x : Addr} {s : Shared} {h₀ : Heap} {L : Addr} {m : Str → Option Value} {news : List (Addr × Obj)} {Q : Value → Shared → Prop}
theorem call_clsL {z : Value} {fI : Addr} (F : Fr h₀ L s.heap m) (X₀ : K.In h₀) (N : News h₀ L s.heap news) (hm : makesL K C = true)
    (hi : findIn K (.ref C) "__init__" = some (some (.ref fI))) (hf : isFn K (.ref fI) = true)
    (h : ∀ x dx h', Kept s.heap h' → s.heap.get? x = none → s.heap.get? dx = none → Fr h₀ L h' m → News h₀ L h' ((x, accObj C dx [] 0) :: (dx, dictOf [] 0) :: news) → (∀ p ∈ news, p.1 < dx) → @LT.lt Nat _ dx x →
      codeAny (model prog w) (A.under (.builtin "type.__call__" ⟨[.ref C, z], []⟩)) (.call (.ref fI) ⟨[.ref x, z], []⟩) (InitBack x fun r s' => match r with | .ok (.ret v) => Q v s' | .ok _ => False | .error e => E e s') { s with heap := h' }) :
    wpAny (model prog w) A (call (.ref C) [z]) Q E s := by
  have X := X₀.keeps F.keep
  refine wpAny_call ?_
  obtain ⟨hh, g, d, t, os⟩ := s
  have fresh : ∀ a, hh.objs.size ≤ a → hh.get? a = none := fun a ha => by
    cases e : hh.get? a with
    | none => rfl
    | some o => exact absurd (Heap.lt_size e) (Nat.not_lt.mpr ha)
  refine makeL_core (makesL_of X hm) (looks_findIn X hi) (fun self => bind_fn X self (beq_iff_eq.mp hf)) (h _ hh.objs.size _ (fun b o e => Heap.get?_push_of_some _ (Heap.get?_push_of_some _ e)) (fresh _ (Nat.le_succ _)) (fresh _ (Nat.le_refl _)) ((F.push _).push _) ?_ (fun p hp => Heap.lt_size (N p hp).1) (Nat.lt_succ_self _))
  have := (N.push F emptyDict).push (F.push _) (accObj C hh.objs.size [] 0)
  rwa [Heap.size_push] at this
end
end Mine
end
section
open PySem PySem.W PyProof.Rows PySem.Calls
set_option maxRecDepth 100000
set_option maxHeartbeats 8000000
namespace Mine
theorem part_WFacts : True := by
  w_top off
  trivial
section
variable (w : World)
theorem f_makes : makesL (wk.heap_39 w.params) 101 = true := by kernel_rfl
theorem f_listMro : listMro (wk.heap_39 w.params) 101 = true := by kernel_rfl
theorem f_mroList : mroIn (wk.heap_39 w.params) 101 (.type "list") = some true := by kernel_rfl
theorem f_mroMod : mroIn (wk.heap_39 w.params) 101 (.type "module") = some false := by kernel_rfl
theorem f_ga : findIn (wk.heap_39 w.params) (.ref 101) "__getattribute__" = some (some (.builtin "list.__getattribute__")) := by kernel_rfl
theorem f_gattr : findIn (wk.heap_39 w.params) (.ref 101) "__getattr__" = some none := by kernel_rfl
theorem f_sa : findIn (wk.heap_39 w.params) (.ref 101) "__setattr__" = some (some (.builtin "object.__setattr__")) := by kernel_rfl
theorem f_taker : takerIn (wk.heap_39 w.params) 101 "_initial_size" = some none := by kernel_rfl
theorem f_third : nsIn (wk.heap_39 w.params) cStatics "thirdparty.any" = some none := by kernel_rfl
theorem f_type101 : typeIn (wk.heap_39 w.params) (.ref 101) = some (.type "type") := by kernel_rfl
theorem f_cls0 : (clsIn (wk.heap_39 w.params) 101).map (·.qualname) = some (Str.ofString "_Accumulator") := by kernel_rfl
theorem f_cls : ∃ cd, clsIn (wk.heap_39 w.params) 101 = some cd ∧ cd.qualname = Str.ofString "_Accumulator" := Option.map_eq_some_iff.mp (f_cls0 w)
theorem f_sinit : ks_superIn (wk.heap_39 w.params) 101 101 "__init__" = some (some (.builtin "list.__init__")) := by kernel_rfl
theorem f_spop : ks_superIn (wk.heap_39 w.params) 101 101 "pop" = some (some (.builtin "list.pop")) := by kernel_rfl
theorem f_slen : ks_superIn (wk.heap_39 w.params) 101 101 "__len__" = some (some (.builtin "list.__len__")) := by kernel_rfl
theorem f_init : findIn (wk.heap_39 w.params) (.ref 101) "__init__" = some (some (.ref 38)) := by kernel_rfl
theorem f_len : findIn (wk.heap_39 w.params) (.ref 101) "__len__" = some (some (.ref 68)) := by kernel_rfl
theorem f_fn38 : isFn (wk.heap_39 w.params) (.ref 38) = true := by kernel_rfl
theorem f_fn68 : isFn (wk.heap_39 w.params) (.ref 68) = true := by kernel_rfl
end
end Mine
end
section
open PySem PySem.W PyProof.Rows PySem.Calls
set_option maxRecDepth 100000
set_option maxHeartbeats 8000000
namespace Mine
theorem part_WEnter : True := by
  w_top off
  trivial
def KeptBut (x : Addr) (h h' : Heap) : Prop := ∀ b o, b ≠ x → h.get? b = some o → h'.get? b = some o
theorem after_mut {h₀ h h' : Heap} {L x : Addr} {m : Str → Option Value} {news : List (Addr × Obj)} {o o' : Obj} {g : Obj → List (Addr × Obj)} (F : Fr h₀ L h m) (N : News h₀ L h news) (U : UpdF x o news g) (k : KeptBut x h h') (hx : h'.get? x = some o') :
    Fr h₀ L h' m ∧ News h₀ L h' (g o') := by
  obtain ⟨pre, post, rfl, hg, h1, h2⟩ := U.split
  have hxm := N (x, o) (by simp)
  obtain ⟨oL, es, ep, hL, r⟩ := F.ns
  refine ⟨⟨⟨oL, es, ep, k _ _ (Ne.symm hxm.2.1) hL, r⟩, fun b ob e => k b ob (fun q => ?_) (F.keep b ob e), F.above⟩, ?_⟩
  · rw [q, hxm.2.2] at e; cases e
  · rw [hg]
    intro p hp
    rcases List.mem_append.mp hp with q | q
    · have P := N p (List.mem_append_left _ q); exact ⟨k _ _ (h1 p q) P.1, P.2⟩
    · rcases List.mem_cons.mp q with rfl | q
      · exact ⟨hx, hxm.2⟩
      · have P := N p (List.mem_append_right _ (.tail _ q)); exact ⟨k _ _ (h2 p q) P.1, P.2⟩
section
variable {w : World} {A A₀ : Around} {s : Shared} {base h₀ : Heap} {outer : List Env} {L : Addr} {K : Frag} {prog p : Program} {loose : List Str} {m mg mb : Str → Option Value} {env : Env} {mean : ExcName → Option Value}  {news : List (Addr × Obj)}
    {R : Result → Shared → Prop} {name qual : Str} {params : Arguments} {body : List Stmt} {scope : Scope} {dV kV doc pm cdv ct oc : Value} {an od : Option Addr} {osl : Array (Option Value)} {f cc : Addr} {args : Args} {binds : List (Str × Value)}
theorem enterS (B : Below A₀ base outer h₀) (F : Fr h₀ L s.heap m) (X₀ : K.In h₀) (N : News h₀ L s.heap news) (T : Top p loose mean mg mb h₀) (hA : A.frames = some (env :: outer)) (hf : env.frame = some L) (hke : env.scope.kind = .function)
    (ho : K.lookup f = some ⟨oc, od, .func (ksFn name qual params body scope dV kV doc pm an cdv ct cc), osl⟩) (hcd : codeIn K cdv qual = true) (hroom : A.depth < recursionLimit)
    (hbind : BindsTo s (ksFn name qual params body scope dV kV doc pm an cdv ct cc) args binds) (hloc : ∀ y ∈ binds, scope.names.lookup y.1 = some .local)
    (h : ∀ g L' h₁, (∀ b o, s.heap.get? b = some o → b ∉ news.map (·.1) → g.get? b = some o) → Fr g L' h₁ (fun y => binds.reverse.lookup y) → News g L' h₁ news → Below A base (env :: outer) g → K.In g → Top p loose mean mg mb g → (∀ p ∈ news, p.1 < L') →
      _root_.PySem.wpAt (model prog w) (A.deeper (ksEnv qual scope L' f cdv cc)) (.func body (ksEnv qual scope L' f cdv cc)) (execs body (ksEnv qual scope L' f cdv cc))
        (fun fl s' => Exit0 g R (match fl with | .ret v => v | _ => .none) s') (fun _ _ => False)
        { s with heap := h₁, toks := s.toks + binds.length })
    (hcell : ∀ x ∈ scope.names, x.2 ≠ .cell := by decide) (hco : scope.isCoroutine = false := by rfl) (hgen : scope.isGenerator = false := by rfl) (hk : scope.kind = .function := by rfl) : codeAny (model prog w) A (.call (.ref f) args) R s := by
  obtain ⟨FG, BG, st, lv⟩ := groundX (R := R) B F N hA hf hke
  refine ks_codeAny_call_defAt (fd := ksFn name qual params body scope dV kV doc pm an cdv ct cc) (body := body) (binds := binds) hroom ((X₀.keeps F.keep) _ _ ho) rfl (T.nolimit.keeps F.keep) (codeRec_of (X₀.keeps F.keep) hcd) rfl hbind hcell hloc (fun h₁ hns hk₁ => ?_) hco hgen hk
  refine ks_wpAt_mono (h _ s.heap.objs.size h₁ (fun b o e nb => hideAll_get _ e nb) ⟨hns, fun b o e => hk₁ b o (of_hideAll _ e), Nat.le_of_eq (hideAll_size _ _)⟩
    (fun p hp => ⟨hk₁ _ _ (N p hp).1, Nat.ne_of_lt (Heap.lt_size (N p hp).1), hideAll_none _ (List.mem_map_of_mem hp)⟩) BG (X₀.keeps st) (T.keeps st) (fun p hp => Heap.lt_size (N p hp).1)) (fun fl s' hl => ?_) fun _ _ y => y.elim
  obtain ⟨L', m', F', k⟩ := hl
  exact k fun b o e => F'.keep b o e
theorem enterM (B : Below A₀ base outer h₀) (F : Fr h₀ L s.heap m) (X₀ : K.In h₀) (N : News h₀ L s.heap news) (T : Top p loose mean mg mb h₀) (hA : A.frames = some (env :: outer)) (hf : env.frame = some L) (hke : env.scope.kind = .function)
    (ho : K.lookup f = some ⟨oc, od, .func (fnOf name qual params body scope dV kV doc pm an cdv ct), osl⟩) (hcd : codeIn K cdv qual = true) (hroom : A.depth < recursionLimit)
    (hbind : BindsTo s (fnOf name qual params body scope dV kV doc pm an cdv ct) args binds) (hloc : ∀ y ∈ binds, scope.names.lookup y.1 = some .local)
    (h : ∀ g L' h₁, (∀ b o, s.heap.get? b = some o → b ∉ news.map (·.1) → g.get? b = some o) → Fr g L' h₁ (fun y => binds.reverse.lookup y) → News g L' h₁ news → Below A base (env :: outer) g → K.In g → Top p loose mean mg mb g → (∀ p ∈ news, p.1 < L') →
      wpAny (model prog w) (A.deeper (envOf qual scope L' f cdv)) (execs body (envOf qual scope L' f cdv))
        (fun fl s' => Exit0 g R (match fl with | .ret v => v | _ => .none) s') (fun _ _ => False)
        { s with heap := h₁, toks := s.toks + binds.length })
    (hco : scope.isCoroutine = false := by rfl) (hgen : scope.isGenerator = false := by rfl) (hk : scope.kind = .function := by rfl)
    (hcell : ∀ x ∈ scope.names, x.2 ≠ .cell := by decide) : codeAny (model prog w) A (.call (.ref f) args) R s := by
  obtain ⟨FG, BG, st, lv⟩ := groundX (R := R) B F N hA hf hke
  refine codeAny_call_def (fd := fnOf name qual params body scope dV kV doc pm an cdv ct) (body := body) (binds := binds) hroom ((X₀.keeps F.keep) _ _ ho) rfl (T.nolimit.keeps F.keep) (codeRec_of (X₀.keeps F.keep) hcd) rfl hbind hcell hloc (fun h₁ hns hk₁ => ?_) hco hgen hk
  refine wpAny_mono (h _ s.heap.objs.size h₁ (fun b o e nb => hideAll_get _ e nb) ⟨hns, fun b o e => hk₁ b o (of_hideAll _ e), Nat.le_of_eq (hideAll_size _ _)⟩
    (fun p hp => ⟨hk₁ _ _ (N p hp).1, Nat.ne_of_lt (Heap.lt_size (N p hp).1), hideAll_none _ (List.mem_map_of_mem hp)⟩) BG (X₀.keeps st) (T.keeps st) (fun p hp => Heap.lt_size (N p hp).1)) (fun fl s' hl => ?_) fun _ _ y => y.elim
  obtain ⟨L', m', F', k⟩ := hl
  exact k fun b o e => F'.keep b o e
end
theorem kept_two {h g h' : Heap} {x dx : Addr} {ox od : Obj} (hkeep : ∀ b o, h.get? b = some o → b ∉ [(x, ox), (dx, od)].map (·.1) → g.get? b = some o) (kp : ∀ b o, g.get? b = some o → h'.get? b = some o)
    (hx : h.get? x = some ox) (hd : h.get? dx = some od) (hx' : h'.get? x = some ox) (hd' : h'.get? dx = some od) : Kept h h' := by
  intro b o e
  by_cases q : b = x
  · subst q; rw [hx] at e; cases e; exact hx'
  · by_cases q2 : b = dx
    · subst q2; rw [hd] at e; cases e; exact hd'
    · exact kp b o (hkeep b o e (by simp [q, q2]))
theorem keptBut_two {h g h' : Heap} {x dx : Addr} {ox od : Obj} (hkeep : ∀ b o, h.get? b = some o → b ∉ [(x, ox), (dx, od)].map (·.1) → g.get? b = some o) (kp : ∀ b o, g.get? b = some o → h'.get? b = some o)
    (hd : h.get? dx = some od) (hd' : h'.get? dx = some od) : KeptBut x h h' := by
  intro b o q e
  by_cases q2 : b = dx
  · subst q2; rw [hd] at e; cases e; exact hd'
  · exact kp b o (hkeep b o e (by simp [q, q2]))
theorem fresh_two {h g : Heap} {x dx t : Addr} {ox od : Obj} (hkeep : ∀ b o, h.get? b = some o → b ∉ [(x, ox), (dx, od)].map (·.1) → g.get? b = some o) (hn : g.get? t = none) (h1 : t ≠ x) (h2 : t ≠ dx) : h.get? t = none := by
  cases e : h.get? t with
  | none => rfl
  | some o => rw [hkeep t o e (by simp [h1, h2])] at hn; cases hn
end Mine
end
section
open PySem PySem.W PyProof.Rows PySem.Calls
set_option maxRecDepth 100000
set_option maxHeartbeats 8000000
set_option linter.unusedVariables false
namespace Mine
theorem part_WMeth : True := by
  w_top off
  trivial
theorem plain_llen : plainId "list.__len__" = true := by decide +kernel
theorem plain_lpop : plainId "list.pop" = true := by decide +kernel
abbrev iniDict (w : World) (tk : Tok) (z : Int) (tz : Tok) : Obj := dictOf [⟨PyData.keyHash w.params (Str.ofString "_initial_size"), .str (Str.ofString "_initial_size") tk, .int z tz⟩] 1
theorem News.two {h₀ h : Heap} {L : Addr} {news : List (Addr × Obj)} {p q : Addr × Obj} (N : News h₀ L h news) (hp : p ∈ news) (hq : q ∈ news) : News h₀ L h [p, q] := by
  intro r hr
  rcases List.mem_cons.mp hr with rfl | hr
  · exact N _ hp
  · rw [List.mem_singleton.mp hr]; exact N _ hq
local macro_rules | `(tactic| k_inst) => `(tactic| (refine' acc_inst ?N ?h1 ?h2; (case N => k_asm); (case h1 => k_mem); (case h2 => k_mem)))
local macro_rules | `(tactic| walk_at "wpAt") => `(tactic| (ks_step "exec Expr"; k_dflt (refine PySem.ks_wpAt_Expr_any ?_)))
local macro_rules | `(tactic| walk_at "wpAt") => `(tactic| (ks_step "exec Return"; k_dflt (refine PySem.ks_wpAt_Return_some ?_)))
local macro_rules | `(tactic| walk_at "wpAt") => `(tactic| (ks_step "exec If"; k_dflt (refine PySem.ks_wpAt_If ?_)))
local macro_rules | `(tactic| walk_at "wpAt") => `(tactic| (ks_step "eval Call"; k_dflt (refine PySem.ks_wpAt_MethodCall ?_)))
local macro_rules | `(tactic| walk_at "wpAt") => `(tactic| dsimp only)
local macro_rules | `(tactic| k_all) => `(tactic| assumption)
local macro_rules | `(tactic| walk_at "Exit0") => `(tactic| (refine ⟨_, _, (by k_asm), ?_⟩; intro kp; (try dsimp only)))
local macro_rules | `(tactic| walk_at "callWith ref") => `(tactic| (k_here; k_dflt (refine' callWith_bnd ?k1 ?k2 ?k3 ?k4 ?_; (case k1 => k_asm); (case k2 => k_mem); (case k3 => decide); (case k4 => decide); k_whole; try dsimp only [List.nil_append, List.cons_append])))
local macro_rules | `(tactic| walk_at "call ref") => `(tactic| (k_here; k_dflt (refine' bnd_call (News.get ?N ?k1) ?k2 ?k3 ?k4 ?k5 entry_linit ?_; (case N => k_asm); (case k1 => k_mem); (case k2 => decide); (case k3 => decide); (case k4 => exact fun A Q E h => bcheck_slot kind_linit (args_linit _) h); (case k5 => decide +kernel); refine' acc_init_run ?k6 ?k7 ?k8 ?_; (case k6 => k_asm); (case k7 => k_asm); (case k8 => k_updF); k_whole; intro h' n' F' N'; (try dsimp only at N'); (try k_sweep); refine ⟨_, rfl, ?_⟩)))
local macro_rules | `(tactic| walk_at "call ref") => `(tactic| (k_here; k_dflt (refine' bnd_call (News.get ?N ?k1) ?k2 ?k3 ?k4 plain_llen entry_llen ?_; (case N => k_asm); (case k1 => k_mem); (case k2 => decide); (case k3 => decide); (case k4 => exact fun A Q E h => bcheck_slot kind_llen (args_llen _) h); refine' acc_len_run (News.get ?k6 ?k7) ?_; (case k6 => k_asm); (case k7 => k_mem); k_whole; intro t'; refine ⟨_, rfl, ?_⟩)))
local macro_rules | `(tactic| walk_at "call ref") => `(tactic| (k_here; k_dflt (refine' bnd_call (News.get ?N ?k1) ?k2 ?k3 ?k4 plain_lpop entry_lpop ?_; (case N => k_asm); (case k1 => k_mem); (case k2 => decide); (case k3 => decide); (case k4 => exact fun A Q E h => bcheck_pop (K := wk.heap_39 _) (by k_in) (by k_inst) (f_mroMod _) (f_cls _).choose_spec.1 (f_cls _).choose_spec.2 (f_type101 _) h); refine' acc_pop_run ?k6 ?k7 ?k8 ?k9 ?_; (case k6 => k_asm); (case k7 => k_asm); (case k8 => k_updF); (case k9 => assumption); k_whole; intro h' n' F' N'; (try dsimp only at N'); (try k_sweep); refine ⟨_, rfl, ?_⟩)))
local macro_rules | `(tactic| walk_at "setAttr ref") => `(tactic| (k_here; k_dflt (refine' acc_set ?k1 ?k2 ?k3 ?k4 ?k5 (f_sa _) (f_listMro _) (f_taker _) ?k6 ?k7 ?k8 ?_; (case k1 => k_asm); (case k2 => k_asm); (case k3 => k_asm); (case k4 => k_mem); (case k5 => k_updF); (case k6 => rfl); (case k7 => rfl); (case k8 => exact Nat.le_of_ble_eq_true rfl); k_whole; intro h' F' N'; (try dsimp only at N'); (try k_sweep))))
local macro_rules | `(tactic| walk_at "getMethod ref") => `(tactic| (k_here; k_dflt (first
  | (refine' acc_super gets_init ?k1 ?k2 ?k3 ?k4 ?k5 (f_third _) (f_sinit _) (f_mroList _) rfl ?_; (case k1 => k_asm); (case k2 => k_asm); (case k3 => k_asm); (case k4 => k_mem); (case k5 => k_inst))
  | (refine' acc_super gets_pop ?k1 ?k2 ?k3 ?k4 ?k5 (f_third _) (f_spop _) (f_mroList _) rfl ?_; (case k1 => k_asm); (case k2 => k_asm); (case k3 => k_asm); (case k4 => k_mem); (case k5 => k_inst))
  | (refine' acc_super gets_len ?k1 ?k2 ?k3 ?k4 ?k5 (f_third _) (f_slen _) (f_mroList _) rfl ?_; (case k1 => k_asm); (case k2 => k_asm); (case k3 => k_asm); (case k4 => k_mem); (case k5 => k_inst))); k_whole; intro q' h' F' N' l1; (try k_lt l1)))
local macro_rules | `(tactic| walk_at "getMethod ref") => `(tactic| (k_here; k_dflt (refine' acc_method (K := wk.heap_39 _) ?k1 ?k2 (f_ga _) canon_lga (f_gattr _) ?k3 ?k4 ?k5 ?k6 ?_; (case k1 => k_in); (case k2 => k_inst); (case k3 => k_is); (case k4 => k_is); (case k5 => rfl); (case k6 => rfl); k_whole)))
theorem m_new (w : World) {dp un : Nat} {gd : Option (List Code)} {cn : Str} {cs : Scope} {a : Addr} {ccd : Value} {cl : List (Str × Addr)} {outer : List Env} {A₀ : Around} {base h₀ : Heap} {L : Addr} {m : Str → Option Value} {s : Shared}
    {p : Program} {loose : List Str} {mean : ExcName → Option Value} {mg mb : Str → Option Value} {Q E : Value → Shared → Prop} {z : Int} {tz : Tok}
    (B : Below A₀ base outer h₀) (F : Fr h₀ L s.heap m) (X : (wk.heap_39 w.params).In h₀) (T : Top p loose mean mg mb h₀) (hk : cs.kind = .function) (hdp : dp + 5 < recursionLimit) (hun : un + 40 < cLine)
    (ret : ∀ x dx h' tki tk' n, Kept s.heap h' → s.heap.get? x = none → s.heap.get? dx = none → @LT.lt Nat _ dx x → h'.get? x = some (accObj 101 dx [] n) → h'.get? dx = some (iniDict w tki z tz) → Q (.ref x) { s with heap := h', toks := tk' }) :
    wpAny (model PySem.Challenge.rw_dw5001_01.row.prog w) (ktrTop dp un gd cn cs L a ccd cl outer) (call (.ref 101) [.int z tz]) Q E s := by
  revert X
  k_fill
  intro X
  refine call_clsL F X (News.nil (L := L)) (f_makes w) (f_init w) (f_fn38 w) ?_
  intro x dx h1 k1 fx fd F1 N1 l1 l2
  k_dflt (refine' enterS ?k1 ?k2 ?k3 ?k4 ?k5 ?kA ?kF ?kK ?k6 ?k7 ?k8 ?k9 ?kB ?_ ?c1 ?c2 ?c3 ?c4; (case kA => exact rfl); (case kF => exact rfl); (case kK => assumption); (case k1 => k_asm); (case k2 => k_asm); (case k3 => k_asm); (case k4 => k_asm); (case k5 => k_asm); (case k6 => k_is); (case k7 => k_is); (case k8 => ktr_room); (case k9 => first | exact BindsTo.of_eq rfl | exact binds_K (by k_in) rfl (by k_is) rfl rfl rfl); (case kB => exact locs rfl); (case c1 => decide); (case c2 => exact rfl); (case c3 => exact rfl); (case c4 => exact rfl))
  clear B X T
  intro g' L' h' hkeep F' N' B' X' T' l3
  (try k_lt l3)
  k_steps
  rename ∀ b o, g'.get? b = some o → Heap.get? _ b = some o => kp
  rename News g' L' _ _ => kN
  refine ⟨rfl, ?_⟩
  refine ret x dx _ _ _ _ (fun b o e => kp b o (hkeep b o (k1 b o e) ?_)) fx fd l2 (kN (x, _) (by k_mem)).1 (kN (dx, _) (by k_mem)).1
  intro hb
  simp only [List.map_cons, List.map_nil, List.mem_cons, List.not_mem_nil, or_false] at hb
  rcases hb with rfl | rfl
  · rw [fx] at e; cases e
  · rw [fd] at e; cases e
theorem m_pc (w : World) {dp un : Nat} {gd : Option (List Code)} {cn : Str} {cs : Scope} {a : Addr} {ccd : Value} {cl : List (Str × Addr)} {outer : List Env} {A₀ : Around} {base h₀ : Heap} {L : Addr} {m : Str → Option Value} {s : Shared}
    {p : Program} {loose : List Str} {mean : ExcName → Option Value} {mg mb : Str → Option Value} {Q E : Value → Shared → Prop} {x dx : Addr} {its : List Value} {n : Nat} {z : Int} {tz tki : Tok}
    (B : Below A₀ base outer h₀) (F : Fr h₀ L s.heap m) (X : (wk.heap_39 w.params).In h₀) (T : Top p loose mean mg mb h₀) (hk : cs.kind = .function)
    (N : News h₀ L s.heap [(x, accObj 101 dx its n), (dx, iniDict w tki z tz)]) (hxd : @LT.lt Nat _ dx x) (hdp : dp + 5 < recursionLimit) (hun : un + 40 < cLine)
    (ret : ∀ h' t tk', Kept s.heap h' → Q (.int its.length t) { s with heap := h', toks := tk' }) :
    wpAny (model PySem.Challenge.rw_dw5001_01.row.prog w) (ktrTop dp un gd cn cs L a ccd cl outer) (call (.ref 98) [.ref x]) Q E s := by
  revert X
  k_fill
  intro X
  refine wpAny_call ?_
  k_dflt (refine' enterS ?k1 ?k2 ?k3 ?k4 ?k5 ?kA ?kF ?kK ?k6 ?k7 ?k8 ?k9 ?kB ?_ ?c1 ?c2 ?c3 ?c4; (case kA => exact rfl); (case kF => exact rfl); (case kK => assumption); (case k1 => k_asm); (case k2 => k_asm); (case k3 => k_asm); (case k4 => k_asm); (case k5 => k_asm); (case k6 => k_is); (case k7 => k_is); (case k8 => ktr_room); (case k9 => first | exact BindsTo.of_eq rfl | exact binds_K (by k_in) rfl (by k_is) rfl rfl rfl); (case kB => exact locs rfl); (case c1 => decide); (case c2 => exact rfl); (case c3 => exact rfl); (case c4 => exact rfl))
  clear F B X T
  intro g' L' h' hkeep F' N' B' X' T' l3
  (try k_lt l3)
  k_steps
  rename ∀ b o, g'.get? b = some o → Heap.get? _ b = some o => kp
  rename News g' L' _ _ => kN
  exact ret _ _ _ (kept_two hkeep kp (N _ (.head _)).1 (N _ (.tail _ (.head _))).1 (kN (x, accObj 101 dx its n) (by k_mem)).1 (kN (dx, iniDict w tki z tz) (by k_mem)).1)
local macro_rules | `(tactic| walk_at "call ref") => `(tactic| (k_here; (with_reducible show wpAny _ _ (call (Value.ref 98) _) _ _ _); k_dflt (refine' m_pc _ ?k1 ?k2 ?k3 ?k4 ?k5 (News.two ?k6 ?k7 ?k8) ?k9 ?ka ?kb ?_; (case k1 => k_asm); (case k2 => k_asm); (case k3 => k_asm); (case k4 => k_asm); (case k5 => first | exact rfl | assumption); (case k6 => k_asm); (case k7 => k_mem); (case k8 => k_mem); (case k9 => assumption); (case ka => ktr_room); (case kb => ktr_units); k_whole; intro h' t' tk' kk; have F' := Kept.fr kk (by k_asm); have N' := Kept.news kk (by k_asm); clear kk; (try k_sweep))))
theorem m_pop1 (w : World) {dp un : Nat} {gd : Option (List Code)} {cn : Str} {cs : Scope} {a : Addr} {ccd : Value} {cl : List (Str × Addr)} {outer : List Env} {A₀ : Around} {base h₀ : Heap} {L : Addr} {m : Str → Option Value} {s : Shared}
    {p : Program} {loose : List Str} {mean : ExcName → Option Value} {mg mb : Str → Option Value} {Q E : Value → Shared → Prop} {x dx : Addr} {its : List Value} {v : Value} {n : Nat} {z : Int} {tz tki : Tok}
    (B : Below A₀ base outer h₀) (F : Fr h₀ L s.heap m) (X : (wk.heap_39 w.params).In h₀) (T : Top p loose mean mg mb h₀) (hk : cs.kind = .function)
    (N : News h₀ L s.heap [(x, accObj 101 dx (its ++ [v]) n), (dx, iniDict w tki z tz)]) (hxd : @LT.lt Nat _ dx x) (hlen : its.length ≤ 1000000) (hdp : dp + 10 < recursionLimit) (hun : un + 80 < cLine)
    (ret : ∀ h' tk' n', KeptBut x s.heap h' → h'.get? x = some (accObj 101 dx its n') → Q v { s with heap := h', toks := tk' }) :
    wpAny (model PySem.Challenge.rw_dw5001_01.row.prog w) (ktrTop dp un gd cn cs L a ccd cl outer) (call (.ref 61) [.ref x]) Q E s := by
  revert X
  k_fill
  intro X
  refine wpAny_call ?_
  k_dflt (refine' enterS ?k1 ?k2 ?k3 ?k4 ?k5 ?kA ?kF ?kK ?k6 ?k7 ?k8 ?k9 ?kB ?_ ?c1 ?c2 ?c3 ?c4; (case kA => exact rfl); (case kF => exact rfl); (case kK => assumption); (case k1 => k_asm); (case k2 => k_asm); (case k3 => k_asm); (case k4 => k_asm); (case k5 => k_asm); (case k6 => k_is); (case k7 => k_is); (case k8 => ktr_room); (case k9 => first | exact BindsTo.of_eq rfl | exact binds_K (by k_in) rfl (by k_is) rfl rfl rfl); (case kB => exact locs rfl); (case c1 => decide); (case c2 => exact rfl); (case c3 => exact rfl); (case c4 => exact rfl))
  clear F B X T
  intro g' L' h' hkeep F' N' B' X' T' l3
  (try k_lt l3)
  k_steps
  · exfalso
    rename (_ : Int) = 0 => e
    simp at e
    omega
  · rename ∀ b o, g'.get? b = some o → Heap.get? _ b = some o => kp
    rename News g' L' _ _ => kN
    exact ret _ _ _ (keptBut_two hkeep kp (N _ (.tail _ (.head _))).1 (kN (dx, iniDict w tki z tz) (by k_mem)).1) (kN (x, _) (by k_mem)).1
theorem m_pop0 (w : World) {dp un : Nat} {gd : Option (List Code)} {cn : Str} {cs : Scope} {a : Addr} {ccd : Value} {cl : List (Str × Addr)} {outer : List Env} {A₀ : Around} {base h₀ : Heap} {L : Addr} {m : Str → Option Value} {s : Shared}
    {p : Program} {loose : List Str} {mean : ExcName → Option Value} {mg mb : Str → Option Value} {Q E : Value → Shared → Prop} {x dx : Addr} {n : Nat} {z : Int} {tz tki : Tok}
    (B : Below A₀ base outer h₀) (F : Fr h₀ L s.heap m) (X : (wk.heap_39 w.params).In h₀) (T : Top p loose mean mg mb h₀) (hk : cs.kind = .function)
    (N : News h₀ L s.heap [(x, accObj 101 dx [] n), (dx, iniDict w tki z tz)]) (hxd : @LT.lt Nat _ dx x) (hdp : dp + 10 < recursionLimit) (hun : un + 80 < cLine)
    (ret : ∀ t h' t1 t2 tk', Kept s.heap h' → s.heap.get? t = none → h'.get? t = some { cls := .type "tuple", data := .seq #[.str (Str.ofString "") t1, .str (Str.ofString "") t2] } → Q (.ref t) { s with heap := h', toks := tk' }) :
    wpAny (model PySem.Challenge.rw_dw5001_01.row.prog w) (ktrTop dp un gd cn cs L a ccd cl outer) (call (.ref 61) [.ref x]) Q E s := by
  revert X
  k_fill
  intro X
  refine wpAny_call ?_
  k_dflt (refine' enterS ?k1 ?k2 ?k3 ?k4 ?k5 ?kA ?kF ?kK ?k6 ?k7 ?k8 ?k9 ?kB ?_ ?c1 ?c2 ?c3 ?c4; (case kA => exact rfl); (case kF => exact rfl); (case kK => assumption); (case k1 => k_asm); (case k2 => k_asm); (case k3 => k_asm); (case k4 => k_asm); (case k5 => k_asm); (case k6 => k_is); (case k7 => k_is); (case k8 => ktr_room); (case k9 => first | exact BindsTo.of_eq rfl | exact binds_K (by k_in) rfl (by k_is) rfl rfl rfl); (case kB => exact locs rfl); (case c1 => decide); (case c2 => exact rfl); (case c3 => exact rfl); (case c4 => exact rfl))
  clear F B X T
  intro g' L' h' hkeep F' N' B' X' T' l3
  (try k_lt l3)
  k_steps
  · rename ∀ b o, g'.get? b = some o → Heap.get? _ b = some o => kp
    rename News g' L' _ _ => kN
    refine ret _ _ _ _ _ (kept_two hkeep kp (N _ (.head _)).1 (N _ (.tail _ (.head _))).1 (kN (x, accObj 101 dx [] n) (by k_mem)).1 (kN (dx, iniDict w tki z tz) (by k_mem)).1) (fresh_two hkeep (kN _ (.head _)).2.2 ?_ ?_) (kN _ (.head _)).1 <;> (refine neN ?_; omega)
local macro_rules | `(tactic| walk_at "call builtin:list.append") => `(tactic| (k_here; k_dflt (refine' acc_append ?k1 ?k2 ?k3 ?k4 ?k5 (f_mroList _) ?k6 ?_; (case k1 => k_asm); (case k2 => k_asm); (case k3 => k_asm); (case k4 => k_updF); (case k5 => k_mem); (case k6 => assumption); k_whole; intro h' n' F' N'; (try dsimp only at N'); (try k_sweep))))
theorem m_push (w : World) {dp un : Nat} {gd : Option (List Code)} {cn : Str} {cs : Scope} {a : Addr} {ccd : Value} {cl : List (Str × Addr)} {outer : List Env} {A₀ : Around} {base h₀ : Heap} {L : Addr} {m : Str → Option Value} {s : Shared}
    {p : Program} {loose : List Str} {mean : ExcName → Option Value} {mg mb : Str → Option Value} {Q E : Value → Shared → Prop} {x dx : Addr} {its : List Value} {n : Nat} {z : Int} {tz tki ta tb : Tok} {va vb : Str}
    (B : Below A₀ base outer h₀) (F : Fr h₀ L s.heap m) (X : (wk.heap_39 w.params).In h₀) (T : Top p loose mean mg mb h₀) (hk : cs.kind = .function)
    (N : News h₀ L s.heap [(x, accObj 101 dx its n), (dx, iniDict w tki z tz)]) (hxd : @LT.lt Nat _ dx x) (hlen : its.length ≤ 1000000) (hdp : dp + 10 < recursionLimit) (hun : un + 80 < cLine)
    (ret : ∀ t h' tk' n', KeptBut x s.heap h' → s.heap.get? t = none → h'.get? t = some { cls := .type "tuple", data := .seq #[.str va ta, .str vb tb] } → h'.get? x = some (accObj 101 dx (its ++ [.ref t]) n') → Q .none { s with heap := h', toks := tk' }) :
    wpAny (model PySem.Challenge.rw_dw5001_01.row.prog w) (ktrTop dp un gd cn cs L a ccd cl outer) (call (.ref 45) [.ref x, .str va ta, .str vb tb]) Q E s := by
  revert X
  k_fill
  intro X
  refine wpAny_call ?_
  k_dflt (refine' enterM ?k1 ?k2 ?k3 ?k4 ?k5 ?kA ?kF ?kK ?k6 ?k7 ?k8 ?k9 ?kB ?_ ?c2 ?c3 ?c4 ?c1; (case kA => exact rfl); (case kF => exact rfl); (case kK => assumption); (case k1 => k_asm); (case k2 => k_asm); (case k3 => k_asm); (case k4 => k_asm); (case k5 => k_asm); (case k6 => k_is); (case k7 => k_is); (case k8 => ktr_room); (case k9 => first | exact BindsTo.of_eq rfl | exact binds_K (by k_in) rfl (by k_is) rfl rfl rfl); (case kB => exact locs rfl); (case c1 => decide); (case c2 => exact rfl); (case c3 => exact rfl); (case c4 => exact rfl))
  clear F B X T
  intro g' L' h' hkeep F' N' B' X' T' l3
  (try k_lt l3)
  k_steps
  rename ∀ b o, g'.get? b = some o → Heap.get? _ b = some o => kp
  rename News g' L' _ _ => kN
  refine ret _ _ _ _ (keptBut_two hkeep kp (N _ (.tail _ (.head _))).1 (kN (dx, iniDict w tki z tz) (by k_mem)).1) (fresh_two hkeep (kN _ (.head _)).2.2 ?_ ?_) (kN _ (.head _)).1 (kN (x, _) (by k_mem)).1 <;> (refine neN ?_; omega)
end Mine
end
section
open PySem PySem.W PyProof.Rows PySem.Calls
set_option maxRecDepth 100000
set_option maxHeartbeats 8000000
namespace Mine
theorem part_WIter : True := by
  w_top off
  trivial
/-- a sequence, of whatever class -/
def SeqAt (h : Heap) (l : Addr) (items : Array Value) : Prop := ∃ o n, h.get? l = some o ∧ o.data = .seq items n
theorem SeqAt.keeps {h h' : Heap} {l : Addr} {items : Array Value} (x : SeqAt h l items) (k : ∀ o, h.get? l = some o → h'.get? l = some o) : SeqAt h' l items := let ⟨o, n, e, d⟩ := x; ⟨o, n, k o e, d⟩
section
variable {prog : Program} {w : World} {A : Around} {E : Value → Shared → Prop} {s : Shared} {K : Frag} {x C : Addr} {ox : Obj} {od : Option Obj}
theorem acc_iter {Q : Value → Shared → Prop} (X : K.In s.heap) (I : PySem.W.InstAt s.heap x ox C od) (hf : findIn K (.ref C) "__iter__" = some (some (.builtin "list.__iter__"))) (hm : mroIn K C (.type "list") = some true)
    (hQ : Q (.ref s.heap.objs.size) { s with heap := s.heap.push { cls := .type "list_iterator", data := .fields #[.ref x, .int 0 0] } }) :
    wpAny (model prog w) A (pyIter (.ref x)) Q E s := by
  have L1 := I.type (M := model prog w)
  have L2 := looks_findIn (M := model prog w) X hf
  unfold pyIter specialOf
  refine wpAny_bind (wpAny_bind (L1.here (L2.here ?_)))
  dsimp only
  refine wpAny_bind ?_
  simp only [callSpecialIfBoundUnlessNone?, bindSpecialIfBound?, specialOf]
  refine wpAny_holding (wpAny_bind (wpAny_bind (wpAny_bind (L1.here (L2.here ?_)))))
  have bnd := PySem.slot_list_iter.bind (.ref x)
  have fin : wpAny (model prog w) A (if (Value.builtin "list.__iter__" == Value.none) = true then ((do rule "iter.none"; raiseError "TypeError" s!"'{← PySem.typeNameOf (.ref x)}' object is not iterable" : Sem Value) >>= fun v => pure (some v)) else (call (.builtin "list.__iter__") [.ref x] >>= fun v => pure (some v)))
      (fun a s' => wpAny (model prog w) A (match a with
        | some it => (do match ← specialOf it "__next__" with
            | none => rule "iter.non-iterator"; raiseError "TypeError" s!"iter() returned non-iterator of type '{← PySem.typeNameOf it}'"
            | some _ => pure it)
        | none => (do match ← bindSpecialIfBound? (.ref x) "__getitem__" with
            | none => rule "iter.not-iterable"; raiseError "TypeError" s!"'{← PySem.typeNameOf (.ref x)}' object is not iterable"
            | some _ => rule "iter.getitem-fallback"; newFields "iterator" [.ref x, ← mkInt 0])) Q E s') E s := by
    simp only [builtin_beq_none, Bool.false_eq_true, if_false]
    refine wpAny_bind (acc_call (owner := "list") (n := "__iter__") (by decide +kernel) (by first | exact .inl (by decide +kernel) | exact .inr (by decide +kernel)) PySem.slot_list_iter.plain PySem.entry_list_iter X I hm (PySem.args_list_iter _) ?_)
    show wpAny _ _ (do ret (← newFields "list_iterator" [.ref x, rawInt 0])) _ _ s
    refine wpAny_bind (wpAny_newObj_type (wpAny_pure ⟨_, rfl, wpAny_pure ?_⟩) (by size_fits))
    dsimp only
    exact wpAny_bind (wpAny_specialOf (T := "list_iterator") ⟨_, Heap.get?_push_size _ rfl, rfl⟩ PySem.slot_listiter_next.lookup (wpAny_pure hQ))
  simp only [bnd]
  refine wpAny_bind (wpAny_askSetting (wpAny_ite ?_))
  split
  · exact wpAny_bind (wpAny_pure (wpAny_pure fin))
  · exact wpAny_tryCatch (wpAny_bind (wpAny_pure (wpAny_pure fin)))
theorem seq_next {it l : Addr} {i : Nat} {items : Array Value} {v : Value} {Q : Option Value → Shared → Prop} (hit : s.heap.IsListIter it l i) (hl : SeqAt s.heap l items) (hx : items[i]? = some v)
    (hQ : ∀ h', h'.IsListIter it l (i + 1) → Heap.SameBut it s.heap h' → Q (some v) { s with heap := h' }) : wpAny (model prog w) A (pyNext (.ref it)) Q E s := by
  obtain ⟨oi, hoi, hci, hdi⟩ := id hit
  obtain ⟨ol, nl, hol, hdl⟩ := hl
  unfold pyNext
  refine wpAny_bind (wpAny_attempt (wpAny_callSpecial?_slot (name := Str.ofString "__next__") hit.typeIs PySem.slot_listiter_next
    (wpAny_call_entry PySem.slot_listiter_next hit.typeIs PySem.entry_listiter_next ?_ (PySem.args_listiter_next _))))
  have f0 : (#[.ref l, .int i 0] : Array Value)[0]? = some (.ref l) := rfl
  have f1 : (#[.ref l, .int i 0] : Array Value)[1]? = some (.int i 0) := rfl
  show wpAny _ _ (field (.ref it) 0 >>= _) _ _ s
  refine wpAny_bind (wpAny_field hoi hdi f0 ?_)
  show wpAny _ _ (if (Value.ref l == Value.none) = true then _ else _) _ _ s
  refine wpAny_ite_false rfl ?_
  show wpAny _ _ (field (.ref it) 1 >>= _) _ _ s
  refine wpAny_bind (wpAny_field hoi hdi f1 ?_)
  show wpAny _ _ (seqItems? (.ref l) >>= _) _ _ s
  refine wpAny_bind (wpAny_seqItems hol hdl ?_)
  simp only [Int.toNat_natCast, hx]
  refine wpAny_bind (wpAny_setField hoi hdi (by simp) (wpAny_pure ⟨v, rfl, wpAny_pure (hQ _ ⟨_, Heap.get?_update_self _ hoi (Obj.isFreed_of_fields (Obj.data_mapFields hdi _)), (Obj.cls_mapFields ..).trans hci, ?_⟩ (Heap.SameBut.update ..))⟩))
  rw [Obj.data_mapFields hdi]
  simp [rawInt]
theorem seq_done {it l : Addr} {i : Nat} {items : Array Value} {Q : Option Value → Shared → Prop} (hh : A.handled = none) (hit : s.heap.IsListIter it l i) (hl : SeqAt s.heap l items) (hx : items[i]? = none)
    (hQ : ∀ h', Heap.ExtBut it s.heap h' → Q none { s with heap := h' }) : wpAny (model prog w) A (pyNext (.ref it)) Q E s := by
  obtain ⟨oi, hoi, hci, hdi⟩ := id hit
  obtain ⟨ol, nl, hol, hdl⟩ := hl
  unfold pyNext
  refine wpAny_bind (wpAny_attempt (wpAny_callSpecial?_slot (name := Str.ofString "__next__") hit.typeIs PySem.slot_listiter_next
    (wpAny_call_entry PySem.slot_listiter_next hit.typeIs PySem.entry_listiter_next ?_ (PySem.args_listiter_next _))))
  have f0 : (#[.ref l, .int i 0] : Array Value)[0]? = some (.ref l) := rfl
  have f1 : (#[.ref l, .int i 0] : Array Value)[1]? = some (.int i 0) := rfl
  show wpAny _ _ (field (.ref it) 0 >>= _) _ _ s
  refine wpAny_bind (wpAny_field hoi hdi f0 ?_)
  show wpAny _ _ (if (Value.ref l == Value.none) = true then _ else _) _ _ s
  refine wpAny_ite_false rfl ?_
  show wpAny _ _ (field (.ref it) 1 >>= _) _ _ s
  refine wpAny_bind (wpAny_field hoi hdi f1 ?_)
  show wpAny _ _ (seqItems? (.ref l) >>= _) _ _ s
  refine wpAny_bind (wpAny_seqItems hol hdl ?_)
  simp only [Int.toNat_natCast, hx]
  refine wpAny_bind (wpAny_rule (wpAny_bind (wpAny_setField hoi hdi (by simp) ?_)))
  show wpAny _ _ (newExc (.type "StopIteration") [] >>= _) _ _ _
  have hnone : A.in1.handled = none := hh
  wp_walk
  simp only [raiseNew]
  refine wpAny_bind (wpAny_handled ?_)
  rw [hnone]
  refine wpAny_bind (wpAny_pure (wpAny_throw ?_))
  refine wpAny_bind (wpAny_isInstance (T := "StopIteration") (b := true) ⟨_, Heap.get?_push_size _ rfl, rfl⟩ PySem.isSubtype_stop ?_)
  exact wpAny_pure (hQ _ (((Heap.SameBut.update ..).extBut.push _).push _))
end
theorem walksU_acc {prog : Program} {w : World} {A : Around} (hh : A.handled = none) (I x : Addr) (hne : x ≠ I) (items : Array Value) (Ts : Nat → Addr) (vals : Nat → Array Value)
    (hit : ∀ j, j < items.size → items[j]? = some (.ref (Ts j))) (hTI : ∀ j, j < items.size → Ts j ≠ I) :
    WalksU prog w A I (I :: x :: (List.range items.size).map Ts) [I] items.size (fun j v => j < items.size ∧ v = vals j)
      (fun j h => h.IsListIter I x j ∧ SeqAt h x items ∧ ∀ k, k < items.size → h.IsTuple (Ts k) (vals k))
      (fun j T h => (j < items.size ∧ T = Ts j) ∧ h.IsListIter I x (j + 1) ∧ SeqAt h x items ∧ ∀ k, k < items.size → h.IsTuple (Ts k) (vals k)) := by
  have mem : ∀ k, k < items.size → Ts k ∈ I :: x :: (List.range items.size).map Ts := fun k hk => .tail _ (.tail _ (List.mem_map.mpr ⟨k, List.mem_range.mpr hk, rfl⟩))
  refine ⟨fun b hb => by rw [List.mem_singleton.mp hb]; exact .head _, fun j h h' st hk => ⟨st.1.at fun o e => hk I (.head _) o e, st.2.1.keeps fun o e => hk x (.tail _ (.head _)) o e, fun k hk' => (st.2.2 k hk').at fun o e => hk (Ts k) (mem k hk') o e⟩, ?_, ?_, ?_, ?_, ?_⟩
  · intro j s Q E hj st hQ
    refine seq_next st.1 st.2.1 (hit j hj) fun h' hi' hs' => ?_
    have up : ∀ b o, b ≠ I → s.heap.get? b = some o → h'.get? b = some o := fun b o hb e => hs'.extBut b o hb e
    have tup : ∀ k, k < items.size → h'.IsTuple (Ts k) (vals k) := fun k hk' => (st.2.2 k hk').at fun o e => up _ o (hTI k hk') e
    exact hQ (Ts j) (vals j) h' s.toks ⟨hj, rfl⟩ (tup j hj) ⟨⟨hj, rfl⟩, hi', st.2.1.keeps fun o e => up _ o hne e, tup⟩ fun b o hb e => up b o (fun q => hb (by rw [q]; exact .head _)) e
  · intro elts k pos j T s Q E hm hQ
    exact wpAny_letOwnedTupleGo_listiter hm.2.1 (hQ s.heap hm.2 fun _ _ _ e => e)
  · intro j T h hm hmem
    exact hTI j hm.1.1 (hm.1.2 ▸ List.mem_singleton.mp hmem)
  · intro s Q E st hQ
    exact seq_done hh st.1 st.2.1 (by simp) fun h' he' => hQ h' s.toks fun b o hb e => he' b o (fun q => hb (by rw [q]; exact .head _)) e
  · intro j s Q E st hQ
    exact wpAny_pyIter_listiter st.1 hQ
end Mine
end
section
open PySem PySem.W PyProof.Rows PySem.Calls
set_option maxRecDepth 100000
set_option maxHeartbeats 8000000
namespace Mine
theorem part_WGen : True := by
  w_top off
  trivial
theorem f_iter101 (w : World) : findIn (wk.heap_39 w.params) (.ref 101) "__iter__" = some (some (.builtin "list.__iter__")) := by kernel_rfl
theorem f_len_none (w : World) : nsIn (wk.heap_39 w.params) mainGlobals "len" = some none := by kernel_rfl
theorem f_sum_none (w : World) : nsIn (wk.heap_39 w.params) mainGlobals "sum" = some none := by kernel_rfl
theorem pass_all (n : Nat) : passing (fun _ => true) n 0 = List.range n := by
  unfold passing
  simp
theorem code67 (w : World) : (wk.heap_39 w.params).lookup 67 = some { cls := .type "code", data := .fields #[.str (Str.ofString "__len__") 246, .str (Str.ofString "_Accumulator.__len__") 247, .str (Str.ofString "/claim/cut.py") 248, .int 23 0, .int 1 0, .int 0 0, .int 0 0, .int 3 0, .ref 62, .bool true, .int 181 0, .ref 63, .none, .ref 64, .ref 65, .ref 66, .int 250 0, .int 23 0, .str (Str.ofString "/claim/cut.py") 251] } := by kernel_rfl
theorem isCode67 {w : World} {h : Heap} {ps : Array Value} (X : (wk.heap_39 w.params).In h) (ht : h.get? 63 = some (tabObj ps)) (htr : TriplesOk ps.toList) : h.IsCode 67 63 ps :=
  ⟨_, _, _, _, _, _, _, _, _, _, X _ _ (code67 w), rfl, rfl, rfl, rfl, rfl, rfl, ht, rfl, htr, by decide⟩
theorem tab67 {w : World} {h : Heap} {ps : Array Value} (X : (wk.heap_39 w.params).In h) (ht : h.get? 63 = some (tabObj ps)) : h.TableAt 67 63 ps :=
  ⟨⟨_, _, X _ _ (code67 w), rfl, rfl, rfl⟩, ht⟩
theorem gen_code {M : Model} {w : World} {A : Around} {E : Value → Shared → Prop} {s : Shared} {env : Env} {pos : Pos} {q : Str} {scope : Scope} {ps : Array Value} {Q : Value → Shared → Prop} (hc : env.code = .ref 67) (X : (wk.heap_39 w.params).In s.heap)
    (ht : s.heap.get? 63 = some (tabObj ps)) (htr : TriplesOk ps.toList)
    (hQ : ∀ cv h' tk ps', KeptBut 63 s.heap h' → h'.get? 63 = some (tabObj ps') → TriplesOk ps'.toList → s.heap.objs.size ≤ h'.objs.size → Q cv { s with heap := h', toks := tk }) :
    wpAny M A (genexprCode env pos q scope) Q E s := by
  have hok := isCode67 X ht htr
  cases hnf : codeAmong pos ps.toList with
  | some cv => exact wpAny_genexprCode_hit hc hok hnf (hQ cv s.heap s.toks ps (fun _ _ _ e => e) ht htr (Nat.le_refl _))
  | none =>
    refine wpAny_genexprCodeX hc hok (tab67 X ht) hnf fun c' h' tk hx hge hlt hcode' _ htab' _ => ?_
    obtain ⟨o, vs, file, tf, flags, tg, inF, text, tt, op, ho, hd, h11, h2, h7, h9, h10, hop, hpd, htr', hne⟩ := id hcode'
    exact hQ _ h' tk _ (fun b o hb e => hx b o hb e) htab'.2 htr' (Nat.le_trans hge (Nat.le_of_lt hlt))
/-- the stack's pieces as numbers: blanks and a letter for each -/
def bl (r : Nat) : Str := ⟨Array.replicate (r % 3) 32⟩
def pc (r : Nat) : Str := ⟨#[97 + r]⟩
abbrev pieceObj (r : Nat) (ta tb : Tok) : Obj := { cls := .type "tuple", data := .seq #[.str (bl r) ta, .str (pc r) tb] }
inductive StkAt (h : Heap) : List Value → List Nat → Prop
  | nil : StkAt h [] []
  | cons {a : Addr} {ta tb : Tok} {r : Nat} {vs : List Value} {rs : List Nat} : h.get? a = some (pieceObj r ta tb) → StkAt h vs rs → StkAt h (.ref a :: vs) (r :: rs)
theorem StkAt.mono {h h' : Heap} {vs : List Value} {rs : List Nat} (x : StkAt h vs rs) (k : ∀ a r ta tb, h.get? a = some (pieceObj r ta tb) → h'.get? a = some (pieceObj r ta tb)) : StkAt h' vs rs := by
  induction x with
  | nil => exact .nil
  | cons e _ ih => exact .cons (k _ _ _ _ e) ih
theorem StkAt.length {h : Heap} {vs : List Value} {rs : List Nat} (x : StkAt h vs rs) : vs.length = rs.length := by
  induction x with
  | nil => rfl
  | cons _ _ ih => simp [ih]
theorem StkAt.at {h : Heap} {vs : List Value} {rs : List Nat} (x : StkAt h vs rs) : ∀ j, j < vs.length → ∃ a ta tb, vs[j]? = some (.ref a) ∧ h.get? a = some (pieceObj (rs.getD j 0) ta tb) := by
  induction x with
  | nil => intro j hj; simp at hj
  | cons e _ ih =>
    intro j hj
    cases j with
    | zero => exact ⟨_, _, _, rfl, e⟩
    | succ j => obtain ⟨a, ta, tb, h1, h2⟩ := ih j (by simpa using hj); exact ⟨a, ta, tb, by simpa using h1, by simpa using h2⟩
theorem StkAt.append {h : Heap} {vs : List Value} {rs : List Nat} {a : Addr} {ta tb : Tok} {r : Nat} (x : StkAt h vs rs) (e : h.get? a = some (pieceObj r ta tb)) : StkAt h (vs ++ [.ref a]) (rs ++ [r]) := by
  induction x with
  | nil => exact .cons e .nil
  | cons e' _ ih => exact .cons e' ih
def lenAt (rs : List Nat) (j : Nat) : Int := ((rs.getD j 0 % 3 + 1 : Nat) : Int)
section
variable {prog : Program} {w : World} {A : Around} {E : Value → Shared → Prop} {s : Shared} {g : Heap} {L f x dx : Addr} {m mg mb : Str → Option Value} {p : Program} {loose : List Str} {mean : ExcName → Option Value} {its : List Value} {st : List Nat} {n : Nat} {od : Obj} {ps : Array Value}
def SumOf (prog : Program) (w : World) (A : Around) (s₀ : Shared) (a : Addr) (n : Nat) (val : Nat → Int) (s' : Shared) : Prop :=
  ∃ fp wr gq St P, WalksS prog w A.in4 a fp wr (GenOnlyQ gq) n P St ∧ (∀ j v, P j v → ∃ t, v = .int (val j) t) ∧ St 0 s' ∧ (∀ b ∈ fp, b < s'.heap.objs.size) ∧ ∀ b ∈ wr, s₀.heap.get? b = none
theorem len_term {cenv : Env} {nm sv : Str} {tv : Tok} {p1 p2 p3 : Pos} {s₂ : Shared} {m₂ : Str → Option Value} (hk : cenv.scope.kind = .function) (hl : cenv.kindOf "len" = some .globalImplicit) (hn : cenv.kindOf nm = some .local) (hnd : (nm == ("__debug__" : Str)) = false)
    (hg : s₂.heap.Ns cenv.globals mg) (hb : s₂.heap.Ns cenv.builtins mb) (hns : s₂.heap.Ns cenv.locals m₂) (e1 : mg "len" = none) (e2 : mb "len" = some (.builtin "len")) (e3 : m₂ nm = some (.str sv tv)) (hsz : sv.length ≤ 100) :
    wpAny (model prog w) A (eval (.Call (.Name "len" p1) [.Name nm p2] [] p3) cenv) (fun v s₃ => ∃ t tk, v = .int sv.length t ∧ s₃ = { s₂ with toks := tk }) E s₂ := by
  walk1
  refine Name_function_global hk hl (loadGlobal_builtin hg e1 hb e2 ?_) (by decide)
  walk1
  walk1
  refine wpAny_Name (wpAny_loadName_local hk hn hns e3 ?_) hnd
  walk1
  refine PySem.P.len_str (by omega) ⟨_, _, rfl, rfl⟩
theorem gen_len {qn : Str} {sc scg : Scope} {p1 p2 p3 p4 p5 p6 p7 p8 pa pb pt pos : Pos} {kt : Nat} {Q : Value → Shared → Prop} (hh : A.handled = none) (hroom : A.depth < recursionLimit)
    (F : Fr g L s.heap m) (X : (wk.heap_39 w.params).In g) (T : Top p loose mean mg mb g) (hm : m "self" = some (.ref x)) (hk : sc.kind = .function) (hself : (envOf qn sc L f (.ref 67)).kindOf "self" = some .local)
    (hx : g.get? x = some (accObj 101 dx its n)) (hd : g.get? dx = some od) (hst : StkAt g its st) (N : News g L s.heap [(63, tabObj ps)]) (htr : TriplesOk ps.toList)
    (hgen : scg.isCoroutine = false) (hcell : ∀ y ∈ scg.names, y.2 ≠ .cell) (hfree : ∀ y ∈ scg.names, y.2 ≠ .free) (h0 : scg.names.lookup (".0" : Str) = some NameKind.local) (hfa : scg.names.lookup ("fws" : Str) = some NameKind.local) (hfb : scg.names.lookup ("part" : Str) = some NameKind.local) (hfl : scg.names.lookup ("len" : Str) = some NameKind.globalImplicit) (hgk : scg.kind = .function)
    (ret : ∀ a s' ps', Side s s' → Fr g L s'.heap m → KeptBut 63 s.heap s'.heap → s'.heap.get? 63 = some (tabObj ps') → TriplesOk ps'.toList → SumOf prog w A s a its.length (lenAt st) s' → Q (.ref a) s') :
    wpAny (model prog w) A (eval (.GeneratorExp (.BinOp (.Call (.Name "len" p1) [.Name "fws" p2] [] p3) .Add (.Call (.Name "len" p4) [.Name "part" p5] [] p6) p7)
      [⟨.Tuple [.Name "fws" pa, .Name "part" pb] kt pt, .Name "self" p8, [], 0⟩] scg pos) (envOf qn sc L f (.ref 67))) Q E s := by
  refine wpAny_GeneratorExp_walksQTD (xa := "fws") (xb := "part") hh hgen (closureFor_none hfree) hcell h0 hfa hfb (by decide) hgk hroom ?_ (fun _ => rfl)
  refine ld F hm ?_ hk hself (by decide)
  have I : PySem.W.InstAt s.heap x (accObj 101 dx its n) 101 (some od) := ⟨F.keep _ _ hx, rfl, rfl, F.keep _ _ hd⟩
  refine acc_iter (X.keeps F.keep) I (f_iter101 w) (f_mroList w) ⟨(T.nolimit.keeps F.keep).push _, ?_⟩
  have ht := (N _ (.head _)).1
  have hsz : s.heap.objs.size ≠ 63 := fun e => absurd (Heap.lt_size ht) (by rw [e]; exact Nat.lt_irrefl _)
  refine gen_code rfl ((X.keeps F.keep).keeps fun b o e => Heap.get?_push_of_some _ e) (Heap.get?_push_of_some _ ht) htr fun cv h3 tk3 ps' k3 ht3 htr3 hsz3 => ?_
  dsimp only at k3 hsz3 ⊢
  have hn63 : g.get? 63 = none := (N _ (.head _)).2.2
  have up : ∀ b o, b ≠ 63 → s.heap.get? b = some o → h3.get? b = some o := fun b o hb e => k3 b o hb (Heap.get?_push_of_some _ e)
  have gup : ∀ b o, g.get? b = some o → h3.get? b = some o := fun b o e => up b o (fun q => by rw [q, hn63] at e; cases e) (F.keep b o e)
  have hszp : s.heap.objs.size < h3.objs.size := by rw [Heap.size_push] at hsz3; exact hsz3
  obtain ⟨bm, ob, hbm, hbne, hob, hbc, hbd, hbdat⟩ := T.bmain
  refine wpAny_builtinsFor (T.g.keeps gup) hbm hbne (gup _ _ hob) hbc hbd hbdat ?_
  -- the tuples of the stack
  let Ts : Nat → Addr := fun j => match its[j]? with | some (.ref b) => b | _ => 0
  let vals : Nat → Array Value := fun j => match g.get? (Ts j) with | some ⟨_, _, .seq xs _, _⟩ => xs | _ => #[]
  have hat : ∀ j, j < its.length → ∃ ta tb, its[j]? = some (.ref (Ts j)) ∧ g.get? (Ts j) = some (pieceObj (st.getD j 0) ta tb) ∧ vals j = #[.str (bl (st.getD j 0)) ta, .str (pc (st.getD j 0)) tb] := by
    intro j hj
    obtain ⟨b, ta, tb, h1, h2⟩ := hst.at j hj
    have e1 : Ts j = b := by simp only [Ts, h1]
    refine ⟨ta, tb, by rw [e1]; exact h1, by rw [e1]; exact h2, ?_⟩
    simp only [vals, e1, h2]
  have hI : s.heap.get? s.heap.objs.size = none := by
    cases e : s.heap.get? s.heap.objs.size with
    | none => rfl
    | some o => exact absurd (Heap.lt_size e) (Nat.lt_irrefl _)
  have hltx : x < s.heap.objs.size := Heap.lt_size (F.keep _ _ hx)
  have hltT : ∀ j, j < its.length → Ts j < s.heap.objs.size := fun j hj => let ⟨_, _, _, h2, _⟩ := hat j hj; Heap.lt_size (F.keep _ _ h2)
  have hiter : h3.get? s.heap.objs.size = some { cls := .type "list_iterator", data := .fields #[.ref x, .int 0 0] } := k3 _ _ hsz (Heap.get?_push_size _ rfl)
  have hstat : cStatics < s.heap.objs.size := let ⟨_, hn, _⟩ := T.nolimit.keeps F.keep; hn.lt
  refine ⟨s.heap.objs.size, s.heap.objs.size :: x :: (List.range its.toArray.size).map Ts, [s.heap.objs.size], its.toArray.size, _, _, _, fun _ => true, fun j y => ∃ t, y = .int (lenAt st j) t, rfl,
    fun A' hA => walksU_acc hA _ x (Nat.ne_of_lt hltx) its.toArray Ts vals (fun j hj => ?_) (fun j hj => ?_), ?_, ?_, ?_, T.nolimit.keeps gup, ?_, ?_, ?_⟩
  · obtain ⟨_, _, h1, _⟩ := hat j (by simpa using hj)
    simpa using h1
  · exact Nat.ne_of_lt (hltT j (by simpa using hj))
  · rintro j v ⟨hj, rfl⟩
    obtain ⟨_, _, _, _, h3'⟩ := hat j (by simpa using hj)
    exact ⟨_, _, h3'⟩
  · refine ⟨⟨_, hiter, rfl, rfl⟩, ⟨_, _, gup _ _ hx, rfl⟩, fun k hk' => ?_⟩
    obtain ⟨_, _, _, h2, h3'⟩ := hat k (by simpa using hk')
    exact ⟨_, gup _ _ h2, rfl, _, by rw [h3']⟩
  · intro b hb
    show b < h3.objs.size
    rcases List.mem_cons.mp hb with rfl | hb
    · exact hszp
    · rcases List.mem_cons.mp hb with rfl | hb
      · exact Nat.lt_trans hltx hszp
      · obtain ⟨k, hk', rfl⟩ := List.mem_map.mp hb
        exact Nat.lt_trans (hltT k (by simpa using hk')) hszp
  · intro hb
    exact absurd (List.mem_singleton.mp hb ▸ hstat) (Nat.lt_irrefl _)
  · intro href hkr
    have base : ∀ (s₂ : Shared), (∀ b ∈ List.range h3.objs.size, b ∉ [s.heap.objs.size] → ∀ o, href.get? b = some o → s₂.heap.get? b = some o) → ∀ b o, g.get? b = some o → s₂.heap.get? b = some o := fun s₂ hkp b o e => by
      have hb : b < s.heap.objs.size := Heap.lt_size (F.keep _ _ e)
      exact hkp b (List.mem_range.mpr (Nat.lt_trans hb hszp)) (fun q => absurd (List.mem_singleton.mp q ▸ hb) (Nat.lt_irrefl _)) o (hkr b o (gup b o e))
    refine ⟨fun A' E' i va vb s₂ m₂ _ _ _ _ _ _ _ _ => wpAny_pure ⟨rfl, _, _, rfl, fun _ _ e => e⟩, fun A' E' i va vb s₂ m₂ hA' hD hU hP _ hn hma hmb hkp => ?_⟩
    obtain ⟨hi, hv⟩ := hP
    obtain ⟨ta, tb, _, _, h3'⟩ := hat i (by simpa using hi)
    rw [h3'] at hv
    injection hv with hv
    injection hv with hv1 hv2
    injection hv2 with hv2 _
    subst hv1 hv2
    have hg2 := T.g.keeps (base s₂ hkp)
    have hb2 := T.b.keeps (base s₂ hkp)
    have e2 : mb "len" = some (.builtin "len") := (T.builtins _ (by decide)).trans (by boot_fast)
    have hbl : (bl (st.getD i 0)).length ≤ 100 := by show (Array.replicate _ _).size ≤ 100; rw [Array.size_replicate]; omega
    have hpl : (pc (st.getD i 0)).length ≤ 100 := by show (1 : Nat) ≤ 100; decide
    refine wpAny_BinOp (wpAny_mono (len_term (mg := mg) (mb := mb) (m₂ := m₂) hgk hfl hfa (by decide) hg2 hb2 hn (mg_none_of X T.g (f_len_none w)) e2 hma hbl) (fun v s₃ h => ?_) fun _ _ e => e)
    obtain ⟨t1, tk1, rfl, rfl⟩ := h
    refine wpAny_mono (len_term (mg := mg) (mb := mb) (m₂ := m₂) (s₂ := { s₂ with toks := tk1 }) hgk hfl hfb (by decide) hg2 hb2 hn (mg_none_of X T.g (f_len_none w)) e2 hmb hpl) (fun v s₃ h => ?_) fun _ _ e => e
    obtain ⟨t2, tk2, rfl, rfl⟩ := h
    refine add_int ⟨?_, _, _, rfl, fun _ _ e => e⟩
    refine ⟨_, congrArg (fun z => Value.int z _) ?_⟩
    show ((Array.replicate (st.getD i 0 % 3) 32).size : Int) + (1 : Nat) = lenAt st i
    rw [Array.size_replicate]
    unfold lenAt
    omega
  · intro a h5 tk gs hgb hlt5 hsz5 hk5 W hat'
    have kb : KeptBut 63 s.heap h5 := fun b o hb e => hk5 b o (up b o hb e)
    obtain ⟨F5, _⟩ := after_mut F N (UpdF.head (fun _ h => nomatch h)) kb (hk5 _ _ ht3)
    refine ret a _ ps' ⟨fun ha => AllBare.push ha hgb, rfl⟩ F5 kb (hk5 _ _ ht3) htr3 ?_
    rw [pass_all, List.length_range, List.size_toArray] at W
    rw [List.size_toArray] at hat'
    refine ⟨_, _, _, _, _, W, ?_, hat', ?_, ?_⟩
    · rintro j v ⟨i, hi, hv⟩
      try rw [pass_all] at hi
      have : i = j := by
        have := List.getElem?_eq_some_iff.mp hi
        obtain ⟨_, e⟩ := this
        simpa using e.symm
      subst this
      exact hv
    · intro b hb
      show b < h5.objs.size
      rw [hsz5]
      rcases List.mem_cons.mp hb with rfl | hb
      · exact Nat.lt_succ_self _
      · rcases List.mem_cons.mp hb with rfl | hb
        · exact Nat.lt_succ_of_lt hlt5
        · exact Nat.lt_succ_of_lt (Nat.lt_trans (List.mem_range.mp hb) hlt5)
    · intro b hb
      have hb' : s.heap.objs.size ≤ b := by
        rcases List.mem_cons.mp hb with rfl | hb
        · exact Nat.le_of_lt hszp
        · rw [List.mem_singleton.mp hb]; exact Nat.le_refl _
      cases e : s.heap.get? b with
      | none => rfl
      | some o => exact absurd (Heap.lt_size e) (Nat.not_lt.mpr hb')
end
end Mine
end
section
open PySem PySem.W PyProof.Rows PySem.Calls
set_option maxRecDepth 100000
set_option maxHeartbeats 8000000
namespace Mine
theorem part_WSum : True := by
  w_top off
  trivial
section
variable {prog : Program} {w : World} {A : Around} {E : Value → Shared → Prop} {s : Shared}
/-- the items of a walk one place on: before them a first number -/
def ahead (z : Int) (val : Nat → Int) : Nat → Int
  | 0 => z
  | j + 1 => val j
theorem ahead_sum (z : Int) (val : Nat → Int) : ∀ n, preSum (ahead z val) (n + 1) = z + preSum val n
  | 0 => by simp [preSum, ahead]
  | n + 1 => by
    have ih := ahead_sum z val n
    have e1 : preSum (ahead z val) (n + 1 + 1) = preSum (ahead z val) (n + 1) + val n := rfl
    have e2 : preSum val (n + 1) = preSum val n + val n := rfl
    rw [e1, e2, ih]; omega
theorem walks_ahead {I : Addr} {fp wr : List Addr} {G : Array GenState → Array GenState → Prop} {n : Nat} {P : Nat → Value → Prop} {St : Nat → Shared → Prop} (W : WalksS prog w A I fp wr G n P St) :
    WalksS prog w A I fp wr G (n + 1) (fun i v => ∃ j, i = j + 1 ∧ P j v) (fun i s => ∃ j, i = j + 1 ∧ St j s) where
  sub := W.sub
  grefl := W.grefl
  gtrans := W.gtrans
  frame := fun i s h' tk st ht hk => let ⟨j, e, st⟩ := st; ⟨j, e, W.frame j s h' tk st ht hk⟩
  item := fun i s Q E hi st hQ => by
    obtain ⟨j, rfl, st⟩ := st
    exact W.item j s Q E (by omega) st fun v s' hP hst hm => hQ v s' ⟨j, rfl, hP⟩ ⟨j + 1, rfl, hst⟩ hm
  done := fun s Q E st hQ => by
    obtain ⟨j, e, st⟩ := st
    obtain rfl : j = n := by omega
    exact W.done s Q E st hQ
  self := fun i s Q E st hQ => let ⟨j, _, st⟩ := st; W.self j s Q E st hQ
theorem args_sum2 (a b : Value) : argsOk "sum" ⟨[a, b], []⟩ := by unfold argsOk; kernel_rfl
theorem sum_start {a : Addr} {n : Nat} {val : Nat → Int} {z : Int} {tz : Tok} {s₀ : Shared} {Q : Value → Shared → Prop} (X : SumOf prog w A s₀ a n val s) (hz : 0 ≤ z) (hz4 : z < 4) 
    (hQ : ∀ s' t', Side s s' → (∀ b o, s₀.heap.get? b ≠ none → s.heap.get? b = some o → s'.heap.get? b = some o) → Q (.int (z + preSum val n) t') s') :
    wpAny (model prog w) A (call (.builtin "sum") [.ref a, .int z tz]) Q E s := by
  obtain ⟨fp, wr, gq, St, P, W, hval, hst, hfp, hwr⟩ := X
  have W := walks_ahead W.in4_1
  refine call_function_tree PySem.F.kind_sum PySem.F.plain_sum PySem.F.entry_sum (args_sum2 _ _) ?_
  unfold Builtin.«sum»
  simp only [List.length_cons, List.length_nil]
  rw [if_neg (by decide)]
  refine wpAny_bind (wpAny_of_eq (show Builtin.Builtins.bindParams "sum" ["start"] 0 ⟨[.int z tz], []⟩ = pure [some (.int z tz)] from rfl) ?_)
  refine wpAny_bind (W.self 1 _ _ _ ⟨0, rfl, hst⟩ ?_)
  have hz' : z = 0 ∨ z = 1 ∨ z = 2 ∨ z = 3 := by omega
  have hSf : s.heap.objs.size ∉ fp := fun hm => Nat.lt_irrefl _ (hfp _ hm)
  have hsz : preSum (ahead z val) 1 = z := by simp [preSum, ahead]
  have loop : ∀ u c, codeAny (model prog w) A (.builtin "sum.loop" ⟨[.ref a, .ref s.heap.objs.size, rawInt 0, rawInt 0], []⟩) (fun r s' => match r with | .ok (.ret v) => Q v s' | .ok _ => False | .error e => E e s')
      { s with heap := s.heap.push { cls := .type "list", data := .seq #[.int z u] }, toks := s.toks + c } := by
    intro u c
    refine codeAny_sum_loopAnyS W (ahead z val) ?_ s.heap.objs.size hSf n 1 _ u 0 0 (.inl rfl) (by omega) (by omega) (W.frame 1 s _ _ ⟨0, rfl, hst⟩ (Nat.le_add_right _ _) fun b _ o e => Heap.get?_push_of_some _ e) (by rw [hsz]; exact Heap.get?_push_size _ rfl) fun s' t' hm => ?_
    · rintro i v ⟨j, rfl, hP⟩
      exact hval j v hP
    · rw [ahead_sum]
      have hm' := hm.drop_new (Nat.le_add_right _ _)
      exact hQ s' t' ⟨fun ha => AllBare.movedS ha hm', hm'.os⟩ fun b o hb e => hm'.heap b o (fun hmem => hb (hwr b hmem)) e
  rcases hz' with rfl | rfl | rfl | rfl <;>
  · dsimp only
    refine wpAny_ite_true rfl ?_
    refine wpAny_bind (wpAny_rule (wpAny_bind (wpAny_mkInt (wpAny_bind (wpAny_pure ?_)))))
    simp only [List.forIn_cons, List.forIn_nil]
    refine wpAny_bind (wpAny_bind (wpAny_bind (wpAny_isInstance (T := "int") (b := false) (typeIs_int _ _ _) PySem.sub_int_str ?_)))
    refine wpAny_ite_false rfl ?_
    refine wpAny_pure (wpAny_bind (wpAny_bind (wpAny_isInstance (T := "int") (b := false) (typeIs_int _ _ _) PySem.sub_int_bytes ?_)))
    refine wpAny_ite_false rfl ?_
    refine wpAny_pure (wpAny_bind (wpAny_bind (wpAny_isInstance (T := "int") (b := false) (typeIs_int _ _ _) PySem.sub_int_bytearray ?_)))
    refine wpAny_ite_false rfl ?_
    refine wpAny_pure (wpAny_pure ?_)
    refine wpAny_bind (wpAny_newObj_type ?_ (by size_fits))
    exact wpAny_pure ⟨plainId_quiet PySem.F.plain_sum_loop _, loop _ _⟩
theorem sumOf_toks {a : Addr} {n : Nat} {val : Nat → Int} {s₀ : Shared} {tk : Nat} (X : SumOf prog w A s₀ a n val s) (h : s.toks ≤ tk) : SumOf prog w A s₀ a n val { s with toks := tk } := by
  obtain ⟨fp, wr, gq, St, P, W, hval, hst, hfp, hwr⟩ := X
  exact ⟨fp, wr, gq, St, P, W, hval, W.frame 0 s _ _ hst h fun _ _ _ e => e, hfp, hwr⟩
theorem f_findini (w : World) (z : Int) (tz tki : Tok) : findObj (wk.heap_39 w.params) 101 (some (iniDict w tki z tz)) "_initial_size" = some (.value (.int z tz)) := by kernel_rfl
end
end Mine
end
section
open PySem PySem.W PyProof.Rows PySem.Calls
set_option maxRecDepth 100000
set_option maxHeartbeats 8000000
set_option linter.unusedVariables false
namespace Mine
theorem part_WLen : True := by
  w_top off
  trivial
local macro_rules | `(tactic| k_inst) => `(tactic| (refine' acc_inst ?N ?h1 ?h2; (case N => k_asm); (case h1 => k_mem); (case h2 => k_mem)))
local macro_rules | `(tactic| walk_at "wpAt") => `(tactic| (ks_step "exec Expr"; k_dflt (refine PySem.ks_wpAt_Expr_any ?_)))
local macro_rules | `(tactic| walk_at "wpAt") => `(tactic| (ks_step "exec Return"; k_dflt (refine PySem.ks_wpAt_Return_some ?_)))
local macro_rules | `(tactic| walk_at "wpAt") => `(tactic| (ks_step "exec If"; k_dflt (refine PySem.ks_wpAt_If ?_)))
local macro_rules | `(tactic| walk_at "wpAt") => `(tactic| (ks_step "eval Call"; k_dflt (refine PySem.ks_wpAt_MethodCall ?_)))
local macro_rules | `(tactic| walk_at "wpAt") => `(tactic| dsimp only)
local macro_rules | `(tactic| k_all) => `(tactic| assumption)
local macro_rules | `(tactic| walk_at "Exit0") => `(tactic| (refine ⟨_, _, (by k_asm), ?_⟩; intro kp; (try dsimp only)))
local macro_rules | `(tactic| walk_at "callWith ref") => `(tactic| (k_here; k_dflt (refine' callWith_bnd ?k1 ?k2 ?k3 ?k4 ?_; (case k1 => k_asm); (case k2 => k_mem); (case k3 => decide); (case k4 => decide); k_whole; try dsimp only [List.nil_append, List.cons_append])))
local macro_rules | `(tactic| walk_at "call ref") => `(tactic| (k_here; k_dflt (refine' bnd_call (News.get ?N ?k1) ?k2 ?k3 ?k4 ?k5 entry_linit ?_; (case N => k_asm); (case k1 => k_mem); (case k2 => decide); (case k3 => decide); (case k4 => exact fun A Q E h => bcheck_slot kind_linit (args_linit _) h); (case k5 => decide +kernel); refine' acc_init_run ?k6 ?k7 ?k8 ?_; (case k6 => k_asm); (case k7 => k_asm); (case k8 => k_updF); k_whole; intro h' n' F' N'; (try dsimp only at N'); (try k_sweep); refine ⟨_, rfl, ?_⟩)))
local macro_rules | `(tactic| walk_at "call ref") => `(tactic| (k_here; k_dflt (refine' bnd_call (News.get ?N ?k1) ?k2 ?k3 ?k4 plain_llen entry_llen ?_; (case N => k_asm); (case k1 => k_mem); (case k2 => decide); (case k3 => decide); (case k4 => exact fun A Q E h => bcheck_slot kind_llen (args_llen _) h); refine' acc_len_run (News.get ?k6 ?k7) ?_; (case k6 => k_asm); (case k7 => k_mem); k_whole; intro t'; refine ⟨_, rfl, ?_⟩)))
local macro_rules | `(tactic| walk_at "call ref") => `(tactic| (k_here; k_dflt (refine' bnd_call (News.get ?N ?k1) ?k2 ?k3 ?k4 plain_lpop entry_lpop ?_; (case N => k_asm); (case k1 => k_mem); (case k2 => decide); (case k3 => decide); (case k4 => exact fun A Q E h => bcheck_pop (K := wk.heap_39 _) (by k_in) (by k_inst) (f_mroMod _) (f_cls _).choose_spec.1 (f_cls _).choose_spec.2 (f_type101 _) h); refine' acc_pop_run ?k6 ?k7 ?k8 ?k9 ?_; (case k6 => k_asm); (case k7 => k_asm); (case k8 => k_updF); (case k9 => assumption); k_whole; intro h' n' F' N'; (try dsimp only at N'); (try k_sweep); refine ⟨_, rfl, ?_⟩)))
local macro_rules | `(tactic| walk_at "setAttr ref") => `(tactic| (k_here; k_dflt (refine' acc_set ?k1 ?k2 ?k3 ?k4 ?k5 (f_sa _) (f_listMro _) (f_taker _) ?k6 ?k7 ?k8 ?_; (case k1 => k_asm); (case k2 => k_asm); (case k3 => k_asm); (case k4 => k_mem); (case k5 => k_updF); (case k6 => rfl); (case k7 => rfl); (case k8 => exact Nat.le_of_ble_eq_true rfl); k_whole; intro h' F' N'; (try dsimp only at N'); (try k_sweep))))
local macro_rules | `(tactic| walk_at "getMethod ref") => `(tactic| (k_here; k_dflt (first
  | (refine' acc_super gets_init ?k1 ?k2 ?k3 ?k4 ?k5 (f_third _) (f_sinit _) (f_mroList _) rfl ?_; (case k1 => k_asm); (case k2 => k_asm); (case k3 => k_asm); (case k4 => k_mem); (case k5 => k_inst))
  | (refine' acc_super gets_pop ?k1 ?k2 ?k3 ?k4 ?k5 (f_third _) (f_spop _) (f_mroList _) rfl ?_; (case k1 => k_asm); (case k2 => k_asm); (case k3 => k_asm); (case k4 => k_mem); (case k5 => k_inst))
  | (refine' acc_super gets_len ?k1 ?k2 ?k3 ?k4 ?k5 (f_third _) (f_slen _) (f_mroList _) rfl ?_; (case k1 => k_asm); (case k2 => k_asm); (case k3 => k_asm); (case k4 => k_mem); (case k5 => k_inst))); k_whole; intro q' h' F' N' l1; (try k_lt l1)))
local macro_rules | `(tactic| walk_at "getMethod ref") => `(tactic| (k_here; k_dflt (refine' acc_method (K := wk.heap_39 _) ?k1 ?k2 (f_ga _) canon_lga (f_gattr _) ?k3 ?k4 ?k5 ?k6 ?_; (case k1 => k_in); (case k2 => k_inst); (case k3 => k_is); (case k4 => k_is); (case k5 => rfl); (case k6 => rfl); k_whole)))
theorem m_len68 (w : World) {dp un : Nat} {gd : Option (List Code)} {cn : Str} {cs : Scope} {a : Addr} {ccd : Value} {cl : List (Str × Addr)} {outer : List Env} {A₀ : Around} {base h₀ : Heap} {L : Addr} {m : Str → Option Value} {s : Shared}
    {p : Program} {loose : List Str} {mean : ExcName → Option Value} {mg mb : Str → Option Value} {Q E : Value → Shared → Prop} {x dx : Addr} {its : List Value} {st : List Nat} {n : Nat} {z : Int} {tz tki : Tok} {ps : Array Value}
    (B : Below A₀ base outer h₀) (F : Fr h₀ L s.heap m) (X : (wk.heap_39 w.params).In h₀) (T : Top p loose mean mg mb h₀) (hk : cs.kind = .function)
    (N : News h₀ L s.heap [(63, tabObj ps)]) (htr : TriplesOk ps.toList) (hx : s.heap.get? x = some (accObj 101 dx its n)) (hd : s.heap.get? dx = some (iniDict w tki z tz)) (hst : StkAt s.heap its st) (hz : 0 ≤ z) (hz4 : z < 4) (hdp : dp + 10 < recursionLimit) (hun : un + 80 < cLine)
    (ret : ∀ s' t ps', Side s s' → KeptBut 63 s.heap s'.heap → s'.heap.get? 63 = some (tabObj ps') → TriplesOk ps'.toList → Q (.int (z + preSum (lenAt st) its.length) t) s') :
    wpAny (model PySem.Challenge.rw_dw5001_01.row.prog w) (ktrTop dp un gd cn cs L a ccd cl outer) (call (.ref 68) [.ref x]) Q E s := by
  revert X
  k_fill
  intro X
  refine wpAny_call ?_
  k_dflt (refine' enterM ?k1 ?k2 ?k3 ?k4 ?k5 ?kA ?kF ?kK ?k6 ?k7 ?k8 ?k9 ?kB ?_ ?c2 ?c3 ?c4 ?c1; (case kA => exact rfl); (case kF => exact rfl); (case kK => assumption); (case k1 => k_asm); (case k2 => k_asm); (case k3 => k_asm); (case k4 => k_asm); (case k5 => k_asm); (case k6 => k_is); (case k7 => k_is); (case k8 => ktr_room); (case k9 => first | exact BindsTo.of_eq rfl | exact binds_K (by k_in) rfl (by k_is) rfl rfl rfl); (case kB => exact locs rfl); (case c1 => decide); (case c2 => exact rfl); (case c3 => exact rfl); (case c4 => exact rfl))
  have h63 := (N _ (.head _)).1
  clear F B X T
  intro g' L' h' hkeep F' N' B' X' T' l3
  have hne : ∀ b o, s.heap.get? b = some o → o.cls ≠ .none → b ≠ 63 := fun b o e hc q => by
    rw [q, h63] at e; cases e; exact hc rfl
  have hkx : ∀ b o, s.heap.get? b = some o → o.cls ≠ .none → g'.get? b = some o := fun b o e hc => hkeep b o e (by simpa using hne b o e hc)
  have hx' := hkx _ _ hx (by simp)
  have hd' := hkx _ _ hd (by simp)
  have hst' : StkAt g' its st := hst.mono fun a r ta tb e => hkx _ _ e (by simp)
  k_steps
  refine gen_len (its := its) (st := st) (n := n) (dx := dx) (od := iniDict w tki z tz) (x := x) (ps := ps) (p := p) (loose := loose) (mean := mean) (mg := mg) (mb := mb) rfl ?_ F' X' T' rfl rfl rfl hx' hd' hst' N' htr rfl (by decide) (by decide) rfl rfl rfl rfl rfl ?_
  · ktr_room
  intro a s' ps' hS F5 k5 h5 htr5 hsum
  have N5 : News g' L' s'.heap [(63, tabObj ps')] := fun q hq => by rw [List.mem_singleton.mp hq]; exact ⟨h5, (N' _ (.head _)).2⟩
  have hgk := F'.keep
  have hLn : h'.get? L' ≠ none := by obtain ⟨o, _, _, e, _⟩ := F'.ns; rw [e]; simp
  have h63n : h'.get? 63 ≠ none := by rw [(N' _ (.head _)).1]; simp
  clear F' N'
  obtain ⟨hp5, gs5, dr5, tk5, os5⟩ := s'
  dsimp only at *
  have I5 : PySem.W.InstAt hp5 x (accObj 101 dx its n) 101 (some (iniDict w tki z tz)) := ⟨F5.keep _ _ hx', rfl, rfl, F5.keep _ _ hd'⟩
  k_steps
  refine acc_get (X'.keeps F5.keep) I5 (f_ga _) (f_gattr _) (f_mroList _) (f_findini w z tz tki) rfl ?_
  k_steps
  refine sum_start (sumOf_toks hsum ?_) hz hz4 ?_
  · exact Nat.le_succ _
  intro s6 t6 hS6 hk6
  have up6 : ∀ b o, g'.get? b = some o → s6.heap.get? b = some o := fun b o e => hk6 b o (by show h'.get? b ≠ none; rw [hgk b o e]; simp) (F5.keep b o e)
  obtain ⟨oL, es, ep, hL, hLr⟩ := F5.ns
  refine ⟨L', _, ⟨⟨oL, es, ep, hk6 _ _ hLn hL, hLr⟩, up6, F5.above⟩, fun _ => ?_⟩
  refine ret s6 t6 ps' (Side.trans ⟨hS.1, hS.2⟩ ⟨hS6.1, hS6.2⟩) (fun b o hb e => up6 b o (hkeep b o e (by simpa using hb))) (hk6 _ _ h63n h5) htr5
theorem lenAt_sum (st : List Nat) : ∀ k, 0 ≤ preSum (lenAt st) k ∧ preSum (lenAt st) k ≤ 3 * k
  | 0 => by simp [preSum]
  | k + 1 => by
    have ih := lenAt_sum st k
    have e : preSum (lenAt st) (k + 1) = preSum (lenAt st) k + lenAt st k := rfl
    have h2 : 0 ≤ lenAt st k ∧ lenAt st k ≤ 3 := by unfold lenAt; omega
    rw [e]
    omega
theorem m_len (w : World) {dp un : Nat} {gd : Option (List Code)} {cn : Str} {cs : Scope} {a : Addr} {ccd : Value} {cl : List (Str × Addr)} {outer : List Env} {A₀ : Around} {base h₀ : Heap} {L : Addr} {m : Str → Option Value} {s : Shared}
    {p : Program} {loose : List Str} {mean : ExcName → Option Value} {mg mb : Str → Option Value} {Q E : Value → Shared → Prop} {x dx : Addr} {its : List Value} {st : List Nat} {n : Nat} {z : Int} {tz tki : Tok} {ps : Array Value}
    (B : Below A₀ base outer h₀) (F : Fr h₀ L s.heap m) (X : (wk.heap_39 w.params).In h₀) (T : Top p loose mean mg mb h₀) (hk : cs.kind = .function)
    (N : News h₀ L s.heap [(63, tabObj ps), (x, accObj 101 dx its n), (dx, iniDict w tki z tz)]) (htr : TriplesOk ps.toList) (hst : StkAt s.heap its st) (hz : 0 ≤ z) (hz4 : z < 4) (hsz : its.length ≤ 1000000) (hdp : dp + 20 < recursionLimit) (hun : un + 100 < cLine)
    (ret : ∀ s' t ps', Side s s' → KeptBut 63 s.heap s'.heap → s'.heap.get? 63 = some (tabObj ps') → TriplesOk ps'.toList → Q (.int (z + preSum (lenAt st) its.length) t) s') :
    wpAny (model PySem.Challenge.rw_dw5001_01.row.prog w) (ktrTop dp un gd cn cs L a ccd cl outer) (call (.builtin "len") [.ref x]) Q E s := by
  have hx : s.heap.get? x = some (accObj 101 dx its n) := (N _ (.tail _ (.head _))).1
  have hd : s.heap.get? dx = some (iniDict w tki z tz) := (N _ (.tail _ (.tail _ (.head _)))).1
  refine len_K (od := some (iniDict w tki z tz)) F X ⟨hx, rfl, rfl, hd⟩ (f_len w) (f_fn68 w) ?_
  refine m_len68 w (dp := dp) (un := un + 1) B F X T hk (fun p hp => N p (by rw [List.mem_singleton.mp hp]; exact .head _)) htr hx hd hst hz hz4 (by omega) (by omega) fun s' t ps' hS hK h63 htr' => ?_
  have hb := lenAt_sum st its.length
  refine ⟨⟨by omega, by omega⟩, ?_⟩
  exact ret { s' with toks := s'.toks + 1 } _ ps' hS hK h63 htr'
end Mine
end
section
open PySem PySem.W PyProof.Rows PySem.Calls
set_option maxRecDepth 100000
set_option maxHeartbeats 8000000
namespace Mine
theorem part_WFor : True := by
  w_top off
  trivial
section
variable {prog : Program} {w : World} {A : Around} {E : Value → Shared → Prop} {s : Shared} {env : Env} {h₀ : Heap} {Q : Flow → Shared → Prop}
/-- how a turn of such a loop ends -/
def TurnPost (h₀ : Heap) (L : Addr) (s : Shared) (I : Addr) (oI : Obj) (J : (Str → Option Value) → List (Addr × Obj) → Prop) (Q : Flow → Shared → Prop) (f : Flow) (s₂ : Shared) : Prop :=
  match f with
  | .ret r => Q (.ret r) s₂
  | .brk => Q .next s₂
  | _ => ∃ m₂ nx₂, Side s s₂ ∧ Fr h₀ L s₂.heap m₂ ∧ News h₀ L s₂.heap ((I, oI) :: nx₂) ∧ (∀ p ∈ nx₂, p.1 ≠ I) ∧ J m₂ nx₂
theorem for_list {x : Str} {px pos : Pos} {iter : Expr} {body : List Stmt} {l : Addr} {vs : List Value} {m₀ : Str → Option Value} {news₀ : List (Addr × Obj)} (J : Nat → (Str → Option Value) → List (Addr × Obj) → Prop)
    (hh : A.handled = none) (hx : env.kindOf x = some .local) (hp : (env.scope.kind == .class || (env.scope.kind == .module && env.locals != env.globals)) = false) (hl : h₀.IsList l vs.toArray)
    (F : Fr h₀ env.locals s.heap m₀) (N : News h₀ env.locals s.heap news₀) (hj : J 0 m₀ news₀) (he : wpAny (model prog w) A (eval iter env) (fun v s₁ => v = .ref l ∧ s₁ = s) E s)
    (turn : ∀ i v m₁ nx I oI s₁, vs[i]? = some v → J i m₁ nx → (∀ p ∈ nx, p.1 ≠ I) → Side s s₁ → Fr h₀ env.locals s₁.heap (fun y => if y = x then some v else m₁ y) → News h₀ env.locals s₁.heap ((I, oI) :: nx) →
      wpAny (model prog w) A (execs body env) (TurnPost h₀ env.locals s I oI (J (i + 1)) Q) E s₁)
    (done : ∀ m₁ nx s₁, J vs.length m₁ nx → Side s s₁ → Fr h₀ env.locals s₁.heap m₁ → News h₀ env.locals s₁.heap nx → Q .next s₁)
    (hs : ∀ x, foldedSetIterable iter env x = pure x := by intro _; rfl) (hE : PassesOwn (model prog w) A env E := by passes_own) :
    wpAny (model prog w) A (exec (.For (.Name x px) iter body [] pos) env) Q E s := by
  have hls : s.heap.IsList l vs.toArray := hl.at fun o e => F.keep l o e
  have hLlt := F.ns.lt
  refine wpAny_For (wpAny_mono he (fun xv s₁ h₁ => ?_) fun _ _ e => e) hs
  obtain ⟨rfl, rfl⟩ := h₁
  refine wpAny_pyIter_list hls ?_
  generalize hIe : s₁.heap.objs.size = I at hLlt ⊢
  have hI₀ : h₀.get? I = none := hIe ▸ next_is_new F
  have hLI : env.locals ≠ I := Nat.ne_of_lt hLlt
  refine codeAny_forLoop (fun k s' => ∃ i m' nx, Side s₁ s' ∧ s'.heap.IsListIter I l i ∧ Fr h₀ env.locals s'.heap m' ∧ News h₀ env.locals s'.heap nx ∧ (∀ p ∈ nx, p.1 ≠ I) ∧ J i m' nx ∧ i ≤ vs.length ∧ k = vs.length + 1 - i) ?_ (vs.length + 1)
    ⟨0, m₀, news₀, Side.heap (Side.refl _), ⟨_, hIe ▸ Heap.get?_push_size _ rfl, rfl, rfl⟩, F.push _, (fun p hp => ⟨Heap.get?_push_of_some _ (N p hp).1, (N p hp).2⟩), (fun p hp => hIe ▸ Nat.ne_of_lt (Heap.lt_size (N p hp).1)), hj, Nat.zero_le _, rfl⟩
  rintro k s' ⟨i, m', nx, hS, hit, F', N', hoff, hJ, hi, rfl⟩
  have hls' : s'.heap.IsList l vs.toArray := hl.at fun o e => F'.keep l o e
  have keepI : ∀ h' : Heap, (∀ b o, b ≠ I → s'.heap.get? b = some o → h'.get? b = some o) → Fr h₀ env.locals h' m' ∧ News h₀ env.locals h' nx := fun h' hk => by
    obtain ⟨oL, es, ep, hL, r⟩ := F'.ns
    exact ⟨⟨⟨oL, es, ep, hk _ _ hLI hL, r⟩, fun b o e => hk b o (fun q => by rw [q, hI₀] at e; cases e) (F'.keep b o e), F'.above⟩, fun p hp => ⟨hk _ _ (hoff p hp) (N' p hp).1, (N' p hp).2⟩⟩
  by_cases hlt : i < vs.length
  · refine wpAny_pyNext_list_item hit hls' (x := vs[i]) (by simp [hlt]) fun h1 hit1 hs1 => ?_
    obtain ⟨F1, N1⟩ := keepI h1 fun b o hb e => hs1.extBut b o hb e
    refine wpAny_assign_Name (wpAny_storeName_local hx F1.ns (fun h2 hn2 hs2 => ?_) hp)
    have F2 := F1.set hn2 hs2
    obtain ⟨oI, heI, hr⟩ := hit1
    have heI2 : h2.get? I = some oI := (hs2.2 I (Ne.symm hLI)).trans heI
    have N2 : News h₀ env.locals h2 ((I, oI) :: nx) := fun p hp => by
      rcases List.mem_cons.mp hp with rfl | hp
      · exact ⟨heI2, Ne.symm hLI, hI₀⟩
      · exact N1.set hs2 p hp
    refine wpAny_passesOwn hE (wpAny_mono (turn i vs[i] m' nx I oI _ (by simp [hlt]) hJ hoff ⟨hS.1, hS.2⟩ F2 N2) (fun f s₃ h₃ => ?_) fun _ _ e => e)
    have fin : (∃ m₂ nx₂, Side s₁ s₃ ∧ Fr h₀ env.locals s₃.heap m₂ ∧ News h₀ env.locals s₃.heap ((I, oI) :: nx₂) ∧ (∀ p ∈ nx₂, p.1 ≠ I) ∧ J (i + 1) m₂ nx₂) →
        ∃ mm, mm < vs.length + 1 - i ∧ ∃ i m' nx, Side s₁ s₃ ∧ s₃.heap.IsListIter I l i ∧ Fr h₀ env.locals s₃.heap m' ∧ News h₀ env.locals s₃.heap nx ∧ (∀ p ∈ nx, p.1 ≠ I) ∧ J i m' nx ∧ i ≤ vs.length ∧ mm = vs.length + 1 - i := by
      rintro ⟨m₂, nx₂, hS₂, F₂, N₂, hoff₂, hJ₂⟩
      exact ⟨vs.length + 1 - (i + 1), by omega, i + 1, m₂, nx₂, hS₂, ⟨oI, (N₂ _ (.head _)).1, hr⟩, F₂, (fun p hp => N₂ p (.tail _ hp)), hoff₂, hJ₂, hlt, rfl⟩
    cases f with
    | ret r => exact h₃
    | brk => exact h₃
    | next => exact fin h₃
    | cont => exact fin h₃
  · obtain rfl : i = vs.length := by omega
    refine wpAny_pyNext_list_end hh hit hls' (by simp) fun h1 he1 => wpAny_execs_nil ?_
    obtain ⟨F1, N1⟩ := keepI h1 fun b o hb e => he1 b o hb e
    exact done m' nx _ hJ ⟨hS.1, hS.2⟩ F1 N1
end
end Mine
end
section
open PySem PySem.W PyProof.Rows PySem.Calls
set_option maxRecDepth 100000
set_option maxHeartbeats 8000000
namespace Mine
theorem part_WPSup : True := by
  w_top off
  trivial
def AllNe (d : Nat) : List (Addr × Obj) → Prop
  | [] => True
  | p :: r => @Ne Nat p.1 d ∧ AllNe d r
theorem allNe_of {d : Addr} : ∀ {l : List (Addr × Obj)}, (∀ p ∈ l, p.1 ≠ d) → AllNe d l
  | [], _ => trivial
  | p :: _, h => ⟨h p (.head _), allNe_of fun q hq => h q (.tail _ hq)⟩
theorem allNe_out {d : Addr} : ∀ {l : List (Addr × Obj)}, AllNe d l → ∀ p ∈ l, p.1 ≠ d
  | [], _, _, h => nomatch h
  | _ :: _, h, p, hp => by
    rcases List.mem_cons.mp hp with rfl | hp
    · exact h.1
    · exact allNe_out h.2 p hp
/-- a new object joins the ledger -/
theorem fresh_in {h₀ h h' : Heap} {L x : Addr} {m : Str → Option Value} {o : Obj} (F : Fr h₀ L h m) (hx : h.get? x = none) (hx' : h'.get? x = some o) {news' : List (Addr × Obj)} (N' : News h₀ L h' news') : News h₀ L h' ((x, o) :: news') := by
  intro p hp
  rcases List.mem_cons.mp hp with rfl | hp
  · refine ⟨hx', fun q => ?_, ?_⟩
    · obtain ⟨oL, es, ep, hL, r⟩ := F.ns
      change x = L at q
      rw [← q, hx] at hL; cases hL
    · cases e : h₀.get? x with
      | none => rfl
      | some o' => have := F.keep _ _ e; rw [hx] at this; cases this
  · exact N' p hp
theorem fresh_ne {h₀ h : Heap} {L x : Addr} {news : List (Addr × Obj)} (N : News h₀ L h news) (hx : h.get? x = none) : AllNe x news :=
  allNe_of fun p hp q => by have := (N p hp).1; rw [q, hx] at this; cases this
/-- the stack's tuples on the ledger; the numbers with the top first -/
inductive StkL : List Value → List Nat → List (Addr × Obj) → Prop
  | nil : StkL [] [] []
  | cons {a : Addr} {ta tb : Tok} {r : Nat} {vs : List Value} {rs : List Nat} {tl : List (Addr × Obj)} : StkL vs rs tl → StkL (vs ++ [.ref a]) (r :: rs) ((a, pieceObj r ta tb) :: tl)
theorem StkL.stk {vs : List Value} {rs : List Nat} {tl : List (Addr × Obj)} (S : StkL vs rs tl) {h : Heap} (k : ∀ p ∈ tl, h.get? p.1 = some p.2) : StkAt h vs rs.reverse := by
  induction S with
  | nil => exact .nil
  | cons _ ih =>
    rw [List.reverse_cons]
    exact (ih fun p hp => k p (.tail _ hp)).append (k _ (.head _))
theorem StkL.len {vs : List Value} {rs : List Nat} {tl : List (Addr × Obj)} (S : StkL vs rs tl) : vs.length = rs.length := by
  induction S with
  | nil => rfl
  | cons _ ih => simp [ih]
def heldOf (rs : List Nat) : Int := ((rs.map fun r => r % 3 + 1).sum : Nat)
theorem preSum_ext {f g : Nat → Int} : ∀ n, (∀ j, j < n → f j = g j) → preSum f n = preSum g n
  | 0, _ => rfl
  | n + 1, h => by
    show preSum f n + f n = preSum g n + g n
    rw [preSum_ext n fun j hj => h j (by omega), h n (by omega)]
theorem held_pre : ∀ rs : List Nat, preSum (lenAt rs.reverse) rs.length = heldOf rs
  | [] => rfl
  | r :: rs => by
    show preSum (lenAt (r :: rs).reverse) rs.length + lenAt (r :: rs).reverse rs.length = _
    have e1 : preSum (lenAt (r :: rs).reverse) rs.length = preSum (lenAt rs.reverse) rs.length := preSum_ext _ fun j hj => by
      unfold lenAt
      rw [List.reverse_cons, List.getD_eq_getElem?_getD, List.getD_eq_getElem?_getD, List.getElem?_append_left (by simpa using hj)]
    have e2 : lenAt (r :: rs).reverse rs.length = ((r % 3 + 1 : Nat) : Int) := by
      unfold lenAt
      rw [List.reverse_cons, List.getD_eq_getElem?_getD, List.getElem?_append_right (by simp)]
      simp
    rw [e1, e2, held_pre rs]
    unfold heldOf
    simp only [List.map_cons, List.sum_cons]
    omega
/-- what is less than x goes from the stack (its top first) to what is out -/
def popW (x : Nat) : List Nat → List Nat → List Nat × List Nat
  | [], out => ([], out)
  | r :: rs, out => if r < x then popW x rs (out ++ [r]) else (r :: rs, out)
def passGo : List Nat → List Nat → List Nat → List Nat × List Nat
  | [], rs, out => (rs, out)
  | x :: row, rs, out => passGo row (x :: (popW x rs out).1) (popW x rs out).2
def passF (row : List Nat) : List Nat := (passGo row [] []).2 ++ (passGo row [] []).1
theorem popW_len (x : Nat) : ∀ rs out, (popW x rs out).1.length + (popW x rs out).2.length = rs.length + out.length
  | [], out => rfl
  | r :: rs, out => by
    unfold popW
    split
    · rw [popW_len]; simp; omega
    · rfl
theorem popW_mem {P : Nat → Prop} (x : Nat) : ∀ rs out, (∀ r ∈ rs, P r) → (∀ r ∈ out, P r) → (∀ r ∈ (popW x rs out).1, P r) ∧ (∀ r ∈ (popW x rs out).2, P r)
  | [], out, _, h => ⟨fun r hr => (List.not_mem_nil hr).elim, h⟩
  | r :: rs, out, h1, h2 => by
    unfold popW
    split
    · refine popW_mem x rs _ (fun q hq => h1 q (.tail _ hq)) fun q hq => ?_
      rcases List.mem_append.mp hq with hq | hq
      · exact h2 q hq
      · rw [List.mem_singleton.mp hq]; exact h1 r (.head _)
    · exact ⟨h1, h2⟩
theorem passGo_snoc (x : Nat) : ∀ (row rs out : List Nat), passGo (row ++ [x]) rs out = (x :: (popW x (passGo row rs out).1 (passGo row rs out).2).1, (popW x (passGo row rs out).1 (passGo row rs out).2).2)
  | [], _, _ => rfl
  | y :: row, rs, out => by
    show passGo (row ++ [x]) _ _ = _
    rw [passGo_snoc x row]; rfl
/-- a place where the walk is to stand -/
def Stop (P : Prop) : Prop := P
theorem Stop.of {P : Prop} (h : Stop P) : P := h
theorem Stop.mk {P : Prop} (h : P) : Stop P := h
theorem ints_at {vs : List Value} {ns : List Int} (h : IntsAre vs ns) : ∀ {i : Nat} {v : Value}, vs[i]? = some v → ∃ t, v = .int (ns.getD i 0) t ∧ i < ns.length := by
  induction h with
  | nil => intro i v h; simp at h
  | cons n t _ ih =>
    intro i v h
    cases i with
    | zero => simp at h; exact ⟨t, h.symm, by simp⟩
    | succ i => obtain ⟨t', e, hl⟩ := ih (by simpa using h); exact ⟨t', by simpa using e, by simpa using hl⟩
theorem row_at {vs : List Value} {row : List Nat} (h : IntsAre vs (row.map fun (r : Nat) => (r : Int))) {i : Nat} {v : Value} (hv : vs[i]? = some v) : ∃ r t, row[i]? = some r ∧ v = .int (r : Int) t := by
  obtain ⟨t, e, hl⟩ := ints_at h hv
  rw [List.length_map] at hl
  refine ⟨row[i], t, by simp [hl], ?_⟩
  rw [e, List.getD_eq_getElem?_getD, List.getElem?_map, List.getElem?_eq_getElem hl]
  rfl
theorem ints_snoc {vs : List Value} {ns : List Int} (h : IntsAre vs ns) (n : Int) (t : Tok) : IntsAre (vs ++ [.int n t]) (ns ++ [n]) := by
  induction h with
  | nil => exact .cons n t .nil
  | cons n' t' _ ih => exact .cons n' t' ih
theorem ints_len {vs : List Value} {ns : List Int} (h : IntsAre vs ns) : vs.length = ns.length := by
  induction h with
  | nil => rfl
  | cons _ _ _ ih => simp [ih]
theorem News.cons {h₀ h : Heap} {L : Addr} {news : List (Addr × Obj)} {p : Addr × Obj} (hp : h.get? p.1 = some p.2 ∧ p.1 ≠ L ∧ h₀.get? p.1 = none) (N : News h₀ L h news) : News h₀ L h (p :: news) := by
  intro q hq
  rcases List.mem_cons.mp hq with rfl | hq
  · exact hp
  · exact N q hq
theorem News.tl {h₀ h : Heap} {L : Addr} {news : List (Addr × Obj)} {p : Addr × Obj} (N : News h₀ L h (p :: news)) : News h₀ L h news := fun q hq => N q (.tail _ hq)
abbrev pieceD (r : Nat) : PyData := .tuple [.str (bl r), .str (pc r)]
abbrev nilD : PyData := .tuple [.str (Str.ofString ""), .str (Str.ofString "")]
theorem shaped_piece {r : Nat} (h : r < 12) : PySem.SeqAt.shaped (pieceD r) = true := by
  have : ∀ r : Nat, r < 12 → PySem.SeqAt.shaped (pieceD r) = true := by decide +kernel
  exact this r h
theorem shaped_nil : PySem.SeqAt.shaped nilD = true := by decide +kernel
theorem eqv_piece {r : Nat} (h : r < 12) : PyData.eqv (pieceD r) nilD = false := by
  have : ∀ r : Nat, r < 12 → PyData.eqv (pieceD r) nilD = false := by decide +kernel
  exact this r h
section
variable {prog : Program} {w : World} {A : Around} {E : Value → Shared → Prop} {s : Shared} {h₀ : Heap} {L a d : Addr} {news : List (Addr × Obj)} {r : Nat} {ta tb t1 t2 : Tok} {Q : Value → Shared → Prop}
theorem piece_eq (N : News h₀ L s.heap news) (ha : (a, pieceObj r ta tb) ∈ news) (hd : (d, ({ cls := .type "tuple", data := .seq #[.str (Str.ofString "") t1, .str (Str.ofString "") t2] } : Obj)) ∈ news) (hr : r < 12) (hu : A.units + 64 < cLine) (h : Q (.bool false) s) :
    wpAny (model prog w) A (compareOp .Eq (.ref a) (.ref d)) Q E s := by
  refine eq_dataH (da := pieceD r) (db := nilD) (as := []) (bs := []) (reads_tuple_at (N _ ha).1 rfl rfl ?_) (reads_tuple_at (N _ hd).1 rfl rfl ?_) (shaped_piece hr) shaped_nil hu ?_
  · exact .cons (as := []) (Reads.str _ _) (.cons (as := []) (Reads.str _ _) .nil)
  · exact .cons (as := []) (Reads.str _ _) (.cons (as := []) (Reads.str _ _) .nil)
  · rw [eqv_piece hr]; exact h
theorem piece_ne (N : News h₀ L s.heap news) (ha : (a, pieceObj r ta tb) ∈ news) (hd : (d, ({ cls := .type "tuple", data := .seq #[.str (Str.ofString "") t1, .str (Str.ofString "") t2] } : Obj)) ∈ news) (hr : r < 12) (hu : A.units + 64 < cLine) (h : Q (.bool true) s) :
    wpAny (model prog w) A (compareOp .NotEq (.ref a) (.ref d)) Q E s := by
  refine ne_dataH (da := pieceD r) (db := nilD) (as := []) (bs := []) (reads_tuple_at (N _ ha).1 rfl rfl ?_) (reads_tuple_at (N _ hd).1 rfl rfl ?_) (shaped_piece hr) shaped_nil hu ?_
  · exact .cons (as := []) (Reads.str _ _) (.cons (as := []) (Reads.str _ _) .nil)
  · exact .cons (as := []) (Reads.str _ _) (.cons (as := []) (Reads.str _ _) .nil)
  · rw [eqv_piece hr]; exact h
end
theorem find_pc {r : Nat} (h : r < 12) : Txt.find (Str.ofString "abcdefghijkl") (pc r) = (r : Int) := by
  have : ∀ r : Nat, r < 12 → Txt.find (Str.ofString "abcdefghijkl") (pc r) = (r : Int) := by decide +kernel
  exact this r h
theorem pc_lt {q r : Nat} (hq : q < 12) (hr : r < 12) : (pc q).cps.toList < (pc r).cps.toList ↔ q < r := by
  have : ∀ q : Nat, q < 12 → ∀ r : Nat, r < 12 → ((pc q).cps.toList < (pc r).cps.toList ↔ q < r) := by decide +kernel
  exact this q hq r hr
theorem bl_len (r : Nat) : (bl r).length = r % 3 := by simp [bl, Str.length]
theorem heldOf_cons (r : Nat) (rs : List Nat) : heldOf (r :: rs) = heldOf rs + ((r % 3 : Nat) : Int) + 1 := by
  unfold heldOf
  simp only [List.map_cons, List.sum_cons]
  omega
theorem popW_lt {x r : Nat} {rs out : List Nat} (h : r < x) : popW x (r :: rs) out = popW x rs (out ++ [r]) := by rw [popW, if_pos h]
theorem popW_ge {x r : Nat} {rs out : List Nat} (h : ¬ r < x) : popW x (r :: rs) out = (r :: rs, out) := by rw [popW, if_neg h]
theorem passGo_len : ∀ (row rs out : List Nat), (passGo row rs out).1.length + (passGo row rs out).2.length = row.length + rs.length + out.length
  | [], rs, out => by simp [passGo]
  | x :: row, rs, out => by
    unfold passGo
    rw [passGo_len row]
    have := popW_len x rs out
    simp only [List.length_cons]
    omega
theorem news3 {h₀ h : Heap} {L : Addr} {news : List (Addr × Obj)} {p q r : Addr × Obj} (N : News h₀ L h news) (hp : p ∈ news) (hq : q ∈ news) (hr : r ∈ news) : News h₀ L h [p, q, r] :=
  News.cons (N _ hp) (News.cons (N _ hq) (News.cons (N _ hr) News.nil))
theorem len_bl {prog : Program} {w : World} {A : Around} {E : Value → Shared → Prop} {s : Shared} {r : Nat} {ta : Tok} {Q : Value → Shared → Prop} (h : ∀ t tk, Q (.int ((r % 3 : Nat) : Int) t) { s with toks := tk }) : wpAny (model prog w) A (call (.builtin "len") [.str (bl r) ta]) Q E s := by
  have hl := bl_len r
  refine wpAny_mono (PySem.P.len_str (Q := fun v s₃ => ∃ t tk, v = .int (bl r).length t ∧ s₃ = { s with toks := tk }) (by omega) ⟨_, _, rfl, rfl⟩) (fun v s₃ h₃ => ?_) fun _ _ e => e
  obtain ⟨t, tk, rfl, rfl⟩ := h₃
  rw [hl]
  exact h t tk
def TopIs (o : Obj) : Option Nat → Prop
  | none => ∃ t1 t2, o = { cls := .type "tuple", data := .seq #[.str (Str.ofString "") t1, .str (Str.ofString "") t2] }
  | some r => ∃ ta tb, o = pieceObj r ta tb
theorem m_pop (w : World) {dp un : Nat} {gd : Option (List Code)} {cn : Str} {cs : Scope} {a : Addr} {ccd : Value} {cl : List (Str × Addr)} {outer : List Env} {A₀ : Around} {base h₀ : Heap} {L : Addr} {m : Str → Option Value} {s : Shared}
    {p : Program} {loose : List Str} {mean : ExcName → Option Value} {mg mb : Str → Option Value} {Q E : Value → Shared → Prop} {x dx : Addr} {its : List Value} {rs : List Nat} {tl news : List (Addr × Obj)} {n : Nat} {z : Int} {tz tki : Tok}
    (B : Below A₀ base outer h₀) (F : Fr h₀ L s.heap m) (X : (wk.heap_39 w.params).In h₀) (T : Top p loose mean mg mb h₀) (hk : cs.kind = .function)
    (N : News h₀ L s.heap news) (hm1 : (x, accObj 101 dx its n) ∈ news) (hm2 : (dx, iniDict w tki z tz) ∈ news) (hm3 : ∀ p ∈ tl, p ∈ news) (S : StkL its rs tl) (a1 : AllNe x tl) (hxd : @LT.lt Nat _ dx x) (hlen : its.length ≤ 1000000) (hdp : dp + 10 < recursionLimit) (hun : un + 80 < cLine)
    (ret : ∀ t o h' tk' n' its' tl', KeptBut x s.heap h' → h'.get? x = some (accObj 101 dx its' n') → StkL its' rs.tail tl' → (∀ p ∈ tl', p ∈ tl) → TopIs o rs.head? → (h'.get? t = some o ∧ t ≠ L ∧ h₀.get? t = none) → ((∀ p ∈ news, p.1 ≠ t) ∨ (t, o) ∈ tl) → Q (.ref t) { s with heap := h', toks := tk' }) :
    wpAny (model PySem.Challenge.rw_dw5001_01.row.prog w) (ktrTop dp un gd cn cs L a ccd cl outer) (call (.ref 61) [.ref x]) Q E s := by
  cases S with
  | nil =>
    refine m_pop0 w B F X T hk (News.two N hm1 hm2) hxd hdp hun fun t h' t1 t2 tk' kk hn ht => ?_
    exact ret t _ h' tk' n [] [] (fun b o _ e => kk b o e) (kk _ _ (N _ hm1).1) .nil (fun _ h => nomatch h) ⟨t1, t2, rfl⟩ (fresh_in F hn ht News.nil _ (.head _)) (.inl (allNe_out (fresh_ne N hn)))
  | @cons a' ta tb r vs rs' tl' S' =>
    rw [List.length_append] at hlen
    refine m_pop1 w B F X T hk (News.two N hm1 hm2) hxd (by omega) hdp hun fun h' tk' n' kb hx => ?_
    have ha := N _ (hm3 (a', pieceObj r ta tb) (.head _))
    exact ret a' _ h' tk' n' vs tl' kb hx S' (fun p hp => .tail _ hp) ⟨ta, tb, rfl⟩ ⟨kb _ _ a1.1 ha.1, ha.2⟩ (.inr (.head _))
theorem len_any {prog : Program} {w : World} {A : Around} {E : Value → Shared → Prop} {s : Shared} {l : Addr} {vs : List Value} {Q : Value → Shared → Prop} (hl : s.heap.IsList l vs.toArray) (hn : vs.length ≤ 1000000) (h : ∀ t tk, Q (.int (vs.length : Int) t) { s with toks := tk }) : wpAny (model prog w) A (call (.builtin "len") [.ref l]) Q E s :=
  len_list hl (by rw [List.size_toArray]; omega) (by rw [List.size_toArray]; exact h _ _)
theorem passGo_mem {P : Nat → Prop} : ∀ (row rs out : List Nat), (∀ r ∈ row, P r) → (∀ r ∈ rs, P r) → (∀ r ∈ out, P r) → (∀ r ∈ (passGo row rs out).1, P r) ∧ (∀ r ∈ (passGo row rs out).2, P r)
  | [], rs, out, _, h1, h2 => ⟨h1, h2⟩
  | x :: row, rs, out, h, h1, h2 => by
    have hw := popW_mem x rs out h1 h2
    refine passGo_mem row _ _ (fun r hr => h r (.tail _ hr)) (fun r hr => ?_) hw.2
    rcases List.mem_cons.mp hr with rfl | hr
    · exact h _ (.head _)
    · exact hw.1 r hr
theorem passF_mem {P : Nat → Prop} {row : List Nat} (h : ∀ r ∈ row, P r) : ∀ r ∈ passF row, P r := by
  have hg := passGo_mem row [] [] h (fun r hr => (List.not_mem_nil hr).elim) (fun r hr => (List.not_mem_nil hr).elim)
  intro r hr
  rcases List.mem_append.mp hr with hr | hr
  · exact hg.2 r hr
  · exact hg.1 r hr
theorem passF_len (row : List Nat) : (passF row).length = row.length := by
  have h := passGo_len row [] []
  unfold passF
  rw [List.length_append]
  simp only [List.length_nil] at h
  omega
structure PassJ (w : World) (z : Int) (tz tki : Tok) (l x dx lo : Addr) (st : List Nat × List Nat) (m : Str → Option Value) (nx : List (Addr × Obj)) : Prop where
  row : m "row" = some (.ref l)
  size : m "size" = some (.int z tz)
  stack : m "stack" = some (.ref x)
  out : m "out" = some (.ref lo)
  held : ∃ t, m "held" = some (.int (heldOf st.1) t)
  led : ∃ ps its n vo no tl, nx = (63, tabObj ps) :: (x, accObj 101 dx its n) :: (dx, iniDict w tki z tz) :: (lo, listOf (List.toArray vo) no) :: tl ∧
    TriplesOk ps.toList ∧ StkL its st.1 tl ∧ IntsAre vo (st.2.map fun (r : Nat) => (r : Int)) ∧ AllNe x tl ∧ AllNe lo tl ∧ AllNe 63 tl
  few : st.1.length + st.2.length ≤ 12
  mem1 : ∀ r ∈ st.1, r < 12
  mem2 : ∀ r ∈ st.2, r < 12
structure FinJ (w : World) (z : Int) (tz tki : Tok) (l x dx lo : Addr) (fin : List Nat) (n : Nat) (m : Str → Option Value) (nx : List (Addr × Obj)) : Prop where
  row : m "row" = some (.ref l)
  size : m "size" = some (.int z tz)
  stack : m "stack" = some (.ref x)
  out : m "out" = some (.ref lo)
  ex : ∃ cur rs ou t o ps its k vo no tl, m "top" = some (.ref t) ∧ nx = (63, tabObj ps) :: (x, accObj 101 dx its k) :: (dx, iniDict w tki z tz) :: (lo, listOf (List.toArray vo) no) :: (t, o) :: tl ∧
    TopIs o cur ∧ (cur = none → rs = []) ∧ n = rs.length + cur.toList.length ∧ ou ++ (cur.toList ++ rs) = fin ∧
    TriplesOk ps.toList ∧ StkL its rs tl ∧ IntsAre vo (ou.map fun (r : Nat) => (r : Int)) ∧ AllNe x tl ∧ AllNe lo tl ∧ AllNe 63 tl ∧ @Ne Nat t x ∧ @Ne Nat t lo ∧ @Ne Nat t 63
structure WhJ (w : World) (z : Int) (tz tki : Tok) (l x dx lo : Addr) (r : Nat) (tr : Tok) (goal : List Nat × List Nat) (I : Addr) (oI : Obj) (n : Nat) (m : Str → Option Value) (nx : List (Addr × Obj)) : Prop where
  ex : ∃ g st nx', nx = (I, oI) :: nx' ∧ AllNe I nx' ∧ PassJ w z tz tki l x dx lo st m nx' ∧ m "going" = some (.bool g) ∧ popW r st.1 st.2 = goal ∧ (g = false → n = 0 ∧ popW r st.1 st.2 = st) ∧ (g = true → n = st.1.length + 1)
  x : m "x" = some (.int r tr)
  piece : ∃ t, m "piece" = some (.str (pc r) t)
  blanks : ∃ t, m "blanks" = some (.str (bl r) t)
theorem item_pc {r : Nat} (h : r < 12) : Txt.item (Str.ofString "abcdefghijkl") (r : Int) = pc r := by
  have : ∀ r : Nat, r < 12 → Txt.item (Str.ofString "abcdefghijkl") (r : Int) = pc r := by decide +kernel
  exact this r h
theorem mul_bl {r : Nat} (h : r < 12) : Txt.mul (Str.ofString " ") ((r : Int).fmod 3) = bl r := by
  have : ∀ r : Nat, r < 12 → Txt.mul (Str.ofString " ") ((r : Int).fmod 3) = bl r := by decide +kernel
  exact this r h
theorem letters_len : ((Str.ofString "abcdefghijkl").length : Int) = 12 := by decide +kernel
end Mine
end
section
open PySem PySem.W PyProof.Rows PySem.Calls
set_option maxRecDepth 100000
set_option maxHeartbeats 8000000
set_option linter.unusedVariables false
namespace Mine
theorem part_WPass : True := by
  w_top off
  trivial
local macro_rules | `(tactic| k_inst) => `(tactic| (refine' acc_inst ?N ?h1 ?h2; (case N => k_asm); (case h1 => k_mem); (case h2 => k_mem)))
local macro_rules | `(tactic| walk_at "wpAt") => `(tactic| (ks_step "exec Expr"; k_dflt (refine PySem.ks_wpAt_Expr_any ?_)))
local macro_rules | `(tactic| walk_at "wpAt") => `(tactic| (ks_step "exec Return"; k_dflt (refine PySem.ks_wpAt_Return_some ?_)))
local macro_rules | `(tactic| walk_at "wpAt") => `(tactic| (ks_step "exec If"; k_dflt (refine PySem.ks_wpAt_If ?_)))
local macro_rules | `(tactic| walk_at "wpAt") => `(tactic| (ks_step "eval Call"; k_dflt (refine PySem.ks_wpAt_MethodCall ?_)))
local macro_rules | `(tactic| walk_at "wpAt") => `(tactic| dsimp only)
local macro_rules | `(tactic| k_all) => `(tactic| assumption)
local macro_rules | `(tactic| walk_at "Exit0") => `(tactic| (refine ⟨_, _, (by k_asm), ?_⟩; intro kp; (try dsimp only)))
local macro_rules | `(tactic| walk_at "callWith ref") => `(tactic| (k_here; k_dflt (refine' callWith_bnd ?k1 ?k2 ?k3 ?k4 ?_; (case k1 => k_asm); (case k2 => k_mem); (case k3 => decide); (case k4 => decide); k_whole; try dsimp only [List.nil_append, List.cons_append])))
local macro_rules | `(tactic| walk_at "call ref") => `(tactic| (k_here; k_dflt (refine' bnd_call (News.get ?N ?k1) ?k2 ?k3 ?k4 ?k5 entry_linit ?_; (case N => k_asm); (case k1 => k_mem); (case k2 => decide); (case k3 => decide); (case k4 => exact fun A Q E h => bcheck_slot kind_linit (args_linit _) h); (case k5 => decide +kernel); refine' acc_init_run ?k6 ?k7 ?k8 ?_; (case k6 => k_asm); (case k7 => k_asm); (case k8 => k_updF); k_whole; intro h' n' F' N'; (try dsimp only at N'); (try k_sweep); refine ⟨_, rfl, ?_⟩)))
local macro_rules | `(tactic| walk_at "call ref") => `(tactic| (k_here; k_dflt (refine' bnd_call (News.get ?N ?k1) ?k2 ?k3 ?k4 plain_llen entry_llen ?_; (case N => k_asm); (case k1 => k_mem); (case k2 => decide); (case k3 => decide); (case k4 => exact fun A Q E h => bcheck_slot kind_llen (args_llen _) h); refine' acc_len_run (News.get ?k6 ?k7) ?_; (case k6 => k_asm); (case k7 => k_mem); k_whole; intro t'; refine ⟨_, rfl, ?_⟩)))
local macro_rules | `(tactic| walk_at "call ref") => `(tactic| (k_here; k_dflt (refine' bnd_call (News.get ?N ?k1) ?k2 ?k3 ?k4 plain_lpop entry_lpop ?_; (case N => k_asm); (case k1 => k_mem); (case k2 => decide); (case k3 => decide); (case k4 => exact fun A Q E h => bcheck_pop (K := wk.heap_39 _) (by k_in) (by k_inst) (f_mroMod _) (f_cls _).choose_spec.1 (f_cls _).choose_spec.2 (f_type101 _) h); refine' acc_pop_run ?k6 ?k7 ?k8 ?k9 ?_; (case k6 => k_asm); (case k7 => k_asm); (case k8 => k_updF); (case k9 => assumption); k_whole; intro h' n' F' N'; (try dsimp only at N'); (try k_sweep); refine ⟨_, rfl, ?_⟩)))
local macro_rules | `(tactic| walk_at "setAttr ref") => `(tactic| (k_here; k_dflt (refine' acc_set ?k1 ?k2 ?k3 ?k4 ?k5 (f_sa _) (f_listMro _) (f_taker _) ?k6 ?k7 ?k8 ?_; (case k1 => k_asm); (case k2 => k_asm); (case k3 => k_asm); (case k4 => k_mem); (case k5 => k_updF); (case k6 => rfl); (case k7 => rfl); (case k8 => exact Nat.le_of_ble_eq_true rfl); k_whole; intro h' F' N'; (try dsimp only at N'); (try k_sweep))))
local macro_rules | `(tactic| walk_at "getMethod ref") => `(tactic| (k_here; k_dflt (first
  | (refine' acc_super gets_init ?k1 ?k2 ?k3 ?k4 ?k5 (f_third _) (f_sinit _) (f_mroList _) rfl ?_; (case k1 => k_asm); (case k2 => k_asm); (case k3 => k_asm); (case k4 => k_mem); (case k5 => k_inst))
  | (refine' acc_super gets_pop ?k1 ?k2 ?k3 ?k4 ?k5 (f_third _) (f_spop _) (f_mroList _) rfl ?_; (case k1 => k_asm); (case k2 => k_asm); (case k3 => k_asm); (case k4 => k_mem); (case k5 => k_inst))
  | (refine' acc_super gets_len ?k1 ?k2 ?k3 ?k4 ?k5 (f_third _) (f_slen _) (f_mroList _) rfl ?_; (case k1 => k_asm); (case k2 => k_asm); (case k3 => k_asm); (case k4 => k_mem); (case k5 => k_inst))); k_whole; intro q' h' F' N' l1; (try k_lt l1)))
local macro_rules | `(tactic| walk_at "getMethod ref") => `(tactic| (k_here; k_dflt (refine' acc_method (K := wk.heap_39 _) ?k1 ?k2 (f_ga _) canon_lga (f_gattr _) ?k3 ?k4 ?k5 ?k6 ?_; (case k1 => k_in); (case k2 => k_inst); (case k3 => k_is); (case k4 => k_is); (case k5 => rfl); (case k6 => rfl); k_whole)))
local macro_rules | `(tactic| k_all) => `(tactic| exact allNe_out (by assumption))
local macro_rules | `(tactic| walk_at "loadName") => `(tactic| (k_here; k_dflt (refine' ldn ?k1 ?k2 ?_; (case k1 => k_asm); (case k2 => first | exact rfl | assumption); k_whole)))
local macro_rules | `(tactic| walk_at "call builtin:len") => `(tactic| (k_here; k_dflt (refine' len_any ?k1 ?k2 ?_; (case k1 => first | exact News.isList (by k_asm) (by k_mem) | exact Fr.lst (by assumption) (by assumption)); (case k2 => omega); k_whole); intro t' tk'))
local macro_rules | `(tactic| walk_at "call builtin:len") => `(tactic| (k_here; k_dflt (refine len_bl ?_); intro t' tk'))
local macro_rules | `(tactic| walk_at "exec For") => `(tactic| refine Stop.of ?_)
local macro_rules | `(tactic| walk_at "exec While") => `(tactic| refine Stop.of ?_)
local macro_rules | `(tactic| walk_at "eval Name") => `(tactic| (k_here; k_dflt (refine' ld ?k1 ?k2 ?_; (case k1 => k_asm); (case k2 => first | exact rfl | assumption); k_whole)))
local macro_rules | `(tactic| walk_at "compareOp Eq ref ref") => `(tactic| (k_here; k_dflt (refine' piece_eq ?k1 ?k2 ?k3 ?k4 ?k5 ?_; (case k1 => k_asm); (case k2 => k_mem); (case k3 => k_mem); (case k4 => assumption); (case k5 => ktr_units); k_whole)))
local macro_rules | `(tactic| walk_at "compareOp NotEq ref ref") => `(tactic| (k_here; k_dflt (refine' piece_ne ?k1 ?k2 ?k3 ?k4 ?k5 ?_; (case k1 => k_asm); (case k2 => k_mem); (case k3 => k_mem); (case k4 => assumption); (case k5 => ktr_units); k_whole)))
theorem m_pass (w : World) {dp un : Nat} {gd : Option (List Code)} {cn : Str} {cs : Scope} {a : Addr} {ccd : Value} {cl : List (Str × Addr)} {outer : List Env} {A₀ : Around} {base h₀ : Heap} {L : Addr} {m : Str → Option Value} {s : Shared}
    {p : Program} {loose : List Str} {mean : ExcName → Option Value} {mg mb : Str → Option Value} {Q E : Value → Shared → Prop} {l : Addr} {vs : List Value} {row : List Nat} {z : Int} {tz : Tok} {ps : Array Value}
    (B : Below A₀ base outer h₀) (F : Fr h₀ L s.heap m) (X : (wk.heap_39 w.params).In h₀) (T : Top p loose mean mg mb h₀) (hk : cs.kind = .function)
    (N : News h₀ L s.heap [(63, tabObj ps)]) (htr : TriplesOk ps.toList) (hl : s.heap.IsList l vs.toArray) (hv : IntsAre vs (row.map fun (r : Nat) => (r : Int))) (hrow : ∀ r ∈ row, r < 12) (hlen : row.length ≤ 12) (hz : 0 ≤ z) (hz4 : z < 4) (hdp : dp + 40 < recursionLimit) (hun : un + 200 < cLine)
    (ret : ∀ s' lo ps' vo no, Side s s' → KeptBut 63 s.heap s'.heap → s'.heap.get? 63 = some (tabObj ps') → TriplesOk ps'.toList → s.heap.get? lo = none → s'.heap.get? lo = some (listOf (List.toArray vo) no) → IntsAre vo ((passF row).map fun (r : Nat) => (r : Int)) → Q (.ref lo) s') :
    wpAny (model PySem.Challenge.rw_dw5001_01.row.prog w) (ktrTop dp un gd cn cs L a ccd cl outer) (call (.ref 117) [.ref l, .int z tz]) Q E s := by
  revert X
  k_fill
  intro X
  refine wpAny_call ?_
  k_dflt (refine' enterM ?k1 ?k2 ?k3 ?k4 ?k5 ?kA ?kF ?kK ?k6 ?k7 ?k8 ?k9 ?kB ?_ ?c2 ?c3 ?c4 ?c1; (case kA => exact rfl); (case kF => exact rfl); (case kK => assumption); (case k1 => k_asm); (case k2 => k_asm); (case k3 => k_asm); (case k4 => k_asm); (case k5 => k_asm); (case k6 => k_is); (case k7 => k_is); (case k8 => ktr_room); (case k9 => first | exact BindsTo.of_eq rfl | exact binds_K (by k_in) rfl (by k_is) rfl rfl rfl); (case kB => exact locs rfl); (case c1 => decide); (case c2 => exact rfl); (case c3 => exact rfl); (case c4 => exact rfl))
  have h63 := (N _ (.head _)).1
  clear F B X T
  intro g' L' h' hkeep F' N' B' X' T' l3
  have hne : ∀ b o, s.heap.get? b = some o → o.cls ≠ .none → b ≠ 63 := fun b o e hc q => by
    rw [q, h63] at e; cases e; exact hc rfl
  have hkx : ∀ b o, s.heap.get? b = some o → o.cls ≠ .none → g'.get? b = some o := fun b o e hc => hkeep b o e (by simpa using hne b o e hc)
  have hl' : g'.IsList l vs.toArray := by
    obtain ⟨o, ho, r⟩ := hl
    exact ⟨o, hkx _ _ ho (by rw [r.1]; simp), r⟩
  clear hkx hne hl h63 N
  k_steps
  refine m_new w B' F' X' T' rfl ?_ ?_ ?_
  · ktr_room
  · ktr_units
  intro x dx h1 tki tk1 n1 k1 hx hd hxd hx1 hd1
  have F1 := Kept.fr k1 F'
  have N1 := fresh_in F' hx hx1 (fresh_in F' hd hd1 (Kept.news k1 N'))
  have n1x := fresh_ne N' hx
  have n1d := fresh_ne N' hd
  simp only [AllNe, and_true] at n1x n1d
  clear F' N' k1 hx hd hx1 hd1
  k_steps
  rename Fr g' L' _ _ => F2
  rename News g' L' _ _ => N2
  refine Stop.mk ?_
  rename_i lo _ llo _ _
  refine for_list (J := fun i m nx => PassJ w z tz tki l x dx lo (passGo (row.take i) [] []) m nx) (vs := vs) rfl rfl rfl hl' F2 (news₀ := [(63, tabObj ps), (x, accObj 101 dx [] n1), (dx, iniDict w tki z tz), (lo, listOf #[] 0)]) (fun p hp => N2 p (by revert p; simp)) ?_ ?_ ?_ ?_
  · exact ⟨rfl, rfl, rfl, rfl, ⟨_, rfl⟩, ⟨ps, [], n1, [], 0, [], rfl, htr, .nil, .nil, trivial, trivial, trivial⟩, Nat.zero_le 12, (fun r hr => (List.not_mem_nil hr).elim), (fun r hr => (List.not_mem_nil hr).elim)⟩
  · k_steps
  · intro i v m₁ nx I oI s₁ hvi hJ hoff hS F3 N3
    obtain ⟨r, tr, hri, rfl⟩ := row_at hv hvi
    have hr12 : r < 12 := hrow r (List.mem_of_getElem? hri)
    obtain ⟨hp, gs, dr, tks, os⟩ := s₁
    dsimp only at *
    clear F2 N2 hvi
    have hJ' := hJ
    obtain ⟨m1, m2, m3, m4, ⟨th, m5⟩, ⟨ps1, its, n, vo, no, tl, rfl, htr1, hstk, hvo, a1, a2, a3⟩, few, mem1, mem2⟩ := hJ'
    k_steps
    · rename_i a3 _ _ _ _
      rw [letters_len] at a3
      omega
    rename Fr g' L' _ _ => F4
    rename News g' L' _ _ => N4
    refine Stop.mk ?_
    rw [item_pc hr12, mul_bl hr12] at F4
    refine While_inv2 (WhJ w z tz tki l x dx lo r tr (popW r (passGo (row.take i) [] []).1 (passGo (row.take i) [] []).2) I oI) (n₀ := (passGo (row.take i) [] []).1.length + 1) F4 N4 ?_ ?_
    · refine ⟨⟨true, passGo (row.take i) [] [], _, rfl, allNe_of hoff, ⟨m1, m2, m3, m4, ⟨th, m5⟩, hJ.led, hJ.few, hJ.mem1, hJ.mem2⟩, rfl, rfl, (nomatch ·), fun _ => rfl⟩, rfl, ⟨_, rfl⟩, ⟨_, rfl⟩⟩
    clear F4 N4 F3 N3 m1 m2 m3 m4 m5 hstk hvo htr1 a1 a2 a3 hJ hoff
    intro nn m2 news2 h2 tk2 F4 N4 hW
    obtain ⟨⟨g, st, nx', rfl, hI, hP, mg1, hgo, hg0, hg1⟩, mx, ⟨tp, mp⟩, ⟨tb, mb1⟩⟩ := hW
    obtain ⟨rs, ou⟩ := st
    obtain ⟨p1, p2, p3, p4, ⟨th, p5⟩, ⟨ps1, its, n, vo, no, tl, rfl, htr1, hstk, hvo, a1, a2, a3⟩, few, mem1, mem2⟩ := hP
    have hits : its.length ≤ 1000000 := by
      rw [hstk.len]; dsimp only at few ⊢; omega
    simp only [AllNe] at hI
    dsimp only at *
    cases g with
    | false =>
      obtain ⟨_, hst⟩ := hg0 rfl
      have hgo2 : (rs, ou) = popW r (passGo (row.take i) [] []).1 (passGo (row.take i) [] []).2 := hst.symm.trans hgo
      k_steps
      refine m_push w B' F4 X' T' rfl (News.two N4 (by k_mem) (by k_mem)) hxd hits ?_ ?_ ?_
      · ktr_room
      · ktr_units
      intro t h4 tk4 n4 kb hn ht hx4
      obtain ⟨F7, N7⟩ := after_mut F4 N4 (by k_updF) kb hx4
      have N8 := fresh_in F4 hn ht N7
      have n8 := fresh_ne N4 hn
      simp only [AllNe] at n8
      (try dsimp only at N8)
      clear F4 N4 N7 kb hn ht hx4
      k_steps
      rename Fr g' L' _ _ => F9
      rename News g' L' _ _ => N9
      have hstk9 : StkL (its ++ [.ref t]) (r :: rs) ((t, pieceObj r tb tp) :: tl) := hstk.cons
      refine m_len68 w (st := (r :: rs).reverse) B' F9 X' T' rfl (News.cons (N9 (63, _) (by k_mem)) News.nil) htr1 (N9 (x, _) (by k_mem)).1 (N9 (dx, _) (by k_mem)).1 ?_ hz hz4 ?_ ?_ ?_
      · refine hstk9.stk fun p hp => ?_
        rcases List.mem_cons.mp hp with rfl | hp
        · exact (N9 (t, _) (by k_mem)).1
        · exact (N9 p (by repeat (first | exact hp | refine List.Mem.tail _ ?_))).1
      · ktr_room
      · ktr_units
      intro s' t' ps' hS' k63 h63 htr'
      obtain ⟨F10, N10⟩ := after_mut F9 N9 (by k_updF) k63 h63
      (try dsimp only at N10)
      have hb := lenAt_sum (r :: rs).reverse (its ++ [Value.ref t]).length
      have hits2 : (its ++ [Value.ref t]).length ≤ 1000001 := by simp; omega
      refine ⟨⟨by omega, by omega⟩, ?_⟩
      have hval : preSum (lenAt (r :: rs).reverse) (its ++ [Value.ref t]).length = heldOf (r :: rs) := by
        rw [hstk9.len, held_pre]
      rw [hval]
      obtain ⟨hp5, gs5, dr5, tk5, os5⟩ := s'
      dsimp only at *
      clear F9 N9
      have hpg : passGo (row.take (i + 1)) [] [] = (r :: rs, ou) := by
        rw [List.take_add_one, hri]
        show passGo (row.take i ++ [r]) [] [] = _
        rw [passGo_snoc, ← hgo2]
      k_steps
      · exfalso
        rename _ ≠ _ => hq
        rw [heldOf_cons] at hq
        omega
      · rename _ = z + (heldOf rs + _) => hq
        refine ⟨_, (63, tabObj ps') :: (x, accObj 101 dx (its ++ [.ref t]) n4) :: (dx, iniDict w tki z tz) :: (lo, listOf (List.toArray vo) no) :: (t, pieceObj r tb tp) :: tl, Side.trans ⟨hS.1, hS.2⟩ ⟨hS'.1, hS'.2⟩, F10, News.cons (N10 (I, oI) (by k_mem)) (News.cons (N10 (63, _) (by k_mem)) (News.cons (N10 (x, _) (by k_mem)) (News.cons (N10 (dx, _) (by k_mem)) (News.cons (N10 (lo, _) (by k_mem)) (News.cons (N10 (t, _) (by k_mem)) (fun p (hp : p ∈ tl) => N10 p (by repeat (first | exact hp | refine List.Mem.tail _ ?_)))))))), ?_, ?_⟩
        · refine allNe_out (d := I) ?_
          simp only [AllNe]
          exact ⟨hI.1, hI.2.1, hI.2.2.1, hI.2.2.2.1, (by omega), hI.2.2.2.2⟩
        · rw [hpg]
          refine ⟨p1, p2, p3, p4, ⟨_, by rw [heldOf_cons, Int.add_assoc]; rfl⟩, ⟨ps', _, n4, vo, no, _, rfl, htr', hstk9, hvo, ⟨(by dsimp only; omega), a1⟩, ⟨(by dsimp only; omega), a2⟩, ⟨(by dsimp only; omega), a3⟩⟩, ?_, ?_, mem2⟩
          · have := passGo_len (row.take (i + 1)) [] []
            rw [hpg] at this
            have h2 : (row.take (i + 1)).length ≤ row.length := by rw [List.length_take]; omega
            simp only [List.length_nil] at this
            dsimp only at this ⊢
            omega
          · intro p hp
            rcases List.mem_cons.mp hp with rfl | hp
            · exact hr12
            · exact mem1 p hp
    | true =>
      cases rs with
      | nil =>
        cases hstk
        k_steps
        refine m_pop0 w B' F4 X' T' rfl (News.two N4 (by k_mem) (by k_mem)) hxd ?_ ?_ ?_
        · ktr_room
        · ktr_units
        intro t h3 t1 t2 tk3 kk hn ht
        have F5 := Kept.fr kk F4
        have N5 := fresh_in F4 hn ht (Kept.news kk N4)
        clear F4 N4 kk hn ht
        k_steps
        rename Fr g' L' _ _ => F6
        rename News g' L' _ _ => N6
        refine ⟨_, _, _, _, 0, rfl, F6, News.cons (N6 (I, oI) (by k_mem)) (News.cons (N6 (63, _) (by k_mem)) (News.cons (N6 (x, _) (by k_mem)) (News.cons (N6 (dx, _) (by k_mem)) (News.cons (N6 (lo, _) (by k_mem)) News.nil)))), ?_, ?_⟩
        · rw [hg1 rfl]; exact Nat.succ_pos _
        · refine ⟨⟨false, ([], ou), _, rfl, ?_, ⟨p1, p2, p3, p4, ⟨th, p5⟩, ⟨ps1, [], n, vo, no, [], rfl, htr1, .nil, hvo, trivial, trivial, trivial⟩, few, mem1, mem2⟩, rfl, hgo, fun _ => ⟨rfl, rfl⟩, (nomatch ·)⟩, mx, ⟨_, mp⟩, ⟨_, mb1⟩⟩
          simp only [AllNe]
          exact hI
      | cons q rs =>
        cases hstk with | @cons a ta tb _ vs' _ tl' hstk' =>
        have hq12 : q < 12 := mem1 q (.head _)
        k_steps
        refine m_pop1 w B' F4 X' T' rfl (News.two N4 (by k_mem) (by k_mem)) hxd ?_ ?_ ?_ ?_
        · simp at hits; omega
        · ktr_room
        · ktr_units
        intro h3 tk3 n3 kb hx3
        obtain ⟨F5, N5⟩ := after_mut F4 N4 (by k_updF) kb hx3
        (try dsimp only at N5)
        clear F4 N4 kb hx3
        k_steps
        · rename Txt.find _ _ = -1 => hf
          rw [find_pc hq12] at hf
          omega
        · rename Fr g' L' _ _ => F6
          rename News g' L' _ _ => N6
          rename (pc q).cps.toList < (pc r).cps.toList => hlt
          have hqr := (pc_lt hq12 hr12).mp hlt
          have hh : heldOf (q :: rs) - (((q % 3 : Nat) : Int) + 1) = heldOf rs := by rw [heldOf_cons]; omega
          rw [hh] at F6
          rw [find_pc hq12] at N6
          refine ⟨_, _, _, _, rs.length + 1, rfl, F6, News.cons (N6 (I, oI) (by k_mem)) (News.cons (N6 (63, _) (by k_mem)) (News.cons (N6 (x, _) (by k_mem)) (News.cons (N6 (dx, _) (by k_mem)) (News.cons (N6 (lo, _) (by k_mem)) (fun p (hp : p ∈ tl') => N6 p (by repeat (first | exact hp | refine List.Mem.tail _ ?_))))))), ?_, ?_⟩
          · rw [hg1 rfl]; exact Nat.lt_succ_self _
          · refine ⟨⟨true, (rs, ou ++ [q]), _, rfl, ?_, ⟨p1, p2, p3, p4, ⟨_, rfl⟩, ⟨ps1, _, n3, vo ++ [.int q _], _, tl', rfl, htr1, hstk', ?_, a1.2, a2.2, a3.2⟩, ?_, fun p hp => mem1 p (.tail _ hp), ?_⟩, mg1, ?_, (nomatch ·), fun _ => rfl⟩, mx, ⟨_, mp⟩, ⟨_, mb1⟩⟩
            · simp only [AllNe] at hI ⊢
              exact ⟨hI.1, hI.2.1, hI.2.2.1, hI.2.2.2.1, hI.2.2.2.2.2⟩
            · dsimp only
              rw [List.map_append]
              exact ints_snoc hvo _ _
            · simp only [List.length_cons, List.length_append, List.length_nil] at few ⊢
              omega
            · intro p hp
              rcases List.mem_append.mp hp with hp | hp
              · exact mem2 p hp
              · rw [List.mem_singleton.mp hp]; exact hq12
            · rw [← hgo, popW_lt hqr]
        · rename Fr g' L' _ _ => F6
          rename News g' L' _ _ => N6
          rename ¬ (pc q).cps.toList < (pc r).cps.toList => hlt
          have hqr : ¬ q < r := fun h => hlt ((pc_lt hq12 hr12).mpr h)
          refine m_push w B' F6 X' T' rfl (News.two N6 (by k_mem) (by k_mem)) hxd ?_ ?_ ?_ ?_
          · simp at hits; omega
          · ktr_room
          · ktr_units
          intro t h4 tk4 n4 kb hn ht hx4
          obtain ⟨F7, N7⟩ := after_mut F6 N6 (by k_updF) kb hx4
          have N8 := fresh_in F6 hn ht N7
          have n8 := fresh_ne N6 hn
          simp only [AllNe] at n8
          (try dsimp only at N8)
          clear F6 N6 N7 kb hn ht hx4
          k_steps
          rename Fr g' L' _ _ => F9
          rename News g' L' _ _ => N9
          refine ⟨_, _, _, _, 0, rfl, F9, News.cons (N9 (I, oI) (by k_mem)) (News.cons (N9 (63, _) (by k_mem)) (News.cons (N9 (x, _) (by k_mem)) (News.cons (N9 (dx, _) (by k_mem)) (News.cons (N9 (lo, _) (by k_mem)) (News.cons (N9 (t, _) (by k_mem)) (fun p (hp : p ∈ tl') => N9 p (by repeat (first | exact hp | refine List.Mem.tail _ ?_)))))))), ?_, ?_⟩
          · rw [hg1 rfl]; exact Nat.succ_pos _
          · refine ⟨⟨false, (q :: rs, ou), _, rfl, ?_, ⟨p1, p2, p3, p4, ⟨th, p5⟩, ⟨ps1, _, n4, vo, no, _, rfl, htr1, hstk'.cons, hvo, ?_, ?_, ?_⟩, few, mem1, mem2⟩, rfl, hgo, fun _ => ⟨rfl, popW_ge hqr⟩, (nomatch ·)⟩, mx, ⟨_, mp⟩, ⟨_, mb1⟩⟩
            · simp only [AllNe] at hI ⊢
              exact ⟨hI.1, hI.2.1, hI.2.2.1, hI.2.2.2.1, (by omega), hI.2.2.2.2.2⟩
            · exact ⟨(by dsimp only; omega), a1.2⟩
            · exact ⟨(by dsimp only; omega), a2.2⟩
            · exact ⟨(by dsimp only; omega), a3.2⟩
  · intro m₁ nx s₁ hJ hS F3 N3
    have hvl : row.take vs.length = row := by rw [ints_len hv, List.length_map, List.take_length]
    rw [hvl] at hJ
    have hpl := passGo_len row [] []
    have hfin : passF row = (passGo row [] []).2 ++ (passGo row [] []).1 := rfl
    generalize passGo row [] [] = st at hJ hpl hfin
    obtain ⟨rs, ou⟩ := st
    dsimp only at hpl hfin
    obtain ⟨p1, p2, p3, p4, ⟨th, p5⟩, ⟨ps1, its, n, vo, no, tl, rfl, htr1, hstk, hvo, a1, a2, a3⟩, few, mem1, mem2⟩ := hJ
    have hits : its.length ≤ 1000000 := by
      rw [hstk.len]; dsimp only at few ⊢; omega
    obtain ⟨hp, gs, dr, tks, os⟩ := s₁
    dsimp only at *
    clear F2 N2
    k_steps
    refine m_pop w B' F3 X' T' rfl N3 (by k_mem) (by k_mem) (fun p (hp : p ∈ tl) => (by repeat (first | exact hp | refine List.Mem.tail _ ?_))) hstk a1 hxd hits ?_ ?_ ?_
    · ktr_room
    · ktr_units
    intro t o h4 tk4 n4 its4 tl4 kb hx4 hstk4 hsub htop ht hor
    obtain ⟨F4, N4⟩ := after_mut F3 N3 (by k_updF) kb hx4
    (try dsimp only at N4)
    have htx : @Ne Nat t x := by
      rcases hor with h | h
      · exact fun e => h (x, accObj 101 dx its n) (by k_mem) e.symm
      · exact allNe_out a1 _ h
    have htl : @Ne Nat t lo := by
      rcases hor with h | h
      · exact fun e => h (lo, listOf (List.toArray vo) no) (by k_mem) e.symm
      · exact allNe_out a2 _ h
    have ht63 : @Ne Nat t 63 := by
      rcases hor with h | h
      · exact fun e => h (63, tabObj ps1) (by k_mem) e.symm
      · exact allNe_out a3 _ h
    have b1 : AllNe x tl4 := allNe_of fun p hp => allNe_out a1 p (hsub p hp)
    have b2 : AllNe lo tl4 := allNe_of fun p hp => allNe_out a2 p (hsub p hp)
    have b3 : AllNe 63 tl4 := allNe_of fun p hp => allNe_out a3 p (hsub p hp)
    have N5 : News g' L' h4 ((63, tabObj ps1) :: (x, accObj 101 dx its4 n4) :: (dx, iniDict w tki z tz) :: (lo, listOf (List.toArray vo) no) :: (t, o) :: tl4) :=
      News.cons (N4 (63, _) (by k_mem)) (News.cons (N4 (x, _) (by k_mem)) (News.cons (N4 (dx, _) (by k_mem)) (News.cons (N4 (lo, _) (by k_mem)) (News.cons ht (fun p hp => N4 p (by have hp := hsub p hp; repeat (first | exact hp | refine List.Mem.tail _ ?_)))))))
    clear F3 N3 kb hx4 N4 hor hsub ht a1 a2 a3
    k_steps
    rename Fr g' L' _ _ => F6
    rename News g' L' _ _ => N6
    refine Stop.mk ?_
    refine While_inv2 (FinJ w z tz tki l x dx lo (passF row)) (n₀ := rs.tail.length + rs.head?.toList.length) F6 N6 ?_ ?_
    · refine ⟨p1, p2, p3, p4, rs.head?, rs.tail, ou, t, o, ps1, its4, n4, vo, no, tl4, rfl, rfl, htop, ?_, rfl, ?_, htr1, hstk4, hvo, b1, b2, b3, htx, htl, ht63⟩
      · cases rs with
        | nil => exact fun _ => rfl
        | cons q rs => exact fun h => nomatch h
      · rw [hfin]
        cases rs <;> rfl
    clear F6 N6 p1 p2 p3 p4 p5 htop htr1 hstk4 hvo b1 b2 b3 htx htl ht63 htr hstk few mem1 mem2 hits
    intro nn m2 news2 h2 tk2 F4 N4 hW
    obtain ⟨p1, p2, p3, p4, cur, rs2, ou2, t, o, ps1, its, n, vo, no, tl, p5, rfl, htop, hcur, hnn, hall, htr1, hstk, hvo, a1, a2, a3, htx, htl, ht63⟩ := hW
    have hvol : vo.length = ou2.length := by rw [ints_len hvo, List.length_map]
    have hvsl : vs.length = row.length := by rw [ints_len hv, List.length_map]
    have hal : ou2.length + (cur.toList.length + rs2.length) = row.length := by
      rw [← passF_len row, ← hall, List.length_append, List.length_append]
    cases cur with
    | none =>
      obtain ⟨t1, t2, rfl⟩ := htop
      obtain rfl := hcur rfl
      cases hstk
      k_steps
      rename Fr g' L' _ _ => F6
      rename News g' L' _ _ => N6
      refine m_pc w B' F6 X' T' rfl (News.two N6 (p := (x, accObj 101 dx [] n)) (q := (dx, iniDict w tki z tz)) (by k_mem) (by k_mem)) hxd ?_ ?_ ?_
      · ktr_room
      · ktr_units
      intro h5 t5 tk5 kk
      have F7 := Kept.fr kk F6
      have N7 := Kept.news kk N6
      clear F6 N6 kk
      k_steps
      have hall2 : ou2 = passF row := by rw [← hall]; simp
      refine m_len68 w (its := []) (st := []) B' F7 X' T' rfl (News.cons (N7 (63, _) (by k_mem)) News.nil) htr1 (N7 (x, _) (by k_mem)).1 (N7 (dx, _) (by k_mem)).1 .nil hz hz4 ?_ ?_ ?_
      · ktr_room
      · ktr_units
      intro s' t' ps' hS' k63 h63 htr'
      obtain ⟨F10, N10⟩ := after_mut F7 N7 (by k_updF) k63 h63
      (try dsimp only at N10)
      have hval : z + preSum (lenAt []) (List.length ([] : List Value)) = z := by
        show z + 0 = z
        omega
      rw [hval]
      refine ⟨⟨by omega, by omega⟩, ?_⟩
      obtain ⟨hp5, gs5, dr5, tk5, os5⟩ := s'
      dsimp only at *
      clear F7 N7
      k_steps
      · exfalso
        rename z ≠ z => hq
        exact hq rfl
      rename Kept g' _ => kp
      rename News g' L' _ _ => kN
      have klo := (kN (lo, listOf (List.toArray vo) no) (by k_mem))
      refine ret _ lo ps' vo no (Side.trans ⟨hS.1, hS.2⟩ ⟨hS'.1, hS'.2⟩) (fun b o hb e => kp b o (hkeep b o e (by simpa using hb))) (kN (63, tabObj ps') (by k_mem)).1 htr' ?_ klo.1 (hall2 ▸ hvo)
      cases e : s.heap.get? lo with
      | none => rfl
      | some ob =>
        have h2 := hkeep lo ob e (by simp only [List.map_cons, List.map_nil, List.mem_singleton]; refine neN ?_; omega)
        rw [klo.2.2] at h2
        cases h2
    | some q =>
      obtain ⟨ta, tb, rfl⟩ := htop
      have hq12 : q < 12 := passF_mem hrow q (by rw [← hall]; simp)
      have hits : its.length ≤ 1000000 := by rw [hstk.len]; omega
      simp only [Option.toList, List.length_cons, List.length_nil] at hal hnn
      k_steps
      · rename Txt.find _ _ = -1 => hf
        rw [find_pc hq12] at hf
        omega
      · rename Fr g' L' _ _ => F5
        rename News g' L' _ _ => N5
        rw [find_pc hq12] at N5
        refine m_pop w B' F5 X' T' rfl N5 (by k_mem) (by k_mem) (fun p (hp : p ∈ tl) => (by repeat (first | exact hp | refine List.Mem.tail _ ?_))) hstk a1 hxd hits ?_ ?_ ?_
        · ktr_room
        · ktr_units
        intro t3 o3 h4 tk4 n4 its4 tl4 kb hx4 hstk4 hsub htop3 ht hor
        obtain ⟨F6, N6⟩ := after_mut F5 N5 (by k_updF) kb hx4
        (try dsimp only at N6)
        have htx3 : @Ne Nat t3 x := by
          rcases hor with h | h
          · exact fun e => h (x, accObj 101 dx its n) (by k_mem) e.symm
          · exact allNe_out a1 _ h
        have htl3 : @Ne Nat t3 lo := by
          rcases hor with h | h
          · exact fun e => h (lo, _) (by k_mem) e.symm
          · exact allNe_out a2 _ h
        have ht633 : @Ne Nat t3 63 := by
          rcases hor with h | h
          · exact fun e => h (63, tabObj ps1) (by k_mem) e.symm
          · exact allNe_out a3 _ h
        have N7 := News.cons (N6 (63, _) (by k_mem)) (News.cons (N6 (x, _) (by k_mem)) (News.cons (N6 (dx, _) (by k_mem)) (News.cons (N6 (lo, _) (by k_mem)) (News.cons (p := (t3, o3)) ht (fun p (hp : p ∈ tl4) => N6 p (by have hp := hsub p hp; repeat (first | exact hp | refine List.Mem.tail _ ?_)))))))
        clear F5 N5 kb hx4 N6
        k_steps
        rename Fr g' L' _ _ => F8
        rename News g' L' _ _ => N8
        rw [List.push_toArray] at N8
        refine ⟨_, _, _, _, rs2.tail.length + rs2.head?.toList.length, rfl, F8, N8, ?_, ?_⟩
        · cases rs2 <;> simp [hnn]
        · refine ⟨p1, p2, p3, p4, rs2.head?, rs2.tail, ou2 ++ [q], t3, o3, ps1, its4, n4, vo ++ [.int q _], _, tl4, rfl, rfl, htop3, ?_, rfl, ?_, htr1, hstk4, ?_, allNe_of fun p hp => allNe_out a1 p (hsub p hp), allNe_of fun p hp => allNe_out a2 p (hsub p hp), allNe_of fun p hp => allNe_out a3 p (hsub p hp), htx3, htl3, ht633⟩
          · cases rs2 with
            | nil => exact fun _ => rfl
            | cons q rs => exact fun h => nomatch h
          · rw [← hall]
            cases rs2 <;> simp
          · rw [List.map_append]
            exact ints_snoc hvo _ _
end Mine
end
section
open PySem PySem.W PyProof.Rows PySem.Calls
set_option maxRecDepth 100000
set_option maxHeartbeats 8000000
namespace Mine
theorem part_WWSup : True := by
  w_top off
  trivial
abbrev zs (row : List Nat) : List Int := row.map fun (r : Nat) => (r : Int)
theorem weight_row : ∀ row : List Nat, (∀ r ∈ row, r < 12) → PyData.weightAll ((zs row).map PyData.int) ≤ 5 * row.length
  | [], _ => by simp [PyData.weightAll]
  | r :: row, h => by
    have ih := weight_row row fun q hq => h q (.tail _ hq)
    have h1 : ∀ r : Nat, r < 12 → PyData.weight (.int (r : Int)) ≤ 4 := by decide +kernel
    have h2 := h1 r (h r (.head _))
    simp only [zs, List.map_cons, PyData.weightAll, List.length_cons] at ih ⊢
    omega
theorem lay_row {row : List Nat} (h : ∀ r ∈ row, r < 12) (hl : row.length ≤ 12) : PyData.layable0 (.list ((zs row).map PyData.int)) = true := by
  have hw := weight_row row h
  have e : PyData.weight (.list ((zs row).map PyData.int)) = PyData.weightAll ((zs row).map PyData.int) := rfl
  have e2 : PyData.depth (.list ((zs row).map PyData.int)) ≤ 64 := by
    simp only [PyData.depth, ke_depthAll]
    decide
  simp only [PyData.layable0, Bool.and_eq_true, decide_eq_true_eq]
  refine ⟨⟨?_, e2⟩, ?_⟩
  · simp only [PyData.canLay0]; exact ke_canLayAll0 _
  · rw [e]; omega
theorem idxOf_zs (M : Nat) : ∀ row : List Nat, (zs row).idxOf (M : Int) = row.idxOf M
  | [] => rfl
  | r :: row => by
    simp only [zs, List.map_cons, List.idxOf_cons]
    have ih := idxOf_zs M row
    by_cases h : r = M
    · subst h; simp
    · have h2 : ((r : Int) == (M : Int)) = false := by simp; omega
      have h3 : (r == M) = false := by simp [h]
      rw [h2, h3]
      simp only [cond_false]
      rw [← ih]
theorem mem_zs {M : Int} {row : List Nat} (h : M ∈ zs row) : ∃ n : Nat, M = n ∧ n ∈ row := by
  obtain ⟨n, hn, e⟩ := List.mem_map.mp h
  exact ⟨n, e.symm, hn⟩
/-- West's own recursion, as a relation -/
inductive West : List Nat → List Nat → Prop
  | nil : West [] []
  | node {A B a b : List Nat} {M : Nat} : (∀ r ∈ A, r < M) → (∀ r ∈ B, r ≤ M) → West A a → West B b → West (A ++ M :: B) (a ++ b ++ [M])
theorem West.length {A a : List Nat} (h : West A a) : A.length = a.length := by
  induction h with
  | nil => rfl
  | node _ _ _ _ h1 h2 => simp only [List.length_append, List.length_cons, List.length_nil]; omega
theorem split_at {row : List Nat} {M : Nat} (h : M ∈ row) : row = row.take (row.idxOf M) ++ M :: row.drop (row.idxOf M + 1) ∧ M ∉ row.take (row.idxOf M) := by
  have hi := List.idxOf_lt_length_iff.mpr h
  have he : row[row.idxOf M] = M := List.getElem_idxOf hi
  constructor
  · conv => lhs; rw [← List.take_append_drop (row.idxOf M) row]
    congr 1
    rw [List.drop_eq_getElem_cons hi, he]
  · intro hm
    obtain ⟨j, hj, e⟩ := List.getElem_of_mem hm
    rw [List.length_take] at hj
    have hj2 : j < row.idxOf M := by omega
    have := List.not_of_lt_findIdx (p := (· == M)) hj2
    rw [List.getElem_take] at e
    simp [e] at this
end Mine
end
section
open PySem PySem.W PyProof.Rows PySem.Calls
set_option maxRecDepth 100000
set_option maxHeartbeats 8000000
set_option linter.unusedVariables false
namespace Mine
theorem part_WWest : True := by
  w_top off
  trivial
local macro_rules | `(tactic| walk_at "nowhere WWest 0") => `(tactic| skip)
local macro_rules | `(tactic| k_inst) => `(tactic| (refine' acc_inst ?N ?h1 ?h2; (case N => k_asm); (case h1 => k_mem); (case h2 => k_mem)))
local macro_rules | `(tactic| walk_at "wpAt") => `(tactic| (ks_step "exec Expr"; k_dflt (refine PySem.ks_wpAt_Expr_any ?_)))
local macro_rules | `(tactic| walk_at "wpAt") => `(tactic| (ks_step "exec Return"; k_dflt (refine PySem.ks_wpAt_Return_some ?_)))
local macro_rules | `(tactic| walk_at "wpAt") => `(tactic| (ks_step "exec If"; k_dflt (refine PySem.ks_wpAt_If ?_)))
local macro_rules | `(tactic| walk_at "wpAt") => `(tactic| (ks_step "eval Call"; k_dflt (refine PySem.ks_wpAt_MethodCall ?_)))
local macro_rules | `(tactic| walk_at "wpAt") => `(tactic| dsimp only)
local macro_rules | `(tactic| k_all) => `(tactic| assumption)
local macro_rules | `(tactic| walk_at "Exit0") => `(tactic| (refine ⟨_, _, (by k_asm), ?_⟩; intro kp; (try dsimp only)))
local macro_rules | `(tactic| walk_at "callWith ref") => `(tactic| (k_here; k_dflt (refine' callWith_bnd ?k1 ?k2 ?k3 ?k4 ?_; (case k1 => k_asm); (case k2 => k_mem); (case k3 => decide); (case k4 => decide); k_whole; try dsimp only [List.nil_append, List.cons_append])))
local macro_rules | `(tactic| walk_at "call ref") => `(tactic| (k_here; k_dflt (refine' bnd_call (News.get ?N ?k1) ?k2 ?k3 ?k4 ?k5 entry_linit ?_; (case N => k_asm); (case k1 => k_mem); (case k2 => decide); (case k3 => decide); (case k4 => exact fun A Q E h => bcheck_slot kind_linit (args_linit _) h); (case k5 => decide +kernel); refine' acc_init_run ?k6 ?k7 ?k8 ?_; (case k6 => k_asm); (case k7 => k_asm); (case k8 => k_updF); k_whole; intro h' n' F' N'; (try dsimp only at N'); (try k_sweep); refine ⟨_, rfl, ?_⟩)))
local macro_rules | `(tactic| walk_at "call ref") => `(tactic| (k_here; k_dflt (refine' bnd_call (News.get ?N ?k1) ?k2 ?k3 ?k4 plain_llen entry_llen ?_; (case N => k_asm); (case k1 => k_mem); (case k2 => decide); (case k3 => decide); (case k4 => exact fun A Q E h => bcheck_slot kind_llen (args_llen _) h); refine' acc_len_run (News.get ?k6 ?k7) ?_; (case k6 => k_asm); (case k7 => k_mem); k_whole; intro t'; refine ⟨_, rfl, ?_⟩)))
local macro_rules | `(tactic| walk_at "call ref") => `(tactic| (k_here; k_dflt (refine' bnd_call (News.get ?N ?k1) ?k2 ?k3 ?k4 plain_lpop entry_lpop ?_; (case N => k_asm); (case k1 => k_mem); (case k2 => decide); (case k3 => decide); (case k4 => exact fun A Q E h => bcheck_pop (K := wk.heap_39 _) (by k_in) (by k_inst) (f_mroMod _) (f_cls _).choose_spec.1 (f_cls _).choose_spec.2 (f_type101 _) h); refine' acc_pop_run ?k6 ?k7 ?k8 ?k9 ?_; (case k6 => k_asm); (case k7 => k_asm); (case k8 => k_updF); (case k9 => assumption); k_whole; intro h' n' F' N'; (try dsimp only at N'); (try k_sweep); refine ⟨_, rfl, ?_⟩)))
local macro_rules | `(tactic| walk_at "setAttr ref") => `(tactic| (k_here; k_dflt (refine' acc_set ?k1 ?k2 ?k3 ?k4 ?k5 (f_sa _) (f_listMro _) (f_taker _) ?k6 ?k7 ?k8 ?_; (case k1 => k_asm); (case k2 => k_asm); (case k3 => k_asm); (case k4 => k_mem); (case k5 => k_updF); (case k6 => rfl); (case k7 => rfl); (case k8 => exact Nat.le_of_ble_eq_true rfl); k_whole; intro h' F' N'; (try dsimp only at N'); (try k_sweep))))
local macro_rules | `(tactic| walk_at "getMethod ref") => `(tactic| (k_here; k_dflt (first
  | (refine' acc_super gets_init ?k1 ?k2 ?k3 ?k4 ?k5 (f_third _) (f_sinit _) (f_mroList _) rfl ?_; (case k1 => k_asm); (case k2 => k_asm); (case k3 => k_asm); (case k4 => k_mem); (case k5 => k_inst))
  | (refine' acc_super gets_pop ?k1 ?k2 ?k3 ?k4 ?k5 (f_third _) (f_spop _) (f_mroList _) rfl ?_; (case k1 => k_asm); (case k2 => k_asm); (case k3 => k_asm); (case k4 => k_mem); (case k5 => k_inst))
  | (refine' acc_super gets_len ?k1 ?k2 ?k3 ?k4 ?k5 (f_third _) (f_slen _) (f_mroList _) rfl ?_; (case k1 => k_asm); (case k2 => k_asm); (case k3 => k_asm); (case k4 => k_mem); (case k5 => k_inst))); k_whole; intro q' h' F' N' l1; (try k_lt l1)))
local macro_rules | `(tactic| walk_at "getMethod ref") => `(tactic| (k_here; k_dflt (refine' acc_method (K := wk.heap_39 _) ?k1 ?k2 (f_ga _) canon_lga (f_gattr _) ?k3 ?k4 ?k5 ?k6 ?_; (case k1 => k_in); (case k2 => k_inst); (case k3 => k_is); (case k4 => k_is); (case k5 => rfl); (case k6 => rfl); k_whole)))
local macro_rules | `(tactic| walk_at "exec For") => `(tactic| refine Stop.of ?_)
local macro_rules | `(tactic| walk_at "exec While") => `(tactic| refine Stop.of ?_)
local macro_rules | `(tactic| walk_at "loadName") => `(tactic| (k_here; k_dflt (refine' ldn ?k1 ?k2 ?_; (case k1 => k_asm); (case k2 => first | exact rfl | assumption); k_whole)))
local macro_rules | `(tactic| walk_at "eval Name") => `(tactic| (k_here; k_dflt (refine' ld ?k1 ?k2 ?_; (case k1 => k_asm); (case k2 => first | exact rfl | assumption); k_whole)))
local macro_rules | `(tactic| walk_at "compareOp Eq ref ref") => `(tactic| (k_here; k_dflt (refine' ke_eq_ints ?a ?b ?c ?d ?e ?_; (case a => first | exact Fr.lst (by k_asm) (by k_asm) | exact News.isList (by k_asm) (by k_mem)); (case b => first | exact Fr.lst (by k_asm) (by k_asm) | exact News.isList (by k_asm) (by k_mem)); (case c => first | exact IntsAre.nil | assumption); (case d => first | exact IntsAre.nil | assumption); (case e => ktr_units); k_whole)))
local macro_rules | `(tactic| walk_at "compareOp NotEq ref ref") => `(tactic| (k_here; k_dflt (refine' ke_ne_ints ?a ?b ?c ?d ?e ?_; (case a => first | exact Fr.lst (by k_asm) (by k_asm) | exact News.isList (by k_asm) (by k_mem)); (case b => first | exact Fr.lst (by k_asm) (by k_asm) | exact News.isList (by k_asm) (by k_mem)); (case c => first | exact IntsAre.nil | assumption); (case d => first | exact IntsAre.nil | assumption); (case e => ktr_units); k_whole)))
local macro_rules | `(tactic| walk_at "getMethod ref") => `(tactic| (k_here; k_dflt (refine' getMethod_list_of PySem.F.slot_list_index PySem.F.type_list_index (Fr.lst ?a ?b) (Heap.NoDictAt.keeps ?c ?d) ?_; (case a => k_asm); (case b => k_asm); (case c => exact Fr.keep (by k_asm)); (case d => assumption))))
local macro_rules | `(tactic| walk_at "call builtin:max") => `(tactic| (k_here; k_dflt (refine' kso_max ?k1 ?k2 (Fr.lst ?k3 ?k7) ?k4 ?k5 ?k6 ?_; (case k1 => k_asm); (case k2 => k_asm); (case k3 => k_asm); (case k7 => k_asm); (case k4 => k_asm); (case k5 => assumption); (case k6 => rfl)); intro hM M' tM tkM FM NM hM1 hM2; (try k_sweep)))
def WestC (w : World) (n : Nat) : Prop := ∀ {dp un : Nat} {gd : Option (List Code)} {cn : Str} {cs : Scope} {a : Addr} {ccd : Value} {cl : List (Str × Addr)} {outer : List Env} {A₀ : Around} {base h₀ : Heap} {L : Addr} {m : Str → Option Value} {s : Shared}
    {p : Program} {loose : List Str} {mean : ExcName → Option Value} {mg mb : Str → Option Value} {Q E : Value → Shared → Prop} {l : Addr} {no : Nat} {vs : List Value} {row : List Nat}
    (B : Below A₀ base outer h₀) (F : Fr h₀ L s.heap m) (X : (wk.heap_39 w.params).In h₀) (T : Top p loose mean mg mb h₀) (hk : cs.kind = .function) (hl : s.heap.get? l = some (listOf (List.toArray vs) no)) (hv : IntsAre vs (zs row)) (hrow : ∀ r ∈ row, r < 12) (hlen : row.length ≤ 12) (hn : row.length < n) (hdp : dp + 10 * n < recursionLimit) (hun : un + 50 * n + 200 < cLine)
    (ret : ∀ lo h' tk' vo no row', Kept s.heap h' → s.heap.get? lo = none → h'.get? lo = some (listOf (List.toArray vo) no) → IntsAre vo (zs row') → West row row' → Q (.ref lo) { s with heap := h', toks := tk' }),
    wpAny (model PySem.Challenge.rw_dw5001_01.row.prog w) (ktrTop dp un gd cn cs L a ccd cl outer) (call (.ref 124) [.ref l]) Q E s
theorem m_westC (w : World) : ∀ n, WestC w n := by
  intro n
  induction n with
  | zero => intro _ _ _ _ _ _ _ _ _ _ _ _ _ _ _ _ _ _ _ _ _ _ _ _ _ _ _ _ _ _ _ _ _ _ _ hn; exact absurd hn (Nat.not_lt_zero _)
  | succ n ih =>
  intro dp un gd cn cs a ccd cl outer A₀ base h₀ L m s p loose mean mg mb Q E l no vs row B F X T hk hl hv hrow hlen hn hdp hun ret
  revert X
  k_fill
  intro X
  refine wpAny_call ?_
  have hG := Kept.refl s.heap
  k_dflt (refine' enter0 ?k1 ?k2 ?k3 ?k5 ?kA ?kF ?kK ?k6 ?k7 ?k8 ?k9 ?kB ?_ ?c2 ?c3 ?c4 ?c1; (case kA => exact rfl); (case kF => exact rfl); (case kK => assumption); (case k1 => k_asm); (case k2 => k_asm); (case k3 => k_asm); (case k5 => k_asm); (case k6 => k_is); (case k7 => k_is); (case k8 => ktr_room); (case k9 => first | exact BindsTo.of_eq rfl | exact binds_K (by k_in) rfl (by k_is) rfl rfl rfl); (case kB => exact locs rfl); (case c1 => decide); (case c2 => exact rfl); (case c3 => exact rfl); (case c4 => exact rfl))
  clear F B X T
  intro L' h' F' N' B' X' T'
  have hL : s.heap.IsList l (List.toArray vs) := ⟨_, hl, rfl, _, rfl⟩
  have hD : s.heap.NoDictAt (.ref l) := ⟨_, hl, rfl⟩
  have hlay := lay_row hrow hlen
  have hlz : (zs row).length = row.length := List.length_map ..
  have hl0 : row = [] ∨ 0 < (zs row).length := by cases row <;> simp
  k_steps
  · rename decide (zs row = []) = true => hz
    have : row = [] := by simpa using hz
    subst this
    rename News _ _ _ _ => N4
    rename Kept s.heap _ => kp
    exact ret _ _ _ [] _ [] kp (N4 _ (.head _)).2.2 (N4 _ (.head _)).1 .nil .nil
  · rename _ ∈ zs row => hM
    rename ∀ a ∈ zs row, a ≤ _ => hMax
    obtain ⟨Mn, rfl, hMn⟩ := mem_zs hM
    rename Fr _ _ _ _ => F4
    rename News _ _ _ _ => N4
    rename IntsAre _ (List.take _ _) => hI
    have hi := List.idxOf_lt_length_iff.mpr hMn
    rw [idxOf_zs] at F4
    rw [idxOf_zs, Int.toNat_natCast] at hI
    rw [show List.take (row.idxOf Mn) (zs row) = zs (row.take (row.idxOf Mn)) from (List.map_take ..).symm] at hI
    refine ih B' F4 X' T' rfl (N4 _ (.head _)).1 hI (fun r hr => hrow r (List.mem_of_mem_take hr)) ?_ ?_ ?_ ?_ ?_
    · rw [List.length_take]; omega
    · rw [List.length_take]; omega
    · ktr_room
    · ktr_units
    intro lo1 h5 tk5 vo1 no1 r1 kk hn1 ho1 hv1 hW1
    have F5 := Kept.fr kk F4
    have N5 := fresh_in F4 hn1 ho1 (Kept.news kk N4)
    have n5 := fresh_ne N4 hn1
    simp only [AllNe, and_true] at n5
    clear F4 N4 kk hn1 ho1 hI hM
    rename InCall _ _ _ _ => hIC
    clear hIC
    have hl1 : (zs r1).length ≤ 12 := by rw [List.length_map, ← hW1.length, List.length_take]; omega
    k_steps
    rename Fr _ _ _ _ => F6
    rename News _ _ _ _ => N6
    rename IntsAre _ (List.drop _ _) => hI
    have e1 : ((row.idxOf Mn : Nat) : Int) + 1 = ((row.idxOf Mn + 1 : Nat) : Int) := by omega
    rw [e1, Int.toNat_natCast, show List.drop (row.idxOf Mn + 1) (zs row) = zs (row.drop (row.idxOf Mn + 1)) from (List.map_drop ..).symm] at hI
    refine ih B' F6 X' T' rfl (N6 _ (.head _)).1 hI (fun r hr => hrow r (List.mem_of_mem_drop hr)) ?_ ?_ ?_ ?_ ?_
    · rw [List.length_drop]; omega
    · rw [List.length_drop]; omega
    · ktr_room
    · ktr_units
    intro lo2 h7 tk7 vo2 no2 r2 kk hn2 ho2 hv2 hW2
    have F7 := Kept.fr kk F6
    have N7 := fresh_in F6 hn2 ho2 (Kept.news kk N6)
    have n7 := fresh_ne N6 hn2
    simp only [AllNe, and_true] at n7
    clear F6 N6 kk hn2 ho2 hI
    have hl2 : (zs r2).length ≤ 12 := by rw [List.length_map, ← hW2.length, List.length_drop]; omega
    k_steps
    rename IntsAre _ (zs r1 ++ zs r2 ++ [List.getD _ _ _]) => hI
    rename News _ _ _ _ => N8
    rename Kept s.heap _ => kp
    have e2 : (zs row).getD (((row.idxOf Mn : Nat) : Int)).toNat 0 = (Mn : Int) := by
      rw [Int.toNat_natCast, List.getD_eq_getElem?_getD, List.getElem?_map, List.getElem?_eq_getElem hi, List.getElem_idxOf hi]
      rfl
    rw [e2] at hI
    have e3 : zs r1 ++ zs r2 ++ [(Mn : Int)] = zs (r1 ++ r2 ++ [Mn]) := by simp [zs]
    rw [e3] at hI
    have hW : West (row.take (row.idxOf Mn) ++ Mn :: row.drop (row.idxOf Mn + 1)) (r1 ++ r2 ++ [Mn]) := by
      have hle : ∀ r ∈ row, r ≤ Mn := fun r hr => by
        have := hMax (r : Int) (List.mem_map.mpr ⟨r, hr, rfl⟩)
        omega
      refine .node (fun r hr => ?_) (fun r hr => hle r (List.mem_of_mem_drop hr)) hW1 hW2
      have h1 := hle r (List.mem_of_mem_take hr)
      have h2 : r ≠ Mn := fun e => (split_at hMn).2 (e ▸ hr)
      omega
    rw [← (split_at hMn).1] at hW
    exact ret _ _ _ _ _ _ kp (N8 _ (.head _)).2.2 (N8 _ (.head _)).1 hI hW
end Mine
end
section
open PySem PySem.W PyProof.Rows PySem.Calls
set_option maxRecDepth 100000
set_option maxHeartbeats 8000000
namespace Mine
theorem part_WRange : True := by
  w_top off
  trivial
abbrev riObj (x left : Int) : Obj := { cls := .type "range_iterator", dict := none, data := .fields #[rawInt x, rawInt left, rawInt 1], slots := #[] }
section
variable {prog : Program} {w : World} {A : Around} {E : Value → Shared → Prop} {s : Shared} {env : Env} {h₀ : Heap} {Q : Flow → Shared → Prop}
def RangeAt (h₀ : Heap) (L : Addr) (s₀ : Shared) (a b : Int) (m₀ : Str → Option Value) (news₀ : List (Addr × Obj)) (v : Value) (s₁ : Shared) : Prop :=
  ∃ r t u k, v = .ref r ∧ IsRange s₁.heap r a b 1 t u k ∧ Side s₀ s₁ ∧ Fr h₀ L s₁.heap m₀ ∧ News h₀ L s₁.heap news₀
theorem rng1 {L : Addr} {s₀ : Shared} {n : Int} {t : Tok} {m₀ : Str → Option Value} {news₀ : List (Addr × Obj)} (F : Fr h₀ L s.heap m₀) (N : News h₀ L s.heap news₀) (S : Side s₀ s) :
    wpAny (model prog w) A (call (.type "range") [.int n t]) (RangeAt h₀ L s₀ 0 n m₀ news₀) E s :=
  call_range_1 ⟨_, _, _, _, rfl, Heap.get?_push_size _ rfl, ⟨S.1, S.2⟩, F.push _, fun p hp => ⟨Heap.get?_push_of_some _ (N p hp).1, (N p hp).2⟩⟩
theorem rng2 {L : Addr} {s₀ : Shared} {a b : Int} {t u : Tok} {m₀ : Str → Option Value} {news₀ : List (Addr × Obj)} (F : Fr h₀ L s.heap m₀) (N : News h₀ L s.heap news₀) (S : Side s₀ s) :
    wpAny (model prog w) A (call (.type "range") [.int a t, .int b u]) (RangeAt h₀ L s₀ a b m₀ news₀) E s :=
  call_range_2 ⟨_, _, _, _, rfl, Heap.get?_push_size _ rfl, ⟨S.1, S.2⟩, F.push _, fun p hp => ⟨Heap.get?_push_of_some _ (N p hp).1, (N p hp).2⟩⟩
theorem small_of {a b : Nat} (ha : a ≤ 1000) (hb : b ≤ 1000) : Builtin.Range.small (a : Int) (b : Int) 1 = true := by
  have h : ∀ x : Int, 0 ≤ x → x ≤ 2000 → Builtin.Range.rangeFitsLong x = true := fun x h0 h1 => by
    simp [Builtin.Range.rangeFitsLong]; omega
  have hs : 0 ≤ Builtin.Range.rangeSize (a : Int) b 1 ∧ Builtin.Range.rangeSize (a : Int) b 1 ≤ 2000 := by
    simp [Builtin.Range.rangeSize]; split <;> omega
  unfold Builtin.Range.small
  simp only [h a (by omega) (by omega), h b (by omega) (by omega), h 1 (by omega) (by omega), h _ hs.1 hs.2, Bool.and_true, Bool.true_and, Int.sub_self, Int.add_zero]
  simp [h b (by omega) (by omega)]
theorem size_of {a b : Nat} (h : a ≤ b) : Builtin.Range.rangeSize (a : Int) (b : Int) 1 = ((b - a : Nat) : Int) := by
  simp [Builtin.Range.rangeSize]
  split <;> omega
theorem for_range {x : Str} {px pos : Pos} {iter : Expr} {body : List Stmt} {a b : Int} {n : Nat} {m₀ : Str → Option Value} {news₀ : List (Addr × Obj)} (J : Nat → (Str → Option Value) → List (Addr × Obj) → Prop)
    (_F₀ : Fr h₀ env.locals s.heap m₀) (_N₀ : News h₀ env.locals s.heap news₀) (hh : A.handled = none) (hx : env.kindOf x = some .local) (hp : (env.scope.kind == .class || (env.scope.kind == .module && env.locals != env.globals)) = false)
    (hsmall : Builtin.Range.small a b 1 = true) (hn : Builtin.Range.rangeSize a b 1 = (n : Int)) (hj : J 0 m₀ news₀)
    (he : wpAny (model prog w) A (eval iter env) (RangeAt h₀ env.locals s a b m₀ news₀) E s)
    (turn : ∀ i tk m₁ nx I oI s₁, i < n → J i m₁ nx → (∀ p ∈ nx, p.1 ≠ I) → Side s s₁ → Fr h₀ env.locals s₁.heap (fun y => if y = x then some (.int (a + (i : Int)) tk) else m₁ y) → News h₀ env.locals s₁.heap ((I, oI) :: nx) →
      wpAny (model prog w) A (execs body env) (TurnPost h₀ env.locals s I oI (J (i + 1)) Q) E s₁)
    (done : ∀ m₁ nx s₁, J n m₁ nx → Side s s₁ → Fr h₀ env.locals s₁.heap m₁ → News h₀ env.locals s₁.heap nx → Q .next s₁)
    (hs : ∀ x, foldedSetIterable iter env x = pure x := by intro _; rfl) (hE : PassesOwn (model prog w) A env E := by passes_own) :
    wpAny (model prog w) A (exec (.For (.Name x px) iter body [] pos) env) Q E s := by
  refine wpAny_For (wpAny_mono he (fun xv s₁ h₁ => ?_) fun _ _ e => e) hs
  obtain ⟨r, t, u, k, rfl, hr, hS₁, F, N⟩ := h₁
  have hLlt := F.ns.lt
  refine wpAny_pyIter_range hr hsmall ?_
  generalize hIe : s₁.heap.objs.size = I at hLlt ⊢
  have hI₀ : h₀.get? I = none := hIe ▸ next_is_new F
  have hLI : env.locals ≠ I := Nat.ne_of_lt hLlt
  refine codeAny_forLoop (fun k s' => ∃ i m' nx, Side s s' ∧ IsRangeIter s'.heap I (a + (i : Nat)) ((n : Int) - (i : Nat)) 1 ∧ Fr h₀ env.locals s'.heap m' ∧ News h₀ env.locals s'.heap nx ∧ (∀ p ∈ nx, p.1 ≠ I) ∧ J i m' nx ∧ i ≤ n ∧ k = n + 1 - i) ?_ (n + 1)
    ⟨0, m₀, news₀, ⟨hS₁.1, hS₁.2⟩, by show IsRangeIter _ _ _ _ _; rw [hn]; simpa using hIe ▸ Heap.get?_push_size _ rfl, F.push _, (fun p hp => ⟨Heap.get?_push_of_some _ (N p hp).1, (N p hp).2⟩), (fun p hp => hIe ▸ Nat.ne_of_lt (Heap.lt_size (N p hp).1)), hj, Nat.zero_le _, rfl⟩
  rintro k s' ⟨i, m', nx, hS, hit, F', N', hoff, hJ, hi, rfl⟩
  have keepI : ∀ h' : Heap, (∀ b o, b ≠ I → s'.heap.get? b = some o → h'.get? b = some o) → Fr h₀ env.locals h' m' ∧ News h₀ env.locals h' nx := fun h' hk => by
    obtain ⟨oL, es, ep, hL, r⟩ := F'.ns
    exact ⟨⟨⟨oL, es, ep, hk _ _ hLI hL, r⟩, fun b o e => hk b o (fun q => by rw [q, hI₀] at e; cases e) (F'.keep b o e), F'.above⟩, fun p hp => ⟨hk _ _ (hoff p hp) (N' p hp).1, (N' p hp).2⟩⟩
  by_cases hlt : i < n
  · refine wpAny_pyNext_range_item hit (by omega) fun h1 hit1 hs1 => ?_
    obtain ⟨F1, N1⟩ := keepI h1 fun b o hb e => hs1.extBut b o hb e
    refine wpAny_assign_Name (wpAny_storeName_local hx F1.ns (fun h2 hn2 hs2 => ?_) hp)
    have F2 := F1.set hn2 hs2
    have heI2 := (hs2.2 I (Ne.symm hLI)).trans hit1
    have N2 : News h₀ env.locals h2 ((I, riObj (a + (i : Int) + 1) ((n : Int) - (i : Int) - 1)) :: nx) := News.cons (p := (I, _)) ⟨heI2, Ne.symm hLI, hI₀⟩ (N1.set hs2)
    refine wpAny_passesOwn hE (wpAny_mono (turn i _ m' nx I _ _ hlt hJ hoff ⟨hS.1, hS.2⟩ F2 N2) (fun f s₃ h₃ => ?_) fun _ _ e => e)
    have fin : (∃ m₂ nx₂, Side s s₃ ∧ Fr h₀ env.locals s₃.heap m₂ ∧ News h₀ env.locals s₃.heap ((I, riObj (a + (i : Int) + 1) ((n : Int) - (i : Int) - 1)) :: nx₂) ∧ (∀ p ∈ nx₂, p.1 ≠ I) ∧ J (i + 1) m₂ nx₂) →
        ∃ mm, mm < n + 1 - i ∧ ∃ i m' nx, Side s s₃ ∧ IsRangeIter s₃.heap I (a + (i : Nat)) ((n : Int) - (i : Nat)) 1 ∧ Fr h₀ env.locals s₃.heap m' ∧ News h₀ env.locals s₃.heap nx ∧ (∀ p ∈ nx, p.1 ≠ I) ∧ J i m' nx ∧ i ≤ n ∧ mm = n + 1 - i := by
      rintro ⟨m₂, nx₂, hS₂, F₂, N₂, hoff₂, hJ₂⟩
      refine ⟨n + 1 - (i + 1), by omega, i + 1, m₂, nx₂, hS₂, ?_, F₂, (fun p hp => N₂ p (.tail _ hp)), hoff₂, hJ₂, hlt, rfl⟩
      have e1 : a + ((i + 1 : Nat) : Int) = a + (i : Int) + 1 := by omega
      have e2 : (n : Int) - ((i + 1 : Nat) : Int) = (n : Int) - (i : Int) - 1 := by omega
      rw [e1, e2]
      exact (N₂ _ (.head _)).1
    cases f with
    | ret r => exact h₃
    | brk => exact h₃
    | next => exact fin h₃
    | cont => exact fin h₃
  · obtain rfl : i = n := by omega
    refine wpAny_pyNext_range_end hh hit (by omega) fun h1 he1 => wpAny_execs_nil ?_
    obtain ⟨F1, N1⟩ := keepI h1 fun b o hb e => he1 b o hb e
    exact done m' nx _ hJ ⟨hS.1, hS.2⟩ F1 N1
end
def ThreeTo (row : List Nat) (i : Nat) : Prop := ∀ i' < i, ∀ j k, i' < j → j < k → k < row.length → row.getD i' 0 < row.getD j 0 → ¬ row.getD k 0 < row.getD i' 0
def hasThree (row : List Nat) : Prop := ∃ i j k, i < j ∧ j < k ∧ k < row.length ∧ row.getD i 0 < row.getD j 0 ∧ row.getD k 0 < row.getD i 0
theorem getD_zs {row : List Nat} {i : Nat} : (zs row).getD i 0 = ((row.getD i 0 : Nat) : Int) := by
  rw [List.getD_eq_getElem?_getD, List.getD_eq_getElem?_getD, List.getElem?_map]
  cases row[i]? <;> rfl
end Mine
end
section
open PySem PySem.W PyProof.Rows PySem.Calls
set_option maxRecDepth 100000
set_option maxHeartbeats 8000000
set_option linter.unusedVariables false
namespace Mine
theorem part_WThree : True := by
  w_top off
  trivial
local macro_rules | `(tactic| k_inst) => `(tactic| (refine' acc_inst ?N ?h1 ?h2; (case N => k_asm); (case h1 => k_mem); (case h2 => k_mem)))
local macro_rules | `(tactic| walk_at "wpAt") => `(tactic| (ks_step "exec Expr"; k_dflt (refine PySem.ks_wpAt_Expr_any ?_)))
local macro_rules | `(tactic| walk_at "wpAt") => `(tactic| (ks_step "exec Return"; k_dflt (refine PySem.ks_wpAt_Return_some ?_)))
local macro_rules | `(tactic| walk_at "wpAt") => `(tactic| (ks_step "exec If"; k_dflt (refine PySem.ks_wpAt_If ?_)))
local macro_rules | `(tactic| walk_at "wpAt") => `(tactic| (ks_step "eval Call"; k_dflt (refine PySem.ks_wpAt_MethodCall ?_)))
local macro_rules | `(tactic| walk_at "wpAt") => `(tactic| dsimp only)
local macro_rules | `(tactic| k_all) => `(tactic| assumption)
local macro_rules | `(tactic| walk_at "Exit0") => `(tactic| (refine ⟨_, _, (by k_asm), ?_⟩; intro kp; (try dsimp only)))
local macro_rules | `(tactic| walk_at "callWith ref") => `(tactic| (k_here; k_dflt (refine' callWith_bnd ?k1 ?k2 ?k3 ?k4 ?_; (case k1 => k_asm); (case k2 => k_mem); (case k3 => decide); (case k4 => decide); k_whole; try dsimp only [List.nil_append, List.cons_append])))
local macro_rules | `(tactic| walk_at "call ref") => `(tactic| (k_here; k_dflt (refine' bnd_call (News.get ?N ?k1) ?k2 ?k3 ?k4 ?k5 entry_linit ?_; (case N => k_asm); (case k1 => k_mem); (case k2 => decide); (case k3 => decide); (case k4 => exact fun A Q E h => bcheck_slot kind_linit (args_linit _) h); (case k5 => decide +kernel); refine' acc_init_run ?k6 ?k7 ?k8 ?_; (case k6 => k_asm); (case k7 => k_asm); (case k8 => k_updF); k_whole; intro h' n' F' N'; (try dsimp only at N'); (try k_sweep); refine ⟨_, rfl, ?_⟩)))
local macro_rules | `(tactic| walk_at "call ref") => `(tactic| (k_here; k_dflt (refine' bnd_call (News.get ?N ?k1) ?k2 ?k3 ?k4 plain_llen entry_llen ?_; (case N => k_asm); (case k1 => k_mem); (case k2 => decide); (case k3 => decide); (case k4 => exact fun A Q E h => bcheck_slot kind_llen (args_llen _) h); refine' acc_len_run (News.get ?k6 ?k7) ?_; (case k6 => k_asm); (case k7 => k_mem); k_whole; intro t'; refine ⟨_, rfl, ?_⟩)))
local macro_rules | `(tactic| walk_at "call ref") => `(tactic| (k_here; k_dflt (refine' bnd_call (News.get ?N ?k1) ?k2 ?k3 ?k4 plain_lpop entry_lpop ?_; (case N => k_asm); (case k1 => k_mem); (case k2 => decide); (case k3 => decide); (case k4 => exact fun A Q E h => bcheck_pop (K := wk.heap_39 _) (by k_in) (by k_inst) (f_mroMod _) (f_cls _).choose_spec.1 (f_cls _).choose_spec.2 (f_type101 _) h); refine' acc_pop_run ?k6 ?k7 ?k8 ?k9 ?_; (case k6 => k_asm); (case k7 => k_asm); (case k8 => k_updF); (case k9 => assumption); k_whole; intro h' n' F' N'; (try dsimp only at N'); (try k_sweep); refine ⟨_, rfl, ?_⟩)))
local macro_rules | `(tactic| walk_at "setAttr ref") => `(tactic| (k_here; k_dflt (refine' acc_set ?k1 ?k2 ?k3 ?k4 ?k5 (f_sa _) (f_listMro _) (f_taker _) ?k6 ?k7 ?k8 ?_; (case k1 => k_asm); (case k2 => k_asm); (case k3 => k_asm); (case k4 => k_mem); (case k5 => k_updF); (case k6 => rfl); (case k7 => rfl); (case k8 => exact Nat.le_of_ble_eq_true rfl); k_whole; intro h' F' N'; (try dsimp only at N'); (try k_sweep))))
local macro_rules | `(tactic| walk_at "getMethod ref") => `(tactic| (k_here; k_dflt (first
  | (refine' acc_super gets_init ?k1 ?k2 ?k3 ?k4 ?k5 (f_third _) (f_sinit _) (f_mroList _) rfl ?_; (case k1 => k_asm); (case k2 => k_asm); (case k3 => k_asm); (case k4 => k_mem); (case k5 => k_inst))
  | (refine' acc_super gets_pop ?k1 ?k2 ?k3 ?k4 ?k5 (f_third _) (f_spop _) (f_mroList _) rfl ?_; (case k1 => k_asm); (case k2 => k_asm); (case k3 => k_asm); (case k4 => k_mem); (case k5 => k_inst))
  | (refine' acc_super gets_len ?k1 ?k2 ?k3 ?k4 ?k5 (f_third _) (f_slen _) (f_mroList _) rfl ?_; (case k1 => k_asm); (case k2 => k_asm); (case k3 => k_asm); (case k4 => k_mem); (case k5 => k_inst))); k_whole; intro q' h' F' N' l1; (try k_lt l1)))
local macro_rules | `(tactic| walk_at "getMethod ref") => `(tactic| (k_here; k_dflt (refine' acc_method (K := wk.heap_39 _) ?k1 ?k2 (f_ga _) canon_lga (f_gattr _) ?k3 ?k4 ?k5 ?k6 ?_; (case k1 => k_in); (case k2 => k_inst); (case k3 => k_is); (case k4 => k_is); (case k5 => rfl); (case k6 => rfl); k_whole)))
local macro_rules | `(tactic| walk_at "call type:range") => `(tactic| (k_here; k_dflt (first | refine rng1 (by k_asm) (by k_asm) ⟨id, rfl⟩ | refine rng2 (by k_asm) (by k_asm) ⟨id, rfl⟩)))
local macro_rules | `(tactic| walk_at "call builtin:len") => `(tactic| (k_here; k_dflt (refine' len_any ?k1 ?k2 ?_; (case k1 => first | exact News.isList (by k_asm) (by k_mem) | exact Fr.lst (by assumption) (by assumption)); (case k2 => omega); k_whole); intro t' tk'))
local macro_rules | `(tactic| walk_at "exec For Name Call cons nil") => `(tactic| refine Stop.of ?_)
local macro_rules | `(tactic| walk_at "exec For Name Call") => `(tactic| refine Stop.of ?_)
local macro_rules | `(tactic| walk_at "exec For Name Name cons nil") => `(tactic| refine Stop.of ?_)
local macro_rules | `(tactic| walk_at "exec For Name Name") => `(tactic| refine Stop.of ?_)
local macro_rules | `(tactic| walk_at "exec While Compare") => `(tactic| refine Stop.of ?_)
local macro_rules | `(tactic| walk_at "exec While BoolOp") => `(tactic| refine Stop.of ?_)
local macro_rules | `(tactic| walk_at "exec For") => `(tactic| refine Stop.of ?_)
local macro_rules | `(tactic| walk_at "exec While") => `(tactic| refine Stop.of ?_)
local macro_rules | `(tactic| walk_at "loadName") => `(tactic| (k_here; k_dflt (refine' ldn ?k1 ?k2 ?_; (case k1 => k_asm); (case k2 => first | exact rfl | assumption); k_whole)))
local macro_rules | `(tactic| walk_at "eval Name") => `(tactic| (k_here; k_dflt (refine' ld ?k1 ?k2 ?_; (case k1 => k_asm); (case k2 => first | exact rfl | assumption); k_whole)))
local macro_rules | `(tactic| walk_at "compareOp Eq ref ref") => `(tactic| (k_here; k_dflt (refine' ke_eq_ints ?a ?b ?c ?d ?e ?_; (case a => first | exact Fr.lst (by k_asm) (by k_asm) | exact News.isList (by k_asm) (by k_mem)); (case b => first | exact Fr.lst (by k_asm) (by k_asm) | exact News.isList (by k_asm) (by k_mem)); (case c => first | exact IntsAre.nil | assumption); (case d => first | exact IntsAre.nil | assumption); (case e => ktr_units); k_whole)))
local macro_rules | `(tactic| walk_at "compareOp NotEq ref ref") => `(tactic| (k_here; k_dflt (refine' ke_ne_ints ?a ?b ?c ?d ?e ?_; (case a => first | exact Fr.lst (by k_asm) (by k_asm) | exact News.isList (by k_asm) (by k_mem)); (case b => first | exact Fr.lst (by k_asm) (by k_asm) | exact News.isList (by k_asm) (by k_mem)); (case c => first | exact IntsAre.nil | assumption); (case d => first | exact IntsAre.nil | assumption); (case e => ktr_units); k_whole)))
local macro_rules | `(tactic| walk_at "getMethod ref") => `(tactic| (k_here; k_dflt (refine' getMethod_list_of PySem.F.slot_list_index PySem.F.type_list_index (Fr.lst ?a ?b) (Heap.NoDictAt.keeps ?c ?d) ?_; (case a => k_asm); (case b => k_asm); (case c => exact Fr.keep (by k_asm)); (case d => assumption))))
local macro_rules | `(tactic| walk_at "call builtin:max") => `(tactic| (k_here; k_dflt (refine' kso_max ?k1 ?k2 (Fr.lst ?k3 ?k7) ?k4 ?k5 ?k6 ?_; (case k1 => k_asm); (case k2 => k_asm); (case k3 => k_asm); (case k7 => k_asm); (case k4 => k_asm); (case k5 => assumption); (case k6 => rfl)); intro hM M' tM tkM FM NM hM1 hM2; (try k_sweep)))
theorem m_three (w : World) {dp un : Nat} {gd : Option (List Code)} {cn : Str} {cs : Scope} {a : Addr} {ccd : Value} {cl : List (Str × Addr)} {outer : List Env} {A₀ : Around} {base h₀ : Heap} {L : Addr} {m : Str → Option Value} {s : Shared}
    {p : Program} {loose : List Str} {mean : ExcName → Option Value} {mg mb : Str → Option Value} {Q E : Value → Shared → Prop} {l : Addr} {vs : List Value} {row : List Nat}
    (B : Below A₀ base outer h₀) (F : Fr h₀ L s.heap m) (X : (wk.heap_39 w.params).In h₀) (T : Top p loose mean mg mb h₀) (hk : cs.kind = .function) (hl : s.heap.IsList l (List.toArray vs)) (hv : IntsAre vs (zs row)) (hrow : ∀ r ∈ row, r < 12) (hlen : row.length ≤ 12) (hdp : dp + 20 < recursionLimit) (hun : un + 200 < cLine)
    (ret : ∀ s' b, Kept s.heap s'.heap → Side s s' → (b = true ↔ hasThree row) → Q (.bool b) s') :
    wpAny (model PySem.Challenge.rw_dw5001_01.row.prog w) (ktrTop dp un gd cn cs L a ccd cl outer) (call (.ref 131) [.ref l]) Q E s := by
  revert X
  k_fill
  intro X
  refine wpAny_call ?_
  have hG := Kept.refl s.heap
  k_dflt (refine' enter0 ?k1 ?k2 ?k3 ?k5 ?kA ?kF ?kK ?k6 ?k7 ?k8 ?k9 ?kB ?_ ?c2 ?c3 ?c4 ?c1; (case kA => exact rfl); (case kF => exact rfl); (case kK => assumption); (case k1 => k_asm); (case k2 => k_asm); (case k3 => k_asm); (case k5 => k_asm); (case k6 => k_is); (case k7 => k_is); (case k8 => ktr_room); (case k9 => first | exact BindsTo.of_eq rfl | exact binds_K (by k_in) rfl (by k_is) rfl rfl rfl); (case kB => exact locs rfl); (case c1 => decide); (case c2 => exact rfl); (case c3 => exact rfl); (case c4 => exact rfl))
  clear F B X T
  intro L' h' F' N' B' X' T'
  have hlay := lay_row hrow hlen
  have hlz : (zs row).length = row.length := List.length_map ..
  have hvl : vs.length = row.length := by rw [ints_len hv, hlz]
  k_steps
  refine Stop.mk ?_
  have e0 : ((0 : Nat) : Int) = 0 := rfl
  refine for_range (h₀ := s.heap) (a := ((0 : Nat) : Int)) (b := (vs.length : Int)) (n := vs.length) (J := fun i m nx => m "row" = some (.ref l) ∧ nx = [] ∧ ThreeTo row i) F' N' rfl rfl rfl (small_of (by omega) (by omega)) (size_of (by omega)) ⟨rfl, rfl, fun i hi => absurd hi (Nat.not_lt_zero _)⟩ ?_ ?_ ?_
  · k_steps
  · intro i tk m₁ nx I oI s₁ hi hJ hoff hS F3 N3
    obtain ⟨m1, rfl, hT⟩ := hJ
    obtain ⟨hp, gs, dr, tks, os⟩ := s₁
    dsimp only at *
    clear F' N'
    rw [show ((0 : Nat) : Int) + (i : Int) = (i : Int) from Int.zero_add _] at F3
    k_steps
    refine Stop.mk ?_
    rename Fr _ _ _ _ => F4
    rename News _ _ _ _ => N4
    refine for_range (h₀ := s.heap) (a := (i : Int) + 1) (b := (vs.length : Int)) (n := vs.length - (i + 1)) (J := fun d m nx => m "row" = some (.ref l) ∧ (∃ t, m "i" = some (.int (i : Int) t)) ∧ nx = [(I, oI)] ∧ ∀ j k, i < j → j < i + 1 + d → j < k → k < row.length → row.getD i 0 < row.getD j 0 → ¬ row.getD k 0 < row.getD i 0) F4 N4 rfl rfl rfl (small_of (a := i + 1) (by omega) (by omega)) (size_of (a := i + 1) (by omega)) ⟨m1, ⟨_, rfl⟩, rfl, fun j k h1 h2 => absurd h2 (by omega)⟩ ?_ ?_ ?_
    · k_steps
    · intro d tk2 m₂ nx2 I2 oI2 s₂ hd hJ2 hoff2 hS2 F5 N5
      obtain ⟨m2, ⟨ti, mi⟩, rfl, hT2⟩ := hJ2
      obtain ⟨hp2, gs2, dr2, tks2, os2⟩ := s₂
      dsimp only at *
      clear F4 N4
      have ej : (i : Int) + 1 + (d : Int) = ((i + 1 + d : Nat) : Int) := by omega
      rw [ej] at F5
      k_steps
      · refine Stop.mk ?_
        rename Fr _ _ _ _ => F6
        rename News _ _ _ _ => N6
        rename (zs row).getD _ 0 < (zs row).getD _ 0 => hlt
        simp only [Int.toNat_natCast, getD_zs, Int.ofNat_lt] at hlt
        refine for_range (h₀ := s.heap) (a := ((i + 1 + d : Nat) : Int) + 1) (b := (vs.length : Int)) (n := vs.length - (i + 1 + d + 1)) (J := fun e m nx => m "row" = some (.ref l) ∧ (∃ t, m "i" = some (.int (i : Int) t)) ∧ nx = [(I2, oI2), (I, oI)] ∧ ∀ k, i + 1 + d < k → k < i + 1 + d + 1 + e → ¬ row.getD k 0 < row.getD i 0) F6 N6 rfl rfl rfl (small_of (a := i + 1 + d + 1) (by omega) (by omega)) (size_of (a := i + 1 + d + 1) (by omega)) ⟨m2, ⟨_, mi⟩, rfl, fun k h1 h2 => absurd h2 (by omega)⟩ ?_ ?_ ?_
        · k_steps
        · intro e tk3 m₃ nx3 I3 oI3 s₃ he hJ3 hoff3 hS3 F7 N7
          obtain ⟨m3, ⟨ti3, mi3⟩, rfl, hT3⟩ := hJ3
          obtain ⟨hp3, gs3, dr3, tks3, os3⟩ := s₃
          dsimp only at *
          clear F6 N6
          have ek : ((i + 1 + d : Nat) : Int) + 1 + (e : Int) = ((i + 1 + d + 1 + e : Nat) : Int) := by omega
          rw [ek] at F7
          k_steps
          · rename Fr _ _ _ _ => F8
            rename (zs row).getD _ 0 < (zs row).getD _ 0 => hlt2
            simp only [Int.toNat_natCast, getD_zs, Int.ofNat_lt] at hlt2
            dsimp only [TurnPost]
            exact ⟨_, _, F8, fun kp => ret _ true kp (Side.trans ⟨hS.1, hS.2⟩ (Side.trans ⟨hS2.1, hS2.2⟩ ⟨hS3.1, hS3.2⟩)) ⟨fun _ => ⟨i, i + 1 + d, i + 1 + d + 1 + e, by omega, by omega, by omega, hlt, hlt2⟩, fun _ => rfl⟩⟩
          · rename Fr _ _ _ _ => F8
            rename News _ _ _ _ => N8
            rename ¬ (zs row).getD _ 0 < (zs row).getD _ 0 => hlt2
            simp only [Int.toNat_natCast, getD_zs, Int.ofNat_lt] at hlt2
            refine ⟨_, _, ⟨hS3.1, hS3.2⟩, F8, N8, hoff3, m3, ⟨_, mi3⟩, rfl, fun k h1 h2 => ?_⟩
            by_cases hk : k < i + 1 + d + 1 + e
            · exact hT3 k h1 hk
            · obtain rfl : k = i + 1 + d + 1 + e := by omega
              exact hlt2
        · intro m₃ nx3 s₃ hJ3 hS3 F7 N7
          obtain ⟨m3, ⟨ti3, mi3⟩, rfl, hT3⟩ := hJ3
          obtain ⟨hp3, gs3, dr3, tks3, os3⟩ := s₃
          dsimp only at *
          clear F6 N6
          k_steps
          refine ⟨_, _, Side.trans ⟨hS2.1, hS2.2⟩ ⟨hS3.1, hS3.2⟩, F7, N7, hoff2, m3, ⟨_, mi3⟩, rfl, fun j k h1 h2 h3 h4 h5 => ?_⟩
          by_cases hj : j < i + 1 + d
          · exact hT2 j k h1 hj h3 h4 h5
          · obtain rfl : j = i + 1 + d := by omega
            exact hT3 k h3 (by omega)
      · rename Fr _ _ _ _ => F6
        rename News _ _ _ _ => N6
        rename ¬ (zs row).getD _ 0 < (zs row).getD _ 0 => hlt
        simp only [Int.toNat_natCast, getD_zs, Int.ofNat_lt] at hlt
        refine ⟨_, _, ⟨hS2.1, hS2.2⟩, F6, N6, hoff2, m2, ⟨_, mi⟩, rfl, fun j k h1 h2 h3 h4 h5 => ?_⟩
        by_cases hj : j < i + 1 + d
        · exact hT2 j k h1 hj h3 h4 h5
        · obtain rfl : j = i + 1 + d := by omega
          exact absurd h5 hlt
    · intro m₂ nx2 s₂ hJ2 hS2 F5 N5
      obtain ⟨m2, ⟨ti, mi⟩, rfl, hT2⟩ := hJ2
      obtain ⟨hp2, gs2, dr2, tks2, os2⟩ := s₂
      dsimp only at *
      clear F4 N4
      k_steps
      refine ⟨_, _, Side.trans ⟨hS.1, hS.2⟩ ⟨hS2.1, hS2.2⟩, F5, N5, hoff, m2, rfl, fun i' h0 j k h1 h2 h3 h4 => ?_⟩
      by_cases hj : i' < i
      · exact hT i' hj j k h1 h2 h3 h4
      · obtain rfl : i' = i := by omega
        exact hT2 j k h1 (by omega) h2 h3 h4
  · intro m₁ nx s₁ hJ hS F3 N3
    obtain ⟨m1, rfl, hT⟩ := hJ
    obtain ⟨hp, gs, dr, tks, os⟩ := s₁
    dsimp only at *
    clear F' N'
    k_steps
    rename Kept s.heap _ => kp
    refine ret _ false kp ⟨hS.1, hS.2⟩ ⟨fun h => (nomatch h), fun h => ?_⟩
    obtain ⟨i, j, k, h1, h2, h3, h4, h5⟩ := h
    exact absurd h5 (hT i (by omega) j k h1 h2 h3 h4)
end Mine
end
section
open PySem PySem.W PyProof.Rows PySem.Calls
set_option maxRecDepth 100000
set_option maxHeartbeats 8000000
namespace Mine
theorem part_WCell : True := by
  w_top off
  trivial
section
variable {prog : Program} {w : World} {A : Around} {E : Value → Shared → Prop} {s : Shared} {env : Env} {h₀ : Heap} {Q : Flow → Shared → Prop}
theorem for_rangeC {x : Str} {px pos : Pos} {iter : Expr} {body : List Stmt} {a b : Int} {n : Nat} {m₀ : Str → Option Value} {news₀ : List (Addr × Obj)} (J : Nat → (Str → Option Value) → List (Addr × Obj) → Prop)
    (_F₀ : Fr h₀ env.locals s.heap m₀) (_N₀ : News h₀ env.locals s.heap news₀) (hh : A.handled = none) 
    (hsmall : Builtin.Range.small a b 1 = true) (hn : Builtin.Range.rangeSize a b 1 = (n : Int)) (hj : J 0 m₀ news₀)
    (he : wpAny (model prog w) A (eval iter env) (RangeAt h₀ env.locals s a b m₀ news₀) E s)
    (turn : ∀ i tk m₁ nx I oI s₁, i < n → J i m₁ nx → (∀ p ∈ nx, p.1 ≠ I) → Side s s₁ → Fr h₀ env.locals s₁.heap m₁ → News h₀ env.locals s₁.heap ((I, oI) :: nx) →
      wpAny (model prog w) A (storeName env x (.int (a + (i : Int)) tk)) (fun _ s₂ => wpAny (model prog w) A (execs body env) (TurnPost h₀ env.locals s I oI (J (i + 1)) Q) E s₂) E s₁)
    (done : ∀ m₁ nx s₁, J n m₁ nx → Side s s₁ → Fr h₀ env.locals s₁.heap m₁ → News h₀ env.locals s₁.heap nx → Q .next s₁)
    (hs : ∀ x, foldedSetIterable iter env x = pure x := by intro _; rfl) (hE : PassesOwn (model prog w) A env E := by passes_own) :
    wpAny (model prog w) A (exec (.For (.Name x px) iter body [] pos) env) Q E s := by
  refine wpAny_For (wpAny_mono he (fun xv s₁ h₁ => ?_) fun _ _ e => e) hs
  obtain ⟨r, t, u, k, rfl, hr, hS₁, F, N⟩ := h₁
  have hLlt := F.ns.lt
  refine wpAny_pyIter_range hr hsmall ?_
  generalize hIe : s₁.heap.objs.size = I at hLlt ⊢
  have hI₀ : h₀.get? I = none := hIe ▸ next_is_new F
  have hLI : env.locals ≠ I := Nat.ne_of_lt hLlt
  refine codeAny_forLoop (fun k s' => ∃ i m' nx, Side s s' ∧ IsRangeIter s'.heap I (a + (i : Nat)) ((n : Int) - (i : Nat)) 1 ∧ Fr h₀ env.locals s'.heap m' ∧ News h₀ env.locals s'.heap nx ∧ (∀ p ∈ nx, p.1 ≠ I) ∧ J i m' nx ∧ i ≤ n ∧ k = n + 1 - i) ?_ (n + 1)
    ⟨0, m₀, news₀, ⟨hS₁.1, hS₁.2⟩, by show IsRangeIter _ _ _ _ _; rw [hn]; simpa using hIe ▸ Heap.get?_push_size _ rfl, F.push _, (fun p hp => ⟨Heap.get?_push_of_some _ (N p hp).1, (N p hp).2⟩), (fun p hp => hIe ▸ Nat.ne_of_lt (Heap.lt_size (N p hp).1)), hj, Nat.zero_le _, rfl⟩
  rintro k s' ⟨i, m', nx, hS, hit, F', N', hoff, hJ, hi, rfl⟩
  have keepI : ∀ h' : Heap, (∀ b o, b ≠ I → s'.heap.get? b = some o → h'.get? b = some o) → Fr h₀ env.locals h' m' ∧ News h₀ env.locals h' nx := fun h' hk => by
    obtain ⟨oL, es, ep, hL, r⟩ := F'.ns
    exact ⟨⟨⟨oL, es, ep, hk _ _ hLI hL, r⟩, fun b o e => hk b o (fun q => by rw [q, hI₀] at e; cases e) (F'.keep b o e), F'.above⟩, fun p hp => ⟨hk _ _ (hoff p hp) (N' p hp).1, (N' p hp).2⟩⟩
  by_cases hlt : i < n
  · refine wpAny_pyNext_range_item hit (by omega) fun h1 hit1 hs1 => ?_
    obtain ⟨F1, N1⟩ := keepI h1 fun b o hb e => hs1.extBut b o hb e
    have N2 : News h₀ env.locals h1 ((I, riObj (a + (i : Int) + 1) ((n : Int) - (i : Int) - 1)) :: nx) := News.cons (p := (I, _)) ⟨hit1, Ne.symm hLI, hI₀⟩ N1
    refine wpAny_assign_Name (wpAny_mono (turn i _ m' nx I _ _ hlt hJ hoff ⟨hS.1, hS.2⟩ F1 N2) (fun _ s₂ h₂ => ?_) hE)
    refine wpAny_passesOwn hE (wpAny_mono h₂ (fun f s₃ h₃ => ?_) fun _ _ e => e)
    have fin : (∃ m₂ nx₂, Side s s₃ ∧ Fr h₀ env.locals s₃.heap m₂ ∧ News h₀ env.locals s₃.heap ((I, riObj (a + (i : Int) + 1) ((n : Int) - (i : Int) - 1)) :: nx₂) ∧ (∀ p ∈ nx₂, p.1 ≠ I) ∧ J (i + 1) m₂ nx₂) →
        ∃ mm, mm < n + 1 - i ∧ ∃ i m' nx, Side s s₃ ∧ IsRangeIter s₃.heap I (a + (i : Nat)) ((n : Int) - (i : Nat)) 1 ∧ Fr h₀ env.locals s₃.heap m' ∧ News h₀ env.locals s₃.heap nx ∧ (∀ p ∈ nx, p.1 ≠ I) ∧ J i m' nx ∧ i ≤ n ∧ mm = n + 1 - i := by
      rintro ⟨m₂, nx₂, hS₂, F₂, N₂, hoff₂, hJ₂⟩
      refine ⟨n + 1 - (i + 1), by omega, i + 1, m₂, nx₂, hS₂, ?_, F₂, (fun p hp => N₂ p (.tail _ hp)), hoff₂, hJ₂, hlt, rfl⟩
      have e1 : a + ((i + 1 : Nat) : Int) = a + (i : Int) + 1 := by omega
      have e2 : (n : Int) - ((i + 1 : Nat) : Int) = (n : Int) - (i : Int) - 1 := by omega
      rw [e1, e2]
      exact (N₂ _ (.head _)).1
    cases f with
    | ret r => exact h₃
    | brk => exact h₃
    | next => exact fin h₃
    | cont => exact fin h₃
  · obtain rfl : i = n := by omega
    refine wpAny_pyNext_range_end hh hit (by omega) fun h1 he1 => wpAny_execs_nil ?_
    obtain ⟨F1, N1⟩ := keepI h1 fun b o hb e => he1 b o hb e
    exact done m' nx _ hJ ⟨hS.1, hS.2⟩ F1 N1
end
section
variable {w : World}
theorem enterCell {A A₀ : Around} {s : Shared} {base h₀ : Heap} {outer : List Env} {L : Addr} {K : Frag} {prog p : Program} {loose : List Str} {m mg mb : Str → Option Value} {env : Env} {mean : ExcName → Option Value}
    {R : Result → Shared → Prop} {name qual : Str} {params : Arguments} {body : List Stmt} {scope : Scope} {dV kV doc pm cdv ct oc : Value} {an od : Option Addr} {osl : Array (Option Value)} {f : Addr} {args : Args} {binds : List (Str × Value)}
    (B : Below A₀ base outer h₀) (F : Fr h₀ L s.heap m) (X₀ : K.In h₀) (T : Top p loose mean mg mb h₀) (hA : A.frames = some (env :: outer)) (hf : env.frame = some L) (hke : env.scope.kind = .function)
    (ho : K.lookup f = some ⟨oc, od, .func (fnOf name qual params body scope dV kV doc pm an cdv ct), osl⟩) (hcd : codeIn K cdv qual = true) (hroom : A.depth < recursionLimit)
    (hbind : BindsTo s (fnOf name qual params body scope dV kV doc pm an cdv ct) args binds) (hkind : (binds.all fun y => scope.names.lookup y.1 == some .local || scope.names.lookup y.1 == some .cell) = true)
    (hnd : ((cellsFrom 0 scope.names []).map (·.1)).Nodup)
    (h : ∀ L' h₁ tk cells, Fr s.heap L' h₁ (bindL (envOfC qual scope L' f cdv).kindOf binds fun _ => none) → News s.heap L' h₁ (cells ++ []) →
      CellsAre (bindC (envOfC qual scope L' f cdv).kindOf binds fun _ => none) (cellsFrom (L' + 1) scope.names []) cells → Below A base (env :: outer) s.heap → K.In s.heap → Top p loose mean mg mb s.heap →
      wpAny (model prog w) (A.deeper (envOfC qual scope L' f cdv)) (execs body (envOfC qual scope L' f cdv))
        (fun fl s' => Exit0 s.heap R (match fl with | .ret v => v | _ => .none) s') (fun _ _ => False) { s with heap := h₁, toks := tk })
    (hco : scope.isCoroutine = false := by rfl) (hgen : scope.isGenerator = false := by rfl) (hk : scope.kind = .function := by rfl) : codeAny (model prog w) A (.call (.ref f) args) R s := by
  have N0 : News h₀ L s.heap [] := fun p hp => nomatch hp
  obtain ⟨FG, BG, st, lv⟩ := groundX (R := R) B F N0 hA hf hke
  refine codeAny_call_function hroom ((X₀.keeps F.keep) _ _ ho) rfl hco hgen rfl (codeRec_of (X₀.keeps F.keep) hcd) (hbind _ _ _ _ ?_)
  refine wpAny_newFunctionEnv_cells hk (kindsX hkind _) fun env' he s' x => ?_
  subst he
  refine ⟨(T.nolimit.keeps F.keep).keeps x.toInCall.keep, codeAny_func ?_⟩
  obtain ⟨h₁, tk, rfl, _⟩ := x.done
  have hk₁ := x.toInCall.keep
  obtain ⟨cells, NC, Y⟩ := Cl.news (h₀ := s.heap) (Nat.le_refl _) fun n c hm => ⟨x.cell n c (lookup_of_mem_nodup (cellsFrom_names scope.names 0 (s.heap.objs.size + 1) [] [] rfl ▸ hnd) hm), x.above n c hm⟩
  refine wpAny_mono (h s.heap.objs.size h₁ tk cells ⟨x.toInCall.ns, fun b o e => hk₁ b o e, Nat.le_refl _⟩ (by rw [List.append_nil]; exact NC) Y BG (X₀.keeps F.keep) (T.keeps F.keep)) (fun fl s' hl => ?_) fun _ _ y => y.elim
  obtain ⟨L', m', F', k⟩ := hl
  exact k fun b o e => F'.keep b o e
end
theorem fold_le {g : List Int → Int → List Int} (h1 : ∀ l k, (g l k).length ≤ l.length + 1) : ∀ (ks l : List Int), (ks.foldl g l).length ≤ l.length + ks.length
  | [], l => by simp
  | k :: ks, l => by
    have h2 := fold_le h1 ks (g l k)
    have h3 := h1 l k
    simp only [List.foldl_cons, List.length_cons]
    omega
theorem fold_lt {g : List Int → Int → List Int} (h1 : ∀ l k, (g l k).length ≤ l.length + 1) (k0 : Int) (h0 : ∀ l, (g l k0).length ≤ l.length) : ∀ (ks l : List Int), k0 ∈ ks → (ks.foldl g l).length < l.length + ks.length
  | k :: ks, l, h => by
    simp only [List.foldl_cons, List.length_cons]
    by_cases e : k = k0
    · subst e
      have h2 := fold_le h1 ks (g l k)
      have h3 := h0 l
      omega
    · have hk : k0 ∈ ks := by
        rcases List.mem_cons.mp h with rfl | h
        · exact absurd rfl e
        · exact h
      have h2 := fold_lt h1 k0 h0 ks (g l k) hk
      have h3 := h1 l k
      omega
end Mine
end
section
open PySem PySem.W PyProof.Rows PySem.Calls
set_option maxRecDepth 100000
set_option maxHeartbeats 8000000
namespace Mine
theorem part_WPsSup : True := by
  w_top off
  trivial
section
variable {prog : Program} {w : World} {A : Around} {E : Value → Shared → Prop} {Q : Flow → Shared → Prop} {s : Shared} {env : Env}
def WhStep (J : Nat → Shared → Prop) (Q : Flow → Shared → Prop) (n : Nat) (f : Flow) (s₃ : Shared) : Prop :=
  match f with
  | .next => ∃ n' < n, J n' s₃
  | .cont => ∃ n' < n, J n' s₃
  | .brk => Q .next s₃
  | .ret v => Q (.ret v) s₃
theorem while_side {test : Expr} {body : List Stmt} {pos : Pos} (J : Nat → Shared → Prop) {n₀ : Nat} (hJ : J n₀ s)
    (turn : ∀ n s₁, J n s₁ → wpAny (model prog w) A (isTrue test env (eval test env)) (fun b s₂ => if b = true then wpAny (model prog w) A (execs body env) (WhStep J Q n) E s₂ else Q .next s₂) E s₁)
    (hE : PassesOwn (model prog w) A env E := by passes_own) :
    wpAny (model prog w) A (exec (.While test body [] pos) env) Q E s := by
  refine wpAny_While (codeAny_whileLoop J ?_ n₀ hJ)
  intro n s' J₁
  refine wpAny_mono (turn n s' J₁) (fun b s₂ h₂ => ?_) hE
  cases b with
  | false =>
    simp only [Bool.false_eq_true, if_false] at h₂ ⊢
    exact wpAny_execs_nil h₂
  | true =>
    simp only [if_true] at h₂ ⊢
    refine wpAny_mono h₂ (fun f s₃ h₃ => ?_) hE
    cases f with
    | next => obtain ⟨n', hn, h⟩ := h₃; exact ⟨n', hn, h⟩
    | cont => obtain ⟨n', hn, h⟩ := h₃; exact ⟨n', hn, h⟩
    | brk => exact h₃
    | ret v => exact h₃
end
def passN : Nat → List Nat → List Nat
  | 0, r => r
  | n + 1, r => passF (passN n r)
def Rising (l : List Nat) : Prop := l.Pairwise (· ≤ ·)
theorem popW_perm (x : Nat) : ∀ rs out, ((popW x rs out).2 ++ (popW x rs out).1).Perm (out ++ rs)
  | [], out => List.Perm.refl _
  | r :: rs, out => by
    unfold popW
    split
    · have h := popW_perm x rs (out ++ [r])
      rwa [List.append_assoc] at h
    · exact List.Perm.refl _
theorem passGo_perm : ∀ row rs out, ((passGo row rs out).2 ++ (passGo row rs out).1).Perm (out ++ rs ++ row)
  | [], rs, out => by rw [List.append_nil]; exact List.Perm.refl _
  | x :: row, rs, out => by
    show ((passGo row _ _).2 ++ (passGo row _ _).1).Perm _
    refine (passGo_perm row _ _).trans ?_
    have h := popW_perm x rs out
    refine List.Perm.trans ?_ (List.perm_middle.symm)
    refine List.Perm.trans (List.Perm.append_right row (List.perm_middle)) ?_
    exact List.Perm.cons x (List.Perm.append_right row h)
theorem passF_perm (row : List Nat) : (passF row).Perm row := by
  have h := passGo_perm row [] []
  simpa [passF] using h
theorem passN_perm (n : Nat) (row : List Nat) : (passN n row).Perm row := by
  induction n with
  | zero => exact List.Perm.refl _
  | succ n ih => exact (passF_perm _).trans ih
theorem zs_perm {a b : List Nat} (h : a.Perm b) : (zs a).Perm (zs b) := h.map _
theorem zs_inj {a b : List Nat} (h : zs a = zs b) : a = b := by
  induction a generalizing b with
  | nil => cases b with
    | nil => rfl
    | cons y b => cases h
  | cons x a ih => cases b with
    | nil => cases h
    | cons y b =>
      simp only [zs, List.map_cons, List.cons.injEq] at h
      rw [ih h.2]
      congr 1
      omega
theorem rising_zs {l : List Nat} : Rising l ↔ (zs l).Pairwise (· ≤ ·) := by
  unfold Rising zs
  rw [List.pairwise_map]
  constructor <;> intro h <;> refine h.imp ?_ <;> intros <;> omega
/-- the rising list of what sorted gives -/
theorem is_want {row cur : List Nat} {ws : List Int} (hp : ws.Perm (zs row)) (ho : ws.Pairwise (· ≤ ·)) (hc : cur.Perm row) : zs cur = ws ↔ Rising cur := by
  constructor
  · intro h; rw [rising_zs, h]; exact ho
  · intro h
    exact List.Perm.eq_of_pairwise (fun x y _ _ h1 h2 => Int.le_antisymm h1 h2) (rising_zs.mp h) ho ((zs_perm hc).trans hp.symm)
end Mine
end
section
open PySem PySem.W PyProof.Rows PySem.Calls
set_option maxRecDepth 100000
set_option maxHeartbeats 8000000
set_option linter.unusedVariables false
namespace Mine
theorem part_WRanks : True := by
  w_top off
  trivial
local macro_rules | `(tactic| walk_at "nowhere WRanks 0") => `(tactic| skip)
local macro_rules | `(tactic| k_inst) => `(tactic| (refine' acc_inst ?N ?h1 ?h2; (case N => k_asm); (case h1 => k_mem); (case h2 => k_mem)))
local macro_rules | `(tactic| walk_at "wpAt") => `(tactic| (ks_step "exec Expr"; k_dflt (refine PySem.ks_wpAt_Expr_any ?_)))
local macro_rules | `(tactic| walk_at "wpAt") => `(tactic| (ks_step "exec Return"; k_dflt (refine PySem.ks_wpAt_Return_some ?_)))
local macro_rules | `(tactic| walk_at "wpAt") => `(tactic| (ks_step "exec If"; k_dflt (refine PySem.ks_wpAt_If ?_)))
local macro_rules | `(tactic| walk_at "wpAt") => `(tactic| (ks_step "eval Call"; k_dflt (refine PySem.ks_wpAt_MethodCall ?_)))
local macro_rules | `(tactic| walk_at "wpAt") => `(tactic| dsimp only)
local macro_rules | `(tactic| k_all) => `(tactic| assumption)
local macro_rules | `(tactic| walk_at "Exit0") => `(tactic| (refine ⟨_, _, (by k_asm), ?_⟩; intro kp; (try dsimp only)))
local macro_rules | `(tactic| walk_at "callWith ref") => `(tactic| (k_here; k_dflt (refine' callWith_bnd ?k1 ?k2 ?k3 ?k4 ?_; (case k1 => k_asm); (case k2 => k_mem); (case k3 => decide); (case k4 => decide); k_whole; try dsimp only [List.nil_append, List.cons_append])))
local macro_rules | `(tactic| walk_at "call ref") => `(tactic| (k_here; k_dflt (refine' bnd_call (News.get ?N ?k1) ?k2 ?k3 ?k4 ?k5 entry_linit ?_; (case N => k_asm); (case k1 => k_mem); (case k2 => decide); (case k3 => decide); (case k4 => exact fun A Q E h => bcheck_slot kind_linit (args_linit _) h); (case k5 => decide +kernel); refine' acc_init_run ?k6 ?k7 ?k8 ?_; (case k6 => k_asm); (case k7 => k_asm); (case k8 => k_updF); k_whole; intro h' n' F' N'; (try dsimp only at N'); (try k_sweep); refine ⟨_, rfl, ?_⟩)))
local macro_rules | `(tactic| walk_at "call ref") => `(tactic| (k_here; k_dflt (refine' bnd_call (News.get ?N ?k1) ?k2 ?k3 ?k4 plain_llen entry_llen ?_; (case N => k_asm); (case k1 => k_mem); (case k2 => decide); (case k3 => decide); (case k4 => exact fun A Q E h => bcheck_slot kind_llen (args_llen _) h); refine' acc_len_run (News.get ?k6 ?k7) ?_; (case k6 => k_asm); (case k7 => k_mem); k_whole; intro t'; refine ⟨_, rfl, ?_⟩)))
local macro_rules | `(tactic| walk_at "call ref") => `(tactic| (k_here; k_dflt (refine' bnd_call (News.get ?N ?k1) ?k2 ?k3 ?k4 plain_lpop entry_lpop ?_; (case N => k_asm); (case k1 => k_mem); (case k2 => decide); (case k3 => decide); (case k4 => exact fun A Q E h => bcheck_pop (K := wk.heap_39 _) (by k_in) (by k_inst) (f_mroMod _) (f_cls _).choose_spec.1 (f_cls _).choose_spec.2 (f_type101 _) h); refine' acc_pop_run ?k6 ?k7 ?k8 ?k9 ?_; (case k6 => k_asm); (case k7 => k_asm); (case k8 => k_updF); (case k9 => assumption); k_whole; intro h' n' F' N'; (try dsimp only at N'); (try k_sweep); refine ⟨_, rfl, ?_⟩)))
local macro_rules | `(tactic| walk_at "setAttr ref") => `(tactic| (k_here; k_dflt (refine' acc_set ?k1 ?k2 ?k3 ?k4 ?k5 (f_sa _) (f_listMro _) (f_taker _) ?k6 ?k7 ?k8 ?_; (case k1 => k_asm); (case k2 => k_asm); (case k3 => k_asm); (case k4 => k_mem); (case k5 => k_updF); (case k6 => rfl); (case k7 => rfl); (case k8 => exact Nat.le_of_ble_eq_true rfl); k_whole; intro h' F' N'; (try dsimp only at N'); (try k_sweep))))
local macro_rules | `(tactic| walk_at "getMethod ref") => `(tactic| (k_here; k_dflt (first
  | (refine' acc_super gets_init ?k1 ?k2 ?k3 ?k4 ?k5 (f_third _) (f_sinit _) (f_mroList _) rfl ?_; (case k1 => k_asm); (case k2 => k_asm); (case k3 => k_asm); (case k4 => k_mem); (case k5 => k_inst))
  | (refine' acc_super gets_pop ?k1 ?k2 ?k3 ?k4 ?k5 (f_third _) (f_spop _) (f_mroList _) rfl ?_; (case k1 => k_asm); (case k2 => k_asm); (case k3 => k_asm); (case k4 => k_mem); (case k5 => k_inst))
  | (refine' acc_super gets_len ?k1 ?k2 ?k3 ?k4 ?k5 (f_third _) (f_slen _) (f_mroList _) rfl ?_; (case k1 => k_asm); (case k2 => k_asm); (case k3 => k_asm); (case k4 => k_mem); (case k5 => k_inst))); k_whole; intro q' h' F' N' l1; (try k_lt l1)))
local macro_rules | `(tactic| walk_at "getMethod ref") => `(tactic| (k_here; k_dflt (refine' acc_method (K := wk.heap_39 _) ?k1 ?k2 (f_ga _) canon_lga (f_gattr _) ?k3 ?k4 ?k5 ?k6 ?_; (case k1 => k_in); (case k2 => k_inst); (case k3 => k_is); (case k4 => k_is); (case k5 => rfl); (case k6 => rfl); k_whole)))
local macro_rules | `(tactic| walk_at "call type:range") => `(tactic| (k_here; k_dflt (first | refine rng1 (by k_asm) (by k_asm) ⟨id, rfl⟩ | refine rng2 (by k_asm) (by k_asm) ⟨id, rfl⟩)))
local macro_rules | `(tactic| walk_at "call builtin:len") => `(tactic| (k_here; k_dflt (refine' len_any ?k1 ?k2 ?_; (case k1 => first | exact News.isList (by k_asm) (by k_mem) | exact Fr.lst (by assumption) (by assumption)); (case k2 => omega); k_whole); intro t' tk'))
local macro_rules | `(tactic| walk_at "exec For Name Call cons nil") => `(tactic| refine Stop.of ?_)
local macro_rules | `(tactic| walk_at "exec For Name Call") => `(tactic| refine Stop.of ?_)
local macro_rules | `(tactic| walk_at "exec For Name Name cons nil") => `(tactic| refine Stop.of ?_)
local macro_rules | `(tactic| walk_at "exec For Name Name") => `(tactic| refine Stop.of ?_)
local macro_rules | `(tactic| walk_at "exec While Compare") => `(tactic| refine Stop.of ?_)
local macro_rules | `(tactic| walk_at "exec While BoolOp") => `(tactic| refine Stop.of ?_)
local macro_rules | `(tactic| walk_at "exec For") => `(tactic| refine Stop.of ?_)
local macro_rules | `(tactic| walk_at "exec While") => `(tactic| refine Stop.of ?_)
local macro_rules | `(tactic| walk_at "loadName") => `(tactic| (k_here; k_dflt (refine' ldn ?k1 ?k2 ?_; (case k1 => k_asm); (case k2 => first | exact rfl | assumption); k_whole)))
local macro_rules | `(tactic| walk_at "eval Name") => `(tactic| (k_here; k_dflt (refine' ld ?k1 ?k2 ?_; (case k1 => k_asm); (case k2 => first | exact rfl | assumption); k_whole)))
local macro_rules | `(tactic| walk_at "compareOp Eq ref ref") => `(tactic| (k_here; k_dflt (refine' ke_eq_ints ?a ?b ?c ?d ?e ?_; (case a => first | exact Fr.lst (by k_asm) (by k_asm) | exact News.isList (by k_asm) (by k_mem)); (case b => first | exact Fr.lst (by k_asm) (by k_asm) | exact News.isList (by k_asm) (by k_mem)); (case c => first | exact IntsAre.nil | assumption); (case d => first | exact IntsAre.nil | assumption); (case e => ktr_units); k_whole)))
local macro_rules | `(tactic| walk_at "compareOp NotEq ref ref") => `(tactic| (k_here; k_dflt (refine' ke_ne_ints ?a ?b ?c ?d ?e ?_; (case a => first | exact Fr.lst (by k_asm) (by k_asm) | exact News.isList (by k_asm) (by k_mem)); (case b => first | exact Fr.lst (by k_asm) (by k_asm) | exact News.isList (by k_asm) (by k_mem)); (case c => first | exact IntsAre.nil | assumption); (case d => first | exact IntsAre.nil | assumption); (case e => ktr_units); k_whole)))
local macro_rules | `(tactic| walk_at "getMethod ref") => `(tactic| (k_here; k_dflt (refine' getMethod_list_of PySem.F.slot_list_index PySem.F.type_list_index (Fr.lst ?a ?b) (Heap.NoDictAt.keeps ?c ?d) ?_; (case a => k_asm); (case b => k_asm); (case c => exact Fr.keep (by k_asm)); (case d => assumption))))
local macro_rules | `(tactic| walk_at "call builtin:max") => `(tactic| (k_here; k_dflt (refine' kso_max ?k1 ?k2 (Fr.lst ?k3 ?k7) ?k4 ?k5 ?k6 ?_; (case k1 => k_asm); (case k2 => k_asm); (case k3 => k_asm); (case k7 => k_asm); (case k4 => k_asm); (case k5 => assumption); (case k6 => rfl)); intro hM M' tM tkM FM NM hM1 hM2; (try k_sweep)))
theorem m_ranks (w : World) {dp un : Nat} {gd : Option (List Code)} {cn : Str} {cs : Scope} {a : Addr} {ccd : Value} {cl : List (Str × Addr)} {outer : List Env} {A₀ : Around} {base h₀ : Heap} {L : Addr} {m : Str → Option Value} {s : Shared}
    {p : Program} {loose : List Str} {mean : ExcName → Option Value} {mg mb : Str → Option Value} {Q E : Value → Shared → Prop} {l : Addr} {vs : List Value} {ns : List Int}
    (B : Below A₀ base outer h₀) (F : Fr h₀ L s.heap m) (X : (wk.heap_39 w.params).In h₀) (T : Top p loose mean mg mb h₀) (hk : cs.kind = .function) (hl : s.heap.IsList l (List.toArray vs)) (hv : IntsAre vs ns) (hlen : ns.length ≤ 12) (hdp : dp + 20 < recursionLimit) (hun : un + 200 < cLine)
    (ret : ∀ s' lo vo no rk, Kept s.heap s'.heap → Side s s' → s.heap.get? lo = none → s'.heap.get? lo = some (listOf (List.toArray vo) no) → IntsAre vo (zs rk) → rk.length = ns.length → (∀ r ∈ rk, r < ns.length) → Q (.ref lo) s') :
    wpAny (model PySem.Challenge.rw_dw5001_01.row.prog w) (ktrTop dp un gd cn cs L a ccd cl outer) (call (.ref 110) [.ref l]) Q E s := by
  revert X
  k_fill
  intro X
  refine wpAny_call ?_
  k_dflt (refine' enterCell ?k1 ?k2 ?k3 ?k5 ?kA ?kF ?kK ?k6 ?k7 ?k8 ?k9 ?kB ?kD ?_ ?c2 ?c3 ?c4; (case kA => exact rfl); (case kF => exact rfl); (case kK => assumption); (case k1 => k_asm); (case k2 => k_asm); (case k3 => k_asm); (case k5 => k_asm); (case k6 => k_is); (case k7 => k_is); (case k8 => ktr_room); (case k9 => first | exact BindsTo.of_eq rfl | exact binds_K (by k_in) rfl (by k_is) rfl rfl rfl); (case kB => exact rfl); (case kD => decide +kernel); (case c2 => exact rfl); (case c3 => exact rfl); (case c4 => exact rfl))
  clear F B X T
  intro L' h' tk' cells' F' N' Y' B' X' T'
  k_cells Y'
  (try simp only [List.cons_append, List.nil_append] at N')
  have hvl : vs.length = ns.length := ints_len hv
  k_steps
  refine Stop.mk ?_
  rename Fr _ _ _ _ => F4
  rename News _ _ _ _ => N4
  rename_i oi on di dn lo _ llo _
  replace dn : on.data = .cell (some (.ref l)) := dn
  replace di : oi.data = .cell none := di
  refine for_rangeC (h₀ := s.heap) (a := ((0 : Nat) : Int)) (b := (vs.length : Int)) (n := vs.length) (J := fun i m nx => m "told" = some (.ref lo) ∧ ∃ vo no rk oi' iv, nx = [(lo, listOf (List.toArray vo) no), (L' + 1 + 1, oi'), (L' + 1, on)] ∧ oi'.data = .cell iv ∧ IntsAre vo (zs rk) ∧ rk.length = i ∧ ∀ r ∈ rk, r < ns.length) F4 N4 rfl (small_of (by omega) (by omega)) (size_of (by omega)) ⟨rfl, [], 0, [], oi, none, rfl, di, .nil, rfl, fun r hr => (List.not_mem_nil hr).elim⟩ ?_ ?_ ?_
  · k_steps
  · intro i tk m₁ nx I oI s₁ hi hJ hoff hS F3 N3
    obtain ⟨m2, vo, no, rk, oi2, iv, rfl, di2, hvo, hrl, hrk⟩ := hJ
    obtain ⟨hp, gs, dr, tks, os⟩ := s₁
    replace hoff := allNe_of hoff
    simp only [AllNe, and_true] at hoff
    dsimp only at *
    clear F4 N4 di
    rw [show ((0 : Nat) : Int) + (i : Int) = (i : Int) from Int.zero_add _]
    k_steps
    any_goals (first | exact Str.empty | exact (0 : Nat) | exact Value.none)
    rename Fr _ _ _ _ => F6
    rename News _ _ _ _ => N6
    rename _ = List.length (List.foldl _ _ _) => hL8
    rename _ = Data.cell (some (Value.int (i : Int) _)) => d6
    have hks : (rangeKs 0 ((vs.length : Int) - 0).toNat).length = ns.length := by
      rw [rangeKs_length]; omega
    have hmk : (i : Int) ∈ rangeKs 0 ((vs.length : Int) - 0).toNat := by
      unfold rangeKs
      refine List.mem_map.mpr ⟨i, List.mem_range.mpr (by omega), by omega⟩
    have hys := Nat.lt_of_le_of_lt (Nat.le_of_eq hL8) (fold_lt (fun l k => ?_) (i : Int) (fun l => ?_) _ [] hmk)
    · rw [hks, List.length_nil, Nat.zero_add] at hys
      rw [List.push_toArray] at N6
      refine ⟨_, [(lo, _), (L' + 1 + 1, _), (L' + 1, on)], ⟨hS.1, hS.2⟩, F6, News.cons (N6 (I, oI) (by k_mem)) (News.cons (N6 (lo, _) (by k_mem)) (News.cons (N6 (L' + 1 + 1, _) (by k_mem)) (News.cons (N6 (L' + 1, on) (by k_mem)) News.nil))), ?_, m2, _, _, rk ++ [ys.length], _, _, rfl, d6, ?_, ?_, ?_⟩
      · refine allNe_out (d := I) ?_
        simp only [AllNe, and_true]
        exact hoff
      · rw [show zs (rk ++ [ys.length]) = zs rk ++ [((ys.length : Nat) : Int)] from List.map_append ..]
        exact ints_snoc hvo _ _
      · rw [List.length_append, hrl]; rfl
      · intro r hr
        rcases List.mem_append.mp hr with hr | hr
        · exact hrk r hr
        · rw [List.mem_singleton.mp hr]; exact hys
    · (try dsimp only)
      repeat' split
      all_goals simp
    · (try dsimp only)
      repeat' split
      all_goals (first | (exfalso; omega) | simp)
  · intro m₁ nx s₁ hJ hS F3 N3
    obtain ⟨m2, vo, no, rk, oi2, iv, rfl, di2, hvo, hrl, hrk⟩ := hJ
    obtain ⟨hp, gs, dr, tks, os⟩ := s₁
    dsimp only at *
    clear F4 N4 di
    k_steps
    any_goals (first | exact Str.empty | exact (0 : Nat) | exact Value.none)
    rename Kept s.heap _ => kp
    rename News _ _ _ _ => N4
    exact ret _ lo vo no rk kp ⟨hS.1, hS.2⟩ (N4 _ (.head _)).2.2 (N4 _ (.head _)).1 hvo (hrl.trans hvl) hrk
end Mine
end
section
open PySem PySem.W PyProof.Rows PySem.Calls
set_option maxRecDepth 100000
set_option maxHeartbeats 8000000
set_option linter.unusedVariables false
namespace Mine
theorem part_WPasses : True := by
  w_top off
  trivial
local macro_rules | `(tactic| k_inst) => `(tactic| (refine' acc_inst ?N ?h1 ?h2; (case N => k_asm); (case h1 => k_mem); (case h2 => k_mem)))
local macro_rules | `(tactic| walk_at "wpAt") => `(tactic| (ks_step "exec Expr"; k_dflt (refine PySem.ks_wpAt_Expr_any ?_)))
local macro_rules | `(tactic| walk_at "wpAt") => `(tactic| (ks_step "exec Return"; k_dflt (refine PySem.ks_wpAt_Return_some ?_)))
local macro_rules | `(tactic| walk_at "wpAt") => `(tactic| (ks_step "exec If"; k_dflt (refine PySem.ks_wpAt_If ?_)))
local macro_rules | `(tactic| walk_at "wpAt") => `(tactic| (ks_step "eval Call"; k_dflt (refine PySem.ks_wpAt_MethodCall ?_)))
local macro_rules | `(tactic| walk_at "wpAt") => `(tactic| dsimp only)
local macro_rules | `(tactic| k_all) => `(tactic| assumption)
local macro_rules | `(tactic| walk_at "Exit0") => `(tactic| (refine ⟨_, _, (by k_asm), ?_⟩; intro kp; (try dsimp only)))
local macro_rules | `(tactic| walk_at "callWith ref") => `(tactic| (k_here; k_dflt (refine' callWith_bnd ?k1 ?k2 ?k3 ?k4 ?_; (case k1 => k_asm); (case k2 => k_mem); (case k3 => decide); (case k4 => decide); k_whole; try dsimp only [List.nil_append, List.cons_append])))
local macro_rules | `(tactic| walk_at "call ref") => `(tactic| (k_here; k_dflt (refine' bnd_call (News.get ?N ?k1) ?k2 ?k3 ?k4 ?k5 entry_linit ?_; (case N => k_asm); (case k1 => k_mem); (case k2 => decide); (case k3 => decide); (case k4 => exact fun A Q E h => bcheck_slot kind_linit (args_linit _) h); (case k5 => decide +kernel); refine' acc_init_run ?k6 ?k7 ?k8 ?_; (case k6 => k_asm); (case k7 => k_asm); (case k8 => k_updF); k_whole; intro h' n' F' N'; (try dsimp only at N'); (try k_sweep); refine ⟨_, rfl, ?_⟩)))
local macro_rules | `(tactic| walk_at "call ref") => `(tactic| (k_here; k_dflt (refine' bnd_call (News.get ?N ?k1) ?k2 ?k3 ?k4 plain_llen entry_llen ?_; (case N => k_asm); (case k1 => k_mem); (case k2 => decide); (case k3 => decide); (case k4 => exact fun A Q E h => bcheck_slot kind_llen (args_llen _) h); refine' acc_len_run (News.get ?k6 ?k7) ?_; (case k6 => k_asm); (case k7 => k_mem); k_whole; intro t'; refine ⟨_, rfl, ?_⟩)))
local macro_rules | `(tactic| walk_at "call ref") => `(tactic| (k_here; k_dflt (refine' bnd_call (News.get ?N ?k1) ?k2 ?k3 ?k4 plain_lpop entry_lpop ?_; (case N => k_asm); (case k1 => k_mem); (case k2 => decide); (case k3 => decide); (case k4 => exact fun A Q E h => bcheck_pop (K := wk.heap_39 _) (by k_in) (by k_inst) (f_mroMod _) (f_cls _).choose_spec.1 (f_cls _).choose_spec.2 (f_type101 _) h); refine' acc_pop_run ?k6 ?k7 ?k8 ?k9 ?_; (case k6 => k_asm); (case k7 => k_asm); (case k8 => k_updF); (case k9 => assumption); k_whole; intro h' n' F' N'; (try dsimp only at N'); (try k_sweep); refine ⟨_, rfl, ?_⟩)))
local macro_rules | `(tactic| walk_at "setAttr ref") => `(tactic| (k_here; k_dflt (refine' acc_set ?k1 ?k2 ?k3 ?k4 ?k5 (f_sa _) (f_listMro _) (f_taker _) ?k6 ?k7 ?k8 ?_; (case k1 => k_asm); (case k2 => k_asm); (case k3 => k_asm); (case k4 => k_mem); (case k5 => k_updF); (case k6 => rfl); (case k7 => rfl); (case k8 => exact Nat.le_of_ble_eq_true rfl); k_whole; intro h' F' N'; (try dsimp only at N'); (try k_sweep))))
local macro_rules | `(tactic| walk_at "getMethod ref") => `(tactic| (k_here; k_dflt (first
  | (refine' acc_super gets_init ?k1 ?k2 ?k3 ?k4 ?k5 (f_third _) (f_sinit _) (f_mroList _) rfl ?_; (case k1 => k_asm); (case k2 => k_asm); (case k3 => k_asm); (case k4 => k_mem); (case k5 => k_inst))
  | (refine' acc_super gets_pop ?k1 ?k2 ?k3 ?k4 ?k5 (f_third _) (f_spop _) (f_mroList _) rfl ?_; (case k1 => k_asm); (case k2 => k_asm); (case k3 => k_asm); (case k4 => k_mem); (case k5 => k_inst))
  | (refine' acc_super gets_len ?k1 ?k2 ?k3 ?k4 ?k5 (f_third _) (f_slen _) (f_mroList _) rfl ?_; (case k1 => k_asm); (case k2 => k_asm); (case k3 => k_asm); (case k4 => k_mem); (case k5 => k_inst))); k_whole; intro q' h' F' N' l1; (try k_lt l1)))
local macro_rules | `(tactic| walk_at "getMethod ref") => `(tactic| (k_here; k_dflt (refine' acc_method (K := wk.heap_39 _) ?k1 ?k2 (f_ga _) canon_lga (f_gattr _) ?k3 ?k4 ?k5 ?k6 ?_; (case k1 => k_in); (case k2 => k_inst); (case k3 => k_is); (case k4 => k_is); (case k5 => rfl); (case k6 => rfl); k_whole)))
local macro_rules | `(tactic| walk_at "call type:range") => `(tactic| (k_here; k_dflt (first | refine rng1 (by k_asm) (by k_asm) ⟨id, rfl⟩ | refine rng2 (by k_asm) (by k_asm) ⟨id, rfl⟩)))
local macro_rules | `(tactic| walk_at "call builtin:len") => `(tactic| (k_here; k_dflt (refine' len_any ?k1 ?k2 ?_; (case k1 => first | exact News.isList (by k_asm) (by k_mem) | exact Fr.lst (by assumption) (by assumption)); (case k2 => omega); k_whole); intro t' tk'))
local macro_rules | `(tactic| walk_at "exec For Name Call cons nil") => `(tactic| refine Stop.of ?_)
local macro_rules | `(tactic| walk_at "exec For Name Call") => `(tactic| refine Stop.of ?_)
local macro_rules | `(tactic| walk_at "exec For Name Name cons nil") => `(tactic| refine Stop.of ?_)
local macro_rules | `(tactic| walk_at "exec For Name Name") => `(tactic| refine Stop.of ?_)
local macro_rules | `(tactic| walk_at "exec While Compare") => `(tactic| refine Stop.of ?_)
local macro_rules | `(tactic| walk_at "exec While BoolOp") => `(tactic| refine Stop.of ?_)
local macro_rules | `(tactic| walk_at "exec For") => `(tactic| refine Stop.of ?_)
local macro_rules | `(tactic| walk_at "exec While") => `(tactic| refine Stop.of ?_)
local macro_rules | `(tactic| walk_at "loadName") => `(tactic| (k_here; k_dflt (refine' ldn ?k1 ?k2 ?_; (case k1 => k_asm); (case k2 => first | exact rfl | assumption); k_whole)))
local macro_rules | `(tactic| walk_at "eval Name") => `(tactic| (k_here; k_dflt (refine' ld ?k1 ?k2 ?_; (case k1 => k_asm); (case k2 => first | exact rfl | assumption); k_whole)))
local macro_rules | `(tactic| walk_at "compareOp Eq ref ref") => `(tactic| (k_here; k_dflt (refine' ke_eq_ints ?a ?b ?c ?d ?e ?_; (case a => first | exact Fr.lst (by k_asm) (by k_asm) | exact News.isList (by k_asm) (by k_mem)); (case b => first | exact Fr.lst (by k_asm) (by k_asm) | exact News.isList (by k_asm) (by k_mem)); (case c => first | exact IntsAre.nil | assumption); (case d => first | exact IntsAre.nil | assumption); (case e => ktr_units); k_whole)))
local macro_rules | `(tactic| walk_at "compareOp NotEq ref ref") => `(tactic| (k_here; k_dflt (refine' ke_ne_ints ?a ?b ?c ?d ?e ?_; (case a => first | exact Fr.lst (by k_asm) (by k_asm) | exact News.isList (by k_asm) (by k_mem)); (case b => first | exact Fr.lst (by k_asm) (by k_asm) | exact News.isList (by k_asm) (by k_mem)); (case c => first | exact IntsAre.nil | assumption); (case d => first | exact IntsAre.nil | assumption); (case e => ktr_units); k_whole)))
local macro_rules | `(tactic| walk_at "getMethod ref") => `(tactic| (k_here; k_dflt (refine' getMethod_list_of PySem.F.slot_list_index PySem.F.type_list_index (Fr.lst ?a ?b) (Heap.NoDictAt.keeps ?c ?d) ?_; (case a => k_asm); (case b => k_asm); (case c => exact Fr.keep (by k_asm)); (case d => assumption))))
local macro_rules | `(tactic| walk_at "call builtin:max") => `(tactic| (k_here; k_dflt (refine' kso_max ?k1 ?k2 (Fr.lst ?k3 ?k7) ?k4 ?k5 ?k6 ?_; (case k1 => k_asm); (case k2 => k_asm); (case k3 => k_asm); (case k7 => k_asm); (case k4 => k_asm); (case k5 => assumption); (case k6 => rfl)); intro hM M' tM tkM FM NM hM1 hM2; (try k_sweep)))
/-- where the row stands that is passed next -/
def RowAt (g : Heap) (lc : Addr) (vs : List Value) (nx : List (Addr × Obj)) : Prop := (g.IsList lc (List.toArray vs) ∧ nx = []) ∨ ∃ n, nx = [(lc, listOf (List.toArray vs) n)]
def PsJ (s₀ : Shared) (g : Heap) (L : Addr) (z : Int) (tz : Tok) (lw : Addr) (ws : List Value) (row : List Nat) (k n : Nat) (s₁ : Shared) : Prop :=
  ∃ c lc vs nx m ps nw t, c + n = k ∧ Side s₀ s₁ ∧ Fr g L s₁.heap m ∧ News g L s₁.heap ((63, tabObj ps) :: (lw, listOf (List.toArray ws) nw) :: nx) ∧ RowAt g lc vs nx ∧ IntsAre vs (zs (passN c row)) ∧ TriplesOk ps.toList ∧
    m "row" = some (.ref lc) ∧ m "size" = some (.int z tz) ∧ m "want" = some (.ref lw) ∧ m "count" = some (.int (c : Int) t) ∧ ∀ p ∈ nx, p.1 ≠ 63
theorem m_passes (w : World) {dp un : Nat} {gd : Option (List Code)} {cn : Str} {cs : Scope} {a : Addr} {ccd : Value} {cl : List (Str × Addr)} {outer : List Env} {A₀ : Around} {base h₀ : Heap} {L : Addr} {m : Str → Option Value} {s : Shared}
    {p : Program} {loose : List Str} {mean : ExcName → Option Value} {mg mb : Str → Option Value} {Q E : Value → Shared → Prop} {l : Addr} {vs : List Value} {row : List Nat} {z : Int} {tz : Tok} {ps : Array Value} {k : Nat}
    (B : Below A₀ base outer h₀) (F : Fr h₀ L s.heap m) (X : (wk.heap_39 w.params).In h₀) (T : Top p loose mean mg mb h₀) (hk : cs.kind = .function)
    (N : News h₀ L s.heap [(63, tabObj ps)]) (htr : TriplesOk ps.toList) (hl : s.heap.IsList l (List.toArray vs)) (hv : IntsAre vs (zs row)) (hrow : ∀ r ∈ row, r < 12) (hlen : row.length ≤ 12) (hz : 0 ≤ z) (hz4 : z < 4) (hdp : dp + 60 < recursionLimit) (hun : un + 300 < cLine)
    (hk1 : Rising (passN k row)) (hk2 : ∀ j < k, ¬ Rising (passN j row)) (hk3 : k ≤ row.length)
    (ret : ∀ s' t ps', Side s s' → KeptBut 63 s.heap s'.heap → s'.heap.get? 63 = some (tabObj ps') → TriplesOk ps'.toList → Q (.int (k : Int) t) s') :
    wpAny (model PySem.Challenge.rw_dw5001_01.row.prog w) (ktrTop dp un gd cn cs L a ccd cl outer) (call (.ref 138) [.ref l, .int z tz]) Q E s := by
  revert X
  k_fill
  intro X
  refine wpAny_call ?_
  k_dflt (refine' enterM ?k1 ?k2 ?k3 ?k4 ?k5 ?kA ?kF ?kK ?k6 ?k7 ?k8 ?k9 ?kB ?_ ?c2 ?c3 ?c4 ?c1; (case kA => exact rfl); (case kF => exact rfl); (case kK => assumption); (case k1 => k_asm); (case k2 => k_asm); (case k3 => k_asm); (case k4 => k_asm); (case k5 => k_asm); (case k6 => k_is); (case k7 => k_is); (case k8 => ktr_room); (case k9 => first | exact BindsTo.of_eq rfl | exact binds_K (by k_in) rfl (by k_is) rfl rfl rfl); (case kB => exact locs rfl); (case c1 => decide); (case c2 => exact rfl); (case c3 => exact rfl); (case c4 => exact rfl))
  have h63 := (N _ (.head _)).1
  clear F B X T
  intro g' L' h' hkeep F' N' B' X' T' l3
  have hne : ∀ b o, s.heap.get? b = some o → o.cls ≠ .none → b ≠ 63 := fun b o e hc q => by
    rw [q, h63] at e; cases e; exact hc rfl
  have hkx : ∀ b o, s.heap.get? b = some o → o.cls ≠ .none → g'.get? b = some o := fun b o e hc => hkeep b o e (by simpa using hne b o e hc)
  have hl' : g'.IsList l (List.toArray vs) := by
    obtain ⟨o, ho, r⟩ := hl
    exact ⟨o, hkx _ _ ho (by rw [r.1]; simp), r⟩
  clear hkx hne hl h63 N
  have hlz : (zs row).length = row.length := List.length_map ..
  k_steps
  refine Stop.mk ?_
  rename Fr g' L' _ _ => F2
  rename News g' L' _ _ => N2
  rename List.Perm _ (zs row) => hwp
  rename List.Pairwise _ _ => hwo
  rename IntsAre _ _ => hwi
  rename_i lw wv ns' nw _ _ _ lz _ _ _
  have hwl : wv.length = row.length := by rw [ints_len hwi, hwp.length_eq, hlz]
  refine while_side (PsJ s g' L' z tz lw wv row k) (n₀ := k) ⟨0, l, vs, [], _, ps, nw, _, by omega, ⟨id, rfl⟩, F2, News.cons (N2 (63, _) (by k_mem)) (News.cons (N2 (lw, _) (by k_mem)) News.nil), .inl ⟨hl', rfl⟩, hv, htr, rfl, rfl, rfl, rfl, fun p hp => (nomatch hp)⟩ ?_
  intro n s₁ hJ
  obtain ⟨c, lc, vc, nx, m1, ps1, nw, tc, hcn, hS, F4, N4, hat, hvc, htr1, m1', m2, m3, m4, hoff⟩ := hJ
  obtain ⟨hp, gs, dr, tks, os⟩ := s₁
  dsimp only at *
  clear F2 N2 htr
  rcases hat with ⟨hla, rfl⟩ | ⟨nc, rfl⟩
  · k_steps
    · rename zs (passN c row) = ns' => hq
      have hr : Rising (passN c row) := (is_want hwp hwo (passN_perm c row)).mp hq
      have hck : c = k := by
        rcases Nat.lt_or_ge c k with h | h
        · exact absurd hr (hk2 c h)
        · omega
      rename Kept g' _ => kp
      rename News g' L' _ _ => kN
      subst hck
      exact ret _ _ ps1 ⟨hS.1, hS.2⟩ (fun b o hb e => kp b o (hkeep b o e (by simpa using hb))) (kN (63, tabObj ps1) (by k_mem)).1 htr1
    · rename ¬ zs (passN c row) = ns' => hq
      have hnr : ¬ Rising (passN c row) := fun h => hq ((is_want hwp hwo (passN_perm c row)).mpr h)
      have hck : c < k := by
        rcases Nat.lt_or_ge c k with h | h
        · exact h
        · exact absurd ((show c = k by omega) ▸ hk1) hnr
      exfalso
      omega
    · rename ¬ zs (passN c row) = ns' => hq
      have hnr : ¬ Rising (passN c row) := fun h => hq ((is_want hwp hwo (passN_perm c row)).mpr h)
      have hck : c < k := by
        rcases Nat.lt_or_ge c k with h | h
        · exact h
        · exact absurd ((show c = k by omega) ▸ hk1) hnr
      rename Fr g' L' _ _ => F5
      rename News g' L' _ _ => N5
      refine m_pass w B' F5 X' T' rfl (News.cons (N5 (63, _) (by k_mem)) News.nil) htr1 (Fr.lst F5 hla) hvc (fun r hr => hrow r ((passN_perm c row).mem_iff.mp hr)) (by rw [(passN_perm c row).length_eq]; exact hlen) hz hz4 ?_ ?_ ?_
      · ktr_room
      · ktr_units
      intro s' lo ps' vo no hS' k63 h63 htr' hfr hlo hvo
      obtain ⟨F6, N6⟩ := after_mut F5 N5 (by k_updF) k63 h63
      (try dsimp only at N6)
      have N7 := fresh_in F5 hfr hlo N6
      have n7 := fresh_ne N5 hfr
      simp only [AllNe, and_true] at n7
      obtain ⟨hp5, gs5, dr5, tk5, os5⟩ := s'
      dsimp only at *
      clear F5 N5 N6 k63 h63 hfr hlo
      k_steps
      rename Fr g' L' _ _ => F8
      rename News g' L' _ _ => N8
      rw [show (c : Int) + 1 = ((c + 1 : Nat) : Int) by omega] at F8
      refine ⟨k - (c + 1), by omega, c + 1, lo, vo, [(lo, _)], _, ps', nw, _, by omega, Side.trans ⟨hS.1, hS.2⟩ ⟨hS'.1, hS'.2⟩, F8, News.cons (N8 (63, _) (by k_mem)) (News.cons (N8 (lw, _) (by k_mem)) (News.cons (N8 (lo, _) (by k_mem)) News.nil)), .inr ⟨no, rfl⟩, hvo, htr', rfl, m2, m3, rfl, ?_⟩
      · intro p hp
        rw [List.mem_singleton.mp hp]
        refine neN ?_
        dsimp only
        omega
  · have hlc := hoff _ (.head _)
    k_steps
    · rename zs (passN c row) = ns' => hq
      have hr : Rising (passN c row) := (is_want hwp hwo (passN_perm c row)).mp hq
      have hck : c = k := by
        rcases Nat.lt_or_ge c k with h | h
        · exact absurd hr (hk2 c h)
        · omega
      rename Kept g' _ => kp
      rename News g' L' _ _ => kN
      subst hck
      exact ret _ _ ps1 ⟨hS.1, hS.2⟩ (fun b o hb e => kp b o (hkeep b o e (by simpa using hb))) (kN (63, tabObj ps1) (by k_mem)).1 htr1
    · rename ¬ zs (passN c row) = ns' => hq
      have hnr : ¬ Rising (passN c row) := fun h => hq ((is_want hwp hwo (passN_perm c row)).mpr h)
      have hck : c < k := by
        rcases Nat.lt_or_ge c k with h | h
        · exact h
        · exact absurd ((show c = k by omega) ▸ hk1) hnr
      exfalso
      omega
    · rename ¬ zs (passN c row) = ns' => hq
      have hnr : ¬ Rising (passN c row) := fun h => hq ((is_want hwp hwo (passN_perm c row)).mpr h)
      have hck : c < k := by
        rcases Nat.lt_or_ge c k with h | h
        · exact h
        · exact absurd ((show c = k by omega) ▸ hk1) hnr
      rename Fr g' L' _ _ => F5
      rename News g' L' _ _ => N5
      refine m_pass w B' F5 X' T' rfl (News.cons (N5 (63, _) (by k_mem)) News.nil) htr1 (News.isList N5 (by k_mem)) hvc (fun r hr => hrow r ((passN_perm c row).mem_iff.mp hr)) (by rw [(passN_perm c row).length_eq]; exact hlen) hz hz4 ?_ ?_ ?_
      · ktr_room
      · ktr_units
      intro s' lo ps' vo no hS' k63 h63 htr' hfr hlo hvo
      obtain ⟨F6, N6⟩ := after_mut F5 N5 (by k_updF) k63 h63
      (try dsimp only at N6)
      have N7 := fresh_in F5 hfr hlo N6
      have n7 := fresh_ne N5 hfr
      simp only [AllNe, and_true] at n7
      obtain ⟨hp5, gs5, dr5, tk5, os5⟩ := s'
      dsimp only at *
      clear F5 N5 N6 k63 h63 hfr hlo
      k_steps
      rename Fr g' L' _ _ => F8
      rename News g' L' _ _ => N8
      rw [show (c : Int) + 1 = ((c + 1 : Nat) : Int) by omega] at F8
      refine ⟨k - (c + 1), by omega, c + 1, lo, vo, [(lo, _)], _, ps', nw, _, by omega, Side.trans ⟨hS.1, hS.2⟩ ⟨hS'.1, hS'.2⟩, F8, News.cons (N8 (63, _) (by k_mem)) (News.cons (N8 (lw, _) (by k_mem)) (News.cons (N8 (lo, _) (by k_mem)) News.nil)), .inr ⟨no, rfl⟩, hvo, htr', rfl, m2, m3, rfl, ?_⟩
      · intro p hp
        rw [List.mem_singleton.mp hp]
        refine neN ?_
        dsimp only
        omega
end Mine
end
section
open PySem
set_option maxRecDepth 100000
set_option maxHeartbeats 8000000
namespace Mine
theorem part_WPlain : True := by
  w_top off
  trivial
/-- what stays upon a stack of things not less than M, if all that comes is less than M -/
theorem popW_app (x : Nat) : ∀ (rs bot out : List Nat), (∀ r ∈ bot, ¬ r < x) → popW x (rs ++ bot) out = ((popW x rs out).1 ++ bot, (popW x rs out).2)
  | [], [], out, _ => rfl
  | [], b :: bot, out, h => by
    have hb := h b (.head _)
    show popW x (b :: bot) out = _
    rw [popW_ge hb]; rfl
  | r :: rs, bot, out, h => by
    show popW x (r :: (rs ++ bot)) out = _
    by_cases hr : r < x
    · rw [popW_lt hr, popW_lt hr]; exact popW_app x rs bot _ h
    · rw [popW_ge hr, popW_ge hr]; rfl
theorem popW_all (x : Nat) : ∀ (rs out : List Nat), (∀ r ∈ rs, r < x) → popW x rs out = ([], out ++ rs)
  | [], out, _ => by simp [popW]
  | r :: rs, out, h => by
    rw [popW_lt (h r (.head _)), popW_all x rs _ fun q hq => h q (.tail _ hq)]
    simp
theorem popW_out (x : Nat) : ∀ (rs out pre : List Nat), popW x rs (pre ++ out) = ((popW x rs out).1, pre ++ (popW x rs out).2)
  | [], out, pre => rfl
  | r :: rs, out, pre => by
    by_cases hr : r < x
    · rw [popW_lt hr, popW_lt hr, List.append_assoc]; exact popW_out x rs _ pre
    · rw [popW_ge hr, popW_ge hr]
theorem passGo_out : ∀ (row rs out pre : List Nat), passGo row rs (pre ++ out) = ((passGo row rs out).1, pre ++ (passGo row rs out).2)
  | [], _, _, _ => rfl
  | x :: row, rs, out, pre => by
    show passGo row _ _ = _
    rw [popW_out]
    exact passGo_out row _ _ pre
theorem passGo_bot : ∀ (row rs bot out : List Nat), (∀ x ∈ row, ∀ r ∈ bot, ¬ r < x) → passGo row (rs ++ bot) out = ((passGo row rs out).1 ++ bot, (passGo row rs out).2)
  | [], _, _, _, _ => rfl
  | x :: row, rs, bot, out, h => by
    show passGo row (x :: (popW x (rs ++ bot) out).1) (popW x (rs ++ bot) out).2 = _
    rw [popW_app x rs bot out (h x (.head _))]
    exact passGo_bot row (x :: (popW x rs out).1) bot _ fun y hy => h y (.tail _ hy)
theorem passGo_app : ∀ (a b rs out : List Nat), passGo (a ++ b) rs out = passGo b (passGo a rs out).1 (passGo a rs out).2
  | [], _, _, _ => rfl
  | x :: a, b, rs, out => by
    show passGo (a ++ b) _ _ = _
    rw [passGo_app a b]; rfl
/-- West's sum for one pass -/
theorem passF_node {A B : List Nat} {M : Nat} (hA : ∀ r ∈ A, r < M) (hB : ∀ r ∈ B, r ≤ M) : passF (A ++ M :: B) = passF A ++ passF B ++ [M] := by
  have hmem := passGo_mem A [] [] hA (fun r hr => (List.not_mem_nil hr).elim) (fun r hr => (List.not_mem_nil hr).elim)
  unfold passF
  rw [passGo_app]
  show (passGo B (M :: (popW M (passGo A [] []).1 (passGo A [] []).2).1) (popW M (passGo A [] []).1 (passGo A [] []).2).2).2 ++ (passGo B (M :: (popW M (passGo A [] []).1 (passGo A [] []).2).1) (popW M (passGo A [] []).1 (passGo A [] []).2).2).1 = _
  rw [popW_all M _ _ hmem.1]
  have h1 := passGo_bot B [] [M] ((passGo A [] []).2 ++ (passGo A [] []).1) (fun x hx r hr => by
    rw [List.mem_singleton.mp hr]; have := hB x hx; omega)
  have h2 := passGo_out B [] [] ((passGo A [] []).2 ++ (passGo A [] []).1)
  simp only [List.nil_append, List.append_nil] at h1 h2
  rw [h1, h2]
  simp
theorem west_pass {A a : List Nat} (h : West A a) : passF A = a := by
  induction h with
  | nil => rfl
  | node hA hB _ _ ih1 ih2 => rw [passF_node hA hB, ih1, ih2]
/-- two behind x: the first greater, the second less -/
def T2 (x : Nat) : List Nat → Prop
  | [] => False
  | y :: l => (x < y ∧ ∃ z ∈ l, z < x) ∨ T2 x l
def T3 : List Nat → Prop
  | [] => False
  | x :: l => T2 x l ∨ T3 l
theorem T2.less {x : Nat} : ∀ {l : List Nat}, T2 x l → ∃ y ∈ l, x < y
  | y :: l, h => by
    rcases h with ⟨h, _⟩ | h
    · exact ⟨y, .head _, h⟩
    · obtain ⟨z, hz, h⟩ := h.less; exact ⟨z, .tail _ hz, h⟩
theorem T2.low {x : Nat} : ∀ {l : List Nat}, T2 x l → ∃ z ∈ l, z < x
  | y :: l, h => by
    rcases h with ⟨_, z, hz, h⟩ | h
    · exact ⟨z, .tail _ hz, h⟩
    · obtain ⟨z, hz, h⟩ := h.low; exact ⟨z, .tail _ hz, h⟩
theorem T2_app {x M : Nat} {B : List Nat} (hx : x < M) : ∀ A : List Nat, T2 x (A ++ M :: B) ↔ T2 x A ∨ ∃ z ∈ B, z < x
  | [] => by
    show (x < M ∧ ∃ z ∈ B, z < x) ∨ T2 x B ↔ False ∨ _
    constructor
    · rintro (⟨_, h⟩ | h)
      · exact .inr h
      · exact .inr h.low
    · rintro (h | h)
      · exact h.elim
      · exact .inl ⟨hx, h⟩
  | y :: A => by
    have ih := T2_app (B := B) hx A
    show (x < y ∧ ∃ z ∈ A ++ M :: B, z < x) ∨ T2 x (A ++ M :: B) ↔ ((x < y ∧ ∃ z ∈ A, z < x) ∨ T2 x A) ∨ _
    rw [ih]
    constructor
    · rintro (⟨h, z, hz, hl⟩ | h | h)
      · rcases List.mem_append.mp hz with hz | hz
        · exact .inl (.inl ⟨h, z, hz, hl⟩)
        · rcases List.mem_cons.mp hz with rfl | hz
          · omega
          · exact .inr ⟨z, hz, hl⟩
      · exact .inl (.inr h)
      · exact .inr h
    · rintro ((⟨h, z, hz, hl⟩ | h) | h)
      · exact .inl ⟨h, z, List.mem_append_left _ hz, hl⟩
      · exact .inr (.inl h)
      · exact .inr (.inr h)
theorem T3_app {M : Nat} {B : List Nat} (hB : ∀ r ∈ B, r ≤ M) : ∀ A : List Nat, (∀ r ∈ A, r < M) → (T3 (A ++ M :: B) ↔ T3 A ∨ T3 B ∨ ∃ a ∈ A, ∃ b ∈ B, b < a)
  | [], _ => by
    show T2 M B ∨ T3 B ↔ False ∨ T3 B ∨ _
    constructor
    · rintro (h | h)
      · obtain ⟨y, hy, h⟩ := h.less
        have := hB y hy
        omega
      · exact .inr (.inl h)
    · rintro (h | h | ⟨a, ha, _⟩)
      · exact h.elim
      · exact .inr h
      · exact (List.not_mem_nil ha).elim
  | x :: A, hA => by
    have ih := T3_app hB A fun r hr => hA r (.tail _ hr)
    show T2 x (A ++ M :: B) ∨ T3 (A ++ M :: B) ↔ (T2 x A ∨ T3 A) ∨ T3 B ∨ _
    rw [ih, T2_app (hA x (.head _))]
    constructor
    · rintro ((h | ⟨z, hz, h⟩) | h | h | ⟨a, ha, h⟩)
      · exact .inl (.inl h)
      · exact .inr (.inr ⟨x, .head _, z, hz, h⟩)
      · exact .inl (.inr h)
      · exact .inr (.inl h)
      · exact .inr (.inr ⟨a, .tail _ ha, h⟩)
    · rintro ((h | h) | h | ⟨a, ha, b, hb, h⟩)
      · exact .inl (.inl h)
      · exact .inr (.inl h)
      · exact .inr (.inr (.inl h))
      · rcases List.mem_cons.mp ha with rfl | ha
        · exact .inl (.inr ⟨b, hb, h⟩)
        · exact .inr (.inr (.inr ⟨a, ha, b, hb, h⟩))
theorem getD_mem {l : List Nat} {k : Nat} (h : k < l.length) : l.getD k 0 ∈ l := by
  rw [List.getD_eq_getElem?_getD, List.getElem?_eq_getElem h]
  exact List.getElem_mem h
theorem mem_getD' {l : List Nat} {z : Nat} (h : z ∈ l) : ∃ k, k < l.length ∧ l.getD k 0 = z := by
  obtain ⟨k, hk, rfl⟩ := List.getElem_of_mem h
  exact ⟨k, hk, by simp [hk]⟩
theorem T2_idx (x : Nat) : ∀ l : List Nat, T2 x l ↔ ∃ j k, j < k ∧ k < l.length ∧ x < l.getD j 0 ∧ l.getD k 0 < x
  | [] => by
    constructor
    · exact fun h => h.elim
    · rintro ⟨j, k, _, h, _⟩; simp at h
  | y :: l => by
    have ih := T2_idx x l
    show (x < y ∧ ∃ z ∈ l, z < x) ∨ T2 x l ↔ _
    rw [ih]
    constructor
    · rintro (⟨h, z, hz, hl⟩ | ⟨j, k, h1, h2, h3, h4⟩)
      · obtain ⟨k, hk, rfl⟩ := mem_getD' hz
        exact ⟨0, k + 1, by omega, by simpa using hk, by simpa using h, by simpa using hl⟩
      · exact ⟨j + 1, k + 1, by omega, by simpa using h2, by simpa using h3, by simpa using h4⟩
    · rintro ⟨j, k, h1, h2, h3, h4⟩
      obtain ⟨k, rfl⟩ : ∃ k', k = k' + 1 := ⟨k - 1, by omega⟩
      have h2' : k < l.length := by simpa using h2
      have h4' : l.getD k 0 < x := by simpa using h4
      cases j with
      | zero => exact .inl ⟨by simpa using h3, _, getD_mem h2', h4'⟩
      | succ j => exact .inr ⟨j, k, by omega, h2', by simpa using h3, h4'⟩
theorem T3_idx : ∀ l : List Nat, T3 l ↔ hasThree l
  | [] => by
    constructor
    · exact fun h => h.elim
    · rintro ⟨i, j, k, _, _, h, _⟩; simp at h
  | x :: l => by
    have ih := T3_idx l
    show T2 x l ∨ T3 l ↔ _
    rw [ih, T2_idx]
    constructor
    · rintro (⟨j, k, h1, h2, h3, h4⟩ | ⟨i, j, k, h0, h1, h2, h3, h4⟩)
      · exact ⟨0, j + 1, k + 1, by omega, by omega, by simpa using h2, by simpa using h3, by simpa using h4⟩
      · exact ⟨i + 1, j + 1, k + 1, by omega, by omega, by simpa using h2, by simpa using h3, by simpa using h4⟩
    · rintro ⟨i, j, k, h0, h1, h2, h3, h4⟩
      obtain ⟨k, rfl⟩ : ∃ k', k = k' + 1 := ⟨k - 1, by omega⟩
      obtain ⟨j, rfl⟩ : ∃ j', j = j' + 1 := ⟨j - 1, by omega⟩
      have h2' : k < l.length := by simpa using h2
      cases i with
      | zero => exact .inl ⟨j, k, by omega, h2', by simpa using h3, by simpa using h4⟩
      | succ i => exact .inr ⟨i, j, k, by omega, by omega, h2', by simpa using h3, by simpa using h4⟩
theorem max_of : ∀ {row : List Nat}, row ≠ [] → ∃ M ∈ row, ∀ r ∈ row, r ≤ M
  | [], h => absurd rfl h
  | x :: l, _ => by
    by_cases hl : l = []
    · subst hl; exact ⟨x, .head _, fun r hr => by rw [List.mem_singleton.mp hr]; exact Nat.le_refl _⟩
    · obtain ⟨M, hM, h⟩ := max_of hl
      by_cases hx : x ≤ M
      · exact ⟨M, .tail _ hM, fun r hr => by
          rcases List.mem_cons.mp hr with rfl | hr
          · exact hx
          · exact h r hr⟩
      · exact ⟨x, .head _, fun r hr => by
          rcases List.mem_cons.mp hr with rfl | hr
          · exact Nat.le_refl _
          · have := h r hr; omega⟩
theorem west_split {row : List Nat} (h : row ≠ []) : ∃ A M B, row = A ++ M :: B ∧ (∀ r ∈ A, r < M) ∧ ∀ r ∈ B, r ≤ M := by
  obtain ⟨M, hM, hle⟩ := max_of h
  obtain ⟨e, hn⟩ := split_at hM
  refine ⟨_, M, _, e, fun r hr => ?_, fun r hr => hle r (List.mem_of_mem_drop hr)⟩
  have h1 := hle r (List.mem_of_mem_take hr)
  have h2 : r ≠ M := fun q => hn (q ▸ hr)
  omega
/-- sorted after one pass, just if no three stand so -/
theorem rising_iff : ∀ (n : Nat) (row : List Nat), row.length ≤ n → (Rising (passF row) ↔ ¬ T3 row)
  | n, [], _ => by
    constructor
    · exact fun _ h => h
    · exact fun _ => List.Pairwise.nil
  | 0, x :: l, h => by simp at h
  | n + 1, x :: l, hn => by
    obtain ⟨A, M, B, e, hA, hB⟩ := west_split (List.cons_ne_nil x l)
    rw [e] at hn ⊢
    simp only [List.length_append, List.length_cons] at hn
    have ih1 := rising_iff n A (by omega)
    have ih2 := rising_iff n B (by omega)
    rw [passF_node hA hB, T3_app hB A hA]
    have pA := passF_perm A
    have pB := passF_perm B
    unfold Rising at ih1 ih2 ⊢
    rw [List.pairwise_append, List.pairwise_append]
    constructor
    · rintro ⟨⟨h1, h2, h3⟩, _, _⟩ (h | h | ⟨a, ha, b, hb, h⟩)
      · exact ih1.mp h1 h
      · exact ih2.mp h2 h
      · have := h3 a (pA.mem_iff.mpr ha) b (pB.mem_iff.mpr hb)
        omega
    · intro h
      refine ⟨⟨ih1.mpr fun q => h (.inl q), ih2.mpr fun q => h (.inr (.inl q)), fun a ha b hb => ?_⟩, List.pairwise_singleton .., fun a ha b hb => ?_⟩
      · by_cases hab : a ≤ b
        · exact hab
        · exact absurd (.inr (.inr ⟨a, pA.mem_iff.mp ha, b, pB.mem_iff.mp hb, by omega⟩)) h
      · rw [List.mem_singleton.mp hb]
        rcases List.mem_append.mp ha with ha | ha
        · exact Nat.le_of_lt (hA a (pA.mem_iff.mp ha))
        · exact hB a (pB.mem_iff.mp ha)
theorem law_three (row : List Nat) : Rising (passF row) ↔ ¬ hasThree row := (rising_iff _ row (Nat.le_refl _)).trans (not_congr (T3_idx row))
end Mine
end
section
open PySem
set_option maxRecDepth 100000
set_option maxHeartbeats 8000000
namespace Mine
theorem part_WPlain2 : True := by
  w_top off
  trivial
/-- the stack rises from its top -/
theorem popW_rising (x : Nat) : ∀ (rs out : List Nat), Rising rs → Rising (x :: (popW x rs out).1)
  | [], _, _ => List.pairwise_singleton ..
  | r :: rs, out, h => by
    by_cases hr : r < x
    · rw [popW_lt hr]; exact popW_rising x rs _ (List.pairwise_cons.mp h).2
    · rw [popW_ge hr]
      refine List.pairwise_cons.mpr ⟨fun q hq => ?_, h⟩
      rcases List.mem_cons.mp hq with rfl | hq
      · omega
      · have := (List.pairwise_cons.mp h).1 q hq; omega
theorem passGo_rising : ∀ (row rs out : List Nat), Rising rs → Rising (passGo row rs out).1
  | [], _, _, h => h
  | x :: row, rs, out, h => passGo_rising row _ _ (popW_rising x rs out h)
theorem popW_last {y : Nat} : ∀ (rs out : List Nat), Rising rs → (∀ r ∈ rs, r ≤ y) → (popW y rs out).2 ++ (y :: (popW y rs out).1) = out ++ rs ++ [y]
  | [], out, _, _ => by simp [popW]
  | r :: rs, out, h, hle => by
    by_cases hr : r < y
    · rw [popW_lt hr, popW_last rs _ (List.pairwise_cons.mp h).2 fun q hq => hle q (.tail _ hq)]
      simp
    · rw [popW_ge hr]
      have all : ∀ q ∈ r :: rs, q = y := fun q hq => by
        have h1 := hle q hq
        have h2 := hle r (.head _)
        rcases List.mem_cons.mp hq with rfl | hq
        · omega
        · have := (List.pairwise_cons.mp h).1 q hq; omega
      have e : ∀ (l : List Nat), (∀ q ∈ l, q = y) → y :: l = l ++ [y] := by
        intro l hl
        induction l with
        | nil => rfl
        | cons q l ih =>
          rw [hl q (.head _), List.cons_append, ← ih fun p hp => hl p (.tail _ hp)]
      rw [e _ all, List.append_assoc]
theorem passF_snoc {X : List Nat} {y : Nat} (h : ∀ x ∈ X, x ≤ y) : passF (X ++ [y]) = passF X ++ [y] := by
  have hm := passGo_mem X [] [] h (fun r hr => (List.not_mem_nil hr).elim) (fun r hr => (List.not_mem_nil hr).elim)
  unfold passF
  rw [passGo_snoc]
  exact popW_last _ _ (passGo_rising X [] [] List.Pairwise.nil) hm.1
theorem passF_settled {X : List Nat} : ∀ (n : Nat) (Y : List Nat), Y.length = n → Rising Y → (∀ x ∈ X, ∀ y ∈ Y, x ≤ y) → passF (X ++ Y) = passF X ++ Y
  | 0, Y, hn, _, _ => by rw [List.length_eq_zero_iff.mp hn]; simp
  | n + 1, Y, hn, hY, hXY => by
    have hne : Y ≠ [] := fun e => by rw [e] at hn; simp at hn
    obtain ⟨Z, y, rfl⟩ : ∃ Z y, Y = Z ++ [y] := ⟨Y.dropLast, Y.getLast hne, (List.dropLast_concat_getLast hne).symm⟩
    rw [List.length_append] at hn
    unfold Rising at hY
    rw [List.pairwise_append] at hY
    obtain ⟨h1, _, h3⟩ := hY
    rw [← List.append_assoc, passF_snoc, passF_settled n Z (by simpa using hn) h1 fun x hx y hy => hXY x hx y (List.mem_append_left _ hy), List.append_assoc]
    intro x hx
    rcases List.mem_append.mp hx with hx | hx
    · exact hXY x hx y (by simp)
    · exact h3 x hx y (by simp)
theorem passN_settles (row : List Nat) : ∀ k, k ≤ row.length → ∃ X Y, passN k row = X ++ Y ∧ Y.length = k ∧ Rising Y ∧ ∀ x ∈ X, ∀ y ∈ Y, x ≤ y
  | 0, _ => ⟨row, [], by simp [passN], rfl, List.Pairwise.nil, fun _ _ _ h => (List.not_mem_nil h).elim⟩
  | k + 1, hk => by
    obtain ⟨X, Y, e, hl, hY, hXY⟩ := passN_settles row k (by omega)
    have hlen := (passN_perm k row).length_eq
    rw [e, List.length_append, hl] at hlen
    have hX : X ≠ [] := fun q => by rw [q] at hlen; simp at hlen; omega
    obtain ⟨A, M, B, eX, hA, hB⟩ := west_split hX
    refine ⟨passF A ++ passF B, M :: Y, ?_, by simp [hl], ?_, ?_⟩
    · show passF (passN k row) = _
      rw [e, passF_settled _ Y rfl hY hXY, eX, passF_node hA hB]
      simp
    · refine List.pairwise_cons.mpr ⟨fun y hy => hXY M (by rw [eX]; simp) y hy, hY⟩
    · intro x hx y hy
      have hxX : x ∈ X := by
        rw [eX]
        rcases List.mem_append.mp hx with hx | hx
        · exact List.mem_append_left _ ((passF_perm A).mem_iff.mp hx)
        · exact List.mem_append_right _ (.tail _ ((passF_perm B).mem_iff.mp hx))
      rcases List.mem_cons.mp hy with rfl | hy
      · rcases List.mem_append.mp hx with hx | hx
        · exact Nat.le_of_lt (hA x ((passF_perm A).mem_iff.mp hx))
        · exact hB x ((passF_perm B).mem_iff.mp hx)
      · exact hXY x hxX y hy
theorem passN_done (row : List Nat) : Rising (passN (row.length - 1) row) := by
  obtain ⟨X, Y, e, hl, hY, hXY⟩ := passN_settles row (row.length - 1) (Nat.sub_le _ _)
  have hlen := (passN_perm (row.length - 1) row).length_eq
  rw [e, List.length_append, hl] at hlen
  rw [e]
  match X with
  | [] => exact hY
  | [x] => exact List.pairwise_cons.mpr ⟨fun y hy => hXY x (.head _) y hy, hY⟩
  | x :: x' :: X => simp only [List.length_cons] at hlen; omega
open Classical in
theorem least_of {P : Nat → Prop} : ∀ n, P n → ∃ k ≤ n, P k ∧ ∀ j < k, ¬ P j
  | 0, h => ⟨0, Nat.le_refl _, h, fun j hj => absurd hj (Nat.not_lt_zero _)⟩
  | n + 1, h => by
    by_cases hx : ∃ j ≤ n, P j
    · obtain ⟨j, hj, hp⟩ := hx
      obtain ⟨k, hk, r⟩ := least_of j hp
      exact ⟨k, by omega, r⟩
    · exact ⟨n + 1, Nat.le_refl _, h, fun j hj hp => hx ⟨j, by omega, hp⟩⟩
termination_by n => n
theorem law_passes (row : List Nat) : ∃ k, k ≤ row.length - 1 ∧ Rising (passN k row) ∧ ∀ j < k, ¬ Rising (passN j row) := least_of _ (passN_done row)
/-- the row from 1 that ends with 0 -/
def madeRow (m : Nat) : List Nat := ((List.range (m - 1)).map (· + 1)) ++ [0]
theorem law_made : ∀ m, 2 ≤ m → m < 11 → Rising (passN (m - 1) (madeRow m)) ∧ ∀ j < m - 1, ¬ Rising (passN j (madeRow m)) := by
  have h : ∀ m, m < 11 → 2 ≤ m → (passN (m - 1) (madeRow m)).Pairwise (· ≤ ·) ∧ ∀ j < m - 1, ¬ (passN j (madeRow m)).Pairwise (· ≤ ·) := by decide +kernel
  exact fun m h1 h2 => h m h2 h1
theorem made_len {m : Nat} (h : 2 ≤ m) : (madeRow m).length = m := by
  simp [madeRow]; omega
theorem made_low {m : Nat} (h : m < 11) : ∀ r ∈ madeRow m, r < 12 := by
  intro r hr
  rcases List.mem_append.mp hr with hr | hr
  · obtain ⟨i, hi, rfl⟩ := List.mem_map.mp hr
    have := List.mem_range.mp hi
    omega
  · rw [List.mem_singleton.mp hr]; decide
theorem made_zs (m : Nat) (h : 2 ≤ m) : PySem.W.rangeKs 1 ((m : Int) - 1).toNat ++ [0] = zs (madeRow m) := by
  have e : ((m : Int) - 1).toNat = m - 1 := by omega
  rw [e]
  unfold PySem.W.rangeKs madeRow zs
  rw [List.map_append, List.map_map]
  congr 1
  refine List.map_congr_left fun i _ => ?_
  simp only [Function.comp_apply]
  omega
end Mine
end
section
open PySem PySem.W PyProof.Rows PySem.Calls
set_option maxRecDepth 100000
set_option maxHeartbeats 8000000
set_option linter.unusedVariables false
namespace Mine
theorem part_WLaw : True := by
  w_top off
  trivial
local macro_rules | `(tactic| walk_at "nowhere WLaw 0") => `(tactic| skip)
local macro_rules | `(tactic| k_inst) => `(tactic| (refine' acc_inst ?N ?h1 ?h2; (case N => k_asm); (case h1 => k_mem); (case h2 => k_mem)))
local macro_rules | `(tactic| walk_at "wpAt") => `(tactic| (ks_step "exec Expr"; k_dflt (refine PySem.ks_wpAt_Expr_any ?_)))
local macro_rules | `(tactic| walk_at "wpAt") => `(tactic| (ks_step "exec Return"; k_dflt (refine PySem.ks_wpAt_Return_some ?_)))
local macro_rules | `(tactic| walk_at "wpAt") => `(tactic| (ks_step "exec If"; k_dflt (refine PySem.ks_wpAt_If ?_)))
local macro_rules | `(tactic| walk_at "wpAt") => `(tactic| (ks_step "eval Call"; k_dflt (refine PySem.ks_wpAt_MethodCall ?_)))
local macro_rules | `(tactic| walk_at "wpAt") => `(tactic| dsimp only)
local macro_rules | `(tactic| k_all) => `(tactic| assumption)
local macro_rules | `(tactic| walk_at "Exit0") => `(tactic| (refine ⟨_, _, (by k_asm), ?_⟩; intro kp; (try dsimp only)))
local macro_rules | `(tactic| walk_at "callWith ref") => `(tactic| (k_here; k_dflt (refine' callWith_bnd ?k1 ?k2 ?k3 ?k4 ?_; (case k1 => k_asm); (case k2 => k_mem); (case k3 => decide); (case k4 => decide); k_whole; try dsimp only [List.nil_append, List.cons_append])))
local macro_rules | `(tactic| walk_at "call ref") => `(tactic| (k_here; k_dflt (refine' bnd_call (News.get ?N ?k1) ?k2 ?k3 ?k4 ?k5 entry_linit ?_; (case N => k_asm); (case k1 => k_mem); (case k2 => decide); (case k3 => decide); (case k4 => exact fun A Q E h => bcheck_slot kind_linit (args_linit _) h); (case k5 => decide +kernel); refine' acc_init_run ?k6 ?k7 ?k8 ?_; (case k6 => k_asm); (case k7 => k_asm); (case k8 => k_updF); k_whole; intro h' n' F' N'; (try dsimp only at N'); (try k_sweep); refine ⟨_, rfl, ?_⟩)))
local macro_rules | `(tactic| walk_at "call ref") => `(tactic| (k_here; k_dflt (refine' bnd_call (News.get ?N ?k1) ?k2 ?k3 ?k4 plain_llen entry_llen ?_; (case N => k_asm); (case k1 => k_mem); (case k2 => decide); (case k3 => decide); (case k4 => exact fun A Q E h => bcheck_slot kind_llen (args_llen _) h); refine' acc_len_run (News.get ?k6 ?k7) ?_; (case k6 => k_asm); (case k7 => k_mem); k_whole; intro t'; refine ⟨_, rfl, ?_⟩)))
local macro_rules | `(tactic| walk_at "call ref") => `(tactic| (k_here; k_dflt (refine' bnd_call (News.get ?N ?k1) ?k2 ?k3 ?k4 plain_lpop entry_lpop ?_; (case N => k_asm); (case k1 => k_mem); (case k2 => decide); (case k3 => decide); (case k4 => exact fun A Q E h => bcheck_pop (K := wk.heap_39 _) (by k_in) (by k_inst) (f_mroMod _) (f_cls _).choose_spec.1 (f_cls _).choose_spec.2 (f_type101 _) h); refine' acc_pop_run ?k6 ?k7 ?k8 ?k9 ?_; (case k6 => k_asm); (case k7 => k_asm); (case k8 => k_updF); (case k9 => assumption); k_whole; intro h' n' F' N'; (try dsimp only at N'); (try k_sweep); refine ⟨_, rfl, ?_⟩)))
local macro_rules | `(tactic| walk_at "setAttr ref") => `(tactic| (k_here; k_dflt (refine' acc_set ?k1 ?k2 ?k3 ?k4 ?k5 (f_sa _) (f_listMro _) (f_taker _) ?k6 ?k7 ?k8 ?_; (case k1 => k_asm); (case k2 => k_asm); (case k3 => k_asm); (case k4 => k_mem); (case k5 => k_updF); (case k6 => rfl); (case k7 => rfl); (case k8 => exact Nat.le_of_ble_eq_true rfl); k_whole; intro h' F' N'; (try dsimp only at N'); (try k_sweep))))
local macro_rules | `(tactic| walk_at "getMethod ref") => `(tactic| (k_here; k_dflt (first
  | (refine' acc_super gets_init ?k1 ?k2 ?k3 ?k4 ?k5 (f_third _) (f_sinit _) (f_mroList _) rfl ?_; (case k1 => k_asm); (case k2 => k_asm); (case k3 => k_asm); (case k4 => k_mem); (case k5 => k_inst))
  | (refine' acc_super gets_pop ?k1 ?k2 ?k3 ?k4 ?k5 (f_third _) (f_spop _) (f_mroList _) rfl ?_; (case k1 => k_asm); (case k2 => k_asm); (case k3 => k_asm); (case k4 => k_mem); (case k5 => k_inst))
  | (refine' acc_super gets_len ?k1 ?k2 ?k3 ?k4 ?k5 (f_third _) (f_slen _) (f_mroList _) rfl ?_; (case k1 => k_asm); (case k2 => k_asm); (case k3 => k_asm); (case k4 => k_mem); (case k5 => k_inst))); k_whole; intro q' h' F' N' l1; (try k_lt l1)))
local macro_rules | `(tactic| walk_at "getMethod ref") => `(tactic| (k_here; k_dflt (refine' acc_method (K := wk.heap_39 _) ?k1 ?k2 (f_ga _) canon_lga (f_gattr _) ?k3 ?k4 ?k5 ?k6 ?_; (case k1 => k_in); (case k2 => k_inst); (case k3 => k_is); (case k4 => k_is); (case k5 => rfl); (case k6 => rfl); k_whole)))
local macro_rules | `(tactic| walk_at "call type:range") => `(tactic| (k_here; k_dflt (first | refine rng1 (by k_asm) (by k_asm) ⟨id, rfl⟩ | refine rng2 (by k_asm) (by k_asm) ⟨id, rfl⟩)))
local macro_rules | `(tactic| walk_at "call builtin:len") => `(tactic| (k_here; k_dflt (refine' len_any ?k1 ?k2 ?_; (case k1 => first | exact News.isList (by k_asm) (by k_mem) | exact Fr.lst (by assumption) (by assumption)); (case k2 => omega); k_whole); intro t' tk'))
local macro_rules | `(tactic| walk_at "exec For Name Call cons nil") => `(tactic| refine Stop.of ?_)
local macro_rules | `(tactic| walk_at "exec For Name Call") => `(tactic| refine Stop.of ?_)
local macro_rules | `(tactic| walk_at "exec For Name Name cons nil") => `(tactic| refine Stop.of ?_)
local macro_rules | `(tactic| walk_at "exec For Name Name") => `(tactic| refine Stop.of ?_)
local macro_rules | `(tactic| walk_at "exec While Compare") => `(tactic| refine Stop.of ?_)
local macro_rules | `(tactic| walk_at "exec While BoolOp") => `(tactic| refine Stop.of ?_)
local macro_rules | `(tactic| walk_at "exec For") => `(tactic| refine Stop.of ?_)
local macro_rules | `(tactic| walk_at "exec While") => `(tactic| refine Stop.of ?_)
local macro_rules | `(tactic| walk_at "loadName") => `(tactic| (k_here; k_dflt (refine' ldn ?k1 ?k2 ?_; (case k1 => k_asm); (case k2 => first | exact rfl | assumption); k_whole)))
local macro_rules | `(tactic| walk_at "eval Name") => `(tactic| (k_here; k_dflt (refine' ld ?k1 ?k2 ?_; (case k1 => k_asm); (case k2 => first | exact rfl | assumption); k_whole)))
local macro_rules | `(tactic| walk_at "compareOp Eq ref ref") => `(tactic| (k_here; k_dflt (refine' ke_eq_ints ?a ?b ?c ?d ?e ?_; (case a => first | exact Fr.lst (by k_asm) (by k_asm) | exact News.isList (by k_asm) (by k_mem)); (case b => first | exact Fr.lst (by k_asm) (by k_asm) | exact News.isList (by k_asm) (by k_mem)); (case c => first | exact IntsAre.nil | assumption); (case d => first | exact IntsAre.nil | assumption); (case e => ktr_units); k_whole)))
local macro_rules | `(tactic| walk_at "compareOp NotEq ref ref") => `(tactic| (k_here; k_dflt (refine' ke_ne_ints ?a ?b ?c ?d ?e ?_; (case a => first | exact Fr.lst (by k_asm) (by k_asm) | exact News.isList (by k_asm) (by k_mem)); (case b => first | exact Fr.lst (by k_asm) (by k_asm) | exact News.isList (by k_asm) (by k_mem)); (case c => first | exact IntsAre.nil | assumption); (case d => first | exact IntsAre.nil | assumption); (case e => ktr_units); k_whole)))
local macro_rules | `(tactic| walk_at "getMethod ref") => `(tactic| (k_here; k_dflt (refine' getMethod_list_of PySem.F.slot_list_index PySem.F.type_list_index (Fr.lst ?a ?b) (Heap.NoDictAt.keeps ?c ?d) ?_; (case a => k_asm); (case b => k_asm); (case c => exact Fr.keep (by k_asm)); (case d => assumption))))
local macro_rules | `(tactic| walk_at "call builtin:max") => `(tactic| (k_here; k_dflt (refine' kso_max ?k1 ?k2 (Fr.lst ?k3 ?k7) ?k4 ?k5 ?k6 ?_; (case k1 => k_asm); (case k2 => k_asm); (case k3 => k_asm); (case k7 => k_asm); (case k4 => k_asm); (case k5 => assumption); (case k6 => rfl)); intro hM M' tM tkM FM NM hM1 hM2; (try k_sweep)))
theorem not63 (w : World) : (wk.heap_39 w.params).lookup 63 = none := by kernel_rfl
theorem ns_hide {h : Heap} {a : Addr} {m : Str → Option Value} (x : h.Ns a m) (ha : a ≠ 63) : (hideAll h [63]).Ns a m := by
  obtain ⟨o, es, ep, e, r⟩ := x
  exact ⟨o, es, ep, hideAll_get _ e (by simpa using ha), r⟩
/-- a program of no defs: what the contracts ask of the top -/
def emptyOf (p : Program) : Program := { p with main := { p.main with body := [] } }
theorem top_hide {p : Program} {loose : List Str} {mean : ExcName → Option Value} {mg mb : Str → Option Value} {h : Heap} (T : Top p loose mean mg mb h) (h63 : h.get? 63 = some (tabObj #[])) (hs : h.NoSeer) :
    Top (emptyOf p) (loose ++ ((recsOf p).map (·.name) ++ ((litsOf p).map (·.1) ++ (clssOf p loose).map (·.name)))) mean mg mb (hideAll h [63]) where
  g := ns_hide T.g (by decide)
  b := ns_hide T.b (by decide)
  nolimit := let ⟨mc, h1, h2⟩ := T.nolimit; ⟨mc, ns_hide h1 (by decide), h2⟩
  nodigits := let ⟨mc, h1, h2⟩ := T.nodigits; ⟨mc, ns_hide h1 (by decide), h2⟩
  fn := fun d hd => (List.not_mem_nil hd).elim
  own := fun d hd => (List.not_mem_nil hd).elim
  const := fun x d e => by cases e
  free := fun x h1 h2 _ _ _ => by
    simp only [List.mem_append, not_or] at h2
    exact T.free x h1 h2.1 h2.2.1 h2.2.2.1 h2.2.2.2
  builtins := T.builtins
  tab := fun d hd => (List.not_mem_nil hd).elim
  bmain := by
    obtain ⟨bm, ob, h1, h2, h3, h4, r⟩ := T.bmain
    refine ⟨bm, ob, h1, h2, hideAll_get _ h3 ?_, h4, r⟩
    simp only [List.mem_singleton]
    intro q
    rw [q, h63] at h3
    cases h3
    cases h4
  seer := fun _ => by
    obtain ⟨mc, a1, a2⟩ := hs.statics
    obtain ⟨mm, b1, b2⟩ := hs.mods
    obtain ⟨mb, c1, c2⟩ := hs.imp
    obtain ⟨mg, bm, ob, d1, d2, d3, d4, d5⟩ := hs.main
    refine ⟨⟨mc, ns_hide a1 (by decide), a2⟩, ⟨mm, ns_hide b1 (by decide), b2⟩, ⟨mb, ns_hide c1 (by decide), c2⟩, ⟨mg, bm, ob, ns_hide d1 (by decide), d2, hideAll_get _ d3 ?_, d4, d5⟩⟩
    simp only [List.mem_singleton]
    intro q
    rw [q, h63] at d3
    cases d3
    cases d4
def LawEnd (s₁ : Shared) (g : Heap) (L : Addr) (f : Flow) (s' : Shared) : Prop := f = .ret (.bool true) ∧ ∃ m ps, Fr g L s'.heap m ∧ s'.heap.get? 63 = some (tabObj ps) ∧ Side s₁ s'
theorem post_true (l : OpenLaw) (args ds : List WData) : l.row.claim.post args (ofPy (.bool true)) ds = true := by
  with_unfolding_all rfl
local macro_rules | `(tactic| walk_at "call ref") => `(tactic| refine Stop.of ?_)
theorem law_holds : PySem.Challenge.rw_dw5001_01.Holds := by
  refine Mine.hd ?_
  k_fill
  intro w s₀ s₁ mg mb G Y fa o pm cd doc dV kV ho hd hcd hD hmg hg args vals as hpre hlay hrd hwl hlo
  have KX := km_in_of Y
  have KT := km_tabs_of Y 63 (.head _)
  have ht67 := tab67 KX KT
  lgec_behind G ho hd hcd hD hmg hpre hlay hrd hwl hlo cd
  rename Top _ _ _ _ _ _ => T
  rename Fr _ _ _ _ => F
  rename IntsAre _ _ => hI
  rename s₁.heap.IsList _ _ => hL
  rename (PyData.list _).layable0 = true => hlay
  rename ¬ (63 : Int) < _ => h63n
  have T0 := top_hide T KT (T.seer (by decide +kernel))
  rename Below callerA _ _ _ => Bold
  clear Bold
  have B0 : Below callerA (hideAll s₁.heap [63]) [] (hideAll s₁.heap [63]) := below_caller _
  have X0 : (wk.heap_39 w.params).In (hideAll s₁.heap [63]) := fun a o e => hideAll_get _ (KX a o e) (by
    simp only [List.mem_singleton]
    intro q
    rw [q, not63] at e
    cases e)
  have hkeep0 : ∀ b o, b ≠ 63 → s₁.heap.get? b = some o → (hideAll s₁.heap [63]).get? b = some o := fun b o hb e => hideAll_get _ e (by simpa using hb)
  have hl0 := hL
  obtain ⟨ol, hol, hlc, hlr⟩ := hl0
  have hL0 := show (hideAll s₁.heap [63]).IsList _ _ from ⟨ol, hkeep0 _ _ (fun q => by rw [q, KT] at hol; cases hol; cases hlc) hol, hlc, hlr⟩
  have F0 : Fr (hideAll s₁.heap [63]) s₁.heap.objs.size _ _ := ⟨F.ns, fun b o e => F.keep b o (of_hideAll _ e), Nat.le_of_eq (hideAll_size _ _)⟩
  have N0 : News (hideAll s₁.heap [63]) s₁.heap.objs.size _ [(63, tabObj #[])] := News.cons (p := (63, tabObj #[])) ⟨F.keep _ _ KT, Nat.ne_of_lt (Heap.lt_size KT), hideAll_none _ (by simp)⟩ News.nil
  rename LGe.Mark => lgeM
  rename News s₁.heap _ _ _ => Nold
  clear lgeM Nold F KX hL hol hlc hlr ol
  refine wpAny_mono (Q := LawEnd s₁ (hideAll s₁.heap [63]) s₁.heap.objs.size) (E := fun _ _ => False) ?_ ?_ (fun _ _ h => h.elim)
  · generalize hgg : hideAll s₁.heap [63] = g at X0 T0 B0 hL0 F0 N0 hkeep0 ⊢
    clear T
    rename List Int => ns
    have hz : 0 ≤ ns.sum.fmod 4 := Int.fmod_nonneg_of_pos _ (by decide)
    have hz4 : ns.sum.fmod 4 < 4 := Int.fmod_lt_of_pos _ (by decide)
    k_steps
    refine Stop.mk ?_
    rename Fr _ _ _ _ => F4
    rename News _ _ _ _ => N4
    rename IntsAre _ (List.take 12 ns) => hI4
    refine m_ranks w B0 F4 X0 T0 rfl (News.isList N4 (by k_mem)) hI4 (by rw [List.length_take]; omega) ?_ ?_ ?_
    · ktr_room
    · ktr_units
    intro s2 lo vo no rk kk hS2 hfr hlo hvo hrl hrk
    have F5 := Kept.fr kk F4
    have N5 := fresh_in F4 hfr hlo (Kept.news kk N4)
    have n5 := fresh_ne N4 hfr
    simp only [AllNe, and_true] at n5
    have hrk12 : ∀ r ∈ rk, r < 12 := fun r hr => by
      have := hrk r hr
      rw [List.length_take] at this
      omega
    have hrl12 : rk.length ≤ 12 := by rw [hrl, List.length_take]; omega
    have hvol : vo.length = rk.length := by rw [ints_len hvo, List.length_map]
    obtain ⟨hp2, gs2, dr2, tk2, os2⟩ := s2
    dsimp only at *
    clear F4 N4 kk hfr hlo hI4
    k_steps
    refine Stop.mk ?_
    rename Fr _ _ _ _ => F6
    rename News _ _ _ _ => N6
    refine m_pass w B0 F6 X0 T0 rfl (News.cons (N6 (63, _) (by k_mem)) News.nil) (by trivial) (News.isList (a := lo) N6 (by k_mem)) hvo hrk12 hrl12 hz hz4 ?_ ?_ ?_
    · ktr_room
    · ktr_units
    intro s3 l3 ps3 v3 n3 hS3 k63 h63 htr3 hfr hlo hv3
    obtain ⟨F7, N7⟩ := after_mut F6 N6 (by k_updF) k63 h63
    (try dsimp only at N7)
    have N8 := fresh_in F6 hfr hlo N7
    have n8 := fresh_ne N6 hfr
    simp only [AllNe, and_true] at n8
    obtain ⟨hp3, gs3, dr3, tk3, os3⟩ := s3
    dsimp only at *
    clear F6 N6 N7 k63 h63 hfr hlo
    have hlz : (zs rk).length = rk.length := List.length_map ..
    k_steps
    refine Stop.mk ?_
    rename Fr _ _ _ _ => F9
    rename News _ _ _ _ => N9
    refine m_westC w 13 B0 F9 X0 T0 rfl (N9 (lo, listOf (List.toArray vo) no) (by k_mem)).1 hvo hrk12 hrl12 (by omega) ?_ ?_ ?_
    · ktr_room
    · ktr_units
    intro l4 h4 tk4 v4 n4 rw4 kk hfr hlo hv4 hW
    have hW4 := west_pass hW
    have F10 := Kept.fr kk F9
    have N10 := fresh_in F9 hfr hlo (Kept.news kk N9)
    have n10 := fresh_ne N9 hfr
    simp only [AllNe, and_true] at n10
    subst hW4
    clear F9 N9 kk hfr hlo hW
    k_steps
    rotate_left
    · exfalso
      rename ¬ _ = zs _ => hq
      exact hq rfl
    refine Stop.mk ?_
    rename Fr _ _ _ _ => F11
    rename News _ _ _ _ => N11
    rename List.Perm _ (zs rk) => hwp
    rename List.Pairwise _ _ => hwo
    refine m_three w B0 F11 X0 T0 rfl (News.isList (a := lo) N11 (by k_mem)) hvo hrk12 hrl12 ?_ ?_ ?_
    · ktr_room
    · ktr_units
    intro s5 b kk hS5 hb
    have F12 := Kept.fr kk F11
    have N12 := Kept.news kk N11
    obtain ⟨hp5, gs5, dr5, tk5, os5⟩ := s5
    dsimp only at *
    clear F11 N11 kk
    have hone := is_want hwp hwo (passF_perm rk)
    have hthree := law_three rk
    k_steps
    · exfalso
      rename (_ == b) = true => hq
      have hq2 := beq_iff_eq.mp hq
      by_cases hr : Rising (passF rk)
      · have hb0 : b = true := hq2 ▸ decide_eq_true (hone.mpr hr)
        exact hthree.mp hr (hb.mp hb0)
      · have hb0 : b = true := hb.mpr (Classical.not_not.mp fun h => hr (hthree.mpr h))
        exact hr (hone.mp (of_decide_eq_true (hq2.trans hb0)))
    refine Stop.mk ?_
    rename Fr _ _ _ _ => F13
    rename News _ _ _ _ => N13
    obtain ⟨k, hk1, hk2, hk3⟩ := law_passes rk
    refine m_passes w B0 F13 X0 T0 rfl (News.cons (N13 (63, _) (by k_mem)) News.nil) htr3 (News.isList (a := lo) N13 (by k_mem)) hvo hrk12 hrl12 hz hz4 ?_ ?_ hk2 hk3 (by omega) ?_
    · ktr_room
    · ktr_units
    intro s6 t6 ps6 hS6 k63 h63 htr6
    obtain ⟨F14, N14⟩ := after_mut F13 N13 (by k_updF) k63 h63
    (try dsimp only at N14)
    obtain ⟨hp6, gs6, dr6, tk6, os6⟩ := s6
    dsimp only at *
    clear F13 N13 k63 h63
    have hm0 : 0 ≤ ns.sum.fmod 9 := Int.fmod_nonneg_of_pos _ (by decide)
    have hm9 : ns.sum.fmod 9 < 9 := Int.fmod_lt_of_pos _ (by decide)
    obtain ⟨M, hM⟩ : ∃ M : Nat, 2 + ns.sum.fmod 9 = (M : Int) := ⟨(2 + ns.sum.fmod 9).toNat, by omega⟩
    have hM2 : 2 ≤ M := by omega
    have hM11 : M < 11 := by omega
    k_steps
    refine Stop.mk ?_
    rename Fr _ _ _ _ => F15
    rename News _ _ _ _ => N15
    rename IntsAre _ (rangeKs _ _ ++ _) => hI15
    rw [hM] at F15
    rw [hM, made_zs M hM2] at hI15
    obtain ⟨hmk1, hmk2⟩ := law_made M hM2 hM11
    refine m_passes w B0 F15 X0 T0 rfl (News.cons (N15 (63, _) (by k_mem)) News.nil) htr6 (News.isList N15 (by k_mem)) hI15 (made_low hM11) (by rw [made_len hM2]; omega) hz hz4 ?_ ?_ hmk1 hmk2 (by rw [made_len hM2]; omega) ?_
    · ktr_room
    · ktr_units
    intro s7 t7 ps7 hS7 k63 h63 htr7
    obtain ⟨F16, N16⟩ := after_mut F15 N15 (by k_updF) k63 h63
    (try dsimp only at N16)
    obtain ⟨hp7, gs7, dr7, tk7, os7⟩ := s7
    dsimp only at *
    clear F15 N15 k63 h63
    k_steps
    refine ⟨?_, _, ps7, F16, (N16 (63, _) (by k_mem)).1, Side.trans ⟨hS2.1, hS2.2⟩ (Side.trans ⟨hS3.1, hS3.2⟩ (Side.trans ⟨hS5.1, hS5.2⟩ (Side.trans ⟨hS6.1, hS6.2⟩ ⟨hS7.1, hS7.2⟩)))⟩
    have e : ((M - 1 : Nat) : Int) = (M : Int) - 1 := by omega
    rw [e, beq_self_eq_true]
  · intro f s' h
    obtain ⟨rfl, m, ps, Fe, h63, hS⟩ := h
    refine ⟨.inl ⟨.bool true, ofPy (.bool true), [], rfl, fun _ => rfl, readsW_of_reads (Reads.bool true), post_true _ _ _, fun _ => ⟨List.nodup_nil, fun a ha => (List.not_mem_nil ha).elim⟩⟩, ⟨fun b o e => ?_, fun b o e => ?_⟩, hS.2, hS.1 (.of_eq hg)⟩
    · by_cases hb : b = 63
      · subst hb
        have eo : o = tabObj #[] := Option.some.inj (e.symm.trans KT)
        subst eo
        refine .inr (.inl ⟨ht67.isCodeTable, rfl, #[], ps, rfl, ?_⟩)
        rw [h63, Array.empty_append]
      · exact .inl (Fe.keep _ _ (hkeep0 b o hb e))
    · by_cases hb : b = 63
      · exact ⟨_, hb ▸ h63⟩
      · exact ⟨_, Fe.keep _ _ (hkeep0 b o hb e)⟩
end Mine
end
theorem PySem.Challenge.cw_dw5001_01_holds : PySem.Challenge.rw_dw5001_01.Holds := by
  exact Mine.law_holds
