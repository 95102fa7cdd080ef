import PyProof.Rows.All
import Wide.All
import OpenK.AllK
import Wide.FinOn
import PySem.Challenge.RW_bm0035_01
set_option Elab.async false
section
open PySem PySem.W PyProof.Rows
set_option maxRecDepth 100000
set_option maxHeartbeats 8000000
namespace Mine
open_top hd for PySem.Challenge.rw_bm0035_01
end Mine
end
section
open PySem PySem.W PySem.Calls PySem.Spec PyProof.Rows
set_option maxRecDepth 100000
namespace Mine

/-- the surroundings of a call made in a def's frame -/
abbrev Ar (dp un : Nat) (gd : Option (List Code)) (env : Env) (outer : List Env) : Around := { handled := none, depth := dp, frames := some (env :: outer), guards := gd, units := un }

/-- into a def's body, the heap at the call as the ground, nothing on the ledger -/
theorem enter0 {prog : Program} {w : World} {A₀ A : Around} {s : Shared} {base h₀ : Heap} {outer : List Env} {L : Addr} {m mg mb : Str → Option Value} {env : Env} {K : Frag} {p : Program} {loose : List Str} {mean : ExcName → Option Value}
  {E Q : Value → Shared → Prop} {name qual : Str} {params : Arguments} {body : List Stmt} {scope : Scope} {dV kV doc pm cdv ct oc : Value} {an od : Option Addr} {osl : Array (Option Value)} {f : Addr} {args : List Value} {binds : List (Str × Value)}
    (B : Below A₀ base outer h₀) (F : Fr h₀ L s.heap m) (X₀ : K.In h₀) (T : Top p loose mean mg mb h₀) (hA : A.frames = some (env :: outer)) (hf : env.frame = some L) (hke : env.scope.kind = .function)
    (ho : K.lookup f = some ⟨oc, od, .func (fnOf name qual params body scope dV kV doc pm an cdv ct), osl⟩) (hcd : codeIn K cdv qual = true) (hroom : A.depth < recursionLimit)
    (hbind : BindsTo s (fnOf name qual params body scope dV kV doc pm an cdv ct) ⟨args, []⟩ binds) (hloc : ∀ y ∈ binds, scope.names.lookup y.1 = some .local)
    (h : ∀ h₁, Fr s.heap s.heap.objs.size h₁ (fun y => binds.reverse.lookup y) → News s.heap s.heap.objs.size h₁ [] → Below A base (env :: outer) s.heap → K.In s.heap → Top p loose mean mg mb s.heap →
      wpAny (model prog w) (A.deeper (envOf qual scope s.heap.objs.size f cdv)) (execs body (envOf qual scope s.heap.objs.size f cdv))
        (fun fl s' => Q (match fl with | .ret v => v | _ => .none) s')
        (fun e s' => wpAny (model prog w) (A.deeper (envOf qual scope s.heap.objs.size f cdv)) (leaving (envOf qual scope s.heap.objs.size f cdv) e) (fun _ s'' => E e s'') (fun e' s'' => E e' s'') s')
        { s with heap := h₁, toks := s.toks + binds.length })
    (hco : scope.isCoroutine = false) (hgen : scope.isGenerator = false) (hk : scope.kind = .function)
    (hcell : ∀ x ∈ scope.names, x.2 ≠ .cell) : wpAny (model prog w) A (call (.ref f) args) Q E s := by
  have B₁ := pushX B F hf hke
  refine wpAny_call (codeAny_call_def (fd := fnOf name qual params body scope dV kV doc pm an cdv ct) (body := body) (binds := binds) hroom ((X₀.keeps F.keep) _ _ ho) rfl (T.nolimit.keeps F.keep) (codeRec_of (X₀.keeps F.keep) hcd) rfl hbind hcell hloc (fun h₁ hns hk₁ => ?_) hco hgen hk)
  exact h h₁ ⟨hns, fun b o e => hk₁ b o e, Nat.le_refl _⟩ News.nil ⟨hA, B₁.stays, B₁.frames⟩ (X₀.keeps F.keep) (T.keeps F.keep)

end Mine
end
section
open PySem PySem.W PySem.Calls PySem.Spec PyProof.Rows
set_option maxRecDepth 100000
namespace Mine
/-- into __init__ of a class that is called: the heap at the call as the ground, the new object and its dict on the ledger -/
theorem enter_make {prog : Program} {w : World} {A₀ A : Around} {s : Shared} {base h₀ : Heap} {outer : List Env} {L : Addr} {m mg mb : Str → Option Value} {env : Env} {K : Frag} {p : Program} {loose : List Str} {mean : ExcName → Option Value}
  {E Q : Value → Shared → Prop} {name qual : Str} {params : Arguments} {body : List Stmt} {scope : Scope} {dV kV doc pm cdv ct oc : Value} {an od : Option Addr} {osl : Array (Option Value)} {C f : Addr} {args : List Value} (binds : Addr → List (Str × Value))
    (B : Below A₀ base outer h₀) (F : Fr h₀ L s.heap m) (X₀ : K.In h₀) (T : Top p loose mean mg mb h₀) (hA : A.frames = some (env :: outer)) (hf : env.frame = some L) (hke : env.scope.kind = .function)
    (hm : makesIn K C = true) (hi : findIn K (.ref C) "__init__" = some (some (.ref f))) (hft : isFn K (.ref f) = true)
    (ho : K.lookup f = some ⟨oc, od, .func (fnOf name qual params body scope dV kV doc pm an cdv ct), osl⟩) (hcd : codeIn K cdv qual = true) (hroom : (A.under (.builtin "type.__call__" ⟨.ref C :: args, []⟩)).depth < recursionLimit)
    (hbind : ∀ x s, BindsTo s (fnOf name qual params body scope dV kV doc pm an cdv ct) ⟨.ref x :: args, []⟩ (binds x)) (hloc : ∀ x, ∀ y ∈ binds x, scope.names.lookup y.1 = some .local)
    (h : ∀ x dx L' h₁ tk, dx < x → x < L' → Fr s.heap L' h₁ (fun y => (binds x).reverse.lookup y) → News s.heap L' h₁ [(x, instObj C dx), (dx, dictOf [] 0)] → Below A base (env :: outer) s.heap → K.In s.heap → Top p loose mean mg mb s.heap →
      wpAny (model prog w) ((A.under (.builtin "type.__call__" ⟨.ref C :: args, []⟩)).deeper (envOf qual scope L' f cdv)) (execs body (envOf qual scope L' f cdv))
        (fun fl s' => InitBack x (fun r s' => match r with | .ok (.ret v) => Q v s' | .ok _ => False | .error e => E e s') (.ok (.ret (match fl with | .ret v => v | _ => .none))) s')
        (fun e s' => wpAny (model prog w) ((A.under (.builtin "type.__call__" ⟨.ref C :: args, []⟩)).deeper (envOf qual scope L' f cdv)) (leaving (envOf qual scope L' f cdv) e) (fun _ s'' => E e s'') (fun e' s'' => E e' s'') s')
        { s with heap := h₁, toks := tk })
    (hco : scope.isCoroutine = false) (hgen : scope.isGenerator = false) (hk : scope.kind = .function)
    (hcell : ∀ x ∈ scope.names, x.2 ≠ .cell) : wpAny (model prog w) A (call (.ref C) args) Q E s := by
  have B₁ := pushX B F hf hke
  have X := X₀.keeps F.keep
  have T₁ := T.keeps F.keep
  obtain ⟨hh, gg, d, t, os⟩ := s
  refine wpAny_call (make_core (makes_of X hm) (looks_findIn X hi) (fun self => bind_fn X self (beq_iff_eq.mp hft)) (.inl rfl) ?_)
  have k : ∀ b o, hh.get? b = some o → ((hh.push emptyDict).push (instObj C hh.objs.size)).get? b = some o := fun b o e => Heap.get?_push_of_some _ (Heap.get?_push_of_some _ e)
  have hz : ((hh.push emptyDict).push (instObj C hh.objs.size)).objs.size = hh.objs.size + 2 := by rw [Heap.size_push, Heap.size_push]
  have gx : ((hh.push emptyDict).push (instObj C hh.objs.size)).get? (hh.objs.size + 1) = some (instObj C hh.objs.size) := by heap_get
  have gd : ((hh.push emptyDict).push (instObj C hh.objs.size)).get? hh.objs.size = some emptyDict := Heap.get?_push_of_some _ (Heap.get?_push_size _ rfl)
  refine codeAny_call_def (fd := fnOf name qual params body scope dV kV doc pm an cdv ct) (body := body) (binds := binds (hh.objs.size + 1)) hroom (k _ _ (X _ _ ho)) rfl (T₁.nolimit.keeps k) (codeRec_of (X.keeps k) hcd) rfl (hbind _ _) hcell (hloc _) (fun h₁ hns hk₁ => ?_) hco hgen hk
  refine h (hh.objs.size + 1) hh.objs.size _ h₁ _ (Nat.lt_succ_self _) (by rw [hz]; exact Nat.lt_succ_self _) ⟨hns, fun b o e => hk₁ b o (k b o e), by rw [hz]; exact Nat.le_add_right _ _⟩ ?_ ⟨hA, B₁.stays, B₁.frames⟩ X T₁
  intro p hp
  simp only [List.mem_cons, List.not_mem_nil, or_false] at hp
  rcases hp with rfl | rfl
  · exact ⟨hk₁ _ _ gx, by show hh.objs.size + 1 ≠ _; rw [hz]; exact Nat.ne_of_lt (Nat.lt_succ_self _), Heap.get?_none_of_le (Nat.le_succ _)⟩
  · exact ⟨hk₁ _ _ gd, by show hh.objs.size ≠ _; rw [hz]; exact Nat.ne_of_lt (Nat.lt_add_of_pos_right (by decide)), Heap.get?_none_of_le (Nat.le_refl _)⟩
end Mine
end
section
open PySem PySem.W PySem.Calls PySem.Spec PyProof.Rows
set_option maxRecDepth 100000
set_option linter.unusedVariables false
namespace Mine
/-- into a def's body, the heap at the call as the ground; the frames below are told, not carried -/
theorem enter0b {prog : Program} {w : World} {A : Around} {s : Shared} {mg mb : Str → Option Value} {K : Frag} {p : Program} {loose : List Str} {mean : ExcName → Option Value}
  {E Q : Value → Shared → Prop} {name qual : Str} {params : Arguments} {body : List Stmt} {scope : Scope} {dV kV doc pm cdv ct oc : Value} {an od : Option Addr} {osl : Array (Option Value)} {f : Addr} {args : List Value} {binds : List (Str × Value)}
    (X₀ : K.In s.heap) (T : Top p loose mean mg mb s.heap)
    (ho : K.lookup f = some ⟨oc, od, .func (fnOf name qual params body scope dV kV doc pm an cdv ct), osl⟩) (hcd : codeIn K cdv qual = true) (hroom : A.depth < recursionLimit)
    (hbind : BindsTo s (fnOf name qual params body scope dV kV doc pm an cdv ct) ⟨args, []⟩ binds) (hloc : ∀ y ∈ binds, scope.names.lookup y.1 = some .local)
    (h : ∀ h₁, Fr s.heap s.heap.objs.size h₁ (fun y => binds.reverse.lookup y) → News s.heap s.heap.objs.size h₁ [] →
      wpAny (model prog w) (A.deeper (envOf qual scope s.heap.objs.size f cdv)) (execs body (envOf qual scope s.heap.objs.size f cdv))
        (fun fl s' => Q (match fl with | .ret v => v | _ => .none) s')
        (fun e s' => wpAny (model prog w) (A.deeper (envOf qual scope s.heap.objs.size f cdv)) (leaving (envOf qual scope s.heap.objs.size f cdv) e) (fun _ s'' => E e s'') (fun e' s'' => E e' s'') s')
        { s with heap := h₁, toks := s.toks + binds.length })
    (hco : scope.isCoroutine = false) (hgen : scope.isGenerator = false) (hk : scope.kind = .function)
    (hcell : ∀ x ∈ scope.names, x.2 ≠ .cell) : wpAny (model prog w) A (call (.ref f) args) Q E s := by
  refine wpAny_call (codeAny_call_def (fd := fnOf name qual params body scope dV kV doc pm an cdv ct) (body := body) (binds := binds) hroom (X₀ _ _ ho) rfl T.nolimit (codeRec_of X₀ hcd) rfl hbind hcell hloc (fun h₁ hns hk₁ => ?_) hco hgen hk)
  exact h h₁ ⟨hns, fun b o e => hk₁ b o e, Nat.le_refl _⟩ News.nil
end Mine
end
section
open PySem PySem.W PySem.Calls PySem.Spec PyProof.Rows
set_option maxRecDepth 100000
set_option linter.unusedVariables false
namespace Mine
/-- into the body of a def with cells, the heap at the call as the ground, the cells on the ledger -/
theorem enter0c {prog : Program} {w : World} {A : Around} {s : Shared} {mg mb : Str → Option Value} {K : Frag} {p : Program} {loose : List Str} {mean : ExcName → Option Value}
  {E Q : Value → Shared → Prop} {name qual : Str} {params : Arguments} {body : List Stmt} {scope : Scope} {dV kV doc pm cdv ct oc : Value} {an od : Option Addr} {osl : Array (Option Value)} {f : Addr} {args : List Value} {binds : List (Str × Value)}
    (X₀ : K.In s.heap) (T : Top p loose mean mg mb s.heap)
    (ho : K.lookup f = some ⟨oc, od, .func (fnOf name qual params body scope dV kV doc pm an cdv ct), osl⟩) (hcd : codeIn K cdv qual = true) (hroom : A.depth < recursionLimit)
    (hbind : BindsTo s (fnOf name qual params body scope dV kV doc pm an cdv ct) ⟨args, []⟩ binds) (hkind : (binds.all fun y => scope.names.lookup y.1 == some .local || scope.names.lookup y.1 == some .cell) = true)
    (hnd : ((cellsFrom 0 scope.names []).map (·.1)).Nodup)
    (h : ∀ h₁ tk cells, Fr s.heap s.heap.objs.size h₁ (bindL (envOfC qual scope s.heap.objs.size f cdv).kindOf binds fun _ => none) → News s.heap s.heap.objs.size h₁ cells →
      CellsAre (bindC (envOfC qual scope s.heap.objs.size f cdv).kindOf binds fun _ => none) (cellsFrom (s.heap.objs.size + 1) scope.names []) cells →
      wpAny (model prog w) (A.deeper (envOfC qual scope s.heap.objs.size f cdv)) (execs body (envOfC qual scope s.heap.objs.size f cdv))
        (fun fl s' => Q (match fl with | .ret v => v | _ => .none) s')
        (fun e s' => wpAny (model prog w) (A.deeper (envOfC qual scope s.heap.objs.size f cdv)) (leaving (envOfC qual scope s.heap.objs.size f cdv) e) (fun _ s'' => E e s'') (fun e' s'' => E e' s'') s')
        { s with heap := h₁, toks := tk })
    (hco : scope.isCoroutine = false) (hgen : scope.isGenerator = false) (hk : scope.kind = .function) : wpAny (model prog w) A (call (.ref f) args) Q E s := by
  refine wpAny_call (codeAny_call_function hroom (X₀ _ _ ho) rfl hco hgen rfl (codeRec_of X₀ hcd) (hbind _ _ _ _ ?_))
  refine wpAny_newFunctionEnv_cells hk (kindsX hkind _) fun env' he s' x => ?_
  subst he
  refine ⟨T.nolimit.keeps x.toInCall.keep, codeAny_func ?_⟩
  obtain ⟨h₁, tk, rfl, _⟩ := x.done
  have hk₁ := x.toInCall.keep
  obtain ⟨cells, NC, Y⟩ := Cl.news (h₀ := s.heap) (Nat.le_refl _) fun n c hm => ⟨x.cell n c (lookup_of_mem_nodup (cellsFrom_names scope.names 0 (s.heap.objs.size + 1) [] [] rfl ▸ hnd) hm), x.above n c hm⟩
  refine wpAny_mono (h h₁ tk cells ⟨x.toInCall.ns, fun b o e => hk₁ b o e, Nat.le_refl _⟩ NC Y) (fun fl s' hl => hl) fun _ _ y => y
end Mine
end
section
open PySem PySem.W PySem.Calls PySem.Spec PyProof.Rows
set_option maxRecDepth 100000
set_option maxHeartbeats 2000000
set_option pp.maxSteps 4000
namespace Mine

def EXPT : List Int := [1, 2, 4, 8, 16, 32, 64, 128, 29, 58, 116, 232, 205, 135, 19, 38, 76, 152, 45, 90, 180, 117, 234, 201, 143, 3, 6, 12, 24, 48, 96, 192, 157, 39, 78, 156, 37, 74, 148, 53, 106, 212, 181, 119, 238, 193, 159, 35, 70, 140, 5, 10, 20, 40, 80, 160, 93, 186, 105, 210, 185, 111, 222, 161, 95, 190, 97, 194, 153, 47, 94, 188, 101, 202, 137, 15, 30, 60, 120, 240, 253, 231, 211, 187, 107, 214, 177, 127, 254, 225, 223, 163, 91, 182, 113, 226, 217, 175, 67, 134, 17, 34, 68, 136, 13, 26, 52, 104, 208, 189, 103, 206, 129, 31, 62, 124, 248, 237, 199, 147, 59, 118, 236, 197, 151, 51, 102, 204, 133, 23, 46, 92, 184, 109, 218, 169, 79, 158, 33, 66, 132, 21, 42, 84, 168, 77, 154, 41, 82, 164, 85, 170, 73, 146, 57, 114, 228, 213, 183, 115, 230, 209, 191, 99, 198, 145, 63, 126, 252, 229, 215, 179, 123, 246, 241, 255, 227, 219, 171, 75, 150, 49, 98, 196, 149, 55, 110, 220, 165, 87, 174, 65, 130, 25, 50, 100, 200, 141, 7, 14, 28, 56, 112, 224, 221, 167, 83, 166, 81, 162, 89, 178, 121, 242, 249, 239, 195, 155, 43, 86, 172, 69, 138, 9, 18, 36, 72, 144, 61, 122, 244, 245, 247, 243, 251, 235, 203, 139, 11, 22, 44, 88, 176, 125, 250, 233, 207, 131, 27, 54, 108, 216, 173, 71, 142, 1]
def LOGT : List Int := [0, 0, 1, 25, 2, 50, 26, 198, 3, 223, 51, 238, 27, 104, 199, 75, 4, 100, 224, 14, 52, 141, 239, 129, 28, 193, 105, 248, 200, 8, 76, 113, 5, 138, 101, 47, 225, 36, 15, 33, 53, 147, 142, 218, 240, 18, 130, 69, 29, 181, 194, 125, 106, 39, 249, 185, 201, 154, 9, 120, 77, 228, 114, 166, 6, 191, 139, 98, 102, 221, 48, 253, 226, 152, 37, 179, 16, 145, 34, 136, 54, 208, 148, 206, 143, 150, 219, 189, 241, 210, 19, 92, 131, 56, 70, 64, 30, 66, 182, 163, 195, 72, 126, 110, 107, 58, 40, 84, 250, 133, 186, 61, 202, 94, 155, 159, 10, 21, 121, 43, 78, 212, 229, 172, 115, 243, 167, 87, 7, 112, 192, 247, 140, 128, 99, 13, 103, 74, 222, 237, 49, 197, 254, 24, 227, 165, 153, 119, 38, 184, 180, 124, 17, 68, 146, 217, 35, 32, 137, 46, 55, 63, 209, 91, 149, 188, 207, 205, 144, 135, 151, 178, 220, 252, 190, 97, 242, 86, 211, 171, 20, 42, 93, 158, 132, 60, 57, 83, 71, 109, 65, 162, 31, 45, 67, 216, 183, 123, 164, 118, 196, 23, 73, 236, 127, 12, 111, 246, 108, 161, 59, 82, 41, 157, 85, 170, 251, 96, 134, 177, 187, 204, 62, 90, 203, 89, 95, 176, 156, 169, 160, 81, 11, 245, 22, 235, 122, 117, 44, 215, 79, 174, 213, 233, 230, 231, 173, 232, 116, 214, 244, 234, 168, 80, 88, 175]
def expF (n : Int) : Int := EXPT.getD (n.fmod 255).toNat 0
def logF (n : Int) : Int := LOGT.getD n.toNat 0
theorem EXPT_len : EXPT.length = 256 := by decide +kernel
theorem LOGT_len : LOGT.length = 256 := by decide +kernel

section
variable {prog : Program} {w : World} {A : Around} {E : Value → Shared → Prop} {s : Shared} {h₀ : Heap} {L a : Addr} {m : Str → Option Value} {K : Frag}
theorem ints_at {vs : List Value} {ns : List Int} {k : Int} (hi : IntsAre vs ns) (h0 : 0 ≤ k) (h1 : k < (ns.length : Int)) : ∃ t, vs[k.toNat]? = some (.int (ns.getD k.toNat 0) t) := by
  obtain ⟨j, rfl⟩ := Int.eq_ofNat_of_zero_le h0
  have hj : j < ns.length := by omega
  obtain ⟨t, ht⟩ := hi.get j ns[j] (by simp [hj])
  refine ⟨t, ?_⟩
  simp only [Int.toNat_natCast]
  rw [ht]
  simp [List.getD, hj]
/-- an item of a top's list of ints, at any place in it -/
theorem topInts {value slice : PySem.Expr} {l : List Value} {ns : List Int} {dd : Option Addr} {sl : Array (Option Value)} {n : Nat} {k : Int} {u : Tok} {Q : Value → Shared → Prop} (F : Fr h₀ L s.heap m) (X₀ : K.In h₀) (hl : K.lookup a = some ⟨.type "list", dd, .seq l.toArray n, sl⟩)
    (hi : IntsAre l ns) (h0 : 0 ≤ k) (h1 : k < (ns.length : Int)) (hhi : k < 2 ^ 63) (h : ∀ t, Q (.int (ns.getD k.toNat 0) t) s)
    (hs : subscripted slice false (.ref a) (.int k u) = operate [.ref a, .int k u] (getItem (.ref a) (.int k u)) := by with_unfolding_all rfl) :
    wpAny (model prog w) A (subscriptTail value slice (.ref a) (.int k u)) Q E s := by
  obtain ⟨t, ht⟩ := ints_at hi h0 h1
  exact topList_K F X₀ hl h0 hhi ht (h t) hs
end

section
variable {w : World} {A₀ : Around} {base h₀ : Heap} {outer : List Env} {L : Addr} {m mg mb : Str → Option Value} {env : Env} {mean : ExcName → Option Value} {dp un : Nat} {gd : Option (List Code)} {s : Shared} {E Q : Value → Shared → Prop} {news : List (Addr × Obj)}

theorem look_exp (P : Params) : PySem.Challenge.rw_bm0035_01.foot = 8 ∧ ∃ l n, (hd.heap_39 P).lookup 15 = some ⟨.type "list", none, .seq l.toArray n, #[]⟩ ∧ IntsAre l EXPT := by
  k_fill
  refine ⟨rfl, _, _, by k_is, ?_⟩
  unfold EXPT
  l_intsW
theorem look_log (P : Params) : PySem.Challenge.rw_bm0035_01.foot = 8 ∧ ∃ l n, (hd.heap_39 P).lookup 16 = some ⟨.type "list", none, .seq l.toArray n, #[]⟩ ∧ IntsAre l LOGT := by
  k_fill
  refine ⟨rfl, _, _, by k_is, ?_⟩
  unfold LOGT
  l_intsW
end
end Mine
end
section
open PySem PySem.W PyProof.Rows
local macro_rules | `(tactic| walk_at "MY none 0") => `(tactic| fail)
local macro_rules | `(tactic| walk_at "MY none 1") => `(tactic| fail)
local macro_rules | `(tactic| walk_at "MY none 2") => `(tactic| fail)
theorem Mine.resetC2 : (1 : Nat) ≤ 2 := by
  w_top off
  first | walk1 | decide
end
section
open PySem PySem.W PySem.Calls PySem.Spec PyProof.Rows
set_option maxRecDepth 100000
set_option maxHeartbeats 2000000
set_option pp.maxSteps 4000
set_option linter.unusedVariables false
namespace Mine
section
variable {w : World} {A₀ : Around} {base h₀ : Heap} {outer : List Env} {L : Addr} {m mg mb : Str → Option Value} {env : Env} {mean : ExcName → Option Value} {dp un : Nat} {gd : Option (List Code)} {s : Shared} {E Q : Value → Shared → Prop} {news : List (Addr × Obj)}

local macro_rules | `(tactic| walk_at "MY pos") => `(tactic| omega)
local macro_rules | `(tactic| walk_at "MY room") => `(tactic| ((try simp only [depth_under_make, depth_under_kw, depth_in1, depth_deeper]); (try dsimp only [Ar, Around.in1, Around.deeper]); omega))
local macro_rules | `(tactic| walk_at "MY units") => `(tactic| ((try simp only [units_in1, units_deeper, units_under_make, Around.mark_units]); (try dsimp only [Ar, Around.in1, Around.deeper]); omega))
local macro_rules | `(tactic| walk_at "MY idx") => `(tactic| first | omega | (simp only [LOGT_len, EXPT_len]; omega))
theorem gexp_ct {n : Int} {t : Tok} (F : Fr h₀ L s.heap m) (N : News h₀ L s.heap news) (X : (hd.heap_39 w.params).In h₀)
    (T : Top hd.view_39 (looseW hd.view_39 [Str.ofString "EXP_TABLE", Str.ofString "LOG_TABLE", Str.ofString "rsPoly_LUT"]) mean mg mb h₀) (hdp : dp + 2 < recursionLimit) (hu : un + 20 < cLine)
    
    (ret : ∀ t' h' tk', Fr h₀ L h' m → News h₀ L h' news → Q (.int (expF n) t') { s with heap := h', toks := tk' }) :
    wpAny (model PySem.Challenge.rw_bm0035_01.prog w) (Ar dp un gd env outer) (call (.ref 30) [.int n t]) Q E s := by
  revert X; k_fill; intro X
  have X' := X.keeps F.keep
  have T' := T.keeps F.keep
  k_dflt (refine' enter0b (binds := [(Str.ofString "n", .int n t)]) X' T' ?ho ?hcd ?hroom ?hbind ?hloc ?_ ?c1 ?c2 ?c3 ?c4)
  case ho => k_is
  case hcd => k_is
  case hroom => walk_at "MY room"
  case hbind => exact BindsTo.of_eq rfl
  case hloc => exact locs rfl
  case c1 => exact rfl
  case c2 => exact rfl
  case c3 => exact rfl
  case c4 => decide
  intro h₁ F' N'
  try dsimp only
  show wpAny _ _ _ _ _ _
  k_fold
  k_steps
  obtain ⟨_, l, nn, hl, hi⟩ := look_exp w.params
  have hb := Int.fmod_nonneg_of_pos n (show (0:Int) < 255 by decide)
  have hb2 := Int.fmod_lt_of_pos n (show (0:Int) < 255 by decide)
  refine topInts F' X' hl hi hb (by rw [EXPT_len]; omega) (by omega) (fun t' => ?_)
  exact ret _ _ _ (F.keeps F'.keep) (N.keeps F'.keep)

end
end Mine
end
section
open PySem PySem.W PyProof.Rows
local macro_rules | `(tactic| walk_at "MY none 0") => `(tactic| fail)
local macro_rules | `(tactic| walk_at "MY none 1") => `(tactic| fail)
local macro_rules | `(tactic| walk_at "MY none 2") => `(tactic| fail)
theorem Mine.resetC3 : (1 : Nat) ≤ 2 := by
  w_top off
  first | walk1 | decide
end
section
open PySem PySem.W PySem.Calls PySem.Spec PyProof.Rows
set_option maxRecDepth 100000
set_option maxHeartbeats 2000000
set_option pp.maxSteps 4000
set_option linter.unusedVariables false
namespace Mine
section
variable {w : World} {A₀ : Around} {base h₀ : Heap} {outer : List Env} {L : Addr} {m mg mb : Str → Option Value} {env : Env} {mean : ExcName → Option Value} {dp un : Nat} {gd : Option (List Code)} {s : Shared} {E Q : Value → Shared → Prop} {news : List (Addr × Obj)}

local macro_rules | `(tactic| walk_at "MY pos") => `(tactic| omega)
local macro_rules | `(tactic| walk_at "MY room") => `(tactic| ((try simp only [depth_under_make, depth_under_kw, depth_in1, depth_deeper]); (try dsimp only [Ar, Around.in1, Around.deeper]); omega))
local macro_rules | `(tactic| walk_at "MY units") => `(tactic| ((try simp only [units_in1, units_deeper, units_under_make, Around.mark_units]); (try dsimp only [Ar, Around.in1, Around.deeper]); omega))
local macro_rules | `(tactic| walk_at "MY idx") => `(tactic| first | omega | (simp only [LOGT_len, EXPT_len]; omega))
theorem glog_ct {n : Int} {t : Tok} (F : Fr h₀ L s.heap m) (N : News h₀ L s.heap news) (X : (hd.heap_39 w.params).In h₀)
    (T : Top hd.view_39 (looseW hd.view_39 [Str.ofString "EXP_TABLE", Str.ofString "LOG_TABLE", Str.ofString "rsPoly_LUT"]) mean mg mb h₀) (hdp : dp + 2 < recursionLimit) (hu : un + 20 < cLine)
    (h1 : 1 ≤ n) (h2 : n ≤ 255)
    (ret : ∀ t' h' tk', Fr h₀ L h' m → News h₀ L h' news → Q (.int (logF n) t') { s with heap := h', toks := tk' }) :
    wpAny (model PySem.Challenge.rw_bm0035_01.prog w) (Ar dp un gd env outer) (call (.ref 23) [.int n t]) Q E s := by
  revert X; k_fill; intro X
  have X' := X.keeps F.keep
  have T' := T.keeps F.keep
  k_dflt (refine' enter0b (binds := [(Str.ofString "n", .int n t)]) X' T' ?ho ?hcd ?hroom ?hbind ?hloc ?_ ?c1 ?c2 ?c3 ?c4)
  case ho => k_is
  case hcd => k_is
  case hroom => walk_at "MY room"
  case hbind => exact BindsTo.of_eq rfl
  case hloc => exact locs rfl
  case c1 => exact rfl
  case c2 => exact rfl
  case c3 => exact rfl
  case c4 => decide
  intro h₁ F' N'
  try dsimp only
  show wpAny _ _ _ _ _ _
  k_fold
  k_steps
  obtain ⟨_, l, nn, hl, hi⟩ := look_log w.params
  refine topInts F' X' hl hi (by omega) (by rw [LOGT_len]; omega) (by omega) (fun t' => ?_)
  exact ret _ _ _ (F.keeps F'.keep) (N.keeps F'.keep)

end
end Mine
end
section
open PySem PySem.W PyProof.Rows
local macro_rules | `(tactic| walk_at "MY none 0") => `(tactic| fail)
local macro_rules | `(tactic| walk_at "MY none 1") => `(tactic| fail)
local macro_rules | `(tactic| walk_at "MY none 2") => `(tactic| fail)
theorem Mine.resetC4 : (1 : Nat) ≤ 2 := by
  w_top off
  first | walk1 | decide
end
section
open PySem PySem.W PySem.Calls PySem.Spec PyProof.Rows
set_option maxRecDepth 100000
set_option maxHeartbeats 2000000
set_option pp.maxSteps 4000
set_option linter.unusedVariables false
namespace Mine
section
variable {w : World} {A₀ : Around} {base h₀ : Heap} {outer : List Env} {L : Addr} {m mg mb : Str → Option Value} {env : Env} {mean : ExcName → Option Value} {dp un : Nat} {gd : Option (List Code)} {s : Shared} {E Q : Value → Shared → Prop} {news : List (Addr × Obj)}

def POWT : List Int := EXPT.take 255
theorem POWT_len : POWT.length = 255 := by decide +kernel
/-- the field: a tuple of the powers' list and the logarithms' list -/
structure IsField (h : Heap) (fa : Addr) : Prop where
  ex : ∃ (pa la : Addr) (vs ws : List Value), IsTup h fa [Value.ref pa, Value.ref la].toArray ∧ h.IsList pa vs.toArray ∧ IntsAre vs POWT ∧ h.IsList la ws.toArray ∧ IntsAre ws LOGT
theorem IsField.keeps {h h' : Heap} {fa : Addr} (x : IsField h fa) (k : h.StaysIn h') : IsField h' fa :=
  let ⟨pa, la, vs, ws, a, b, c, d, e⟩ := x.ex; ⟨pa, la, vs, ws, stays_tup k a, stays_list k b, c, stays_list k d, e⟩
def timesF (one two : Int) : Int := if one = 0 ∨ two = 0 then 0 else POWT.getD ((logF one + logF two).fmod 255).toNat 0
theorem item_ints {prog : Program} {w : World} {A : Around} {E : Value → Shared → Prop} {s : Shared} {value slice : PySem.Expr} {l : Addr} {vs : List Value} {ns : List Int} {k : Int} {u : Tok} {Q : Value → Shared → Prop} (hl : s.heap.IsList l vs.toArray)
    (hi : IntsAre vs ns) (h0 : 0 ≤ k) (h1 : k < (ns.length : Int)) (hhi : k < 2 ^ 63) (h : ∀ t, Q (.int (ns.getD k.toNat 0) t) s)
    (hs : subscripted slice false (.ref l) (.int k u) = operate [.ref l, .int k u] (getItem (.ref l) (.int k u)) := by with_unfolding_all rfl) :
    wpAny (model prog w) A (subscriptTail value slice (.ref l) (.int k u)) Q E s := by
  obtain ⟨t, ht⟩ := ints_at hi h0 h1
  exact tail_any hl.typeIs slot_list_getitem.lookup (wpAny_getItem_list hl h0 hhi (by simpa using ht) (h t)) hs

local macro_rules | `(tactic| walk_at "MY pos") => `(tactic| omega)
local macro_rules | `(tactic| walk_at "MY room") => `(tactic| ((try simp only [depth_under_make, depth_under_kw, depth_in1, depth_deeper]); (try dsimp only [Ar, Around.in1, Around.deeper]); omega))
local macro_rules | `(tactic| walk_at "MY units") => `(tactic| ((try simp only [units_in1, units_deeper, units_under_make, Around.mark_units]); (try dsimp only [Ar, Around.in1, Around.deeper]); omega))
local macro_rules | `(tactic| walk_at "MY idx") => `(tactic| first | omega | (simp only [POWT_len, LOGT_len, EXPT_len]; omega))
local macro_rules | `(tactic| walk_at "subscriptTail Subscript") => `(tactic| (k_here; (with_reducible show wpAny _ _ (subscriptTail _ _ (Value.ref _) (Value.int _ _)) _ _ _); k_dflt (refine' item_ints ?k1 ?k2 ?k3 ?k4 ?k5 ?_; (case k1 => is_list); (case k2 => assumption); (case k3 => walk_at "MY idx"); (case k4 => walk_at "MY idx"); (case k5 => walk_at "MY idx"); k_whole); intro t9))
local macro_rules | `(tactic| walk_at "subscriptTail Name") => `(tactic| (k_here; (with_reducible show wpAny _ _ (subscriptTail _ _ (Value.ref _) (Value.int _ _)) _ _ _); k_dflt (refine' item_ints ?k1 ?k2 ?k3 ?k4 ?k5 ?_; (case k1 => is_list); (case k2 => assumption); (case k3 => walk_at "MY idx"); (case k4 => walk_at "MY idx"); (case k5 => walk_at "MY idx"); k_whole); intro t9))
theorem times_ct {one two : Int} {t u : Tok} {fa : Addr} (F : Fr h₀ L s.heap m) (N : News h₀ L s.heap news) (X : (hd.heap_39 w.params).In h₀)
    (T : Top hd.view_39 (looseW hd.view_39 [Str.ofString "EXP_TABLE", Str.ofString "LOG_TABLE", Str.ofString "rsPoly_LUT"]) mean mg mb h₀) (hdp : dp + 2 < recursionLimit) (hu : un + 20 < cLine)
    (hF : IsField s.heap fa) (h1 : 0 ≤ one) (h2 : one ≤ 255) (h3 : 0 ≤ two) (h4 : two ≤ 255)
    (ret : ∀ r t' h' tk', r = timesF one two → Fr h₀ L h' m → News h₀ L h' news → Q (.int r t') { s with heap := h', toks := tk' }) :
    wpAny (model PySem.Challenge.rw_bm0035_01.prog w) (Ar dp un gd env outer) (call (.ref 112) [.ref fa, .int one t, .int two u]) Q E s := by
  obtain ⟨pa, la, vs, ws, hft, hpl, hpi, hll, hli⟩ := hF.ex
  have hm1 := Int.fmod_nonneg_of_pos (logF one + logF two) (show (0:Int) < 255 by decide)
  have hm2 := Int.fmod_lt_of_pos (logF one + logF two) (show (0:Int) < 255 by decide)
  unfold logF at hm1 hm2
  revert X; k_fill; intro X
  have X' := X.keeps F.keep
  have T' := T.keeps F.keep
  k_dflt (refine' enter0b (binds := [(Str.ofString "field", .ref fa), (Str.ofString "one", .int one t), (Str.ofString "two", .int two u)]) X' T' ?ho ?hcd ?hroom ?hbind ?hloc ?_ ?c1 ?c2 ?c3 ?c4)
  case ho => k_is
  case hcd => k_is
  case hroom => walk_at "MY room"
  case hbind => exact BindsTo.of_eq rfl
  case hloc => exact locs rfl
  case c1 => exact rfl
  case c2 => exact rfl
  case c3 => exact rfl
  case c4 => decide
  intro h₁ F' N'
  try dsimp only
  show wpAny _ _ _ _ _ _
  k_fold
  k_steps
  · exact ret _ _ _ _ (by unfold timesF; rw [if_pos (Or.inl (by assumption))]) (F.keeps F'.keep) (N.keeps F'.keep)
  · exact ret _ _ _ _ (by unfold timesF; rw [if_pos (Or.inr (by assumption))]) (F.keeps F'.keep) (N.keeps F'.keep)
  · refine ret _ _ _ _ ?_ (F.keeps F'.keep) (N.keeps F'.keep)
    unfold timesF
    rw [if_neg (by rintro (h | h) <;> contradiction)]
    rfl

end
end Mine
end
section
open PySem PySem.W PySem.Calls PySem.Spec PyProof.Rows
set_option maxRecDepth 100000
namespace Mine
/-- what a loop's own objects are -/
def OwnIn (own : List (Addr × Obj)) (fp : List Addr) : Prop := ∀ p ∈ own, p.1 ∈ fp
theorem OwnIn.off {own : List (Addr × Obj)} {fp adr : List Addr} (h : OwnIn own fp) (hd : ∀ b ∈ adr, b ∉ fp) : OwnOff own adr := fun p hp b hb e => hd b hb (e ▸ h p hp)

section
variable {prog : Program} {w : World} {A : Around} {E : Value → Shared → Prop} {s : Shared} {env : Env} {h₀ : Heap} {m : Str → Option Value} {news : List (Addr × Obj)}

theorem ns_not_list {h : Heap} {L l : Addr} {items : Array Value} (hn : h.Ns L m) (hl : h.IsList l items) : L ≠ l := by
  rintro rfl
  obtain ⟨o, es, ep, ho, hd, _⟩ := hn
  obtain ⟨o', ho', _, n, hd'⟩ := hl
  rw [ho] at ho'; cases ho'
  rw [hd] at hd'; cases hd'

/-- an enumeration of a list, at its start -/
structure EnumAt (h₀ : Heap) (L : Addr) (h : Heap) (news : List (Addr × Obj)) (e it l : Addr) (items : Array Value) : Prop where
  he : IsEnum h e it 0 .none
  hit : h.IsListIter it l 0
  hl : h.IsList l items
  hei : e ≠ it
  hle : l ≠ e
  hli : l ≠ it
  hLe : L ≠ e
  hLi : L ≠ it
  hne : h₀.get? e = none
  hni : h₀.get? it = none
  hfn : ∀ q ∈ news, q.1 ≠ e ∧ q.1 ≠ it

theorem call_enum_any {l L : Addr} {items : Array Value} {Q : Value → Shared → Prop} (F : Fr h₀ L s.heap m) (N : News h₀ L s.heap news) (hl : s.heap.IsList l items)
    (h : ∀ e it h', Fr h₀ L h' m → News h₀ L h' news → EnumAt h₀ L h' news e it l items → Q (.ref e) { s with heap := h' }) :
    wpAny (model prog w) A (call (.type "enumerate") [.ref l]) Q E s := by
  have hL : L < s.heap.objs.size := F.ns.lt
  obtain ⟨ol, hol, _⟩ := id hl
  have hll : l < s.heap.objs.size := Heap.lt_size hol
  have hz : h₀.objs.size ≤ s.heap.objs.size := Nat.le_trans F.above (Nat.le_of_lt hL)
  refine call_enumerate_list hl fun h' he hit hsz hk => ?_
  refine h (s.heap.objs.size + 1) s.heap.objs.size h' (F.keeps hk) (N.keeps hk) ⟨he, hit, hl.at fun o e => hk l o e, Nat.succ_ne_self _, Nat.ne_of_lt (Nat.lt_succ_of_lt hll), Nat.ne_of_lt hll, Nat.ne_of_lt (Nat.lt_succ_of_lt hL), Nat.ne_of_lt hL,
    Heap.get?_none_of_le (Nat.le_succ_of_le hz), Heap.get?_none_of_le hz, fun q hq => ?_⟩
  have := Heap.lt_size (N q hq).1
  exact ⟨Nat.ne_of_lt (Nat.lt_succ_of_lt this), Nat.ne_of_lt this⟩

theorem enum_at0 {e it l : Addr} {items : Array Value} {old : Value} {xi xc : Str} {body : List Stmt} {Q : Flow → Shared → Prop} (J : Nat → (Str → Option Value) → List (Addr × Obj) → Prop)
    (hh : A.handled = none) (he : IsEnum s.heap e it 0 old) (hit : s.heap.IsListIter it l 0) (hl : s.heap.IsList l items) (hei : e ≠ it) (hle : l ≠ e) (hli : l ≠ it)
    (hLe : env.locals ≠ e) (hLi : env.locals ≠ it) (hLl : env.locals ≠ l) (hne : h₀.get? e = none) (hni : h₀.get? it = none) (hfn : ∀ q ∈ news, q.1 ≠ e ∧ q.1 ≠ it)
    (F : Fr h₀ env.locals s.heap m) (N : News h₀ env.locals s.heap news) (h0 : J 0 m news)
    (step : ∀ (i : Nat) v t m₁ nx h tk own, items[i]? = some v → J i m₁ nx → nx.map (·.1) = news.map (·.1) → OwnIn own [e, it, l] →
      Fr h₀ env.locals h (fun y => if y = xc then some v else if y = xi then some (.int i t) else m₁ y) → News h₀ env.locals h (nx ++ own) →
      wpAny (model prog w) A (execs body env) (InvPostN h₀ env.locals (J (i + 1)) own (news.map (·.1)) { s with heap := h, toks := tk } Q) E { s with heap := h, toks := tk })
    (done : ∀ h' tk m' nx, Fr h₀ env.locals h' m' → News h₀ env.locals h' nx → J items.size m' nx → Q .next { s with heap := h', toks := tk }) :
    wpAny (model prog w) A (pyIter (.ref e)) (fun itv s₂ => PairAt3 prog w A h₀ env xi xc body Q E itv s₂) E s := by
  refine wpAny_pyIter_enum he ?_
  refine ⟨e, [e, it, l], [e, it], items.size, _, _, _, (fun i v0 v1 => ∃ t, v0 = .int i t ∧ items[i]? = some v1), m, news, J, rfl, WalksT.enumerate hh e it l hei hle hli items, ?_, ?_, ?_, ?_, ⟨⟨_, by simpa using he⟩, hit, hl⟩, F, N, h0, ?_, ?_⟩
  · rintro i vals ⟨t, x, hx, rfl⟩
    exact ⟨_, _, rfl, t, rfl, hx⟩
  · intro hm
    simp only [List.mem_cons, List.not_mem_nil, or_false] at hm
    rcases hm with h | h | h
    · exact hLe h
    · exact hLi h
    · exact hLl h
  · intro b hb
    simp only [List.mem_cons, List.not_mem_nil, or_false] at hb
    rcases hb with rfl | rfl <;> assumption
  · intro p hp hb
    simp only [List.mem_cons, List.not_mem_nil, or_false] at hb
    rcases hb with h | h
    · exact (hfn p hp).1 h
    · exact (hfn p hp).2 h
  · rintro i v0 v1 m₁ news₁ s₁ own ⟨hh', tk', rfl⟩ _ ⟨t, rfl, hx⟩ hJ ha hown F₁ N₁
    have N₂ : News h₀ env.locals hh' (news₁ ++ own) := fun p hp => N₁ p ((List.mem_append.mp hp).elim (fun h => List.mem_append.mpr (.inr h)) fun h => List.mem_append.mpr (.inl h))
    refine wpAny_mono (step i v1 t m₁ news₁ hh' tk' own hx hJ ha hown F₁ N₂) (fun f s₂ p => ?_) fun _ _ e => e
    have fin : InvEndN h₀ env.locals (J (i + 1)) own (news.map (·.1)) { s with heap := hh', toks := tk' } s₂ → LoopStep2 h₀ env.locals own news₁ (J (i + 1)) { s with heap := hh', toks := tk' } .next s₂ := by
      rintro ⟨h', tk, m', news', nx, e, F', N', hn, ho, ha', hm⟩
      exact ⟨rfl, h', tk, m', nx, e, F', fun p hp => N' p ((List.mem_append.mp hp).elim (ho p) (hn p)), ha'.trans ha.symm, hm⟩
    cases f with
    | ret v => exact p
    | brk => exact p
    | next => exact fin p
    | cont => exact fin p
  · intro h' tk m' news' F' N' _ hJ
    exact done h' tk m' news' F' N' hJ

theorem enum_at {e it l : Addr} {items : Array Value} {xi xc : Str} {body : List Stmt} {Q : Flow → Shared → Prop} (J : Nat → (Str → Option Value) → List (Addr × Obj) → Prop)
    (hh : A.handled = none) (I : EnumAt h₀ env.locals s.heap news e it l items)
    (F : Fr h₀ env.locals s.heap m) (N : News h₀ env.locals s.heap news) (h0 : J 0 m news)
    (step : ∀ (i : Nat) v t m₁ nx h tk own, items[i]? = some v → J i m₁ nx → nx.map (·.1) = news.map (·.1) → OwnIn own [e, it, l] →
      Fr h₀ env.locals h (fun y => if y = xc then some v else if y = xi then some (.int i t) else m₁ y) → News h₀ env.locals h (nx ++ own) →
      wpAny (model prog w) A (execs body env) (InvPostN h₀ env.locals (J (i + 1)) own (news.map (·.1)) { s with heap := h, toks := tk } Q) E { s with heap := h, toks := tk })
    (done : ∀ h' tk m' nx, Fr h₀ env.locals h' m' → News h₀ env.locals h' nx → J items.size m' nx → Q .next { s with heap := h', toks := tk }) :
    wpAny (model prog w) A (pyIter (.ref e)) (fun itv s₂ => PairAt3 prog w A h₀ env xi xc body Q E itv s₂) E s :=
  enum_at0 J hh I.he I.hit I.hl I.hei I.hle I.hli I.hLe I.hLi (ns_not_list F.ns I.hl) I.hne I.hni I.hfn F N h0 step done
theorem range_fix {x : Str} {body : List Stmt} {Q : Flow → Shared → Prop} {r : Addr} {b : Int} {t₀ u₀ v₀ : Tok} {n : Nat} (J : Nat → (Str → Option Value) → List (Addr × Obj) → Prop)
    (hh : A.handled = none) (hr : IsRange s.heap r 0 b 1 t₀ u₀ v₀) (hb : b = (n : Int)) (hn62 : n < 2 ^ 62) (F : Fr h₀ env.locals s.heap m) (N : News h₀ env.locals s.heap news) (h0 : J 0 m news)
    (turn : ∀ i t m₁ nx h tk own, i < n → nx.map (·.1) = news.map (·.1) → OwnOff own (news.map (·.1)) → J i m₁ nx → Fr h₀ env.locals h (fun y => if y = x then some (.int (i : Int) t) else m₁ y) → News h₀ env.locals h (nx ++ own) →
      wpAny (model prog w) A (execs body env) (InvPostN h₀ env.locals (J (i + 1)) own (news.map (·.1)) { s with heap := h, toks := tk } Q) E { s with heap := h, toks := tk })
    (done : ∀ m₁ nx h tk, J n m₁ nx → Fr h₀ env.locals h m₁ → News h₀ env.locals h nx → Q .next { s with heap := h, toks := tk }) :
    wpAny (model prog w) A (pyIter (.ref r)) (fun it s₂ => LoopAtV prog w A h₀ env x body Q E it s₂) E s := by
  subst hb
  have hsmall : Builtin.Range.small 0 (n : Int) 1 = true := small_one (by decide) (by decide) (by omega) (by omega)
  have hn : Builtin.Range.rangeSize 0 (n : Int) 1 = (n : Int) := by
    unfold Builtin.Range.rangeSize
    rw [if_pos (by decide)]
    by_cases h : (0 : Int) < n
    · rw [if_pos h]; omega
    · rw [if_neg h]; omega
  refine wpAny_pyIter_range hr hsmall ?_
  have W : Walks prog w A s.heap.objs.size [s.heap.objs.size] [s.heap.objs.size] n (fun i v => i < n ∧ ∃ t, v = .int (0 + i * 1) t)
      (fun i h => IsRangeIter h s.heap.objs.size (0 + (i : Nat) * 1) ((n : Int) - (i : Nat)) 1) := (Walks.range hh _ 0 1 n).bound
  refine loop_invN J W ?_ ?_ ?_ ?_ (by show IsRangeIter _ _ _ _ _; rw [hn]; simpa using Heap.get?_push_size _ rfl) (F.push _) (fun p hp => ⟨Heap.get?_push_of_some _ (N p hp).1, (N p hp).2⟩) h0 ?_ ?_
  · intro hm
    exact absurd F.ns.lt ((List.mem_singleton.mp hm) ▸ Nat.lt_irrefl _)
  · intro b hb
    rw [List.mem_singleton.mp hb]
    exact next_is_new F
  · intro p hp hI
    exact absurd (Heap.lt_size (N p hp).1) ((List.mem_singleton.mp hI) ▸ Nat.lt_irrefl _)
  · intro p hp hI
    exact absurd (Heap.lt_size (N p hp).1) ((List.mem_singleton.mp hI) ▸ Nat.lt_irrefl _)
  · rintro i v m₁ nx h tk own hi ⟨_, t, rfl⟩ ha hoff hJ F₁ N₁
    have e1 : 0 + (i : Int) * 1 = (i : Int) := by omega
    rw [e1] at F₁
    exact turn i t m₁ nx h tk own hi ha hoff hJ F₁ N₁
  · intro m₁ nx h tk hJ F₁ N₁
    exact done m₁ nx h tk hJ F₁ N₁
/-- a turn's end where the loop may be left by break: D holds behind the loop -/
def BrkPost (h₀ : Heap) (L : Addr) (J D : (Str → Option Value) → List (Addr × Obj) → Prop) (own : List (Addr × Obj)) (adr : List Addr) (s₁ : Shared) (Q : Flow → Shared → Prop) (f : Flow) (s₂ : Shared) : Prop :=
  match f with
  | .ret v => Q (.ret v) s₂
  | .brk => ∃ h' tk m' news' nx, s₂ = { s₁ with heap := h', toks := tk } ∧ Fr h₀ L h' m' ∧ News h₀ L h' news' ∧ (∀ p ∈ nx, p ∈ news') ∧ D m' nx
  | _ => InvEndN h₀ L J own adr s₁ s₂
theorem BrkPost.brk {h₀ : Heap} {L : Addr} {J D : (Str → Option Value) → List (Addr × Obj) → Prop} {own news' nx : List (Addr × Obj)} {adr : List Addr} {s₁ : Shared} {Q : Flow → Shared → Prop} {h' : Heap} {tk : Nat} {m' : Str → Option Value}
    (F : Fr h₀ L h' m') (N : News h₀ L h' news') (hs : ∀ p ∈ nx, p ∈ news') (hD : D m' nx) : BrkPost h₀ L J D own adr s₁ Q .brk { s₁ with heap := h', toks := tk } := ⟨h', tk, m', news', nx, rfl, F, N, hs, hD⟩
theorem BrkPost.next {h₀ : Heap} {L : Addr} {J D : (Str → Option Value) → List (Addr × Obj) → Prop} {own : List (Addr × Obj)} {adr : List Addr} {s₁ s₂ : Shared} {Q : Flow → Shared → Prop}
    (h : InvEndN h₀ L J own adr s₁ s₂) : BrkPost h₀ L J D own adr s₁ Q .next s₂ := h
theorem range_brk {x : Str} {body : List Stmt} {Q : Flow → Shared → Prop} {r : Addr} {b : Int} {t₀ u₀ v₀ : Tok} {n : Nat} (J : Nat → (Str → Option Value) → List (Addr × Obj) → Prop) (D : (Str → Option Value) → List (Addr × Obj) → Prop)
    (hh : A.handled = none) (hr : IsRange s.heap r 0 b 1 t₀ u₀ v₀) (hb : b = (n : Int)) (hn62 : n < 2 ^ 62) (F : Fr h₀ env.locals s.heap m) (N : News h₀ env.locals s.heap news) (h0 : J 0 m news)
    (turn : ∀ i t m₁ nx h tk own, i < n → nx.map (·.1) = news.map (·.1) → OwnOff own (news.map (·.1)) → J i m₁ nx → Fr h₀ env.locals h (fun y => if y = x then some (.int (i : Int) t) else m₁ y) → News h₀ env.locals h (nx ++ own) →
      wpAny (model prog w) A (execs body env) (BrkPost h₀ env.locals (J (i + 1)) D own (news.map (·.1)) { s with heap := h, toks := tk } Q) E { s with heap := h, toks := tk })
    (fin : ∀ m₁ nx, J n m₁ nx → D m₁ nx)
    (rest : ∀ m₁ nx h tk, D m₁ nx → Fr h₀ env.locals h m₁ → News h₀ env.locals h nx → Q .next { s with heap := h, toks := tk }) :
    wpAny (model prog w) A (pyIter (.ref r)) (fun it s₂ => LoopAtV prog w A h₀ env x body Q E it s₂) E s := by
  refine range_fix J hh hr hb hn62 F N h0 (fun i t m₁ nx h tk own hi ha hoff hJ F₁ N₁ => ?_) fun m₁ nx h tk hJ F₁ N₁ => rest _ _ _ _ (fin _ _ hJ) F₁ N₁
  refine wpAny_mono (turn i t m₁ nx h tk own hi ha hoff hJ F₁ N₁) (fun f s₂ p => ?_) fun _ _ e => e
  cases f with
  | ret v => exact p
  | brk =>
    obtain ⟨h', tk', m', news', nx', rfl, F', N', hs, hD⟩ := p
    exact rest m' nx' h' tk' hD F' fun q hq => N' q (hs q hq)
  | next => exact p
  | cont => exact p
end
end Mine
end
section
open PySem PySem.W PyProof.Rows
local macro_rules | `(tactic| walk_at "MY none 0") => `(tactic| fail)
local macro_rules | `(tactic| walk_at "MY none 1") => `(tactic| fail)
local macro_rules | `(tactic| walk_at "MY none 2") => `(tactic| fail)
theorem Mine.resetC5 : (1 : Nat) ≤ 2 := by
  w_top off
  first | walk1 | decide
end
section
open PySem PySem.W PySem.Calls PySem.Spec PyProof.Rows
set_option maxRecDepth 100000
set_option maxHeartbeats 2000000
set_option pp.maxSteps 4000
set_option linter.unusedVariables false
namespace Mine
section
variable {w : World} {A₀ : Around} {base h₀ : Heap} {outer : List Env} {L : Addr} {m mg mb : Str → Option Value} {env : Env} {mean : ExcName → Option Value} {dp un : Nat} {gd : Option (List Code)} {s : Shared} {E Q : Value → Shared → Prop} {news : List (Addr × Obj)}

def STOP (P : Prop) : Prop := P
theorem STOP.intro {P : Prop} (h : STOP P) : P := h
theorem fr_know {h₀ h : Heap} {L : Addr} {m : Str → Option Value} {x : Str} {v : Option Value} (F : Fr h₀ L h m) (hx : m x = v) : Fr h₀ L h (fun y => if y = x then v else m y) := by
  have e : (fun y => if y = x then v else m y) = m := by
    funext y
    by_cases h : y = x
    · subst h; simp [hx]
    · simp [h]
  rw [e]; exact F
theorem map_know {m : Str → Option Value} {x : Str} {v : Option Value} (hx : m x = v) : ∃ m₂ : Str → Option Value, m = fun y => if y = x then v else m₂ y := ⟨m, by
  funext y
  by_cases h : y = x
  · subst h; simp [hx]
  · simp [h]⟩
theorem exp_step : ∀ c, c < 255 → 1 ≤ c → EXPT.getD c 0 = (if 255 < 2 * EXPT.getD (c - 1) 0 then Builtin.bitXor (2 * EXPT.getD (c - 1) 0) 285 else 2 * EXPT.getD (c - 1) 0) := by decide +kernel
theorem take_last {c : Nat} (h1 : 1 ≤ c) (h2 : c ≤ 255) : (EXPT.take c).getD (-1 + ((EXPT.take c).length : Int)).toNat 0 = EXPT.getD (c - 1) 0 := by
  have hl : (EXPT.take c).length = c := by rw [List.length_take, EXPT_len]; omega
  have e : (-1 + ((EXPT.take c).length : Int)).toNat = c - 1 := by rw [hl]; omega
  rw [e]
  simp only [List.getD_eq_getElem?_getD]
  rw [List.getElem?_take_of_lt (by omega)]
theorem take_more {c : Nat} {x : Int} (h2 : c < 255) (hx : EXPT.getD c 0 = x) : EXPT.take (c + 1) = EXPT.take c ++ [x] := by
  have hl : c < EXPT.length := by rw [EXPT_len]; omega
  rw [List.take_add_one, List.getElem?_eq_getElem hl]
  subst hx
  simp [List.getD, hl]
/-- the logarithms' row after i places -/
def LOGI (i : Nat) : List Int := (List.range i).foldl (fun l k => l.set (POWT.getD k 0).toNat (k : Int)) (List.replicate 256 0)
theorem LOGI_end : LOGI 255 = LOGT := by decide +kernel
theorem LOGI_succ (i : Nat) : LOGI (i + 1) = (LOGI i).set (POWT.getD i 0).toNat (i : Int) := by
  unfold LOGI; rw [List.range_succ, List.foldl_append]; rfl
theorem LOGI_len (i : Nat) : (LOGI i).length = 256 := by
  induction i with
  | zero => decide +kernel
  | succ i ih => rw [LOGI_succ, List.length_set]; exact ih
theorem POWT_range : ∀ i, i < 255 → 1 ≤ POWT.getD i 0 ∧ POWT.getD i 0 ≤ 255 := by decide +kernel

local macro_rules | `(tactic| walk_at "MY room") => `(tactic| first | omega | (dsimp only [Around.deeper, Around.in1, Ar]; omega) | (simp only [depth_under_make, depth_under_kw, depth_in1, depth_deeper]; dsimp only [Ar]; omega))
local macro_rules | `(tactic| walk_at "MY units") => `(tactic| first | omega | (dsimp only [Around.deeper, Around.in1, Ar]; omega) | (simp only [units_in1, units_deeper, Around.mark_units]; dsimp only [Ar]; omega))
local macro_rules | `(tactic| walk_at "MY idx") => `(tactic| first | omega | (simp only [POWT_len, LOGT_len, EXPT_len]; omega))
local macro_rules | `(tactic| walk_at "subscriptTail Subscript") => `(tactic| (k_here; (with_reducible show wpAny _ _ (subscriptTail _ _ (Value.ref _) (Value.int _ _)) _ _ _); k_dflt (refine' item_ints ?k1 ?k2 ?k3 ?k4 ?k5 ?_; (case k1 => is_list); (case k2 => assumption); (case k3 => walk_at "MY idx"); (case k4 => walk_at "MY idx"); (case k5 => walk_at "MY idx"); k_whole); intro t9))
local macro_rules | `(tactic| walk_at "subscriptTail Name") => `(tactic| (k_here; (with_reducible show wpAny _ _ (subscriptTail _ _ (Value.ref _) (Value.int _ _)) _ _ _); k_dflt (refine' item_ints ?k1 ?k2 ?k3 ?k4 ?k5 ?_; (case k1 => is_list); (case k2 => assumption); (case k3 => walk_at "MY idx"); (case k4 => walk_at "MY idx"); (case k5 => walk_at "MY idx"); k_whole); intro t9))

local macro_rules | `(tactic| walk_at "exec For Tuple Call cons nil") => `(tactic| (k_here; (rename Fr _ _ _ _ => F'); (with_reducible apply For_pair3F); (case _F => with_unfolding_all exact F'); (case hh => with_unfolding_all rfl); (case hxi => with_unfolding_all rfl); (case hxc => with_unfolding_all rfl); (case hp => with_unfolding_all rfl); (case hs => (intro _; with_unfolding_all rfl))))
local macro_rules | `(tactic| walk_at "call type:enumerate") => `(tactic| (k_here; (with_reducible show wpAny _ _ (call (Value.type _) [Value.ref _]) _ _ _); k_dflt (refine' call_enum_any ?F ?N ?l ?_; (case F => k_asm); (case N => k_asm); (case l => is_list); k_whole); intro e9 it9 h9 F' N' I9; (try k_sweep)))
local macro_rules | `(tactic| walk_at "pyIter ref") => `(tactic| (k_here; (with_reducible show wpAny _ _ (pyIter (Value.ref _)) (fun it s₂ => PairAt3 _ _ _ _ _ _ _ _ _ _ it s₂) _ _); refine STOP.intro ?_))

local macro_rules | `(tactic| walk_at "exec While Compare cons nil") => `(tactic| (k_here; refine STOP.intro ?_))
theorem field_ct  (B : Below A₀ base outer h₀) (F : Fr h₀ L s.heap m) (N : News h₀ L s.heap news) (X : (hd.heap_39 w.params).In h₀)
    (T : Top hd.view_39 (looseW hd.view_39 [Str.ofString "EXP_TABLE", Str.ofString "LOG_TABLE", Str.ofString "rsPoly_LUT"]) mean mg mb h₀) (hf : env.frame = some L) (hke : env.scope.kind = .function) (hdp : dp + 2 < recursionLimit) (hu : un + 20 < cLine)
    
    (ret : ∀ fa h' tk', Fr h₀ L h' m → News h₀ L h' news → s.heap.StaysIn h' → IsField h' fa → Q (.ref fa) { s with heap := h', toks := tk' }) :
    wpAny (model PySem.Challenge.rw_bm0035_01.prog w) (Ar dp un gd env outer) (call (.ref 105) []) Q E s := by
  revert X; k_fill; intro X
  k_dflt (refine' enter0 (binds := []) B F X T rfl hf hke ?ho ?hcd ?hroom ?hbind ?hloc ?_ ?c1 ?c2 ?c3 ?c4)
  case ho => k_is
  case hcd => k_is
  case hroom => ktr_room
  case hbind => exact BindsTo.of_eq rfl
  case hloc => exact locs rfl
  case c1 => exact rfl
  case c2 => exact rfl
  case c3 => exact rfl
  case c4 => decide
  intro h₁ F' N' B' X' T'
  try dsimp only
  k_fold
  k_steps
  rename_i tk0 pa hh0 l1 hh1 F1 N1
  clear l1
  refine While_inv2 (fun n m nx => ∃ (c k : Nat) (vs : List Value), nx = [(pa, W.listOf vs.toArray k)] ∧ IntsAre vs (EXPT.take c) ∧ 1 ≤ c ∧ c ≤ 255 ∧ n = 255 - c ∧ m (Str.ofString "powers") = some (.ref pa)) F1 N1 ⟨1, 0, [.int 1 tk0], rfl, IntsAre.cons _ _ .nil, by omega, by omega, rfl, rfl⟩ ?_ (by first | passes_own | with_unfolding_all passes_own)
  clear F1 N1
  rintro n m₁ news₁ h₂ tk₁ F1 N1 ⟨c, k, vs, rfl, hi, hc1, hc2, rfl, hm⟩
  replace F1 := fr_know F1 hm
  have hlen : (EXPT.take c).length = c := by rw [List.length_take, EXPT_len]; omega
  have hlast := take_last hc1 hc2
  show wpAny _ _ _ _ _ _
  k_fold
  k_steps
  · rename (255 : Int) < _ => hbig
    rename Fr _ _ _ _ => F2
    rename News _ _ _ _ => N2
    rw [hlast] at hbig F2 N2
    have hc4 : c < 255 := by omega
    have hx := exp_step c hc4 hc1
    rw [if_pos hbig] at hx
    refine ⟨_, _, _, _, 255 - (c + 1), rfl, F2, N2, by omega, c + 1, k + 1, vs ++ [_], by rw [List.push_toArray], ?_, by omega, by omega, rfl, rfl⟩
    rw [take_more hc4 hx]
    exact hi.append (IntsAre.cons _ _ .nil)
  · rename ¬ ((255 : Int) < _) => hbig
    rename Fr _ _ _ _ => F2
    rename News _ _ _ _ => N2
    rw [hlast] at hbig F2 N2
    have hc4 : c < 255 := by omega
    have hx := exp_step c hc4 hc1
    rw [if_neg hbig] at hx
    refine ⟨_, _, _, _, 255 - (c + 1), rfl, F2, N2, by omega, c + 1, k + 1, vs ++ [_], by rw [List.push_toArray], ?_, by omega, by omega, rfl, rfl⟩
    rw [take_more hc4 hx]
    exact hi.append (IntsAre.cons _ _ .nil)
  · have hc : c = 255 := by omega
    rw [hc] at hi
    rename Fr _ _ _ _ => F2
    rename News _ _ _ _ => N2
    rename EnumAt _ _ _ _ _ _ _ _ => I2
    rename IntsAre (List.flatten _) _ => hz
    rename_i hcc t0 la hq1 hl1 da hq2 n1 s1 e1 e2 e3 hl2 hq3 e9 it9 h9
    have hvl : vs.toArray.size = 255 := by rw [List.size_toArray, hi.length]; exact POWT_len
    refine enum_at (fun i m nx => ∃ k' ws, nx = [(da, W.listOf (List.toArray ws) k'), (la, W.listOf #[Value.int 0 t0] 0), (pa, W.listOf vs.toArray k)] ∧ IntsAre ws (LOGI i) ∧ m (Str.ofString "logs") = some (.ref da) ∧ m (Str.ofString "powers") = some (.ref pa)) rfl I2 F2 N2 ⟨0, _, rfl, ?_, rfl, rfl⟩ ?_ ?_
    · have e : LOGI 0 = (List.replicate (Int.toNat 256) [0]).flatten := by decide +kernel
      rw [e]; exact hz
    · rintro i v t m₂ nx h tk own hv ⟨k', ws, rfl, hw, hm1, hm2⟩ _ hown F3 N3
      obtain ⟨m₃, e3⟩ := map_know hm1
      subst e3
      obtain ⟨m₄, e4⟩ := map_know (x := Str.ofString "powers") (m := m₃) hm2
      subst e4
      have hi3 : i < 255 := by have := (Array.getElem?_eq_some_iff.mp hv).1; omega
      obtain ⟨n, tn, rfl, hn⟩ := hi.at i v (by simpa using hv)
      have hn2 : POWT.getD i 0 = n := by unfold POWT; rw [List.getD_eq_getElem?_getD, hn]; rfl
      have hn3 := POWT_range i hi3
      rw [hn2] at hn3
      obtain ⟨hn4, hn5⟩ := hn3
      have hwl : ws.length = 256 := by rw [hw.length]; exact LOGI_len i
      have hoff : OwnOff own [da] := hown.off (by
        intro b hb; rw [List.mem_singleton] at hb; rw [hb]
        have h1 := I2.hfn _ (List.mem_cons_self ..)
        simp only [List.mem_cons, List.not_mem_nil, or_false, not_or]
        exact ⟨h1.1, h1.2, Nat.ne_of_gt hl2.2⟩)
      obtain ⟨lg, hlg⟩ : ∃ lg, lg = LOGI i := ⟨_, rfl⟩
      rw [← hlg] at hw
      have hll : lg.length = 256 := by rw [hlg]; exact LOGI_len i
      have hnext : LOGI (i + 1) = lg.set n.toNat (i : Int) := by rw [LOGI_succ, hn2, hlg]
      clear F2 N2 I2 hv hcc hm hm1 hm2 hn hn2 hi hlast hlen hz s1 e1 e2 e3 hvl hlg
      show wpAny _ _ _ _ _ _
      k_fold
      k_steps
      rename Fr _ _ _ _ => F4
      rename News _ _ _ _ => N4
      rename IntsAre (List.set _ _ _) _ => hw4
      exact InvEndN.intro F4 N4 ⟨k', _, rfl, by rw [hnext]; exact hw4, rfl, rfl⟩ rfl (fun p hp => List.mem_append_left own hp) (fun p hp => List.mem_append_right [_, _, _] hp)
    · rintro h' tk m₂ nx F3 N3 ⟨k', ws, rfl, hw, hm1, hm2⟩
      obtain ⟨m₃, e3⟩ := map_know hm1
      subst e3
      obtain ⟨m₄, e4⟩ := map_know (x := Str.ofString "powers") (m := m₃) hm2
      subst e4
      rw [hvl, LOGI_end] at hw
      clear F2 N2 I2 hcc hm hm1 hm2 hlast hlen hz s1 e1 e2 e3 hvl
      show wpAny _ _ _ _ _ _
      try k_fold
      k_steps
      rename Fr _ _ _ _ => F4
      rename News _ _ _ _ => N4
      exact ret _ _ _ (F.keeps F4.keep) (N.keeps F4.keep) F4.keep ⟨pa, da, vs, ws, News.isTup N4 (.head _), News.isList N4 (.tail _ (.tail _ (.tail _ (.head _)))), hi, News.isList N4 (.tail _ (.head _)), hw⟩

end
end Mine
end
section
open PySem PySem.W PyProof.Rows
local macro_rules | `(tactic| walk_at "MY none 0") => `(tactic| fail)
local macro_rules | `(tactic| walk_at "MY none 1") => `(tactic| fail)
local macro_rules | `(tactic| walk_at "MY none 2") => `(tactic| fail)
theorem Mine.resetC6 : (1 : Nat) ≤ 2 := by
  w_top off
  first | walk1 | decide
end
section
open PySem PySem.W PySem.Calls PySem.Spec PyProof.Rows
set_option maxRecDepth 100000
set_option maxHeartbeats 2000000
set_option pp.maxSteps 4000
set_option linter.unusedVariables false
namespace Mine
section
variable {w : World} {A₀ : Around} {base h₀ : Heap} {outer : List Env} {L : Addr} {m mg mb : Str → Option Value} {env : Env} {mean : ExcName → Option Value} {dp un : Nat} {gd : Option (List Code)} {s : Shared} {E Q : Value → Shared → Prop} {news : List (Addr × Obj)}

/-- a Polynomial of the text's: an object whose one field is a list of ints -/
structure IsPoly (h : Heap) (x : Addr) (ns : List Int) : Prop where
  ex : ∃ (dx l : Addr) (hs : Int) (tk : Tok) (n : Nat) (vs : List Value), h.get? x = some (instObj 80 dx) ∧ h.get? dx = some (dictOf [⟨hs, .str (Str.ofString "num") tk, .ref l⟩] n) ∧ h.IsList l vs.toArray ∧ IntsAre vs ns
theorem IsPoly.keeps {h h' : Heap} {x : Addr} {ns : List Int} (p : IsPoly h x ns) (k : h.StaysIn h') : IsPoly h' x ns :=
  let ⟨dx, l, hs, tk, n, vs, a, b, c, d⟩ := p.ex; ⟨dx, l, hs, tk, n, vs, k _ _ a, k _ _ b, stays_list k c, d⟩
theorem inst_keeps {h h' : Heap} {x C : Addr} {ox : Obj} {od : Option Obj} (I : PySem.W.InstAt h x ox C od) (k : h.StaysIn h') : PySem.W.InstAt h' x ox C od := by
  obtain ⟨a, b, c, d⟩ := I
  refine ⟨k _ _ a, b, c, ?_⟩
  cases e : ox.dict <;> cases od <;> simp only [e] at d ⊢
  exact k _ _ d
theorem call_iter_list {prog : Program} {w : World} {A : Around} {E : Value → Shared → Prop} {s : Shared} {h₀ : Heap} {L l : Addr} {m : Str → Option Value} {news : List (Addr × Obj)} {items : Array Value} {Q : Value → Shared → Prop} (F : Fr h₀ L s.heap m) (N : News h₀ L s.heap news) (hl : s.heap.IsList l items)
    (h : ∀ it h', Fr h₀ L h' m → News h₀ L h' ((it, { cls := .type "list_iterator", data := .fields #[.ref l, .int 0 0] }) :: news) → h'.IsList l items → Q (.ref it) { s with heap := h' }) :
    wpAny (model prog w) A (call (.builtin "iter") [.ref l]) Q E s := by
  refine call_function_entry (by decide +kernel) (by decide +kernel) kdk_entry_iter (kdk_args_iter _) ?_
  unfold Builtin.«iter»
  refine wpAny_bind (m := someArgs "iter" 1 2 _) (wpAny_of_eq (a := [Value.ref l]) (by first | rfl | kernel_rfl!) ?_)
  show wpAny _ _ (pyIter (.ref l) >>= _) _ _ _
  refine wpAny_bind (wpAny_pyIter_list hl ?_)
  exact wpAny_pure ⟨_, rfl, h _ _ (F.push _) (News.push F N _ rfl) (hl.push _)⟩

local macro_rules | `(tactic| walk_at "MY pos") => `(tactic| omega)
local macro_rules | `(tactic| walk_at "MY room") => `(tactic| ((try simp only [depth_under_make, depth_under_kw, depth_in1, depth_deeper]); (try dsimp only [Ar, Around.in1, Around.deeper]); omega))
local macro_rules | `(tactic| walk_at "MY units") => `(tactic| ((try simp only [units_in1, units_deeper, units_under_make, Around.mark_units]); (try dsimp only [Ar, Around.in1, Around.deeper]); omega))
local macro_rules | `(tactic| walk_at "MY idx") => `(tactic| first | omega | (simp only [POWT_len, LOGT_len, EXPT_len]; omega))
local macro_rules | `(tactic| walk_at "subscriptTail Subscript") => `(tactic| (k_here; (with_reducible show wpAny _ _ (subscriptTail _ _ (Value.ref _) (Value.int _ _)) _ _ _); k_dflt (refine' item_ints ?k1 ?k2 ?k3 ?k4 ?k5 ?_; (case k1 => is_list); (case k2 => assumption); (case k3 => walk_at "MY idx"); (case k4 => walk_at "MY idx"); (case k5 => walk_at "MY idx"); k_whole); intro t9))
local macro_rules | `(tactic| walk_at "subscriptTail Name") => `(tactic| (k_here; (with_reducible show wpAny _ _ (subscriptTail _ _ (Value.ref _) (Value.int _ _)) _ _ _); k_dflt (refine' item_ints ?k1 ?k2 ?k3 ?k4 ?k5 ?_; (case k1 => is_list); (case k2 => assumption); (case k3 => walk_at "MY idx"); (case k4 => walk_at "MY idx"); (case k5 => walk_at "MY idx"); k_whole); intro t9))

local macro_rules | `(tactic| walk_at "exec For Tuple Call cons nil") => `(tactic| (k_here; (rename Fr _ _ _ _ => F'); (with_reducible apply For_pair3F); (case _F => with_unfolding_all exact F'); (case hh => with_unfolding_all rfl); (case hxi => with_unfolding_all rfl); (case hxc => with_unfolding_all rfl); (case hp => with_unfolding_all rfl); (case hs => (intro _; with_unfolding_all rfl))))
local macro_rules | `(tactic| walk_at "call type:enumerate") => `(tactic| (k_here; (with_reducible show wpAny _ _ (call (Value.type _) [Value.ref _]) _ _ _); k_dflt (refine' call_enum_any ?F ?N ?l ?_; (case F => k_asm); (case N => k_asm); (case l => is_list); k_whole); intro e9 it9 h9 F' N' I9; (try k_sweep)))
local macro_rules | `(tactic| walk_at "pyIter ref") => `(tactic| (k_here; (with_reducible show wpAny _ _ (pyIter (Value.ref _)) (fun it s₂ => PairAt3 _ _ _ _ _ _ _ _ _ _ it s₂) _ _); refine STOP.intro ?_))
local macro_rules | `(tactic| walk_at "call builtin:iter") => `(tactic| (k_here; (with_reducible show wpAny _ _ (call (Value.builtin "iter") [Value.ref _]) _ _ _); k_dflt (refine' call_iter_list ?F ?N ?l ?_; (case F => k_asm); (case N => k_asm); (case l => is_list); k_whole); intro it9 h9 F' N' IL9; (try k_sweep)))
local macro_rules | `(tactic| k_inst) => `(tactic| exact inst_keeps (by assumption) (Fr.keep (by k_asm)))
theorem plen_ct {x : Addr} {ns : List Int} (B : Below A₀ base outer h₀) (F : Fr h₀ L s.heap m) (N : News h₀ L s.heap news) (X : (hd.heap_39 w.params).In h₀)
    (T : Top hd.view_39 (looseW hd.view_39 [Str.ofString "EXP_TABLE", Str.ofString "LOG_TABLE", Str.ofString "rsPoly_LUT"]) mean mg mb h₀) (hf : env.frame = some L) (hke : env.scope.kind = .function) (hdp : dp + 2 < recursionLimit) (hu : un + 20 < cLine)
    (hP : IsPoly s.heap x ns) (hln : ns.length < 2 ^ 20)
    (ret : ∀ r t' h' tk', r = (ns.length : Int) → Fr h₀ L h' m → News h₀ L h' news → Q (.int r t') { s with heap := h', toks := tk' }) :
    wpAny (model PySem.Challenge.rw_bm0035_01.prog w) (Ar dp un gd env outer) (call (.ref 65) [.ref x]) Q E s := by
  obtain ⟨dx, l, hs, ptk, pn, vs, hx, hd, hl, hi⟩ := hP.ex
  have hI : PySem.W.InstAt s.heap x (instObj 80 dx) 80 (some (dictOf [⟨hs, .str (Str.ofString "num") ptk, .ref l⟩] pn)) := ⟨hx, rfl, rfl, hd⟩
  revert X; k_fill; intro X
  k_dflt (refine' enter0 (binds := [(Str.ofString "self", .ref x)]) B F X T rfl hf hke ?ho ?hcd ?hroom ?hbind ?hloc ?_ ?c1 ?c2 ?c3 ?c4)
  case ho => k_is
  case hcd => k_is
  case hroom => ktr_room
  case hbind => exact BindsTo.of_eq rfl
  case hloc => exact locs rfl
  case c1 => exact rfl
  case c2 => exact rfl
  case c3 => exact rfl
  case c4 => decide
  intro h₁ F' N' B' X' T'
  try dsimp only
  k_fold
  k_steps
  exact ret _ _ _ _ rfl (F.keeps F'.keep) (N.keeps F'.keep)
local macro_rules | `(tactic| walk_at "subscriptTail Attribute") => `(tactic| (k_here; (with_reducible show wpAny _ _ (subscriptTail _ _ (Value.ref _) (Value.int _ _)) _ _ _); k_dflt (refine' item_ints ?k1 ?k2 ?k3 ?k4 ?k5 ?_; (case k1 => is_list); (case k2 => assumption); (case k3 => walk_at "MY idx"); (case k4 => walk_at "MY idx"); (case k5 => walk_at "MY idx"); k_whole); intro t9))
theorem pitem_ct {x : Addr} {ns : List Int} {k : Int} {t : Tok} (B : Below A₀ base outer h₀) (F : Fr h₀ L s.heap m) (N : News h₀ L s.heap news) (X : (hd.heap_39 w.params).In h₀)
    (T : Top hd.view_39 (looseW hd.view_39 [Str.ofString "EXP_TABLE", Str.ofString "LOG_TABLE", Str.ofString "rsPoly_LUT"]) mean mg mb h₀) (hf : env.frame = some L) (hke : env.scope.kind = .function) (hdp : dp + 2 < recursionLimit) (hu : un + 20 < cLine)
    (hP : IsPoly s.heap x ns) (hln : ns.length < 2 ^ 20) (h0 : 0 ≤ k) (h1 : k < (ns.length : Int))
    (ret : ∀ r t' h' tk', r = ns.getD k.toNat 0 → Fr h₀ L h' m → News h₀ L h' news → Q (.int r t') { s with heap := h', toks := tk' }) :
    wpAny (model PySem.Challenge.rw_bm0035_01.prog w) (Ar dp un gd env outer) (call (.ref 51) [.ref x, .int k t]) Q E s := by
  obtain ⟨dx, l, hs, ptk, pn, vs, hx, hd, hl, hi⟩ := hP.ex
  have hI : PySem.W.InstAt s.heap x (instObj 80 dx) 80 (some (dictOf [⟨hs, .str (Str.ofString "num") ptk, .ref l⟩] pn)) := ⟨hx, rfl, rfl, hd⟩
  revert X; k_fill; intro X
  k_dflt (refine' enter0 (binds := [(Str.ofString "self", .ref x), (Str.ofString "index", .int k t)]) B F X T rfl hf hke ?ho ?hcd ?hroom ?hbind ?hloc ?_ ?c1 ?c2 ?c3 ?c4)
  case ho => k_is
  case hcd => k_is
  case hroom => ktr_room
  case hbind => exact BindsTo.of_eq rfl
  case hloc => exact locs rfl
  case c1 => exact rfl
  case c2 => exact rfl
  case c3 => exact rfl
  case c4 => decide
  intro h₁ F' N' B' X' T'
  try dsimp only
  k_fold
  k_steps
  exact ret _ _ _ _ rfl (F.keeps F'.keep) (N.keeps F'.keep)
theorem piter_ct {x : Addr} {ns : List Int} (B : Below A₀ base outer h₀) (F : Fr h₀ L s.heap m) (N : News h₀ L s.heap news) (X : (hd.heap_39 w.params).In h₀)
    (T : Top hd.view_39 (looseW hd.view_39 [Str.ofString "EXP_TABLE", Str.ofString "LOG_TABLE", Str.ofString "rsPoly_LUT"]) mean mg mb h₀) (hf : env.frame = some L) (hke : env.scope.kind = .function) (hdp : dp + 2 < recursionLimit) (hu : un + 20 < cLine)
    (hP : IsPoly h₀ x ns)
    (ret : ∀ it l vs h' tk', IntsAre vs ns → h'.IsList l vs.toArray → h'.IsListIter it l 0 → s.heap.StaysIn h' → s.heap.get? it = none → (∃ o, h₀.get? l = some o) → Fr h₀ L h' m → News h₀ L h' news → Q (.ref it) { s with heap := h', toks := tk' }) :
    wpAny (model PySem.Challenge.rw_bm0035_01.prog w) (Ar dp un gd env outer) (call (.ref 58) [.ref x]) Q E s := by
  obtain ⟨dx, l, hs, ptk, pn, vs, hx, hd, hl, hi⟩ := hP.ex
  have hl0 : ∃ o, h₀.get? l = some o := let ⟨o, e, _⟩ := hl; ⟨o, e⟩
  replace hx := F.keep _ _ hx
  replace hd := F.keep _ _ hd
  replace hl := stays_list F.keep hl
  have hI : PySem.W.InstAt s.heap x (instObj 80 dx) 80 (some (dictOf [⟨hs, .str (Str.ofString "num") ptk, .ref l⟩] pn)) := ⟨hx, rfl, rfl, hd⟩
  revert X; k_fill; intro X
  k_dflt (refine' enter0 (binds := [(Str.ofString "self", .ref x)]) B F X T rfl hf hke ?ho ?hcd ?hroom ?hbind ?hloc ?_ ?c1 ?c2 ?c3 ?c4)
  case ho => k_is
  case hcd => k_is
  case hroom => ktr_room
  case hbind => exact BindsTo.of_eq rfl
  case hloc => exact locs rfl
  case c1 => exact rfl
  case c2 => exact rfl
  case c3 => exact rfl
  case c4 => decide
  intro h₁ F' N' B' X' T'
  try dsimp only
  k_fold
  k_steps
  rename Fr _ _ _ _ => F4
  rename News _ _ _ _ => N4
  rename Heap.IsList _ _ _ => L4
  have g := N4 _ (.head _)
  exact ret _ _ _ _ _ hi L4 ⟨_, g.1, rfl, rfl⟩ F4.keep g.2.2 hl0 (F.keeps F4.keep) (N.keeps F4.keep)

end
end Mine
end
section
open PySem PySem.W PyProof.Rows
local macro_rules | `(tactic| walk_at "MY none 0") => `(tactic| fail)
local macro_rules | `(tactic| walk_at "MY none 1") => `(tactic| fail)
local macro_rules | `(tactic| walk_at "MY none 2") => `(tactic| fail)
theorem Mine.resetC7 : (1 : Nat) ≤ 2 := by
  w_top off
  first | walk1 | decide
end
section
open PySem PySem.W PySem.Calls PySem.Spec PyProof.Rows
set_option maxRecDepth 100000
set_option maxHeartbeats 2000000
set_option pp.maxSteps 4000
set_option linter.unusedVariables false
namespace Mine
section
variable {w : World} {A₀ : Around} {base h₀ : Heap} {outer : List Env} {L : Addr} {m mg mb : Str → Option Value} {env : Env} {mean : ExcName → Option Value} {dp un : Nat} {gd : Option (List Code)} {s : Shared} {E Q : Value → Shared → Prop} {news : List (Addr × Obj)}

/-- a row without the noughts in front, its last word kept -/
def stripF : List Int → List Int
  | [] => []
  | [x] => [x]
  | x :: y :: r => if x = 0 then stripF (y :: r) else x :: y :: r
theorem strip_at : ∀ (ns : List Int) (i : Nat), (∀ j, j < i → ns.getD j 0 = 0) → i < ns.length → (ns.getD i 0 ≠ 0 ∨ i + 1 = ns.length) → ns.drop i = stripF ns
  | [], i, _, h, _ => absurd h (Nat.not_lt_zero _)
  | [x], i, _, h, _ => by
    have : i = 0 := by simp at h; omega
    subst this; rfl
  | x :: y :: r, 0, _, _, h => by
    have hx : x ≠ 0 := by
      rcases h with h | h
      · simpa using h
      · simp at h
    simp [stripF, hx]
  | x :: y :: r, i + 1, h0, h1, h => by
    have hx : x = 0 := by simpa using h0 0 (Nat.succ_pos _)
    have e := strip_at (y :: r) i (fun j hj => by simpa using h0 (j + 1) (Nat.succ_lt_succ hj)) (by simpa using h1) (by
      rcases h with h | h
      · left; simpa using h
      · right; simpa using h)
    rw [stripF, if_pos hx, ← e]
    rfl
/-- a Polynomial that stands in h' and of which nothing stood in h -/
structure PolyNew (h h' : Heap) (x : Addr) (ns : List Int) : Prop where
  ex : ∃ (dx l : Addr) (hs : Int) (tk : Tok) (n : Nat) (vs : List Value) (k : Nat), h'.get? x = some (instObj 80 dx) ∧ h'.get? dx = some (dictOf [⟨hs, .str (Str.ofString "num") tk, .ref l⟩] n) ∧ h'.get? l = some (W.listOf vs.toArray k) ∧ IntsAre vs ns ∧
    h.get? x = none ∧ h.get? dx = none ∧ h.get? l = none ∧ dx ≠ x ∧ l ≠ x ∧ l ≠ dx
theorem PolyNew.is {h h' : Heap} {x : Addr} {ns : List Int} (p : PolyNew h h' x ns) : IsPoly h' x ns :=
  let ⟨dx, l, hs, tk, n, vs, k, a, b, c, d, _⟩ := p.ex; ⟨dx, l, hs, tk, n, vs, a, b, ⟨_, c, rfl, k, rfl⟩, d⟩
theorem none_of {h h₁ : Heap} (k : h.StaysIn h₁) {a : Addr} (e : h₁.get? a = none) : h.get? a = none := by
  cases q : h.get? a with
  | none => rfl
  | some o => rw [k _ _ q] at e; cases e
theorem PolyNew.since {h h₁ h' : Heap} {x : Addr} {ns : List Int} (p : PolyNew h₁ h' x ns) (k : h.StaysIn h₁) : PolyNew h h' x ns :=
  let ⟨dx, l, hs, tk, n, vs, i, a, b, c, d, e, f, g, r⟩ := p.ex; ⟨dx, l, hs, tk, n, vs, i, a, b, c, d, none_of k e, none_of k f, none_of k g, r⟩
theorem PolyNew.keeps {h h' h₂ : Heap} {x : Addr} {ns : List Int} (p : PolyNew h h' x ns) (k : h'.StaysIn h₂) : PolyNew h h₂ x ns :=
  let ⟨dx, l, hs, tk, n, vs, i, a, b, c, r⟩ := p.ex; ⟨dx, l, hs, tk, n, vs, i, k _ _ a, k _ _ b, k _ _ c, r⟩
def polyF (ns : List Int) (sh : Nat) : List Int := stripF ns ++ List.replicate sh 0

local macro_rules | `(tactic| walk_at "MY pos") => `(tactic| omega)
local macro_rules | `(tactic| walk_at "MY room") => `(tactic| ((try simp only [depth_under_make, depth_under_kw, depth_in1, depth_deeper]); (try dsimp only [Ar, Around.in1, Around.deeper]); omega))
local macro_rules | `(tactic| walk_at "MY units") => `(tactic| ((try simp only [units_in1, units_deeper, units_under_make, Around.mark_units]); (try dsimp only [Ar, Around.in1, Around.deeper]); omega))
local macro_rules | `(tactic| walk_at "MY idx") => `(tactic| first | omega | (simp only [POWT_len, LOGT_len, EXPT_len]; omega))
local macro_rules | `(tactic| walk_at "subscriptTail Subscript") => `(tactic| (k_here; (with_reducible show wpAny _ _ (subscriptTail _ _ (Value.ref _) (Value.int _ _)) _ _ _); k_dflt (refine' item_ints ?k1 ?k2 ?k3 ?k4 ?k5 ?_; (case k1 => is_list); (case k2 => assumption); (case k3 => walk_at "MY idx"); (case k4 => walk_at "MY idx"); (case k5 => walk_at "MY idx"); k_whole); intro t9))
local macro_rules | `(tactic| walk_at "subscriptTail Name") => `(tactic| (k_here; (with_reducible show wpAny _ _ (subscriptTail _ _ (Value.ref _) (Value.int _ _)) _ _ _); k_dflt (refine' item_ints ?k1 ?k2 ?k3 ?k4 ?k5 ?_; (case k1 => is_list); (case k2 => assumption); (case k3 => walk_at "MY idx"); (case k4 => walk_at "MY idx"); (case k5 => walk_at "MY idx"); k_whole); intro t9))

local macro_rules | `(tactic| walk_at "exec For Tuple Call cons nil") => `(tactic| (k_here; (rename Fr _ _ _ _ => F'); (with_reducible apply For_pair3F); (case _F => with_unfolding_all exact F'); (case hh => with_unfolding_all rfl); (case hxi => with_unfolding_all rfl); (case hxc => with_unfolding_all rfl); (case hp => with_unfolding_all rfl); (case hs => (intro _; with_unfolding_all rfl))))
local macro_rules | `(tactic| walk_at "call type:enumerate") => `(tactic| (k_here; (with_reducible show wpAny _ _ (call (Value.type _) [Value.ref _]) _ _ _); k_dflt (refine' call_enum_any ?F ?N ?l ?_; (case F => k_asm); (case N => k_asm); (case l => is_list); k_whole); intro e9 it9 h9 F' N' I9; (try k_sweep)))
local macro_rules | `(tactic| walk_at "pyIter ref") => `(tactic| (k_here; (with_reducible show wpAny _ _ (pyIter (Value.ref _)) (fun it s₂ => PairAt3 _ _ _ _ _ _ _ _ _ _ it s₂) _ _); refine STOP.intro ?_))

local macro_rules | `(tactic| walk_at "exec For Name Call cons nil") => `(tactic| (k_here; (rename Fr _ _ _ _ => lF'); (with_unfolding_all refine' For_invVF lF' ?k1 ?k2 ?_; (case k1 => exact rfl); (case k2 => exact rfl); k_whole)))
local macro_rules | `(tactic| walk_at "exec For Name Name cons nil") => `(tactic| (k_here; (rename Fr _ _ _ _ => lF'); (with_unfolding_all refine' For_invVF lF' ?k1 ?k2 ?_; (case k1 => exact rfl); (case k2 => exact rfl); k_whole)))
local macro_rules | `(tactic| walk_at "pyIter ref") => `(tactic| (k_here; (with_reducible show wpAny _ _ (pyIter (Value.ref _)) (fun it s₂ => LoopAtV _ _ _ _ _ _ _ _ _ it s₂) _ _); refine STOP.intro ?_))

local macro_rules | `(tactic| walk_at "subscriptTail Name Slice ref ref") => `(tactic| (k_here; (with_reducible show wpAny _ _ (subscriptTail _ (PySem.Expr.Slice _ _ none _) (Value.ref _) (Value.ref _)) _ _ _); k_dflt (refine' kmk_slice_ints ?F ?N ?l ?p ?q ?i ?m ?c ?_ ?s ?t ?z; (case F => k_asm); (case N => k_asm); (case l => kmk_list); (case p => kmk_part); (case q => kmk_part); (case i => assumption); (case m => first | exact kmk_from (by assumption) (by omega) | exact kmk_run (by assumption) (by omega) (by omega) | exact kmk_from_neg (by assumption) (by omega)); (case c => kmk_len); (case s => with_unfolding_all rfl); (case t => kmk_pure); (case z => (refine kmk_sz (by assumption) ?_; (simp only [PySem.sizeLine_eq]; omega)))); intro D' ws' h' F' N' l1 hI' hC' hL'; (try k_lt l1); (try k_sweep)))
local macro_rules | `(tactic| k_inst) => `(tactic| exact inst_keeps (by assumption) (Fr.keep (by k_asm)))
theorem poly_ct {l : Addr} {vs : List Value} {ns : List Int} {sh : Int} {t : Tok} (B : Below A₀ base outer h₀) (F : Fr h₀ L s.heap m) (N : News h₀ L s.heap news) (X : (hd.heap_39 w.params).In h₀)
    (T : Top hd.view_39 (looseW hd.view_39 [Str.ofString "EXP_TABLE", Str.ofString "LOG_TABLE", Str.ofString "rsPoly_LUT"]) mean mg mb h₀) (hf : env.frame = some L) (hke : env.scope.kind = .function) (hdp : dp + 2 < recursionLimit) (hu : un + 20 < cLine)
    (hl : s.heap.IsList l vs.toArray) (hi : IntsAre vs ns) (hne : 0 < ns.length) (hln : ns.length < 2 ^ 20) (hs0 : 0 ≤ sh) (hs1 : sh ≤ 1000)
    (ret : ∀ x h' tk', PolyNew s.heap h' x (polyF ns sh.toNat) → s.heap.StaysIn h' → Fr h₀ L h' m → News h₀ L h' news → Q (.ref x) { s with heap := h', toks := tk' }) :
    wpAny (model PySem.Challenge.rw_bm0035_01.prog w) (Ar dp un gd env outer) (call (.ref 80) [.ref l, .int sh t]) Q E s := by
  revert X; k_fill; intro X
  k_dflt (refine' enter_make (fun x => [(Str.ofString "self", .ref x), (Str.ofString "num", .ref l), (Str.ofString "shift", .int sh t)]) B F X T rfl hf hke ?hm ?hi ?hft ?ho ?hcd ?hroom ?hbind ?hloc ?_ ?c1 ?c2 ?c3 ?c4)
  case hm => k_is
  case hi => k_is
  case hft => k_is
  case ho => k_is
  case hcd => k_is
  case hroom => walk_at "MY room"
  case hbind => exact fun _ _ => BindsTo.of_eq rfl
  case hloc => exact fun _ => locs rfl
  case c1 => exact rfl
  case c2 => exact rfl
  case c3 => exact rfl
  case c4 => decide
  intro x dx L' h₁ tk₁ lx1 lx2 F' N' B' X' T'
  replace lx1 := ltN lx1
  replace lx2 := ltN lx2
  try dsimp only
  show wpAny _ _ _ _ _ _
  k_fold
  k_steps
  rename IsRange _ _ _ _ _ _ _ _ => R1
  rename Fr _ _ _ _ => F1
  rename News _ _ _ _ => N1
  refine range_brk (fun i m nx => nx = [(x, instObj 80 dx), (dx, dictOf [] 0)] ∧ (∀ j, j < i → ns.getD j 0 = 0) ∧ (1 ≤ i → ∃ t, m (Str.ofString "offset") = some (.int ((i - 1 : Nat) : Int) t)) ∧ m (Str.ofString "num") = some (.ref l) ∧ m (Str.ofString "shift") = some (.int sh t) ∧ m (Str.ofString "self") = some (.ref x))
    (fun m nx => nx = [(x, instObj 80 dx), (dx, dictOf [] 0)] ∧ (∃ (i : Nat) (t : Tok), i < ns.length ∧ ns.drop i = stripF ns ∧ m (Str.ofString "offset") = some (.int (i : Int) t)) ∧ m (Str.ofString "num") = some (.ref l) ∧ m (Str.ofString "shift") = some (.int sh t) ∧ m (Str.ofString "self") = some (.ref x))
    rfl R1 rfl (by omega) F1 N1 ⟨rfl, by omega, by omega, rfl, rfl, rfl⟩ ?_ ?_ ?_
  · rintro i ti m₁ nx h tk own hin _ hoff ⟨rfl, hz, _, hm1, hm2, hm3⟩ F2 N2
    obtain ⟨m₂, e2⟩ := map_know hm1
    subst e2
    obtain ⟨m₃, e3⟩ := map_know (m := m₂) hm2
    subst e3
    obtain ⟨m₄, e4⟩ := map_know (m := m₃) hm3
    subst e4
    clear F1 N1 hm1 hm2 hm3
    show wpAny _ _ _ _ _ _
    k_fold
    k_steps
    · rename Fr _ _ _ _ => F3
      rename News _ _ _ _ => N3
      exact BrkPost.brk F3 N3 (fun p hp => List.mem_append_left own hp) ⟨rfl, ⟨i, ti, hin, strip_at ns i hz hin (Or.inl (by assumption)), rfl⟩, rfl, rfl, rfl⟩
    · rename Fr _ _ _ _ => F3
      rename News _ _ _ _ => N3
      have hne0 : ns.getD ((i : Nat) : Int).toNat 0 = 0 := by assumption
      refine BrkPost.next (InvEndN.intro F3 N3 ⟨rfl, ?_, ?_, rfl, rfl, rfl⟩ rfl (fun p hp => List.mem_append_left own hp) (fun p hp => List.mem_append_right [_, _] hp))
      · intro j hj
        rcases Nat.lt_succ_iff_lt_or_eq.mp hj with h | rfl
        · exact hz j h
        · simpa using hne0
      · intro _
        exact ⟨ti, rfl⟩
  · rintro m₁ nx ⟨rfl, hz, ho, hm1, hm2, hm3⟩
    obtain ⟨t', ho'⟩ := ho hne
    exact ⟨rfl, ⟨ns.length - 1, t', by omega, strip_at ns _ (fun j hj => hz j (by omega)) (by omega) (Or.inr (by omega)), ho'⟩, hm1, hm2, hm3⟩
  · rintro m₁ nx h tk ⟨rfl, ⟨i, ti, hi1, hi2, hm0⟩, hm1, hm2, hm3⟩ F2 N2
    obtain ⟨m₂, e2⟩ := map_know hm1
    subst e2
    obtain ⟨m₃, e3⟩ := map_know (m := m₂) hm2
    subst e3
    obtain ⟨m₄, e4⟩ := map_know (m := m₃) hm3
    subst e4
    obtain ⟨m₅, e5⟩ := map_know (m := m₄) hm0
    subst e5
    clear F1 N1 hm1 hm2 hm3 hm0
    show wpAny _ _ _ _ _ _
    try k_fold
    k_steps
    rename Fr _ _ _ _ => F4
    rename News _ _ _ _ => N4
    rename IntsAre _ (_ ++ _) => hw
    have e1 : List.drop ((i : Nat) : Int).toNat ns ++ (List.replicate sh.toNat [(0 : Int)]).flatten = polyF ns sh.toNat := by
      rw [Int.toNat_natCast, hi2]
      unfold polyF
      congr 1
      simp
    rw [e1] at hw
    rename (_ < _) ∧ _ => hA
    have gx := N4 (x, instObj 80 dx) (by k_mem)
    have gd := N4 (dx, _) (by first | exact .tail _ (.tail _ (.tail _ (.tail _ (.tail _ (.head _))))))
    have gl := N4 _ (List.mem_cons_self ..)
    show _ ∧ _
    exact ⟨rfl, ret x _ _ ⟨dx, _, _, _, _, _, _, gx.1, gd.1, gl.1, hw, gx.2.2, gd.2.2, gl.2.2, Nat.ne_of_lt lx1, Nat.ne_of_gt hA.2.2.2.1, Nat.ne_of_gt hA.2.2.2.2⟩ F4.keep (F.keeps F4.keep) (N.keeps F4.keep)⟩

end
end Mine
end
section
open PySem PySem.W PySem.Calls PySem.Spec PyProof.Rows
set_option maxRecDepth 100000
set_option maxHeartbeats 2000000
set_option linter.unusedVariables false
namespace Mine
section
variable {prog : Program} {w : World} {A : Around} {E : Value → Shared → Prop} {s : Shared}

/-- a call of a built-in type whose making is walked in this very model (its __new__'s tree is handed in) -/
theorem type_called {T newId : String} {Bn : Builtin} {args : List Value} {Q : Value → Shared → Prop} (ft : TypeCalled T newId "object.__init__") (hne : (some newId != some "object.__new__") = true)
    (hct : checkTypeCall T ⟨args, []⟩ = pure ()) (hcn : checkBuiltinCall newId ⟨.type T :: args, []⟩ = pure ()) (hok : ∀ obj, argsOk "object.__init__" ⟨obj :: args, []⟩) (en : entryFor table newId = some Bn)
    (h : wpAny (model prog w) A.in1.in1 (Bn ⟨.type T :: args, []⟩) (fun fin s' => ∃ obj, fin = .done (.ret obj) ∧ s'.TypeIs obj T ∧ Q obj s') E s) :
    wpAny (model prog w) A (call (.type T) args) Q E s := by
  have ⟨c, tl, hmro⟩ := ft.mro
  have h0 := ft.notType
  have hc := ft.canCreate
  have hmk := ft.made
  have hsb := ft.sub
  have hin := ft.init.lookup
  refine wpAny_call (codeAny_of_tree (show wpAny _ _ (callAny (.type T) _) _ _ _ from wpAny_pure ⟨Code.quiet_builtin _ (by decide +kernel), codeAny_builtin F.entry_type_call ?_⟩))
  rw [Around.under_plain (weight_type_call_type T args []) (units_type_call_type T args [])]
  repeat (any_goals (first | assumption | wp_step))
  have made : codeAny (model prog w) A.in1 (.call (.builtin newId) ⟨.type T :: args, []⟩) (fun r s' => match r with | .ok (.ret v) => s'.TypeIs v T ∧ Q v s' | .ok _ => False | .error e => E e s') s :=
    codeAny_call_builtin ft.plain en (wpAny_of_eq hcn (wpAny_mono h (fun fin s' hf => by obtain ⟨obj, rfl, hq⟩ := hf; exact hq) fun _ _ e => e))
  refine codeAny_mono made fun r s₁ hr => ?_
  rcases r with e | (_ | _ | _ | obj)
  · exact hr
  all_goals first | exact hr.elim | skip
  obtain ⟨hT, hq⟩ := hr
  have hb := ft.init.bind obj
  repeat (any_goals (first | assumption | wp_step))
  have done : codeAny (model prog w) A.in1 (.call (.builtin "object.__init__") ⟨obj :: args, []⟩) (fun r s' => match r with | .ok (.ret v) => v = .none ∧ Q obj s' | .ok _ => False | .error e => E e s') s₁ :=
    codeAny_call_builtin ft.init.plain F.entry_object_init (ft.init.check _ _ _ _ _ _ _ _ hT (hok obj) (object_init_meets (self := obj) (rest := args) hin hmk hne prog w A.in1 (fun r s' => match r with | .ok (.ret v) => v = .none ∧ Q obj s' | .ok _ => False | .error e => E e s') s₁ ⟨hT, rfl, hq⟩))
  refine codeAny_mono done fun r s₂ hr => ?_
  rcases r with e | (_ | _ | _ | v)
  · exact hr
  all_goals first | exact hr.elim | skip
  obtain ⟨rfl, hq⟩ := hr
  repeat (any_goals (first | assumption | wp_step))

theorem enum_new {x : Addr} {Q : Value → Shared → Prop} (h : wpAny (model prog w) A (pyIter (.ref x)) (fun it s' => Q (.ref s'.heap.objs.size) { s' with heap := s'.heap.push { cls := .type "enumerate", data := .fields #[.none, .bool false, it, rawInt 0, .none, .none] } }) E s) :
    wpAny (model prog w) A (Builtin.«enumerate.__new__» ⟨[.type "enumerate", .ref x], []⟩) (fun fin s' => ∃ obj, fin = .done (.ret obj) ∧ s'.TypeIs obj "enumerate" ∧ Q obj s') E s := by
  have hsub := sub_enumerate
  have fin : ∀ {f : Value → Sem Fin}, (∀ it s', wpAny (model prog w) A (f it) (fun fin s'' => fin = .done (.ret (.ref s'.heap.objs.size)) ∧ s'' = { s' with heap := s'.heap.push { cls := .type "enumerate", data := .fields #[.none, .bool false, it, rawInt 0, .none, .none] } }) E s') →
      wpAny (model prog w) A (pyIter (.ref x) >>= f) (fun fin s' => ∃ obj, fin = .done (.ret obj) ∧ s'.TypeIs obj "enumerate" ∧ Q obj s') E s := by
    intro f hf
    refine wpAny_bind (wpAny_mono h (fun it s' hq => wpAny_mono (hf it s') (fun fin s'' e => ?_) fun _ _ e => e) fun _ _ e => e)
    obtain ⟨rfl, rfl⟩ := e
    exact ⟨_, rfl, ⟨_, Heap.get?_push_size _ rfl, rfl⟩, hq⟩
  wp_walk
  refine wpAny_stack_any fun st => wpAny_pure ?_
  split
  · rename_i c _ _ _ _ _
    cases (c == Value.type "enumerate")
    · wp_walk using fin
      intro it s'
      wp_walk
      exact ⟨rfl, rfl⟩
    · wp_walk using fin
      intro it s'
      wp_walk
      exact ⟨rfl, rfl⟩
  · wp_walk using fin
    intro it s'
    wp_walk
    exact ⟨rfl, rfl⟩
end
end Mine
end
section
open PySem PySem.W PySem.Calls PySem.Spec PyProof.Rows
set_option maxRecDepth 100000
set_option maxHeartbeats 2000000
set_option pp.maxSteps 4000
set_option linter.unusedVariables false
namespace Mine
section
variable {w : World} {A₀ : Around} {base h₀ : Heap} {outer : List Env} {L : Addr} {m mg mb : Str → Option Value} {env : Env} {mean : ExcName → Option Value} {dp un : Nat} {gd : Option (List Code)} {s : Shared} {E Q : Value → Shared → Prop} {news : List (Addr × Obj)}

/-- iter() of a Polynomial: an iterator of its list -/
theorem pyiter_poly {x : Addr} {ns : List Int} (B : Below A₀ base outer h₀) (F : Fr h₀ L s.heap m) (N : News h₀ L s.heap news) (X : (hd.heap_39 w.params).In h₀)
    (T : Top hd.view_39 (looseW hd.view_39 [Str.ofString "EXP_TABLE", Str.ofString "LOG_TABLE", Str.ofString "rsPoly_LUT"]) mean mg mb h₀) (hf : env.frame = some L) (hke : env.scope.kind = .function) (hdp : dp + 3 < recursionLimit) (hu : un + 30 < cLine)
    (hP : IsPoly h₀ x ns) (ret : ∀ it l vs h' tk', IntsAre vs ns → h'.IsList l vs.toArray → h'.IsListIter it l 0 → s.heap.StaysIn h' → s.heap.get? it = none → (∃ o, h₀.get? l = some o) → Fr h₀ L h' m → News h₀ L h' news → Q (.ref it) { s with heap := h', toks := tk' }) :
    wpAny (model PySem.Challenge.rw_bm0035_01.prog w) (Ar dp un gd env outer) (pyIter (.ref x)) Q E s := by
  obtain ⟨dx, l, hs, ptk, pn, vs, hx, hd, hl, hi⟩ := hP.ex
  replace hx := F.keep _ _ hx
  replace hd := F.keep _ _ hd
  have hI : PySem.W.InstAt s.heap x (instObj 80 dx) 80 (some (dictOf [⟨hs, .str (Str.ofString "num") ptk, .ref l⟩] pn)) := ⟨hx, rfl, rfl, hd⟩
  revert X; k_fill; intro X
  k_dflt (refine' owit_iter (f := 58) F X hI ?hs ?hf ?_)
  case hs => k_is
  case hf => k_is
  refine piter_ct B F N X T hf hke (by omega) (by omega) hP fun it l vs h' tk' h1 h2 h3 h4 h5 h8 h6 h7 => ?_
  unfold OwitIt
  obtain ⟨oi, ho, hc, hdt⟩ := id h3
  exact wpAny_specialOf (T := "list_iterator") ⟨oi, ho, hc⟩ slot_listiter_next.lookup (ret it l vs h' tk' h1 h2 h3 h4 h5 h8 h6 h7)

theorem enum_poly {x : Addr} {ns : List Int} (B : Below A₀ base outer h₀) (F : Fr h₀ L s.heap m) (N : News h₀ L s.heap news) (X : (hd.heap_39 w.params).In h₀)
    (T : Top hd.view_39 (looseW hd.view_39 [Str.ofString "EXP_TABLE", Str.ofString "LOG_TABLE", Str.ofString "rsPoly_LUT"]) mean mg mb h₀) (hf : env.frame = some L) (hke : env.scope.kind = .function) (hdp : dp + 3 < recursionLimit) (hu : un + 40 < cLine)
    (hP : IsPoly h₀ x ns) (ret : ∀ e it l vs h' tk', IntsAre vs ns → EnumAt h₀ L h' news e it l vs.toArray → (∃ o, h₀.get? l = some o) → s.heap.StaysIn h' → Fr h₀ L h' m → News h₀ L h' news → Q (.ref e) { s with heap := h', toks := tk' }) :
    wpAny (model PySem.Challenge.rw_bm0035_01.prog w) (Ar dp un gd env outer) (call (.type "enumerate") [.ref x]) Q E s := by
  refine type_called PySem.F.called_enumerate (by decide) (PySem.F.typeCall_enumerate_1 _) (PySem.F.newCall_enumerate_1 _) (fun obj => PySem.F.args_object_init_2 obj _) PySem.F.entry_enumerate_new (enum_new ?_)
  refine pyiter_poly (un := un + 2) B F N X T hf hke (by omega) (by omega) hP fun it l vs h' tk' h1 h2 h3 h4 h5 h8 h6 h7 => ?_
  have hL : L < h'.objs.size := h6.ns.lt
  have hit : it < h'.objs.size := by obtain ⟨_, e, _⟩ := h3; exact Heap.lt_size e
  have hll : l < h'.objs.size := by obtain ⟨_, e, _⟩ := h2; exact Heap.lt_size e
  have hz : h₀.objs.size ≤ h'.objs.size := Nat.le_trans h6.above (Nat.le_of_lt hL)
  have hli : l ≠ it := by
    rintro rfl
    obtain ⟨_, e1, c1, _⟩ := h2
    obtain ⟨_, e2, c2, _⟩ := h3
    rw [e1] at e2; cases e2
    rw [c1] at c2; injection c2 with c3; exact absurd c3 (by decide)
  have hLi : L ≠ it := by
    rintro rfl
    obtain ⟨_, _, _, e1, _⟩ := F.ns
    rw [h5] at e1; cases e1
  have k : ∀ b o, h'.get? b = some o → (h'.push { cls := .type "enumerate", data := .fields #[.none, .bool false, .ref it, rawInt 0, .none, .none] }).get? b = some o := fun b o e => Heap.get?_push_of_some _ e
  refine ret h'.objs.size it l vs _ tk' h1 ⟨Heap.get?_push_size _ rfl, h3.at fun o e => k _ _ e, h2.at fun o e => k _ _ e, Nat.ne_of_gt hit, Nat.ne_of_lt hll, hli, Nat.ne_of_lt hL, hLi, Heap.get?_none_of_le hz, ?_, fun q hq => ⟨Nat.ne_of_lt (Heap.lt_size (h7 q hq).1), ?_⟩⟩ h8
    (fun b o e => k _ _ (h4 b o e)) (h6.push _) (h7.keeps k)
  · cases e : h₀.get? it with
    | none => rfl
    | some o => have := F.keep _ _ e; rw [h5] at this; cases this
  · intro e
    have := (N q hq).1
    rw [e, h5] at this; cases this

theorem len_poly {x : Addr} {ns : List Int} (B : Below A₀ base outer h₀) (F : Fr h₀ L s.heap m) (N : News h₀ L s.heap news) (X : (hd.heap_39 w.params).In h₀)
    (T : Top hd.view_39 (looseW hd.view_39 [Str.ofString "EXP_TABLE", Str.ofString "LOG_TABLE", Str.ofString "rsPoly_LUT"]) mean mg mb h₀) (hf : env.frame = some L) (hke : env.scope.kind = .function) (hdp : dp + 3 < recursionLimit) (hu : un + 30 < cLine)
    (hP : IsPoly s.heap x ns) (hln : ns.length < 2 ^ 20) (ret : ∀ t' h' tk', Fr h₀ L h' m → News h₀ L h' news → Q (.int (ns.length : Int) t') { s with heap := h', toks := tk' }) :
    wpAny (model PySem.Challenge.rw_bm0035_01.prog w) (Ar dp un gd env outer) (call (.builtin "len") [.ref x]) Q E s := by
  obtain ⟨dx, l, hs, ptk, pn, vs, hx, hd, hl, hi⟩ := hP.ex
  have hI : PySem.W.InstAt s.heap x (instObj 80 dx) 80 (some (dictOf [⟨hs, .str (Str.ofString "num") ptk, .ref l⟩] pn)) := ⟨hx, rfl, rfl, hd⟩
  revert X; k_fill; intro X
  k_dflt (refine' len_K (f := 65) F X hI ?hs ?hf ?_)
  case hs => k_is
  case hf => k_is
  refine plen_ct (dp := dp) (un := un + 1) B F N X T hf hke (by omega) (by omega) hP hln fun r t' h' tk' e F9 N9 => ?_
  subst e
  exact ⟨⟨by omega, by omega⟩, ret _ _ _ F9 N9⟩

end
end Mine
end
section
open PySem PySem.W PyProof.Rows
local macro_rules | `(tactic| walk_at "MY none 0") => `(tactic| fail)
local macro_rules | `(tactic| walk_at "MY none 1") => `(tactic| fail)
local macro_rules | `(tactic| walk_at "MY none 2") => `(tactic| fail)
theorem Mine.resetC9 : (1 : Nat) ≤ 2 := by
  w_top off
  first | walk1 | decide
end
section
open PySem PySem.W PySem.Calls PySem.Spec PyProof.Rows
set_option maxRecDepth 100000
set_option maxHeartbeats 2000000
set_option pp.maxSteps 4000
set_option linter.unusedVariables false
namespace Mine
section
variable {w : World} {A₀ : Around} {base h₀ : Heap} {outer : List Env} {L : Addr} {m mg mb : Str → Option Value} {env : Env} {mean : ExcName → Option Value} {dp un : Nat} {gd : Option (List Code)} {s : Shared} {E Q : Value → Shared → Prop} {news : List (Addr × Obj)}

/-- xor into a row's place -/
def addAt (row : List Int) (k : Nat) (v : Int) : List Int := row.set k (Builtin.bitXor (row.getD k 0) v)
theorem addAt_len (row : List Int) (k : Nat) (v : Int) : (addAt row k v).length = row.length := by unfold addAt; rw [List.length_set]
/-- one line of a product: word a, at place i, times the first j words of ms -/
def lineG (f : Int → Int → Int) (row : List Int) (i : Nat) (a : Int) (ms : List Int) (j : Nat) : List Int := (List.range j).foldl (fun r k => addAt r (i + k) (f a (ms.getD k 0))) row
theorem lineG_succ (f : Int → Int → Int) (row : List Int) (i : Nat) (a : Int) (ms : List Int) (j : Nat) : lineG f row i a ms (j + 1) = addAt (lineG f row i a ms j) (i + j) (f a (ms.getD j 0)) := by
  unfold lineG; rw [List.range_succ, List.foldl_append]; rfl
theorem lineG_len (f : Int → Int → Int) (row : List Int) (i : Nat) (a : Int) (ms : List Int) (j : Nat) : (lineG f row i a ms j).length = row.length := by
  induction j with
  | zero => rfl
  | succ j ih => rw [lineG_succ, addAt_len]; exact ih
/-- the first i lines of the product of ns and ms -/
def prodI (f : Int → Int → Int) (ns ms : List Int) (i : Nat) : List Int := (List.range i).foldl (fun r k => lineG f r k (ns.getD k 0) ms ms.length) (List.replicate (ns.length + ms.length - 1) 0)
theorem prodI_succ (f : Int → Int → Int) (ns ms : List Int) (i : Nat) : prodI f ns ms (i + 1) = lineG f (prodI f ns ms i) i (ns.getD i 0) ms ms.length := by
  unfold prodI; rw [List.range_succ, List.foldl_append]; rfl
theorem prodI_len (f : Int → Int → Int) (ns ms : List Int) (i : Nat) : (prodI f ns ms i).length = ns.length + ms.length - 1 := by
  induction i with
  | zero => exact List.length_replicate
  | succ i ih => rw [prodI_succ, lineG_len]; exact ih
def prodG (f : Int → Int → Int) (ns ms : List Int) : List Int := prodI f ns ms ns.length
/-- gexp(glog(a) + glog(b)) -/
def mulF (a b : Int) : Int := expF (logF a + logF b)
def Octs (ns : List Int) : Prop := ∀ n ∈ ns, 1 ≤ n ∧ n ≤ 255

local macro_rules | `(tactic| walk_at "MY pos") => `(tactic| omega)
local macro_rules | `(tactic| walk_at "MY room") => `(tactic| ((try simp only [depth_under_make, depth_under_kw, depth_in1, depth_deeper]); (try dsimp only [Ar, Around.in1, Around.deeper]); omega))
local macro_rules | `(tactic| walk_at "MY units") => `(tactic| ((try simp only [units_in1, units_deeper, units_under_make, Around.mark_units]); (try dsimp only [Ar, Around.in1, Around.deeper]); omega))
local macro_rules | `(tactic| walk_at "MY idx") => `(tactic| first | omega | (simp only [POWT_len, LOGT_len, EXPT_len]; omega))
local macro_rules | `(tactic| walk_at "subscriptTail Subscript") => `(tactic| (k_here; (with_reducible show wpAny _ _ (subscriptTail _ _ (Value.ref _) (Value.int _ _)) _ _ _); k_dflt (refine' item_ints ?k1 ?k2 ?k3 ?k4 ?k5 ?_; (case k1 => is_list); (case k2 => assumption); (case k3 => walk_at "MY idx"); (case k4 => walk_at "MY idx"); (case k5 => walk_at "MY idx"); k_whole); intro t9))
local macro_rules | `(tactic| walk_at "subscriptTail Name") => `(tactic| (k_here; (with_reducible show wpAny _ _ (subscriptTail _ _ (Value.ref _) (Value.int _ _)) _ _ _); k_dflt (refine' item_ints ?k1 ?k2 ?k3 ?k4 ?k5 ?_; (case k1 => is_list); (case k2 => assumption); (case k3 => walk_at "MY idx"); (case k4 => walk_at "MY idx"); (case k5 => walk_at "MY idx"); k_whole); intro t9))

local macro_rules | `(tactic| walk_at "exec For Tuple Call cons nil") => `(tactic| (k_here; (rename Fr _ _ _ _ => F'); (with_reducible apply For_pair3F); (case _F => with_unfolding_all exact F'); (case hh => with_unfolding_all rfl); (case hxi => with_unfolding_all rfl); (case hxc => with_unfolding_all rfl); (case hp => with_unfolding_all rfl); (case hs => (intro _; with_unfolding_all rfl))))
local macro_rules | `(tactic| walk_at "call type:enumerate") => `(tactic| (k_here; (with_reducible show wpAny _ _ (call (Value.type _) [Value.ref _]) _ _ _); k_dflt (refine' call_enum_any ?F ?N ?l ?_; (case F => k_asm); (case N => k_asm); (case l => is_list); k_whole); intro e9 it9 h9 F' N' I9; (try k_sweep)))
local macro_rules | `(tactic| walk_at "pyIter ref") => `(tactic| (k_here; (with_reducible show wpAny _ _ (pyIter (Value.ref _)) (fun it s₂ => PairAt3 _ _ _ _ _ _ _ _ _ _ it s₂) _ _); refine STOP.intro ?_))

local macro_rules | `(tactic| walk_at "exec For Name Call cons nil") => `(tactic| (k_here; (rename Fr _ _ _ _ => lF'); (with_unfolding_all refine' For_invVF lF' ?k1 ?k2 ?_; (case k1 => exact rfl); (case k2 => exact rfl); k_whole)))
local macro_rules | `(tactic| walk_at "exec For Name Name cons nil") => `(tactic| (k_here; (rename Fr _ _ _ _ => lF'); (with_unfolding_all refine' For_invVF lF' ?k1 ?k2 ?_; (case k1 => exact rfl); (case k2 => exact rfl); k_whole)))
local macro_rules | `(tactic| walk_at "pyIter ref") => `(tactic| (k_here; (with_reducible show wpAny _ _ (pyIter (Value.ref _)) (fun it s₂ => LoopAtV _ _ _ _ _ _ _ _ _ it s₂) _ _); refine STOP.intro ?_))

local macro_rules | `(tactic| walk_at "subscriptTail Name Slice ref ref") => `(tactic| (k_here; (with_reducible show wpAny _ _ (subscriptTail _ (PySem.Expr.Slice _ _ none _) (Value.ref _) (Value.ref _)) _ _ _); k_dflt (refine' kmk_slice_ints ?F ?N ?l ?p ?q ?i ?m ?c ?_ ?s ?t ?z; (case F => k_asm); (case N => k_asm); (case l => kmk_list); (case p => kmk_part); (case q => kmk_part); (case i => assumption); (case m => first | exact kmk_from (by assumption) (by omega) | exact kmk_run (by assumption) (by omega) (by omega) | exact kmk_from_neg (by assumption) (by omega)); (case c => kmk_len); (case s => with_unfolding_all rfl); (case t => kmk_pure); (case z => (refine kmk_sz (by assumption) ?_; (simp only [PySem.sizeLine_eq]; omega)))); intro D' ws' h' F' N' l1 hI' hC' hL'; (try k_lt l1); (try k_sweep)))
local macro_rules | `(tactic| walk_at "call ref") => `(tactic| (k_here; (with_reducible show wpAny _ _ (call (Value.ref 30) [Value.int _ _]) _ _ _); k_dflt (refine' gexp_ct ?F ?N ?X ?T ?hdp ?hu  ?_; (case F => k_asm); (case N => k_asm); (case X => k_asm); (case T => k_asm); (case hdp => walk_at "MY room"); (case hu => walk_at "MY units"); k_whole); intro t9 h9 tk9 F9 N9; (try k_sweep)))
local macro_rules | `(tactic| walk_at "call ref") => `(tactic| (k_here; (with_reducible show wpAny _ _ (call (Value.ref 23) [Value.int _ _]) _ _ _); k_dflt (refine' glog_ct ?F ?N ?X ?T ?hdp ?hu ?p1 ?p2 ?_; (case F => k_asm); (case N => k_asm); (case X => k_asm); (case T => k_asm); (case hdp => walk_at "MY room"); (case hu => walk_at "MY units"); (case p1 => omega); (case p2 => omega); k_whole); intro t9 h9 tk9 F9 N9; (try k_sweep)))
local macro_rules | `(tactic| walk_at "call builtin:len") => `(tactic| (k_here; (with_reducible show wpAny _ _ (call (Value.builtin "len") [Value.ref _]) _ _ _); k_dflt (refine' len_poly ?B ?F ?N ?X ?T ?hf ?hke ?hdp ?hu ?p1 ?p2 ?_; (case p1 => first | assumption | exact PolyNew.is (by assumption) | exact IsPoly.keeps (by assumption) (Fr.keep (by k_asm))); (case p2 => omega); (case B => k_asm); (case F => k_asm); (case N => k_asm); (case X => k_asm); (case T => k_asm); (case hf => exact rfl); (case hke => exact rfl); (case hdp => walk_at "MY room"); (case hu => walk_at "MY units"); k_whole); intro t9 h9 tk9 F9 N9; (try k_sweep)))
local macro_rules | `(tactic| walk_at "call ref") => `(tactic| (k_here; (with_reducible show wpAny _ _ (call (Value.ref 80) [Value.ref _, Value.int _ _]) _ _ _); k_dflt (refine' poly_ct ?B ?F ?N ?X ?T ?hf ?hke ?hdp ?hu ?p1 ?p2 ?p3 ?p4 ?p5 ?p6 ?_; (case B => k_asm); (case F => k_asm); (case N => k_asm); (case X => k_asm); (case T => k_asm); (case hf => exact rfl); (case hke => exact rfl); (case hdp => walk_at "MY room"); (case hu => walk_at "MY units"); (case p1 => is_list); (case p2 => assumption); (case p3 => walk_at "MY pos"); (case p4 => walk_at "MY pos"); (case p5 => omega); (case p6 => omega); k_whole); intro x9 h9 tk9 hP9 hS9 F9 N9; (try k_sweep)))
local macro_rules | `(tactic| walk_at "call type:enumerate") => `(tactic| (k_here; (with_reducible show wpAny _ _ (call (Value.type _) [Value.ref _]) _ _ _); k_dflt (refine' enum_poly ?B ?F ?N ?X ?T ?hf ?hke ?hdp ?hu ?p1 ?_; (case p1 => assumption); (case B => k_asm); (case F => k_asm); (case N => k_asm); (case X => k_asm); (case T => k_asm); (case hf => exact rfl); (case hke => exact rfl); (case hdp => walk_at "MY room"); (case hu => walk_at "MY units"); k_whole); intro e9 it9 l9 vs9 h9 tk9 hi9 I9 hl9 S9 F9 N9; (try k_sweep)))
theorem mul_ct {x y : Addr} {ns ms : List Int} (B : Below A₀ base outer h₀) (F : Fr h₀ L s.heap m) (N : News h₀ L s.heap news) (X : (hd.heap_39 w.params).In h₀)
    (T : Top hd.view_39 (looseW hd.view_39 [Str.ofString "EXP_TABLE", Str.ofString "LOG_TABLE", Str.ofString "rsPoly_LUT"]) mean mg mb h₀) (hf : env.frame = some L) (hke : env.scope.kind = .function) (hdp : dp + 8 < recursionLimit) (hu : un + 100 < cLine)
    (hx : IsPoly s.heap x ns) (hy : IsPoly s.heap y ms) (hnx : Octs ns) (hny : Octs ms) (hlx : 0 < ns.length) (hly : 0 < ms.length) (hlx2 : ns.length ≤ 1000) (hly2 : ms.length ≤ 1000)
    (ret : ∀ z h' tk', PolyNew s.heap h' z (polyF (prodG mulF ns ms) 0) → s.heap.StaysIn h' → Fr h₀ L h' m → News h₀ L h' news → Q (.ref z) { s with heap := h', toks := tk' }) :
    wpAny (model PySem.Challenge.rw_bm0035_01.prog w) (Ar dp un gd env outer) (call (.ref 72) [.ref x, .ref y]) Q E s := by
  revert X; k_fill; intro X
  k_dflt (refine' enter0 (binds := [(Str.ofString "self", .ref x), (Str.ofString "other", .ref y)]) B F X T rfl hf hke ?ho ?hcd ?hroom ?hbind ?hloc ?_ ?c1 ?c2 ?c3 ?c4)
  case ho => k_is
  case hcd => k_is
  case hroom => ktr_room
  case hbind => exact BindsTo.of_eq rfl
  case hloc => exact locs rfl
  case c1 => exact rfl
  case c2 => exact rfl
  case c3 => exact rfl
  case c4 => decide
  intro h₁ F' N' B' X' T'
  try dsimp only
  k_fold
  k_steps
  rename Fr _ _ _ _ => F2
  rename News _ _ _ _ => N2
  rename EnumAt _ _ _ _ _ _ _ _ => I2
  rename IntsAre (List.flatten _) _ => hz
  rename IntsAre _ ns => hi1
  rename_i t0 la hq1 hl0 t1 hq2 tq2 t2 hq3 tq3 da hq4 n1 s1 e1 e2 e3 hl2 hq5 e9 it9 l9 vs9 h9 tq9 hlb S9
  have hvl : vs9.toArray.size = ns.length := by rw [List.size_toArray, hi1.length]
  refine enum_at (fun i m nx => ∃ k ws, nx = [(da, W.listOf (List.toArray ws) k), (la, W.listOf #[Value.int 0 t0] 0)] ∧ IntsAre ws (prodI mulF ns ms i) ∧ m (Str.ofString "num") = some (.ref da) ∧ m (Str.ofString "other") = some (.ref y)) rfl I2 F2 N2 ⟨0, _, rfl, ?_, rfl, rfl⟩ ?_ ?_
  · have e : prodI mulF ns ms 0 = (List.replicate ((ns.length : Int) + (ms.length : Int) - 1).toNat [(0 : Int)]).flatten := by
      unfold prodI
      simp only [List.range_zero, List.foldl_nil]
      have e : ((ns.length : Int) + (ms.length : Int) - 1).toNat = ns.length + ms.length - 1 := by omega
      rw [e]; simp
    rw [e]; exact hz
  · rintro i v ti m₂ nx h tk own hv ⟨k, ws, rfl, hw, hm1, hm2⟩ _ hown F3 N3
    obtain ⟨m₃, e3⟩ := map_know hm1
    subst e3
    obtain ⟨m₄, e4⟩ := map_know (x := Str.ofString "other") (m := m₃) hm2
    subst e4
    have hin : i < ns.length := by have := (Array.getElem?_eq_some_iff.mp hv).1; omega
    obtain ⟨a, ta, rfl, ha⟩ := hi1.at i v (by simpa using hv)
    have ha2 : ns.getD i 0 = a := by rw [List.getD_eq_getElem?_getD, ha]; rfl
    obtain ⟨ha3, ha4⟩ := hnx a (List.mem_of_getElem? ha)
    have h1 := I2.hfn _ (List.mem_cons_self ..)
    have hdl : da ≠ l9 := by
      rintro rfl
      obtain ⟨o, e⟩ := hlb
      rw [(N2 _ (List.mem_cons_self ..)).2.2] at e; cases e
    obtain ⟨R, hR⟩ : ∃ R, R = [(la, W.listOf #[Value.int 0 t0] 0)] ++ own := ⟨_, rfl⟩
    replace N3 : News s.heap s.heap.objs.size h ((da, W.listOf (List.toArray ws) k) :: R) := by rw [hR]; exact N3
    have hoff : OwnOff R [da] := by
      intro p hp b hb
      rw [List.mem_singleton] at hb
      rw [hb]
      rw [hR] at hp
      rcases List.mem_append.mp hp with hp | hp
      · rw [List.mem_singleton] at hp; rw [hp]; exact Nat.ne_of_lt hl2
      · have := hown p hp
        simp only [List.mem_cons, List.not_mem_nil, or_false] at this
        rcases this with e | e | e <;> rw [e]
        · exact fun e => h1.1 e.symm
        · exact fun e => h1.2 e.symm
        · exact fun e => hdl e.symm
    obtain ⟨row, hrow⟩ : ∃ row, row = prodI mulF ns ms i := ⟨_, rfl⟩
    rw [← hrow] at hw
    have hrl : row.length = ns.length + ms.length - 1 := by rw [hrow]; exact prodI_len _ _ _ _
    clear F2 N2 I2 hv hm1 hm2 hz s1 e1 e2 e3 hvl hl2 hi1 hl0
    show wpAny _ _ _ _ _ _
    k_fold
    k_steps
    rename Fr _ _ _ _ => F4
    rename News _ _ _ _ => N4
    rename EnumAt _ _ _ _ _ _ _ _ => I4
    rename IntsAre _ ms => hi2
    rename_i e8 it8 l8 vs8 h8 tq8 hlb8 S8
    have hvl2 : vs8.toArray.size = ms.length := by rw [List.size_toArray, hi2.length]
    refine enum_at (fun j m nx => ∃ k ws, nx = (da, W.listOf (List.toArray ws) k) :: R ∧ IntsAre ws (lineG mulF row i a ms j) ∧ m (Str.ofString "num") = some (.ref da) ∧ m (Str.ofString "other") = some (.ref y) ∧ m (Str.ofString "i") = some (.int (i : Int) ti) ∧ m (Str.ofString "item") = some (.int a ta)) rfl I4 F4 N4 ⟨k, ws, rfl, hw, rfl, rfl, rfl, rfl⟩ ?_ ?_
    · rintro j v tj m₂ nx h tk own2 hv ⟨k, ws, rfl, hw, hm1, hm2, hm3, hm4⟩ _ hown2 F3 N3
      obtain ⟨m₃, e3⟩ := map_know hm1
      subst e3
      obtain ⟨m₄, e4⟩ := map_know (x := Str.ofString "other") (m := m₃) hm2
      subst e4
      obtain ⟨m₅, e5⟩ := map_know (x := Str.ofString "i") (m := m₄) hm3
      subst e5
      obtain ⟨m₆, e6⟩ := map_know (x := Str.ofString "item") (m := m₅) hm4
      subst e6
      have hjn : j < ms.length := by have := (Array.getElem?_eq_some_iff.mp hv).1; omega
      obtain ⟨b, tb, rfl, hb⟩ := hi2.at j v (by simpa using hv)
      have hb2 : ms.getD j 0 = b := by rw [List.getD_eq_getElem?_getD, hb]; rfl
      obtain ⟨hb3, hb4⟩ := hny b (List.mem_of_getElem? hb)
      have h2 := I4.hfn _ (List.mem_cons_self ..)
      have hdl2 : da ≠ l8 := by
        rintro rfl
        obtain ⟨o, e⟩ := hlb8
        rw [(N4 _ (List.mem_cons_self ..)).2.2] at e; cases e
      obtain ⟨R2, hR2⟩ : ∃ R2, R2 = R ++ own2 := ⟨_, rfl⟩
      replace N3 : News s.heap s.heap.objs.size h ((da, W.listOf (List.toArray ws) k) :: R2) := by rw [hR2]; exact N3
      have hoff2 : OwnOff R2 [da] := by
        intro p hp b hb
        rw [List.mem_singleton] at hb
        rw [hb]
        rw [hR2] at hp
        rcases List.mem_append.mp hp with hp | hp
        · exact hoff p hp da (List.mem_singleton.mpr rfl)
        · have := hown2 p hp
          simp only [List.mem_cons, List.not_mem_nil, or_false] at this
          rcases this with e | e | e <;> rw [e]
          · exact fun e => h2.1 e.symm
          · exact fun e => h2.2 e.symm
          · exact fun e => hdl2 e.symm
      obtain ⟨lg, hlg⟩ : ∃ lg, lg = lineG mulF row i a ms j := ⟨_, rfl⟩
      rw [← hlg] at hw
      have hll : lg.length = ns.length + ms.length - 1 := by rw [hlg, lineG_len]; exact hrl
      clear F4 N4 I4 hv hm1 hm2 hm3 hm4 hvl2 hi2 hoff
      show wpAny _ _ _ _ _ _
      k_fold
      k_steps
      rename Fr _ _ _ _ => F5
      rename News _ _ _ _ => N5
      rename IntsAre (List.set _ _ _) _ => hw5
      have e : lineG mulF row i a ms (j + 1) = lg.set ((i : Int) + (j : Int)).toNat (Builtin.bitXor (lg.getD ((i : Int) + (j : Int)).toNat 0) (expF (logF a + logF b))) := by
        have e : ((i : Int) + (j : Int)).toNat = i + j := by omega
        rw [lineG_succ, ← hlg, hb2, e]; rfl
      rw [← e] at hw5
      refine InvEndN.intro F5 N5 ⟨k, _, rfl, hw5, rfl, rfl, rfl, rfl⟩ rfl (fun p hp => ?_) (fun p hp => ?_)
      · rcases List.mem_cons.mp hp with rfl | hp
        · exact List.mem_cons_self ..
        · exact List.mem_cons_of_mem _ (by rw [hR2]; exact List.mem_append_left _ hp)
      · exact List.mem_cons_of_mem _ (by rw [hR2]; exact List.mem_append_right _ hp)
    · rintro h' tk' m₂ nx F5 N5 ⟨k', ws', rfl, hw', hm1, hm2, hm3, hm4⟩
      rw [hvl2, hrow, ← ha2, ← prodI_succ] at hw'
      show wpAny _ _ _ _ _ _
      refine wpAny_execs_nil ?_
      refine InvEndN.intro F5 N5 ⟨k', _, rfl, hw', hm1, hm2⟩ rfl (fun p hp => ?_) (fun p hp => ?_)
      · rcases List.mem_cons.mp hp with rfl | hp
        · exact List.mem_cons_self ..
        · exact List.mem_cons_of_mem _ (by rw [hR]; exact List.mem_append_left _ hp)
      · exact List.mem_cons_of_mem _ (by rw [hR]; exact List.mem_append_right _ hp)
  · rintro h' tk' m₂ nx F3 N3 ⟨k, ws, rfl, hw, hm1, hm2⟩
    obtain ⟨m₃, e3⟩ := map_know hm1
    subst e3
    rw [hvl] at hw
    have hpl : (prodI mulF ns ms ns.length).length = ns.length + ms.length - 1 := prodI_len _ _ _ _
    clear F2 N2 I2 hm1 hm2 hz s1 e1 e2 e3 hvl hl2 hi1 hl0
    have K3 := F3.keep
    show wpAny _ _ _ _ _ _
    try k_fold
    k_steps
    rename Fr _ _ _ _ => F6
    rename News _ _ _ _ => N6
    rename PolyNew _ _ _ _ => hP6
    exact ret _ _ _ (hP6.since K3) F6.keep (F.keeps F6.keep) (N.keeps F6.keep)

end
end Mine
end
section
open PySem PySem.W PyProof.Rows
local macro_rules | `(tactic| walk_at "MY none 0") => `(tactic| fail)
local macro_rules | `(tactic| walk_at "MY none 1") => `(tactic| fail)
local macro_rules | `(tactic| walk_at "MY none 2") => `(tactic| fail)
theorem Mine.resetC10 : (1 : Nat) ≤ 2 := by
  w_top off
  first | walk1 | decide
end
section
open PySem PySem.W PySem.Calls PySem.Spec PyProof.Rows
set_option maxRecDepth 100000
set_option maxHeartbeats 2000000
set_option pp.maxSteps 4000
set_option linter.unusedVariables false
namespace Mine
section
variable {w : World} {A₀ : Around} {base h₀ : Heap} {outer : List Env} {L : Addr} {m mg mb : Str → Option Value} {env : Env} {mean : ExcName → Option Value} {dp un : Nat} {gd : Option (List Code)} {s : Shared} {E Q : Value → Shared → Prop} {news : List (Addr × Obj)}

def Bytes (ns : List Int) : Prop := ∀ n ∈ ns, 0 ≤ n ∧ n ≤ 255

local macro_rules | `(tactic| walk_at "MY pos") => `(tactic| omega)
local macro_rules | `(tactic| walk_at "MY room") => `(tactic| ((try simp only [depth_under_make, depth_under_kw, depth_in1, depth_deeper]); (try dsimp only [Ar, Around.in1, Around.deeper]); omega))
local macro_rules | `(tactic| walk_at "MY units") => `(tactic| ((try simp only [units_in1, units_deeper, units_under_make, Around.mark_units]); (try dsimp only [Ar, Around.in1, Around.deeper]); omega))
local macro_rules | `(tactic| walk_at "MY idx") => `(tactic| first | omega | (simp only [POWT_len, LOGT_len, EXPT_len]; omega))
local macro_rules | `(tactic| walk_at "subscriptTail Subscript") => `(tactic| (k_here; (with_reducible show wpAny _ _ (subscriptTail _ _ (Value.ref _) (Value.int _ _)) _ _ _); k_dflt (refine' item_ints ?k1 ?k2 ?k3 ?k4 ?k5 ?_; (case k1 => is_list); (case k2 => assumption); (case k3 => walk_at "MY idx"); (case k4 => walk_at "MY idx"); (case k5 => walk_at "MY idx"); k_whole); intro t9))
local macro_rules | `(tactic| walk_at "subscriptTail Name") => `(tactic| (k_here; (with_reducible show wpAny _ _ (subscriptTail _ _ (Value.ref _) (Value.int _ _)) _ _ _); k_dflt (refine' item_ints ?k1 ?k2 ?k3 ?k4 ?k5 ?_; (case k1 => is_list); (case k2 => assumption); (case k3 => walk_at "MY idx"); (case k4 => walk_at "MY idx"); (case k5 => walk_at "MY idx"); k_whole); intro t9))

local macro_rules | `(tactic| walk_at "exec For Tuple Call cons nil") => `(tactic| (k_here; (rename Fr _ _ _ _ => F'); (with_reducible apply For_pair3F); (case _F => with_unfolding_all exact F'); (case hh => with_unfolding_all rfl); (case hxi => with_unfolding_all rfl); (case hxc => with_unfolding_all rfl); (case hp => with_unfolding_all rfl); (case hs => (intro _; with_unfolding_all rfl))))
local macro_rules | `(tactic| walk_at "call type:enumerate") => `(tactic| (k_here; (with_reducible show wpAny _ _ (call (Value.type _) [Value.ref _]) _ _ _); k_dflt (refine' call_enum_any ?F ?N ?l ?_; (case F => k_asm); (case N => k_asm); (case l => is_list); k_whole); intro e9 it9 h9 F' N' I9; (try k_sweep)))
local macro_rules | `(tactic| walk_at "pyIter ref") => `(tactic| (k_here; (with_reducible show wpAny _ _ (pyIter (Value.ref _)) (fun it s₂ => PairAt3 _ _ _ _ _ _ _ _ _ _ it s₂) _ _); refine STOP.intro ?_))

local macro_rules | `(tactic| walk_at "exec For Name Call cons nil") => `(tactic| (k_here; (rename Fr _ _ _ _ => lF'); (with_unfolding_all refine' For_invVF lF' ?k1 ?k2 ?_; (case k1 => exact rfl); (case k2 => exact rfl); k_whole)))
local macro_rules | `(tactic| walk_at "exec For Name Name cons nil") => `(tactic| (k_here; (rename Fr _ _ _ _ => lF'); (with_unfolding_all refine' For_invVF lF' ?k1 ?k2 ?_; (case k1 => exact rfl); (case k2 => exact rfl); k_whole)))
local macro_rules | `(tactic| walk_at "pyIter ref") => `(tactic| (k_here; (with_reducible show wpAny _ _ (pyIter (Value.ref _)) (fun it s₂ => LoopAtV _ _ _ _ _ _ _ _ _ it s₂) _ _); refine STOP.intro ?_))

local macro_rules | `(tactic| walk_at "subscriptTail Name Slice ref ref") => `(tactic| (k_here; (with_reducible show wpAny _ _ (subscriptTail _ (PySem.Expr.Slice _ _ none _) (Value.ref _) (Value.ref _)) _ _ _); k_dflt (refine' kmk_slice_ints ?F ?N ?l ?p ?q ?i ?m ?c ?_ ?s ?t ?z; (case F => k_asm); (case N => k_asm); (case l => kmk_list); (case p => kmk_part); (case q => kmk_part); (case i => assumption); (case m => first | exact kmk_from (by assumption) (by omega) | exact kmk_run (by assumption) (by omega) (by omega) | exact kmk_from_neg (by assumption) (by omega)); (case c => kmk_len); (case s => with_unfolding_all rfl); (case t => kmk_pure); (case z => (refine kmk_sz (by assumption) ?_; (simp only [PySem.sizeLine_eq]; omega)))); intro D' ws' h' F' N' l1 hI' hC' hL'; (try k_lt l1); (try k_sweep)))
local macro_rules | `(tactic| walk_at "call ref") => `(tactic| (k_here; (with_reducible show wpAny _ _ (call (Value.ref 112) [Value.ref _, Value.int _ _, Value.int _ _]) _ _ _); k_dflt (refine' times_ct ?F ?N ?X ?T ?hdp ?hu ?p1 ?p2 ?p3 ?p4 ?p5 ?_; (case F => k_asm); (case N => k_asm); (case X => k_asm); (case T => k_asm); (case hdp => walk_at "MY room"); (case hu => walk_at "MY units"); (case p1 => first | assumption | exact IsField.keeps (by assumption) (Fr.keep (by k_asm))); (case p2 => omega); (case p3 => omega); (case p4 => omega); (case p5 => omega); k_whole); intro r9 t9 h9 tk9 e9 F9 N9; subst e9; (try k_sweep)))
theorem prod_ct {fa l r : Addr} {vs us : List Value} {ns ms : List Int} (B : Below A₀ base outer h₀) (F : Fr h₀ L s.heap m) (N : News h₀ L s.heap news) (X : (hd.heap_39 w.params).In h₀)
    (T : Top hd.view_39 (looseW hd.view_39 [Str.ofString "EXP_TABLE", Str.ofString "LOG_TABLE", Str.ofString "rsPoly_LUT"]) mean mg mb h₀) (hf : env.frame = some L) (hke : env.scope.kind = .function) (hdp : dp + 8 < recursionLimit) (hu : un + 100 < cLine)
    (hF : IsField s.heap fa) (hlL : s.heap.IsList l vs.toArray) (hi1 : IntsAre vs ns) (hlR : s.heap.IsList r us.toArray) (hi2 : IntsAre us ms) (hnx : Bytes ns) (hny : Bytes ms) (hlx : 0 < ns.length) (hly : 0 < ms.length) (hlx2 : ns.length ≤ 1000) (hly2 : ms.length ≤ 1000)
    (ret : ∀ ra ws k h' tk', IntsAre ws (prodG timesF ns ms) → s.heap.StaysIn h' → s.heap.get? ra = none → h'.get? ra = some (W.listOf (List.toArray ws) k) → Fr h₀ L h' m → News h₀ L h' news → Q (.ref ra) { s with heap := h', toks := tk' }) :
    wpAny (model PySem.Challenge.rw_bm0035_01.prog w) (Ar dp un gd env outer) (call (.ref 119) [.ref fa, .ref l, .ref r]) Q E s := by
  revert X; k_fill; intro X
  k_dflt (refine' enter0 (binds := [(Str.ofString "field", .ref fa), (Str.ofString "left", .ref l), (Str.ofString "right", .ref r)]) B F X T rfl hf hke ?ho ?hcd ?hroom ?hbind ?hloc ?_ ?c1 ?c2 ?c3 ?c4)
  case ho => k_is
  case hcd => k_is
  case hroom => ktr_room
  case hbind => exact BindsTo.of_eq rfl
  case hloc => exact locs rfl
  case c1 => exact rfl
  case c2 => exact rfl
  case c3 => exact rfl
  case c4 => decide
  intro h₁ F' N' B' X' T'
  try dsimp only
  k_fold
  k_steps
  rename Fr _ _ _ _ => F2
  rename News _ _ _ _ => N2
  rename EnumAt _ _ _ _ _ _ _ _ => I2
  rename IntsAre (List.flatten _) _ => hz
  rename_i t0 la hq1 hl0 da hq4 n1 s1 e1 e2 e3 hl2 hq5 e9 it9 h9
  have hvl : vs.toArray.size = ns.length := by rw [List.size_toArray, hi1.length]
  have hvl2 : us.toArray.size = ms.length := by rw [List.size_toArray, hi2.length]
  refine enum_at (fun i m nx => ∃ k ws, nx = [(da, W.listOf (List.toArray ws) k), (la, W.listOf #[Value.int 0 t0] 0)] ∧ IntsAre ws (prodI timesF ns ms i) ∧ m (Str.ofString "row") = some (.ref da) ∧ m (Str.ofString "right") = some (.ref r) ∧ m (Str.ofString "field") = some (.ref fa)) rfl I2 F2 N2 ⟨0, _, rfl, ?_, rfl, rfl, rfl⟩ ?_ ?_
  · have e : prodI timesF ns ms 0 = (List.replicate ((ns.length : Int) + (ms.length : Int) - 1).toNat [(0 : Int)]).flatten := by
      unfold prodI
      simp only [List.range_zero, List.foldl_nil]
      have e : ((ns.length : Int) + (ms.length : Int) - 1).toNat = ns.length + ms.length - 1 := by omega
      rw [e]; simp
    rw [e]; exact hz
  · rintro i v ti m₂ nx h tk own hv ⟨k, ws, rfl, hw, hm1, hm2, hm3⟩ _ hown F3 N3
    obtain ⟨m₃, e3⟩ := map_know hm1
    subst e3
    obtain ⟨m₄, e4⟩ := map_know (x := Str.ofString "right") (m := m₃) hm2
    subst e4
    obtain ⟨m₅, e5⟩ := map_know (x := Str.ofString "field") (m := m₄) hm3
    subst e5
    have hin : i < ns.length := by have := (Array.getElem?_eq_some_iff.mp hv).1; omega
    obtain ⟨a, ta, rfl, ha⟩ := hi1.at i v (by simpa using hv)
    have ha2 : ns.getD i 0 = a := by rw [List.getD_eq_getElem?_getD, ha]; rfl
    obtain ⟨ha3, ha4⟩ := hnx a (List.mem_of_getElem? ha)
    have h1 := I2.hfn _ (List.mem_cons_self ..)
    have hdl : da ≠ l := by
      rintro rfl
      obtain ⟨o, e, _⟩ := hlL
      rw [(N2 _ (List.mem_cons_self ..)).2.2] at e; cases e
    have hdr : da ≠ r := by
      rintro rfl
      obtain ⟨o, e, _⟩ := hlR
      rw [(N2 _ (List.mem_cons_self ..)).2.2] at e; cases e
    obtain ⟨R, hR⟩ : ∃ R, R = [(la, W.listOf #[Value.int 0 t0] 0)] ++ own := ⟨_, rfl⟩
    replace N3 : News s.heap s.heap.objs.size h ((da, W.listOf (List.toArray ws) k) :: R) := by rw [hR]; exact N3
    have hoff : OwnOff R [da] := by
      intro p hp b hb
      rw [List.mem_singleton] at hb
      rw [hb]
      rw [hR] at hp
      rcases List.mem_append.mp hp with hp | hp
      · rw [List.mem_singleton] at hp; rw [hp]; exact Nat.ne_of_lt hl2
      · have := hown p hp
        simp only [List.mem_cons, List.not_mem_nil, or_false] at this
        rcases this with e | e | e <;> rw [e]
        · exact fun e => h1.1 e.symm
        · exact fun e => h1.2 e.symm
        · exact fun e => hdl e.symm
    obtain ⟨row, hrow⟩ : ∃ row, row = prodI timesF ns ms i := ⟨_, rfl⟩
    rw [← hrow] at hw
    have hrl : row.length = ns.length + ms.length - 1 := by rw [hrow]; exact prodI_len _ _ _ _
    clear F2 N2 I2 hv hm1 hm2 hm3 hz s1 e1 e2 e3 hvl hl2 hi1 hl0 hlL
    show wpAny _ _ _ _ _ _
    k_fold
    k_steps
    rename Fr _ _ _ _ => F4
    rename News _ _ _ _ => N4
    rename EnumAt _ _ _ _ _ _ _ _ => I4
    rename_i e8 it8 h8
    refine enum_at (fun j m nx => ∃ k ws, nx = (da, W.listOf (List.toArray ws) k) :: R ∧ IntsAre ws (lineG timesF row i a ms j) ∧ m (Str.ofString "row") = some (.ref da) ∧ m (Str.ofString "right") = some (.ref r) ∧ m (Str.ofString "field") = some (.ref fa) ∧ m (Str.ofString "k") = some (.int (i : Int) ti) ∧ m (Str.ofString "one") = some (.int a ta)) rfl I4 F4 N4 ⟨k, ws, rfl, hw, rfl, rfl, rfl, rfl, rfl⟩ ?_ ?_
    · rintro j v tj m₂ nx h tk own2 hv ⟨k, ws, rfl, hw, hm1, hm2, hm5, hm3, hm4⟩ _ hown2 F3 N3
      obtain ⟨m₃, e3⟩ := map_know hm1
      subst e3
      obtain ⟨m₇, e7⟩ := map_know (x := Str.ofString "field") (m := m₃) hm5
      subst e7
      obtain ⟨m₅, e5⟩ := map_know (x := Str.ofString "k") (m := m₇) hm3
      subst e5
      obtain ⟨m₆, e6⟩ := map_know (x := Str.ofString "one") (m := m₅) hm4
      subst e6
      obtain ⟨m₈, e8⟩ := map_know (x := Str.ofString "right") (m := m₆) hm2
      subst e8
      have hjn : j < ms.length := by have := (Array.getElem?_eq_some_iff.mp hv).1; omega
      obtain ⟨b, tb, rfl, hb⟩ := hi2.at j v (by simpa using hv)
      have hb2 : ms.getD j 0 = b := by rw [List.getD_eq_getElem?_getD, hb]; rfl
      obtain ⟨hb3, hb4⟩ := hny b (List.mem_of_getElem? hb)
      have h2 := I4.hfn _ (List.mem_cons_self ..)
      obtain ⟨R2, hR2⟩ : ∃ R2, R2 = R ++ own2 := ⟨_, rfl⟩
      replace N3 : News s.heap s.heap.objs.size h ((da, W.listOf (List.toArray ws) k) :: R2) := by rw [hR2]; exact N3
      have hoff2 : OwnOff R2 [da] := by
        intro p hp b hb
        rw [List.mem_singleton] at hb
        rw [hb]
        rw [hR2] at hp
        rcases List.mem_append.mp hp with hp | hp
        · exact hoff p hp da (List.mem_singleton.mpr rfl)
        · have := hown2 p hp
          simp only [List.mem_cons, List.not_mem_nil, or_false] at this
          rcases this with e | e | e <;> rw [e]
          · exact fun e => h2.1 e.symm
          · exact fun e => h2.2 e.symm
          · exact fun e => hdr e.symm
      obtain ⟨lg, hlg⟩ : ∃ lg, lg = lineG timesF row i a ms j := ⟨_, rfl⟩
      rw [← hlg] at hw
      have hll : lg.length = ns.length + ms.length - 1 := by rw [hlg, lineG_len]; exact hrl
      clear F4 N4 I4 hv hm1 hm2 hm3 hm4 hm5 hvl2 hi2 hoff hlR
      show wpAny _ _ _ _ _ _
      k_fold
      k_steps
      rename Fr _ _ _ _ => F5
      rename News _ _ _ _ => N5
      rename IntsAre (List.set _ _ _) _ => hw5
      have e : lineG timesF row i a ms (j + 1) = lg.set ((i : Int) + (j : Int)).toNat (Builtin.bitXor (lg.getD ((i : Int) + (j : Int)).toNat 0) (timesF a b)) := by
        have e : ((i : Int) + (j : Int)).toNat = i + j := by omega
        rw [lineG_succ, ← hlg, hb2, e]; rfl
      rw [← e] at hw5
      refine InvEndN.intro F5 N5 ⟨k, _, rfl, hw5, rfl, rfl, rfl, rfl, rfl⟩ rfl (fun p hp => ?_) (fun p hp => ?_)
      · rcases List.mem_cons.mp hp with rfl | hp
        · exact List.mem_cons_self ..
        · exact List.mem_cons_of_mem _ (by rw [hR2]; exact List.mem_append_left _ hp)
      · exact List.mem_cons_of_mem _ (by rw [hR2]; exact List.mem_append_right _ hp)
    · rintro h' tk' m₂ nx F5 N5 ⟨k', ws', rfl, hw', hm1, hm2, hm5, hm3, hm4⟩
      rw [hvl2, hrow, ← ha2, ← prodI_succ] at hw'
      show wpAny _ _ _ _ _ _
      refine wpAny_execs_nil ?_
      refine InvEndN.intro F5 N5 ⟨k', _, rfl, hw', hm1, hm2, hm5⟩ rfl (fun p hp => ?_) (fun p hp => ?_)
      · rcases List.mem_cons.mp hp with rfl | hp
        · exact List.mem_cons_self ..
        · exact List.mem_cons_of_mem _ (by rw [hR]; exact List.mem_append_left _ hp)
      · exact List.mem_cons_of_mem _ (by rw [hR]; exact List.mem_append_right _ hp)
  · rintro h' tk' m₂ nx F3 N3 ⟨k, ws, rfl, hw, hm1, hm2, hm3⟩
    obtain ⟨m₃, e3⟩ := map_know hm1
    subst e3
    rw [hvl] at hw
    clear F2 N2 I2 hm1 hm2 hz s1 e1 e2 e3 hvl hl2 hi1 hl0
    show wpAny _ _ _ _ _ _
    try k_fold
    k_steps
    have g := N3 _ (List.mem_cons_self ..)
    exact ret _ _ _ _ _ hw F3.keep g.2.2 g.1 (F.keeps F3.keep) (N.keeps F3.keep)

end
end Mine
end
section
open PySem
set_option maxRecDepth 100000
namespace Mine
theorem nat_xor_and (a b : Nat) : (a ^^^ b) + 2 * (a &&& b) = a + b := by
  induction a using Nat.strongRecOn generalizing b with
  | ind a ih =>
    by_cases ha : a = 0
    · subst ha; simp
    · have h1 := ih (a / 2) (by omega) (b / 2)
      have hx : (a ^^^ b) / 2 = a / 2 ^^^ b / 2 := by simpa using Nat.xor_div_two (a := a) (b := b)
      have hn : (a &&& b) / 2 = a / 2 &&& b / 2 := by simpa using Nat.and_div_two (a := a) (b := b)
      have hx2 : (a ^^^ b) % 2 = (a % 2) ^^^ (b % 2) := by simpa using Nat.xor_mod_two_pow (a := a) (b := b) (n := 1)
      have hn2 : (a &&& b) % 2 = (a % 2) &&& (b % 2) := by simpa using Nat.and_mod_two_pow (a := a) (b := b) (n := 1)
      rw [← hx, ← hn] at h1
      generalize (a ^^^ b) = X at *
      generalize (a &&& b) = Y at *
      clear hx hn ih
      rcases Nat.mod_two_eq_zero_or_one a with p | p <;> rcases Nat.mod_two_eq_zero_or_one b with q | q <;> rw [p, q] at hx2 hn2 <;> simp at hx2 hn2 <;> omega
theorem xor_nat (a b : Nat) : Builtin.bitXor (a : Int) (b : Int) = ((a ^^^ b : Nat) : Int) := by
  rw [PyProof.Rows.bitXor_and, PyProof.Rows.bitAnd_pp (Int.natCast_nonneg _) (Int.natCast_nonneg _)]
  have := nat_xor_and a b
  simp only [Int.toNat_natCast]
  omega
/-- a byte -/
def By (a : Int) : Prop := 0 ≤ a ∧ a ≤ 255
theorem By.nat {a : Int} (h : By a) : ∃ n : Nat, n < 256 ∧ a = (n : Int) := ⟨a.toNat, by unfold By at h; omega, by unfold By at h; omega⟩
abbrev xr := Builtin.bitXor
theorem xr_by {a b : Int} (ha : By a) (hb : By b) : By (xr a b) := by
  obtain ⟨m, hm, rfl⟩ := ha.nat
  obtain ⟨n, hn, rfl⟩ := hb.nat
  show By (Builtin.bitXor _ _)
  rw [xor_nat]
  have : m ^^^ n < 2 ^ 8 := Nat.xor_lt_two_pow hm hn
  unfold By; omega
theorem xr_comm {a b : Int} (ha : By a) (hb : By b) : xr a b = xr b a := by
  obtain ⟨m, hm, rfl⟩ := ha.nat
  obtain ⟨n, hn, rfl⟩ := hb.nat
  show Builtin.bitXor _ _ = Builtin.bitXor _ _
  rw [xor_nat, xor_nat, Nat.xor_comm]
theorem xr_assoc {a b c : Int} (ha : By a) (hb : By b) (hc : By c) : xr (xr a b) c = xr a (xr b c) := by
  obtain ⟨m, hm, rfl⟩ := ha.nat
  obtain ⟨n, hn, rfl⟩ := hb.nat
  obtain ⟨k, hk, rfl⟩ := hc.nat
  show Builtin.bitXor (Builtin.bitXor _ _) _ = Builtin.bitXor _ (Builtin.bitXor _ _)
  rw [xor_nat, xor_nat, xor_nat, xor_nat, Nat.xor_assoc]
theorem xr_self (a : Int) : xr a a = 0 := PyProof.Rows.bitXor_self a
theorem xr_zero (a : Int) : xr a 0 = a := PyProof.Rows.bitXor_zero a
theorem by0 : By 0 := ⟨by decide, by decide⟩
theorem zero_xr {a : Int} (ha : By a) : xr 0 a = a := by rw [xr_comm by0 ha, xr_zero]
theorem xr_cancel {a b : Int} (ha : By a) (hb : By b) : xr a (xr a b) = b := by rw [← xr_assoc ha ha hb, xr_self, zero_xr hb]

-- the tables
/-- twice, in the field, on numbers -/
def xtN (a : Nat) : Nat := (2 * a) ^^^ ((a / 128) * 285)
/-- each number of the row is told by its place: once along the row -/
def along (p : Nat → Int → Bool) : Nat → List Int → Bool
  | _, [] => true
  | i, x :: r => p i x && along p (i + 1) r
theorem along_at {p : Nat → Int → Bool} : ∀ {l : List Int} {i : Nat}, along p i l = true → ∀ k, k < l.length → p (i + k) (l.getD k 0) = true
  | [], _, _, _, h => absurd h (Nat.not_lt_zero _)
  | x :: r, i, h, 0, _ => by
    unfold along at h
    exact (Bool.and_eq_true_iff.mp h).1
  | x :: r, i, h, k + 1, hk => by
    unfold along at h
    have := along_at (Bool.and_eq_true_iff.mp h).2 k (by simpa using hk)
    rw [show i + (k + 1) = i + 1 + k by omega]
    exact this
/-- each number of the row is the double of the one before -/
def doubles : List Int → Bool
  | a :: b :: r => b == (xtN a.toNat : Int) && doubles (b :: r)
  | _ => true
theorem doubles_at : ∀ {l : List Int}, doubles l = true → ∀ k, k + 1 < l.length → l.getD (k + 1) 0 = (xtN (l.getD k 0).toNat : Int)
  | [], _, _, h => absurd h (Nat.not_lt_zero _)
  | [_], _, k, h => absurd h (by simp)
  | a :: b :: r, h, 0, _ => by
    unfold doubles at h
    exact eq_of_beq (Bool.and_eq_true_iff.mp h).1
  | a :: b :: r, h, k + 1, hk => by
    unfold doubles at h
    exact doubles_at (l := b :: r) (Bool.and_eq_true_iff.mp h).2 k (by simpa using hk)
theorem log_row : along (fun a l => a == 0 || (EXPT.getD l.toNat 0 == (a : Int) && (decide (0 ≤ l) && decide (l < 255)))) 0 LOGT = true := by decide +kernel
theorem exp_row : along (fun i e => i == 255 || (LOGT.getD e.toNat 0 == (i : Int) && (decide (1 ≤ e) && decide (e ≤ 255)))) 0 EXPT = true := by decide +kernel
theorem exp_doubles : doubles EXPT = true := by decide +kernel
theorem exp_log_d (a : Nat) (h : a < 256) (h1 : 1 ≤ a) : EXPT.getD (LOGT.getD a 0).toNat 0 = (a : Int) ∧ 0 ≤ LOGT.getD a 0 ∧ LOGT.getD a 0 < 255 := by
  have := along_at log_row a (by rw [LOGT_len]; exact h)
  rw [Nat.zero_add] at this
  simp only [Bool.or_eq_true, Bool.and_eq_true, beq_iff_eq, decide_eq_true_eq] at this
  rcases this with e | e
  · omega
  · exact e
theorem log_exp_d (i : Nat) (h : i < 255) : LOGT.getD (EXPT.getD i 0).toNat 0 = (i : Int) ∧ 1 ≤ EXPT.getD i 0 ∧ EXPT.getD i 0 ≤ 255 := by
  have := along_at exp_row i (by rw [EXPT_len]; omega)
  rw [Nat.zero_add] at this
  simp only [Bool.or_eq_true, Bool.and_eq_true, beq_iff_eq, decide_eq_true_eq] at this
  rcases this with e | e
  · omega
  · exact e
theorem fmod255 (n : Int) : n.fmod 255 = n % 255 := Int.fmod_eq_emod_of_nonneg n (by decide)
theorem expF_eq (n : Int) : expF n = EXPT.getD (n % 255).toNat 0 := by unfold expF; rw [fmod255]
theorem expF_mod {n k : Int} (h : n % 255 = k % 255) : expF n = expF k := by rw [expF_eq, expF_eq, h]
theorem expF_range (n : Int) : 1 ≤ expF n ∧ expF n ≤ 255 := by rw [expF_eq]; exact (log_exp_d _ (by omega)).2
theorem expF_by (n : Int) : By (expF n) := ⟨by have := expF_range n; omega, (expF_range n).2⟩
theorem expF_ne (n : Int) : expF n ≠ 0 := by have := expF_range n; omega
theorem logF_exp (n : Int) : logF (expF n) = n % 255 := by
  unfold logF
  rw [expF_eq, (log_exp_d _ (by omega)).1]
  omega
theorem logF_range {a : Int} (h1 : 1 ≤ a) (h2 : a ≤ 255) : 0 ≤ logF a ∧ logF a < 255 := (exp_log_d a.toNat (by omega) (by omega)).2
theorem exp_logF {a : Int} (h1 : 1 ≤ a) (h2 : a ≤ 255) : expF (logF a) = a := by
  have h := exp_log_d a.toNat (by omega) (by omega)
  have hr := logF_range h1 h2
  rw [expF_eq]
  have e : logF a % 255 = logF a := by omega
  rw [e]
  unfold logF
  rw [h.1]; omega
theorem pow_getD (i : Nat) (h : i < 255) : POWT.getD i 0 = EXPT.getD i 0 := by
  unfold POWT
  simp only [List.getD_eq_getElem?_getD]
  rw [List.getElem?_take_of_lt h]
theorem powF (n : Int) : POWT.getD (n.fmod 255).toNat 0 = expF n := by
  unfold expF
  rw [pow_getD _ (by rw [fmod255]; omega)]
theorem times_ne {a b : Int} (ha : a ≠ 0) (hb : b ≠ 0) : timesF a b = expF (logF a + logF b) := by
  unfold timesF
  rw [if_neg (by rintro (h | h) <;> contradiction), powF]
theorem times_zero (a : Int) : timesF a 0 = 0 := by unfold timesF; rw [if_pos (.inr rfl)]
theorem zero_times (a : Int) : timesF 0 a = 0 := by unfold timesF; rw [if_pos (.inl rfl)]
theorem times_by (a b : Int) : By (timesF a b) := by
  by_cases ha : a = 0
  · subst ha; rw [zero_times]; exact by0
  · by_cases hb : b = 0
    · subst hb; rw [times_zero]; exact by0
    · rw [times_ne ha hb]; exact expF_by _
theorem times_pos {a b : Int} (ha : a ≠ 0) (hb : b ≠ 0) : timesF a b ≠ 0 := by rw [times_ne ha hb]; exact expF_ne _
theorem times_comm (a b : Int) : timesF a b = timesF b a := by
  by_cases ha : a = 0
  · subst ha; rw [zero_times, times_zero]
  · by_cases hb : b = 0
    · subst hb; rw [zero_times, times_zero]
    · rw [times_ne ha hb, times_ne hb ha, Int.add_comm]
theorem times_assoc (a b c : Int) : timesF (timesF a b) c = timesF a (timesF b c) := by
  by_cases ha : a = 0
  · subst ha; simp only [zero_times]
  · by_cases hb : b = 0
    · subst hb; simp only [zero_times, times_zero]
    · by_cases hc : c = 0
      · subst hc; simp only [times_zero]
      · rw [times_ne (times_pos ha hb) hc, times_ne ha (times_pos hb hc), times_ne ha hb, times_ne hb hc, logF_exp, logF_exp]
        exact expF_mod (by omega)
theorem exp_zero : expF 0 = 1 := by decide +kernel
theorem exp_one : expF 1 = 2 := by decide +kernel
theorem times_exp (n k : Int) : timesF (expF n) (expF k) = expF (n + k) := by
  rw [times_ne (expF_ne _) (expF_ne _), logF_exp, logF_exp]
  exact expF_mod (by omega)
theorem times_one {a : Int} (ha : By a) : timesF a 1 = a := by
  by_cases h : a = 0
  · subst h; rw [zero_times]
  · unfold By at ha
    rw [times_ne h (by decide)]
    have e : logF 1 = 0 := by decide +kernel
    rw [e, Int.add_zero]
    exact exp_logF (by omega) (by omega)
theorem one_times {a : Int} (ha : By a) : timesF 1 a = a := by rw [times_comm, times_one ha]
theorem xt_d (a : Nat) (h : a < 256) : timesF (a : Int) 2 = (xtN a : Int) := by
  by_cases h0 : a = 0
  · subst h0
    exact zero_times 2
  · obtain ⟨e1, e2, e3⟩ := exp_log_d a h (by omega)
    have e4 := doubles_at exp_doubles (LOGT.getD a 0).toNat (by rw [EXPT_len]; omega)
    rw [e1, Int.toNat_natCast] at e4
    rw [times_ne (by omega) (by decide), show logF 2 = 1 from by decide +kernel, ← e4, expF_eq]
    show EXPT.getD ((LOGT.getD a 0 + 1) % 255).toNat 0 = _
    generalize LOGT.getD a 0 = l at *
    by_cases hl : l = 254
    · subst hl
      decide +kernel
    · congr 1
      omega
theorem xtN_xor {a b : Nat} (ha : a < 256) (hb : b < 256) : xtN (a ^^^ b) = xtN a ^^^ xtN b := by
  unfold xtN
  have h1 : 2 * (a ^^^ b) = 2 * a ^^^ 2 * b := by
    have := Nat.shiftLeft_xor_distrib (a := a) (b := b) (i := 1)
    simpa [Nat.shiftLeft_eq, Nat.mul_comm] using this
  have h2 : (a ^^^ b) / 128 = a / 128 ^^^ b / 128 := by
    have := Nat.shiftRight_xor_distrib (a := a) (b := b) (i := 7)
    simpa [Nat.shiftRight_eq_div_pow] using this
  rw [h1, h2]
  have h3 : ∀ p : Nat, p < 2 → ∀ q : Nat, q < 2 → (p ^^^ q) * 285 = p * 285 ^^^ q * 285 := by decide
  rw [h3 _ (by omega) _ (by omega)]
  simp only [Nat.xor_assoc]
  congr 1
  rw [← Nat.xor_assoc, ← Nat.xor_assoc, Nat.xor_comm (a / 128 * 285)]
theorem times_two_xr {a b : Int} (ha : By a) (hb : By b) : timesF (xr a b) 2 = xr (timesF a 2) (timesF b 2) := by
  obtain ⟨m, hm, rfl⟩ := ha.nat
  obtain ⟨n, hn, rfl⟩ := hb.nat
  show timesF (Builtin.bitXor _ _) 2 = Builtin.bitXor _ _
  have hx : m ^^^ n < 256 := Nat.xor_lt_two_pow (n := 8) hm hn
  rw [xor_nat, xt_d _ hx, xt_d _ hm, xt_d _ hn, xor_nat, xtN_xor hm hn]
theorem xr_times_exp {a b : Int} (ha : By a) (hb : By b) (k : Nat) : timesF (xr a b) (expF k) = xr (timesF a (expF k)) (timesF b (expF k)) := by
  induction k with
  | zero => rw [show ((0 : Nat) : Int) = 0 from rfl, exp_zero, times_one ha, times_one hb, times_one (xr_by ha hb)]
  | succ k ih =>
    have e : expF ((k + 1 : Nat) : Int) = timesF (expF (k : Int)) 2 := by rw [← exp_one, times_exp]; rfl
    rw [e, ← times_assoc, ← times_assoc, ← times_assoc, ih, times_two_xr (times_by _ _) (times_by _ _)]
/-- the field's product is linear -/
theorem xr_times {a b c : Int} (ha : By a) (hb : By b) (hc : By c) : timesF (xr a b) c = xr (timesF a c) (timesF b c) := by
  by_cases h : c = 0
  · subst h; simp only [times_zero]; exact (xr_self 0).symm
  · unfold By at hc
    have h1 : 1 ≤ c := by omega
    have hl := logF_range h1 hc.2
    have e : c = expF ((logF c).toNat : Int) := by rw [Int.toNat_of_nonneg hl.1]; exact (exp_logF h1 hc.2).symm
    rw [e]
    exact xr_times_exp ha hb _
theorem times_xr {a b c : Int} (ha : By a) (hb : By b) (hc : By c) : timesF c (xr a b) = xr (timesF c a) (timesF c b) := by
  rw [times_comm c, times_comm c, times_comm c, xr_times ha hb hc]
end Mine
end
section
open PySem PySem.W PyProof.Rows
local macro_rules | `(tactic| walk_at "MY none 0") => `(tactic| fail)
local macro_rules | `(tactic| walk_at "MY none 1") => `(tactic| fail)
local macro_rules | `(tactic| walk_at "MY none 2") => `(tactic| fail)
theorem Mine.resetC11 : (1 : Nat) ≤ 2 := by
  w_top off
  first | walk1 | decide
end
section
open PySem PySem.W PySem.Calls PySem.Spec PyProof.Rows
set_option maxRecDepth 100000
set_option maxHeartbeats 2000000
set_option pp.maxSteps 4000
set_option linter.unusedVariables false
namespace Mine
section
variable {w : World} {A₀ : Around} {base h₀ : Heap} {outer : List Env} {L : Addr} {m mg mb : Str → Option Value} {env : Env} {mean : ExcName → Option Value} {dp un : Nat} {gd : Option (List Code)} {s : Shared} {E Q : Value → Shared → Prop} {news : List (Addr × Obj)}

/-- a row's worth at a root (Horner) -/
def worthF (row : List Int) (root : Int) : Int := row.foldl (fun w x => xr (timesF w root) x) 0
theorem worth_by {row : List Int} {root : Int} (h : Bytes row) : By (worthF row root) := by
  unfold worthF
  suffices ∀ (row : List Int) (w : Int), By w → Bytes row → By (row.foldl (fun w x => xr (timesF w root) x) w) from this row 0 by0 h
  intro row
  induction row with
  | nil => intro w hw _; exact hw
  | cons x r ih =>
    intro w hw hb
    exact ih _ (xr_by (times_by _ _) (hb x (List.mem_cons_self ..))) fun y hy => hb y (List.mem_cons_of_mem _ hy)

local macro_rules | `(tactic| walk_at "MY pos") => `(tactic| omega)
local macro_rules | `(tactic| walk_at "MY room") => `(tactic| ((try simp only [depth_under_make, depth_under_kw, depth_in1, depth_deeper]); (try dsimp only [Ar, Around.in1, Around.deeper]); omega))
local macro_rules | `(tactic| walk_at "MY units") => `(tactic| ((try simp only [units_in1, units_deeper, units_under_make, Around.mark_units]); (try dsimp only [Ar, Around.in1, Around.deeper]); omega))
local macro_rules | `(tactic| walk_at "MY idx") => `(tactic| first | omega | (simp only [POWT_len, LOGT_len, EXPT_len]; omega))
local macro_rules | `(tactic| walk_at "subscriptTail Subscript") => `(tactic| (k_here; (with_reducible show wpAny _ _ (subscriptTail _ _ (Value.ref _) (Value.int _ _)) _ _ _); k_dflt (refine' item_ints ?k1 ?k2 ?k3 ?k4 ?k5 ?_; (case k1 => is_list); (case k2 => assumption); (case k3 => walk_at "MY idx"); (case k4 => walk_at "MY idx"); (case k5 => walk_at "MY idx"); k_whole); intro t9))
local macro_rules | `(tactic| walk_at "subscriptTail Name") => `(tactic| (k_here; (with_reducible show wpAny _ _ (subscriptTail _ _ (Value.ref _) (Value.int _ _)) _ _ _); k_dflt (refine' item_ints ?k1 ?k2 ?k3 ?k4 ?k5 ?_; (case k1 => is_list); (case k2 => assumption); (case k3 => walk_at "MY idx"); (case k4 => walk_at "MY idx"); (case k5 => walk_at "MY idx"); k_whole); intro t9))

local macro_rules | `(tactic| walk_at "exec For Tuple Call cons nil") => `(tactic| (k_here; (rename Fr _ _ _ _ => F'); (with_reducible apply For_pair3F); (case _F => with_unfolding_all exact F'); (case hh => with_unfolding_all rfl); (case hxi => with_unfolding_all rfl); (case hxc => with_unfolding_all rfl); (case hp => with_unfolding_all rfl); (case hs => (intro _; with_unfolding_all rfl))))
local macro_rules | `(tactic| walk_at "call type:enumerate") => `(tactic| (k_here; (with_reducible show wpAny _ _ (call (Value.type _) [Value.ref _]) _ _ _); k_dflt (refine' call_enum_any ?F ?N ?l ?_; (case F => k_asm); (case N => k_asm); (case l => is_list); k_whole); intro e9 it9 h9 F' N' I9; (try k_sweep)))
local macro_rules | `(tactic| walk_at "pyIter ref") => `(tactic| (k_here; (with_reducible show wpAny _ _ (pyIter (Value.ref _)) (fun it s₂ => PairAt3 _ _ _ _ _ _ _ _ _ _ it s₂) _ _); refine STOP.intro ?_))

local macro_rules | `(tactic| walk_at "exec For Name Call cons nil") => `(tactic| (k_here; (rename Fr _ _ _ _ => lF'); (with_unfolding_all refine' For_invVF lF' ?k1 ?k2 ?_; (case k1 => exact rfl); (case k2 => exact rfl); k_whole)))
local macro_rules | `(tactic| walk_at "exec For Name Name cons nil") => `(tactic| (k_here; (rename Fr _ _ _ _ => lF'); (with_unfolding_all refine' For_invVF lF' ?k1 ?k2 ?_; (case k1 => exact rfl); (case k2 => exact rfl); k_whole)))
local macro_rules | `(tactic| walk_at "pyIter ref") => `(tactic| (k_here; (with_reducible show wpAny _ _ (pyIter (Value.ref _)) (fun it s₂ => LoopAtV _ _ _ _ _ _ _ _ _ it s₂) _ _); refine STOP.intro ?_))

local macro_rules | `(tactic| walk_at "subscriptTail Name Slice ref ref") => `(tactic| (k_here; (with_reducible show wpAny _ _ (subscriptTail _ (PySem.Expr.Slice _ _ none _) (Value.ref _) (Value.ref _)) _ _ _); k_dflt (refine' kmk_slice_ints ?F ?N ?l ?p ?q ?i ?m ?c ?_ ?s ?t ?z; (case F => k_asm); (case N => k_asm); (case l => kmk_list); (case p => kmk_part); (case q => kmk_part); (case i => assumption); (case m => first | exact kmk_from (by assumption) (by omega) | exact kmk_run (by assumption) (by omega) (by omega) | exact kmk_from_neg (by assumption) (by omega)); (case c => kmk_len); (case s => with_unfolding_all rfl); (case t => kmk_pure); (case z => (refine kmk_sz (by assumption) ?_; (simp only [PySem.sizeLine_eq]; omega)))); intro D' ws' h' F' N' l1 hI' hC' hL'; (try k_lt l1); (try k_sweep)))
local macro_rules | `(tactic| walk_at "call ref") => `(tactic| (k_here; (with_reducible show wpAny _ _ (call (Value.ref 112) [Value.ref _, Value.int _ _, Value.int _ _]) _ _ _); k_dflt (refine' times_ct ?F ?N ?X ?T ?hdp ?hu ?p1 ?p2 ?p3 ?p4 ?p5 ?_; (case F => k_asm); (case N => k_asm); (case X => k_asm); (case T => k_asm); (case hdp => walk_at "MY room"); (case hu => walk_at "MY units"); (case p1 => first | assumption | exact IsField.keeps (by assumption) (Fr.keep (by k_asm))); (case p2 => omega); (case p3 => omega); (case p4 => omega); (case p5 => omega); k_whole); intro r9 t9 h9 tk9 e9 F9 N9; subst e9; (try k_sweep)))
theorem worth_ct {fa l : Addr} {vs : List Value} {ns : List Int} {root : Int} {t : Tok} (B : Below A₀ base outer h₀) (F : Fr h₀ L s.heap m) (N : News h₀ L s.heap news) (X : (hd.heap_39 w.params).In h₀)
    (T : Top hd.view_39 (looseW hd.view_39 [Str.ofString "EXP_TABLE", Str.ofString "LOG_TABLE", Str.ofString "rsPoly_LUT"]) mean mg mb h₀) (hf : env.frame = some L) (hke : env.scope.kind = .function) (hdp : dp + 8 < recursionLimit) (hu : un + 100 < cLine)
    (hF : IsField s.heap fa) (hl : s.heap.IsList l vs.toArray) (hi : IntsAre vs ns) (hb : Bytes ns) (hr0 : 0 ≤ root) (hr1 : root ≤ 255)
    (ret : ∀ r t' h' tk', r = worthF ns root → Fr h₀ L h' m → News h₀ L h' news → Q (.int r t') { s with heap := h', toks := tk' }) :
    wpAny (model PySem.Challenge.rw_bm0035_01.prog w) (Ar dp un gd env outer) (call (.ref 126) [.ref fa, .ref l, .int root t]) Q E s := by
  revert X; k_fill; intro X
  k_dflt (refine' enter0 (binds := [(Str.ofString "field", .ref fa), (Str.ofString "row", .ref l), (Str.ofString "root", .int root t)]) B F X T rfl hf hke ?ho ?hcd ?hroom ?hbind ?hloc ?_ ?c1 ?c2 ?c3 ?c4)
  case ho => k_is
  case hcd => k_is
  case hroom => ktr_room
  case hbind => exact BindsTo.of_eq rfl
  case hloc => exact locs rfl
  case c1 => exact rfl
  case c2 => exact rfl
  case c3 => exact rfl
  case c4 => decide
  intro h₁ F' N' B' X' T'
  try dsimp only
  k_fold
  k_steps
  rename Fr _ _ _ _ => F2
  rename News _ _ _ _ => N2
  rename_i tk0
  refine iter_invN (fun i m nx => nx = [] ∧ (∃ t, m (Str.ofString "worth") = some (.int (worthF (ns.take i) root) t)) ∧ m (Str.ofString "field") = some (.ref fa) ∧ m (Str.ofString "root") = some (.int root t)) rfl hl hi F2 N2 ⟨rfl, ⟨_, rfl⟩, rfl, rfl⟩ ?_ ?_
  · rintro i n tn m₂ nx h tk own hn _ hoff ⟨rfl, ⟨tw, hm1⟩, hm2, hm3⟩ F3 N3
    obtain ⟨m₃, e3⟩ := map_know hm1
    subst e3
    obtain ⟨m₄, e4⟩ := map_know (x := Str.ofString "field") (m := m₃) hm2
    subst e4
    obtain ⟨m₅, e5⟩ := map_know (x := Str.ofString "root") (m := m₄) hm3
    subst e5
    obtain ⟨wv, hwv⟩ : ∃ wv, wv = worthF (ns.take i) root := ⟨_, rfl⟩
    have hwb : 0 ≤ wv ∧ wv ≤ 255 := by rw [hwv]; exact worth_by fun x hx => hb x (List.mem_of_mem_take hx)
    rw [← hwv] at F3
    obtain ⟨hw0, hw1⟩ := hwb
    have hs : worthF (ns.take (i + 1)) root = xr (timesF wv root) n := by
      rw [List.take_add_one, hn, hwv]
      unfold worthF
      simp
    clear F2 N2 hm1 hm2 hm3 hn hwv
    show wpAny _ _ _ _ _ _
    k_fold
    k_steps
    rename Fr _ _ _ _ => F4
    rename News _ _ _ _ => N4
    exact InvEndN.intro F4 N4 ⟨rfl, ⟨_, by rw [hs]; rfl⟩, rfl, rfl⟩ rfl (fun _ h => nomatch h) (fun p hp => hp)
  · rintro m₂ nx h tk ⟨rfl, ⟨tw, hm1⟩, hm2, hm3⟩ F3 N3
    obtain ⟨m₃, e3⟩ := map_know hm1
    subst e3
    rw [List.take_length] at F3
    clear F2 N2 hm1 hm2 hm3
    show wpAny _ _ _ _ _ _
    try k_fold
    k_steps
    exact ret _ _ _ _ rfl (F.keeps F3.keep) (N.keeps F3.keep)

end
end Mine
end
section
open PySem PySem.W PyProof.Rows
local macro_rules | `(tactic| walk_at "MY none 0") => `(tactic| fail)
local macro_rules | `(tactic| walk_at "MY none 1") => `(tactic| fail)
local macro_rules | `(tactic| walk_at "MY none 2") => `(tactic| fail)
theorem Mine.resetC12 : (1 : Nat) ≤ 2 := by
  w_top off
  first | walk1 | decide
end
section
open PySem PySem.W PySem.Calls PySem.Spec PyProof.Rows
set_option maxRecDepth 100000
set_option maxHeartbeats 2000000
set_option pp.maxSteps 4000
set_option linter.unusedVariables false
namespace Mine
section
variable {w : World} {A₀ : Around} {base h₀ : Heap} {outer : List Env} {L : Addr} {m mg mb : Str → Option Value} {env : Env} {mean : ExcName → Option Value} {dp un : Nat} {gd : Option (List Code)} {s : Shared} {E Q : Value → Shared → Prop} {news : List (Addr × Obj)}

local macro_rules | `(tactic| walk_at "MY pos") => `(tactic| omega)
local macro_rules | `(tactic| walk_at "MY room") => `(tactic| ((try simp only [depth_under_make, depth_under_kw, depth_in1, depth_deeper]); (try dsimp only [Ar, Around.in1, Around.deeper]); omega))
local macro_rules | `(tactic| walk_at "MY units") => `(tactic| ((try simp only [units_in1, units_deeper, units_under_make, Around.mark_units]); (try dsimp only [Ar, Around.in1, Around.deeper]); omega))
local macro_rules | `(tactic| walk_at "MY idx") => `(tactic| first | omega | (simp only [POWT_len, LOGT_len, EXPT_len]; omega))
local macro_rules | `(tactic| k_room) => `(tactic| walk_at "MY room")
local macro_rules | `(tactic| k_units) => `(tactic| walk_at "MY units")
theorem refused_ct {n : Int} {t : Tok} (hst : base.StaysIn s.heap) (hfr : s.heap.FunFrames base (env :: outer)) (X : (hd.heap_39 w.params).In base) (T : Top hd.view_39 (looseW hd.view_39 [Str.ofString "EXP_TABLE", Str.ofString "LOG_TABLE", Str.ofString "rsPoly_LUT"]) mean mg mb base)
    (D : KtsDicts ((env :: outer).filterMap (·.frame)) s.heap) (hdp : dp + 8 < recursionLimit) (hu : un + 100 < cLine)
    (h1 : n ≤ 0) (h2 : -(10 ^ 20) < n)
    (ret : ∀ t' g' h' tk', KtsTurn ((env :: outer).filterMap (·.frame)) s.heap g' → g'.StaysIn h' → Q (.str (Str.ofString "refused") t') { s with heap := h', toks := tk' }) :
    wpAny (model PySem.Challenge.rw_bm0035_01.prog w) (Ar dp un gd env outer) (call (.ref 138) [.int n t]) Q E s := by
  have B' : Below (Ar dp un gd env outer) base (env :: outer) s.heap := ⟨rfl, hst, hfr⟩
  revert X; k_fill; intro X
  have X' := X.keeps hst
  have T' := T.keeps hst
  k_dflt (refine' enter0b (binds := [(Str.ofString "number", .int n t)]) X' T' ?ho ?hcd ?hroom ?hbind ?hloc ?_ ?c1 ?c2 ?c3 ?c4)
  case ho => k_is
  case hcd => k_is
  case hroom => walk_at "MY room"
  case hbind => exact BindsTo.of_eq rfl
  case hloc => exact locs rfl
  case c1 => exact rfl
  case c2 => exact rfl
  case c3 => exact rfl
  case c4 => decide
  intro h₁ F' N'
  try dsimp only
  show wpAny _ _ _ _ _ _
  k_fold
  k_steps
  rename KtsTurn _ _ _ => kt
  rename Fr _ _ _ _ => F4
  exact ret _ _ _ _ kt F4.keep

end
end Mine
end
section
open PySem PySem.W PyProof.Rows
local macro_rules | `(tactic| walk_at "MY none 0") => `(tactic| fail)
local macro_rules | `(tactic| walk_at "MY none 1") => `(tactic| fail)
local macro_rules | `(tactic| walk_at "MY none 2") => `(tactic| fail)
theorem Mine.resetC13 : (1 : Nat) ≤ 2 := by
  w_top off
  first | walk1 | decide
end
section
open PySem PySem.W PySem.Calls PySem.Spec PyProof.Rows
set_option maxRecDepth 100000
set_option maxHeartbeats 2000000
set_option pp.maxSteps 4000
set_option linter.unusedVariables false
namespace Mine
section
variable {w : World} {A₀ : Around} {base h₀ : Heap} {outer : List Env} {L : Addr} {m mg mb : Str → Option Value} {env : Env} {mean : ExcName → Option Value} {dp un : Nat} {gd : Option (List Code)} {s : Shared} {E Q : Value → Shared → Prop} {news : List (Addr × Obj)}

theorem ns_slots {h : Heap} {L : Addr} {m : Str → Option Value} {o : Obj} (hn : h.Ns L m) (ho : h.get? L = some o) {h' : Heap} {sl : Array (Option Value)} (e : h'.get? L = some { o with slots := sl }) : h'.Ns L m := by
  obtain ⟨o', es, ep, h1, h2, h3, h4⟩ := hn
  rw [ho] at h1; cases h1
  exact ⟨_, es, ep, e, h2, h3, h4⟩
/-- _law_refused, called from a frame whose ground holds no frame of the calls below; the law's own frame is on the ledger -/
theorem refused_in {gC : Heap} {Lc : Addr} {mc : Str → Option Value} {lenv : Env} {oL : Obj} {R : List (Addr × Obj)} {n : Int} {t : Tok}
    (F : Fr gC Lc s.heap mc) (N : News gC Lc s.heap ((L, oL) :: R)) (hst : h₀.StaysIn gC) (X : (hd.heap_39 w.params).In h₀) (T : Top hd.view_39 (looseW hd.view_39 [Str.ofString "EXP_TABLE", Str.ofString "LOG_TABLE", Str.ofString "rsPoly_LUT"]) mean mg mb h₀)
    (hf : env.frame = some Lc) (hke : env.scope.kind = .function) (hfl : lenv.frame = some L) (hkl : lenv.scope.kind = .function) (h0c : h₀.get? Lc = none) (h0l : h₀.get? L = none) (hgc : gC.get? Lc = none)
    (hNs : s.heap.Ns L m) (hR : ∀ p ∈ R, p.1 ≠ L) (hdp : dp + 8 < recursionLimit) (hu : un + 100 < cLine) (h1 : n ≤ 0) (h2 : -(10 ^ 20) < n)
    (ret : ∀ t' h' tk' sl, Fr gC Lc h' mc → News gC Lc h' ((L, { oL with slots := sl }) :: R) → Q (.str (Str.ofString "refused") t') { s with heap := h', toks := tk' }) :
    wpAny (model PySem.Challenge.rw_bm0035_01.prog w) (Ar dp un gd env [lenv]) (call (.ref 138) [.int n t]) Q E s := by
  have hL := N _ (List.mem_cons_self ..)
  have hne : L ≠ Lc := hL.2.1
  obtain ⟨oc, es, ep, hc, hcd, hck, hcf⟩ := id F.ns
  obtain ⟨ol, es2, ep2, hl, hld, _⟩ := id hNs
  have e0 : ol = oL := by rw [hL.1] at hl; exact (Option.some.inj hl).symm
  subst e0
  have hfs : [env, lenv].filterMap (·.frame) = [Lc, L] := by simp [hf, hfl]
  refine refused_ct (base := h₀) (fun b o e => F.keep b o (hst b o e)) (.cons (by rw [hke]; decide) hf F.ns h0c (.cons (by rw [hkl]; decide) hfl hNs h0l trivial)) X T ?_ hdp hu h1 h2 fun t' g' h' tk' kt hk => ?_
  · rw [hfs]
    intro b hb
    simp only [List.mem_cons, List.not_mem_nil, or_false] at hb
    rcases hb with rfl | rfl
    · exact ⟨oc, es, ep, hc, hcd⟩
    · exact ⟨ol, es2, ep2, hl, hld⟩
  · rw [hfs] at kt
    obtain ⟨slc, e1⟩ := kt.up hc
    obtain ⟨sll, e2⟩ := kt.up hl
    have keep : ∀ b o, b ≠ Lc → b ≠ L → s.heap.get? b = some o → h'.get? b = some o := fun b o h1 h2 e => hk _ _ (kt.other b o e (by simp only [List.mem_cons, List.not_mem_nil, or_false, not_or]; exact ⟨h1, h2⟩))
    refine ret t' h' tk' sll ⟨ns_slots F.ns hc (hk _ _ e1), fun b o e => keep b o ?_ ?_ (F.keep b o e), F.above⟩ ?_
    · rintro rfl; rw [hgc] at e; cases e
    · rintro rfl; rw [hL.2.2] at e; cases e
    · intro p hp
      rcases List.mem_cons.mp hp with rfl | hp
      · exact ⟨hk _ _ e2, hL.2⟩
      · have := N p (List.mem_cons_of_mem _ hp)
        exact ⟨keep _ _ this.2.1 (hR p hp) this.1, this.2⟩

theorem ns_at {g h : Heap} {Lc L : Addr} {m : Str → Option Value} {o : Obj} {news : List (Addr × Obj)} (hN : ∀ h : Heap, ∀ sl, h.get? L = some { o with slots := sl } → h.Ns L m) (N : News g Lc h news) {sl : Array (Option Value)} (hm : (L, { o with slots := sl }) ∈ news) : h.Ns L m := hN h sl (N _ hm).1

local macro_rules | `(tactic| walk_at "MY pos") => `(tactic| omega)
local macro_rules | `(tactic| walk_at "MY room") => `(tactic| ((try simp only [depth_under_make, depth_under_kw, depth_in1, depth_deeper]); (try dsimp only [Ar, Around.in1, Around.deeper]); omega))
local macro_rules | `(tactic| walk_at "MY units") => `(tactic| ((try simp only [units_in1, units_deeper, units_under_make, Around.mark_units]); (try dsimp only [Ar, Around.in1, Around.deeper]); omega))
local macro_rules | `(tactic| walk_at "MY idx") => `(tactic| first | omega | (simp only [POWT_len, LOGT_len, EXPT_len]; omega))
local macro_rules | `(tactic| walk_at "subscriptTail Subscript") => `(tactic| (k_here; (with_reducible show wpAny _ _ (subscriptTail _ _ (Value.ref _) (Value.int _ _)) _ _ _); k_dflt (refine' item_ints ?k1 ?k2 ?k3 ?k4 ?k5 ?_; (case k1 => is_list); (case k2 => assumption); (case k3 => walk_at "MY idx"); (case k4 => walk_at "MY idx"); (case k5 => walk_at "MY idx"); k_whole); intro t9))
local macro_rules | `(tactic| walk_at "subscriptTail Name") => `(tactic| (k_here; (with_reducible show wpAny _ _ (subscriptTail _ _ (Value.ref _) (Value.int _ _)) _ _ _); k_dflt (refine' item_ints ?k1 ?k2 ?k3 ?k4 ?k5 ?_; (case k1 => is_list); (case k2 => assumption); (case k3 => walk_at "MY idx"); (case k4 => walk_at "MY idx"); (case k5 => walk_at "MY idx"); k_whole); intro t9))

local macro_rules | `(tactic| walk_at "exec For Tuple Call cons nil") => `(tactic| (k_here; (rename Fr _ _ _ _ => F'); (with_reducible apply For_pair3F); (case _F => with_unfolding_all exact F'); (case hh => with_unfolding_all rfl); (case hxi => with_unfolding_all rfl); (case hxc => with_unfolding_all rfl); (case hp => with_unfolding_all rfl); (case hs => (intro _; with_unfolding_all rfl))))
local macro_rules | `(tactic| walk_at "call type:enumerate") => `(tactic| (k_here; (with_reducible show wpAny _ _ (call (Value.type _) [Value.ref _]) _ _ _); k_dflt (refine' call_enum_any ?F ?N ?l ?_; (case F => k_asm); (case N => k_asm); (case l => is_list); k_whole); intro e9 it9 h9 F' N' I9; (try k_sweep)))
local macro_rules | `(tactic| walk_at "pyIter ref") => `(tactic| (k_here; (with_reducible show wpAny _ _ (pyIter (Value.ref _)) (fun it s₂ => PairAt3 _ _ _ _ _ _ _ _ _ _ it s₂) _ _); refine STOP.intro ?_))

local macro_rules | `(tactic| walk_at "exec For Name Call cons nil") => `(tactic| (k_here; (rename Fr _ _ _ _ => lF'); (with_unfolding_all refine' For_invVF lF' ?k1 ?k2 ?_; (case k1 => exact rfl); (case k2 => exact rfl); k_whole)))
local macro_rules | `(tactic| walk_at "exec For Name Name cons nil") => `(tactic| (k_here; (rename Fr _ _ _ _ => lF'); (with_unfolding_all refine' For_invVF lF' ?k1 ?k2 ?_; (case k1 => exact rfl); (case k2 => exact rfl); k_whole)))
local macro_rules | `(tactic| walk_at "pyIter ref") => `(tactic| (k_here; (with_reducible show wpAny _ _ (pyIter (Value.ref _)) (fun it s₂ => LoopAtV _ _ _ _ _ _ _ _ _ it s₂) _ _); refine STOP.intro ?_))

local macro_rules | `(tactic| walk_at "subscriptTail Name Slice ref ref") => `(tactic| (k_here; (with_reducible show wpAny _ _ (subscriptTail _ (PySem.Expr.Slice _ _ none _) (Value.ref _) (Value.ref _)) _ _ _); k_dflt (refine' kmk_slice_ints ?F ?N ?l ?p ?q ?i ?m ?c ?_ ?s ?t ?z; (case F => k_asm); (case N => k_asm); (case l => kmk_list); (case p => kmk_part); (case q => kmk_part); (case i => assumption); (case m => first | exact kmk_from (by assumption) (by omega) | exact kmk_run (by assumption) (by omega) (by omega) | exact kmk_from_neg (by assumption) (by omega)); (case c => kmk_len); (case s => with_unfolding_all rfl); (case t => kmk_pure); (case z => (refine kmk_sz (by assumption) ?_; (simp only [PySem.sizeLine_eq]; omega)))); intro D' ws' h' F' N' l1 hI' hC' hL'; (try k_lt l1); (try k_sweep)))
local macro_rules | `(tactic| walk_at "call ref") => `(tactic| (k_here; (with_reducible show wpAny _ _ (call (Value.ref 30) [Value.int _ _]) _ _ _); k_dflt (refine' gexp_ct ?F ?N ?X ?T ?hdp ?hu  ?_; (case F => k_asm); (case N => k_asm); (case X => k_asm); (case T => k_asm); (case hdp => walk_at "MY room"); (case hu => walk_at "MY units"); k_whole); intro t9 h9 tk9 F9 N9; (try k_sweep)))
local macro_rules | `(tactic| walk_at "call ref") => `(tactic| (k_here; (with_reducible show wpAny _ _ (call (Value.ref 23) [Value.int _ _]) _ _ _); k_dflt (refine' glog_ct ?F ?N ?X ?T ?hdp ?hu ?p1 ?p2 ?_; (case F => k_asm); (case N => k_asm); (case X => k_asm); (case T => k_asm); (case hdp => walk_at "MY room"); (case hu => walk_at "MY units"); (case p1 => omega); (case p2 => omega); k_whole); intro t9 h9 tk9 F9 N9; (try k_sweep)))
local macro_rules | `(tactic| walk_at "call ref") => `(tactic| (k_here; (with_reducible show wpAny _ _ (call (Value.ref 112) [Value.ref _, Value.int _ _, Value.int _ _]) _ _ _); k_dflt (refine' times_ct ?F ?N ?X ?T ?hdp ?hu ?p1 ?p2 ?p3 ?p4 ?p5 ?_; (case F => k_asm); (case N => k_asm); (case X => k_asm); (case T => k_asm); (case hdp => walk_at "MY room"); (case hu => walk_at "MY units"); (case p1 => first | assumption | exact IsField.keeps (by assumption) (Fr.keep (by k_asm))); (case p2 => omega); (case p3 => omega); (case p4 => omega); (case p5 => omega); k_whole); intro r9 t9 h9 tk9 e9 F9 N9; subst e9; (try k_sweep)))
local macro_rules | `(tactic| walk_at "call ref") => `(tactic| (k_here; (with_reducible show wpAny _ _ (call (Value.ref 138) [Value.int _ _]) _ _ _); k_dflt (refine' refused_in ?F ?N ?hst ?X ?T ?hf ?hke ?hfl ?hkl ?h0c ?h0l ?hgc ?hNs ?hR ?hdp ?hu ?h1 ?h2 ?_; (case hfl => assumption); (case F => k_asm); (case N => exact kti_tail (by k_asm)); (case hst => assumption); (case X => assumption); (case T => assumption); (case hf => exact rfl); (case hke => exact rfl); (case hkl => assumption); (case h0c => assumption); (case h0l => assumption); (case hgc => assumption); (case hNs => (exact ns_at (by assumption) (kti_tail (by k_asm)) (List.mem_cons_self ..))); (case hR => assumption); (case hdp => walk_at "MY room"); (case hu => walk_at "MY units"); (case h1 => exact Int.neg_nonpos_of_nonneg (by assumption)); (case h2 => exact Int.neg_lt_neg (by assumption)); k_whole); intro t9 h9 tk9 sl9 F9 N9; (try k_sweep)))
local macro_rules | `(tactic| mul_fits) => `(tactic| exact PySem.IntMulOk.of_left (PySem.intBits_le_64 (by omega) (by omega)))

theorem car_end1 {J : (Str → Option Value) → List (Addr × Obj) → Prop} {m' : Str → Option Value} {own : List (Addr × Obj)} {p : Addr × Obj} {adr : List Addr} {s₁ : Shared} {h' : Heap} {tk : Nat} (F : Fr h₀ L h' m') (N : News h₀ L h' (p :: own))
    (hj : J m' [p]) (ha : [p].map (·.1) = adr) : InvEndN h₀ L J own adr s₁ { s₁ with heap := h', toks := tk } :=
  InvEndN.intro F N hj ha (fun q hq => List.mem_singleton.mp hq ▸ List.mem_cons_self ..) (fun q hq => List.mem_cons_of_mem _ hq)
theorem car_end2 {J : (Str → Option Value) → List (Addr × Obj) → Prop} {m' : Str → Option Value} {own : List (Addr × Obj)} {p q : Addr × Obj} {adr : List Addr} {s₁ : Shared} {h' : Heap} {tk : Nat} (F : Fr h₀ L h' m') (N : News h₀ L h' (q :: p :: own))
    (hj : J m' [p]) (ha : [p].map (·.1) = adr) : InvEndN h₀ L J own adr s₁ { s₁ with heap := h', toks := tk } := car_end1 F (kti_tail N) hj ha
theorem carried_ct {fa l : Addr} {vs : List Value} {ns : List Int} (B : Below A₀ h₀ [] h₀) (F : Fr h₀ L s.heap m) (N : News h₀ L s.heap news) (X : (hd.heap_39 w.params).In h₀) (T : Top hd.view_39 (looseW hd.view_39 [Str.ofString "EXP_TABLE", Str.ofString "LOG_TABLE", Str.ofString "rsPoly_LUT"]) mean mg mb h₀)
    (hfl : env.frame = some L) (hkl : env.scope.kind = .function) (hdp : dp + 20 < recursionLimit) (hu : un + 200 < cLine)
    (hF : IsField s.heap fa) (hl : s.heap.IsList l vs.toArray) (hi : IntsAre vs ns)
    (ret : ∀ h' tk', Fr h₀ L h' m → News h₀ L h' news → Q (.bool true) { s with heap := h', toks := tk' }) :
    wpAny (model PySem.Challenge.rw_bm0035_01.prog w) (Ar dp un gd env []) (call (.ref 145) [.ref fa, .ref l]) Q E s := by
  revert X; k_fill; intro X
  have X' := X.keeps F.keep
  have T' := T.keeps F.keep
  obtain ⟨oL, es, ep, hL, hLd, hLk, hLf⟩ := id F.ns
  have hNs : ∀ h : Heap, ∀ sl, h.get? L = some { oL with slots := sl } → h.Ns L m := fun h sl e => ns_slots F.ns hL e
  have h0l : h₀.get? L = none := kts_self F
  obtain ⟨gC, hgC⟩ : ∃ g, g = hideAll s.heap [L] := ⟨_, rfl⟩
  have g1 : ∀ b o, gC.get? b = some o → s.heap.get? b = some o := fun b o e => of_hideAll _ (hgC ▸ e)
  have g2 : ∀ b o, b ≠ L → s.heap.get? b = some o → gC.get? b = some o := fun b o h e => hgC ▸ hideAll_get _ e (by simpa using h)
  have g3 : gC.get? L = none := hgC ▸ hideAll_none _ (by simp)
  have g4 : gC.objs.size = s.heap.objs.size := hgC ▸ hideAll_size _ _
  have hst : h₀.StaysIn gC := fun b o e => g2 b o (by rintro rfl; rw [h0l] at e; cases e) (F.keep b o e)
  have gd' : ∀ b o, s.heap.get? b = some o → (∀ es ep, o.data ≠ .dict es ep) → gC.get? b = some o := fun b o e h => g2 b o (by rintro rfl; rw [hL] at e; cases e; exact h _ _ hLd) e
  have hlC : gC.IsList l vs.toArray := by
    obtain ⟨o, e, c, n, d⟩ := hl
    exact ⟨o, gd' _ _ e (by intro _ _ q; rw [d] at q; cases q), c, n, d⟩
  obtain ⟨pa, la, ps, ls, hft, hpl, hpi, hll, hli⟩ := hF.ex
  have hft' : IsTup gC fa [Value.ref pa, Value.ref la].toArray := by
    obtain ⟨o, e, c, n, d⟩ := hft
    exact ⟨o, gd' _ _ e (by intro _ _ q; rw [d] at q; cases q), c, n, d⟩
  have hpl' : gC.IsList pa ps.toArray := by
    obtain ⟨o, e, c, n, d⟩ := hpl
    exact ⟨o, gd' _ _ e (by intro _ _ q; rw [d] at q; cases q), c, n, d⟩
  have hll' : gC.IsList la ls.toArray := by
    obtain ⟨o, e, c, n, d⟩ := hll
    exact ⟨o, gd' _ _ e (by intro _ _ q; rw [d] at q; cases q), c, n, d⟩
  have hFC : IsField gC fa := ⟨pa, la, ps, ls, hft', hpl', hpi, hll', hli⟩
  have XC : (hd.heap_39 w.params).In gC := X.keeps hst
  have TC := T.keeps hst
  k_dflt (refine' enter0b (binds := [(Str.ofString "field", .ref fa), (Str.ofString "numbers", .ref l)]) X' T' ?ho ?hcd ?hroom ?hbind ?hloc ?_ ?c1 ?c2 ?c3 ?c4)
  case ho => k_is
  case hcd => k_is
  case hroom => walk_at "MY room"
  case hbind => exact BindsTo.of_eq rfl
  case hloc => exact locs rfl
  case c1 => exact rfl
  case c2 => exact rfl
  case c3 => exact rfl
  case c4 => decide
  intro h₁ F' N'
  have h0c : h₀.get? s.heap.objs.size = none := Heap.get?_none_of_le (Nat.le_trans F.above (Nat.le_of_lt F.ns.lt))
  have hgc : gC.get? s.heap.objs.size = none := Heap.get?_none_of_le (Nat.le_of_eq g4)
  have N1 : News gC s.heap.objs.size h₁ [(L, { oL with slots := oL.slots })] := by
    intro p hp
    rw [List.mem_singleton] at hp
    rw [hp]
    exact ⟨F'.keep _ _ hL, Nat.ne_of_lt (Heap.lt_size hL), g3⟩
  have F1 : Fr gC s.heap.objs.size h₁ _ := ⟨F'.ns, fun b o e => F'.keep b o (g1 b o e), Nat.le_of_eq g4⟩
  clear F' N' X' T' hF hl hpl hll hft
  show wpAny _ _ _ _ _ _
  k_fold
  k_steps
  rename Fr _ _ _ _ => F2
  rename News _ _ _ _ => N2
  refine iter_invN (fun i m nx => (∃ sl, nx = [(L, { oL with slots := sl })]) ∧ (∃ c t, m (Str.ofString "carried") = some (.int c t) ∧ 1 ≤ c ∧ c ≤ 255) ∧ m (Str.ofString "field") = some (.ref fa)) rfl hlC hi F2 N2 ⟨⟨_, rfl⟩, ⟨_, _, rfl, by decide, by decide⟩, rfl⟩ ?_ ?_
  · rintro i n tn m₂ nx h tk own hn _ hoff ⟨⟨sl, rfl⟩, ⟨c, tc, hm1, hc1, hc2⟩, hm2⟩ F3 N3
    obtain ⟨m₃, e3⟩ := map_know hm1
    subst e3
    obtain ⟨m₄, e4⟩ := map_know (x := Str.ofString "field") (m := m₃) hm2
    subst e4
    have hRo : ∀ p ∈ own, p.1 ≠ L := fun p hp => hoff p hp L (List.mem_cons_self ..)
    replace N3 : News gC s.heap.objs.size h ((L, { oL with slots := sl }) :: own) := N3
    have q1 := Int.fmod_nonneg_of_pos (n.fdiv 4) (show (0:Int) < 255 by decide)
    have q2 := Int.fmod_lt_of_pos (n.fdiv 4) (show (0:Int) < 255 by decide)
    have q3 : 0 ≤ (n.fdiv 4).fmod ((10 : Int) ^ Int.toNat 20) := Int.fmod_nonneg_of_pos _ (by decide)
    have q4 : (n.fdiv 4).fmod ((10 : Int) ^ Int.toNat 20) < 10 ^ 20 := Int.fmod_lt_of_pos _ (by decide)
    have l1 := logF_range hc1 hc2
    have l2 : 0 ≤ LOGT.getD c.toNat 0 ∧ LOGT.getD c.toNat 0 < 255 := logF_range hc1 hc2
    obtain ⟨l3, l4⟩ := l1
    obtain ⟨l5, l6⟩ := l2
    have k0 : timesF c (1 + (n.fdiv 4).fmod 255) = expF (logF c + logF (1 + (n.fdiv 4).fmod 255)) := times_ne (by omega) (by omega)
    have k1 : POWT.getD ((LOGT.getD c.toNat 0 - LOGT.getD (1 + (n.fdiv 4).fmod 255).toNat 0).fmod 255).toNat 0 = expF (logF c - logF (1 + (n.fdiv 4).fmod 255)) := powF _
    have k2 : POWT.getD ((LOGT.getD c.toNat 0 * n.fdiv 4 + n.fdiv 4).fmod 255).toNat 0 = expF (logF c * n.fdiv 4 + n.fdiv 4) := powF _
    have k3 : logF (1 + (n.fdiv 4).fmod 255) = LOGT.getD (1 + (n.fdiv 4).fmod 255).toNat 0 := rfl
    clear F2 N2 hm1 hm2 hn
    show wpAny _ _ _ _ _ _
    k_fold
    k_steps
    all_goals first
      | (exfalso; first | exact absurd k0.symm (by assumption) | exact absurd k1.symm (by assumption) | exact absurd k2.symm (by assumption) | exact absurd k3 (by assumption) | exact absurd rfl (by assumption : ¬ (c = c)); done)
      | ((rename Fr _ _ _ _ => F4); (rename News _ _ _ _ => N4); first
          | exact car_end1 F4 N4 ⟨⟨_, rfl⟩, ⟨_, _, rfl, (expF_range _).1, (expF_range _).2⟩, rfl⟩ rfl
          | exact car_end2 F4 N4 ⟨⟨_, rfl⟩, ⟨_, _, rfl, (expF_range _).1, (expF_range _).2⟩, rfl⟩ rfl
          | exact car_end1 F4 N4 ⟨⟨_, rfl⟩, ⟨_, _, rfl, hc1, hc2⟩, rfl⟩ rfl
          | exact car_end2 F4 N4 ⟨⟨_, rfl⟩, ⟨_, _, rfl, hc1, hc2⟩, rfl⟩ rfl)
  · rintro m₂ nx h' tk' ⟨⟨sl, rfl⟩, ⟨c, tc, hm1, hc1, hc2⟩, hm2⟩ F3 N3
    show wpAny _ _ _ _ _ _
    try k_fold
    k_steps
    have e := (N3 _ (List.mem_cons_self ..)).1
    refine ret _ _ ⟨hNs _ _ e, fun b o e => F3.keep _ _ (hst b o e), F.above⟩ (fun p hp => ?_)
    have := N p hp
    exact ⟨F3.keep _ _ (g2 _ _ this.2.1 this.1), this.2⟩

end
end Mine
end
section
open PySem PySem.W PySem.Calls PySem.Spec PyProof.Rows
set_option maxRecDepth 100000
set_option maxHeartbeats 2000000
set_option linter.unusedVariables false
namespace Mine
section
variable {prog : Program} {w : World} {A : Around} {E : Value → Shared → Prop} {s : Shared}
abbrev zipP1 (h : Heap) (i1 i2 : Value) : Heap := h.push { cls := .type "tuple", data := .seq #[i1, i2] }
abbrev zipP2 (h : Heap) (i1 i2 : Value) : Heap := (zipP1 h i1 i2).push { cls := .type "tuple", data := .seq #[.none, .none] }
abbrev zipP3 (h : Heap) (i1 i2 : Value) : Heap := (zipP2 h i1 i2).push { cls := .type "zip", data := .fields #[.none, .bool false, .bool false, .ref h.objs.size, .ref (zipP1 h i1 i2).objs.size] }
theorem zip_new {x y : Addr} {Q : Value → Shared → Prop}
    (h : wpAny (model prog w) A (pyIter (.ref x)) (fun i1 s1 => wpAny (model prog w) A (pyIter (.ref y)) (fun i2 s2 => Q (.ref (zipP2 s2.heap i1 i2).objs.size) { s2 with heap := zipP3 s2.heap i1 i2 }) E s1) E s) :
    wpAny (model prog w) A (Builtin.«zip.__new__» ⟨[.type "zip", .ref x, .ref y], []⟩) (fun fin s' => ∃ obj, fin = .done (.ret obj) ∧ s'.TypeIs obj "zip" ∧ Q obj s') E s := by
  have hsub := sub_zip
  have p1 : ∀ {Q' : Value → Shared → Prop}, (∀ i1 s1, wpAny (model prog w) A (pyIter (.ref y)) (fun i2 s2 => Q (.ref (zipP2 s2.heap i1 i2).objs.size) { s2 with heap := zipP3 s2.heap i1 i2 }) E s1 → Q' i1 s1) → wpAny (model prog w) A (pyIter (.ref x)) Q' E s :=
    fun hq => wpAny_mono h hq fun _ _ e => e
  wp_walk using p1
  intro i1 s1 h1
  have p2 : ∀ {Q' : Value → Shared → Prop}, (∀ i2 s2, Q (.ref (zipP2 s2.heap i1 i2).objs.size) { s2 with heap := zipP3 s2.heap i1 i2 } → Q' i2 s2) → wpAny (model prog w) A (pyIter (.ref y)) Q' E s1 :=
    fun hq => wpAny_mono h1 hq fun _ _ e => e
  wp_walk using p2
  intro i2 s2 h2
  obtain ⟨hp, g, d, tk, os⟩ := s2
  wp_walk
  exact ⟨_, rfl, ⟨_, Heap.get?_push_size _ rfl, rfl⟩, h2⟩
end
end Mine
end
section
open PySem PySem.W PySem.Calls PySem.Spec PyProof.Rows PyProof.Rows.LCp PyProof.Rows.LCg
set_option maxRecDepth 100000
set_option maxHeartbeats 2000000
set_option linter.unusedVariables false
namespace Mine
section
variable {prog : Program} {w : World} {A : Around} {E : Value → Shared → Prop} {s : Shared} {R : Result → Shared → Prop}

/-- the turns of a comprehension over pairs: what its word yields keeps the heap -/
theorem loop_pairs {elt iter : Expr} {x x₂ : Str} {px px₂ tp : Pos} {tk : Nat} {scope : Scope} {pos : Pos} {I D : Addr} {fp wr : List Addr} {n : Nat} {Pt : Nat → Array Value → Prop} {St : Nat → Heap → Prop} {Mid : Nat → Addr → Heap → Prop}
    {cenv : Env} {m : Str → Option Value} (W : WalksT prog w A I fp wr n Pt St Mid) (G : Nat → Value → Prop) (hh : A.handled = none) (hPt : ∀ i vals, Pt i vals → ∃ a b, vals = #[a, b])
    (hx : cenv.kindOf x = some .local) (hx₂ : cenv.kindOf x₂ = some .local) (hxx : x ≠ x₂) (hp : (cenv.scope.kind == .class || (cenv.scope.kind == .module && cenv.locals != cenv.globals)) = false)
    (hDC : D ≠ cenv.locals) (hDf : D ∉ fp) (hCf : cenv.locals ∉ fp)
    (hst : St 0 s.heap) (hacc : s.heap.PlainList D #[]) (hn : s.heap.Ns cenv.locals m)
    (helt : ∀ i a b s₂ m₂ E', Pt i #[a, b] → s₂.heap.Ns cenv.locals m₂ → m₂ x = some a → m₂ x₂ = some b → (∀ b o, b ≠ cenv.locals → b ∉ wr → b ≠ D → s.heap.get? b = some o → s₂.heap.get? b = some o) →
      wpAny (model prog w) A (eval elt cenv) (fun y s₃ => G i y ∧ Keeps s₂ s₃) E' s₂)
    (hR : ∀ h' tk m' (ys : List Value), h'.Ns cenv.locals m' → h'.PlainList D ys.toArray → ys.length = n → (∀ j y, ys[j]? = some y → G j y) →
      (∀ b o, b ≠ cenv.locals → b ∉ wr → b ≠ D → s.heap.get? b = some o → h'.get? b = some o) → R (.ok .next) { s with heap := h', toks := tk })
    (hsz : n ≤ sizeLine) :
    codeAny (model prog w) A (.compLoop (.ListComp elt [⟨.Tuple [.Name x px, .Name x₂ px₂] tk tp, iter, [], 0⟩] scope pos) 0 (.ref I) (.ref D) cenv) R s := by
  have hCw : cenv.locals ∉ wr := fun h => hCf (W.sub _ h)
  have hDw : D ∉ wr := fun h => hDf (W.sub _ h)
  refine codeAny_compLoop_pair
    (fun k s' => ∃ h' tk m' ys, s' = { s with heap := h', toks := tk } ∧ ys.length ≤ n ∧ k = n + 1 - ys.length ∧ St ys.length h' ∧ h'.PlainList D (List.toArray ys) ∧ h'.Ns cenv.locals m' ∧ (∀ j y, ys[j]? = some y → G j y) ∧
      (∀ b o, b ≠ cenv.locals → b ∉ wr → b ≠ D → s.heap.get? b = some o → h'.get? b = some o)) ?_ (n + 1)
    ⟨s.heap, s.toks, m, [], rfl, Nat.zero_le _, rfl, hst, hacc, hn, by simp, fun _ _ _ _ _ e => e⟩
  rintro k s' ⟨H, tk', m', ys, rfl, hle, rfl, hst', hacc', hn', hG, hk⟩
  by_cases hlt : ys.length < n
  · refine W.item ys.length _ _ _ hlt hst' fun T vals h₁ tk₁ hPv hTn hT hM hk₁ => ?_
    obtain ⟨a, b, rfl⟩ := hPt _ _ hPv
    refine W.go _ _ _ _ _ _ _ _ hM fun h₂ hst₂ hk₂ => ?_
    have hT₂ : IsTup h₂ T #[a, b] := let ⟨o, e, r⟩ := hT; ⟨o, hk₂ _ _ (W.apart _ _ _ hM) e, r⟩
    refine assign_Tuple_tuple hh hT₂ rfl rfl fun h₅ he => ?_
    have he' : ∀ b o, h₂.get? b = some o → h₅.get? b = some o := fun b o e => he b o (Nat.ne_of_lt (Heap.lt_size e)) e
    have hn₂ : h₂.Ns cenv.locals m' := (hn'.at' fun o e => hk₁ _ o hCw e).at' fun o e => hk₂ _ o hCw e
    refine assignInOrder_cons (wpAny_assign_Name (wpAny_storeName_local hx (hn₂.at' fun o e => he' _ o e) (fun h₆ hn₆ hs₆ => ?_) hp))
    refine assignInOrder_cons (wpAny_assign_Name (wpAny_storeName_local hx₂ hn₆ (fun h₃ hn₃ hs₃ => ?_) hp))
    refine assignInOrder_nil ?_
    have old2 : ∀ b o, b ≠ cenv.locals → h₂.get? b = some o → h₃.get? b = some o := fun b o hb e => hs₃.extBut b o hb (hs₆.extBut b o hb (he' b o e))
    have old3 : ∀ b o, b ≠ cenv.locals → b ∉ wr → H.get? b = some o → h₃.get? b = some o := fun b o hb hw e => old2 b o hb (hk₂ b o hw (hk₁ b o hw e))
    have hst₃ : St (ys.length + 1) h₃ := W.frame _ _ _ hst₂ fun b hb o e => old2 b o (fun q => hCf (q ▸ hb)) e
    have hacc₃ : h₃.PlainList D ys.toArray := hacc'.at fun o e => old3 D o hDC hDw e
    refine wpAny_mono (helt ys.length a b _ _ _ hPv hn₃ (by simp [hxx]) (by simp) fun b o h1 h2 h3 e => old3 b o h1 h2 (hk b o h1 h2 h3 e)) (fun y s₄ h₄ => ?_) fun _ _ e => e
    obtain ⟨hGy, h₄, tk₄, rfl, hk₄⟩ := h₄
    refine wpAny_list_append_plain (hsz := by rw [List.size_toArray]; omega) (hacc₃.at fun o e => hk₄ _ o e) fun h₅ hl₅ hs₅ => ?_
    refine ⟨n + 1 - (ys.length + 1), by omega, h₅, tk₄, _, ys ++ [y], rfl, by rw [List.length_append, List.length_singleton]; exact hlt, by rw [List.length_append, List.length_singleton], ?_, ?_, (hn₃.keeps hk₄).sameBut hs₅ (Ne.symm hDC), ?_,
      fun b o h1 h2 h3 e => hs₅.extBut b o h3 (hk₄ b o (old3 b o h1 h2 (hk b o h1 h2 h3 e)))⟩
    · have := W.frame _ _ h₅ hst₃ fun b hb o e => hs₅.extBut b o (fun h => hDf (h ▸ hb)) (hk₄ b o e)
      simpa using this
    · rw [List.push_toArray] at hl₅
      exact hl₅
    · intro j z hj
      rcases Nat.lt_trichotomy j ys.length with h | h | h
      · exact hG j z (by rwa [List.getElem?_append_left h] at hj)
      · subst h; simp at hj; subst hj; exact hGy
      · rw [List.getElem?_eq_none (by rw [List.length_append, List.length_singleton]; omega)] at hj; cases hj
  · have hin : ys.length = n := by omega
    refine W.done _ _ _ (hin ▸ hst') fun h₁ tk₁ hk₁ => ?_
    exact hR h₁ tk₁ m' ys (hn'.at' fun o e => hk₁ _ o hCw e) (hacc'.at fun o e => hk₁ _ o hDw e) hin hG fun b o h1 h2 h3 e => hk₁ b o h2 (hk b o h1 h2 h3 e)

/-- a comprehension's block as its turns begin: a list of its own at D, names of its own at C, all else as it stood -/
structure Begun (h h₁ : Heap) (D C : Addr) (m : Str → Option Value) : Prop where
  made : h₁.PlainList D #[]
  names : h₁.Ns C m
  kept : h.StaysIn h₁
  apart : D ≠ C
  late : h.objs.size ≤ D ∧ h.objs.size ≤ C
theorem Begun.off {h h₁ : Heap} {D C b : Addr} {m : Str → Option Value} (g : Begun h h₁ D C m) (hb : b < h.objs.size) : b ≠ C ∧ b ≠ D :=
  ⟨Nat.ne_of_lt (Nat.lt_of_lt_of_le hb g.late.2), Nat.ne_of_lt (Nat.lt_of_lt_of_le hb g.late.1)⟩
theorem begun {h h₁ : Heap} {oC : Obj} {m : Str → Option Value} {k : Nat} (hn : h₁.Ns (h.objs.size + 1) m) (hs : Heap.SameBut (h.objs.size + 1) ((h.push { cls := .type "list", dict := none, data := .seq ([] : List Value).toArray k }).push oC) h₁) :
    Begun h h₁ h.objs.size (h.objs.size + 1) m := by
  have same : ∀ b o, b < h.objs.size + 1 → (h.push { cls := .type "list", dict := none, data := .seq ([] : List Value).toArray k }).get? b = some o → h₁.get? b = some o :=
    fun b o lt e => (hs.2 b (Nat.ne_of_lt lt)).trans (Heap.get?_push_of_some _ e)
  exact { made := ⟨_, same _ _ (Nat.lt_succ_self _) (Heap.get?_push_size _ rfl)⟩, names := hn, kept := fun b o e => same b o (Nat.lt_succ_of_lt (Heap.lt_size e)) (Heap.get?_push_of_some _ e),
          apart := Nat.ne_of_lt (Nat.lt_succ_self _), late := ⟨Nat.le_refl _, Nat.le_succ _⟩ }
/-- up to the turns -/
theorem pairs_start {env : Env} {elt target iter : Expr} {scope : Scope} {cl : List (Str × Addr)} {pos : Pos} {I : Addr} {fp wr : List Addr} {n : Nat} {Pt : Nat → Array Value → Prop} {St : Nat → Heap → Prop} {Mid : Nat → Addr → Heap → Prop} {RR : Value → Addr → Result → Shared → Prop}
    (W : WalksT prog w A I fp wr n Pt St Mid) (hst : St 0 s.heap) (hcell : ∀ y ∈ scope.names, y.2 ≠ .cell) (hkind : scope.kind = .function)
    (turns : ∀ D C h₁ m, Begun s.heap h₁ D C m → St 0 h₁ →
      codeAny (model prog w) A (.compLoop (.ListComp elt [⟨target, iter, [], 0⟩] scope pos) 0 (.ref I) (.ref D) (compEnvC scope cl C env)) (RR (.ref D) C) { s with heap := h₁ }) :
    wpAny (model prog w) A (newList []) (fun acc s₃ => wpAny (model prog w) A (newFunctionEnv scope env.globals cl [] env.qual none .none (some env)) (fun cenv s₄ =>
      codeAny (model prog w) A (.compStart (.ListComp elt [⟨target, iter, [], 0⟩] scope pos) 0 (.ref I) acc { cenv with scope := relabel scope env }) (RR acc cenv.locals) s₄) E s₃) E s := by
  refine wpAny_newObj_type (wpAny_newFunctionEnv hcell (fun _ h => nomatch h) (fun h₁ hn hs => ?_) hkind)
  dsimp only at hn hs ⊢
  rw [Heap.size_push] at hn hs ⊢
  have g := begun hn hs
  have st := W.frame 0 _ h₁ hst fun b _ o e => g.kept b o e
  have go := turns _ _ h₁ _ g st
  exact codeAny_compStart_list go (W.self 0 _ _ _ st go)

/-- a comprehension over pairs, stored under a local name -/
theorem Assign_pairs {env : Env} {elt iter : Expr} {x x₂ y : Str} {px px₂ tp py : Pos} {tk : Nat} {scope : Scope} {cl : List (Str × Addr)} {pos spos : Pos} {Q : Flow → Shared → Prop} {G : Nat → Value → Prop}
    (hsw : swapsWith (.ListComp elt [⟨.Tuple [.Name x px, .Name x₂ px₂] tk tp, iter, [], 0⟩] scope pos) (some (.Name y py)) spos.line env = pure true)
    (hh : A.handled = none) (hclos : closureFor scope env = pure cl) (hcell : ∀ z ∈ scope.names, z.2 ≠ .cell) (hkind : scope.kind = .function)
    (hnames : ∀ z ∈ scope.names, z.2 = .local → scope.names.lookup z.1 = some .local) (hx : scope.names.lookup x = some .local) (hx₂ : scope.names.lookup x₂ = some .local) (hxx : x ≠ x₂)
    (hy : env.kindOf y = some .local) (hp : (env.scope.kind == .class || (env.scope.kind == .module && env.locals != env.globals)) = false)
    (h : wpAny (model prog w) A (eval iter env) (fun xv s₁ => wpAny (model prog w) A (pyIter xv) (fun it s₂ => ∃ I fp wr n Pt St Mid m, it = .ref I ∧ WalksT prog w A I fp wr n Pt St Mid ∧ (∀ i vals, Pt i vals → ∃ a b, vals = #[a, b]) ∧ n ≤ sizeLine ∧ St 0 s₂.heap ∧ (∀ b ∈ fp, b < s₂.heap.objs.size) ∧
      env.locals ∉ wr ∧ s₂.heap.Ns env.locals m ∧
      (∀ C i a b s₃ m₃ E', s₂.heap.objs.size ≤ C → Pt i #[a, b] → s₃.heap.Ns C m₃ → m₃ x = some a → m₃ x₂ = some b → (∀ b o, b ∉ wr → s₂.heap.get? b = some o → s₃.heap.get? b = some o) →
        wpAny (model prog w) A (eval elt (compEnvC scope cl C env)) (fun y s₄ => G i y ∧ Keeps s₃ s₄) E' s₃) ∧
      (∀ D h' tk (ys : List Value), s₂.heap.get? D = none → h'.PlainList D ys.toArray → ys.length = n → (∀ j y, ys[j]? = some y → G j y) →
        h'.Ns env.locals (fun z => if z = y then some (.ref D) else m z) → (∀ b o, b ≠ env.locals → b ∉ wr → s₂.heap.get? b = some o → h'.get? b = some o) → Q .next { s₂ with heap := h', toks := tk })) E s₁) E s)
    (hs : ∀ x, foldedSetIterable iter env x = pure x := by intro _; rfl) :
    wpAny (model prog w) A (exec (.Assign [.Name y py] (.ListComp elt [⟨.Tuple [.Name x px, .Name x₂ px₂] tk tp, iter, [], 0⟩] scope pos) spos) env) Q E s := by
  rw [exec_Assign_Name_used _ _ _ _ hsw]
  refine wpAny_bind (wpAny_standAt (wpAny_bind ?_))
  show wpAny _ A (do let _ ← comprehension (.ListComp elt [⟨.Tuple [.Name x px, .Name x₂ px₂] tk tp, iter, [], 0⟩] scope pos) scope env _ (newList []) false (eval iter env) (some (assign (.Name y py) env))) _ _ s
  refine wpAny_bind (wpAny_mono (wpAny_comprehension_free (use := some (assign (.Name y py) env)) (Q := fun _ s' => Q .next s') rfl hs hclos hkind hnames
    (wpAny_mono h (fun xv s₁ h₁ => wpAny_mono h₁ (fun it s₂ h₂ => ?_) fun _ _ e => e) fun _ _ e => e)) (fun _ s' hq => wpAny_pure (wpAny_pure hq)) fun _ _ e => e)
  obtain ⟨I, fp, wr, n, Pt, St, Mid, m, rfl, W, hPt, hsz, hst, hfp, hLf, hn, helt, hQ⟩ := h₂
  have hLs : env.locals < s₂.heap.objs.size := by
    obtain ⟨_, _, _, e, _⟩ := hn
    exact Heap.lt_size e
  refine pairs_start (RR := fun acc C => compPost (model prog w) A E (some (assign (.Name y py) env)) (fun _ s' => Q .next s') acc C) W hst hcell hkind fun D C h₁ m₁ g st => ?_
  have far : ∀ b, b < s₂.heap.objs.size → b ≠ C ∧ b ≠ D := fun b hb => g.off hb
  refine loop_pairs W G hh hPt (lookup_relabel_local hx) (lookup_relabel_local hx₂) hxx (by simp [compEnvC, relabel, hkind]) g.apart (fun hm => (far _ (hfp _ hm)).2 rfl) (fun hm => (far _ (hfp _ hm)).1 rfl) st g.made g.names
    (fun i a b s₃ m₃ E' hv h3 h4 h5 h6 => helt C i a b s₃ m₃ _ g.late.2 hv h3 h4 h5 fun b' o hw e => h6 b' o (far _ (Heap.lt_size e)).1 hw (far _ (Heap.lt_size e)).2 (g.kept _ _ e)) (fun h' tk' m' ys hC hD hl hG hk => ?_) hsz
  have stay : ∀ b o, b ∉ wr → s₂.heap.get? b = some o → h'.get? b = some o := fun b o hw e => hk b o (far _ (Heap.lt_size e)).1 hw (far _ (Heap.lt_size e)).2 (g.kept _ _ e)
  obtain ⟨lc, ld⟩ := far _ hLs
  refine wpAny_assign_Name (wpAny_storeName_local hy (hn.at' fun o => stay _ o hLf) (fun h₂ n₂ z₂ => ?_) hp)
  exact ⟨m', hC.sameBut z₂ (Ne.symm lc), fun h₃ z₃ => hQ D h₃ _ ys (Heap.get?_none_of_le g.late.1) ((hD.extBut z₂.extBut (Ne.symm ld)).extBut z₃.extBut g.apart) hl hG (n₂.sameBut z₃ lc) fun b o hb hw e =>
    z₃.extBut b o (far _ (Heap.lt_size e)).1 (z₂.extBut b o hb (stay b o hw e))⟩
end
end Mine
end
section
open PySem PySem.W PyProof.Rows
local macro_rules | `(tactic| walk_at "MY none 0") => `(tactic| fail)
local macro_rules | `(tactic| walk_at "MY none 1") => `(tactic| fail)
local macro_rules | `(tactic| walk_at "MY none 2") => `(tactic| fail)
theorem Mine.resetC14 : (1 : Nat) ≤ 2 := by
  w_top off
  first | walk1 | decide
end
section
open PySem PySem.W PySem.Calls PySem.Spec PyProof.Rows
set_option maxRecDepth 100000
set_option maxHeartbeats 2000000
set_option pp.maxSteps 4000
set_option linter.unusedVariables false
namespace Mine
section
variable {w : World} {A₀ : Around} {base h₀ : Heap} {outer : List Env} {L : Addr} {m mg mb : Str → Option Value} {env : Env} {mean : ExcName → Option Value} {dp un : Nat} {gd : Option (List Code)} {s : Shared} {E Q : Value → Shared → Prop} {news : List (Addr × Obj)}

local macro_rules | `(tactic| walk_at "MY pos") => `(tactic| omega)
local macro_rules | `(tactic| walk_at "MY room") => `(tactic| ((try simp only [depth_under_make, depth_under_kw, depth_in1, depth_deeper]); (try dsimp only [Ar, Around.in1, Around.deeper]); omega))
local macro_rules | `(tactic| walk_at "MY units") => `(tactic| ((try simp only [units_in1, units_deeper, units_under_make, Around.mark_units]); (try dsimp only [Ar, Around.in1, Around.deeper]); omega))
local macro_rules | `(tactic| walk_at "MY idx") => `(tactic| first | omega | (simp only [LOGT_len, EXPT_len]; omega))
theorem gexp_k {n : Int} {t : Tok} (X : (hd.heap_39 w.params).In s.heap)
    (T : Top hd.view_39 (looseW hd.view_39 [Str.ofString "EXP_TABLE", Str.ofString "LOG_TABLE", Str.ofString "rsPoly_LUT"]) mean mg mb s.heap) (hdp : dp + 2 < recursionLimit) (hu : un + 20 < cLine)
    
    (ret : ∀ t' h' tk', s.heap.StaysIn h' → Q (.int (expF n) t') { s with heap := h', toks := tk' }) :
    wpAny (model PySem.Challenge.rw_bm0035_01.prog w) (Ar dp un gd env outer) (call (.ref 30) [.int n t]) Q E s := by
  revert X; k_fill; intro X
  have X' := X
  have T' := T
  k_dflt (refine' enter0b (binds := [(Str.ofString "n", .int n t)]) X' T' ?ho ?hcd ?hroom ?hbind ?hloc ?_ ?c1 ?c2 ?c3 ?c4)
  case ho => k_is
  case hcd => k_is
  case hroom => walk_at "MY room"
  case hbind => exact BindsTo.of_eq rfl
  case hloc => exact locs rfl
  case c1 => exact rfl
  case c2 => exact rfl
  case c3 => exact rfl
  case c4 => decide
  intro h₁ F' N'
  try dsimp only
  show wpAny _ _ _ _ _ _
  k_fold
  k_steps
  obtain ⟨_, l, nn, hl, hi⟩ := look_exp w.params
  have hb := Int.fmod_nonneg_of_pos n (show (0:Int) < 255 by decide)
  have hb2 := Int.fmod_lt_of_pos n (show (0:Int) < 255 by decide)
  refine topInts F' X' hl hi hb (by rw [EXPT_len]; omega) (by omega) (fun t' => ?_)
  exact ret _ _ _ F'.keep
theorem glog_k {n : Int} {t : Tok} (X : (hd.heap_39 w.params).In s.heap)
    (T : Top hd.view_39 (looseW hd.view_39 [Str.ofString "EXP_TABLE", Str.ofString "LOG_TABLE", Str.ofString "rsPoly_LUT"]) mean mg mb s.heap) (hdp : dp + 2 < recursionLimit) (hu : un + 20 < cLine)
    (h1 : 1 ≤ n) (h2 : n ≤ 255)
    (ret : ∀ t' h' tk', s.heap.StaysIn h' → Q (.int (logF n) t') { s with heap := h', toks := tk' }) :
    wpAny (model PySem.Challenge.rw_bm0035_01.prog w) (Ar dp un gd env outer) (call (.ref 23) [.int n t]) Q E s := by
  revert X; k_fill; intro X
  have X' := X
  have T' := T
  k_dflt (refine' enter0b (binds := [(Str.ofString "n", .int n t)]) X' T' ?ho ?hcd ?hroom ?hbind ?hloc ?_ ?c1 ?c2 ?c3 ?c4)
  case ho => k_is
  case hcd => k_is
  case hroom => walk_at "MY room"
  case hbind => exact BindsTo.of_eq rfl
  case hloc => exact locs rfl
  case c1 => exact rfl
  case c2 => exact rfl
  case c3 => exact rfl
  case c4 => decide
  intro h₁ F' N'
  try dsimp only
  show wpAny _ _ _ _ _ _
  k_fold
  k_steps
  obtain ⟨_, l, nn, hl, hi⟩ := look_log w.params
  refine topInts F' X' hl hi (by omega) (by rw [LOGT_len]; omega) (by omega) (fun t' => ?_)
  exact ret _ _ _ F'.keep

theorem zip_poly {x y : Addr} {ns ms : List Int} (B : Below A₀ base outer h₀) (F : Fr h₀ L s.heap m) (N : News h₀ L s.heap news) (X : (hd.heap_39 w.params).In h₀)
    (T : Top hd.view_39 (looseW hd.view_39 [Str.ofString "EXP_TABLE", Str.ofString "LOG_TABLE", Str.ofString "rsPoly_LUT"]) mean mg mb h₀) (hf : env.frame = some L) (hke : env.scope.kind = .function) (hdp : dp + 3 < recursionLimit) (hu : un + 40 < cLine)
    (hP : IsPoly h₀ x ns) (hP2 : IsPoly h₀ y ms)
    (ret : ∀ z TI TO i1 i2 l1 l2 vs us h' tk', IntsAre vs ns → IntsAre us ms → IsZip h' z TI TO .none → IsPair h' TI (.ref i1) (.ref i2) → IsPair h' TO .none .none → h'.IsListIter i1 l1 0 → h'.IsListIter i2 l2 0 → h'.IsList l1 (List.toArray vs) → h'.IsList l2 (List.toArray us) →
      ZipApart z TI TO i1 i2 l1 l2 → (∀ b ∈ [z, TI, TO, i1, i2], s.heap.get? b = none) → s.heap.StaysIn h' → Fr h₀ L h' m → News h₀ L h' news → Q (.ref z) { s with heap := h', toks := tk' }) :
    wpAny (model PySem.Challenge.rw_bm0035_01.prog w) (Ar dp un gd env outer) (call (.type "zip") [.ref x, .ref y]) Q E s := by
  refine type_called PySem.F.called_zip (by decide) (PySem.F.typeCall_zip_2 _ _) (PySem.F.newCall_zip_2 _ _) (fun obj => PySem.F.args_object_init_3 obj _ _) PySem.F.entry_zip_new (zip_new ?_)
  refine pyiter_poly (un := un + 2) B F N X T hf hke (by omega) (by omega) hP fun i1 l1 vs h1 tk1 a1 a2 a3 a4 a5 a8 a6 a7 => ?_
  refine pyiter_poly (s := { s with heap := h1, toks := tk1 }) (un := un + 2) B a6 a7 X T hf hke (by omega) (by omega) hP2 fun i2 l2 us h2 tk2 b1 b2 b3 b4 b5 b8 b6 b7 => ?_
  have k3 : ∀ b o, h2.get? b = some o → (zipP3 h2 (.ref i1) (.ref i2)).get? b = some o := fun b o e => Heap.get?_push_of_some _ (Heap.get?_push_of_some _ (Heap.get?_push_of_some _ e))
  have z1 : (zipP1 h2 (.ref i1) (.ref i2)).objs.size = h2.objs.size + 1 := Heap.size_push ..
  have z2 : (zipP2 h2 (.ref i1) (.ref i2)).objs.size = h2.objs.size + 2 := by rw [Heap.size_push, z1]
  have gz : (zipP3 h2 (.ref i1) (.ref i2)).get? (zipP2 h2 (.ref i1) (.ref i2)).objs.size = some _ := Heap.get?_push_size _ rfl
  have gt : (zipP3 h2 (.ref i1) (.ref i2)).get? (zipP1 h2 (.ref i1) (.ref i2)).objs.size = some _ := Heap.get?_push_of_some _ (Heap.get?_push_size _ rfl)
  have gi : (zipP3 h2 (.ref i1) (.ref i2)).get? h2.objs.size = some _ := Heap.get?_push_of_some _ (Heap.get?_push_of_some _ (Heap.get?_push_size _ rfl))
  have st2 : s.heap.StaysIn h2 := fun b o e => b4 b o (a4 b o e)
  have a3' : h2.IsListIter i1 l1 0 := a3.at fun o e => b4 _ o e
  have a2' : h2.IsList l1 vs.toArray := a2.at fun o e => b4 _ o e
  have i1l : i1 < h2.objs.size := by obtain ⟨_, e, _⟩ := a3'; exact Heap.lt_size e
  have i2l : i2 < h2.objs.size := by obtain ⟨_, e, _⟩ := b3; exact Heap.lt_size e
  have l1l : l1 < h2.objs.size := by obtain ⟨_, e, _⟩ := a2'; exact Heap.lt_size e
  have l2l : l2 < h2.objs.size := by obtain ⟨_, e, _⟩ := b2; exact Heap.lt_size e
  have s12 : i1 ≠ i2 := by
    rintro rfl
    obtain ⟨_, e, _⟩ := a3
    have : h1.get? i1 = none := b5
    rw [this] at e; cases e
  have old1 : ∀ b, (∃ o, h₀.get? b = some o) → b ≠ i1 ∧ b ≠ i2 := by
    rintro b ⟨o, e⟩
    have e1 := F.keep _ _ e
    have e2 := a4 _ _ e1
    refine ⟨?_, ?_⟩
    · rintro rfl; rw [a5] at e1; cases e1
    · rintro rfl; have : h1.get? b = none := b5; rw [this] at e2; cases e2
  have ol1 := old1 l1 a8
  have ol2 := old1 l2 b8
  refine ret _ _ _ i1 i2 l1 l2 vs us _ _ a1 b1 gz gi gt (a3'.at fun o e => k3 _ o e) (b3.at fun o e => k3 _ o e) (a2'.at fun o e => k3 _ o e) (b2.at fun o e => k3 _ o e) ?_ ?_ (fun b o e => k3 b o (st2 b o e)) (b6.keeps k3) (b7.grown k3)
  · rw [z1, z2]
    have i1l := ltN i1l
    have i2l := ltN i2l
    have l1l := ltN l1l
    have l2l := ltN l2l
    refine ⟨?_, ?_, ?_, ?_, ?_, ?_, ?_, ?_, ?_, s12, ?_, ?_, ol1.1, ol1.2, ?_, ?_, ol2.1, ol2.2⟩
    all_goals (refine @id (@Ne Nat _ _) ?_; omega)
  · rw [z1, z2]
    intro b hb
    simp only [List.mem_cons, List.not_mem_nil, or_false] at hb
    rcases hb with rfl | rfl | rfl | rfl | rfl
    · exact none_of st2 (Heap.get?_none_of_le (Nat.le_add_right _ _))
    · exact none_of st2 (Heap.get?_none_of_le (Nat.le_refl _))
    · exact none_of st2 (Heap.get?_none_of_le (Nat.le_add_right _ _))
    · exact a5
    · exact none_of a4 b5

end
end Mine
end
section
open PySem PySem.W PyProof.Rows
local macro_rules | `(tactic| walk_at "MY none 0") => `(tactic| fail)
local macro_rules | `(tactic| walk_at "MY none 1") => `(tactic| fail)
local macro_rules | `(tactic| walk_at "MY none 2") => `(tactic| fail)
theorem Mine.resetC14b : (1 : Nat) ≤ 2 := by
  w_top off
  first | walk1 | decide
end
section
open PySem PySem.W PySem.Calls PySem.Spec PyProof.Rows
set_option maxRecDepth 100000
set_option maxHeartbeats 2000000
set_option pp.maxSteps 4000
set_option linter.unusedVariables false
namespace Mine
section
variable {w : World} {A₀ : Around} {base h₀ : Heap} {outer : List Env} {L : Addr} {m mg mb : Str → Option Value} {env : Env} {mean : ExcName → Option Value} {dp un : Nat} {gd : Option (List Code)} {s : Shared} {E Q : Value → Shared → Prop} {news : List (Addr × Obj)}

theorem slice_any {prog : Program} {A : Around} {value slice : PySem.Expr} {l sl : Addr} {items : Array Value} {vl vu : Value} {lo hi : Option Int} {ops : List Value} {Q : Value → Shared → Prop}
    (F : Fr h₀ L s.heap m) (N : News h₀ L s.heap news) (hl : s.heap.IsList l items) (hsl : s.heap.IsSliceOf sl vl vu .none) (pl : IsPart vl lo) (pu : IsPart vu hi)
    (h : ∀ D h', D = s.heap.objs.size → Fr h₀ L h' m → News h₀ L h' ((D, { cls := .type "list", data := .seq (slicePick items lo hi none) }) :: news) → Q (.ref D) { s with heap := h' })
    (hs : subscripted slice false (.ref l) (.ref sl) = operate ops (getItem (.ref l) (.ref sl))) (ht : ∀ r, letTemporaryGo value (.ref l) r = pure ()) (hsz : items.size ≤ sizeLine) :
    wpAny (model prog w) A (subscriptTail value slice (.ref l) (.ref sl)) Q E s := by
  refine subscriptTail_ops (Heap.IsList.typeIs hl) list_getitem_lookup (wpAny_getItem_list_slice hl hsl pl pu .none (by simp) ?_ hsz) hs ht
  exact h _ _ rfl (F.push _) (News.push F N _)

local macro_rules | `(tactic| walk_at "MY pos") => `(tactic| omega)
local macro_rules | `(tactic| walk_at "MY room") => `(tactic| ((try simp only [depth_under_make, depth_under_kw, depth_in1, depth_deeper]); (try dsimp only [Ar, Around.in1, Around.deeper]); omega))
local macro_rules | `(tactic| walk_at "MY units") => `(tactic| ((try simp only [units_in1, units_deeper, units_under_make, Around.mark_units]); (try dsimp only [Ar, Around.in1, Around.deeper]); omega))
local macro_rules | `(tactic| walk_at "MY idx") => `(tactic| first | omega | (simp only [POWT_len, LOGT_len, EXPT_len]; omega))
local macro_rules | `(tactic| walk_at "subscriptTail Subscript") => `(tactic| (k_here; (with_reducible show wpAny _ _ (subscriptTail _ _ (Value.ref _) (Value.int _ _)) _ _ _); k_dflt (refine' item_ints ?k1 ?k2 ?k3 ?k4 ?k5 ?_; (case k1 => is_list); (case k2 => assumption); (case k3 => walk_at "MY idx"); (case k4 => walk_at "MY idx"); (case k5 => walk_at "MY idx"); k_whole); intro t9))
local macro_rules | `(tactic| walk_at "subscriptTail Name") => `(tactic| (k_here; (with_reducible show wpAny _ _ (subscriptTail _ _ (Value.ref _) (Value.int _ _)) _ _ _); k_dflt (refine' item_ints ?k1 ?k2 ?k3 ?k4 ?k5 ?_; (case k1 => is_list); (case k2 => assumption); (case k3 => walk_at "MY idx"); (case k4 => walk_at "MY idx"); (case k5 => walk_at "MY idx"); k_whole); intro t9))
local macro_rules | `(tactic| k_inst) => `(tactic| exact inst_keeps (by assumption) (Fr.keep (by k_asm)))
local macro_rules | `(tactic| walk_at "subscriptTail Attribute") => `(tactic| (k_here; (with_reducible show wpAny _ _ (subscriptTail _ _ (Value.ref _) (Value.int _ _)) _ _ _); k_dflt (refine' item_ints ?k1 ?k2 ?k3 ?k4 ?k5 ?_; (case k1 => is_list); (case k2 => assumption); (case k3 => walk_at "MY idx"); (case k4 => walk_at "MY idx"); (case k5 => walk_at "MY idx"); k_whole); intro t9))
theorem pitem_k {x : Addr} {ns : List Int} {k : Int} {t : Tok} (X : (hd.heap_39 w.params).In s.heap)
    (T : Top hd.view_39 (looseW hd.view_39 [Str.ofString "EXP_TABLE", Str.ofString "LOG_TABLE", Str.ofString "rsPoly_LUT"]) mean mg mb s.heap) (hdp : dp + 2 < recursionLimit) (hu : un + 20 < cLine)
    (hP : IsPoly s.heap x ns) (hln : ns.length < 2 ^ 20) (h0 : 0 ≤ k) (h1 : k < (ns.length : Int))
    (ret : ∀ r t' h' tk', r = ns.getD k.toNat 0 → s.heap.StaysIn h' → Q (.int r t') { s with heap := h', toks := tk' }) :
    wpAny (model PySem.Challenge.rw_bm0035_01.prog w) (Ar dp un gd env outer) (call (.ref 51) [.ref x, .int k t]) Q E s := by
  obtain ⟨dx, l, hs, ptk, pn, vs, hx, hd, hl, hi⟩ := hP.ex
  have hI : PySem.W.InstAt s.heap x (instObj 80 dx) 80 (some (dictOf [⟨hs, .str (Str.ofString "num") ptk, .ref l⟩] pn)) := ⟨hx, rfl, rfl, hd⟩
  revert X; k_fill; intro X
  have X' := X
  have T' := T
  k_dflt (refine' enter0b (binds := [(Str.ofString "self", .ref x), (Str.ofString "index", .int k t)]) X' T' ?ho ?hcd ?hroom ?hbind ?hloc ?_ ?c1 ?c2 ?c3 ?c4)
  case ho => k_is
  case hcd => k_is
  case hroom => walk_at "MY room"
  case hbind => exact BindsTo.of_eq rfl
  case hloc => exact locs rfl
  case c1 => exact rfl
  case c2 => exact rfl
  case c3 => exact rfl
  case c4 => decide
  intro h₁ F' N'
  try dsimp only
  show wpAny _ _ _ _ _ _
  k_fold
  k_steps
  exact ret _ _ _ _ rfl F'.keep
theorem pslice_k {x sl : Addr} {ns : List Int} {k : Int} {t : Tok} (X : (hd.heap_39 w.params).In s.heap)
    (T : Top hd.view_39 (looseW hd.view_39 [Str.ofString "EXP_TABLE", Str.ofString "LOG_TABLE", Str.ofString "rsPoly_LUT"]) mean mg mb s.heap) (hdp : dp + 2 < recursionLimit) (hu : un + 20 < cLine)
    (hP : IsPoly s.heap x ns) (hln : ns.length < 2 ^ 20) (hsl : s.heap.IsSliceOf sl (.int k t) .none .none) (h0 : k < 0)
    (ret : ∀ D ws h' tk', IntsAre ws (ns.drop (ns.length - (-k).toNat)) → s.heap.get? D = none → h'.get? D = some (W.listOf ws.toArray 0) → s.heap.StaysIn h' → Q (.ref D) { s with heap := h', toks := tk' }) :
    wpAny (model PySem.Challenge.rw_bm0035_01.prog w) (Ar dp un gd env outer) (call (.ref 51) [.ref x, .ref sl]) Q E s := by
  obtain ⟨dx, l, hs, ptk, pn, vs, hx, hd, hl, hi⟩ := hP.ex
  have hI : PySem.W.InstAt s.heap x (instObj 80 dx) 80 (some (dictOf [⟨hs, .str (Str.ofString "num") ptk, .ref l⟩] pn)) := ⟨hx, rfl, rfl, hd⟩
  revert X; k_fill; intro X
  have X' := X
  have T' := T
  k_dflt (refine' enter0b (binds := [(Str.ofString "self", .ref x), (Str.ofString "index", .ref sl)]) X' T' ?ho ?hcd ?hroom ?hbind ?hloc ?_ ?c1 ?c2 ?c3 ?c4)
  case ho => k_is
  case hcd => k_is
  case hroom => walk_at "MY room"
  case hbind => exact BindsTo.of_eq rfl
  case hloc => exact locs rfl
  case c1 => exact rfl
  case c2 => exact rfl
  case c3 => exact rfl
  case c4 => decide
  intro h₁ F' N'
  try dsimp only
  show wpAny _ _ _ _ _ _
  k_fold
  replace hsl : h₁.IsSliceOf sl (.int k t) .none .none := let ⟨o, e, r⟩ := hsl; ⟨o, F'.keep _ _ e, r⟩
  k_steps
  trace_state
  rename Fr _ _ _ _ => F3
  rename News _ _ _ _ => N3
  have hll := stays_list F3.keep hl
  refine slice_any F3 N3 hll hsl (.int _ _) .none (fun D9 h9 e9 F4 N4 => ?_) (by with_unfolding_all rfl) (by kmk_pure) (by rw [List.size_toArray, hi.length, PySem.sizeLine_eq]; omega)
  k_steps
  have g := N4 _ (List.mem_cons_self ..)
  refine ret _ (slicePick vs.toArray (some k) none none).toList _ _ (kmk_from_neg hi h0) g.2.2 ?_ F4.keep
  rw [Array.toArray_toList]; exact g.1

theorem cut_K {prog : Program} {A : Around} {K : Frag} {x C f : Addr} {ox : Obj} {od : Option Obj} {value slice : PySem.Expr} {i : Value} {ops : List Value} {Q : Value → Shared → Prop} (F : Fr h₀ L s.heap m) (X₀ : K.In h₀) (I : PySem.W.InstAt s.heap x ox C od) (hq : noSeq K C = true) (hs : findIn K (.ref C) "__getitem__" = some (some (.ref f))) (hf : fnIn K f = true) (hfn : isFn K (.ref f) = true)
    (h : wpAny (model prog w) A (call (.ref f) [.ref x, i]) Q E s)
    (hsl : subscripted slice true (.ref x) i = operate ops (getItem (.ref x) i)) :
    wpAny (model prog w) A (subscriptTail value slice (.ref x) i) Q E s := by
  have X := X₀.keeps F.keep
  unfold fnIn at hf
  split at hf
  · rename_i e
    unfold subscriptTail getitemInPython
    refine wpAny_bind (wpAny_bind (wpAny_bind (I.type.here ((looks_findIn X hs).here ?_))))
    dsimp only
    refine wpAny_bind (wpAny_load (X _ _ e) (wpAny_pure ?_))
    dsimp only
    rw [hsl]
    refine wpAny_bind (wpAny_operating (getItem_K F X₀ I hq hs hfn (wpAny_mono h (fun v s' z => ?_) fun _ _ z => z)))
    show wpAny (model prog w) A (letTemporaryGo value (.ref x) v >>= fun _ => pure v) Q E s'
    exact wpAny_bind (wpAny_letTemporaryGo (wpAny_pure z))
  · cases hf

theorem sub_poly {x : Addr} {ns : List Int} {k : Int} {t : Tok} {value slice : PySem.Expr} (F : Fr h₀ L s.heap m) (X : (hd.heap_39 w.params).In h₀)
    (T : Top hd.view_39 (looseW hd.view_39 [Str.ofString "EXP_TABLE", Str.ofString "LOG_TABLE", Str.ofString "rsPoly_LUT"]) mean mg mb h₀) (hdp : dp + 3 < recursionLimit) (hu : un + 30 < cLine)
    (hP : IsPoly s.heap x ns) (hln : ns.length < 2 ^ 20) (h0 : 0 ≤ k) (h1 : k < (ns.length : Int))
    (hsl' : subscripted slice true (.ref x) (.int k t) = runValue (.builtin "lifetime.subscript" ⟨[.ref x, .int k t], []⟩))
    (ret : ∀ r t' h' tk', r = ns.getD k.toNat 0 → s.heap.StaysIn h' → Q (.int r t') { s with heap := h', toks := tk' }) :
    wpAny (model PySem.Challenge.rw_bm0035_01.prog w) (Ar dp un gd env outer) (subscriptTail value slice (.ref x) (.int k t)) Q E s := by
  have X' := X.keeps F.keep
  have T' := T.keeps F.keep
  have go := @pitem_k w
  obtain ⟨dx, l, hs, ptk, pn, vs, hx, hd, hl, hi⟩ := id hP.ex
  have hI : PySem.W.InstAt s.heap x (instObj 80 dx) 80 (some (dictOf [⟨hs, .str (Str.ofString "num") ptk, .ref l⟩] pn)) := ⟨hx, rfl, rfl, hd⟩
  revert X; k_fill; intro X
  k_dflt (refine' sub_K (f := 51) F X hI ?hs ?hf ?hg ?_ hsl')
  case hs => k_is
  case hf => k_is
  case hg => k_is
  exact go (dp := dp) (un := un + 1) X' T' (by omega) (by omega) hP hln h0 h1 ret

theorem cut_poly {x : Addr} {ns : List Int} {sl : Addr} {k : Int} {t : Tok} {ops : List Value} {value slice : PySem.Expr} (F : Fr h₀ L s.heap m) (X : (hd.heap_39 w.params).In h₀)
    (T : Top hd.view_39 (looseW hd.view_39 [Str.ofString "EXP_TABLE", Str.ofString "LOG_TABLE", Str.ofString "rsPoly_LUT"]) mean mg mb h₀) (hdp : dp + 3 < recursionLimit) (hu : un + 30 < cLine)
    (hP : IsPoly s.heap x ns) (hln : ns.length < 2 ^ 20) (hsl : s.heap.IsSliceOf sl (.int k t) .none .none) (h0 : k < 0)
    (hsl' : subscripted slice true (.ref x) (.ref sl) = operate ops (getItem (.ref x) (.ref sl)))
    (ret : ∀ D ws h' tk', IntsAre ws (ns.drop (ns.length - (-k).toNat)) → s.heap.get? D = none → h'.get? D = some (W.listOf ws.toArray 0) → s.heap.StaysIn h' → Q (.ref D) { s with heap := h', toks := tk' }) :
    wpAny (model PySem.Challenge.rw_bm0035_01.prog w) (Ar dp un gd env outer) (subscriptTail value slice (.ref x) (.ref sl)) Q E s := by
  have X' := X.keeps F.keep
  have T' := T.keeps F.keep
  have go := @pslice_k w
  obtain ⟨dx, l, hs, ptk, pn, vs, hx, hd, hl, hi⟩ := id hP.ex
  have hI : PySem.W.InstAt s.heap x (instObj 80 dx) 80 (some (dictOf [⟨hs, .str (Str.ofString "num") ptk, .ref l⟩] pn)) := ⟨hx, rfl, rfl, hd⟩
  revert X; k_fill; intro X
  k_dflt (refine' cut_K (f := 51) F X hI ?hq ?hs ?hf ?hg ?_ hsl'); case hq => k_is
  case hs => k_is
  case hf => k_is
  case hg => k_is
  exact go (dp := dp) (un := un + 0) X' T' (by omega) (by omega) hP hln hsl h0 ret

theorem cut_poly2 {x : Addr} {ns : List Int} {k : Int} {t : Tok} {ops : List Value} {value slice : PySem.Expr} (F : Fr h₀ L s.heap m) (X : (hd.heap_39 w.params).In h₀)
    (T : Top hd.view_39 (looseW hd.view_39 [Str.ofString "EXP_TABLE", Str.ofString "LOG_TABLE", Str.ofString "rsPoly_LUT"]) mean mg mb h₀) (hdp : dp + 3 < recursionLimit) (hu : un + 30 < cLine)
    (hP : IsPoly s.heap x ns) (hln : ns.length < 2 ^ 20) (h0 : k < 0)
    (hsl' : subscripted slice true (.ref x) (.ref s.heap.objs.size) = operate ops (getItem (.ref x) (.ref s.heap.objs.size)))
    (ret : ∀ D ws h' tk', IntsAre ws (ns.drop (ns.length - (-k).toNat)) → s.heap.get? D = none → h'.get? D = some (W.listOf ws.toArray 0) → s.heap.StaysIn h' → Q (.ref D) { s with heap := h', toks := tk' }) :
    wpAny (model PySem.Challenge.rw_bm0035_01.prog w) (Ar dp un gd env outer) (subscriptTail value slice (.ref x) (.ref s.heap.objs.size)) Q E { s with heap := s.heap.push { cls := .type "slice", data := .fields #[.int k t, .none, .none] } } := by
  have kp : s.heap.StaysIn (s.heap.push { cls := .type "slice", data := .fields #[.int k t, .none, .none] }) := fun b o e => Heap.get?_push_of_some _ e
  refine cut_poly (s := { s with heap := s.heap.push { cls := .type "slice", data := .fields #[.int k t, .none, .none] } }) (F.push _) X T hdp hu (hP.keeps kp) hln (Heap.IsSliceOf.new ..) h0 hsl' fun D ws h' tk' a b c d => ret D ws h' tk' a (none_of kp b) c fun x o e => d x o (kp x o e)

theorem mod_op {z y : Addr} {ns ms : List Int} (F : Fr h₀ L s.heap m) (X : (hd.heap_39 w.params).In h₀) (hP : IsPoly s.heap z ns) (hP2 : IsPoly s.heap y ms)
    (go : wpAny (model PySem.Challenge.rw_bm0035_01.prog w) (Ar dp un gd env outer) (call (.ref 77) [.ref z, .ref y]) (PySem.W.CmpBack Q) E s) :
    wpAny (model PySem.Challenge.rw_bm0035_01.prog w) (Ar dp un gd env outer) (binaryOp .Mod (.ref z) (.ref y)) Q E s := by
  obtain ⟨dx, l, hs, ptk, pn, vs, hx, hd, hl, hi⟩ := id hP.ex
  have hI : PySem.W.InstAt s.heap z (instObj 80 dx) 80 (some (dictOf [⟨hs, .str (Str.ofString "num") ptk, .ref l⟩] pn)) := ⟨hx, rfl, rfl, hd⟩
  obtain ⟨dx2, l2, hs2, ptk2, pn2, vs2, hx2, hd2, hl2, hi2⟩ := id hP2.ex
  have hI2 : PySem.W.InstAt s.heap y (instObj 80 dx2) 80 (some (dictOf [⟨hs2, .str (Str.ofString "num") ptk2, .ref l2⟩] pn2)) := ⟨hx2, rfl, rfl, hd2⟩
  revert X; k_fill; intro X
  k_dflt (refine' binop_K (f := 77) F X hI ?hb ?hc ?hs ?hf go)
  case hb => exact hI2.type
  case hc => k_is
  case hs => k_is
  case hf => k_is

theorem mul_op {z y : Addr} {ns ms : List Int} (F : Fr h₀ L s.heap m) (X : (hd.heap_39 w.params).In h₀) (hP : IsPoly s.heap z ns) (hP2 : IsPoly s.heap y ms)
    (go : wpAny (model PySem.Challenge.rw_bm0035_01.prog w) (Ar dp un gd env outer) (call (.ref 72) [.ref z, .ref y]) (PySem.W.CmpBack Q) E s) :
    wpAny (model PySem.Challenge.rw_bm0035_01.prog w) (Ar dp un gd env outer) (binaryOp .Mult (.ref z) (.ref y)) Q E s := by
  obtain ⟨dx, l, hs, ptk, pn, vs, hx, hd, hl, hi⟩ := id hP.ex
  have hI : PySem.W.InstAt s.heap z (instObj 80 dx) 80 (some (dictOf [⟨hs, .str (Str.ofString "num") ptk, .ref l⟩] pn)) := ⟨hx, rfl, rfl, hd⟩
  obtain ⟨dx2, l2, hs2, ptk2, pn2, vs2, hx2, hd2, hl2, hi2⟩ := id hP2.ex
  have hI2 : PySem.W.InstAt s.heap y (instObj 80 dx2) 80 (some (dictOf [⟨hs2, .str (Str.ofString "num") ptk2, .ref l2⟩] pn2)) := ⟨hx2, rfl, rfl, hd2⟩
  revert X; k_fill; intro X
  k_dflt (refine' binop_K (f := 72) F X hI ?hb ?hc ?hs ?hf go)
  case hb => exact hI2.type
  case hc => k_is
  case hs => k_is
  case hf => k_is

end
end Mine
end
section
open PySem
set_option maxRecDepth 100000
set_option linter.unusedVariables false
namespace Mine
/-- one turn of the remainder: the divisor, drawn to the head of the row, taken from it -/
def stepF (ns ms : List Int) : List Int := (List.range ms.length).map (fun i => Builtin.bitXor (ns.getD i 0) (expF (logF (ms.getD i 0) + (logF (ns.getD 0 0) - logF (ms.getD 0 0))))) ++ ns.drop ms.length
def modF : Nat → List Int → List Int → List Int
  | 0, ns, _ => ns
  | k + 1, ns, ms => if ns.length < ms.length then ns else modF k (polyF (stepF ns ms) 0) ms

theorem getD_mem {l : List Int} {i : Nat} (h : i < l.length) : l.getD i 0 ∈ l := by
  rw [List.getD_eq_getElem?_getD, List.getElem?_eq_getElem h]; exact List.getElem_mem h
theorem bytes_at {l : List Int} (h : Bytes l) (i : Nat) : By (l.getD i 0) := by
  by_cases hi : i < l.length
  · exact h _ (getD_mem hi)
  · rw [List.getD_eq_getElem?_getD, List.getElem?_eq_none (by omega)]; exact by0
theorem stripF_len : ∀ (l : List Int), (stripF l).length ≤ l.length
  | [] => Nat.le_refl _
  | [x] => Nat.le_refl _
  | x :: y :: r => by
    unfold stripF
    split
    · exact Nat.le_trans (stripF_len (y :: r)) (Nat.le_succ _)
    · exact Nat.le_refl _
theorem stripF_sub : ∀ (l : List Int) (x : Int), x ∈ stripF l → x ∈ l
  | [], _, h => h
  | [x], _, h => h
  | x :: y :: r, z, h => by
    unfold stripF at h
    split at h
    · exact List.mem_cons_of_mem _ (stripF_sub (y :: r) z h)
    · exact h
theorem stripF_pos : ∀ (l : List Int), l ≠ [] → 1 ≤ (stripF l).length
  | [], h => absurd rfl h
  | [x], _ => Nat.le_refl _
  | x :: y :: r, _ => by
    unfold stripF
    split
    · exact stripF_pos (y :: r) (by simp)
    · simp
theorem stripF_head : ∀ (l : List Int), (stripF l).length ≤ 1 ∨ (stripF l).getD 0 0 ≠ 0
  | [] => .inl (Nat.zero_le _)
  | [x] => .inl (Nat.le_refl _)
  | x :: y :: r => by
    unfold stripF
    split
    · exact stripF_head (y :: r)
    · right; simpa
theorem polyF_zero (l : List Int) : polyF l 0 = stripF l := by unfold polyF; simp
theorem stepF_len {ns ms : List Int} (h : ms.length ≤ ns.length) : (stepF ns ms).length = ns.length := by
  unfold stepF; simp only [List.length_append, List.length_map, List.length_range, List.length_drop]; omega
theorem stepF_at {ns ms : List Int} {i : Nat} (h : i < ms.length) : (stepF ns ms).getD i 0 = Builtin.bitXor (ns.getD i 0) (expF (logF (ms.getD i 0) + (logF (ns.getD 0 0) - logF (ms.getD 0 0)))) := by
  unfold stepF
  rw [List.getD_eq_getElem?_getD, List.getElem?_append_left (by simpa using h)]
  simp [List.getElem?_map, List.getElem?_range h]
theorem stepF_zero {ns ms : List Int} (h : 0 < ms.length) (h1 : 1 ≤ ns.getD 0 0) (h2 : ns.getD 0 0 ≤ 255) : (stepF ns ms).getD 0 0 = 0 := by
  rw [stepF_at h]
  have e : logF (ms.getD 0 0) + (logF (ns.getD 0 0) - logF (ms.getD 0 0)) = logF (ns.getD 0 0) := by omega
  rw [e, exp_logF h1 h2]
  exact xr_self _
theorem stepF_bytes {ns ms : List Int} (h : Bytes ns) : Bytes (stepF ns ms) := by
  intro x hx
  unfold stepF at hx
  rcases List.mem_append.mp hx with hx | hx
  · obtain ⟨i, _, rfl⟩ := List.mem_map.mp hx
    exact xr_by (bytes_at h i) (expF_by _)
  · exact h x (List.mem_of_mem_drop hx)
/-- what a row must be for a turn of the remainder -/
structure Row (ns ms : List Int) : Prop where
  bytes : Bytes ns
  head : ns.length < ms.length ∨ ns.getD 0 0 ≠ 0
theorem step_row {ns ms : List Int} (R : Row ns ms) (h : ms.length ≤ ns.length) (h2 : 2 ≤ ms.length) : Row (polyF (stepF ns ms) 0) ms := by
  rw [polyF_zero]
  refine ⟨fun x hx => stepF_bytes R.bytes x (stripF_sub _ x hx), ?_⟩
  rcases stripF_head (stepF ns ms) with e | e
  · left; omega
  · exact .inr e
theorem head_rng {ns ms : List Int} (R : Row ns ms) (h : ms.length ≤ ns.length) (h2 : 2 ≤ ms.length) : 1 ≤ ns.getD 0 0 ∧ ns.getD 0 0 ≤ 255 := by
  have h3 := bytes_at R.bytes 0
  unfold By at h3
  rcases R.head with e | e
  · omega
  · omega
theorem step_less {ns ms : List Int} (R : Row ns ms) (h : ms.length ≤ ns.length) (h2 : 2 ≤ ms.length) : (polyF (stepF ns ms) 0).length + 1 ≤ ns.length ∧ 1 ≤ (polyF (stepF ns ms) 0).length := by
  rw [polyF_zero]
  obtain ⟨a, b⟩ := head_rng R h h2
  have hz := stepF_zero (ms := ms) (by omega) a b
  have hl := stepF_len h
  match e : stepF ns ms with
  | [] => rw [e] at hl; simp at hl; omega
  | [x] => rw [e] at hl; simp at hl; omega
  | x :: y :: r =>
    rw [e] at hz hl
    have hx : x = 0 := by simpa using hz
    have h5 := stripF_len (y :: r)
    have h6 := stripF_pos (y :: r) (by simp)
    unfold stripF
    rw [if_pos hx]
    simp only [List.length_cons] at hl h5
    exact ⟨by omega, h6⟩
theorem ints_places {f : Nat → Int} : ∀ (ys : List Value) (n : Nat), ys.length = n → (∀ j y, ys[j]? = some y → ∃ t, y = Value.int (f j) t) → PyProof.Rows.IntsAre ys ((List.range n).map f)
  | [], _, rfl, _ => .nil
  | y :: r, _, rfl, h => by
    obtain ⟨t, rfl⟩ := h 0 y rfl
    rw [List.length_cons, List.range_succ_eq_map, List.map_cons, List.map_map]
    refine PyProof.Rows.IntsAre.cons _ _ (ints_places (f := f ∘ Nat.succ) r _ rfl fun j z hj => h (j + 1) z (by simpa using hj))
end Mine
end
section
open PySem PySem.W PyProof.Rows
local macro_rules | `(tactic| walk_at "MY none 0") => `(tactic| fail)
local macro_rules | `(tactic| walk_at "MY none 1") => `(tactic| fail)
local macro_rules | `(tactic| walk_at "MY none 2") => `(tactic| fail)
theorem Mine.resetC15 : (1 : Nat) ≤ 2 := by
  w_top off
  first | walk1 | decide
end
section
open PySem PySem.W PySem.Calls PySem.Spec PyProof.Rows
set_option maxRecDepth 100000
set_option maxHeartbeats 2000000
set_option pp.maxSteps 4000
set_option linter.unusedVariables false
namespace Mine
section
variable {w : World} {A₀ : Around} {base h₀ : Heap} {outer : List Env} {L : Addr} {m mg mb : Str → Option Value} {env : Env} {mean : ExcName → Option Value} {dp un : Nat} {gd : Option (List Code)} {s : Shared} {E Q : Value → Shared → Prop} {news : List (Addr × Obj)}
theorem stays_trans {a b c : Heap} (h : a.StaysIn b) (k : b.StaysIn c) : a.StaysIn c := fun x o e => k x o (h x o e)
theorem news_more {m : Str → Option Value} {h h' : Heap} {D : Addr} {o : Obj} (F : Fr h₀ L h m) (N : News h₀ L h news) (k : h.StaysIn h') (hf : h.get? D = none) (hg : h'.get? D = some o) : News h₀ L h' ((D, o) :: news) := by
  intro p hp
  rcases List.mem_cons.mp hp with rfl | hp
  · refine ⟨hg, ?_, ?_⟩
    · rintro rfl
      obtain ⟨_, _, _, e, _⟩ := F.ns
      rw [hf] at e; cases e
    · cases e : h₀.get? D with
      | none => rfl
      | some o' => rw [F.keep _ _ e] at hf; cases hf
  · exact ⟨k _ _ (N p hp).1, (N p hp).2⟩

local macro_rules | `(tactic| walk_at "MY pos") => `(tactic| omega)
local macro_rules | `(tactic| walk_at "MY room") => `(tactic| ((try simp only [depth_under_make, depth_under_kw, depth_in1, depth_deeper]); (try dsimp only [Ar, Around.in1, Around.deeper]); omega))
local macro_rules | `(tactic| walk_at "MY units") => `(tactic| ((try simp only [units_in1, units_deeper, units_under_make, Around.mark_units]); (try dsimp only [Ar, Around.in1, Around.deeper]); omega))
local macro_rules | `(tactic| walk_at "MY idx") => `(tactic| first | omega | (simp only [POWT_len, LOGT_len, EXPT_len]; omega))
local macro_rules | `(tactic| walk_at "subscriptTail Subscript") => `(tactic| (k_here; (with_reducible show wpAny _ _ (subscriptTail _ _ (Value.ref _) (Value.int _ _)) _ _ _); k_dflt (refine' item_ints ?k1 ?k2 ?k3 ?k4 ?k5 ?_; (case k1 => is_list); (case k2 => assumption); (case k3 => walk_at "MY idx"); (case k4 => walk_at "MY idx"); (case k5 => walk_at "MY idx"); k_whole); intro t9))
local macro_rules | `(tactic| walk_at "subscriptTail Name") => `(tactic| (k_here; (with_reducible show wpAny _ _ (subscriptTail _ _ (Value.ref _) (Value.int _ _)) _ _ _); k_dflt (refine' item_ints ?k1 ?k2 ?k3 ?k4 ?k5 ?_; (case k1 => is_list); (case k2 => assumption); (case k3 => walk_at "MY idx"); (case k4 => walk_at "MY idx"); (case k5 => walk_at "MY idx"); k_whole); intro t9))

local macro_rules | `(tactic| walk_at "subscriptTail Name Slice ref ref") => `(tactic| (k_here; (with_reducible show wpAny _ _ (subscriptTail _ (PySem.Expr.Slice _ _ none _) (Value.ref _) (Value.ref _)) _ _ _); k_dflt (refine' kmk_slice_ints ?F ?N ?l ?p ?q ?i ?m ?c ?_ ?s ?t ?z; (case F => k_asm); (case N => k_asm); (case l => kmk_list); (case p => kmk_part); (case q => kmk_part); (case i => assumption); (case m => first | exact kmk_from (by assumption) (by omega) | exact kmk_run (by assumption) (by omega) (by omega) | exact kmk_from_neg (by assumption) (by omega)); (case c => kmk_len); (case s => with_unfolding_all rfl); (case t => kmk_pure); (case z => (refine kmk_sz (by assumption) ?_; (simp only [PySem.sizeLine_eq]; omega)))); intro D' ws' h' F' N' l1 hI' hC' hL'; (try k_lt l1); (try k_sweep)))
local macro_rules | `(tactic| k_inst) => `(tactic| exact inst_keeps (by assumption) (Fr.keep (by k_asm)))
local macro_rules | `(tactic| walk_at "call ref") => `(tactic| (k_here; (with_reducible show wpAny _ _ (call (Value.ref 30) [Value.int _ _]) _ _ _); k_dflt (refine' gexp_k ?X ?T ?hdp ?hu ?_; (case X => first | assumption | exact Frag.In.keeps (by assumption) (Fr.keep (by k_asm))); (case T => first | assumption | exact Top.keeps (by assumption) (Fr.keep (by k_asm))); (case hdp => walk_at "MY room"); (case hu => walk_at "MY units"); (try (rename Heap.StaysIn _ _ => K8)); k_whole); intro t9 h9 tk9 K9; (rename Fr _ _ _ _ => lF'); (rename News _ _ _ _ => lN'); (have F9 := Fr.keeps lF' K9); (have N9 := News.grown lN' K9); (try (have K9 := stays_trans K8 K9)); (try k_sweep)))
local macro_rules | `(tactic| walk_at "call ref") => `(tactic| (k_here; (with_reducible show wpAny _ _ (call (Value.ref 23) [Value.int _ _]) _ _ _); k_dflt (refine' glog_k ?X ?T ?hdp ?hu ?p1 ?p2 ?_; (case X => first | assumption | exact Frag.In.keeps (by assumption) (Fr.keep (by k_asm))); (case T => first | assumption | exact Top.keeps (by assumption) (Fr.keep (by k_asm))); (case hdp => walk_at "MY room"); (case hu => walk_at "MY units"); (case p1 => omega); (case p2 => omega); (try (rename Heap.StaysIn _ _ => K8)); k_whole); intro t9 h9 tk9 K9; (rename Fr _ _ _ _ => lF'); (rename News _ _ _ _ => lN'); (have F9 := Fr.keeps lF' K9); (have N9 := News.grown lN' K9); (try (have K9 := stays_trans K8 K9)); (try k_sweep)))
local macro_rules | `(tactic| walk_at "call builtin:len") => `(tactic| (k_here; (with_reducible show wpAny _ _ (call (Value.builtin "len") [Value.ref _]) _ _ _); k_dflt (refine' len_poly ?B ?F ?N ?X ?T ?hf ?hke ?hdp ?hu ?p1 ?p2 ?_; (case p1 => first | assumption | exact PolyNew.is (by assumption) | exact IsPoly.keeps (by assumption) (Fr.keep (by k_asm))); (case p2 => omega); (case B => k_asm); (case F => k_asm); (case N => k_asm); (case X => k_asm); (case T => k_asm); (case hf => exact rfl); (case hke => exact rfl); (case hdp => walk_at "MY room"); (case hu => walk_at "MY units"); k_whole); intro t9 h9 tk9 F9 N9; (try k_sweep)))
local macro_rules | `(tactic| walk_at "call ref") => `(tactic| (k_here; (with_reducible show wpAny _ _ (call (Value.ref 80) [Value.ref _, Value.int _ _]) _ _ _); k_dflt (refine' poly_ct ?B ?F ?N ?X ?T ?hf ?hke ?hdp ?hu ?p1 ?p2 ?p3 ?p4 ?p5 ?p6 ?_; (case B => k_asm); (case F => k_asm); (case N => k_asm); (case X => k_asm); (case T => k_asm); (case hf => exact rfl); (case hke => exact rfl); (case hdp => walk_at "MY room"); (case hu => walk_at "MY units"); (case p1 => is_list); (case p2 => assumption); (case p3 => walk_at "MY pos"); (case p4 => walk_at "MY pos"); (case p5 => omega); (case p6 => omega); k_whole); intro x9 h9 tk9 hP9 hS9 F9 N9; (try k_sweep)))
local macro_rules | `(tactic| walk_at "subscriptTail Name") => `(tactic| (k_here; (with_reducible show wpAny _ _ (subscriptTail _ _ (Value.ref _) (Value.int _ _)) _ _ _); k_dflt (refine' sub_poly ?F ?X ?T ?hdp ?hu ?p1 ?p2 ?p3 ?p4 ?p5 ?_; (case p1 => first | assumption | exact PolyNew.is (by assumption) | exact IsPoly.keeps (by assumption) (Fr.keep (by k_asm)) | exact IsPoly.keeps (by assumption) (by assumption)); (case F => k_asm); (case X => k_asm); (case T => k_asm); (case hdp => walk_at "MY room"); (case hu => walk_at "MY units"); (case p2 => omega); (case p3 => omega); (case p4 => omega); (case p5 => with_unfolding_all rfl); k_whole); intro r9 t9 h9 tk9 e9 K9; subst e9; (rename Fr _ _ _ _ => lF'); (rename News _ _ _ _ => lN'); (have F9 := Fr.keeps lF' K9); (have N9 := News.grown lN' K9); (try k_sweep)))
local macro_rules | `(tactic| walk_at "subscriptTail Name Slice ref ref") => `(tactic| (k_here; (with_reducible show wpAny _ _ (subscriptTail _ _ (Value.ref _) (Value.ref _)) _ _ _); k_dflt (refine' cut_poly2 ?F ?X ?T ?hdp ?hu ?p1 ?p2 ?p4 ?p5 ?_; (case p1 => first | assumption | exact PolyNew.is (by assumption) | exact IsPoly.keeps (by assumption) (Fr.keep (by k_asm)) | exact IsPoly.keeps (by assumption) (by assumption)); (case F => k_asm); (case X => k_asm); (case T => k_asm); (case hdp => walk_at "MY room"); (case hu => walk_at "MY units"); (case p2 => omega); (case p4 => omega); (case p5 => with_unfolding_all rfl); k_whole); intro D9 ws9 h9 tk9 hi9 hf9 hg9 K9; (rename Fr _ _ _ _ => lF'); (rename News _ _ _ _ => lN'); (have N9 := news_more lF' lN' K9 hf9 hg9); (have F9 := Fr.keeps lF' K9); (try k_sweep)))

local macro_rules | `(tactic| walk_at "exec Assign cons ListComp") => `(tactic| (k_here; refine STOP.intro ?_))
local macro_rules | `(tactic| walk_at "call ref") => `(tactic| (k_here; (with_reducible show wpAny _ _ (call (Value.ref 77) [Value.ref _, Value.ref _]) _ _ _); refine STOP.intro ?_))
local macro_rules | `(tactic| walk_at "binaryOp Mod ref ref") => `(tactic| (k_here; (with_reducible show wpAny _ _ (binaryOp Operator.Mod (Value.ref _) (Value.ref _)) _ _ _); refine STOP.intro ?_))
local macro_rules | `(tactic| walk_at "call builtin:list.extend") => `(tactic| (k_here; refine STOP.intro ?_))
local macro_rules | `(tactic| walk_at "call type:zip") => `(tactic| (k_here; refine STOP.intro ?_))
theorem mod_ct {k : Nat} {x y : Addr} {ns ms : List Int} (B : Below A₀ base outer h₀) (F : Fr h₀ L s.heap m) (N : News h₀ L s.heap news) (X : (hd.heap_39 w.params).In h₀)
    (T : Top hd.view_39 (looseW hd.view_39 [Str.ofString "EXP_TABLE", Str.ofString "LOG_TABLE", Str.ofString "rsPoly_LUT"]) mean mg mb h₀) (hf : env.frame = some L) (hke : env.scope.kind = .function) (hdp : dp + 6 * k + 40 < recursionLimit) (hu : un + 60 * k + 400 < cLine)
    (hP : IsPoly s.heap x ns) (hP2 : IsPoly s.heap y ms) (R : Row ns ms) (hO : Octs ms) (hk : ns.length ≤ k + 1) (hl : 1 ≤ ns.length) (hl2 : ms.length ≤ 100) (hl3 : 2 ≤ ms.length) (hk2 : k ≤ 50)
    (ret : ∀ z h' tk', IsPoly h' z (modF k ns ms) → s.heap.StaysIn h' → Fr h₀ L h' m → News h₀ L h' news → Q (.ref z) { s with heap := h', toks := tk' }) :
    wpAny (model PySem.Challenge.rw_bm0035_01.prog w) (Ar dp un gd env outer) (call (.ref 77) [.ref x, .ref y]) Q E s := by
  induction k generalizing A₀ base h₀ outer L m env dp un s E Q news x ns with
  | zero =>
    revert X; k_fill; intro X
    have X' := X.keeps F.keep
    have T' := T.keeps F.keep
    have B₁ := pushX B F hf hke
    have B' : Below (Ar dp un gd env outer) base (env :: outer) s.heap := ⟨rfl, B₁.stays, B₁.frames⟩
    clear B₁
    k_dflt (refine' enter0c (binds := [(Str.ofString "self", .ref x), (Str.ofString "other", .ref y)]) X' T' ?ho ?hcd ?hroom ?hbind ?hkind ?hnd ?_ ?c1 ?c2 ?c3)
    case ho => k_is
    case hcd => k_is
    case hroom => walk_at "MY room"
    case hbind => exact BindsTo.of_eq rfl
    case hkind => exact rfl
    case hnd => decide +kernel
    case c1 => exact rfl
    case c2 => exact rfl
    case c3 => exact rfl
    intro h₁ tk₁ cells F' N' Y'
    k_cells Y'
    try dsimp only
    show wpAny _ _ _ _ _ _
    k_fold
    have hns : ns.length ≤ 1 := by omega
    have q5 : ms.length ≤ ns.length → 1 ≤ ns.getD (Int.toNat 0) 0 ∧ ns.getD (Int.toNat 0) 0 ≤ 255 := fun h => head_rng R h hl3
    have q6 : 1 ≤ ms.getD (Int.toNat 0) 0 ∧ ms.getD (Int.toNat 0) 0 ≤ 255 := hO _ (getD_mem (by show 0 < _; omega))
    have q7 := logF_range q6.1 q6.2
    have q8 : ms.length ≤ ns.length → 0 ≤ logF (ns.getD (Int.toNat 0) 0) ∧ logF (ns.getD (Int.toNat 0) 0) < 255 := fun h => logF_range (q5 h).1 (q5 h).2
    k_steps
    · refine ret x _ _ ?_ (Fr.keep (by assumption)) (F.keeps (Fr.keep (by assumption))) (N.keeps (Fr.keep (by assumption)))
      exact hP.keeps (Fr.keep (by assumption))
  | succ k ih =>
    revert X; k_fill; intro X
    have X' := X.keeps F.keep
    have T' := T.keeps F.keep
    have B₁ := pushX B F hf hke
    have B' : Below (Ar dp un gd env outer) base (env :: outer) s.heap := ⟨rfl, B₁.stays, B₁.frames⟩
    clear B₁
    k_dflt (refine' enter0c (binds := [(Str.ofString "self", .ref x), (Str.ofString "other", .ref y)]) X' T' ?ho ?hcd ?hroom ?hbind ?hkind ?hnd ?_ ?c1 ?c2 ?c3)
    case ho => k_is
    case hcd => k_is
    case hroom => walk_at "MY room"
    case hbind => exact BindsTo.of_eq rfl
    case hkind => exact rfl
    case hnd => decide +kernel
    case c1 => exact rfl
    case c2 => exact rfl
    case c3 => exact rfl
    intro h₁ tk₁ cells F' N' Y'
    k_cells Y'
    try dsimp only
    show wpAny _ _ _ _ _ _
    k_fold
    have hns : ns.length ≤ 52 := by omega
    have q5 : ms.length ≤ ns.length → 1 ≤ ns.getD (Int.toNat 0) 0 ∧ ns.getD (Int.toNat 0) 0 ≤ 255 := fun h => head_rng R h hl3
    have q6 : 1 ≤ ms.getD (Int.toNat 0) 0 ∧ ms.getD (Int.toNat 0) 0 ≤ 255 := hO _ (getD_mem (by show 0 < _; omega))
    have q7 := logF_range q6.1 q6.2
    have q8 : ms.length ≤ ns.length → 0 ≤ logF (ns.getD (Int.toNat 0) 0) ∧ logF (ns.getD (Int.toNat 0) 0) < 255 := fun h => logF_range (q5 h).1 (q5 h).2
    k_steps
    · refine ret x _ _ ?_ (Fr.keep (by assumption)) (F.keeps (Fr.keep (by assumption))) (N.keeps (Fr.keep (by assumption)))
      unfold modF
      rw [if_pos (by omega)]
      exact hP.keeps (Fr.keep (by assumption))
    rename Fr _ _ _ _ => F2
    rename News _ _ _ _ => N2
    rename ¬ (_ < _) => hge
    refine Assign_pairs (cl := [(Str.ofString "ratio", s.heap.objs.size + 1)]) (G := fun i y => ∃ t, y = Value.int (Builtin.bitXor (ns.getD i 0) (expF (logF (ms.getD i 0) + (logF (ns.getD 0 0) - logF (ms.getD 0 0))))) t) ?hsw ?hh ?hclos ?hcell ?hkind ?hnames ?hx ?hx₂ ?hxx ?hy ?hp ?h ?hs
    case hsw => with_unfolding_all rfl
    case hh => exact rfl
    case hclos => with_unfolding_all rfl
    case hcell => decide
    case hkind => exact rfl
    case hnames => decide
    case hx => exact rfl
    case hx₂ => exact rfl
    case hxx => decide
    case hy => exact rfl
    case hp => exact rfl
    case hs => intro _; with_unfolding_all rfl
    k_steps
    refine STOP.intro ?_
    rename Obj.data _ = _ => hcell
    rename_i oc
    obtain ⟨ra, hra⟩ : ∃ ra, ra = logF (ns.getD (Int.toNat 0) 0) - logF (ms.getD (Int.toNat 0) 0) := ⟨_, rfl⟩
    rw [← hra] at hcell
    show wpAny _ _ (call (Value.type "zip") [.ref x, .ref y]) _ _ _
    refine zip_poly B' F2 N2 X' T' rfl rfl (by walk_at "MY room") (by walk_at "MY units") hP hP2 fun z TI TO i1 i2 l1 l2 vs us h3 tk3 a1 a2 a3 a4 a5 a6 a7 a8 a9 D1 fr1 k3 F3 N3 => ?_
    have hcg : s.heap.get? (s.heap.objs.size + 1) = none := (N2 _ (List.mem_cons_self ..)).2.2
    have hfr : ∀ b ∈ [z, TI, TO, i1, i2], b ≠ s.heap.objs.size ∧ b ≠ s.heap.objs.size + 1 ∧ s.heap.get? b = none := by
      intro b hb
      have e := fr1 b hb
      refine ⟨?_, ?_, none_of F2.keep e⟩
      · rintro rfl
        obtain ⟨_, _, _, e2, _⟩ := F2.ns
        rw [e] at e2; cases e2
      · rintro rfl
        have e2 := (N2 _ (List.mem_cons_self ..)).1
        rw [e] at e2; cases e2
    have hw : ∀ b, b ∈ [z, TO, i1, i2] → b ∈ [z, TI, TO, i1, i2] := by
      intro b hb
      simp only [List.mem_cons, List.not_mem_nil, or_false] at hb ⊢
      rcases hb with h | h | h | h <;> simp [h]
    clear F2 N2
    refine wpAny_pyIter_zip a3 ?_
    have hvs : vs.toArray.size = ns.length := by rw [List.size_toArray, a1.length]
    have hus : us.toArray.size = ms.length := by rw [List.size_toArray, a2.length]
    have hg3 : ∀ b ∈ [z, TO, i1, i2], s.heap.get? b = none := fun b hb => (hfr b (hw b hb)).2.2
    refine ⟨z, _, _, _, _, _, _, _, rfl, WalksT.zip2 rfl z TI TO i1 i2 l1 l2 D1 vs.toArray us.toArray, fun i vals hv => let ⟨p, q, _, _, e⟩ := hv; ⟨p, q, e⟩, ?_, ⟨a3, a4, ⟨_, _, a5⟩, a6, a7, a8, a9⟩, ?_, ?_, F3.ns, ?_, ?_⟩
    · rw [hvs, hus, PySem.sizeLine_eq]; omega
    · intro b hb
      simp only [List.mem_cons, List.not_mem_nil, or_false] at hb
      rcases hb with rfl | rfl | rfl | rfl | rfl | rfl | rfl
      · exact Heap.lt_size a3
      · exact Heap.lt_size a4
      · exact Heap.lt_size a5
      · obtain ⟨_, e, _⟩ := a6; exact Heap.lt_size e
      · obtain ⟨_, e, _⟩ := a7; exact Heap.lt_size e
      · obtain ⟨_, e, _⟩ := a8; exact Heap.lt_size e
      · obtain ⟨_, e, _⟩ := a9; exact Heap.lt_size e
    · exact fun hb => (hfr _ (hw _ hb)).1 rfl
    · rintro C i a b s₃ m₃ E' hC ⟨p, q, hp, hq, e⟩ hn3 hm1 hm2 hk3
      obtain ⟨hp', tp, e1, hp2⟩ : ∃ u t, p = Value.int u t ∧ ns[i]? = some u := a1.at i p (by simpa using hp)
      obtain ⟨hq', tq, e2, hq2⟩ : ∃ u t, q = Value.int u t ∧ ms[i]? = some u := a2.at i q (by simpa using hq)
      subst e1 e2
      have e3 : a = Value.int hp' tp := by injection e with e; injection e
      have e4 : b = Value.int hq' tq := by injection e with e; injection e with _ e; injection e
      subst e3 e4
      have hqq : 1 ≤ hq' ∧ hq' ≤ 255 := hO _ (List.mem_of_getElem? hq2)
      have hpq : 0 ≤ hp' ∧ hp' ≤ 255 := R.bytes _ (List.mem_of_getElem? hp2)
      obtain ⟨g, hg⟩ : ∃ g, g = hideAll h3 [z, TO, i1, i2, s.heap.objs.size + 1] := ⟨_, rfl⟩
      have g1 : ∀ b o, g.get? b = some o → h3.get? b = some o ∧ b ∉ [z, TO, i1, i2, s.heap.objs.size + 1] := fun b o e => ⟨of_hideAll _ (hg ▸ e), fun hb => by rw [hg, hideAll_none _ hb] at e; cases e⟩
      have FC : Fr g C s₃.heap m₃ := ⟨hn3, fun b o e => hk3 b o (fun h => (g1 b o e).2 (List.mem_append_left [s.heap.objs.size + 1] h)) (g1 b o e).1, by rw [hg, hideAll_size]; exact hC⟩
      have hcc := (N3 _ (List.mem_cons_self ..)).1
      have NC : News g C s₃.heap [(s.heap.objs.size + 1, oc)] := by
        intro p hp
        rw [List.mem_singleton] at hp
        subst hp
        exact ⟨hk3 _ _ (fun hb => (hfr _ (hw _ hb)).2.1 rfl) hcc, Nat.ne_of_lt (Nat.lt_of_lt_of_le (Heap.lt_size hcc) hC), by rw [hg]; exact hideAll_none _ (by simp)⟩
      have hsg : s.heap.StaysIn g := by
        intro b o e
        rw [hg]
        refine hideAll_get _ (F3.keep _ _ e) ?_
        intro hb
        rcases List.mem_append.mp (show b ∈ [z, TO, i1, i2] ++ [s.heap.objs.size + 1] from hb) with hb | hb
        · rw [hg3 b hb] at e; cases e
        · rw [List.mem_singleton.mp hb, hcg] at e; cases e
      have XC := X'.keeps hsg
      have TC := T'.keeps hsg
      obtain ⟨m₄, e3⟩ := map_know hm1
      subst e3
      obtain ⟨m₅, e5⟩ := map_know (x := Str.ofString "other_item") (m := m₄) hm2
      subst e5
      clear F3 N3 hn3
      have K0 : s₃.heap.StaysIn s₃.heap := fun _ _ e => e
      show wpAny _ _ _ _ _ _
      try k_fold
      k_steps
      all_goals first
        | (rename Heap.StaysIn _ _ => KK; exact ⟨_, _, rfl, KK⟩)
        | exact (0 : Nat) | exact Str.ofString "" | exact Value.none | exact ([] : List (Str × Addr))
        | (refine congrArg (fun a => Value.int a _) ?_; rw [hra, List.getD_eq_getElem?_getD (l := ns) (i := i), hp2, List.getD_eq_getElem?_getD (l := ms) (i := i), hq2]; rfl)
        | skip
    · intro D h4 tk4 ys f1 f2 f3 f4 f5 f6
      have hlen : ys.length = ms.length := by rw [f3, hvs, hus]; omega
      have hys := ints_places ys ms.length hlen f4
      obtain ⟨kD, f2⟩ := f2
      obtain ⟨zs, hzs⟩ : ∃ zs : List Int, zs = (List.range ms.length).map (fun i => Builtin.bitXor (ns.getD i 0) (expF (logF (ms.getD i 0) + (logF (ns.getD 0 0) - logF (ms.getD 0 0))))) := ⟨_, rfl⟩
      have hzl : zs.length = ms.length := by rw [hzs, List.length_map, List.length_range]
      rw [← hzs] at hys
      have hDL : D ≠ s.heap.objs.size := by
        rintro rfl
        obtain ⟨_, _, _, e, _⟩ := F3.ns
        have f1 : h3.get? s.heap.objs.size = none := f1
        rw [f1] at e; cases e
      have F4 : Fr s.heap s.heap.objs.size h4 _ := ⟨f5, fun b o e => f6 b o (Nat.ne_of_lt (Heap.lt_size e)) (fun hb => by rw [hg3 b hb] at e; cases e) (F3.keep b o e), Nat.le_refl _⟩
      have N4 : News s.heap s.heap.objs.size h4 [(D, W.listOf ys.toArray kD), (s.heap.objs.size + 1, oc)] := by
        intro p hp
        simp only [List.mem_cons, List.not_mem_nil, or_false] at hp
        rcases hp with rfl | rfl
        · refine ⟨f2, hDL, ?_⟩
          cases e : s.heap.get? D with
          | none => rfl
          | some o' =>
            have f1 : h3.get? D = none := f1
            rw [F3.keep _ _ e] at f1; cases f1
        · have e := N3 _ (List.mem_cons_self ..)
          exact ⟨f6 _ _ e.2.1 (fun hb => (hfr _ (hw _ hb)).2.1 rfl) e.1, e.2⟩
      have hDc : s.heap.objs.size + 1 ≠ D := by
        rintro rfl
        have f1 : h3.get? (s.heap.objs.size + 1) = none := f1
        rw [(N3 _ (List.mem_cons_self ..)).1] at f1; cases f1
      clear F3 N3 f5 f6
      show wpAny _ _ _ _ _ _
      try k_fold
      k_steps
      · refine STOP.intro ?_
        rename Fr _ _ _ _ => F5
        rename News _ _ _ _ => N5
        rename IntsAre _ (List.drop _ _) => hdr
        rename Heap.get? _ _ = some (W.listOf (List.toArray _) 0) => hg5
        rename Heap.get? _ _ = none => hf5
        rename_i D2 ws2 h5 tk5 K5
        have hwl : ws2.length = ns.length - ms.length := by rw [hdr.length, List.length_drop]; omega
        have hyl : ys.length = ms.length := hlen
        have hD2 : D2 ≠ D := by
          rintro rfl
          have hf5 : h4.get? D2 = none := hf5
          rw [f2] at hf5; cases hf5
        show wpAny _ _ (call (.builtin "list.extend") [.ref D, .ref D2]) _ _ _
        refine kl_extend (its := ys.toArray) (its2 := ws2.toArray) F5 N5 (List.mem_cons_self ..) rfl (by simp only [List.toList_toArray]; omega) (.tail hD2 (.head fun p hp => by rw [List.mem_singleton] at hp; subst hp; exact hDc)) ?_ (by rw [PySem.sizeLine_eq]; simp only [List.toList_toArray]; omega) (by rw [PySem.sizeLine_eq]; simp only [List.size_toArray]; omega) (fun h6 F6 N6 => ?_)
        · simp only [List.size_toArray, Builtin.List.listTooLong, PySem.sizeLine_eq]
          have : ¬ (ys.length + ws2.length > 9000000000) := by omega
          simp [this]
          omega
        have hz6 : IntsAre (ys ++ ws2) (stepF ns ms) := by
          unfold stepF
          rw [← hzs]
          refine hys.append ?_
          have e : ns.length - (- -((ns.length : Int) - (ms.length : Int))).toNat = ms.length := by omega
          rw [e] at hdr
          exact hdr
        obtain ⟨qs, hqs⟩ : ∃ qs, qs = stepF ns ms := ⟨_, rfl⟩
        have hql : qs.length = ns.length := by rw [hqs]; exact stepF_len (by omega)
        rw [← hqs] at hz6
        simp only [List.toList_toArray] at N6
        clear F5 N5 hdr hys
        show wpAny _ _ _ _ _ _
        try k_fold
        k_steps
        refine STOP.intro ?_
        rename PolyNew _ _ _ _ => hPz
        rename Fr _ _ _ _ => F7
        rename News _ _ _ _ => N7
        have SR := step_row R (by omega) hl3
        have SL := step_less R (by omega) hl3
        rw [← hqs] at SR SL
        have hgl : ¬ ns.length < ms.length := by omega
        show wpAny _ _ (binaryOp Operator.Mod (.ref _) (.ref y)) _ _ _
        k_dflt (refine' mod_op F7 X' hPz.is (hP2.keeps F7.keep) ?_)
        k_dflt (refine' ih (ns := polyF qs 0) B' F7 N7 X' T' rfl rfl ?hdp ?hu hPz.is (hP2.keeps F7.keep) SR ?k1 ?k2 (by omega) ?_)
        case hdp => walk_at "MY room"
        case hu => walk_at "MY units"
        case k1 => omega
        case k2 => omega
        intro z' h8 tk8 p1 p2 p3 p4
        refine ret z' _ _ ?_ p3.keep (F.keeps p3.keep) (N.keeps p3.keep)
        have e : modF (k + 1) ns ms = modF k (polyF (stepF ns ms) 0) ms := by rw [modF, if_neg hgl]
        rw [e, ← hqs]
        exact p1
      · obtain ⟨hz0, hz1⟩ : ns.length = ms.length ∧ zs = stepF ns ms := by
          have hz0 : ns.length = ms.length := by omega
          refine ⟨hz0, ?_⟩
          unfold stepF
          rw [← hzs, List.drop_of_length_le (by omega), List.append_nil]
        refine STOP.intro ?_
        rename PolyNew _ _ _ _ => hPz
        rename Fr _ _ _ _ => F7
        rename News _ _ _ _ => N7
        have SR := step_row R (by omega) hl3
        have SL := step_less R (by omega) hl3
        rw [← hz1] at SR SL
        have hgl : ¬ ns.length < ms.length := by omega
        show wpAny _ _ (binaryOp Operator.Mod (.ref _) (.ref y)) _ _ _
        k_dflt (refine' mod_op F7 X' hPz.is (hP2.keeps F7.keep) ?_)
        k_dflt (refine' ih (ns := polyF zs 0) B' F7 N7 X' T' rfl rfl ?hdp ?hu hPz.is (hP2.keeps F7.keep) SR ?k1 ?k2 (by omega) ?_)
        case hdp => walk_at "MY room"
        case hu => walk_at "MY units"
        case k1 => omega
        case k2 => omega
        intro z' h8 tk8 p1 p2 p3 p4
        refine ret z' _ _ ?_ p3.keep (F.keeps p3.keep) (N.keeps p3.keep)
        have e : modF (k + 1) ns ms = modF k (polyF (stepF ns ms) 0) ms := by rw [modF, if_neg hgl]
        rw [e, ← hz1]
        exact p1

end
end Mine
end
section
open PySem PySem.W PySem.Calls PySem.Spec PyProof.Rows PyProof.Rows.LCp PyProof.Rows.LCg
set_option maxRecDepth 100000
set_option maxHeartbeats 2000000
set_option linter.unusedVariables false
namespace Mine
section
variable {prog : Program} {w : World} {A : Around} {E : Value → Shared → Prop} {s : Shared} {env : Env}

theorem paired_map {f : Int → Int} : ∀ {vs ys : List Value} {ns : List Int}, IntsAre vs ns → Paired (fun v y => ∀ n t, v = Value.int n t → ∃ u, y = Value.int (f n) u) vs ys → IntsAre ys (ns.map f)
  | _, _, _, .nil, .nil => .nil
  | _, _, _, .cons n t h, .cons (l₂ := ys) hy r => by
    obtain ⟨u, rfl⟩ := hy n t rfl
    exact .cons _ _ (paired_map h r)
theorem mem_ints {vs : List Value} {ns : List Int} (h : IntsAre vs ns) {v : Value} (hv : v ∈ vs) : ∃ n t, v = Value.int n t ∧ n ∈ ns := by
  obtain ⟨i, hi⟩ := List.getElem?_of_mem hv
  obtain ⟨n, t, rfl, hn⟩ := h.at i v hi
  exact ⟨n, t, rfl, List.mem_of_getElem? hn⟩

/-- what a comprehension's word must do: an int for an int, the heap kept -/
def WordOk (prog : Program) (w : World) (A : Around) (env : Env) (scope : Scope) (cl : List (Str × Addr)) (x : Str) (elt : PySem.Expr) (I : Addr) (ns : List Int) (f : Int → Int) (s₂ : Shared) : Prop :=
  ∀ C n t s₃ m₃ E', s₂.heap.objs.size ≤ C → n ∈ ns → s₃.heap.Ns C m₃ → m₃ x = some (Value.int n t) → (∀ b o, b ∉ [I] → s₂.heap.get? b = some o → s₃.heap.get? b = some o) →
    wpAny (model prog w) A (eval elt (compEnvC scope cl C env)) (fun y s₄ => (∃ u, y = Value.int (f n) u) ∧ Keeps s₃ s₄) E' s₃

theorem word_quiet {scope : Scope} {cl : List (Str × Addr)} {x : Str} {elt : PySem.Expr} {I : Addr} {ns : List Int} {f : Int → Int} {s₂ : Shared} {vs : List Value} (hi : IntsAre vs ns) (W : WordOk prog w A env scope cl x elt I ns f s₂) :
    QuietOnC prog w A env scope cl x [] elt [I] (fun i v => vs.toArray[i]? = some v) (fun _ => true) (fun v y => ∀ n t, v = Value.int n t → ∃ u, y = Value.int (f n) u) s₂ := by
  refine ⟨fun C i v s₃ m₃ E' hC hP hn hm hk _ => wpAny_tests_nil ⟨rfl, ⟨_, _, rfl, fun _ _ e => e⟩⟩, fun C i v s₃ m₃ E' hC hP _ hn hm hk _ => ?_⟩
  have hv : v ∈ vs := List.mem_of_getElem? (i := i) (by simpa using hP)
  obtain ⟨n, t, rfl, hn'⟩ := mem_ints hi hv
  refine wpAny_mono (W C n t s₃ m₃ E' hC hn' hn hm hk) (fun y s₄ h => ⟨?_, h.2⟩) fun _ _ e => e
  rintro n' t' e
  cases e
  exact h.1

theorem ListComp_ints2 {elt iter : PySem.Expr} {x : Str} {px : Pos} {scope : Scope} {cl : List (Str × Addr)} {pos : Pos} {Q : Value → Shared → Prop} {f : Int → Int}
    (hh : A.handled = none) (hclos : closureFor scope env = pure cl) (hcell : ∀ y ∈ scope.names, y.2 ≠ .cell) (hkind : scope.kind = .function)
    (hnames : ∀ y ∈ scope.names, y.2 = .local → scope.names.lookup y.1 = some .local) (hx : scope.names.lookup x = some .local)
    (h : wpAny (model prog w) A (eval iter env) (fun xv s₁ => wpAny (model prog w) A (pyIter xv) (fun it s₂ => ∃ I l vs ns, it = .ref I ∧ s₂.heap.IsListIter I l 0 ∧ s₂.heap.IsList l (List.toArray vs) ∧ IntsAre vs ns ∧ ns.length ≤ sizeLine ∧ l ≠ I ∧
      WordOk prog w A env scope cl x elt I ns f s₂ ∧
      (∀ D ws k h' tk, IntsAre ws (ns.map f) → s₂.heap.get? D = none → h'.get? D = some (W.listOf (List.toArray ws) k) → (∀ b o, b ∉ [I] → s₂.heap.get? b = some o → h'.get? b = some o) → Q (.ref D) { s₂ with heap := h', toks := tk })) E s₁) E s)
    (hs : ∀ x, foldedSetIterable iter env x = pure x := by intro _; rfl) :
    wpAny (model prog w) A (eval (.ListComp elt [⟨.Name x px, iter, [], 0⟩] scope pos) env) Q E s := by
  refine wpAny_ListComp_free (fun _ => true) (fun v y => ∀ n t, v = Value.int n t → ∃ u, y = Value.int (f n) u) hclos hcell hkind hnames hx (wpAny_mono h (fun xv s₁ h₁ => wpAny_mono h₁ (fun it s₂ h₂ => ?_) fun _ _ e => e) fun _ _ e => e) hs
  obtain ⟨I, l, vs, ns, rfl, hit, hl, hi, hsz, hne, W, hQ⟩ := h₂
  refine ⟨I, [I, l], [I], _, _, _, rfl, Walks.list hh I l hne vs.toArray, by rw [List.size_toArray, hi.length]; exact hsz, ⟨hit, hl⟩, ?_, word_quiet hi W, ?_⟩
  · intro b hb
    simp only [List.mem_cons, List.not_mem_nil, or_false] at hb
    rcases hb with rfl | rfl
    · obtain ⟨_, e, _⟩ := hit; exact Heap.lt_size e
    · obtain ⟨_, e, _⟩ := hl; exact Heap.lt_size e
  · intro D h' tk ys vs' hnew hlD hplD hlen hP hF hk
    have e : vs' = vs := by simpa using list_of_places hlen hP
    subst e
    obtain ⟨k, hg⟩ := hplD
    rw [List.filter_eq_self.mpr fun _ _ => rfl] at hF
    refine hQ D ys.toList k h' tk (paired_map hi hF) hnew ?_ hk
    rw [Array.toArray_toList]; exact hg

theorem Assign_ListComp_ints2 {elt iter : PySem.Expr} {x y : Str} {px py : Pos} {scope : Scope} {cl : List (Str × Addr)} {pos spos : Pos} {Q : Flow → Shared → Prop} {f : Int → Int}
    (hsw : swapsWith (.ListComp elt [⟨.Name x px, iter, [], 0⟩] scope pos) (some (.Name y py)) spos.line env = pure true)
    (hh : A.handled = none) (hclos : closureFor scope env = pure cl) (hcell : ∀ y ∈ scope.names, y.2 ≠ .cell) (hkind : scope.kind = .function)
    (hnames : ∀ y ∈ scope.names, y.2 = .local → scope.names.lookup y.1 = some .local) (hx : scope.names.lookup x = some .local)
    (hy : env.kindOf y = some .local) (hp : (env.scope.kind == .class || (env.scope.kind == .module && env.locals != env.globals)) = false)
    (h : wpAny (model prog w) A (eval iter env) (fun xv s₁ => wpAny (model prog w) A (pyIter xv) (fun it s₂ => ∃ I l vs ns m, it = .ref I ∧ s₂.heap.IsListIter I l 0 ∧ s₂.heap.IsList l (List.toArray vs) ∧ IntsAre vs ns ∧ ns.length ≤ sizeLine ∧ l ≠ I ∧ env.locals ≠ I ∧ s₂.heap.Ns env.locals m ∧
      WordOk prog w A env scope cl x elt I ns f s₂ ∧
      (∀ D ws k h' tk, IntsAre ws (ns.map f) → s₂.heap.get? D = none → h'.get? D = some (W.listOf (List.toArray ws) k) → h'.Ns env.locals (fun z => if z = y then some (.ref D) else m z) → (∀ b o, b ≠ env.locals → b ∉ [I] → s₂.heap.get? b = some o → h'.get? b = some o) → Q .next { s₂ with heap := h', toks := tk })) E s₁) E s)
    (hs : ∀ x, foldedSetIterable iter env x = pure x := by intro _; rfl) :
    wpAny (model prog w) A (exec (.Assign [.Name y py] (.ListComp elt [⟨.Name x px, iter, [], 0⟩] scope pos) spos) env) Q E s := by
  refine wpAny_Assign_ListComp_free (fun _ => true) (fun v y => ∀ n t, v = Value.int n t → ∃ u, y = Value.int (f n) u) hsw hclos hcell hkind hnames hx hy hp (wpAny_mono h (fun xv s₁ h₁ => wpAny_mono h₁ (fun it s₂ h₂ => ?_) fun _ _ e => e) fun _ _ e => e) hs
  obtain ⟨I, l, vs, ns, m, rfl, hit, hl, hi, hsz, hne, hLI, hns, W, hQ⟩ := h₂
  refine ⟨I, [I, l], [I], _, _, _, m, rfl, Walks.list hh I l hne vs.toArray, by rw [List.size_toArray, hi.length]; exact hsz, ⟨hit, hl⟩, ?_, by simpa using hLI, hns, word_quiet hi W, ?_⟩
  · intro b hb
    simp only [List.mem_cons, List.not_mem_nil, or_false] at hb
    rcases hb with rfl | rfl
    · obtain ⟨_, e, _⟩ := hit; exact Heap.lt_size e
    · obtain ⟨_, e, _⟩ := hl; exact Heap.lt_size e
  · intro D h' tk ys vs' hnew hlD hplD hlen hP hF hn' hk
    have e : vs' = vs := by simpa using list_of_places hlen hP
    subst e
    obtain ⟨k, hg⟩ := hplD
    rw [List.filter_eq_self.mpr fun _ _ => rfl] at hF
    refine hQ D ys.toList k h' tk (paired_map hi hF) hnew ?_ hn' hk
    rw [Array.toArray_toList]; exact hg

theorem ListComp_range2 {elt iter : PySem.Expr} {x : Str} {px : Pos} {scope : Scope} {cl : List (Str × Addr)} {pos : Pos} {Q : Value → Shared → Prop} {f : Int → Int}
    (hh : A.handled = none) (hclos : closureFor scope env = pure cl) (hcell : ∀ y ∈ scope.names, y.2 ≠ .cell) (hkind : scope.kind = .function)
    (hnames : ∀ y ∈ scope.names, y.2 = .local → scope.names.lookup y.1 = some .local) (hx : scope.names.lookup x = some .local)
    (h : wpAny (model prog w) A (eval iter env) (fun xv s₁ => ∃ r b t₀ u₀ v₀, ∃ n : Nat, xv = .ref r ∧ IsRange s₁.heap r 0 b 1 t₀ u₀ v₀ ∧ b = (n : Int) ∧ n ≤ sizeLine ∧
      (∀ C i t s₃ m₃ E', s₁.heap.objs.size ≤ C → i < n → s₃.heap.Ns C m₃ → m₃ x = some (Value.int (i : Int) t) → (∀ b o, s₁.heap.get? b = some o → s₃.heap.get? b = some o) →
        wpAny (model prog w) A (eval elt (compEnvC scope cl C env)) (fun y s₄ => (∃ u, y = Value.int (f (i : Int)) u) ∧ Keeps s₃ s₄) E' s₃) ∧
      (∀ D ws k h' tk, IntsAre ws (((List.range n).map (fun i : Nat => (i : Int))).map f) → s₁.heap.get? D = none → h'.get? D = some (W.listOf (List.toArray ws) k) → s₁.heap.StaysIn h' → Q (.ref D) { s₁ with heap := h', toks := tk })) E s)
    (hs : ∀ x, foldedSetIterable iter env x = pure x := by intro _; rfl) :
    wpAny (model prog w) A (eval (.ListComp elt [⟨.Name x px, iter, [], 0⟩] scope pos) env) Q E s := by
  refine wpAny_ListComp_free (fun _ => true) (fun v y => ∀ n t, v = Value.int n t → ∃ u, y = Value.int (f n) u) hclos hcell hkind hnames hx (wpAny_mono h (fun xv s₁ h₁ => ?_) fun _ _ e => e) hs
  obtain ⟨r, b, t₀, u₀, v₀, n, rfl, hr, rfl, hsz, helt, hQ⟩ := h₁
  have hsmall : Builtin.Range.small 0 (n : Int) 1 = true := small_one (by decide) (by decide) (by omega) (by rw [sizeLine_eq] at hsz; omega)
  have hn : Builtin.Range.rangeSize 0 (n : Int) 1 = (n : Int) := by
    unfold Builtin.Range.rangeSize
    rw [if_pos (by decide)]
    by_cases h : (0 : Int) < n
    · rw [if_pos h]; omega
    · rw [if_neg h]; omega
  refine wpAny_pyIter_range hr hsmall ?_
  rw [hn]
  obtain ⟨I, hI⟩ : ∃ I, I = s₁.heap.objs.size := ⟨_, rfl⟩
  have keep : ∀ s₃ : Shared, (∀ b o, b ∉ [I] → (s₁.heap.push { cls := .type "range_iterator", data := .fields #[rawInt 0, rawInt (n : Int), rawInt 1] }).get? b = some o → s₃.heap.get? b = some o) → ∀ b o, s₁.heap.get? b = some o → s₃.heap.get? b = some o :=
    fun s₃ hk b o e => hk b o (fun hm => by rw [List.mem_singleton] at hm; exact Nat.ne_of_lt (Heap.lt_size e) (hm.trans hI)) (Heap.get?_push_of_some _ e)
  refine ⟨I, [I], [I], n, _, _, by rw [hI], (Walks.range hh I 0 1 n).bound, hsz, ?_, ?_, ⟨?_, ?_⟩, ?_⟩
  · rw [hI]
    show IsRangeIter _ _ _ _ _
    simpa using Heap.get?_push_size _ rfl
  · intro b hb
    rw [List.mem_singleton] at hb
    subst hb
    rw [hI]
    show s₁.heap.objs.size < (s₁.heap.push _).objs.size
    rw [Heap.size_push]; exact Nat.lt_succ_self _
  · exact fun C i v s₃ m₃ E' hC hP hn hm hk _ => wpAny_tests_nil ⟨rfl, ⟨_, _, rfl, fun _ _ e => e⟩⟩
  · rintro C i v s₃ m₃ E' hC ⟨hi, t, rfl⟩ _ hn hm hk _
    have e : (0 : Int) + (i : Int) * 1 = (i : Int) := by omega
    rw [e] at hm ⊢
    refine wpAny_mono (helt C i t s₃ m₃ E' (Nat.le_of_succ_le (by simpa [Heap.size_push] using hC)) hi hn hm (keep s₃ hk)) (fun y s₄ h => ⟨?_, h.2⟩) fun _ _ e => e
    rintro n' t' e
    cases e
    exact h.1
  · intro D h' tk ys vs' hnew hlD hplD hlen hP hF hk
    obtain ⟨k, hg⟩ := hplD
    have hi : IntsAre vs' ((List.range n).map (fun i : Nat => (i : Int))) := ints_places vs' n hlen fun j y hj => by
      obtain ⟨_, t, rfl⟩ := hP j y hj
      exact ⟨t, congrArg (fun a => Value.int a t) (by omega)⟩
    rw [List.filter_eq_self.mpr fun _ _ => rfl] at hF
    have kp := keep { s₁ with heap := h' } hk
    refine hQ D ys.toList k h' tk (paired_map hi hF) ?_ ?_ kp
    · exact none_of (fun b o e => Heap.get?_push_of_some _ e) hnew
    · rw [Array.toArray_toList]; exact hg
end
end Mine
end
section
open PySem PySem.W PyProof.Rows
local macro_rules | `(tactic| walk_at "MY none 0") => `(tactic| fail)
local macro_rules | `(tactic| walk_at "MY none 1") => `(tactic| fail)
local macro_rules | `(tactic| walk_at "MY none 2") => `(tactic| fail)
theorem Mine.resetC16 : (1 : Nat) ≤ 2 := by
  w_top off
  first | walk1 | decide
end
section
open PySem PySem.W PySem.Calls PySem.Spec PyProof.Rows
set_option maxRecDepth 100000
set_option maxHeartbeats 2000000
set_option pp.maxSteps 4000
set_option linter.unusedVariables false
namespace Mine
section
variable {w : World} {A₀ : Around} {base h₀ : Heap} {outer : List Env} {L : Addr} {m mg mb : Str → Option Value} {env : Env} {mean : ExcName → Option Value} {dp un : Nat} {gd : Option (List Code)} {s : Shared} {E Q : Value → Shared → Prop} {news : List (Addr × Obj)}

local macro_rules | `(tactic| walk_at "MY pos") => `(tactic| omega)
local macro_rules | `(tactic| walk_at "MY room") => `(tactic| ((try simp only [depth_under_make, depth_under_kw, depth_in1, depth_deeper]); (try dsimp only [Ar, Around.in1, Around.deeper]); omega))
local macro_rules | `(tactic| walk_at "MY units") => `(tactic| ((try simp only [units_in1, units_deeper, units_under_make, Around.mark_units]); (try dsimp only [Ar, Around.in1, Around.deeper]); omega))
local macro_rules | `(tactic| walk_at "MY idx") => `(tactic| first | omega | (simp only [POWT_len, LOGT_len, EXPT_len]; omega))
local macro_rules | `(tactic| walk_at "subscriptTail Subscript") => `(tactic| (k_here; (with_reducible show wpAny _ _ (subscriptTail _ _ (Value.ref _) (Value.int _ _)) _ _ _); k_dflt (refine' item_ints ?k1 ?k2 ?k3 ?k4 ?k5 ?_; (case k1 => is_list); (case k2 => assumption); (case k3 => walk_at "MY idx"); (case k4 => walk_at "MY idx"); (case k5 => walk_at "MY idx"); k_whole); intro t9))
local macro_rules | `(tactic| walk_at "subscriptTail Name") => `(tactic| (k_here; (with_reducible show wpAny _ _ (subscriptTail _ _ (Value.ref _) (Value.int _ _)) _ _ _); k_dflt (refine' item_ints ?k1 ?k2 ?k3 ?k4 ?k5 ?_; (case k1 => is_list); (case k2 => assumption); (case k3 => walk_at "MY idx"); (case k4 => walk_at "MY idx"); (case k5 => walk_at "MY idx"); k_whole); intro t9))

local macro_rules | `(tactic| walk_at "subscriptTail Name Slice ref ref") => `(tactic| (k_here; (with_reducible show wpAny _ _ (subscriptTail _ (PySem.Expr.Slice _ _ none _) (Value.ref _) (Value.ref _)) _ _ _); k_dflt (refine' kmk_slice_ints ?F ?N ?l ?p ?q ?i ?m ?c ?_ ?s ?t ?z; (case F => k_asm); (case N => k_asm); (case l => kmk_list); (case p => kmk_part); (case q => kmk_part); (case i => assumption); (case m => first | exact kmk_from (by assumption) (by omega) | exact kmk_run (by assumption) (by omega) (by omega) | exact kmk_from_neg (by assumption) (by omega)); (case c => kmk_len); (case s => with_unfolding_all rfl); (case t => kmk_pure); (case z => (refine kmk_sz (by assumption) ?_; (simp only [PySem.sizeLine_eq]; omega)))); intro D' ws' h' F' N' l1 hI' hC' hL'; (try k_lt l1); (try k_sweep)))
local macro_rules | `(tactic| k_inst) => `(tactic| exact inst_keeps (by assumption) (Fr.keep (by k_asm)))

local macro_rules | `(tactic| walk_at "eval ListComp") => `(tactic| (k_here; refine STOP.intro ?_))
theorem name_in_comp {prog : Program} {A : Around} {env : Env} {scope : Scope} {cl : List (Str × Addr)} {C : Addr} {x : Str} {px : Pos} {v : Value} {m₃ : Str → Option Value} {Q : Value → Shared → Prop}
    (hk : scope.kind = .function) (hx : scope.names.lookup x = some .local) (hd : (x == ("__debug__" : Str)) = false) (hn : s.heap.Ns C m₃) (hm : m₃ x = some v) (h : Q v s) : wpAny (model prog w) A (eval (.Name x px) (compEnvC scope cl C env)) Q E s :=
  wpAny_Name (wpAny_loadName_local (by simp [compEnvC, relabel, hk]) (lookup_relabel_local hx) hn hm h) hd
theorem row_ct {x : Addr} {ns : List Int} (B : Below A₀ base outer h₀) (F : Fr h₀ L s.heap m) (N : News h₀ L s.heap news) (X : (hd.heap_39 w.params).In h₀)
    (T : Top hd.view_39 (looseW hd.view_39 [Str.ofString "EXP_TABLE", Str.ofString "LOG_TABLE", Str.ofString "rsPoly_LUT"]) mean mg mb h₀) (hf : env.frame = some L) (hke : env.scope.kind = .function) (hdp : dp + 8 < recursionLimit) (hu : un + 100 < cLine)
    (hP : IsPoly s.heap x ns) (hln : ns.length ≤ 1000)
    (ret : ∀ D ws k h' tk', IntsAre ws ns → s.heap.get? D = none → h'.get? D = some (W.listOf (List.toArray ws) k) → s.heap.StaysIn h' → Fr h₀ L h' m → News h₀ L h' news → Q (.ref D) { s with heap := h', toks := tk' }) :
    wpAny (model PySem.Challenge.rw_bm0035_01.prog w) (Ar dp un gd env outer) (call (.ref 131) [.ref x]) Q E s := by
  revert X; k_fill; intro X
  k_dflt (refine' enter0 (binds := [(Str.ofString "poly", .ref x)]) B F X T rfl hf hke ?ho ?hcd ?hroom ?hbind ?hloc ?_ ?c1 ?c2 ?c3 ?c4)
  case ho => k_is
  case hcd => k_is
  case hroom => ktr_room
  case hbind => exact BindsTo.of_eq rfl
  case hloc => exact locs rfl
  case c1 => exact rfl
  case c2 => exact rfl
  case c3 => exact rfl
  case c4 => decide
  intro h₁ F' N' B' X' T'
  try dsimp only
  k_fold
  k_steps
  refine STOP.intro ?_
  refine ListComp_ints2 (f := fun a => a) (cl := []) ?hh ?hclos ?hcell ?hkind ?hnames ?hx ?h ?hs
  case hh => exact rfl
  case hclos => with_unfolding_all rfl
  case hcell => decide
  case hkind => exact rfl
  case hnames => decide
  case hx => exact rfl
  case hs => intro _; with_unfolding_all rfl
  k_steps
  refine pyiter_poly (un := un + 3) (dp := dp + 1) B' F' N' X' T' rfl rfl (by omega) (by omega) hP fun it l vs h2 tk2 a1 a2 a3 a4 a5 a8 a6 a7 => ?_
  have hil : l ≠ it := by
    rintro rfl
    obtain ⟨o, e⟩ := a8
    rw [F'.keep _ _ e] at a5; cases a5
  refine ⟨it, l, vs, ns, rfl, a3, a2, a1, by rw [PySem.sizeLine_eq]; omega, hil, ?_, ?_⟩
  · intro C n t s₃ m₃ E' hC hn hns hm hk
    exact name_in_comp rfl rfl (by decide) hns hm ⟨⟨_, rfl⟩, ⟨_, _, rfl, fun _ _ e => e⟩⟩
  · intro D ws k h3 tk3 b1 b2 b3 b4
    rw [List.map_id'] at b1
    have keep : s.heap.StaysIn h3 := fun b o e => b4 b o (fun hb => by
      rw [List.mem_singleton] at hb
      subst hb
      rw [F'.keep _ _ e] at a5; cases a5) (a6.keep _ _ e)
    exact ret D ws k h3 tk3 b1 (none_of a6.keep b2) b3 keep (F.keeps keep) (N.keeps keep)

end
end Mine
end
section
open PySem PySem.W PyProof.Rows
local macro_rules | `(tactic| walk_at "MY none 0") => `(tactic| fail)
local macro_rules | `(tactic| walk_at "MY none 1") => `(tactic| fail)
local macro_rules | `(tactic| walk_at "MY none 2") => `(tactic| fail)
theorem Mine.resetC5b : (1 : Nat) ≤ 2 := by
  w_top off
  first | walk1 | decide
end
section
open PySem PySem.W PySem.Calls PySem.Spec PyProof.Rows
set_option maxRecDepth 100000
set_option maxHeartbeats 2000000
set_option pp.maxSteps 4000
set_option linter.unusedVariables false
namespace Mine
section
variable {w : World} {A₀ : Around} {base h₀ : Heap} {outer : List Env} {L : Addr} {m mg mb : Str → Option Value} {env : Env} {mean : ExcName → Option Value} {dp un : Nat} {gd : Option (List Code)} {s : Shared} {E Q : Value → Shared → Prop} {news : List (Addr × Obj)}

/-- the field that stands in h' and of which nothing stood in h -/
structure FieldNew (h h' : Heap) (fa : Addr) : Prop where
  ex : ∃ (pa la : Addr) (vs ws : List Value) (k1 k2 k3 : Nat), h'.get? fa = some { cls := .type "tuple", data := .seq [Value.ref pa, Value.ref la].toArray k1 } ∧ h'.get? pa = some (W.listOf (List.toArray vs) k2) ∧ IntsAre vs POWT ∧ h'.get? la = some (W.listOf (List.toArray ws) k3) ∧ IntsAre ws LOGT ∧
    h.get? fa = none ∧ h.get? pa = none ∧ h.get? la = none

local macro_rules | `(tactic| walk_at "MY pos") => `(tactic| omega)
local macro_rules | `(tactic| walk_at "MY room") => `(tactic| ((try simp only [depth_under_make, depth_under_kw, depth_in1, depth_deeper]); (try dsimp only [Ar, Around.in1, Around.deeper]); omega))
local macro_rules | `(tactic| walk_at "MY units") => `(tactic| ((try simp only [units_in1, units_deeper, units_under_make, Around.mark_units]); (try dsimp only [Ar, Around.in1, Around.deeper]); omega))
local macro_rules | `(tactic| walk_at "MY idx") => `(tactic| first | omega | (simp only [POWT_len, LOGT_len, EXPT_len]; omega))
local macro_rules | `(tactic| walk_at "subscriptTail Subscript") => `(tactic| (k_here; (with_reducible show wpAny _ _ (subscriptTail _ _ (Value.ref _) (Value.int _ _)) _ _ _); k_dflt (refine' item_ints ?k1 ?k2 ?k3 ?k4 ?k5 ?_; (case k1 => is_list); (case k2 => assumption); (case k3 => walk_at "MY idx"); (case k4 => walk_at "MY idx"); (case k5 => walk_at "MY idx"); k_whole); intro t9))
local macro_rules | `(tactic| walk_at "subscriptTail Name") => `(tactic| (k_here; (with_reducible show wpAny _ _ (subscriptTail _ _ (Value.ref _) (Value.int _ _)) _ _ _); k_dflt (refine' item_ints ?k1 ?k2 ?k3 ?k4 ?k5 ?_; (case k1 => is_list); (case k2 => assumption); (case k3 => walk_at "MY idx"); (case k4 => walk_at "MY idx"); (case k5 => walk_at "MY idx"); k_whole); intro t9))

local macro_rules | `(tactic| walk_at "exec For Tuple Call cons nil") => `(tactic| (k_here; (rename Fr _ _ _ _ => F'); (with_reducible apply For_pair3F); (case _F => with_unfolding_all exact F'); (case hh => with_unfolding_all rfl); (case hxi => with_unfolding_all rfl); (case hxc => with_unfolding_all rfl); (case hp => with_unfolding_all rfl); (case hs => (intro _; with_unfolding_all rfl))))
local macro_rules | `(tactic| walk_at "call type:enumerate") => `(tactic| (k_here; (with_reducible show wpAny _ _ (call (Value.type _) [Value.ref _]) _ _ _); k_dflt (refine' call_enum_any ?F ?N ?l ?_; (case F => k_asm); (case N => k_asm); (case l => is_list); k_whole); intro e9 it9 h9 F' N' I9; (try k_sweep)))
local macro_rules | `(tactic| walk_at "pyIter ref") => `(tactic| (k_here; (with_reducible show wpAny _ _ (pyIter (Value.ref _)) (fun it s₂ => PairAt3 _ _ _ _ _ _ _ _ _ _ it s₂) _ _); refine STOP.intro ?_))

local macro_rules | `(tactic| walk_at "exec While Compare cons nil") => `(tactic| (k_here; refine STOP.intro ?_))
theorem field_new  (B : Below A₀ base outer h₀) (F : Fr h₀ L s.heap m) (N : News h₀ L s.heap news) (X : (hd.heap_39 w.params).In h₀)
    (T : Top hd.view_39 (looseW hd.view_39 [Str.ofString "EXP_TABLE", Str.ofString "LOG_TABLE", Str.ofString "rsPoly_LUT"]) mean mg mb h₀) (hf : env.frame = some L) (hke : env.scope.kind = .function) (hdp : dp + 2 < recursionLimit) (hu : un + 20 < cLine)
    
    (ret : ∀ fa h' tk', Fr h₀ L h' m → News h₀ L h' news → s.heap.StaysIn h' → FieldNew s.heap h' fa → Q (.ref fa) { s with heap := h', toks := tk' }) :
    wpAny (model PySem.Challenge.rw_bm0035_01.prog w) (Ar dp un gd env outer) (call (.ref 105) []) Q E s := by
  revert X; k_fill; intro X
  k_dflt (refine' enter0 (binds := []) B F X T rfl hf hke ?ho ?hcd ?hroom ?hbind ?hloc ?_ ?c1 ?c2 ?c3 ?c4)
  case ho => k_is
  case hcd => k_is
  case hroom => ktr_room
  case hbind => exact BindsTo.of_eq rfl
  case hloc => exact locs rfl
  case c1 => exact rfl
  case c2 => exact rfl
  case c3 => exact rfl
  case c4 => decide
  intro h₁ F' N' B' X' T'
  try dsimp only
  k_fold
  k_steps
  rename_i tk0 pa hh0 l1 hh1 F1 N1
  clear l1
  refine While_inv2 (fun n m nx => ∃ (c k : Nat) (vs : List Value), nx = [(pa, W.listOf vs.toArray k)] ∧ IntsAre vs (EXPT.take c) ∧ 1 ≤ c ∧ c ≤ 255 ∧ n = 255 - c ∧ m (Str.ofString "powers") = some (.ref pa)) F1 N1 ⟨1, 0, [.int 1 tk0], rfl, IntsAre.cons _ _ .nil, by omega, by omega, rfl, rfl⟩ ?_ (by first | passes_own | with_unfolding_all passes_own)
  clear F1 N1
  rintro n m₁ news₁ h₂ tk₁ F1 N1 ⟨c, k, vs, rfl, hi, hc1, hc2, rfl, hm⟩
  replace F1 := fr_know F1 hm
  have hlen : (EXPT.take c).length = c := by rw [List.length_take, EXPT_len]; omega
  have hlast := take_last hc1 hc2
  show wpAny _ _ _ _ _ _
  k_fold
  k_steps
  · rename (255 : Int) < _ => hbig
    rename Fr _ _ _ _ => F2
    rename News _ _ _ _ => N2
    rw [hlast] at hbig F2 N2
    have hc4 : c < 255 := by omega
    have hx := exp_step c hc4 hc1
    rw [if_pos hbig] at hx
    refine ⟨_, _, _, _, 255 - (c + 1), rfl, F2, N2, by omega, c + 1, k + 1, vs ++ [_], by rw [List.push_toArray], ?_, by omega, by omega, rfl, rfl⟩
    rw [take_more hc4 hx]
    exact hi.append (IntsAre.cons _ _ .nil)
  · rename ¬ ((255 : Int) < _) => hbig
    rename Fr _ _ _ _ => F2
    rename News _ _ _ _ => N2
    rw [hlast] at hbig F2 N2
    have hc4 : c < 255 := by omega
    have hx := exp_step c hc4 hc1
    rw [if_neg hbig] at hx
    refine ⟨_, _, _, _, 255 - (c + 1), rfl, F2, N2, by omega, c + 1, k + 1, vs ++ [_], by rw [List.push_toArray], ?_, by omega, by omega, rfl, rfl⟩
    rw [take_more hc4 hx]
    exact hi.append (IntsAre.cons _ _ .nil)
  · have hc : c = 255 := by omega
    rw [hc] at hi
    rename Fr _ _ _ _ => F2
    rename News _ _ _ _ => N2
    rename EnumAt _ _ _ _ _ _ _ _ => I2
    rename IntsAre (List.flatten _) _ => hz
    rename_i hcc t0 la hq1 hl1 da hq2 n1 s1 e1 e2 e3 hl2 hq3 e9 it9 h9
    have hvl : vs.toArray.size = 255 := by rw [List.size_toArray, hi.length]; exact POWT_len
    refine enum_at (fun i m nx => ∃ k' ws, nx = [(da, W.listOf (List.toArray ws) k'), (la, W.listOf #[Value.int 0 t0] 0), (pa, W.listOf vs.toArray k)] ∧ IntsAre ws (LOGI i) ∧ m (Str.ofString "logs") = some (.ref da) ∧ m (Str.ofString "powers") = some (.ref pa)) rfl I2 F2 N2 ⟨0, _, rfl, ?_, rfl, rfl⟩ ?_ ?_
    · have e : LOGI 0 = (List.replicate (Int.toNat 256) [0]).flatten := by decide +kernel
      rw [e]; exact hz
    · rintro i v t m₂ nx h tk own hv ⟨k', ws, rfl, hw, hm1, hm2⟩ _ hown F3 N3
      obtain ⟨m₃, e3⟩ := map_know hm1
      subst e3
      obtain ⟨m₄, e4⟩ := map_know (x := Str.ofString "powers") (m := m₃) hm2
      subst e4
      have hi3 : i < 255 := by have := (Array.getElem?_eq_some_iff.mp hv).1; omega
      obtain ⟨n, tn, rfl, hn⟩ := hi.at i v (by simpa using hv)
      have hn2 : POWT.getD i 0 = n := by unfold POWT; rw [List.getD_eq_getElem?_getD, hn]; rfl
      have hn3 := POWT_range i hi3
      rw [hn2] at hn3
      obtain ⟨hn4, hn5⟩ := hn3
      have hwl : ws.length = 256 := by rw [hw.length]; exact LOGI_len i
      have hoff : OwnOff own [da] := hown.off (by
        intro b hb; rw [List.mem_singleton] at hb; rw [hb]
        have h1 := I2.hfn _ (List.mem_cons_self ..)
        simp only [List.mem_cons, List.not_mem_nil, or_false, not_or]
        exact ⟨h1.1, h1.2, Nat.ne_of_gt hl2.2⟩)
      obtain ⟨lg, hlg⟩ : ∃ lg, lg = LOGI i := ⟨_, rfl⟩
      rw [← hlg] at hw
      have hll : lg.length = 256 := by rw [hlg]; exact LOGI_len i
      have hnext : LOGI (i + 1) = lg.set n.toNat (i : Int) := by rw [LOGI_succ, hn2, hlg]
      clear F2 N2 I2 hv hcc hm hm1 hm2 hn hn2 hi hlast hlen hz s1 e1 e2 e3 hvl hlg
      show wpAny _ _ _ _ _ _
      k_fold
      k_steps
      rename Fr _ _ _ _ => F4
      rename News _ _ _ _ => N4
      rename IntsAre (List.set _ _ _) _ => hw4
      exact InvEndN.intro F4 N4 ⟨k', _, rfl, by rw [hnext]; exact hw4, rfl, rfl⟩ rfl (fun p hp => List.mem_append_left own hp) (fun p hp => List.mem_append_right [_, _, _] hp)
    · rintro h' tk m₂ nx F3 N3 ⟨k', ws, rfl, hw, hm1, hm2⟩
      obtain ⟨m₃, e3⟩ := map_know hm1
      subst e3
      obtain ⟨m₄, e4⟩ := map_know (x := Str.ofString "powers") (m := m₃) hm2
      subst e4
      rw [hvl, LOGI_end] at hw
      clear F2 N2 I2 hcc hm hm1 hm2 hlast hlen hz s1 e1 e2 e3 hvl
      show wpAny _ _ _ _ _ _
      try k_fold
      k_steps
      rename Fr _ _ _ _ => F4
      rename News _ _ _ _ => N4
      exact ret _ _ _ (F.keeps F4.keep) (N.keeps F4.keep) F4.keep ⟨pa, da, vs, ws, _, _, _, (N4 _ (.head _)).1, (N4 _ (.tail _ (.tail _ (.tail _ (.head _))))).1, hi, (N4 _ (.tail _ (.head _))).1, hw, (N4 _ (.head _)).2.2, (N4 _ (.tail _ (.tail _ (.tail _ (.head _))))).2.2, (N4 _ (.tail _ (.head _))).2.2⟩

end
end Mine
end
section
open PySem PySem.W PySem.Calls PySem.Spec PyProof.Rows PyProof.Rows.LCp PyProof.Rows.LCg
set_option maxRecDepth 100000
set_option maxHeartbeats 2000000
set_option linter.unusedVariables false
namespace Mine
section
variable {prog : Program} {w : World} {A : Around} {E : Value → Shared → Prop} {s : Shared} {env : Env} {h₀ : Heap} {L : Addr} {m : Str → Option Value} {news : List (Addr × Obj)}

/-- what the iterable of a stored comprehension must give -/
def SrcA (prog : Program) (w : World) (A : Around) (env : Env) (scope : Scope) (cl : List (Str × Addr)) (x y : Str) (elt : PySem.Expr) (f : Int → Int) (Q : Flow → Shared → Prop) (E : Value → Shared → Prop) (xv : Value) (s₁ : Shared) : Prop :=
  wpAny (model prog w) A (pyIter xv) (fun it s₂ => ∃ I l vs ns m, it = .ref I ∧ s₂.heap.IsListIter I l 0 ∧ s₂.heap.IsList l (List.toArray vs) ∧ IntsAre vs ns ∧ ns.length ≤ sizeLine ∧ l ≠ I ∧ env.locals ≠ I ∧ s₂.heap.Ns env.locals m ∧
      WordOk prog w A env scope cl x elt I ns f s₂ ∧
      (∀ D ws k h' tk, IntsAre ws (ns.map f) → s₂.heap.get? D = none → h'.get? D = some (W.listOf (List.toArray ws) k) → h'.Ns env.locals (fun z => if z = y then some (.ref D) else m z) → (∀ b o, b ≠ env.locals → b ∉ [I] → s₂.heap.get? b = some o → h'.get? b = some o) → Q .next { s₂ with heap := h', toks := tk })) E s₁
def SrcE (prog : Program) (w : World) (A : Around) (env : Env) (scope : Scope) (cl : List (Str × Addr)) (x : Str) (elt : PySem.Expr) (f : Int → Int) (Q : Value → Shared → Prop) (E : Value → Shared → Prop) (xv : Value) (s₁ : Shared) : Prop :=
  wpAny (model prog w) A (pyIter xv) (fun it s₂ => ∃ I l vs ns, it = .ref I ∧ s₂.heap.IsListIter I l 0 ∧ s₂.heap.IsList l (List.toArray vs) ∧ IntsAre vs ns ∧ ns.length ≤ sizeLine ∧ l ≠ I ∧
      WordOk prog w A env scope cl x elt I ns f s₂ ∧
      (∀ D ws k h' tk, IntsAre ws (ns.map f) → s₂.heap.get? D = none → h'.get? D = some (W.listOf (List.toArray ws) k) → (∀ b o, b ∉ [I] → s₂.heap.get? b = some o → h'.get? b = some o) → Q (.ref D) { s₂ with heap := h', toks := tk })) E s₁
/-- the source of a comprehension: a list of ints that stands -/
theorem src_eval {elt : PySem.Expr} {x : Str} {scope : Scope} {cl : List (Str × Addr)} {l : Addr} {vs : List Value} {ns : List Int} {f : Int → Int} {Q : Value → Shared → Prop}
    (F : Fr h₀ L s.heap m) (N : News h₀ L s.heap news) (hl : s.heap.IsList l vs.toArray) (hi : IntsAre vs ns) (hsz : ns.length ≤ sizeLine)
    (WO : ∀ C n t s₃ m₃ E', h₀.objs.size ≤ C → L ≠ C → n ∈ ns → s₃.heap.Ns C m₃ → m₃ x = some (Value.int n t) → h₀.StaysIn s₃.heap → (∀ p ∈ news, s₃.heap.get? p.1 = some p.2 ∧ p.1 ≠ C) →
      wpAny (model prog w) A (eval elt (compEnvC scope cl C env)) (fun y s₄ => (∃ u, y = Value.int (f n) u) ∧ Keeps s₃ s₄) E' s₃)
    (fin : ∀ D ws k h' tk, IntsAre ws (ns.map f) → Fr h₀ L h' m → News h₀ L h' ((D, W.listOf (List.toArray ws) k) :: news) → (∀ p ∈ news, p.1 ≠ D) → Q (.ref D) { s with heap := h', toks := tk }) :
    SrcE prog w A env scope cl x elt f Q E (.ref l) s := by
  have hlt : l < s.heap.objs.size := by obtain ⟨_, e, _⟩ := hl; exact Heap.lt_size e
  have hns : ∀ b, b < s.heap.objs.size → b ∉ [s.heap.objs.size] := fun b hb hm => by rw [List.mem_singleton] at hm; exact Nat.ne_of_lt hb hm
  refine wpAny_pyIter_list hl ⟨s.heap.objs.size, l, vs, ns, rfl, ⟨_, Heap.get?_push_size _ rfl, rfl, rfl⟩, hl.push _, hi, hsz, Nat.ne_of_lt hlt, ?_, ?_⟩
  · intro C n t s₃ m₃ E' hC hn hns' hm hk
    have hC' : s.heap.objs.size ≤ C := Nat.le_of_succ_le (by simpa [Heap.size_push] using hC)
    have up : ∀ b o, s.heap.get? b = some o → s₃.heap.get? b = some o := fun b o e => hk b o (hns b (Heap.lt_size e)) (Heap.get?_push_of_some _ e)
    exact WO C n t s₃ m₃ E' (Nat.le_trans F.above (Nat.le_trans (Nat.le_of_lt F.ns.lt) hC')) (Nat.ne_of_lt (Nat.lt_of_lt_of_le F.ns.lt hC')) hn hns' hm (fun b o e => up b o (F.keep b o e)) fun p hp => ⟨up _ _ (N p hp).1, Nat.ne_of_lt (Nat.lt_of_lt_of_le (Heap.lt_size (N p hp).1) hC')⟩
  · intro D ws k h' tk a b c d
    have up : ∀ b o, s.heap.get? b = some o → h'.get? b = some o := fun b o e => d b o (hns b (Heap.lt_size e)) (Heap.get?_push_of_some _ e)
    have b' : s.heap.get? D = none := none_of (fun b o e => Heap.get?_push_of_some _ e) b
    refine fin D ws k h' tk a (F.keeps up) (news_more F N up b' c) fun p hp e => ?_
    rw [← e, (N p hp).1] at b'; cases b'

theorem src_assign {elt : PySem.Expr} {x y : Str} {scope : Scope} {cl : List (Str × Addr)} {l : Addr} {vs : List Value} {ns : List Int} {f : Int → Int} {Q : Flow → Shared → Prop} (hL : env.locals = L)
    (F : Fr h₀ L s.heap m) (N : News h₀ L s.heap news) (hl : s.heap.IsList l vs.toArray) (hi : IntsAre vs ns) (hsz : ns.length ≤ sizeLine)
    (WO : ∀ C n t s₃ m₃ E', h₀.objs.size ≤ C → L ≠ C → n ∈ ns → s₃.heap.Ns C m₃ → m₃ x = some (Value.int n t) → h₀.StaysIn s₃.heap → (∀ p ∈ news, s₃.heap.get? p.1 = some p.2 ∧ p.1 ≠ C) →
      wpAny (model prog w) A (eval elt (compEnvC scope cl C env)) (fun y s₄ => (∃ u, y = Value.int (f n) u) ∧ Keeps s₃ s₄) E' s₃)
    (fin : ∀ D ws k h' tk, IntsAre ws (ns.map f) → Fr h₀ L h' (fun z => if z = y then some (.ref D) else m z) → News h₀ L h' ((D, W.listOf (List.toArray ws) k) :: news) → (∀ p ∈ news, p.1 ≠ D) → Q .next { s with heap := h', toks := tk }) :
    SrcA prog w A env scope cl x y elt f Q E (.ref l) s := by
  subst hL
  have hlt : l < s.heap.objs.size := by obtain ⟨_, e, _⟩ := hl; exact Heap.lt_size e
  have hns : ∀ b, b < s.heap.objs.size → b ∉ [s.heap.objs.size] := fun b hb hm => by rw [List.mem_singleton] at hm; exact Nat.ne_of_lt hb hm
  refine wpAny_pyIter_list hl ⟨s.heap.objs.size, l, vs, ns, m, rfl, ⟨_, Heap.get?_push_size _ rfl, rfl, rfl⟩, hl.push _, hi, hsz, Nat.ne_of_lt hlt, Nat.ne_of_lt F.ns.lt, F.ns.push _, ?_, ?_⟩
  · intro C n t s₃ m₃ E' hC hn hns' hm hk
    have hC' : s.heap.objs.size ≤ C := Nat.le_of_succ_le (by simpa [Heap.size_push] using hC)
    have up : ∀ b o, s.heap.get? b = some o → s₃.heap.get? b = some o := fun b o e => hk b o (hns b (Heap.lt_size e)) (Heap.get?_push_of_some _ e)
    exact WO C n t s₃ m₃ E' (Nat.le_trans F.above (Nat.le_trans (Nat.le_of_lt F.ns.lt) hC')) (Nat.ne_of_lt (Nat.lt_of_lt_of_le F.ns.lt hC')) hn hns' hm (fun b o e => up b o (F.keep b o e)) fun p hp => ⟨up _ _ (N p hp).1, Nat.ne_of_lt (Nat.lt_of_lt_of_le (Heap.lt_size (N p hp).1) hC')⟩
  · intro D ws k h' tk a b c d e
    have up : ∀ b o, b ≠ env.locals → s.heap.get? b = some o → h'.get? b = some o := fun b o hb he => e b o hb (hns b (Heap.lt_size he)) (Heap.get?_push_of_some _ he)
    have b' : s.heap.get? D = none := none_of (fun b o e => Heap.get?_push_of_some _ e) b
    refine fin D ws k h' tk a ⟨d, fun b o he => up b o (Nat.ne_of_lt (Nat.lt_of_lt_of_le (Heap.lt_size he) F.above)) (F.keep b o he), F.above⟩ (fun p hp => ?_) fun p hp e => ?_
    · rcases List.mem_cons.mp hp with rfl | hp
      · refine ⟨c, ?_, none_of F.keep b'⟩
        rintro rfl
        obtain ⟨_, _, _, e2, _⟩ := F.ns
        rw [b'] at e2; cases e2
      · exact ⟨up _ _ (N p hp).2.1 (N p hp).1, (N p hp).2⟩
    · rw [← e, (N p hp).1] at b'; cases b'
theorem Comp_assign {elt iter : PySem.Expr} {x y : Str} {px py : Pos} {scope : Scope} {cl : List (Str × Addr)} {pos spos : Pos} {Q : Flow → Shared → Prop} {f : Int → Int}
    (hsw : swapsWith (.ListComp elt [⟨.Name x px, iter, [], 0⟩] scope pos) (some (.Name y py)) spos.line env = pure true)
    (hh : A.handled = none) (hclos : closureFor scope env = pure cl) (hcell : ∀ y ∈ scope.names, y.2 ≠ .cell) (hkind : scope.kind = .function)
    (hnames : ∀ y ∈ scope.names, y.2 = .local → scope.names.lookup y.1 = some .local) (hx : scope.names.lookup x = some .local)
    (hy : env.kindOf y = some .local) (hp : (env.scope.kind == .class || (env.scope.kind == .module && env.locals != env.globals)) = false)
    (h : wpAny (model prog w) A (eval iter env) (SrcA prog w A env scope cl x y elt f Q E) E s)
    (hs : ∀ x, foldedSetIterable iter env x = pure x) :
    wpAny (model prog w) A (exec (.Assign [.Name y py] (.ListComp elt [⟨.Name x px, iter, [], 0⟩] scope pos) spos) env) Q E s :=
  Assign_ListComp_ints2 hsw hh hclos hcell hkind hnames hx hy hp h hs
theorem Comp_eval {elt iter : PySem.Expr} {x : Str} {px : Pos} {scope : Scope} {cl : List (Str × Addr)} {pos : Pos} {Q : Value → Shared → Prop} {f : Int → Int}
    (hh : A.handled = none) (hclos : closureFor scope env = pure cl) (hcell : ∀ y ∈ scope.names, y.2 ≠ .cell) (hkind : scope.kind = .function)
    (hnames : ∀ y ∈ scope.names, y.2 = .local → scope.names.lookup y.1 = some .local) (hx : scope.names.lookup x = some .local)
    (h : wpAny (model prog w) A (eval iter env) (SrcE prog w A env scope cl x elt f Q E) E s)
    (hs : ∀ x, foldedSetIterable iter env x = pure x) :
    wpAny (model prog w) A (eval (.ListComp elt [⟨.Name x px, iter, [], 0⟩] scope pos) env) Q E s :=
  ListComp_ints2 hh hclos hcell hkind hnames hx h hs
end
end Mine
end
section
open PySem
set_option maxRecDepth 100000
set_option linter.unusedVariables false
namespace Mine
theorem strip_app : ∀ (os r : List Int), (∃ x ∈ os, x ≠ 0) → stripF (os ++ r) = stripF os ++ r
  | [], _, ⟨_, h, _⟩ => nomatch h
  | [x], r, ⟨y, hy, h0⟩ => by
    rw [List.mem_singleton] at hy
    subst hy
    cases r with
    | nil => rfl
    | cons a r => simp [stripF, h0]
  | x :: y :: q, r, h => by
    show stripF (x :: y :: (q ++ r)) = stripF (x :: y :: q) ++ r
    unfold stripF
    by_cases hx : x = 0
    · rw [if_pos hx, if_pos hx]
      refine strip_app (y :: q) r ?_
      obtain ⟨z, hz, h0⟩ := h
      rcases List.mem_cons.mp hz with rfl | hz
      · exact absurd hx h0
      · exact ⟨z, hz, h0⟩
    · rw [if_neg hx, if_neg hx]; rfl
/-- a row with a nought in front: one word less -/
theorem strip_tail {ps : List Int} (h : ∃ x ∈ ps, x ≠ 0) (h0 : ps.getD 0 0 = 0) : 2 ≤ ps.length ∧ stripF (ps.drop 1) = stripF ps ∧ ∃ x ∈ ps.drop 1, x ≠ 0 := by
  match ps, h, h0 with
  | [], ⟨_, h, _⟩, _ => nomatch h
  | [x], ⟨y, hy, hn⟩, h0 =>
    rw [List.mem_singleton] at hy
    subst hy
    exact absurd (by simpa using h0) hn
  | x :: y :: r, ⟨z, hz, hn⟩, h0 =>
    have hx : x = 0 := by simpa using h0
    refine ⟨by simp, ?_, ?_⟩
    · show stripF (y :: r) = stripF (x :: y :: r)
      rw [stripF, if_pos hx]
    · rcases List.mem_cons.mp hz with rfl | hz
      · exact absurd hx hn
      · exact ⟨z, hz, hn⟩
theorem strip_done {ps : List Int} (h0 : ps.getD 0 0 ≠ 0) : stripF ps = ps := by
  match ps with
  | [] => rfl
  | [x] => rfl
  | x :: y :: r =>
    have hx : x ≠ 0 := by simpa using h0
    rw [stripF, if_neg hx]
theorem flat_zero (n : Nat) : (List.replicate n [(0 : Int)]).flatten = List.replicate n 0 := by
  induction n with
  | zero => rfl
  | succ n ih => rw [List.replicate_succ, List.flatten_cons, ih]; rfl
theorem plain_strip {os : List Int} {n : Nat} (h : ∃ x ∈ os, x ≠ 0) : stripF (os ++ (List.replicate n [(0 : Int)]).flatten) = polyF os n := by
  rw [strip_app _ _ h, flat_zero]; rfl
end Mine
end
section
open PySem PySem.W PySem.Calls PySem.Spec PyProof.Rows
set_option maxRecDepth 100000
set_option linter.unusedVariables false
namespace Mine
section
variable {prog : Program} {w : World} {A : Around} {E : Value → Shared → Prop} {s : Shared} {env : Env} {h₀ : Heap} {m : Str → Option Value} {news : List (Addr × Obj)}
/-- a turn's end where the ledger may have grown -/
def GrowPost (h₀ : Heap) (L : Addr) (J : (Str → Option Value) → List (Addr × Obj) → Prop) (I : Addr) (oI : Obj) (s₁ : Shared) (Q : Flow → Shared → Prop) (f : Flow) (s₂ : Shared) : Prop :=
  match f with
  | .ret v => Q (.ret v) s₂
  | .brk => Q .next s₂
  | _ => ∃ h' tk m' nx, s₂ = { s₁ with heap := h', toks := tk } ∧ Fr h₀ L h' m' ∧ News h₀ L h' ((I, oI) :: nx) ∧ (∀ p ∈ nx, p.1 ≠ I) ∧ J m' nx
theorem range_grow {x : Str} {body : List Stmt} {Q : Flow → Shared → Prop} {r : Addr} {b : Int} {t₀ u₀ v₀ : Tok} {n : Nat} (J : Nat → (Str → Option Value) → List (Addr × Obj) → Prop)
    (hh : A.handled = none) (hr : IsRange s.heap r 0 b 1 t₀ u₀ v₀) (hb : b = (n : Int)) (hn62 : n < 2 ^ 62) (F : Fr h₀ env.locals s.heap m) (N : News h₀ env.locals s.heap news) (h0 : J 0 m news)
    (turn : ∀ I oI i t m₁ nx h tk, i < n → (∀ p ∈ nx, p.1 ≠ I) → J i m₁ nx → Fr h₀ env.locals h (fun y => if y = x then some (.int (i : Int) t) else m₁ y) → News h₀ env.locals h ((I, oI) :: nx) →
      wpAny (model prog w) A (execs body env) (GrowPost h₀ env.locals (J (i + 1)) I oI { s with heap := h, toks := tk } Q) E { s with heap := h, toks := tk })
    (done : ∀ m₁ nx h tk, J n m₁ nx → Fr h₀ env.locals h m₁ → News h₀ env.locals h nx → Q .next { s with heap := h, toks := tk }) :
    wpAny (model prog w) A (pyIter (.ref r)) (fun it s₂ => LoopAtV prog w A h₀ env x body Q E it s₂) E s := by
  subst hb
  have hsmall : Builtin.Range.small 0 (n : Int) 1 = true := small_one (by decide) (by decide) (by omega) (by omega)
  have hn : Builtin.Range.rangeSize 0 (n : Int) 1 = (n : Int) := by
    unfold Builtin.Range.rangeSize
    rw [if_pos (by decide)]
    by_cases h : (0 : Int) < n
    · rw [if_pos h]; omega
    · rw [if_neg h]; omega
  refine wpAny_pyIter_range hr hsmall ?_
  have W : Walks prog w A s.heap.objs.size [s.heap.objs.size] [s.heap.objs.size] n (fun i v => i < n ∧ ∃ t, v = .int (0 + i * 1) t)
      (fun i h => IsRangeIter h s.heap.objs.size (0 + (i : Nat) * 1) ((n : Int) - (i : Nat)) 1) := (Walks.range hh _ 0 1 n).bound
  refine ⟨s.heap.objs.size, _, _, n, _, _, m, news, J, rfl, W, ?_, ?_, ?_, by show IsRangeIter _ _ _ _ _; rw [hn]; simpa using Heap.get?_push_size _ rfl, F.push _, (fun p hp => ⟨Heap.get?_push_of_some _ (N p hp).1, (N p hp).2⟩), h0, ?_, ?_⟩
  · intro hm
    exact absurd F.ns.lt ((List.mem_singleton.mp hm) ▸ Nat.lt_irrefl _)
  · intro b hb
    rw [List.mem_singleton.mp hb]
    exact next_is_new F
  · intro p hp hI
    exact absurd (Heap.lt_size (N p hp).1) ((List.mem_singleton.mp hI) ▸ Nat.lt_irrefl _)
  · rintro i v m₁ news₁ s₂ own ⟨hh', tk', rfl⟩ hi ⟨_, t, rfl⟩ hJ hnw hown hownh hin hst F₁ N₁
    have e1 : 0 + (i : Int) * 1 = (i : Int) := by omega
    rw [e1] at F₁
    have hI0 := hin s.heap.objs.size (List.mem_singleton.mpr rfl) (next_is_new F) _ hst
    obtain ⟨oI, hI⟩ : ∃ oI, (s.heap.objs.size, oI) ∈ own := ⟨_, hI0⟩
    clear hI0
    have N₂ : News h₀ env.locals hh' ((s.heap.objs.size, oI) :: news₁) := fun p hp => by
      rcases List.mem_cons.mp hp with rfl | hp
      · exact N₁ _ (List.mem_append_left _ hI)
      · exact N₁ _ (List.mem_append_right _ hp)
    refine wpAny_mono (turn _ oI i t m₁ news₁ hh' tk' hi (fun p hp e => hnw p hp (List.mem_singleton.mpr e)) hJ F₁ N₂) (fun f s₃ p => ?_) fun _ _ e => e
    have fin : (∃ h' tk m' nx, s₃ = { s with heap := h', toks := tk } ∧ Fr h₀ env.locals h' m' ∧ News h₀ env.locals h' ((s.heap.objs.size, oI) :: nx) ∧ (∀ p ∈ nx, p.1 ≠ s.heap.objs.size) ∧ J (i + 1) m' nx) →
        LoopStepU h₀ env.locals [s.heap.objs.size] own (J (i + 1)) { s with heap := hh', toks := tk' } .next s₃ := by
      rintro ⟨h', tk, m', nx, e, F', N', hne, hJ'⟩
      refine ⟨rfl, h', tk, m', nx, e, F', fun q hq => ?_, fun q hq hm => hne q hq (List.mem_singleton.mp hm), hJ'⟩
      rcases List.mem_append.mp hq with hq | hq
      · have ha := List.mem_singleton.mp (hown q hq)
        have hb := hownh q hq
        have hc := (N₁ _ (List.mem_append_left _ hI)).1
        rw [ha] at hb
        have hd : some q.2 = some oI := hb.symm.trans hc
        have he := N' _ (List.mem_cons_self ..)
        injection hd with hd
        rw [← hd] at he
        rw [show q = (s.heap.objs.size, q.2) from by rw [← ha]]
        exact he
      · exact N' _ (List.mem_cons_of_mem _ hq)
    cases f with
    | ret v => exact p
    | brk => exact p
    | next => exact fin p
    | cont => exact fin p
  · intro h' tk m' news' F' N' _ hJ
    exact done _ _ _ _ hJ F' N'
end
end Mine
end
section
open PySem
set_option maxRecDepth 100000
set_option linter.unusedVariables false
namespace Mine
/-- r times itself, k times -/
def pw (r : Int) : Nat → Int
  | 0 => 1
  | k + 1 => timesF (pw r k) r
theorem by1 : By 1 := ⟨by decide, by decide⟩
theorem pw_by (r : Int) : ∀ k, By (pw r k)
  | 0 => by1
  | k + 1 => times_by _ _
theorem pw_add (r : Int) (a : Nat) : ∀ b, pw r (a + b) = timesF (pw r a) (pw r b)
  | 0 => by rw [Nat.add_zero]; exact (times_one (pw_by r a)).symm
  | b + 1 => by
    show timesF (pw r (a + b)) r = timesF (pw r a) (timesF (pw r b) r)
    rw [pw_add r a b, times_assoc]
def hor (r acc : Int) (row : List Int) : Int := row.foldl (fun w x => xr (timesF w r) x) acc
theorem hor_worth (row : List Int) (r : Int) : worthF row r = hor r 0 row := rfl
theorem hor_by {r : Int} : ∀ {row : List Int} {acc : Int}, By acc → Bytes row → By (hor r acc row)
  | [], _, ha, _ => ha
  | x :: l, acc, ha, hb => hor_by (row := l) (xr_by (times_by _ _) (hb x (List.mem_cons_self ..))) fun y hy => hb y (List.mem_cons_of_mem _ hy)
theorem hor_acc {r : Int} (hr : By r) : ∀ {row : List Int} {acc : Int}, By acc → Bytes row → hor r acc row = xr (timesF acc (pw r row.length)) (hor r 0 row)
  | [], acc, ha, _ => by
    show acc = xr (timesF acc 1) 0
    rw [xr_zero, times_one ha]
  | x :: l, acc, ha, hb => by
    have hx := hb x (List.mem_cons_self ..)
    have hl : Bytes l := fun y hy => hb y (List.mem_cons_of_mem _ hy)
    show hor r (xr (timesF acc r) x) l = xr (timesF acc (pw r (l.length + 1))) (hor r (xr (timesF 0 r) x) l)
    rw [hor_acc hr (xr_by (times_by _ _) hx) hl, hor_acc hr (acc := xr (timesF 0 r) x) (xr_by (times_by _ _) hx) hl]
    have e : pw r (l.length + 1) = timesF r (pw r l.length) := by
      rw [show l.length + 1 = 1 + l.length by omega, pw_add]
      show timesF (timesF 1 r) _ = _
      rw [one_times hr]
    rw [e, zero_times, zero_xr hx, xr_times (times_by _ _) hx (pw_by _ _), times_assoc, xr_assoc (times_by _ _) (times_by _ _) (hor_by by0 hl)]
theorem hor_cons {r x : Int} {l : List Int} (hr : By r) (hx : By x) (hl : Bytes l) : hor r 0 (x :: l) = xr (timesF x (pw r l.length)) (hor r 0 l) := by
  show hor r (xr (timesF 0 r) x) l = _
  rw [zero_times, zero_xr hx, hor_acc hr hx hl]
theorem bytes_cons {x : Int} {l : List Int} (h : Bytes (x :: l)) : By x ∧ Bytes l := ⟨h x (List.mem_cons_self ..), fun y hy => h y (List.mem_cons_of_mem _ hy)⟩
theorem addAt_bytes {row : List Int} {k : Nat} {v : Int} (h : Bytes row) (hv : By v) : Bytes (addAt row k v) := by
  intro x hx
  rcases List.mem_or_eq_of_mem_set hx with hx | rfl
  · exact h x hx
  · exact xr_by (bytes_at h k) hv
theorem xr_left_comm {a b c : Int} (ha : By a) (hb : By b) (hc : By c) : xr (xr a b) c = xr (xr a c) b := by
  rw [xr_assoc ha hb hc, xr_comm hb hc, ← xr_assoc ha hc hb]
theorem hor_add {r v : Int} (hr : By r) (hv : By v) : ∀ {row : List Int} {k : Nat}, Bytes row → k < row.length → hor r 0 (addAt row k v) = xr (hor r 0 row) (timesF v (pw r (row.length - 1 - k)))
  | [], k, _, hk => absurd hk (Nat.not_lt_zero _)
  | x :: l, 0, hb, _ => by
    obtain ⟨hx, hl⟩ := bytes_cons hb
    show hor r 0 (xr x v :: l) = _
    rw [hor_cons hr (xr_by hx hv) hl, hor_cons hr hx hl, xr_times hx hv (pw_by _ _)]
    rw [xr_left_comm (times_by _ _) (times_by _ _) (hor_by by0 hl)]
    rfl
  | x :: l, k + 1, hb, hk => by
    obtain ⟨hx, hl⟩ := bytes_cons hb
    have hk' : k < l.length := by simpa using hk
    show hor r 0 (x :: addAt l k v) = _
    rw [hor_cons hr hx (addAt_bytes hl hv), hor_add hr hv hl hk', addAt_len, hor_cons hr hx hl]
    rw [← xr_assoc (times_by _ _) (hor_by by0 hl) (times_by _ _)]
    have e : (x :: l).length - 1 - (k + 1) = l.length - 1 - k := by rw [List.length_cons]; omega
    rw [e]
/-- the first j words of a row at r, each at its place -/
def PS (ms : List Int) (r : Int) : Nat → Int
  | 0 => 0
  | j + 1 => xr (PS ms r j) (timesF (ms.getD j 0) (pw r (ms.length - 1 - j)))
theorem PS_by {ms : List Int} {r : Int} : ∀ j, By (PS ms r j)
  | 0 => by0
  | j + 1 => xr_by (PS_by j) (times_by _ _)
theorem hor_snoc (r acc : Int) (l : List Int) (x : Int) : hor r acc (l ++ [x]) = xr (timesF (hor r acc l) r) x := by
  unfold hor; rw [List.foldl_append]; rfl
theorem bytes_take {l : List Int} (h : Bytes l) (j : Nat) : Bytes (l.take j) := fun x hx => h x (List.mem_of_mem_take hx)
theorem PS_take {ms : List Int} {r : Int} (hr : By r) (hm : Bytes ms) : ∀ j, j ≤ ms.length → timesF (hor r 0 (ms.take j)) (pw r (ms.length - j)) = PS ms r j
  | 0, _ => by
    rw [List.take_zero]
    show timesF 0 _ = 0
    exact zero_times _
  | j + 1, h => by
    have hj : j < ms.length := h
    have e : ms.take (j + 1) = ms.take j ++ [ms.getD j 0] := by
      rw [List.take_add_one, List.getElem?_eq_getElem hj, List.getD_eq_getElem?_getD, List.getElem?_eq_getElem hj]; rfl
    have e2 : ms.length - j = 1 + (ms.length - (j + 1)) := by omega
    have e3 : ms.length - (j + 1) = ms.length - 1 - j := by omega
    have ih := PS_take hr hm j (Nat.le_of_lt hj)
    rw [e2, pw_add] at ih
    rw [e, hor_snoc, xr_times (times_by _ _) (bytes_at hm j) (pw_by _ _), times_assoc]
    show _ = xr (PS ms r j) _
    rw [← ih, e3]
    congr 2
    show timesF r _ = timesF (timesF 1 r) _
    rw [one_times hr]
theorem PS_full {ms : List Int} {r : Int} (hr : By r) (hm : Bytes ms) : PS ms r ms.length = hor r 0 ms := by
  rw [← PS_take hr hm ms.length (Nat.le_refl _), Nat.sub_self, List.take_length]
  exact times_one (hor_by by0 hm)
theorem lineG_bytes {row ms : List Int} {i : Nat} {a : Int} (h : Bytes row) : ∀ j, Bytes (lineG timesF row i a ms j)
  | 0 => h
  | j + 1 => by rw [lineG_succ]; exact addAt_bytes (lineG_bytes h j) (times_by _ _)
theorem hor_line {row ms : List Int} {i : Nat} {a r : Int} (hr : By r) (ha : By a) (h : Bytes row) (hm : Bytes ms) (hi : i + ms.length ≤ row.length) : ∀ j, j ≤ ms.length →
    hor r 0 (lineG timesF row i a ms j) = xr (hor r 0 row) (timesF (timesF a (PS ms r j)) (pw r (row.length - i - ms.length)))
  | 0, _ => by
    show hor r 0 row = xr _ (timesF (timesF a 0) _)
    rw [times_zero, zero_times, xr_zero]
  | j + 1, hj => by
    have hk : i + j < (lineG timesF row i a ms j).length := by rw [lineG_len]; omega
    rw [lineG_succ, hor_add hr (times_by _ _) (lineG_bytes h j) hk, hor_line hr ha h hm hi j (by omega), lineG_len]
    show _ = xr _ (timesF (timesF a (xr (PS ms r j) _)) _)
    rw [times_xr (PS_by j) (times_by _ _) ha, xr_times (times_by _ _) (times_by _ _) (pw_by _ _), ← xr_assoc (hor_by by0 h) (times_by _ _) (times_by _ _)]
    have e : row.length - 1 - (i + j) = (ms.length - 1 - j) + (row.length - i - ms.length) := by omega
    rw [e, pw_add, ← times_assoc (timesF a (ms.getD j 0)), times_assoc a (ms.getD j 0)]
theorem hor_line_all {row ms : List Int} {i : Nat} {a r : Int} (hr : By r) (ha : By a) (h : Bytes row) (hm : Bytes ms) (hi : i + ms.length ≤ row.length) :
    hor r 0 (lineG timesF row i a ms ms.length) = xr (hor r 0 row) (timesF (timesF a (hor r 0 ms)) (pw r (row.length - i - ms.length))) := by
  rw [hor_line hr ha h hm hi _ (Nat.le_refl _), PS_full hr hm]
theorem bytes_zero (n : Nat) : Bytes (List.replicate n 0) := fun x hx => by rw [(List.mem_replicate.mp hx).2]; exact by0
theorem hor_zero {r : Int} (hr : By r) : ∀ n, hor r 0 (List.replicate n 0) = 0
  | 0 => rfl
  | n + 1 => by rw [List.replicate_succ, hor_cons hr by0 (bytes_zero n), zero_times, hor_zero hr n]; rfl
theorem prodI_bytes {ns ms : List Int} : ∀ i, Bytes (prodI timesF ns ms i)
  | 0 => bytes_zero _
  | i + 1 => by rw [prodI_succ]; exact lineG_bytes (prodI_bytes i) _
theorem hor_prodI {ns ms : List Int} {r : Int} (hr : By r) (hn : Bytes ns) (hm : Bytes ms) (h1 : 1 ≤ ns.length) (h2 : 1 ≤ ms.length) : ∀ i, i ≤ ns.length → hor r 0 (prodI timesF ns ms i) = timesF (PS ns r i) (hor r 0 ms)
  | 0, _ => by
    show hor r 0 (List.replicate _ 0) = timesF 0 _
    rw [hor_zero hr, zero_times]
  | i + 1, hi => by
    have hk : i + ms.length ≤ (prodI timesF ns ms i).length := by rw [prodI_len]; omega
    rw [prodI_succ, hor_line_all hr (bytes_at hn i) (prodI_bytes i) hm hk, hor_prodI hr hn hm h1 h2 i (by omega), prodI_len]
    show _ = timesF (xr (PS ns r i) _) _
    rw [xr_times (PS_by i) (times_by _ _) (hor_by by0 hm)]
    have e : ns.length + ms.length - 1 - i - ms.length = ns.length - 1 - i := by omega
    rw [e, times_assoc (ns.getD i 0), times_comm (hor r 0 ms) (pw r _), ← times_assoc (ns.getD i 0)]
theorem worth_prod {ns ms : List Int} {r : Int} (hr : By r) (hn : Bytes ns) (hm : Bytes ms) (h1 : 1 ≤ ns.length) (h2 : 1 ≤ ms.length) : worthF (prodG timesF ns ms) r = timesF (worthF ns r) (worthF ms r) := by
  show hor r 0 (prodI timesF ns ms ns.length) = timesF (hor r 0 ns) (hor r 0 ms)
  rw [hor_prodI hr hn hm h1 h2 _ (Nat.le_refl _), PS_full hr hn]
end Mine
end
section
open PySem
set_option maxRecDepth 100000
set_option linter.unusedVariables false
namespace Mine
/-- d moved i places back -/
def shF (d : List Int) (i k : Nat) : Int := if k < i then 0 else d.getD (k - i) 0
theorem getD_ext {a b : List Int} (hl : a.length = b.length) (h : ∀ k, k < a.length → a.getD k 0 = b.getD k 0) : a = b := by
  refine List.ext_getElem hl fun k h1 h2 => ?_
  have := h k h1
  simpa [List.getD_eq_getElem?_getD, List.getElem?_eq_getElem h1, List.getElem?_eq_getElem h2] using this
theorem getD_out {l : List Int} {k : Nat} (h : l.length ≤ k) : l.getD k 0 = 0 := by
  rw [List.getD_eq_getElem?_getD, List.getElem?_eq_none h]; rfl
theorem addAt_at {row : List Int} {k : Nat} {v : Int} (hk : k < row.length) (j : Nat) : (addAt row k v).getD j 0 = if j = k then xr (row.getD k 0) v else row.getD j 0 := by
  unfold addAt
  simp only [List.getD_eq_getElem?_getD]
  by_cases h : j = k
  · subst h; rw [if_pos rfl, List.getElem?_set_self hk]; rfl
  · rw [if_neg h, List.getElem?_set_ne (Ne.symm h)]
theorem line_at {row ms : List Int} {i : Nat} {a : Int} (k : Nat) : ∀ j, i + j ≤ row.length →
    (lineG timesF row i a ms j).getD k 0 = if i ≤ k ∧ k < i + j then xr (row.getD k 0) (timesF a (ms.getD (k - i) 0)) else row.getD k 0
  | 0, _ => by rw [if_neg (by omega)]; rfl
  | j + 1, h => by
    rw [lineG_succ, addAt_at (by rw [lineG_len]; omega)]
    by_cases hk : k = i + j
    · rw [if_pos hk, if_pos (by omega), line_at (i + j) j (by omega), if_neg (by omega), hk, Nat.add_sub_cancel_left]
    · rw [if_neg hk, line_at k j (by omega)]
      by_cases h2 : i ≤ k ∧ k < i + j
      · rw [if_pos h2, if_pos (by omega)]
      · rw [if_neg h2, if_neg (by omega)]
theorem line_all {row ms : List Int} {i : Nat} {a : Int} (k : Nat) (h : i + ms.length ≤ row.length) :
    (lineG timesF row i a ms ms.length).getD k 0 = xr (row.getD k 0) (timesF a (shF ms i k)) := by
  rw [line_at k _ h]
  unfold shF
  by_cases h1 : k < i
  · rw [if_neg (by omega), if_pos h1, times_zero, xr_zero]
  · rw [if_neg h1]
    by_cases h2 : k < i + ms.length
    · rw [if_pos (by omega)]
    · rw [if_neg (by omega), getD_out (l := ms) (by omega), times_zero, xr_zero]
/-- a product's word -/
def XS (ns ms : List Int) (k : Nat) : Nat → Int
  | 0 => 0
  | i + 1 => xr (XS ns ms k i) (timesF (ns.getD i 0) (shF ms i k))
theorem XS_by (ns ms : List Int) (k : Nat) : ∀ i, By (XS ns ms k i)
  | 0 => by0
  | i + 1 => xr_by (XS_by ns ms k i) (times_by _ _)
theorem zeros_at (n k : Nat) : (List.replicate n (0 : Int)).getD k 0 = 0 := by
  rw [List.getD_eq_getElem?_getD]
  by_cases h : k < n
  · rw [List.getElem?_replicate_of_lt h]; rfl
  · rw [List.getElem?_eq_none (by simpa using h)]; rfl
theorem prodI_at {ns ms : List Int} (k : Nat) (h2 : 1 ≤ ms.length) : ∀ i, i ≤ ns.length → (prodI timesF ns ms i).getD k 0 = XS ns ms k i
  | 0, _ => zeros_at _ _
  | i + 1, hi => by
    rw [prodI_succ, line_all k (by rw [prodI_len]; omega), prodI_at k h2 i (by omega)]
    rfl
theorem prod_at {ns ms : List Int} (k : Nat) (h2 : 1 ≤ ms.length) : (prodG timesF ns ms).getD k 0 = XS ns ms k ns.length := prodI_at k h2 _ (Nat.le_refl _)
theorem prod_len (f : Int → Int → Int) (ns ms : List Int) : (prodG f ns ms).length = ns.length + ms.length - 1 := prodI_len f ns ms _
theorem XS_front (a : Int) (l ms : List Int) (k : Nat) : ∀ i, XS (a :: l) ms k (i + 1) = xr (timesF a (ms.getD k 0)) (if k = 0 then 0 else XS l ms (k - 1) i)
  | 0 => by
    show xr 0 (timesF a (shF ms 0 k)) = xr _ (if k = 0 then 0 else 0)
    have e : shF ms 0 k = ms.getD k 0 := by unfold shF; rw [if_neg (Nat.not_lt_zero _), Nat.sub_zero]
    have e2 : (if k = 0 then (0 : Int) else 0) = 0 := by split <;> rfl
    rw [e2, xr_zero, zero_xr (times_by _ _), e]
  | i + 1 => by
    show xr (XS (a :: l) ms k (i + 1)) (timesF (l.getD i 0) (shF ms (i + 1) k)) = _
    rw [XS_front a l ms k i]
    by_cases h : k = 0
    · subst h
      have e : shF ms (i + 1) 0 = 0 := by unfold shF; rw [if_pos (Nat.succ_pos _)]
      rw [if_pos rfl, if_pos rfl, e, times_zero, xr_zero]
    · have e : shF ms (i + 1) k = shF ms i (k - 1) := by
        unfold shF
        by_cases h2 : k < i + 1
        · rw [if_pos h2, if_pos (by omega)]
        · rw [if_neg h2, if_neg (by omega)]
          congr 1; omega
      rw [if_neg h, if_neg h, e, xr_assoc (times_by _ _) (XS_by _ _ _ _) (times_by _ _)]
      rfl
theorem prod_cons {a : Int} {l ms : List Int} (h2 : 1 ≤ ms.length) (k : Nat) : (prodG timesF (a :: l) ms).getD k 0 = xr (timesF a (ms.getD k 0)) ((0 :: prodG timesF l ms).getD k 0) := by
  rw [prod_at k h2]
  show XS (a :: l) ms k (l.length + 1) = _
  rw [XS_front]
  cases k with
  | zero => rfl
  | succ k => rw [if_neg (Nat.succ_ne_zero _), Nat.add_sub_cancel, ← prod_at k h2]; rfl
/-- by a factor of two words -/
theorem prod_two (e : Int) : ∀ (ns : List Int) (k : Nat), Bytes ns → (prodG timesF ns [1, e]).getD k 0 = xr (ns.getD k 0) (if k = 0 then 0 else timesF e (ns.getD (k - 1) 0))
  | [], k, _ => by
    rw [prod_at k (by simp)]
    show (0 : Int) = xr 0 (if k = 0 then 0 else timesF e 0)
    rw [times_zero]
    have e2 : (if k = 0 then (0 : Int) else 0) = 0 := by split <;> rfl
    rw [e2]; rfl
  | a :: l, k, hb => by
    obtain ⟨ha, hl⟩ := bytes_cons hb
    rw [prod_cons (by simp)]
    match k with
    | 0 =>
      show xr (timesF a 1) 0 = xr a 0
      rw [times_one ha]
    | 1 =>
      show xr (timesF a e) ((prodG timesF l [1, e]).getD 0 0) = xr (l.getD 0 0) (timesF e a)
      rw [prod_two e l 0 hl, if_pos rfl, xr_zero, times_comm a e, xr_comm (times_by _ _) (bytes_at hl 0)]
    | k + 2 =>
      show xr (timesF a 0) ((prodG timesF l [1, e]).getD (k + 1) 0) = xr (l.getD (k + 1) 0) (timesF e (l.getD k 0))
      rw [prod_two e l (k + 1) hl, if_neg (Nat.succ_ne_zero _), times_zero, zero_xr (xr_by (bytes_at hl _) (times_by _ _))]
      rfl
/-- the divisor's row -/
def dgF (low : Int) : Nat → List Int
  | 0 => [1]
  | c + 1 => prodG timesF (dgF low c) [1, expF (low + (c : Int))]
theorem dg_len (low : Int) : ∀ c, (dgF low c).length = c + 1
  | 0 => rfl
  | c + 1 => by
    show (prodG timesF (dgF low c) _).length = _
    rw [prod_len, dg_len low c]; rfl
theorem dg_bytes (low : Int) : ∀ c, Bytes (dgF low c)
  | 0 => fun x hx => by
    have hx : x = 1 := List.mem_singleton.mp hx
    subst hx; exact by1
  | c + 1 => prodI_bytes _
theorem dg_shift (low : Int) : ∀ (c k : Nat), (dgF low c).getD k 0 = timesF ((dgF 0 c).getD k 0) (expF (low * (k : Int)))
  | 0, 0 => by
    show (1 : Int) = timesF 1 (expF (low * 0))
    rw [Int.mul_zero, exp_zero, times_one by1]
  | 0, k + 1 => by
    show (0 : Int) = timesF 0 _
    rw [zero_times]
  | c + 1, k => by
    show (prodG timesF (dgF low c) [1, expF (low + (c : Int))]).getD k 0 = timesF ((prodG timesF (dgF 0 c) [1, expF (0 + (c : Int))]).getD k 0) _
    rw [prod_two _ _ _ (dg_bytes low c), prod_two _ _ _ (dg_bytes 0 c), dg_shift low c k]
    have hy : By (if k = 0 then 0 else timesF (expF (0 + (c : Int))) ((dgF 0 c).getD (k - 1) 0)) := by split; exact by0; exact times_by _ _
    rw [xr_times (bytes_at (dg_bytes 0 c) k) hy (expF_by _)]
    congr 1
    by_cases h : k = 0
    · rw [if_pos h, if_pos h, zero_times]
    · rw [if_neg h, if_neg h, dg_shift low c (k - 1), times_comm ((dgF 0 c).getD (k - 1) 0) (expF _), ← times_assoc, times_exp, times_comm (expF (0 + (c : Int))), times_assoc, times_exp, times_comm _ (expF _)]
      congr 2
      have e : (k : Int) = ((k - 1 : Nat) : Int) + 1 := by omega
      rw [e, Int.mul_add]; omega
theorem dg_zero : ∀ c : Nat, c < 11 → ∀ k : Nat, k < c + 1 → (dgF 0 c).getD k 0 ≠ 0 := by decide +kernel
theorem dg_octs {low : Int} {c : Nat} (hc : c ≤ 10) : Octs (dgF low c) := by
  intro x hx
  have hb := dg_bytes low c x hx
  obtain ⟨k, hk, rfl⟩ := List.getElem_of_mem hx
  have hs := dg_shift low c k
  rw [List.getD_eq_getElem?_getD, List.getElem?_eq_getElem hk] at hs
  have hs : (dgF low c)[k] = _ := hs
  rw [dg_len] at hk
  have h0 : (dgF low c)[k] ≠ 0 := by rw [hs]; exact times_pos (dg_zero c (by omega) k hk) (expF_ne _)
  omega
theorem dg_head (low : Int) (c : Nat) : (dgF low c).getD 0 0 = 1 := by
  rw [dg_shift]
  induction c with
  | zero => show timesF 1 (expF (low * 0)) = 1; rw [Int.mul_zero, exp_zero, times_one by1]
  | succ c ih =>
    show timesF ((prodG timesF (dgF 0 c) _).getD 0 0) _ = 1
    rw [prod_two _ _ _ (dg_bytes 0 c), if_pos rfl, xr_zero, ih]
theorem dg_round {low : Int} (h : low % 255 = 0) : ∀ c, dgF low c = dgF 0 c
  | 0 => rfl
  | c + 1 => by
    show prodG timesF (dgF low c) [1, expF (low + (c : Int))] = prodG timesF (dgF 0 c) [1, expF (0 + (c : Int))]
    rw [dg_round h c, expF_mod (n := low + (c : Int)) (k := 0 + (c : Int)) (by omega)]
theorem dg_7 : dgF 0 7 = [1, 127, 122, 154, 164, 11, 68, 117] := by decide +kernel
theorem dg_10 : dgF 0 10 = [1, 216, 194, 159, 111, 199, 94, 95, 113, 157, 193] := by decide +kernel
theorem two_bytes {e : Int} (he : By e) : Bytes [1, e] := fun x hx => by
  rcases List.mem_cons.mp hx with rfl | hx
  · exact by1
  · rw [List.mem_singleton] at hx; subst hx; exact he
theorem worth_two {r e : Int} (hr : By r) : worthF [1, e] r = xr r e := by
  show xr (timesF (xr (timesF 0 r) 1) r) e = _
  rw [zero_times, zero_xr by1, one_times hr]
theorem dg_worth (low : Int) : ∀ (c j : Nat), j < c → worthF (dgF low c) (expF (low + (j : Int))) = 0
  | 0, _, h => absurd h (Nat.not_lt_zero _)
  | c + 1, j, h => by
    show worthF (prodG timesF (dgF low c) [1, expF (low + (c : Int))]) _ = 0
    rw [worth_prod (expF_by _) (dg_bytes low c) (two_bytes (expF_by _)) (by rw [dg_len]; omega) (by simp)]
    by_cases hj : j = c
    · subst hj
      rw [worth_two (expF_by _), xr_self, times_zero]
    · rw [dg_worth low c j (by omega), zero_times]
-- rows of octets: both products alike
theorem line_mul {row ms : List Int} {i : Nat} {a : Int} (ha : a ≠ 0) (hm : Octs ms) : ∀ j, j ≤ ms.length → lineG mulF row i a ms j = lineG timesF row i a ms j
  | 0, _ => rfl
  | j + 1, h => by
    have hx : ms.getD j 0 ≠ 0 := by have := hm _ (getD_mem (show j < ms.length from h)); omega
    rw [lineG_succ, lineG_succ, line_mul ha hm j (by omega), times_ne ha hx]
    rfl
theorem prodI_mul {ns ms : List Int} (hn : Octs ns) (hm : Octs ms) : ∀ i, i ≤ ns.length → prodI mulF ns ms i = prodI timesF ns ms i
  | 0, _ => rfl
  | i + 1, h => by
    have hx : ns.getD i 0 ≠ 0 := by have := hn _ (getD_mem (show i < ns.length from h)); omega
    rw [prodI_succ, prodI_succ, prodI_mul hn hm i (by omega), line_mul hx hm _ (Nat.le_refl _)]
theorem prod_mul {ns ms : List Int} (hn : Octs ns) (hm : Octs ms) : prodG mulF ns ms = prodG timesF ns ms := prodI_mul hn hm _ (Nat.le_refl _)
theorem octs_bytes {ns : List Int} (h : Octs ns) : Bytes ns := fun x hx => by have := h x hx; exact ⟨by omega, this.2⟩
theorem octs_strip {ns : List Int} (h : Octs ns) : stripF ns = ns := by
  cases ns with
  | nil => rfl
  | cons a l => exact strip_done (by have := h a (List.mem_cons_self ..); show a ≠ 0; omega)
/-- a turn of the divisor's loop -/
theorem dg_turn {low : Int} {c : Nat} (hc : c < 10) : polyF (prodG mulF (dgF low c) (polyF [1, expF (low + (c : Int))] 0)) 0 = dgF low (c + 1) := by
  have ho : Octs [1, expF (low + (c : Int))] := fun x hx => by
    rcases List.mem_cons.mp hx with rfl | hx
    · decide
    · rw [List.mem_singleton] at hx; subst hx; exact expF_range _
  rw [polyF_zero, polyF_zero, octs_strip ho, prod_mul (dg_octs (by omega)) ho]
  exact octs_strip (dg_octs (low := low) (c := c + 1) (by omega))
end Mine
end
section
open PySem
set_option maxRecDepth 100000
set_option linter.unusedVariables false
namespace Mine
theorem stepF_out {ns ms : List Int} {k : Nat} (h : ms.length ≤ k) : (stepF ns ms).getD k 0 = ns.getD k 0 := by
  unfold stepF
  rw [List.getD_eq_getElem?_getD, List.getElem?_append_right (by simpa using h), List.getElem?_drop, List.getD_eq_getElem?_getD]
  congr 2
  simp only [List.length_map, List.length_range]
  omega
theorem octs_at {ms : List Int} (h : Octs ms) {k : Nat} (hk : k < ms.length) : 1 ≤ ms.getD k 0 ∧ ms.getD k 0 ≤ 255 := h _ (getD_mem hk)
theorem step_line {ns ms : List Int} (hO : Octs ms) (h : ms.length ≤ ns.length) : stepF ns ms = lineG timesF ns 0 (expF (logF (ns.getD 0 0) - logF (ms.getD 0 0))) ms ms.length := by
  refine getD_ext (by rw [stepF_len h, lineG_len]) fun k _ => ?_
  rw [line_all k (by omega)]
  have e : shF ms 0 k = ms.getD k 0 := by unfold shF; rw [if_neg (Nat.not_lt_zero _), Nat.sub_zero]
  rw [e]
  by_cases hk : k < ms.length
  · have hx := octs_at hO hk
    rw [stepF_at hk, times_ne (expF_ne _) (by omega), logF_exp]
    show xr _ _ = xr _ _
    congr 1
    exact expF_mod (by omega)
  · rw [stepF_out (by omega), getD_out (l := ms) (k := k) (by omega), times_zero, xr_zero]
theorem worth_step {ns ms : List Int} {r : Int} (hr : By r) (hn : Bytes ns) (hO : Octs ms) (h : ms.length ≤ ns.length) (h0 : worthF ms r = 0) : worthF (stepF ns ms) r = worthF ns r := by
  rw [step_line hO h]
  show hor r 0 _ = hor r 0 ns
  rw [hor_line_all hr (expF_by _) hn (octs_bytes hO) (by omega)]
  have h0 : hor r 0 ms = 0 := h0
  rw [h0, times_zero, zero_times, xr_zero]
theorem worth_strip (r : Int) : ∀ l : List Int, worthF (stripF l) r = worthF l r
  | [] => rfl
  | [x] => rfl
  | x :: y :: q => by
    unfold stripF
    by_cases hx : x = 0
    · rw [if_pos hx, worth_strip r (y :: q), hx]
      show hor r 0 (y :: q) = hor r (xr (timesF 0 r) 0) (y :: q)
      rw [zero_times]; rfl
    · rw [if_neg hx]
/-- what a remainder is -/
structure RestOk (ns ms rs : List Int) : Prop where
  short : rs.length < ms.length
  some : 1 ≤ rs.length
  head : rs.length ≤ 1 ∨ rs.getD 0 0 ≠ 0
  bytes : Bytes rs
  worth : ∀ r, By r → worthF ms r = 0 → worthF rs r = worthF ns r
theorem mod_rest {ms : List Int} (hO : Octs ms) (h2 : 2 ≤ ms.length) : ∀ (k : Nat) (ns : List Int), Row ns ms → ns.length ≤ k + 1 → 1 ≤ ns.length → (ns.length ≤ 1 ∨ ns.getD 0 0 ≠ 0) → RestOk ns ms (modF k ns ms)
  | 0, ns, R, hk, h1, hh => ⟨by show ns.length < _; omega, h1, hh, R.bytes, fun _ _ _ => rfl⟩
  | k + 1, ns, R, hk, h1, hh => by
    unfold modF
    by_cases h : ns.length < ms.length
    · rw [if_pos h]
      exact ⟨h, h1, hh, R.bytes, fun _ _ _ => rfl⟩
    · rw [if_neg h]
      obtain ⟨a, b⟩ := step_less R (by omega) h2
      have ih := mod_rest hO h2 k (polyF (stepF ns ms) 0) (step_row R (by omega) h2) (by omega) b (by rw [polyF_zero]; exact stripF_head _)
      refine ⟨ih.short, ih.some, ih.head, ih.bytes, fun r hr h0 => ?_⟩
      rw [ih.worth r hr h0, polyF_zero, worth_strip, worth_step hr R.bytes hO (by omega) h0]
theorem mod_less {ns ms : List Int} (h : ns.length < ms.length) : ∀ k, modF k ns ms = ns
  | 0 => rfl
  | k + 1 => by unfold modF; rw [if_pos h]
theorem scale_at {ms : List Int} (s : Int) (k : Nat) : (ms.map (timesF s)).getD k 0 = timesF s (ms.getD k 0) := by
  simp only [List.getD_eq_getElem?_getD, List.getElem?_map]
  cases ms[k]? with
  | none => exact (times_zero s).symm
  | some x => rfl
theorem scale_octs {ms : List Int} {s : Int} (hs : s ≠ 0) (h : Octs ms) : Octs (ms.map (timesF s)) := by
  intro x hx
  obtain ⟨y, hy, rfl⟩ := List.mem_map.mp hx
  have h1 := h y hy
  have h3 := times_pos (a := s) (b := y) hs (by omega)
  have h4 := times_by s y
  unfold By at h4
  omega
theorem step_scale {ns ms : List Int} {s : Int} (hs : s ≠ 0) (hO : Octs ms) : stepF ns (ms.map (timesF s)) = stepF ns ms := by
  unfold stepF
  rw [List.length_map]
  congr 1
  refine List.map_congr_left fun i hi => ?_
  have hi : i < ms.length := List.mem_range.mp hi
  have h1 := octs_at hO hi
  have h0 := octs_at hO (Nat.lt_of_le_of_lt (Nat.zero_le _) hi)
  congr 1
  rw [scale_at, scale_at, times_ne hs (by omega), times_ne hs (by omega), logF_exp, logF_exp]
  exact expF_mod (by omega)
theorem mod_scale {ms : List Int} {s : Int} (hs : s ≠ 0) (hO : Octs ms) : ∀ (k : Nat) (ns : List Int), modF k ns (ms.map (timesF s)) = modF k ns ms
  | 0, _ => rfl
  | k + 1, ns => by
    unfold modF
    rw [List.length_map, step_scale hs hO, mod_scale hs hO k]
theorem prod_one {ms : List Int} {s : Int} (h : 1 ≤ ms.length) : prodG timesF [s] ms = ms.map (timesF s) := by
  refine getD_ext (by rw [prod_len, List.length_map, List.length_singleton]; omega) fun k _ => ?_
  rw [prod_cons h, scale_at]
  have e : (0 :: prodG timesF [] ms).getD k 0 = 0 := by
    have : prodG timesF [] ms = List.replicate (0 + ms.length - 1) 0 := rfl
    rw [this, ← List.replicate_succ]
    exact zeros_at _ _
  rw [e, xr_zero]
theorem strip_zeros : ∀ n : Nat, stripF (List.replicate (n + 1) 0) = [0]
  | 0 => rfl
  | n + 1 => by
    show stripF (0 :: 0 :: List.replicate n 0) = [0]
    rw [stripF, if_pos rfl]
    exact strip_zeros n
/-- a product of octets' rows in front -/
theorem prod_head {a : Int} {l ms : List Int} (ha : a ≠ 0) (h : 1 ≤ ms.length) (hO : Octs ms) : (prodG timesF (a :: l) ms).getD 0 0 ≠ 0 := by
  rw [prod_cons h]
  show xr _ 0 ≠ 0
  rw [xr_zero]
  have := octs_at hO (show 0 < ms.length from h)
  exact times_pos ha (by omega)
theorem step_prod {a : Int} {l ms : List Int} (ha : 1 ≤ a ∧ a ≤ 255) (h : 1 ≤ ms.length) (hO : Octs ms) : stepF (prodG timesF (a :: l) ms) ms = 0 :: prodG timesF l ms := by
  have hl : ms.length ≤ (prodG timesF (a :: l) ms).length := by rw [prod_len, List.length_cons]; omega
  have h0 := octs_at hO (show 0 < ms.length from h)
  have hb0 : Bytes (0 :: prodG timesF l ms) := fun x hx => by
    rcases List.mem_cons.mp hx with rfl | hx
    · exact by0
    · exact prodI_bytes _ x hx
  refine getD_ext (by rw [stepF_len hl, List.length_cons, prod_len, prod_len, List.length_cons]; omega) fun k _ => ?_
  have e0 : (prodG timesF (a :: l) ms).getD 0 0 = timesF a (ms.getD 0 0) := by rw [prod_cons h]; exact xr_zero _
  by_cases hk : k < ms.length
  · have hx := octs_at hO hk
    rw [stepF_at hk, e0, prod_cons h, times_ne (a := a) (b := ms.getD 0 0) (by omega) (by omega), logF_exp]
    have e1 : expF (logF (ms.getD k 0) + ((logF a + logF (ms.getD 0 0)) % 255 - logF (ms.getD 0 0))) = timesF a (ms.getD k 0) := by
      rw [times_ne (by omega) (by omega)]
      exact expF_mod (by omega)
    rw [e1]
    show xr (xr _ _) _ = _
    rw [xr_comm (times_by _ _) (bytes_at hb0 k), xr_assoc (bytes_at hb0 k) (times_by _ _) (times_by _ _), xr_self, xr_zero]
  · rw [stepF_out (by omega), prod_cons h, getD_out (l := ms) (k := k) (by omega), times_zero, zero_xr (bytes_at hb0 k)]
theorem mod_prod {ms : List Int} (hO : Octs ms) (h2 : 2 ≤ ms.length) : ∀ (l : List Int) (k : Nat), Octs l → l.length ≤ k → modF k (if l = [] then [0] else prodG timesF l ms) ms = [0]
  | [], k, _, _ => by
    rw [if_pos rfl]
    exact mod_less (by show 1 < _; omega) k
  | a :: l, 0, _, h => absurd h (Nat.not_succ_le_zero _)
  | a :: l, k + 1, hl, h => by
    rw [if_neg (by simp)]
    have ha := hl a (List.mem_cons_self ..)
    have hl2 : Octs l := fun x hx => hl x (List.mem_cons_of_mem _ hx)
    unfold modF
    rw [if_neg (by rw [prod_len, List.length_cons]; omega), step_prod ha (by omega) hO, polyF_zero]
    have e : stripF (0 :: prodG timesF l ms) = if l = [] then [0] else prodG timesF l ms := by
      cases l with
      | nil =>
        rw [if_pos rfl]
        have : prodG timesF [] ms = List.replicate (0 + ms.length - 1) 0 := rfl
        rw [this, ← List.replicate_succ]
        exact strip_zeros _
      | cons b l =>
        rw [if_neg (by simp)]
        have hb := hl2 b (List.mem_cons_self ..)
        have hd := prod_head (a := b) (l := l) (by omega) (by omega) hO
        match e : prodG timesF (b :: l) ms with
        | [] => rw [e] at hd; exact absurd rfl hd
        | y :: q =>
          rw [stripF, if_pos rfl, ← e, strip_done hd]
    rw [e]
    exact mod_prod hO h2 l k hl2 (by simpa using h)
theorem mod_many {l ms : List Int} (hO : Octs ms) (h2 : 2 ≤ ms.length) (hl : Octs l) (h1 : 1 ≤ l.length) {k : Nat} (hk : l.length ≤ k) : modF k (prodG timesF l ms) ms = [0] := by
  have h := mod_prod hO h2 l k hl hk
  rwa [if_neg (by rintro rfl; exact absurd h1 (by decide))] at h
theorem many_row {l ms : List Int} (hO : Octs ms) (h2 : 1 ≤ ms.length) (hl : Octs l) (h1 : 1 ≤ l.length) : polyF (prodG mulF l ms) 0 = prodG timesF l ms := by
  rw [polyF_zero, prod_mul hl hO]
  cases l with
  | nil => exact absurd h1 (by decide)
  | cons a l => exact strip_done (prod_head (by have := hl a (List.mem_cons_self ..); omega) h2 hO)
theorem many_isRow {l ms : List Int} (hO : Octs ms) (h2 : 1 ≤ ms.length) (hl : Octs l) (h1 : 1 ≤ l.length) : Row (prodG timesF l ms) ms := by
  refine ⟨prodI_bytes _, .inr ?_⟩
  cases l with
  | nil => exact absurd h1 (by decide)
  | cons a l => exact prod_head (by have := hl a (List.mem_cons_self ..); omega) h2 hO
end Mine
end
section
open PySem
set_option maxRecDepth 100000
set_option linter.unusedVariables false
namespace Mine
theorem two_octs (n : Int) : Octs [1, expF n] := fun x hx => by
  rcases List.mem_cons.mp hx with rfl | hx
  · decide
  · rw [List.mem_singleton] at hx; subst hx; exact expF_range _
theorem two_poly (n : Int) : polyF [1, expF n] 0 = [1, expF n] := by rw [polyF_zero, octs_strip (two_octs n)]
theorem dg_next {low : Int} {c : Nat} (hc : c < 10) : polyF (prodG mulF (dgF low c) [1, expF (low + (c : Int))]) 0 = dgF low (c + 1) := by
  rw [← two_poly (low + (c : Int)), dg_turn hc]
/-- the octets of the second message -/
def upF (os : List Int) : List Int := os.map fun o => 1 + o.fmod 255
theorem up_octs (os : List Int) : Octs (upF os) := fun x hx => by
  obtain ⟨o, _, rfl⟩ := List.mem_map.mp hx
  have h1 := Int.fmod_nonneg_of_pos o (show (0 : Int) < 255 by decide)
  have h2 := Int.fmod_lt_of_pos o (show (0 : Int) < 255 by decide)
  omega
theorem up_len (os : List Int) : (upF os).length = os.length := List.length_map ..
theorem up_poly (os : List Int) : polyF (upF os) 0 = upF os := by rw [polyF_zero, octs_strip (up_octs os)]
theorem one_octs (o : Int) : Octs [1 + o.fmod 255] := up_octs [o]
theorem one_poly (o : Int) : polyF [1 + o.fmod 255] 0 = [1 + o.fmod 255] := up_poly [o]
/-- the message's row -/
theorem plain_bytes {os : List Int} (h : Bytes os) (n : Nat) : Bytes (polyF os n) := fun x hx => by
  unfold polyF at hx
  rcases List.mem_append.mp hx with hx | hx
  · exact h x (stripF_sub _ x hx)
  · rw [(List.mem_replicate.mp hx).2]; exact by0
theorem strip_some : ∀ (l : List Int), (∃ x ∈ l, x ≠ 0) → (stripF l).getD 0 0 ≠ 0
  | [], ⟨_, h, _⟩ => nomatch h
  | [x], ⟨y, hy, h0⟩ => by
    rw [List.mem_singleton] at hy
    subst hy
    exact h0
  | x :: y :: r, h => by
    unfold stripF
    by_cases hx : x = 0
    · rw [if_pos hx]
      refine strip_some (y :: r) ?_
      obtain ⟨z, hz, h0⟩ := h
      rcases List.mem_cons.mp hz with rfl | hz
      · exact absurd hx h0
      · exact ⟨z, hz, h0⟩
    · rw [if_neg hx]; exact hx
theorem plain_head {os : List Int} (h : ∃ x ∈ os, x ≠ 0) (n : Nat) : (polyF os n).getD 0 0 ≠ 0 := by
  have h1 := strip_some os h
  unfold polyF
  cases e : stripF os with
  | nil => rw [e] at h1; exact absurd rfl h1
  | cons a l => rw [e] at h1; exact h1
theorem plain_len {os : List Int} (h : 1 ≤ os.length) (n : Nat) : 1 ≤ (polyF os n).length ∧ (polyF os n).length ≤ os.length + n := by
  have h1 := stripF_len os
  have h2 := stripF_pos os (by rintro rfl; exact absurd h (by decide))
  unfold polyF
  rw [List.length_append, List.length_replicate]
  omega
end Mine
end
section
open PySem PySem.W PySem.Calls PySem.Spec PyProof.Rows
set_option maxRecDepth 100000
set_option maxHeartbeats 2000000
set_option pp.maxSteps 4000
namespace Mine
section
variable {prog : Program} {w : World} {A : Around} {E : Value → Shared → Prop} {s : Shared} {h₀ h : Heap} {L a : Addr} {m : Str → Option Value} {K : Frag} {es : Array DictEntry} {n : Nat} {k : Int} {t : Tok} {v : Value}
theorem mapInt (X : K.In h) (hl : K.lookup a = some ⟨.type "dict", none, .dict es n, #[]⟩) (hk : ∀ e ∈ es.toList, ∃ k t, e.key = .int k t ∧ e.hash = hashInt k) : h.MapOf (intKind prog w) a (fun k => findBy Value.isInt es k) :=
  ⟨_, es, n, X _ _ hl, ⟨rfl, rfl, rfl⟩, rfl, fun e he => by
    obtain ⟨x, t, e1, e2⟩ := hk e (Array.mem_toList_iff.mpr he)
    exact ⟨x, by rw [e1]; exact intKind_is prog w x t, e2⟩, fun _ => rfl⟩
/-- an item of a top's dict by an int -/
theorem topMapInt {value slice : PySem.Expr} {Q : Value → Shared → Prop} (F : Fr h₀ L s.heap m) (X₀ : K.In h₀) (hl : K.lookup a = some ⟨.type "dict", none, .dict es n, #[]⟩) (hk : ∀ e ∈ es.toList, ∃ k t, e.key = .int k t ∧ e.hash = hashInt k) (e : findBy Value.isInt es k = some v)
    (h : Q v { s with toks := s.toks + 1 })
    (hs : subscripted slice false (.ref a) (.int k t) = operate [.ref a, .int k t] (getItem (.ref a) (.int k t)) := by with_unfolding_all rfl) :
    wpAny (model prog w) A (subscriptTail value slice (.ref a) (.int k t)) Q E s :=
  have hm := mapInt (prog := prog) (w := w) (X₀.keeps F.keep) hl hk
  tail_any hm.typeIs slot_dict_getitem.lookup (wpAny_getItem_of (intKind_is prog w k t) hm e h) hs
end
theorem look_lut (P : Params) : PySem.Challenge.rw_bm0035_01.foot = 8 ∧ ∃ es n, (hd.heap_39 P).lookup 85 = some ⟨.type "dict", none, .dict es n, #[]⟩ ∧ (∀ e ∈ es.toList, ∃ k t, e.key = .int k t ∧ e.hash = hashInt k) ∧
    (∃ a l n', findBy Value.isInt es 7 = some (.ref a) ∧ (hd.heap_39 P).lookup a = some ⟨.type "list", none, .seq l.toArray n', #[]⟩ ∧ IntsAre l [1, 127, 122, 154, 164, 11, 68, 117]) ∧
    (∃ a l n', findBy Value.isInt es 10 = some (.ref a) ∧ (hd.heap_39 P).lookup a = some ⟨.type "list", none, .seq l.toArray n', #[]⟩ ∧ IntsAre l [1, 216, 194, 159, 111, 199, 94, 95, 113, 157, 193]) := by
  k_fill
  refine ⟨rfl, _, _, by k_is, ?_, ?_, ?_⟩
  · intro e he
    simp only [List.mem_cons, List.not_mem_nil, or_false] at he
    rcases he with rfl | rfl | rfl | rfl | rfl | rfl | rfl | rfl | rfl | rfl | rfl | rfl | rfl <;> exact ⟨_, _, rfl, rfl⟩
  · refine ⟨_, _, _, rfl, by k_is, ?_⟩
    l_intsW
  · refine ⟨_, _, _, rfl, by k_is, ?_⟩
    l_intsW
end Mine
end
section
open PySem PySem.W PySem.Calls PySem.Spec PyProof.Rows
set_option maxRecDepth 100000
set_option maxHeartbeats 8000000
set_option pp.maxSteps 4000
set_option linter.unusedVariables false
namespace Mine
section
variable {w : World} {A₀ : Around} {base h₀ : Heap} {outer : List Env} {L : Addr} {m mg mb : Str → Option Value} {env : Env} {mean : ExcName → Option Value} {dp un : Nat} {gd : Option (List Code)} {s : Shared} {E Q : Value → Shared → Prop} {news : List (Addr × Obj)}
theorem take_list {h : Heap} {P : Prop} {l : Addr} {items : Array Value} (hL : h.IsList l items) (k : ∀ l', l' = l → h.IsList l' items → P) : P := k l rfl hL
theorem news_field {m : Str → Option Value} {h h' : Heap} {fa : Addr} (F : Fr h₀ L h m) (N : News h₀ L h news) (k : h.StaysIn h') (p : FieldNew h h' fa) :
    ∃ (pa la : Addr) (vs ws : List Value) (k1 k2 k3 : Nat), IntsAre vs POWT ∧ IntsAre ws LOGT ∧ fa ≠ pa ∧ fa ≠ la ∧ News h₀ L h' ((fa, { cls := .type "tuple", data := .seq [Value.ref pa, Value.ref la].toArray k1 }) :: (pa, W.listOf (List.toArray vs) k2) :: (la, W.listOf (List.toArray ws) k3) :: news) ∧ (∀ q ∈ news, q.1 ≠ fa ∧ q.1 ≠ pa ∧ q.1 ≠ la) := by
  obtain ⟨pa, la, vs, ws, k1, k2, k3, a, b, c, d, e, f, g, i⟩ := p.ex
  have off : ∀ b, h.get? b = none → b ≠ L ∧ h₀.get? b = none ∧ ∀ q ∈ news, q.1 ≠ b := by
    intro b hb
    refine ⟨?_, none_of F.keep hb, ?_⟩
    · rintro rfl
      obtain ⟨_, _, _, e, _⟩ := F.ns
      rw [hb] at e; cases e
    · rintro q hq rfl
      rw [(N q hq).1] at hb; cases hb
  refine ⟨pa, la, vs, ws, k1, k2, k3, c, e, ?_, ?_, ?_, fun q hq => ⟨(off _ f).2.2 q hq, (off _ g).2.2 q hq, (off _ i).2.2 q hq⟩⟩
  · rintro rfl; rw [a] at b; injection b with b; injection b with b1; injection b1 with b2; exact absurd b2 (by decide)
  · rintro rfl; rw [a] at d; injection d with d; injection d with b1; injection b1 with b2; exact absurd b2 (by decide)
  · intro q hq
    rcases List.mem_cons.mp hq with rfl | hq
    · exact ⟨a, (off _ f).1, (off _ f).2.1⟩
    · rcases List.mem_cons.mp hq with rfl | hq
      · exact ⟨b, (off _ g).1, (off _ g).2.1⟩
      · rcases List.mem_cons.mp hq with rfl | hq
        · exact ⟨d, (off _ i).1, (off _ i).2.1⟩
        · exact ⟨k _ _ (N q hq).1, (N q hq).2⟩
theorem field_of {h : Heap} {fa pa la : Addr} {vs ws : List Value} {k1 k2 k3 : Nat} (N : News h₀ L h news) (h1 : (fa, { cls := .type "tuple", data := .seq [Value.ref pa, Value.ref la].toArray k1 }) ∈ news) (h2 : (pa, W.listOf (List.toArray vs) k2) ∈ news) (h3 : (la, W.listOf (List.toArray ws) k3) ∈ news) (i1 : IntsAre vs POWT) (i2 : IntsAre ws LOGT) : IsField h fa :=
  ⟨pa, la, vs, ws, News.isTup N h1, News.isList N h2, i1, News.isList N h3, i2⟩
theorem cell_ne {h : Heap} {a c : Addr} {oa oc : Obj} {v : Option Value} (N : News h₀ L h news) (hp : (a, oa) ∈ news) (hc : (c, oc) ∈ news) (hd : oc.data = .cell v) (hk : ∀ v, oa.data ≠ .cell v) : a ≠ c := by
  rintro rfl
  have e1 := (N _ hp).1
  have e2 := (N _ hc).1
  have e3 : some oa = some oc := e1.symm.trans e2
  cases e3
  exact hk _ hd
theorem look_cases {K : Frag} {a : Addr} {o o' : Obj} {P : Prop} (h : K.lookup a = some o) (h2 : K.lookup a = some o') (k : o' = o → P) : P := k (by rw [h] at h2; cases h2; rfl)
theorem prod_len1 {ns ms : List Int} (h : 1 ≤ ns.length) : (prodG timesF ns ms).length + 1 = ns.length + ms.length := by rw [prod_len]; omega
theorem rest_zero {rs : List Int} (h1 : 1 ≤ rs.length) (h : rs.length ≤ 1 ∨ rs.getD 0 0 ≠ 0) (h0 : rs.getD 0 0 = 0) : rs = [0] := by
  match rs, h1, h, h0 with
  | [x], _, _, h0 => have : x = 0 := h0; rw [this]
  | x :: y :: r, _, h, h0 =>
    rcases h with h | h
    · simp at h
    · exact absurd h0 h
def DoneB (P : Shared → Prop) (b : Bool) (s : Shared) : Prop := b = false ∧ P s
theorem DoneB.mk {P : Shared → Prop} {s : Shared} (h : P s) : DoneB P false s := ⟨rfl, h⟩
def Done (P : Shared → Prop) (f : Flow) (s : Shared) : Prop := f = .next ∧ P s
theorem Done.mk {P : Shared → Prop} {s : Shared} (h : P s) : Done P .next s := ⟨rfl, h⟩
inductive Gate (n : Nat) : Prop where | mk : Gate n
theorem gate (n : Nat) : Gate n := .mk
structure OctOk (os : List Int) : Prop where
  bytes : Bytes os
  some : ∃ x ∈ os, x ≠ 0
  pos : 1 ≤ os.length
  short : os.length ≤ 8
theorem oct_one {o : List Int} (hb : Bytes o) (hl : o.length ≤ 8) (h : o = (List.replicate ((o.length : Int)).toNat [(0 : Int)]).flatten) : OctOk (List.drop (Int.toNat 1) o ++ [1]) := by
  have e1 : Int.toNat 1 = 1 := rfl
  refine ⟨fun x hx => ?_, ⟨1, by simp, by decide⟩, by simp, ?_⟩
  · rcases List.mem_append.mp hx with hx | hx
    · exact hb x (List.mem_of_mem_drop hx)
    · rw [List.mem_singleton] at hx; subst hx; exact ⟨by decide, by decide⟩
  · rw [List.length_append, List.length_drop, List.length_singleton, e1]
    cases o with
    | nil => decide
    | cons a r => rw [List.length_cons] at hl ⊢; omega
theorem all_zero : ∀ (o : List Int), (∀ x ∈ o, x = 0) → o = (List.replicate o.length [(0 : Int)]).flatten
  | [], _ => rfl
  | a :: r, h => by
    rw [List.length_cons, List.replicate_succ, List.flatten_cons, ← all_zero r fun x hx => h x (List.mem_cons_of_mem _ hx), h a (List.mem_cons_self ..)]
    rfl
theorem oct_two {o : List Int} (hb : Bytes o) (hl : o.length ≤ 8) (h : ¬ o = (List.replicate ((o.length : Int)).toNat [(0 : Int)]).flatten) : OctOk o := by
  rw [Int.toNat_natCast] at h
  have ex : ∃ x ∈ o, x ≠ 0 := by
    refine Classical.byContradiction fun hn => h (all_zero o fun x hx => Classical.byContradiction fun hx0 => hn ⟨x, hx, hx0⟩)
  refine ⟨hb, ex, ?_, hl⟩
  obtain ⟨x, hx, _⟩ := ex
  exact List.length_pos_of_mem hx
theorem poly_news {m : Str → Option Value} {h h' : Heap} {x : Addr} {ns : List Int} (F : Fr h₀ L h m) (N : News h₀ L h news) (k : h.StaysIn h') (p : PolyNew h h' x ns) :
    ∃ (dx l : Addr) (hs : Int) (tk : Tok) (n : Nat) (vs : List Value) (k' : Nat), IntsAre vs ns ∧ News h₀ L h' ((x, instObj 80 dx) :: (dx, dictOf [⟨hs, .str (Str.ofString "num") tk, .ref l⟩] n) :: (l, W.listOf (List.toArray vs) k') :: news) ∧
      (∀ q ∈ news, q.1 ≠ x ∧ q.1 ≠ dx ∧ q.1 ≠ l) ∧ dx ≠ x ∧ l ≠ x ∧ l ≠ dx := by
  obtain ⟨dx, l, hs, tk, n, vs, k', a, b, c, d, e, f, g, i1, i2, i3⟩ := p.ex
  have off : ∀ b, h.get? b = none → b ≠ L ∧ h₀.get? b = none ∧ ∀ q ∈ news, q.1 ≠ b := by
    intro b hb
    refine ⟨?_, none_of F.keep hb, ?_⟩
    · rintro rfl
      obtain ⟨_, _, _, e, _⟩ := F.ns
      rw [hb] at e; cases e
    · rintro q hq rfl
      rw [(N q hq).1] at hb; cases hb
  refine ⟨dx, l, hs, tk, n, vs, k', d, ?_, fun q hq => ⟨(off _ e).2.2 q hq, (off _ f).2.2 q hq, (off _ g).2.2 q hq⟩, i1, i2, i3⟩
  intro q hq
  rcases List.mem_cons.mp hq with rfl | hq
  · exact ⟨a, (off _ e).1, (off _ e).2.1⟩
  · rcases List.mem_cons.mp hq with rfl | hq
    · exact ⟨b, (off _ f).1, (off _ f).2.1⟩
    · rcases List.mem_cons.mp hq with rfl | hq
      · exact ⟨c, (off _ g).1, (off _ g).2.1⟩
      · exact ⟨k _ _ (N q hq).1, (N q hq).2⟩
theorem row_back {dg : List Int} {c : Nat} (h : dg.length = c + 1) : List.map (fun k' => dg.getD k'.toNat 0) (rangeKs 0 ((c : Int) + 1 - 0).toNat) = dg := by
  have e : ((c : Int) + 1 - 0).toNat = dg.length := by omega
  rw [e]
  refine List.ext_getElem ?_ fun k h1 h2 => ?_
  · simp [rangeKs]
  · simp [rangeKs, List.getElem?_eq_getElem h2]
theorem poly_of {h : Heap} {x dx l : Addr} {hs : Int} {tk : Tok} {n k : Nat} {vs : List Value} {ns : List Int} (N : News h₀ L h news) (h1 : (x, instObj 80 dx) ∈ news) (h2 : (dx, dictOf [⟨hs, .str (Str.ofString "num") tk, .ref l⟩] n) ∈ news) (h3 : (l, W.listOf (List.toArray vs) k) ∈ news) (hi : IntsAre vs ns) : IsPoly h x ns :=
  ⟨dx, l, hs, tk, n, vs, (N _ h1).1, (N _ h2).1, News.isList N h3, hi⟩

end
end Mine
end
section
open PySem PySem.W PyProof.Rows
local macro_rules | `(tactic| walk_at "MY none 0") => `(tactic| fail)
local macro_rules | `(tactic| walk_at "MY none 1") => `(tactic| fail)
local macro_rules | `(tactic| walk_at "MY none 2") => `(tactic| fail)
theorem Mine.resetT2 : (1 : Nat) ≤ 2 := by
  w_top off
  first | walk1 | decide
end
section
open PySem PySem.W PySem.Calls PySem.Spec PyProof.Rows
set_option maxRecDepth 100000
set_option maxHeartbeats 8000000
set_option pp.maxSteps 4000
set_option linter.unusedVariables false
namespace Mine
section
variable {w : World} {A₀ : Around} {base h₀ : Heap} {outer : List Env} {L : Addr} {m mg mb : Str → Option Value} {env : Env} {mean : ExcName → Option Value} {dp un : Nat} {gd : Option (List Code)} {s : Shared} {E Q : Value → Shared → Prop} {news : List (Addr × Obj)}

local macro_rules | `(tactic| walk_at "MY pos") => `(tactic| omega)
local macro_rules | `(tactic| walk_at "MY room") => `(tactic| ((try simp only [depth_under_make, depth_under_kw, depth_in1, depth_deeper]); (try dsimp only [Ar, Around.in1, Around.deeper]); first | omega | decide))
local macro_rules | `(tactic| walk_at "MY units") => `(tactic| ((try simp only [units_in1, units_deeper, units_under_make, Around.mark_units]); (try dsimp only [Ar, Around.in1, Around.deeper]); first | omega | decide))
local macro_rules | `(tactic| walk_at "MY idx") => `(tactic| first | omega | (simp only [POWT_len, LOGT_len, EXPT_len]; omega))
local macro_rules | `(tactic| walk_at "subscriptTail Subscript") => `(tactic| (k_here; (with_reducible show wpAny _ _ (subscriptTail _ _ (Value.ref _) (Value.int _ _)) _ _ _); k_dflt (refine' item_ints ?k1 ?k2 ?k3 ?k4 ?k5 ?_; (case k1 => is_list); (case k2 => assumption); (case k3 => walk_at "MY idx"); (case k4 => walk_at "MY idx"); (case k5 => walk_at "MY idx"); k_whole); intro t9))
local macro_rules | `(tactic| walk_at "subscriptTail Name") => `(tactic| (k_here; (with_reducible show wpAny _ _ (subscriptTail _ _ (Value.ref _) (Value.int _ _)) _ _ _); k_dflt (refine' item_ints ?k1 ?k2 ?k3 ?k4 ?k5 ?_; (case k1 => is_list); (case k2 => assumption); (case k3 => walk_at "MY idx"); (case k4 => walk_at "MY idx"); (case k5 => walk_at "MY idx"); k_whole); intro t9))

local macro_rules | `(tactic| walk_at "subscriptTail Name Slice ref ref") => `(tactic| (k_here; (with_reducible show wpAny _ _ (subscriptTail _ (PySem.Expr.Slice _ _ none _) (Value.ref _) (Value.ref _)) _ _ _); k_dflt (refine' kmk_slice_ints ?F ?N ?l ?p ?q ?i ?m ?c ?_ ?s ?t ?z; (case F => k_asm); (case N => k_asm); (case l => kmk_list); (case p => kmk_part); (case q => kmk_part); (case i => assumption); (case m => first | exact kmk_from (by assumption) (by omega) | exact kmk_run (by assumption) (by omega) (by omega) | exact kmk_from_neg (by assumption) (by omega)); (case c => kmk_len); (case s => with_unfolding_all rfl); (case t => kmk_pure); (case z => (refine kmk_sz (by assumption) ?_; (simp only [PySem.sizeLine_eq]; omega)))); intro D' ws' h' F' N' l1 hI' hC' hL'; (try k_lt l1); (try k_sweep)))
local macro_rules | `(tactic| k_ne) => `(tactic| (rename News _ _ _ _ => lN'; exact cell_ne lN' (by k_mem) (by k_mem) (by assumption) (fun _ e => by first | cases e | (dsimp only [instObj, dictOf] at e; cases e) | (simp [instObj, dictOf] at e))))
local macro_rules | `(tactic| walk_at "call ref") => `(tactic| (k_here; (with_reducible show wpAny _ _ (call (Value.ref 80) _) _ _ _); refine STOP.intro ?_))
local macro_rules | `(tactic| walk_at "exec For") => `(tactic| (k_here; refine STOP.intro ?_))
local macro_rules | `(tactic| walk_at "exec For Name Call cons nil") => `(tactic| (k_here; refine STOP.intro ?_))
local macro_rules | `(tactic| walk_at "pyIter ref") => `(tactic| (k_here; (with_reducible show wpAny _ _ (pyIter (Value.ref _)) (fun it s₂ => LoopAtV _ _ _ _ _ _ _ _ _ it s₂) _ _); refine STOP.intro ?_))
local macro_rules | `(tactic| walk_at "exec While") => `(tactic| (k_here; refine STOP.intro ?_))
local macro_rules | `(tactic| walk_at "exec If") => `(tactic| (k_here; (have z9 : Gate 2 := by assumption); clear z9; refine STOP.intro ?_))
local macro_rules | `(tactic| walk_at "exec Assign cons IfExp") => `(tactic| (k_here; (have z9 : Gate 1 := by assumption); clear z9; refine STOP.intro ?_))
local macro_rules | `(tactic| walk_at "call ref") => `(tactic| (k_here; (with_reducible show wpAny _ _ (call (Value.ref 105) _) _ _ _); refine STOP.intro ?_))
local macro_rules | `(tactic| walk_at "call ref") => `(tactic| (k_here; (with_reducible show wpAny _ _ (call (Value.ref 145) [Value.ref _, Value.ref _]) _ _ _); refine STOP.intro ?_))
local macro_rules | `(tactic| walk_at "exec Assign cons ListComp") => `(tactic| (k_here; refine STOP.intro ?_))
local macro_rules | `(tactic| walk_at "call ref") => `(tactic| (k_here; (with_reducible show wpAny _ _ (call (Value.ref 30) [Value.int _ _]) _ _ _); k_dflt (refine' gexp_ct ?F ?N ?X ?T ?hdp ?hu  ?_; (case F => k_asm); (case N => k_asm); (case X => k_asm); (case T => k_asm); (case hdp => walk_at "MY room"); (case hu => walk_at "MY units"); k_whole); intro t9 h9 tk9 F9 N9; (try k_sweep)))
local macro_rules | `(tactic| walk_at "isTrue BoolOp") => `(tactic| (k_here; (have z9 : Gate 3 := by assumption); clear z9; refine STOP.intro ?_))
local macro_rules | `(tactic| walk_at "call ref") => `(tactic| (k_here; (with_reducible show wpAny _ _ (call (Value.ref 119) _) _ _ _); refine STOP.intro ?_))
local macro_rules | `(tactic| walk_at "call ref") => `(tactic| (k_here; (with_reducible show wpAny _ _ (call (Value.ref 126) _) _ _ _); refine STOP.intro ?_))
local macro_rules | `(tactic| walk_at "call ref") => `(tactic| (k_here; (with_reducible show wpAny _ _ (call (Value.ref 131) _) _ _ _); refine STOP.intro ?_))
local macro_rules | `(tactic| walk_at "binaryOp Mult ref ref") => `(tactic| (k_here; (with_reducible show wpAny _ _ (binaryOp Operator.Mult (Value.ref _) (Value.ref _)) _ _ _); refine STOP.intro ?_))
local macro_rules | `(tactic| walk_at "binaryOp Mod ref ref") => `(tactic| (k_here; (with_reducible show wpAny _ _ (binaryOp Operator.Mod (Value.ref _) (Value.ref _)) _ _ _); refine STOP.intro ?_))
theorem law_tail2 {w : World} {s₁ : Shared} {mg mb : Str → Option Value} {mean : ExcName → Option Value} {Q : Flow → Shared → Prop} {fx : Addr} {cdx : Value}
    {oc' : Value} {od' : Option Addr} {nm qual : Str} {params : Arguments} {body rest : List Stmt} {scope : Scope} {dV kV doc pm cdv ct : Value} {an : Option Addr} {osl : Array (Option Value)}
    {os : List Int} {ws2 ws3 vsm pv lv vsd wsd : List Value} {D2 D3 xm dxm lm fa pa la xd dxd ld da : Addr} {kk2 kk3 kkm k1 k2 k3 pnm pnd kkd kd : Nat} {hsm hsd : Int} {ptm ptd tc tl : Tok} {od : Obj} {c : Nat} {low : Int} {m' : Str → Option Value} {h : Heap} {tk : Nat} {pl dg rs : List Int} {wsr : List Value} {rra : Addr} {kr : Nat}
    (ho : (hd.heap_39 w.params).lookup 150 = some ⟨oc', od', .func (fnOf nm qual params body scope dV kV doc pm an cdv ct), osl⟩) (hbody : body.drop 16 = rest) (KX : (hd.heap_39 w.params).In s₁.heap) (T : Top hd.view_39 (looseW hd.view_39 [Str.ofString "EXP_TABLE", Str.ofString "LOG_TABLE", Str.ofString "rsPoly_LUT"]) mean mg mb s₁.heap) (B : Below callerA s₁.heap [] s₁.heap)
    (hp1 : 1 ≤ os.length) (hp2 : os.length ≤ 8) (hO2 : IntsAre ws2 os) (him : IntsAre vsm pl) (hPl : IntsAre ws3 pl) (i1 : IntsAre pv POWT) (i2 : IntsAre lv LOGT) (hc1 : 1 ≤ c) (hc2 : c ≤ 10)
    (hoc : od.data = .cell (some (.ref xd))) (hV : IntsAre vsd dg) (hW : IntsAre wsd dg) (hdl : dg.length = c + 1) (hdo : Octs dg) (hpb : Bytes pl) (hph : pl.getD 0 0 ≠ 0) (hpn : 1 ≤ pl.length ∧ pl.length ≤ 17)
    (hrs : rs = modF 20 pl dg) (hro : RestOk pl dg rs) (hRs : IntsAre wsr rs)
    (hm1 : m' (Str.ofString "due") = some (.ref da)) (hm2 : m' (Str.ofString "count") = some (.int (c : Int) tc)) (hm3 : m' (Str.ofString "low") = some (.int low tl)) (hm4 : m' (Str.ofString "plain") = some (.ref D3)) (hm5 : m' (Str.ofString "octets") = some (.ref D2)) (hm6 : m' (Str.ofString "field") = some (.ref fa)) (hm7 : m' (Str.ofString "message") = some (.ref xm)) (hm8 : m' (Str.ofString "rest") = some (.ref rra))
    (F8 : Fr s₁.heap s₁.heap.objs.size h m') (N8 : News s₁.heap s₁.heap.objs.size h [(rra, W.listOf (List.toArray wsr) kr), (da, W.listOf (List.toArray wsd) kd), (xd, instObj 80 dxd), (dxd, dictOf [⟨hsd, .str (Str.ofString "num") ptd, .ref ld⟩] pnd), (ld, W.listOf (List.toArray vsd) kkd), (s₁.heap.objs.size + 1, od), (D3, W.listOf (List.toArray ws3) kk3), (xm, instObj 80 dxm), (dxm, dictOf [⟨hsm, .str (Str.ofString "num") ptm, .ref lm⟩] pnm), (lm, W.listOf (List.toArray vsm) kkm), (D2, W.listOf (List.toArray ws2) kk2), (fa, { cls := .type "tuple", data := .seq [Value.ref pa, Value.ref la].toArray k1 }), (pa, W.listOf (List.toArray pv) k2), (la, W.listOf (List.toArray lv) k3)])
    (ret : ∀ h' tk' m', Fr s₁.heap s₁.heap.objs.size h' m' → News s₁.heap s₁.heap.objs.size h' [] → Q (.ret (.bool true)) { s₁ with heap := h', toks := tk' }) :
    wpAny (model PySem.Challenge.rw_bm0035_01.prog w) (callerA.deeper (envOfC (Str.ofString "law") scope s₁.heap.objs.size fx cdx)) (execs rest (envOfC (Str.ofString "law") scope s₁.heap.objs.size fx cdx)) Q (fun _ _ => False) { s₁ with heap := h, toks := tk } := by
  have ho0 := ho
  revert KX; k_fill; intro KX
  k_dflt (refine' look_cases ho ?zh2 ?zh3)
  case zh2 => k_is
  intro hoo
  cases hoo
  subst hbody
  simp only [List.drop_succ_cons, List.drop_zero]
  obtain ⟨m₁₄, e2⟩ := map_know hm1
  subst e2
  obtain ⟨m₁₅, e3⟩ := map_know (x := Str.ofString "count") (m := m₁₄) hm2
  subst e3
  obtain ⟨m₁₆, e4⟩ := map_know (x := Str.ofString "low") (m := m₁₅) hm3
  subst e4
  obtain ⟨m₁₇, e5⟩ := map_know (x := Str.ofString "plain") (m := m₁₆) hm4
  subst e5
  obtain ⟨m₁₈, e6⟩ := map_know (x := Str.ofString "octets") (m := m₁₇) hm5
  subst e6
  obtain ⟨m₁₉, e7⟩ := map_know (x := Str.ofString "field") (m := m₁₈) hm6
  subst e7
  obtain ⟨m₂₀, e8⟩ := map_know (x := Str.ofString "message") (m := m₁₉) hm7
  subst e8
  obtain ⟨m₂₁, e9⟩ := map_know (x := Str.ofString "rest") (m := m₂₀) hm8
  subst e9
  clear hm8 hm1 hm2 hm3 hm4 hm5 hm6 hm7
  have hrl := hro.short
  have hrl1 := hro.some
  show wpAny _ _ _ _ _ _
  try k_fold
  k_steps
  -- the second divisor
  show wpAny _ _ (call (Value.ref 80) [.ref _, .int _ _]) _ _ _
  rename Fr _ _ _ _ => F5
  rename News _ _ _ _ => N5
  obtain ⟨sc, hsc⟩ : ∃ z, z = 1 + (os.getD (Int.toNat 0) 0).fmod 255 := ⟨_, rfl⟩
  have hs1 : Octs [sc] := by rw [hsc]; exact one_octs _
  have hs2 : 1 ≤ sc ∧ sc ≤ 255 := hs1 sc (List.mem_singleton.mpr rfl)
  rw [← hsc] at N5
  k_dflt (refine' poly_ct (vs := [Value.int sc _]) (ns := [sc]) B F5 N5 KX T rfl rfl (by walk_at "MY room") (by walk_at "MY units") (News.isList N5 (by k_mem)) (.cons _ _ .nil) (by show 0 < 1; decide) (by show 1 < _; decide) (by decide) (by decide) ?_)
  intro xq h24 tk24 hPq hSq F6 N6
  rw [show Int.toNat 0 = 0 from rfl, polyF_zero, octs_strip hs1] at hPq
  obtain ⟨dxq, lq, hsq, ptq, pnq, vsq, kkq, hiq, N7, offq, ne9, ne10, ne11⟩ := poly_news F5 N5 hSq hPq
  clear F5 N5 N6 hSq hPq offq
  try k_fold
  k_steps
  -- its product
  show wpAny _ _ (binaryOp Operator.Mult (Value.ref _) (Value.ref _)) _ _ _
  rename Fr _ _ _ _ => F5
  rename News _ _ _ _ => N5
  have hPd := poly_of N5 (x := xd) (by k_mem) (by k_mem) (by k_mem) hV
  have hPq := poly_of N5 (x := xq) (by k_mem) (by k_mem) (by k_mem) hiq
  k_dflt (refine' mul_op F5 KX hPq hPd ?_)
  k_dflt (refine' mul_ct B F5 N5 KX T rfl rfl (by walk_at "MY room") (by walk_at "MY units") hPq hPd hs1 hdo (by show 0 < 1; decide) (by omega) (by show 1 ≤ _; decide) (by omega) ?_)
  intro xz h25 tk25 hPz hSz F6 N6
  rw [many_row hdo (by omega) hs1 (by show 1 ≤ 1; decide), prod_one (by omega)] at hPz
  obtain ⟨dxz, lz, hsz, ptz, pnz, vsz, kkz, hiz, N7, offz, ne12, ne13, ne14⟩ := poly_news F5 N5 hSz hPz
  clear F5 N5 N6 hSz hPz hPd hPq offz
  dsimp only [PySem.W.CmpBack]
  k_steps
  -- the remainder by it
  show wpAny _ _ (binaryOp Operator.Mod (Value.ref _) (Value.ref _)) _ _ _
  rename Fr _ _ _ _ => F5
  rename News _ _ _ _ => N5
  have hPm := poly_of N5 (x := xm) (by k_mem) (by k_mem) (by k_mem) him
  have hPd := poly_of N5 (x := xz) (by k_mem) (by k_mem) (by k_mem) hiz
  k_dflt (refine' mod_op F5 KX hPm hPd ?_)
  k_dflt (refine' mod_ct (k := 20) B F5 N5 KX T rfl rfl (by walk_at "MY room") (by walk_at "MY units") hPm hPd ⟨hpb, .inr hph⟩ (scale_octs (by omega) hdo) (by omega) hpn.1 (by rw [List.length_map]; omega) (by rw [List.length_map]; omega) (by decide) ?_)
  intro xr2 h26 tk26 hPr hSr F6 N6
  dsimp only [PySem.W.CmpBack]
  rw [mod_scale (by omega) hdo, ← hrs] at hPr
  clear F5 N5 hPm hPd hSr
  k_steps
  show wpAny _ _ (call (Value.ref 131) [.ref _]) _ _ _
  rename Fr _ _ _ _ => F5
  rename News _ _ _ _ => N5
  k_dflt (refine' row_ct B F5 N5 KX T rfl rfl (by walk_at "MY room") (by walk_at "MY units") hPr (by omega) ?_)
  intro rrb wsb krb h27 tk27 hRb hfr hgr hSr F6 N6
  have N7 := news_more F5 N5 hSr hfr hgr
  clear F5 N5 N6 hSr hfr hgr hPr
  try k_fold
  k_steps
  w_top off
  -- left
  show wpAny _ _ (call (Value.ref 80) [.ref _, .int _ _]) _ _ _
  rename Fr _ _ _ _ => F5
  rename News _ _ _ _ => N5
  rename IntsAre _ (List.map _ os) => hUp
  replace hUp : IntsAre _ (upF os) := hUp
  have hul := up_len os
  obtain ⟨up, hup⟩ : ∃ l, l = upF os := ⟨_, rfl⟩
  rw [← hup] at hUp hul
  have huo : Octs up := by rw [hup]; exact up_octs os
  k_dflt (refine' poly_ct (ns := up) B F5 N5 KX T rfl rfl (by walk_at "MY room") (by walk_at "MY units") (by is_list) hUp (by omega) (by omega) (by decide) (by decide) ?_)
  intro xl h28 tk28 hPl2 hSl F6 N6
  rw [show Int.toNat 0 = 0 from rfl, polyF_zero, octs_strip huo] at hPl2
  obtain ⟨dxl, ll, hsl, ptl, pnl, vsl, kkl, hil, N7, offl, ne15, ne16, ne17⟩ := poly_news F5 N5 hSl hPl2
  clear F5 N5 N6 hSl hPl2 offl
  try k_fold
  k_steps
  -- many
  show wpAny _ _ (binaryOp Operator.Mult (Value.ref _) (Value.ref _)) _ _ _
  rename Fr _ _ _ _ => F5
  rename News _ _ _ _ => N5
  have hPd := poly_of N5 (x := xd) (by k_mem) (by k_mem) (by k_mem) hV
  have hPq := poly_of N5 (x := xl) (by k_mem) (by k_mem) (by k_mem) hil
  k_dflt (refine' mul_op F5 KX hPq hPd ?_)
  k_dflt (refine' mul_ct B F5 N5 KX T rfl rfl (by walk_at "MY room") (by walk_at "MY units") hPq hPd huo hdo (by omega) (by omega) (by omega) (by omega) ?_)
  intro xy h29 tk29 hPy hSy F6 N6
  rw [many_row hdo (by omega) huo (by omega)] at hPy
  obtain ⟨my, hmy⟩ : ∃ l, l = prodG timesF up dg := ⟨_, rfl⟩
  rw [← hmy] at hPy
  have hml : my.length + 1 = up.length + dg.length := by rw [hmy]; exact prod_len1 (by omega)
  obtain ⟨dxy, ly, hsy, pty, pny, vsy, kky, hiy, N7, offy, ne18, ne19, ne20⟩ := poly_news F5 N5 hSy hPy
  clear F5 N5 N6 hSy hPy hPd hPq offy
  dsimp only [PySem.W.CmpBack]
  k_steps
  w_top off
  -- the row of many
  show wpAny _ _ (call (Value.ref 131) [.ref _]) _ _ _
  rename Fr _ _ _ _ => F5
  rename News _ _ _ _ => N5
  have hPy := poly_of N5 (x := xy) (by k_mem) (by k_mem) (by k_mem) hiy
  k_dflt (refine' row_ct B F5 N5 KX T rfl rfl (by walk_at "MY room") (by walk_at "MY units") hPy (by omega) ?_)
  intro rrc wsc krc h30 tk30 hRc hfr hgr hSr F6 N6
  have N7 := news_more F5 N5 hSr hfr hgr
  clear F5 N5 N6 hSr hfr hgr hPy
  try k_fold
  k_steps
  -- the plain product
  show wpAny _ _ (call (Value.ref 119) [.ref _, .ref _, .ref _]) _ _ _
  rename Fr _ _ _ _ => F5
  rename News _ _ _ _ => N5
  rename IntsAre _ (List.map _ os) => hUp2
  replace hUp2 : IntsAre _ (upF os) := hUp2
  rw [← hup] at hUp2
  k_dflt (refine' prod_ct (ns := up) (ms := dg) B F5 N5 KX T rfl rfl (by walk_at "MY room") (by walk_at "MY units") (field_of N5 (by k_mem) (by k_mem) (by k_mem) i1 i2) (by is_list) hUp2 (News.isList N5 (by k_mem)) hW (octs_bytes huo) (octs_bytes hdo) (by omega) (by omega) (by omega) (by omega) ?_)
  intro rrd wse kre h31 tk31 hRd hSr hfr hgr F6 N6
  rw [← hmy] at hRd
  have N7 := news_more F5 N5 hSr hfr hgr
  clear F5 N5 N6 hSr hfr hgr
  try k_fold
  k_steps
  -- its remainder
  show wpAny _ _ (binaryOp Operator.Mod (Value.ref _) (Value.ref _)) _ _ _
  rename Fr _ _ _ _ => F5
  rename News _ _ _ _ => N5
  have hPy := poly_of N5 (x := xy) (by k_mem) (by k_mem) (by k_mem) hiy
  have hPd := poly_of N5 (x := xd) (by k_mem) (by k_mem) (by k_mem) hV
  have hmr : Row my dg := by rw [hmy]; exact many_isRow hdo (by omega) huo (by omega)
  k_dflt (refine' mod_op F5 KX hPy hPd ?_)
  k_dflt (refine' mod_ct (k := 20) B F5 N5 KX T rfl rfl (by walk_at "MY room") (by walk_at "MY units") hPy hPd hmr hdo (by omega) (by omega) (by omega) (by omega) (by decide) ?_)
  intro xr3 h32 tk32 hPr hSr F6 N6
  dsimp only [PySem.W.CmpBack]
  rw [hmy, mod_many hdo (by omega) huo (by omega) (by omega)] at hPr
  clear F5 N5 hPy hPd hSr
  k_steps
  show wpAny _ _ (call (Value.ref 131) [.ref _]) _ _ _
  rename Fr _ _ _ _ => F5
  rename News _ _ _ _ => N5
  k_dflt (refine' row_ct B F5 N5 KX T rfl rfl (by walk_at "MY room") (by walk_at "MY units") hPr (by decide) ?_)
  intro rre wsf krf h33 tk33 hRe hfr hgr hSr F6 N6
  have N7 := news_more F5 N5 hSr hfr hgr
  clear F5 N5 N6 hSr hfr hgr hPr
  try k_fold
  k_steps
  w_top off
  -- the last row of the message
  show wpAny _ _ (call (Value.ref 131) [.ref _]) _ _ _
  rename Fr _ _ _ _ => F5
  rename News _ _ _ _ => N5
  have hPm := poly_of N5 (x := xm) (by k_mem) (by k_mem) (by k_mem) him
  k_dflt (refine' row_ct B F5 N5 KX T rfl rfl (by walk_at "MY room") (by walk_at "MY units") hPm (by omega) ?_)
  intro rrf wsg krg h34 tk34 hRf hfr hgr hSr F6 N6
  have N7 := news_more F5 N5 hSr hfr hgr
  clear F5 N5 N6 hSr hfr hgr hPm
  try k_fold
  k_steps
  -- the last row of the divisor
  show wpAny _ _ (call (Value.ref 131) [.ref _]) _ _ _
  rename Fr _ _ _ _ => F5
  rename News _ _ _ _ => N5
  have hPd := poly_of N5 (x := xd) (by k_mem) (by k_mem) (by k_mem) hV
  k_dflt (refine' row_ct B F5 N5 KX T rfl rfl (by walk_at "MY room") (by walk_at "MY units") hPd (by omega) ?_)
  intro rrg wsh krh h35 tk35 hRg hfr hgr hSr F6 N6
  have N7 := news_more F5 N5 hSr hfr hgr
  clear F5 N5 N6 hSr hfr hgr hPd
  try k_fold
  k_steps
  rename Fr _ _ _ _ => F9
  exact ret _ _ _ F9 News.nil
  all_goals (exfalso; (rename _ ≠ _ => hbad); exact hbad rfl)

end
end Mine
end
section
open PySem PySem.W PyProof.Rows
local macro_rules | `(tactic| walk_at "MY none 0") => `(tactic| fail)
local macro_rules | `(tactic| walk_at "MY none 1") => `(tactic| fail)
local macro_rules | `(tactic| walk_at "MY none 2") => `(tactic| fail)
theorem Mine.resetT1 : (1 : Nat) ≤ 2 := by
  w_top off
  first | walk1 | decide
end
section
open PySem PySem.W PySem.Calls PySem.Spec PyProof.Rows
set_option maxRecDepth 100000
set_option maxHeartbeats 8000000
set_option pp.maxSteps 4000
set_option linter.unusedVariables false
namespace Mine
section
variable {w : World} {A₀ : Around} {base h₀ : Heap} {outer : List Env} {L : Addr} {m mg mb : Str → Option Value} {env : Env} {mean : ExcName → Option Value} {dp un : Nat} {gd : Option (List Code)} {s : Shared} {E Q : Value → Shared → Prop} {news : List (Addr × Obj)}

local macro_rules | `(tactic| walk_at "MY pos") => `(tactic| omega)
local macro_rules | `(tactic| walk_at "MY room") => `(tactic| ((try simp only [depth_under_make, depth_under_kw, depth_in1, depth_deeper]); (try dsimp only [Ar, Around.in1, Around.deeper]); first | omega | decide))
local macro_rules | `(tactic| walk_at "MY units") => `(tactic| ((try simp only [units_in1, units_deeper, units_under_make, Around.mark_units]); (try dsimp only [Ar, Around.in1, Around.deeper]); first | omega | decide))
local macro_rules | `(tactic| walk_at "MY idx") => `(tactic| first | omega | (simp only [POWT_len, LOGT_len, EXPT_len]; omega))
local macro_rules | `(tactic| walk_at "subscriptTail Subscript") => `(tactic| (k_here; (with_reducible show wpAny _ _ (subscriptTail _ _ (Value.ref _) (Value.int _ _)) _ _ _); k_dflt (refine' item_ints ?k1 ?k2 ?k3 ?k4 ?k5 ?_; (case k1 => is_list); (case k2 => assumption); (case k3 => walk_at "MY idx"); (case k4 => walk_at "MY idx"); (case k5 => walk_at "MY idx"); k_whole); intro t9))
local macro_rules | `(tactic| walk_at "subscriptTail Name") => `(tactic| (k_here; (with_reducible show wpAny _ _ (subscriptTail _ _ (Value.ref _) (Value.int _ _)) _ _ _); k_dflt (refine' item_ints ?k1 ?k2 ?k3 ?k4 ?k5 ?_; (case k1 => is_list); (case k2 => assumption); (case k3 => walk_at "MY idx"); (case k4 => walk_at "MY idx"); (case k5 => walk_at "MY idx"); k_whole); intro t9))

local macro_rules | `(tactic| walk_at "subscriptTail Name Slice ref ref") => `(tactic| (k_here; (with_reducible show wpAny _ _ (subscriptTail _ (PySem.Expr.Slice _ _ none _) (Value.ref _) (Value.ref _)) _ _ _); k_dflt (refine' kmk_slice_ints ?F ?N ?l ?p ?q ?i ?m ?c ?_ ?s ?t ?z; (case F => k_asm); (case N => k_asm); (case l => kmk_list); (case p => kmk_part); (case q => kmk_part); (case i => assumption); (case m => first | exact kmk_from (by assumption) (by omega) | exact kmk_run (by assumption) (by omega) (by omega) | exact kmk_from_neg (by assumption) (by omega)); (case c => kmk_len); (case s => with_unfolding_all rfl); (case t => kmk_pure); (case z => (refine kmk_sz (by assumption) ?_; (simp only [PySem.sizeLine_eq]; omega)))); intro D' ws' h' F' N' l1 hI' hC' hL'; (try k_lt l1); (try k_sweep)))
local macro_rules | `(tactic| k_ne) => `(tactic| (rename News _ _ _ _ => lN'; exact cell_ne lN' (by k_mem) (by k_mem) (by assumption) (fun _ e => by first | cases e | (dsimp only [instObj, dictOf] at e; cases e) | (simp [instObj, dictOf] at e))))
local macro_rules | `(tactic| walk_at "call ref") => `(tactic| (k_here; (with_reducible show wpAny _ _ (call (Value.ref 80) _) _ _ _); refine STOP.intro ?_))
local macro_rules | `(tactic| walk_at "exec For") => `(tactic| (k_here; refine STOP.intro ?_))
local macro_rules | `(tactic| walk_at "exec For Name Call cons nil") => `(tactic| (k_here; refine STOP.intro ?_))
local macro_rules | `(tactic| walk_at "pyIter ref") => `(tactic| (k_here; (with_reducible show wpAny _ _ (pyIter (Value.ref _)) (fun it s₂ => LoopAtV _ _ _ _ _ _ _ _ _ it s₂) _ _); refine STOP.intro ?_))
local macro_rules | `(tactic| walk_at "exec While") => `(tactic| (k_here; refine STOP.intro ?_))
local macro_rules | `(tactic| walk_at "exec If") => `(tactic| (k_here; (have z9 : Gate 2 := by assumption); clear z9; refine STOP.intro ?_))
local macro_rules | `(tactic| walk_at "exec Assign cons IfExp") => `(tactic| (k_here; (have z9 : Gate 1 := by assumption); clear z9; refine STOP.intro ?_))
local macro_rules | `(tactic| walk_at "call ref") => `(tactic| (k_here; (with_reducible show wpAny _ _ (call (Value.ref 105) _) _ _ _); refine STOP.intro ?_))
local macro_rules | `(tactic| walk_at "call ref") => `(tactic| (k_here; (with_reducible show wpAny _ _ (call (Value.ref 145) [Value.ref _, Value.ref _]) _ _ _); refine STOP.intro ?_))
local macro_rules | `(tactic| walk_at "exec Assign cons ListComp") => `(tactic| (k_here; refine STOP.intro ?_))
local macro_rules | `(tactic| walk_at "call ref") => `(tactic| (k_here; (with_reducible show wpAny _ _ (call (Value.ref 30) [Value.int _ _]) _ _ _); k_dflt (refine' gexp_ct ?F ?N ?X ?T ?hdp ?hu  ?_; (case F => k_asm); (case N => k_asm); (case X => k_asm); (case T => k_asm); (case hdp => walk_at "MY room"); (case hu => walk_at "MY units"); k_whole); intro t9 h9 tk9 F9 N9; (try k_sweep)))
local macro_rules | `(tactic| walk_at "isTrue BoolOp") => `(tactic| (k_here; (have z9 : Gate 3 := by assumption); clear z9; refine STOP.intro ?_))
local macro_rules | `(tactic| walk_at "call ref") => `(tactic| (k_here; (with_reducible show wpAny _ _ (call (Value.ref 119) _) _ _ _); refine STOP.intro ?_))
local macro_rules | `(tactic| walk_at "call ref") => `(tactic| (k_here; (with_reducible show wpAny _ _ (call (Value.ref 126) _) _ _ _); refine STOP.intro ?_))
local macro_rules | `(tactic| walk_at "call ref") => `(tactic| (k_here; (with_reducible show wpAny _ _ (call (Value.ref 131) _) _ _ _); refine STOP.intro ?_))
local macro_rules | `(tactic| walk_at "binaryOp Mult ref ref") => `(tactic| (k_here; (with_reducible show wpAny _ _ (binaryOp Operator.Mult (Value.ref _) (Value.ref _)) _ _ _); refine STOP.intro ?_))
local macro_rules | `(tactic| walk_at "binaryOp Mod ref ref") => `(tactic| (k_here; (with_reducible show wpAny _ _ (binaryOp Operator.Mod (Value.ref _) (Value.ref _)) _ _ _); refine STOP.intro ?_))
theorem law_tail1 {w : World} {s₁ : Shared} {mg mb : Str → Option Value} {mean : ExcName → Option Value} {Q : Flow → Shared → Prop} {fx : Addr} {cdx : Value}
    {oc' : Value} {od' : Option Addr} {nm qual : Str} {params : Arguments} {body rest : List Stmt} {scope : Scope} {dV kV doc pm cdv ct : Value} {an : Option Addr} {osl : Array (Option Value)}
    {os : List Int} {z0 : Int} {ws2 ws3 vsm pv lv vsd wsd : List Value} {D2 D3 xm dxm lm fa pa la xd dxd ld da : Addr} {kk2 kk3 kkm k1 k2 k3 pnm pnd kkd kd : Nat} {hsm hsd : Int} {ptm ptd tc tl : Tok} {od : Obj} {c : Nat} {low : Int} {m' : Str → Option Value} {h : Heap} {tk : Nat}
    (ho : (hd.heap_39 w.params).lookup 150 = some ⟨oc', od', .func (fnOf nm qual params body scope dV kV doc pm an cdv ct), osl⟩) (hbody : body.drop 12 = rest) (KX : (hd.heap_39 w.params).In s₁.heap) (T : Top hd.view_39 (looseW hd.view_39 [Str.ofString "EXP_TABLE", Str.ofString "LOG_TABLE", Str.ofString "rsPoly_LUT"]) mean mg mb s₁.heap) (B : Below callerA s₁.heap [] s₁.heap)
    (hOk : OctOk os) (q1 : 0 ≤ z0) (q2 : z0 < 10) (hO2 : IntsAre ws2 os) (him : IntsAre vsm (polyF os z0.toNat)) (hPl : IntsAre ws3 (polyF os z0.toNat)) (i1 : IntsAre pv POWT) (i2 : IntsAre lv LOGT) (hc1 : 1 ≤ c) (hc2 : c ≤ 10)
    (hoc : od.data = .cell (some (.ref xd))) (hV : IntsAre vsd (dgF low c)) (hW : IntsAre wsd (dgF low c))
    (hm1 : m' (Str.ofString "due") = some (.ref da)) (hm2 : m' (Str.ofString "count") = some (.int (c : Int) tc)) (hm3 : m' (Str.ofString "low") = some (.int low tl)) (hm4 : m' (Str.ofString "plain") = some (.ref D3)) (hm5 : m' (Str.ofString "octets") = some (.ref D2)) (hm6 : m' (Str.ofString "field") = some (.ref fa)) (hm7 : m' (Str.ofString "message") = some (.ref xm))
    (F8 : Fr s₁.heap s₁.heap.objs.size h m') (N8 : News s₁.heap s₁.heap.objs.size h [(da, W.listOf (List.toArray wsd) kd), (xd, instObj 80 dxd), (dxd, dictOf [⟨hsd, .str (Str.ofString "num") ptd, .ref ld⟩] pnd), (ld, W.listOf (List.toArray vsd) kkd), (s₁.heap.objs.size + 1, od), (D3, W.listOf (List.toArray ws3) kk3), (xm, instObj 80 dxm), (dxm, dictOf [⟨hsm, .str (Str.ofString "num") ptm, .ref lm⟩] pnm), (lm, W.listOf (List.toArray vsm) kkm), (D2, W.listOf (List.toArray ws2) kk2), (fa, { cls := .type "tuple", data := .seq [Value.ref pa, Value.ref la].toArray k1 }), (pa, W.listOf (List.toArray pv) k2), (la, W.listOf (List.toArray lv) k3)])
    (ret : ∀ h' tk' m', Fr s₁.heap s₁.heap.objs.size h' m' → News s₁.heap s₁.heap.objs.size h' [] → Q (.ret (.bool true)) { s₁ with heap := h', toks := tk' }) :
    wpAny (model PySem.Challenge.rw_bm0035_01.prog w) (callerA.deeper (envOfC (Str.ofString "law") scope s₁.heap.objs.size fx cdx)) (execs rest (envOfC (Str.ofString "law") scope s₁.heap.objs.size fx cdx)) Q (fun _ _ => False) { s₁ with heap := h, toks := tk } := by
  have ho0 := ho
  revert KX; k_fill; intro KX
  k_dflt (refine' look_cases ho ?zh2 ?zh3)
  case zh2 => k_is
  intro hoo
  cases hoo
  subst hbody
  simp only [List.drop_succ_cons, List.drop_zero]
  have hp1 := hOk.pos
  have hp2 := hOk.short
  obtain ⟨m₁₄, e2⟩ := map_know hm1
  subst e2
  obtain ⟨m₁₅, e3⟩ := map_know (x := Str.ofString "count") (m := m₁₄) hm2
  subst e3
  obtain ⟨m₁₆, e4⟩ := map_know (x := Str.ofString "low") (m := m₁₅) hm3
  subst e4
  obtain ⟨m₁₇, e5⟩ := map_know (x := Str.ofString "plain") (m := m₁₆) hm4
  subst e5
  obtain ⟨m₁₈, e6⟩ := map_know (x := Str.ofString "octets") (m := m₁₇) hm5
  subst e6
  obtain ⟨m₁₉, e7⟩ := map_know (x := Str.ofString "field") (m := m₁₈) hm6
  subst e7
  obtain ⟨m₂₀, e8⟩ := map_know (x := Str.ofString "message") (m := m₁₉) hm7
  subst e8
  clear hm1 hm2 hm3 hm4 hm5 hm6 hm7
  obtain ⟨dg, hdg⟩ : ∃ l, l = dgF low c := ⟨_, rfl⟩
  rw [← hdg] at hV hW
  have hdl : dg.length = c + 1 := by rw [hdg, dg_len]
  have hdo : Octs dg := by rw [hdg]; exact dg_octs hc2
  obtain ⟨pl, hpl⟩ : ∃ l, l = polyF os z0.toNat := ⟨_, rfl⟩
  have hpb : Bytes pl := by rw [hpl]; exact plain_bytes hOk.bytes _
  have hph : pl.getD 0 0 ≠ 0 := by rw [hpl]; exact plain_head hOk.some _
  have hpn : 1 ≤ pl.length ∧ pl.length ≤ 17 := by
    have a1 := plain_len hOk.pos z0.toNat
    rw [hpl]; omega
  rw [← hpl] at hPl him
  have G2 := gate 2
  show wpAny _ _ _ _ _ _
  try k_fold
  k_steps
  clear G2
  show wpAny _ _ _ _ _ _
  rename Fr _ _ _ _ => F7
  rename News _ _ _ _ => N7
  refine wpAny_mono (Q := Done fun s' => ∃ h' tk m', s' = { s₁ with heap := h', toks := tk } ∧ Fr s₁.heap s₁.heap.objs.size h' m' ∧ (m' (Str.ofString "due") = some (.ref da) ∧ m' (Str.ofString "count") = some (.int (c : Int) tc) ∧ m' (Str.ofString "low") = some (.int low tl) ∧ m' (Str.ofString "plain") = some (.ref D3) ∧ m' (Str.ofString "octets") = some (.ref D2) ∧ m' (Str.ofString "field") = some (.ref fa) ∧ m' (Str.ofString "message") = some (.ref xm)) ∧ News s₁.heap s₁.heap.objs.size h' [(da, W.listOf (List.toArray wsd) kd), (xd, instObj 80 dxd), (dxd, dictOf [⟨hsd, .str (Str.ofString "num") ptd, .ref ld⟩] pnd), (ld, W.listOf (List.toArray vsd) kkd), (s₁.heap.objs.size + 1, od), (D3, W.listOf (List.toArray ws3) kk3), (xm, instObj 80 dxm), (dxm, dictOf [⟨hsm, .str (Str.ofString "num") ptm, .ref lm⟩] pnm), (lm, W.listOf (List.toArray vsm) kkm), (D2, W.listOf (List.toArray ws2) kk2), (fa, { cls := .type "tuple", data := .seq [Value.ref pa, Value.ref la].toArray k1 }), (pa, W.listOf (List.toArray pv) k2), (la, W.listOf (List.toArray lv) k3)]) ?_ ?_ (fun _ _ e => e)
  · k_steps
    -- the divisor's row
    show wpAny _ _ (call (Value.ref 131) [.ref _]) _ _ _
    rename Fr _ _ _ _ => F5
    rename News _ _ _ _ => N5
    k_dflt (refine' row_ct B F5 N5 KX T rfl rfl (by walk_at "MY room") (by walk_at "MY units") (poly_of N5 (x := xd) (by k_mem) (by k_mem) (by k_mem) hV) (by omega) ?_)
    intro ra wsr kr h14 tk14 hWr hfr hgr hSr F6 N6
    have N7 := news_more F5 N5 hSr hfr hgr
    clear F5 N5 N6 hSr hfr hgr
    try k_fold
    k_steps
    · exfalso
      rename (dg.length : Int) ≠ _ => hbad
      exact hbad (by omega)
    · rename Fr _ _ _ _ => F9
      rename News _ _ _ _ => N9
      exact Done.mk ⟨_, _, _, rfl, F9, ⟨rfl, rfl, rfl, rfl, rfl, rfl, rfl⟩, by intro p hp; simp only [List.mem_cons, List.not_mem_nil, or_false] at hp; rcases hp with rfl | rfl | rfl | rfl | rfl | rfl | rfl | rfl | rfl | rfl | rfl | rfl | rfl <;> exact N9 _ (by k_mem)⟩
    · exfalso
      rename ¬ (List.map _ _ = dg) => hbad
      exact hbad (row_back hdl)
  clear F7 N7
  rintro f s' ⟨rfl, h15, tk15, m₁₃, rfl, F8, ⟨hm1, hm2, hm3, hm4, hm5, hm6, hm7⟩, N8⟩
  obtain ⟨m₁₄, e2⟩ := map_know hm1
  subst e2
  obtain ⟨m₁₅, e3⟩ := map_know (x := Str.ofString "count") (m := m₁₄) hm2
  subst e3
  obtain ⟨m₁₆, e4⟩ := map_know (x := Str.ofString "low") (m := m₁₅) hm3
  subst e4
  obtain ⟨m₁₇, e5⟩ := map_know (x := Str.ofString "plain") (m := m₁₆) hm4
  subst e5
  obtain ⟨m₁₈, e6⟩ := map_know (x := Str.ofString "octets") (m := m₁₇) hm5
  subst e6
  obtain ⟨m₁₉, e7⟩ := map_know (x := Str.ofString "field") (m := m₁₈) hm6
  subst e7
  obtain ⟨m₂₀, e8⟩ := map_know (x := Str.ofString "message") (m := m₁₉) hm7
  subst e8
  clear hm1 hm2 hm3 hm4 hm5 hm6 hm7
  w_top off
  have G2 := gate 2
  show wpAny _ _ _ _ _ _
  try k_fold
  k_steps
  clear G2
  show wpAny _ _ _ _ _ _
  rename Fr _ _ _ _ => F7
  rename News _ _ _ _ => N7
  refine wpAny_mono (Q := Done fun s' => ∃ h' tk m', s' = { s₁ with heap := h', toks := tk } ∧ Fr s₁.heap s₁.heap.objs.size h' m' ∧ (m' (Str.ofString "due") = some (.ref da) ∧ m' (Str.ofString "count") = some (.int (c : Int) tc) ∧ m' (Str.ofString "low") = some (.int low tl) ∧ m' (Str.ofString "plain") = some (.ref D3) ∧ m' (Str.ofString "octets") = some (.ref D2) ∧ m' (Str.ofString "field") = some (.ref fa) ∧ m' (Str.ofString "message") = some (.ref xm)) ∧ News s₁.heap s₁.heap.objs.size h' [(da, W.listOf (List.toArray wsd) kd), (xd, instObj 80 dxd), (dxd, dictOf [⟨hsd, .str (Str.ofString "num") ptd, .ref ld⟩] pnd), (ld, W.listOf (List.toArray vsd) kkd), (s₁.heap.objs.size + 1, od), (D3, W.listOf (List.toArray ws3) kk3), (xm, instObj 80 dxm), (dxm, dictOf [⟨hsm, .str (Str.ofString "num") ptm, .ref lm⟩] pnm), (lm, W.listOf (List.toArray vsm) kkm), (D2, W.listOf (List.toArray ws2) kk2), (fa, { cls := .type "tuple", data := .seq [Value.ref pa, Value.ref la].toArray k1 }), (pa, W.listOf (List.toArray pv) k2), (la, W.listOf (List.toArray lv) k3)]) ?_ ?_ (fun _ _ e => e)
  · k_steps
    · rename (List.any _ _) = true => hin
      rename Fr _ _ _ _ => F9
      rename low.fmod 255 = 0 => hl0
      rw [fmod255] at hl0
      have hcc : c = 7 ∨ c = 10 := by simp at hin; omega
      obtain ⟨_, es, n', hlk, hkeys, ⟨a7, l7, n7, f7, g7, i7⟩, ⟨a10, l10, n10, f10, g10, i10⟩⟩ := look_lut w.params
      rcases hcc with e | e
      · have edg : dg = [1, 127, 122, 154, 164, 11, 68, 117] := by rw [hdg, e, dg_round hl0, dg_7]
        refine topMapInt (k := (c : Int)) F9 KX hlk hkeys (by rw [e]; exact f7) ?_
        have hLt := lstK (KX.keeps F9.keep) g7
        rw [← edg] at i7
        k_steps
        rename Fr _ _ _ _ => F9
        rename News _ _ _ _ => N9
        exact Done.mk ⟨_, _, _, rfl, F9, ⟨rfl, rfl, rfl, rfl, rfl, rfl, rfl⟩, by intro p hp; simp only [List.mem_cons, List.not_mem_nil, or_false] at hp; rcases hp with rfl | rfl | rfl | rfl | rfl | rfl | rfl | rfl | rfl | rfl | rfl | rfl | rfl <;> exact N9 _ (by k_mem)⟩
      · have edg : dg = [1, 216, 194, 159, 111, 199, 94, 95, 113, 157, 193] := by rw [hdg, e, dg_round hl0, dg_10]
        refine topMapInt (k := (c : Int)) F9 KX hlk hkeys (by rw [e]; exact f10) ?_
        have hLt := lstK (KX.keeps F9.keep) g10
        rw [← edg] at i10
        k_steps
        rename Fr _ _ _ _ => F9
        rename News _ _ _ _ => N9
        exact Done.mk ⟨_, _, _, rfl, F9, ⟨rfl, rfl, rfl, rfl, rfl, rfl, rfl⟩, by intro p hp; simp only [List.mem_cons, List.not_mem_nil, or_false] at hp; rcases hp with rfl | rfl | rfl | rfl | rfl | rfl | rfl | rfl | rfl | rfl | rfl | rfl | rfl <;> exact N9 _ (by k_mem)⟩
    · rename Fr _ _ _ _ => F9
      rename News _ _ _ _ => N9
      exact Done.mk ⟨_, _, _, rfl, F9, ⟨rfl, rfl, rfl, rfl, rfl, rfl, rfl⟩, by intro p hp; simp only [List.mem_cons, List.not_mem_nil, or_false] at hp; rcases hp with rfl | rfl | rfl | rfl | rfl | rfl | rfl | rfl | rfl | rfl | rfl | rfl | rfl <;> exact N9 _ (by k_mem)⟩
    · rename Fr _ _ _ _ => F9
      rename News _ _ _ _ => N9
      exact Done.mk ⟨_, _, _, rfl, F9, ⟨rfl, rfl, rfl, rfl, rfl, rfl, rfl⟩, by intro p hp; simp only [List.mem_cons, List.not_mem_nil, or_false] at hp; rcases hp with rfl | rfl | rfl | rfl | rfl | rfl | rfl | rfl | rfl | rfl | rfl | rfl | rfl <;> exact N9 _ (by k_mem)⟩
  clear F7 N7
  rintro f s' ⟨rfl, h16, tk16, m₁₃, rfl, F8, ⟨hm1, hm2, hm3, hm4, hm5, hm6, hm7⟩, N8⟩
  obtain ⟨m₁₄, e2⟩ := map_know hm1
  subst e2
  obtain ⟨m₁₅, e3⟩ := map_know (x := Str.ofString "count") (m := m₁₄) hm2
  subst e3
  obtain ⟨m₁₆, e4⟩ := map_know (x := Str.ofString "low") (m := m₁₅) hm3
  subst e4
  obtain ⟨m₁₇, e5⟩ := map_know (x := Str.ofString "plain") (m := m₁₆) hm4
  subst e5
  obtain ⟨m₁₈, e6⟩ := map_know (x := Str.ofString "octets") (m := m₁₇) hm5
  subst e6
  obtain ⟨m₁₉, e7⟩ := map_know (x := Str.ofString "field") (m := m₁₈) hm6
  subst e7
  obtain ⟨m₂₀, e8⟩ := map_know (x := Str.ofString "message") (m := m₁₉) hm7
  subst e8
  clear hm1 hm2 hm3 hm4 hm5 hm6 hm7
  w_top off
  have G2 := gate 2
  show wpAny _ _ _ _ _ _
  try k_fold
  k_steps
  -- the remainder
  show wpAny _ _ (binaryOp Operator.Mod (Value.ref _) (Value.ref _)) _ _ _
  rename Fr _ _ _ _ => F5
  rename News _ _ _ _ => N5
  have hPm := poly_of N5 (x := xm) (by k_mem) (by k_mem) (by k_mem) him
  have hPd := poly_of N5 (x := xd) (by k_mem) (by k_mem) (by k_mem) hV
  k_dflt (refine' mod_op F5 KX hPm hPd ?_)
  k_dflt (refine' mod_ct (k := 20) B F5 N5 KX T rfl rfl (by walk_at "MY room") (by walk_at "MY units") hPm hPd ⟨hpb, .inr hph⟩ hdo (by omega) hpn.1 (by omega) (by omega) (by decide) ?_)
  intro xr1 h17 tk17 hPr hSr F6 N6
  dsimp only [PySem.W.CmpBack]
  obtain ⟨rs, hrs⟩ : ∃ l, l = modF 20 pl dg := ⟨_, rfl⟩
  rw [← hrs] at hPr
  have hro : RestOk pl dg rs := by rw [hrs]; exact mod_rest hdo (by omega) 20 pl ⟨hpb, .inr hph⟩ (by omega) hpn.1 (.inr hph)
  clear F5 N5 hPm hPd hSr
  k_steps
  -- its row
  show wpAny _ _ (call (Value.ref 131) [.ref _]) _ _ _
  rename Fr _ _ _ _ => F5
  rename News _ _ _ _ => N5
  have hrl := hro.short
  have hrl1 := hro.some
  k_dflt (refine' row_ct B F5 N5 KX T rfl rfl (by walk_at "MY room") (by walk_at "MY units") hPr (by omega) ?_)
  intro rra wsr kr h18 tk18 hRs hfr hgr hSr F6 N6
  have N7 := news_more F5 N5 hSr hfr hgr
  clear F5 N5 N6 hSr hfr hgr hPr
  try k_fold
  k_steps
  clear G2
  w_top off
  show wpAny _ _ _ _ _ _
  rename Fr _ _ _ _ => F7
  rename News _ _ _ _ => N7
  refine wpAny_mono (Q := Done fun s' => ∃ h' tk m', s' = { s₁ with heap := h', toks := tk } ∧ Fr s₁.heap s₁.heap.objs.size h' m' ∧ (m' (Str.ofString "due") = some (.ref da) ∧ m' (Str.ofString "count") = some (.int (c : Int) tc) ∧ m' (Str.ofString "low") = some (.int low tl) ∧ m' (Str.ofString "plain") = some (.ref D3) ∧ m' (Str.ofString "octets") = some (.ref D2) ∧ m' (Str.ofString "field") = some (.ref fa) ∧ m' (Str.ofString "message") = some (.ref xm) ∧ m' (Str.ofString "rest") = some (.ref rra)) ∧ News s₁.heap s₁.heap.objs.size h' [(rra, W.listOf (List.toArray wsr) kr), (da, W.listOf (List.toArray wsd) kd), (xd, instObj 80 dxd), (dxd, dictOf [⟨hsd, .str (Str.ofString "num") ptd, .ref ld⟩] pnd), (ld, W.listOf (List.toArray vsd) kkd), (s₁.heap.objs.size + 1, od), (D3, W.listOf (List.toArray ws3) kk3), (xm, instObj 80 dxm), (dxm, dictOf [⟨hsm, .str (Str.ofString "num") ptm, .ref lm⟩] pnm), (lm, W.listOf (List.toArray vsm) kkm), (D2, W.listOf (List.toArray ws2) kk2), (fa, { cls := .type "tuple", data := .seq [Value.ref pa, Value.ref la].toArray k1 }), (pa, W.listOf (List.toArray pv) k2), (la, W.listOf (List.toArray lv) k3)]) ?_ ?_ (fun _ _ e => e)
  · have G3 := gate 3
    k_steps
    · rename Fr _ _ _ _ => F9
      rename News _ _ _ _ => N9
      exact Done.mk ⟨_, _, _, rfl, F9, ⟨rfl, rfl, rfl, rfl, rfl, rfl, rfl, rfl⟩, by intro p hp; simp only [List.mem_cons, List.not_mem_nil, or_false] at hp; rcases hp with rfl | rfl | rfl | rfl | rfl | rfl | rfl | rfl | rfl | rfl | rfl | rfl | rfl | rfl <;> exact N9 _ (by k_mem)⟩
    · exfalso
      rename ¬ (rs = pl) => hbad
      rename (pl.length : Int) ≤ _ => hle
      exact hbad (by rw [hrs]; exact mod_less (by omega) 20)
    clear G3
    show wpAny _ _ _ _ _ _
    rename ¬ ((pl.length : Int) ≤ _) => hgt
    rename Fr _ _ _ _ => F7
    rename News _ _ _ _ => N7
    have hrb := hro.bytes
    refine wpAny_mono (Q := DoneB fun s' => ∃ h' tk m', s' = { s₁ with heap := h', toks := tk } ∧ Fr s₁.heap s₁.heap.objs.size h' m' ∧ (m' (Str.ofString "due") = some (.ref da) ∧ m' (Str.ofString "count") = some (.int (c : Int) tc) ∧ m' (Str.ofString "low") = some (.int low tl) ∧ m' (Str.ofString "plain") = some (.ref D3) ∧ m' (Str.ofString "octets") = some (.ref D2) ∧ m' (Str.ofString "field") = some (.ref fa) ∧ m' (Str.ofString "message") = some (.ref xm) ∧ m' (Str.ofString "rest") = some (.ref rra)) ∧ News s₁.heap s₁.heap.objs.size h' [(rra, W.listOf (List.toArray wsr) kr), (da, W.listOf (List.toArray wsd) kd), (xd, instObj 80 dxd), (dxd, dictOf [⟨hsd, .str (Str.ofString "num") ptd, .ref ld⟩] pnd), (ld, W.listOf (List.toArray vsd) kkd), (s₁.heap.objs.size + 1, od), (D3, W.listOf (List.toArray ws3) kk3), (xm, instObj 80 dxm), (dxm, dictOf [⟨hsm, .str (Str.ofString "num") ptm, .ref lm⟩] pnm), (lm, W.listOf (List.toArray vsm) kkm), (D2, W.listOf (List.toArray ws2) kk2), (fa, { cls := .type "tuple", data := .seq [Value.ref pa, Value.ref la].toArray k1 }), (pa, W.listOf (List.toArray pv) k2), (la, W.listOf (List.toArray lv) k3)]) ?_ ?_ (fun _ _ e => e)
    · k_steps
      · rename Fr _ _ _ _ => F9
        rename News _ _ _ _ => N9
        exact DoneB.mk ⟨_, _, _, rfl, F9, ⟨rfl, rfl, rfl, rfl, rfl, rfl, rfl, rfl⟩, by intro p hp; simp only [List.mem_cons, List.not_mem_nil, or_false] at hp; rcases hp with rfl | rfl | rfl | rfl | rfl | rfl | rfl | rfl | rfl | rfl | rfl | rfl | rfl | rfl <;> exact N9 _ (by k_mem)⟩
      · exfalso
        rename ¬ (rs = [0]) => hbad
        rename rs.getD _ 0 = 0 => h0
        exact hbad (rest_zero hro.some hro.head h0)
      · rename Fr _ _ _ _ => F9
        rename News _ _ _ _ => N9
        exact DoneB.mk ⟨_, _, _, rfl, F9, ⟨rfl, rfl, rfl, rfl, rfl, rfl, rfl, rfl⟩, by intro p hp; simp only [List.mem_cons, List.not_mem_nil, or_false] at hp; rcases hp with rfl | rfl | rfl | rfl | rfl | rfl | rfl | rfl | rfl | rfl | rfl | rfl | rfl | rfl <;> exact N9 _ (by k_mem)⟩
    clear F7 N7
    rintro b s' ⟨rfl, h20, tk20, m₁₃, rfl, F8, ⟨hm1, hm2, hm3, hm4, hm5, hm6, hm7, hm8⟩, N8⟩
    obtain ⟨m₁₄, e2⟩ := map_know hm1
    subst e2
    obtain ⟨m₁₅, e3⟩ := map_know (x := Str.ofString "count") (m := m₁₄) hm2
    subst e3
    obtain ⟨m₁₆, e4⟩ := map_know (x := Str.ofString "low") (m := m₁₅) hm3
    subst e4
    obtain ⟨m₁₇, e5⟩ := map_know (x := Str.ofString "plain") (m := m₁₆) hm4
    subst e5
    obtain ⟨m₁₈, e6⟩ := map_know (x := Str.ofString "octets") (m := m₁₇) hm5
    subst e6
    obtain ⟨m₁₉, e7⟩ := map_know (x := Str.ofString "field") (m := m₁₈) hm6
    subst e7
    obtain ⟨m₂₀, e8⟩ := map_know (x := Str.ofString "message") (m := m₁₉) hm7
    subst e8
    obtain ⟨m₂₁, e9⟩ := map_know (x := Str.ofString "rest") (m := m₂₀) hm8
    subst e9
    clear hm8 hm1 hm2 hm3 hm4 hm5 hm6 hm7
    try k_fold
    k_steps
    -- the roots
    show wpAny _ _ _ _ _ _
    rename Fr _ _ _ _ => F2
    rename News _ _ _ _ => N2
    (with_unfolding_all refine' For_invVF F2 ?zk1 ?zk2 ?_; (case zk1 => exact rfl); (case zk2 => exact rfl); k_whole)
    k_steps
    rename Fr _ _ _ _ => F3
    rename News _ _ _ _ => N3
    rename IsRange _ _ _ _ _ _ _ _ => R1
    refine range_grow (n := c) (fun i m' nx => nx = [(rra, W.listOf (List.toArray wsr) kr), (da, W.listOf (List.toArray wsd) kd), (xd, instObj 80 dxd), (dxd, dictOf [⟨hsd, .str (Str.ofString "num") ptd, .ref ld⟩] pnd), (ld, W.listOf (List.toArray vsd) kkd), (s₁.heap.objs.size + 1, od), (D3, W.listOf (List.toArray ws3) kk3), (xm, instObj 80 dxm), (dxm, dictOf [⟨hsm, .str (Str.ofString "num") ptm, .ref lm⟩] pnm), (lm, W.listOf (List.toArray vsm) kkm), (D2, W.listOf (List.toArray ws2) kk2), (fa, { cls := .type "tuple", data := .seq [Value.ref pa, Value.ref la].toArray k1 }), (pa, W.listOf (List.toArray pv) k2), (la, W.listOf (List.toArray lv) k3)] ∧ m' (Str.ofString "due") = some (.ref da) ∧ m' (Str.ofString "count") = some (.int (c : Int) tc) ∧ m' (Str.ofString "low") = some (.int low tl) ∧ m' (Str.ofString "plain") = some (.ref D3) ∧ m' (Str.ofString "octets") = some (.ref D2) ∧ m' (Str.ofString "field") = some (.ref fa) ∧ m' (Str.ofString "message") = some (.ref xm) ∧ m' (Str.ofString "rest") = some (.ref rra)) rfl R1 rfl (by omega) F3 (fun p hp => ?_) ⟨rfl, rfl, rfl, rfl, rfl, rfl, rfl, rfl, rfl⟩ ?_ ?_
    · simp only [List.mem_cons, List.not_mem_nil, or_false] at hp
      rcases hp with rfl | rfl | rfl | rfl | rfl | rfl | rfl | rfl | rfl | rfl | rfl | rfl | rfl | rfl <;> exact N3 _ (by k_mem)
    · rintro I oI i ti m₁₃ nx h tk hi hne ⟨rfl, hm1, hm2, hm3, hm4, hm5, hm6, hm7, hm8⟩ F4 N4
      clear F3 N3 R1
      replace F4 : Fr s₁.heap s₁.heap.objs.size h _ := F4
      replace N4 : News s₁.heap s₁.heap.objs.size h _ := N4
      obtain ⟨m₁₄, e2⟩ := map_know hm1
      subst e2
      obtain ⟨m₁₅, e3⟩ := map_know (x := Str.ofString "count") (m := m₁₄) hm2
      subst e3
      obtain ⟨m₁₆, e4⟩ := map_know (x := Str.ofString "low") (m := m₁₅) hm3
      subst e4
      obtain ⟨m₁₇, e5⟩ := map_know (x := Str.ofString "plain") (m := m₁₆) hm4
      subst e5
      obtain ⟨m₁₈, e6⟩ := map_know (x := Str.ofString "octets") (m := m₁₇) hm5
      subst e6
      obtain ⟨m₁₉, e7⟩ := map_know (x := Str.ofString "field") (m := m₁₈) hm6
      subst e7
      obtain ⟨m₂₀, e8⟩ := map_know (x := Str.ofString "message") (m := m₁₉) hm7
      subst e8
      obtain ⟨m₂₁, e9⟩ := map_know (x := Str.ofString "rest") (m := m₂₀) hm8
      subst e9
      clear hm8 hm1 hm2 hm3 hm4 hm5 hm6 hm7
      have q3 := Int.fmod_nonneg_of_pos (low + (i : Int)) (show (0:Int) < 255 by decide)
      have q4 := Int.fmod_lt_of_pos (low + (i : Int)) (show (0:Int) < 255 by decide)
      show wpAny _ _ _ _ _ _
      try k_fold
      k_steps
      -- the worths
      show wpAny _ _ (call (Value.ref 126) [.ref _, .ref _, .int _ _]) _ _ _
      rename Fr _ _ _ _ => F5
      rename News _ _ _ _ => N5
      rw [powF] at F5 ⊢
      obtain ⟨e0, e1⟩ := expF_by (low + (i : Int))
      k_dflt (refine' worth_ct B F5 N5 KX T rfl rfl (by walk_at "MY room") (by walk_at "MY units") (field_of N5 (by k_mem) (by k_mem) (by k_mem) i1 i2) (News.isList N5 (by k_mem)) hRs hrb e0 e1 ?_)
      intro w1 t21 h21 tk21 hw1 F6 N6
      clear F5 N5
      try k_fold
      k_steps
      show wpAny _ _ (call (Value.ref 126) [.ref _, .ref _, .int _ _]) _ _ _
      rename Fr _ _ _ _ => F5
      rename News _ _ _ _ => N5
      k_dflt (refine' worth_ct B F5 N5 KX T rfl rfl (by walk_at "MY room") (by walk_at "MY units") (field_of N5 (by k_mem) (by k_mem) (by k_mem) i1 i2) (News.isList N5 (by k_mem)) hPl hpb e0 e1 ?_)
      intro w2 t22 h22 tk22 hw2 F6 N6
      clear F5 N5
      have hww : w1 = w2 := by
        rw [hw1, hw2]
        refine hro.worth _ ⟨e0, e1⟩ ?_
        rw [hdg]
        exact dg_worth low c i hi
      clear hw1 hw2
      subst hww
      try k_fold
      k_steps
      · exfalso
        rename _ ≠ _ => hbad
        exact hbad rfl
      rename Fr _ _ _ _ => F8
      rename News _ _ _ _ => N9
      refine ⟨_, _, _, [(rra, W.listOf (List.toArray wsr) kr), (da, W.listOf (List.toArray wsd) kd), (xd, instObj 80 dxd), (dxd, dictOf [⟨hsd, .str (Str.ofString "num") ptd, .ref ld⟩] pnd), (ld, W.listOf (List.toArray vsd) kkd), (s₁.heap.objs.size + 1, od), (D3, W.listOf (List.toArray ws3) kk3), (xm, instObj 80 dxm), (dxm, dictOf [⟨hsm, .str (Str.ofString "num") ptm, .ref lm⟩] pnm), (lm, W.listOf (List.toArray vsm) kkm), (D2, W.listOf (List.toArray ws2) kk2), (fa, { cls := .type "tuple", data := .seq [Value.ref pa, Value.ref la].toArray k1 }), (pa, W.listOf (List.toArray pv) k2), (la, W.listOf (List.toArray lv) k3)], rfl, F8, ?_, hne, rfl, rfl, rfl, rfl, rfl, rfl, rfl, rfl, rfl⟩
      intro p hp
      simp only [List.mem_cons, List.not_mem_nil, or_false] at hp
      rcases hp with rfl | rfl | rfl | rfl | rfl | rfl | rfl | rfl | rfl | rfl | rfl | rfl | rfl | rfl | rfl <;> exact N9 _ (by k_mem)
    · rintro m₁₃ nx h tk ⟨rfl, hm⟩ F4 N4
      k_steps
      exact Done.mk ⟨_, _, _, rfl, F4, hm, N4⟩
  clear F7 N7
  rintro f s' ⟨rfl, h23, tk23, m₁₃, rfl, F8, ⟨hm1, hm2, hm3, hm4, hm5, hm6, hm7, hm8⟩, N8⟩
  show wpAny _ _ _ _ _ _
  try k_fold
  refine law_tail2 ho0 (by rfl) KX T B hp1 hp2 hO2 him hPl i1 i2 hc1 hc2 hoc hV hW hdl hdo hpb hph hpn hrs hro hRs hm1 hm2 hm3 hm4 hm5 hm6 hm7 hm8 F8 N8 ?_
  exact ret

end
end Mine
end
section
open PySem PySem.W PyProof.Rows
local macro_rules | `(tactic| walk_at "MY none 0") => `(tactic| fail)
local macro_rules | `(tactic| walk_at "MY none 1") => `(tactic| fail)
local macro_rules | `(tactic| walk_at "MY none 2") => `(tactic| fail)
theorem Mine.resetM : (1 : Nat) ≤ 2 := by
  w_top off
  first | walk1 | decide
end
section
open PySem PySem.W PySem.Calls PySem.Spec PyProof.Rows
set_option maxRecDepth 100000
set_option maxHeartbeats 8000000
set_option pp.maxSteps 4000
set_option linter.unusedVariables false
namespace Mine
section
variable {w : World} {A₀ : Around} {base h₀ : Heap} {outer : List Env} {L : Addr} {m mg mb : Str → Option Value} {env : Env} {mean : ExcName → Option Value} {dp un : Nat} {gd : Option (List Code)} {s : Shared} {E Q : Value → Shared → Prop} {news : List (Addr × Obj)}

local macro_rules | `(tactic| walk_at "MY pos") => `(tactic| omega)
local macro_rules | `(tactic| walk_at "MY room") => `(tactic| ((try simp only [depth_under_make, depth_under_kw, depth_in1, depth_deeper]); (try dsimp only [Ar, Around.in1, Around.deeper]); first | omega | decide))
local macro_rules | `(tactic| walk_at "MY units") => `(tactic| ((try simp only [units_in1, units_deeper, units_under_make, Around.mark_units]); (try dsimp only [Ar, Around.in1, Around.deeper]); first | omega | decide))
local macro_rules | `(tactic| walk_at "MY idx") => `(tactic| first | omega | (simp only [POWT_len, LOGT_len, EXPT_len]; omega))
local macro_rules | `(tactic| walk_at "subscriptTail Subscript") => `(tactic| (k_here; (with_reducible show wpAny _ _ (subscriptTail _ _ (Value.ref _) (Value.int _ _)) _ _ _); k_dflt (refine' item_ints ?k1 ?k2 ?k3 ?k4 ?k5 ?_; (case k1 => is_list); (case k2 => assumption); (case k3 => walk_at "MY idx"); (case k4 => walk_at "MY idx"); (case k5 => walk_at "MY idx"); k_whole); intro t9))
local macro_rules | `(tactic| walk_at "subscriptTail Name") => `(tactic| (k_here; (with_reducible show wpAny _ _ (subscriptTail _ _ (Value.ref _) (Value.int _ _)) _ _ _); k_dflt (refine' item_ints ?k1 ?k2 ?k3 ?k4 ?k5 ?_; (case k1 => is_list); (case k2 => assumption); (case k3 => walk_at "MY idx"); (case k4 => walk_at "MY idx"); (case k5 => walk_at "MY idx"); k_whole); intro t9))

local macro_rules | `(tactic| walk_at "subscriptTail Name Slice ref ref") => `(tactic| (k_here; (with_reducible show wpAny _ _ (subscriptTail _ (PySem.Expr.Slice _ _ none _) (Value.ref _) (Value.ref _)) _ _ _); k_dflt (refine' kmk_slice_ints ?F ?N ?l ?p ?q ?i ?m ?c ?_ ?s ?t ?z; (case F => k_asm); (case N => k_asm); (case l => kmk_list); (case p => kmk_part); (case q => kmk_part); (case i => assumption); (case m => first | exact kmk_from (by assumption) (by omega) | exact kmk_run (by assumption) (by omega) (by omega) | exact kmk_from_neg (by assumption) (by omega)); (case c => kmk_len); (case s => with_unfolding_all rfl); (case t => kmk_pure); (case z => (refine kmk_sz (by assumption) ?_; (simp only [PySem.sizeLine_eq]; omega)))); intro D' ws' h' F' N' l1 hI' hC' hL'; (try k_lt l1); (try k_sweep)))
local macro_rules | `(tactic| k_ne) => `(tactic| (rename News _ _ _ _ => lN'; exact cell_ne lN' (by k_mem) (by k_mem) (by assumption) (fun _ e => by first | cases e | (dsimp only [instObj, dictOf] at e; cases e) | (simp [instObj, dictOf] at e))))
local macro_rules | `(tactic| walk_at "call ref") => `(tactic| (k_here; (with_reducible show wpAny _ _ (call (Value.ref 80) _) _ _ _); refine STOP.intro ?_))
local macro_rules | `(tactic| walk_at "exec For") => `(tactic| (k_here; refine STOP.intro ?_))
local macro_rules | `(tactic| walk_at "exec For Name Call cons nil") => `(tactic| (k_here; refine STOP.intro ?_))
local macro_rules | `(tactic| walk_at "pyIter ref") => `(tactic| (k_here; (with_reducible show wpAny _ _ (pyIter (Value.ref _)) (fun it s₂ => LoopAtV _ _ _ _ _ _ _ _ _ it s₂) _ _); refine STOP.intro ?_))
local macro_rules | `(tactic| walk_at "exec While") => `(tactic| (k_here; refine STOP.intro ?_))
local macro_rules | `(tactic| walk_at "exec If") => `(tactic| (k_here; (have z9 : Gate 2 := by assumption); clear z9; refine STOP.intro ?_))
local macro_rules | `(tactic| walk_at "exec Assign cons IfExp") => `(tactic| (k_here; (have z9 : Gate 1 := by assumption); clear z9; refine STOP.intro ?_))
local macro_rules | `(tactic| walk_at "call ref") => `(tactic| (k_here; (with_reducible show wpAny _ _ (call (Value.ref 105) _) _ _ _); refine STOP.intro ?_))
local macro_rules | `(tactic| walk_at "call ref") => `(tactic| (k_here; (with_reducible show wpAny _ _ (call (Value.ref 145) [Value.ref _, Value.ref _]) _ _ _); refine STOP.intro ?_))
local macro_rules | `(tactic| walk_at "exec Assign cons ListComp") => `(tactic| (k_here; refine STOP.intro ?_))
local macro_rules | `(tactic| walk_at "call ref") => `(tactic| (k_here; (with_reducible show wpAny _ _ (call (Value.ref 30) [Value.int _ _]) _ _ _); k_dflt (refine' gexp_ct ?F ?N ?X ?T ?hdp ?hu  ?_; (case F => k_asm); (case N => k_asm); (case X => k_asm); (case T => k_asm); (case hdp => walk_at "MY room"); (case hu => walk_at "MY units"); k_whole); intro t9 h9 tk9 F9 N9; (try k_sweep)))
local macro_rules | `(tactic| walk_at "isTrue BoolOp") => `(tactic| (k_here; (have z9 : Gate 3 := by assumption); clear z9; refine STOP.intro ?_))
local macro_rules | `(tactic| walk_at "call ref") => `(tactic| (k_here; (with_reducible show wpAny _ _ (call (Value.ref 119) _) _ _ _); refine STOP.intro ?_))
local macro_rules | `(tactic| walk_at "call ref") => `(tactic| (k_here; (with_reducible show wpAny _ _ (call (Value.ref 126) _) _ _ _); refine STOP.intro ?_))
local macro_rules | `(tactic| walk_at "call ref") => `(tactic| (k_here; (with_reducible show wpAny _ _ (call (Value.ref 131) _) _ _ _); refine STOP.intro ?_))
local macro_rules | `(tactic| walk_at "binaryOp Mult ref ref") => `(tactic| (k_here; (with_reducible show wpAny _ _ (binaryOp Operator.Mult (Value.ref _) (Value.ref _)) _ _ _); refine STOP.intro ?_))
local macro_rules | `(tactic| walk_at "binaryOp Mod ref ref") => `(tactic| (k_here; (with_reducible show wpAny _ _ (binaryOp Operator.Mod (Value.ref _) (Value.ref _)) _ _ _); refine STOP.intro ?_))
theorem lawp : PySem.Challenge.rw_bm0035_01.Holds := hd (by
  w_top off
  k_go0
  rename Fr _ _ _ _ => F
  rename News _ _ _ _ => N
  rename Frag.In _ _ => KX
  rename Top _ _ _ _ _ _ => T
  rename Below _ _ _ _ => B
  rename IntsAre _ _ => hI
  rename Heap.IsList _ _ _ => hL
  rename ¬ (_ < _) => hlen
  rename Obj.data _ = _ => hcell
  rename_i oc _
  rename World => w
  rename Shared => s₁
  rename List Int => ns
  rename List Value => vs
  refine take_list hL fun l hl hL => ?_
  subst hl
  replace hL : s₁.heap.IsList l vs.toArray := hL
  replace hI : IntsAre vs ns := hI
  replace hlen : ns.length ≤ 63 := by omega
  replace B : Below callerA s₁.heap [] s₁.heap := B
  obtain ⟨m₂, F2⟩ : ∃ m₂ : Str → Option Value, Fr s₁.heap s₁.heap.objs.size _ (fun y => if y = Str.ofString "script" then some (.ref l) else m₂ y) := ⟨_, fr_know F (by with_unfolding_all exact rfl)⟩
  clear F
  have G1 := gate 1
  try k_fold
  k_steps
  clear G1
  show wpAny _ _ _ _ _ _
  rename Fr _ _ _ _ => F
  rename News _ _ _ _ => N
  refine wpAny_mono (Q := Done fun s' => ∃ h' tk n t, s' = { s₁ with heap := h', toks := tk } ∧ Fr s₁.heap s₁.heap.objs.size h' (fun y => if y = Str.ofString "first" then some (Value.int n t) else (fun y => if y = Str.ofString "script" then some (.ref l) else m₂ y) y) ∧ News s₁.heap s₁.heap.objs.size h' [(s₁.heap.objs.size + 1, oc)]) ?_ ?_ (fun _ _ e => e)
  · k_steps
    all_goals ((rename Fr _ _ _ _ => F9); (rename News _ _ _ _ => N9); exact Done.mk ⟨_, _, _, _, rfl, F9, N9⟩)
  rintro f s' ⟨rfl, h2, tk2, n1, t1, rfl, F2, N2⟩
  clear F N
  show wpAny _ _ _ _ _ _
  k_fold
  k_steps
  -- the field
  show wpAny _ _ (call (Value.ref 105) _) _ _ _
  rename Fr _ _ _ _ => F2
  rename News _ _ _ _ => N2
  k_dflt (refine' field_new B F2 N2 KX T rfl rfl (by walk_at "MY room") (by walk_at "MY units") ?_)
  intro fa h3 tk3 F3 N3 hS3 hFN
  obtain ⟨pa, la, pv, lv, k1, k2, k3, i1, i2, ne1, ne2, N4, off3⟩ := news_field F2 N2 hS3 hFN
  clear F2 N2 N3 hS3 hFN
  try k_fold
  k_steps
  -- _law_carried(field, script[1:15])
  show wpAny _ _ (call (Value.ref 145) [.ref fa, .ref _]) _ _ _
  rename Fr _ _ _ _ => F2
  rename News _ _ _ _ => N2
  rename IntsAre _ _ => hC
  k_dflt (refine' carried_ct B F2 N2 KX T rfl rfl (by walk_at "MY room") (by walk_at "MY units") ?_ ?_ hC ?_)
  · exact field_of N2 (by k_mem) (by k_mem) (by k_mem) i1 i2
  · exact News.isList N2 (by k_mem)
  intro h4 tk4 F4 N4
  clear F2 N2
  try k_fold
  k_steps
  -- octets
  show wpAny _ _ _ _ _ _
  refine Comp_assign (f := fun n => (n.fdiv 4).fmod 256) (cl := []) ?hsw ?hh ?hclos ?hcell ?hkind ?hnames ?hx ?hy ?hp ?h ?hs
  case hsw => with_unfolding_all rfl
  case hh => exact rfl
  case hclos => with_unfolding_all rfl
  case hcell => decide
  case hkind => exact rfl
  case hnames => decide
  case hx => exact rfl
  case hy => exact rfl
  case hp => exact rfl
  case hs => intro _; with_unfolding_all rfl
  k_steps
  rename Fr _ _ _ _ => F5
  rename News _ _ _ _ => N5
  rename IntsAre _ _ => hO
  k_dflt (refine' src_assign ?e1 ?F ?N ?e2 ?e4 ?e3 ?_ ?_)
  case e1 => exact rfl
  case F => exact F5
  case N => exact N5
  case e4 => exact hO
  case e2 => is_list
  case e3 => rw [List.length_take, PySem.sizeLine_eq]; omega
  · intro C n t s₃ m₃ E' hC1 hC2 hn hns hm hk hkn
    obtain ⟨m₄, e3⟩ := map_know hm
    subst e3
    have FC : Fr s₁.heap C s₃.heap _ := ⟨hns, hk, hC1⟩
    have NC : News s₁.heap C s₃.heap [] := News.nil
    clear F5 N5 hns hO hC
    show wpAny _ _ _ _ _ _
    k_fold
    k_steps
    all_goals first | exact ⟨_, _, rfl, fun _ _ e => e⟩ | exact (0 : Nat) | exact Str.ofString "" | exact Value.none | exact ([] : List (Str × Addr))
  intro D1 ws1 kk1 h5 tk5 hO1 F6 N6 off6
  clear F5 N5
  have G2 := gate 2
  show wpAny _ _ _ _ _ _
  try k_fold
  k_steps
  clear G2
  show wpAny _ _ _ _ _ _
  rename Fr _ _ _ _ => F7
  rename News _ _ _ _ => N7
  obtain ⟨o0, ho0⟩ : ∃ o : List Int, o = (List.take (min (Int.toNat 9) ns.length - Int.toNat 1) (List.drop (Int.toNat 1) ns)).map (fun n => (n.fdiv 4).fmod 256) := ⟨_, rfl⟩
  rw [← ho0] at hO1
  have hb0 : Bytes o0 := by
    intro x hx
    rw [ho0] at hx
    obtain ⟨n, _, rfl⟩ := List.mem_map.mp hx
    exact ⟨Int.fmod_nonneg_of_pos _ (by decide), Int.le_of_lt_add_one (Int.fmod_lt_of_pos _ (by decide))⟩
  have hl0 : o0.length ≤ 8 := by
    rw [ho0, List.length_map, List.length_take]
    have : Int.toNat 9 = 9 := rfl
    have : Int.toNat 1 = 1 := rfl
    omega
  clear ho0 hO hC
  refine wpAny_mono (Q := Done fun s' => ∃ h' tk D vs k os m', s' = { s₁ with heap := h', toks := tk } ∧ Fr s₁.heap s₁.heap.objs.size h' m' ∧ m' (Str.ofString "octets") = some (.ref D) ∧ m' (Str.ofString "field") = some (.ref fa) ∧ m' (Str.ofString "first") = some (.int n1 t1) ∧
    News s₁.heap s₁.heap.objs.size h' [(D, W.listOf (List.toArray vs) k), (fa, { cls := .type "tuple", data := .seq [Value.ref pa, Value.ref la].toArray k1 }), (pa, W.listOf (List.toArray pv) k2), (la, W.listOf (List.toArray lv) k3), (s₁.heap.objs.size + 1, oc)] ∧ IntsAre vs os ∧ OctOk os) ?_ ?_ (fun _ _ e => e)
  · k_steps
    · rename Fr _ _ _ _ => F9
      rename News _ _ _ _ => N9
      rename IntsAre _ _ => hI9
      rename o0 = _ => ha
      exact Done.mk ⟨_, _, _, _, _, _, _, rfl, F9, rfl, rfl, rfl, fun p hp => by simp only [List.mem_cons, List.not_mem_nil, or_false] at hp; rcases hp with rfl | rfl | rfl | rfl | rfl <;> exact N9 _ (by k_mem), hI9, oct_one hb0 hl0 ha⟩
    · rename Fr _ _ _ _ => F9
      rename News _ _ _ _ => N9
      rename ¬ (o0 = _) => ha
      exact Done.mk ⟨_, _, _, _, _, _, _, rfl, F9, rfl, rfl, rfl, fun p hp => by simp only [List.mem_cons, List.not_mem_nil, or_false] at hp; rcases hp with rfl | rfl | rfl | rfl | rfl <;> exact N9 _ (by k_mem), hO1, oct_two hb0 hl0 ha⟩
  rintro f s' ⟨rfl, h8, tk8, D2, ws2, kk2, os, m₃, rfl, F8, hm1, hm2, hm3, N8, hO2, hOk⟩
  clear F7 N7 hO1 hb0 hl0 off6
  obtain ⟨m₄, e3⟩ := map_know hm1
  subst e3
  obtain ⟨m₅, e5⟩ := map_know (x := Str.ofString "field") (m := m₄) hm2
  subst e5
  obtain ⟨m₆, e6⟩ := map_know (x := Str.ofString "first") (m := m₅) hm3
  subst e6
  clear hm1 hm2 hm3
  have q1 := Int.fmod_nonneg_of_pos (n1.fdiv 10) (show (0:Int) < 10 by decide)
  have q2 := Int.fmod_lt_of_pos (n1.fdiv 10) (show (0:Int) < 10 by decide)
  obtain ⟨z0, hz0⟩ : ∃ z, z = (n1.fdiv 10).fmod 10 := ⟨_, rfl⟩
  show wpAny _ _ _ _ _ _
  try k_fold
  k_steps
  -- message
  show wpAny _ _ (call (Value.ref 80) [.ref D2, .int _ _]) _ _ _
  rename Fr _ _ _ _ => F2
  rename News _ _ _ _ => N2
  rw [← hz0] at F2 ⊢
  rw [← hz0] at q1 q2
  have hp1 := hOk.pos
  have hp2 := hOk.short
  k_dflt (refine' poly_ct B F2 N2 KX T rfl rfl (by walk_at "MY room") (by walk_at "MY units") ?_ hO2 (by omega) (by omega) q1 (by omega) ?_)
  · exact News.isList N2 (by k_mem)
  intro xm h9 tk9 hPm hSm F3 N3
  obtain ⟨dxm, lm, hsm, ptm, pnm, vsm, kkm, him, N4, offm, ne3, ne4, ne5⟩ := poly_news F2 N2 hSm hPm
  clear F2 N2 N3 hSm hPm
  try k_fold
  k_steps
  -- plain
  show wpAny _ _ _ _ _ _
  rename Fr _ _ _ _ => F2
  rename News _ _ _ _ => N2
  rename IntsAre _ _ => hPl
  obtain ⟨R, hR⟩ : ∃ R : List (Addr × Obj), R = [(xm, instObj 80 dxm), (dxm, dictOf [⟨hsm, .str (Str.ofString "num") ptm, .ref lm⟩] pnm), (lm, W.listOf (List.toArray vsm) kkm), (D2, W.listOf (List.toArray ws2) kk2), (fa, { cls := .type "tuple", data := .seq [Value.ref pa, Value.ref la].toArray k1 }), (pa, W.listOf (List.toArray pv) k2), (la, W.listOf (List.toArray lv) k3), (s₁.heap.objs.size + 1, oc)] := ⟨_, rfl⟩
  refine wpAny_mono (Q := Done fun s' => ∃ h' tk D vs k m', s' = { s₁ with heap := h', toks := tk } ∧ Fr s₁.heap s₁.heap.objs.size h' m' ∧ (m' (Str.ofString "plain") = some (.ref D) ∧ m' (Str.ofString "octets") = some (.ref D2) ∧ m' (Str.ofString "field") = some (.ref fa) ∧ m' (Str.ofString "first") = some (.int n1 t1) ∧ m' (Str.ofString "message") = some (.ref xm)) ∧
    News s₁.heap s₁.heap.objs.size h' ((D, W.listOf (List.toArray vs) k) :: R) ∧ IntsAre vs (polyF os z0.toNat)) ?_ ?_ (fun _ _ e => e)
  · refine While_inv2 (h₀ := s₁.heap) (L := s₁.heap.objs.size) (n₀ := (os ++ (List.replicate z0.toNat [(0 : Int)]).flatten).length) (news := (_, W.listOf (List.toArray _) 0) :: R) (fun n m' nx => ∃ D vs k ps, nx = (D, W.listOf (List.toArray vs) k) :: R ∧ IntsAre vs ps ∧ (∃ x ∈ ps, x ≠ 0) ∧ n = ps.length ∧ ps.length ≤ 17 ∧ stripF ps = polyF os z0.toNat ∧
      (m' (Str.ofString "plain") = some (.ref D) ∧ m' (Str.ofString "octets") = some (.ref D2) ∧ m' (Str.ofString "field") = some (.ref fa) ∧ m' (Str.ofString "first") = some (.int n1 t1) ∧ m' (Str.ofString "message") = some (.ref xm))) F2 (fun p hp => ?_) ⟨_, _, _, _, rfl, hPl, ?_, rfl, ?_, plain_strip hOk.some, rfl, rfl, rfl, rfl, rfl⟩ ?_ (by first | passes_own | with_unfolding_all passes_own)
    · rw [hR] at hp
      simp only [List.mem_cons, List.not_mem_nil, or_false] at hp
      rcases hp with rfl | rfl | rfl | rfl | rfl | rfl | rfl | rfl | rfl <;> exact N2 _ (by k_mem)
    · obtain ⟨x, hx, h0⟩ := hOk.some
      exact ⟨x, List.mem_append_left _ hx, h0⟩
    · rw [flat_zero, List.length_append, List.length_replicate]
      omega
    clear F2 N2 hPl
    rintro n m' nx h3 tk3 F2 N2 ⟨D, vs3, k4, ps, rfl, hPs, hex, rfl, hlp, hst, hm1, hm2, hm3, hm4, hm5⟩
    obtain ⟨m₄, e3⟩ := map_know hm1
    subst e3
    have hps : 0 < ps.length := by obtain ⟨x, hx, _⟩ := hex; exact List.length_pos_of_mem hx
    show wpAny _ _ _ _ _ _
    try k_fold
    k_steps
    · rename Fr _ _ _ _ => F9
      rename News _ _ _ _ => N9
      rename IntsAre _ (List.drop _ ps) => hI9
      rename List.getD ps _ _ = 0 => h0
      obtain ⟨w1, w2, w3⟩ := strip_tail hex h0
      refine ⟨_, _, _, (_, W.listOf (List.toArray _) 0) :: R, (ps.drop 1).length, rfl, F9, ?_, ?_, ⟨_, _, _, _, rfl, hI9, w3, rfl, ?_, w2.trans hst, rfl, hm2, hm3, hm4, hm5⟩⟩
      · intro p hp
        rcases List.mem_cons.mp hp with rfl | hp
        · exact N9 _ (List.mem_cons_self ..)
        · exact N9 _ (List.mem_cons_of_mem _ (List.mem_cons_of_mem _ hp))
      · rw [List.length_drop]; omega
      · have : Int.toNat 1 = 1 := rfl
        rw [List.length_drop]; omega
    · rename Fr _ _ _ _ => F9
      rename News _ _ _ _ => N9
      rename List.getD ps _ _ ≠ 0 => h0
      have h0 : ps.getD 0 0 ≠ 0 := h0
      have e : ps = polyF os z0.toNat := by rw [← hst, strip_done h0]
      rw [e] at hPs
      exact Done.mk ⟨_, _, _, _, _, _, rfl, F9, ⟨rfl, hm2, hm3, hm4, hm5⟩, N9, hPs⟩
  rintro f s' ⟨rfl, h11, tk11, D3, ws3, kk3, m₇, rfl, F8, ⟨hm1, hm2, hm3, hm4, hm5⟩, N8, hPl⟩
  subst hR
  clear F2 N2
  obtain ⟨m₈, e3⟩ := map_know hm1
  subst e3
  obtain ⟨m₉, e5⟩ := map_know (x := Str.ofString "octets") (m := m₈) hm2
  subst e5
  obtain ⟨m₁₀, e6⟩ := map_know (x := Str.ofString "field") (m := m₉) hm3
  subst e6
  obtain ⟨m₁₁, e7⟩ := map_know (x := Str.ofString "first") (m := m₁₀) hm4
  subst e7
  obtain ⟨m₁₂, e8⟩ := map_know (x := Str.ofString "message") (m := m₁₁) hm5
  subst e8
  clear hm1 hm2 hm3 hm4 hm5
  show wpAny _ _ _ _ _ _
  try k_fold
  k_steps
  w_top off
  -- divisor, due
  show wpAny _ _ (call (Value.ref 80) [.ref _, .int _ _]) _ _ _
  rename Fr _ _ _ _ => F2
  rename News _ _ _ _ => N2
  k_dflt (refine' poly_ct (vs := [Value.int 1 _]) (ns := [1]) B F2 N2 KX T rfl rfl (by walk_at "MY room") (by walk_at "MY units") ?_ (.cons _ _ .nil) (by decide) (by decide) (by decide) (by decide) ?_)
  · exact News.isList N2 (by k_mem)
  intro xd h12 tk12 hPd hSd F3 N3
  obtain ⟨dxd, ld, hsd, ptd, pnd, vsd, kkd, hid, N4, offd, ne6, ne7, ne8⟩ := poly_news F2 N2 hSd hPd
  clear F2 N2 N3 hSd hPd
  have cne := offd (s₁.heap.objs.size + 1, oc) (by k_mem)
  obtain ⟨cn1, cn2, cn3⟩ := cne
  replace cn1 : s₁.heap.objs.size + 1 ≠ xd := cn1
  replace cn2 : s₁.heap.objs.size + 1 ≠ dxd := cn2
  replace cn3 : s₁.heap.objs.size + 1 ≠ ld := cn3
  try k_fold
  k_steps
  w_top off
  -- the divisor's loop
  show wpAny _ _ _ _ _ _
  rename Fr _ _ _ _ => F2
  rename News _ _ _ _ => N2
  rename Obj.data _ = _ => hoc
  rename_i dua zq1 zq2 zq3 zq4 zq5 zq6 zq7 ocd zq8
  obtain ⟨c, hc, hc1, hc2⟩ : ∃ c : Nat, 1 + n1.fmod 10 = (c : Int) ∧ 1 ≤ c ∧ c ≤ 10 := by
    have a1 := Int.fmod_nonneg_of_pos n1 (show (0:Int) < 10 by decide)
    have a2 := Int.fmod_lt_of_pos n1 (show (0:Int) < 10 by decide)
    exact ⟨(1 + n1.fmod 10).toNat, by omega, by omega, by omega⟩
  obtain ⟨low, hlow⟩ : ∃ z, z = n1.fdiv 100 := ⟨_, rfl⟩
  rw [hc, ← hlow] at F2 N2
  refine wpAny_mono (Q := Done fun s' => ∃ h' tk m' nx, s' = { s₁ with heap := h', toks := tk } ∧ Fr s₁.heap s₁.heap.objs.size h' m' ∧ News s₁.heap s₁.heap.objs.size h' nx ∧
     ∃ xd dxd ld hsd ptd pnd vsd kkd da wsd kd od tc tl, nx = [(da, W.listOf (List.toArray wsd) kd), (xd, instObj 80 dxd), (dxd, dictOf [⟨hsd, .str (Str.ofString "num") ptd, .ref ld⟩] pnd), (ld, W.listOf (List.toArray vsd) kkd), (s₁.heap.objs.size + 1, od), (D3, W.listOf (List.toArray ws3) kk3), (xm, instObj 80 dxm), (dxm, dictOf [⟨hsm, .str (Str.ofString "num") ptm, .ref lm⟩] pnm), (lm, W.listOf (List.toArray vsm) kkm), (D2, W.listOf (List.toArray ws2) kk2), (fa, { cls := .type "tuple", data := .seq [Value.ref pa, Value.ref la].toArray k1 }), (pa, W.listOf (List.toArray pv) k2), (la, W.listOf (List.toArray lv) k3)] ∧ od.data = .cell (some (.ref xd)) ∧ IntsAre vsd (dgF low c) ∧ IntsAre wsd (dgF low c) ∧ m' (Str.ofString "due") = some (.ref da) ∧ m' (Str.ofString "count") = some (.int (c : Int) tc) ∧ m' (Str.ofString "low") = some (.int low tl) ∧ m' (Str.ofString "plain") = some (.ref D3) ∧ m' (Str.ofString "octets") = some (.ref D2) ∧ m' (Str.ofString "field") = some (.ref fa) ∧ m' (Str.ofString "message") = some (.ref xm)) ?_ ?_ (fun _ _ e => e)
  · (with_unfolding_all refine' For_invVF F2 ?zk1 ?zk2 ?_; (case zk1 => exact rfl); (case zk2 => exact rfl); k_whole)
    k_steps
    rename Fr _ _ _ _ => F3
    rename News _ _ _ _ => N3
    rename IsRange _ _ _ _ _ _ _ _ => R1
    refine range_grow (n := c) (fun i m' nx => ∃ xd dxd ld hsd ptd pnd vsd kkd da wsd kd od tc tl, nx = [(da, W.listOf (List.toArray wsd) kd), (xd, instObj 80 dxd), (dxd, dictOf [⟨hsd, .str (Str.ofString "num") ptd, .ref ld⟩] pnd), (ld, W.listOf (List.toArray vsd) kkd), (s₁.heap.objs.size + 1, od), (D3, W.listOf (List.toArray ws3) kk3), (xm, instObj 80 dxm), (dxm, dictOf [⟨hsm, .str (Str.ofString "num") ptm, .ref lm⟩] pnm), (lm, W.listOf (List.toArray vsm) kkm), (D2, W.listOf (List.toArray ws2) kk2), (fa, { cls := .type "tuple", data := .seq [Value.ref pa, Value.ref la].toArray k1 }), (pa, W.listOf (List.toArray pv) k2), (la, W.listOf (List.toArray lv) k3)] ∧ od.data = .cell (some (.ref xd)) ∧ IntsAre vsd (dgF low i) ∧ IntsAre wsd (dgF low i) ∧ m' (Str.ofString "due") = some (.ref da) ∧ m' (Str.ofString "count") = some (.int (c : Int) tc) ∧ m' (Str.ofString "low") = some (.int low tl) ∧ m' (Str.ofString "plain") = some (.ref D3) ∧ m' (Str.ofString "octets") = some (.ref D2) ∧ m' (Str.ofString "field") = some (.ref fa) ∧ m' (Str.ofString "message") = some (.ref xm)) rfl R1 rfl (by omega) F3 (fun p hp => ?_) ⟨xd, dxd, ld, hsd, ptd, pnd, vsd, kkd, dua, [.int 1 tk12], 0, ocd, _, _, rfl, hoc, hid, .cons _ _ .nil, rfl, rfl, rfl, rfl, rfl, rfl, rfl⟩ ?_ ?_
    · simp only [List.mem_cons, List.not_mem_nil, or_false] at hp
      rcases hp with rfl | rfl | rfl | rfl | rfl | rfl | rfl | rfl | rfl | rfl | rfl | rfl | rfl <;> exact N3 _ (by k_mem)
    · rintro I oI i ti m₁ nx h tk hi hne ⟨xd, dxd, ld, hsd, ptd, pnd, vsd, kkd, da, wsd, kd, od, tc, tl, rfl, hoc', hV, hW, hm1, hm2, hm3, hm4, hm5, hm6, hm7⟩ F4 N4
      clear F3 N3 hoc R1
      rename Fr _ _ zq8 _ => F0
      rename News _ _ zq8 _ => N0
      clear F0 N0
      replace F4 : Fr s₁.heap s₁.heap.objs.size h _ := F4
      replace N4 : News s₁.heap s₁.heap.objs.size h _ := N4
      have hI := hne (s₁.heap.objs.size + 1, od) (by k_mem)
      replace hI : s₁.heap.objs.size + 1 ≠ I := hI
      obtain ⟨m₂, e2⟩ := map_know hm1
      subst e2
      obtain ⟨m₃, e3⟩ := map_know (x := Str.ofString "count") (m := m₂) hm2
      subst e3
      obtain ⟨m₄, e4⟩ := map_know (x := Str.ofString "low") (m := m₃) hm3
      subst e4
      obtain ⟨m₅, e5⟩ := map_know (x := Str.ofString "plain") (m := m₄) hm4
      subst e5
      obtain ⟨m₆, e6⟩ := map_know (x := Str.ofString "octets") (m := m₅) hm5
      subst e6
      obtain ⟨m₇, e7⟩ := map_know (x := Str.ofString "field") (m := m₆) hm6
      subst e7
      obtain ⟨m₈, e8⟩ := map_know (x := Str.ofString "message") (m := m₇) hm7
      subst e8
      clear hm1 hm2 hm3 hm4 hm5 hm6 hm7
      show wpAny _ _ _ _ _ _
      try k_fold
      k_steps
      -- the new factor
      show wpAny _ _ (call (Value.ref 80) [.ref _, .int _ _]) _ _ _
      rename Fr _ _ _ _ => F5
      rename News _ _ _ _ => N5
      k_dflt (refine' poly_ct (vs := [Value.int 1 _, Value.int _ _]) (ns := [1, expF (low + (i : Int))]) B F5 N5 KX T rfl rfl (by walk_at "MY room") (by walk_at "MY units") ?_ (.cons _ _ (.cons _ _ .nil)) (by show 0 < 2; decide) (by show 2 < _; decide) (by decide) (by decide) ?_)
      · exact News.isList N5 (by k_mem)
      intro xq h5 tk5 hPq hSq F6 N6
      rw [show Int.toNat 0 = 0 from rfl, two_poly] at hPq
      obtain ⟨dxq, lq, hsq, ptq, pnq, vsq, kkq, hiq, N7, offq, ne9, ne10, ne11⟩ := poly_news F5 N5 hSq hPq
      clear F5 N5 N6 hSq hPq
      try k_fold
      k_steps
      -- the product
      show wpAny _ _ (binaryOp Operator.Mult (Value.ref _) (Value.ref _)) _ _ _
      rename Fr _ _ _ _ => F5
      rename News _ _ _ _ => N5
      have hPd := poly_of N5 (x := xd) (by k_mem) (by k_mem) (by k_mem) hV
      have hPq := poly_of N5 (x := xq) (by k_mem) (by k_mem) (by k_mem) hiq
      k_dflt (refine' mul_op F5 KX hPd hPq ?_)
      k_dflt (refine' mul_ct B F5 N5 KX T rfl rfl (by walk_at "MY room") (by walk_at "MY units") hPd hPq (dg_octs (by omega)) (two_octs _) (by rw [dg_len]; omega) (by show 0 < 2; decide) (by rw [dg_len]; omega) (by show 2 ≤ _; decide) ?_)
      intro xz h6 tk6 hPz hSz F7 N7
      rw [dg_next (by omega)] at hPz
      obtain ⟨dxz, lz, hsz, ptz, pnz, vsz, kkz, hiz, N8, offz, ne12, ne13, ne14⟩ := poly_news F5 N5 hSz hPz
      clear F5 N5 N7 hSz hPz hPd hPq
      dsimp only [PySem.W.CmpBack]
      have cz := offz (s₁.heap.objs.size + 1, od) (by k_mem)
      obtain ⟨cz1, cz2, cz3⟩ := cz
      replace cz1 : s₁.heap.objs.size + 1 ≠ xz := cz1
      replace cz2 : s₁.heap.objs.size + 1 ≠ dxz := cz2
      replace cz3 : s₁.heap.objs.size + 1 ≠ lz := cz3
      have cz := offq (s₁.heap.objs.size + 1, od) (by k_mem)
      obtain ⟨cz4, cz5, cz6⟩ := cz
      replace cz4 : s₁.heap.objs.size + 1 ≠ xq := cz4
      replace cz5 : s₁.heap.objs.size + 1 ≠ dxq := cz5
      replace cz6 : s₁.heap.objs.size + 1 ≠ lq := cz6
      have q3 := Int.fmod_nonneg_of_pos (low + (i : Int)) (show (0:Int) < 255 by decide)
      have q4 := Int.fmod_lt_of_pos (low + (i : Int)) (show (0:Int) < 255 by decide)
      k_steps
      -- due
      show wpAny _ _ (call (Value.ref 119) [.ref _, .ref _, .ref _]) _ _ _
      rename Fr _ _ _ _ => F5
      rename News _ _ _ _ => N5
      rw [powF] at N5
      k_dflt (refine' prod_ct (us := [Value.int 1 _, Value.int _ _]) (ms := [1, expF (low + (i : Int))]) B F5 N5 KX T rfl rfl (by walk_at "MY room") (by walk_at "MY units") (field_of N5 (by k_mem) (by k_mem) (by k_mem) i1 i2) (News.isList N5 (by k_mem)) hW (News.isList N5 (by k_mem)) (.cons _ _ (.cons _ _ .nil)) (dg_bytes _ _) (octs_bytes (two_octs _)) (by rw [dg_len]; omega) (by show 0 < 2; decide) (by rw [dg_len]; omega) (by show 2 ≤ _; decide) ?_)
      intro ra wsr kr h7 tk7 hWr hSr hfr hgr F6 N6
      have N7 := news_more F5 N5 hSr hfr hgr
      have raI : ra ≠ I := fun e => by
        rw [e, (N5 (I, oI) (by k_mem)).1] at hfr
        cases hfr
      clear F5 N5 N6 hSr hfr hgr
      try k_fold
      k_steps
      rename Fr _ _ _ _ => F8
      rename News _ _ _ _ => N9
      rename Obj.data _ = Data.cell (some (Value.ref xz)) => hoz
      obtain ⟨iz1, iz2, iz3⟩ := offz (I, oI) (by k_mem)
      refine ⟨_, _, _, [(ra, W.listOf (List.toArray wsr) kr), (xz, instObj 80 dxz), (dxz, dictOf [⟨hsz, .str (Str.ofString "num") ptz, .ref lz⟩] pnz), (lz, W.listOf (List.toArray vsz) kkz), (s₁.heap.objs.size + 1, _), (D3, W.listOf (List.toArray ws3) kk3), (xm, instObj 80 dxm), (dxm, dictOf [⟨hsm, .str (Str.ofString "num") ptm, .ref lm⟩] pnm), (lm, W.listOf (List.toArray vsm) kkm), (D2, W.listOf (List.toArray ws2) kk2), (fa, { cls := .type "tuple", data := .seq [Value.ref pa, Value.ref la].toArray k1 }), (pa, W.listOf (List.toArray pv) k2), (la, W.listOf (List.toArray lv) k3)], rfl, F8, ?_, ?_, xz, dxz, lz, hsz, ptz, pnz, vsz, kkz, ra, wsr, kr, _, _, _, rfl, hoz, hiz, hWr, rfl, rfl, rfl, rfl, rfl, rfl, rfl⟩
      · intro p hp
        simp only [List.mem_cons, List.not_mem_nil, or_false] at hp
        rcases hp with rfl | rfl | rfl | rfl | rfl | rfl | rfl | rfl | rfl | rfl | rfl | rfl | rfl | rfl <;> exact N9 _ (by k_mem)
      · intro p hp
        simp only [List.mem_cons, List.not_mem_nil, or_false] at hp
        rcases hp with rfl | rfl | rfl | rfl | rfl | rfl | rfl | rfl | rfl | rfl | rfl | rfl | rfl
        · exact raI
        · exact Ne.symm iz1
        · exact Ne.symm iz2
        · exact Ne.symm iz3
        · exact hI
        all_goals exact hne _ (by k_mem)
    · rintro m₁ nx h tk hJ F4 N4
      exact Done.mk ⟨_, _, _, _, rfl, F4, N4, hJ⟩
  clear F2 N2 hoc
  rintro f s' ⟨rfl, h13, tk13, m₁₃, nx, rfl, F8, N8, xd, dxd, ld, hsd, ptd, pnd, vsd, kkd, da, wsd, kd, od, tc, tl, rfl, hoc, hV, hW, hm1, hm2, hm3, hm4, hm5, hm6, hm7⟩
  revert F8 N8 hm1 hm2 hm3 hm4 hm5 hm6 hm7
  intro F8 N8 hm1 hm2 hm3 hm4 hm5 hm6 hm7
  show wpAny _ _ _ _ _ _
  try k_fold
  refine wpAny_mono (E := fun _ _ => False) ?zmain (fun _ _ h => h) (fun _ _ h => False.elim h)
  k_dflt (refine' law_tail1 ?zho ?zhb KX T B hOk q1 q2 hO2 him hPl i1 i2 hc1 hc2 hoc hV hW hm1 hm2 hm3 hm4 hm5 hm6 hm7 F8 N8 ?_)
  case zho => k_is
  case zhb => rfl
  intro h' tk' m' F9 N9
  k_steps
)

end
end Mine
end
set_option maxRecDepth 100000 in
theorem PySem.Challenge.cw_bm0035_01_holds : PySem.Challenge.rw_bm0035_01.Holds := by
  exact Mine.lawp
