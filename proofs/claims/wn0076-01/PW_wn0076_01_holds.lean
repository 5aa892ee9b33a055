import PyProof.Rows.All
import Wide.All
import OpenK.AllK
import Wide.FinOn
import PyProof.StrReplace2
import Lean
import PySem.Challenge.RW_wn0076_01
set_option Elab.async false
set_option rowWalk.seconds 100000
set_option compiler.extract_closed false
section
open PySem PySem.W PyProof.Rows
set_option Elab.async false
set_option maxRecDepth 100000 
set_option maxHeartbeats 8000000 
namespace Mine
open_top hd for PySem.Challenge.rw_wn0076_01
end Mine
end
theorem Mine.top_off : True := by
  w_top off
  exact True.intro
local macro_rules | `(tactic| k_room) => `(tactic| ((try simp only [PyProof.Rows.depth_under_make, PySem.W.depth_under_kw, PySem.W.depth_in1, PyProof.Rows.depth_deeper, PyProof.Rows.depth_caller]); omega))
section
open PySem PySem.W PyProof.Rows PySem.Calls
set_option Elab.async false
set_option maxRecDepth 100000 
set_option maxHeartbeats 8000000 
namespace Mine
theorem kzz : hd.heap_39 = hd.heap_39 ∧ Challenge.rw_wn0076_01 = Challenge.rw_wn0076_01 := ⟨rfl, rfl⟩
noncomputable abbrev PR := Challenge.rw_wn0076_01.row.prog
noncomputable def Keep (h h' : Heap) : Prop := ∀ b o, h.get? b = some o → h'.get? b = some o
theorem Keep.rfl' {h : Heap} : Keep h h := fun _ _ e => e
theorem Keep.trans {a b c : Heap} (x : Keep a b) (y : Keep b c) : Keep a c := fun p o e => y p o (x p o e)
noncomputable abbrev AR (d : Nat) (fr : Option (List Env)) (gs : Option (List Code)) (u : Nat) : Around := ⟨none, d, fr, gs, u⟩

section
variable {w : World} {mg mb : Str → Option Value} {p : Program} {loose : List Str} {mean : ExcName → Option Value} {s : Shared} {Q : Value → Shared → Prop} {E : Value → Shared → Prop} {K : Frag} {prog : Program} {A : Around}

theorem call_ro {name qual : Str} {params : Arguments} {body : List Stmt} {scope : Scope} {dV kV doc pm cdv ct oc : Value} {an od : Option Addr} {osl : Array (Option Value)} {f : Addr} {args : List Value} {kw : List (Str × Value)} {binds : List (Str × Value)}
    (X : K.In s.heap) (T : Top p loose mean mg mb s.heap)
    (ho : K.lookup f = some ⟨oc, od, .func (fnOf name qual params body scope dV kV doc pm an cdv ct), osl⟩) (hcd : codeIn K cdv qual = true) (hroom : A.depth < recursionLimit)
    (hbind : BindsTo s (fnOf name qual params body scope dV kV doc pm an cdv ct) ⟨args, kw⟩ binds) (hloc : ∀ y ∈ binds, scope.names.lookup y.1 = some .local)
    (hco : scope.isCoroutine = false) (hgen : scope.isGenerator = false) (hk : scope.kind = .function)
    (hcell : ∀ x ∈ scope.names, x.2 ≠ .cell)
    (h : ∀ L' h₁, Fr s.heap L' h₁ (fun y => binds.reverse.lookup y) → News s.heap L' h₁ [] →
      wpAny (model prog w) (A.deeper (envOf qual scope L' f cdv)) (execs body (envOf qual scope L' f cdv))
        (fun fl s' => Q (match fl with | .ret v => v | _ => .none) s') (fun _ _ => False)
        { s with heap := h₁, toks := s.toks + binds.length })
    : wpAny (model prog w) A (call (.ref f) args kw) Q E s := by
  refine wpAny_call ?_
  refine codeAny_call_def (fd := fnOf name qual params body scope dV kV doc pm an cdv ct) (body := body) (binds := binds) hroom (X _ _ ho) rfl T.nolimit (codeRec_of X hcd) rfl hbind hcell hloc (fun h₁ hns hk₁ => ?_) hco hgen hk
  exact wpAny_mono (h s.heap.objs.size h₁ ⟨hns, hk₁, Nat.le_refl _⟩ (fun _ hp => nomatch hp)) (fun fl s' x => x) fun _ _ x => x.elim

theorem call_roC {name qual : Str} {params : Arguments} {body : List Stmt} {scope : Scope} {dV kV doc pm cdv ct oc : Value} {an od : Option Addr} {osl : Array (Option Value)} {f : Addr} {args : List Value} {kw : List (Str × Value)} {binds : List (Str × Value)}
    (X : K.In s.heap) (T : Top p loose mean mg mb s.heap)
    (ho : K.lookup f = some ⟨oc, od, .func (fnOf name qual params body scope dV kV doc pm an cdv ct), osl⟩) (hcd : codeIn K cdv qual = true) (hroom : A.depth < recursionLimit)
    (hbind : BindsTo s (fnOf name qual params body scope dV kV doc pm an cdv ct) ⟨args, kw⟩ binds) (hkind : (binds.all fun y => scope.names.lookup y.1 == some .local || scope.names.lookup y.1 == some .cell) = true)
    (hnd : ((cellsFrom 0 scope.names []).map (·.1)).Nodup)
    (hco : scope.isCoroutine = false) (hgen : scope.isGenerator = false) (hk : scope.kind = .function)
    (h : ∀ L' h₁ tk cells, Fr s.heap L' h₁ (bindL (envOfC qual scope L' f cdv).kindOf binds fun _ => none) → News s.heap L' h₁ cells →
      CellsAre (bindC (envOfC qual scope L' f cdv).kindOf binds fun _ => none) (cellsFrom (L' + 1) scope.names []) cells →
      wpAny (model prog w) (A.deeper (envOfC qual scope L' f cdv)) (execs body (envOfC qual scope L' f cdv))
        (fun fl s' => Q (match fl with | .ret v => v | _ => .none) s') (fun _ _ => False)
        { s with heap := h₁, toks := tk })
    : wpAny (model prog w) A (call (.ref f) args kw) Q E s := by
  refine wpAny_call ?_
  refine codeAny_call_function hroom (X _ _ ho) rfl hco hgen rfl (codeRec_of X hcd) (hbind _ _ _ _ ?_)
  refine wpAny_newFunctionEnv_cells hk (kindsX hkind _) fun env' he s' x => ?_
  subst he
  refine ⟨(T.nolimit).keeps x.toInCall.keep, codeAny_func ?_⟩
  obtain ⟨h₁, tk, rfl, _⟩ := x.done
  have hk₁ := x.toInCall.keep
  obtain ⟨cells, NC, Y⟩ := Cl.news (h₀ := s.heap) (Nat.le_refl _) fun n c hm => ⟨x.cell n c (lookup_of_mem_nodup (cellsFrom_names scope.names 0 (s.heap.objs.size + 1) [] [] rfl ▸ hnd) hm), x.above n c hm⟩
  exact wpAny_mono (h s.heap.objs.size h₁ tk cells ⟨x.toInCall.ns, hk₁, Nat.le_refl _⟩ NC Y) (fun fl s' x => x) fun _ _ x => x.elim
end

-- floats as plain functions
noncomputable def cSixth : UInt64 := 4595172819793696085
noncomputable def cThird : UInt64 := 4599676419421066581
noncomputable def cTwoThird : UInt64 := 4604180019048437077
noncomputable def cOne : UInt64 := 4607182418800017408
noncomputable def cHalf : UInt64 := 4602678819172646912
noncomputable def cTwo : UInt64 := 0x4000000000000000
noncomputable def cFour : UInt64 := 0x4010000000000000
noncomputable def cSix : UInt64 := 4618441417868443648
noncomputable def cZero : UInt64 := 0
noncomputable def leF (a b : UInt64) : Bool := Float64.cmp a b == some Ordering.lt || Float64.cmp a b == some Ordering.eq
noncomputable def modF (a b : UInt64) : UInt64 := (Float64.divmod a b).2
noncomputable def vF1 (m1 m2 hue : UInt64) : UInt64 :=
  if PySem.Float64.lt hue cSixth = true then Float64.add m1 (Float64.mul (Float64.mul (Float64.sub m2 m1) hue) cSix)
  else if PySem.Float64.lt hue cHalf = true then m2
  else if PySem.Float64.lt hue cTwoThird = true then Float64.add m1 (Float64.mul (Float64.mul (Float64.sub m2 m1) (Float64.sub cTwoThird hue)) cSix)
  else m1
noncomputable def vF (m1 m2 hue0 : UInt64) : UInt64 := vF1 m1 m2 (modF hue0 cOne)
end Mine
end
section
open PySem PySem.W PyProof.Rows PySem.Calls
set_option Elab.async false
set_option maxRecDepth 100000 
set_option maxHeartbeats 8000000 
namespace Mine

section
variable {w : World} {mg mb : Str → Option Value} {p : Program} {loose : List Str} {mean : ExcName → Option Value}
    {s : Shared} {Q : Value → Shared → Prop} {E : Value → Shared → Prop} {d : Nat} {fr : Option (List Env)} {gs : Option (List Code)} {u : Nat}
theorem v_call {m1 m2 hue : UInt64} {t1 t2 t3 : Tok} 
    (X : (hd.heap_39 w.params).In s.heap) (T : Top p loose mean mg mb s.heap) (hroom : d + 8 < recursionLimit) 
    (hQ : ∀ h' tk t, Keep s.heap h' → Q (.float (vF m1 m2 hue) t) { s with heap := h', toks := tk }) :
    wpAny (model PR w) (AR d fr gs u) (call (.ref 63) [.float m1 t1, .float m2 t2, .float hue t3]) Q E s := by
  (have kz := kzz; revert kz; k_fill; intro kz; clear kz; refine' call_ro ?k1 ?k2 ?k6 ?k7 ?k8 ?k9 ?kB ?c2 ?c3 ?c4 ?c5 ?_; (case k1 => k_asm); (case k2 => k_asm); (case k6 => k_is); (case k7 => k_is); (case k8 => k_room); (case k9 => first | exact BindsTo.of_eq rfl | exact binds_K (by k_in) rfl (by k_is) rfl rfl rfl | fail "k_enter: no rule for these arguments"); (case c5 => decide); (case kB => exact locs rfl); (case c2 => exact rfl); (case c3 => exact rfl); (case c4 => exact rfl); k_whole; intro L' h' F' N'; (try dsimp only); (try k_fold))
  k_steps
  all_goals (refine (congrArg (fun z => Q (Value.float z _) _) ?_).mp (hQ _ _ _ (Fr.keep (by with_reducible assumption))))
  all_goals (simp only [vF, vF1, PySem.Float64.lt, PySem.Float64.gt, PySem.Builtin.Cmath.eq, leF, modF, cOne, cHalf, cSixth, cTwoThird, cSix, *]; try simp)
end
end Mine
end
local macro_rules | `(tactic| walk_at "pad 1") => `(tactic| fail)
section
open PySem PySem.W PyProof.Rows PySem.Calls
set_option Elab.async false
set_option maxRecDepth 100000 
set_option maxHeartbeats 8000000 
namespace Mine

theorem isZero_two : ¬ Float64.isZero cTwo = true := by decide +kernel
noncomputable def m2F (l s : UInt64) : UInt64 := if leF l cHalf = true then Float64.mul l (Float64.add cOne s) else Float64.sub (Float64.add l s) (Float64.mul l s)
noncomputable def hlsF (h l s : UInt64) : UInt64 × UInt64 × UInt64 :=
  if PySem.Builtin.Cmath.eq s cZero = true then (l, l, l) else
  let m2 := m2F l s
  let m1 := Float64.sub (Float64.mul cTwo l) m2
  (vF m1 m2 (Float64.add h cThird), vF m1 m2 h, vF m1 m2 (Float64.sub h cThird))
noncomputable abbrev tup3 (a b c : Value) : Obj := { cls := .type "tuple", data := .seq [a, b, c].toArray }
section
variable {w : World} {mg mb : Str → Option Value} {p : Program} {loose : List Str} {mean : ExcName → Option Value}
    {s : Shared} {Q : Value → Shared → Prop} {E : Value → Shared → Prop} {d : Nat} {fr : Option (List Env)} {gs : Option (List Code)} {u : Nat}
local macro_rules | `(tactic| walk_at "call ref") => `(tactic| (
  (with_reducible show wpAny _ _ (call (Value.ref 63) _) _ _ _); k_dflt (refine' v_call ?X ?T ?r ?_; (case X => k_in); (case T => exact Top.keeps (by k_asm) (Fr.keep (by k_asm))); (case r => k_room)); intro h' tk' t' hk';
  (with_reducible rename Fr _ _ _ _ => kF); (with_reducible rename News _ _ _ _ => kN); (have F' := Fr.keeps kF hk'); (have N' := News.grown kN hk'); (clear kF kN)))

theorem hls_call {h l sa : UInt64} {t1 t2 t3 : Tok} 
    (X : (hd.heap_39 w.params).In s.heap) (T : Top p loose mean mg mb s.heap) (hroom : d + 10 < recursionLimit) 
    (hQ : ∀ h' tk a x y z, Keep s.heap h' → s.heap.get? a = none → h'.get? a = some (tup3 (.float (hlsF h l sa).1 x) (.float (hlsF h l sa).2.1 y) (.float (hlsF h l sa).2.2 z)) → Q (.ref a) { s with heap := h', toks := tk }) :
    wpAny (model PR w) (AR d fr gs u) (call (.ref 56) [.float h t1, .float l t2, .float sa t3]) Q E s := by
  (have kz := kzz; revert kz; k_fill; intro kz; clear kz; refine' call_ro ?k1 ?k2 ?k6 ?k7 ?k8 ?k9 ?kB ?c2 ?c3 ?c4 ?c5 ?_; (case k1 => k_asm); (case k2 => k_asm); (case k6 => k_is); (case k7 => k_is); (case k8 => k_room); (case k9 => first | exact BindsTo.of_eq rfl | exact binds_K (by k_in) rfl (by k_is) rfl rfl rfl | fail "k_enter: no rule for these arguments"); (case c5 => decide); (case kB => exact locs rfl); (case c2 => exact rfl); (case c3 => exact rfl); (case c4 => exact rfl); k_whole; intro L' h' F' N'; (try dsimp only); (try k_fold))
  k_steps
  all_goals (try (k_unfold; dsimp only))
  all_goals
    (with_reducible rename News _ _ _ _ => kN)
    have kz := kN _ (List.Mem.head _)
    (with_reducible rename Fr _ _ _ _ => kF)
    clear X T
    simp only [hlsF, m2F, PySem.Builtin.Cmath.eq, leF, cZero, cOne, cTwo, cThird, cHalf, if_true, if_false, Bool.false_eq_true, *] at hQ
    exact hQ _ _ _ _ _ _ kF.keep kz.2.2 kz.1
end
end Mine
end
local macro_rules | `(tactic| walk_at "pad 2") => `(tactic| fail)
local macro_rules | `(tactic| walk_at "pad 3") => `(tactic| fail)
section
open PySem PySem.W PyProof.Rows PySem.Calls
set_option Elab.async false
set_option maxRecDepth 100000 
set_option maxHeartbeats 8000000 
namespace Mine
noncomputable def max3F (a b c : UInt64) : UInt64 := if PySem.Float64.gt b a = true then (if PySem.Float64.gt c b = true then c else b) else (if PySem.Float64.gt c a = true then c else a)
noncomputable def min3F (a b c : UInt64) : UInt64 := if PySem.Float64.lt b a = true then (if PySem.Float64.lt c b = true then c else b) else (if PySem.Float64.lt c a = true then c else a)
noncomputable def at3 (a b c : UInt64) (i : Nat) : UInt64 := match i with | 0 => a | 1 => b | _ => c
theorem at3_of {a b c : UInt64} {t u x : Tok} (i : Nat) (v : Value) (h : #[Value.float a t, .float b u, .float c x][i]? = some v) : ∃ y, v = .float (at3 a b c i) y := by
  match i, h with
  | 0, h => exact ⟨t, by simp at h; exact h.symm⟩
  | 1, h => exact ⟨u, by simp at h; exact h.symm⟩
  | 2, h => exact ⟨x, by simp at h; exact h.symm⟩
  | n + 3, h => simp at h
section
variable {prog : Program} {w : World} {A : Around} {E : Value → Shared → Prop} {s : Shared}
theorem max3_call {a b c : UInt64} {t u x : Tok} {Q : Value → Shared → Prop} (hh : A.handled = none)
    (h : ∀ h' tk y, Keep s.heap h' → Q (.float (max3F a b c) y) { s with heap := h', toks := tk }) :
    wpAny (model prog w) A (call (.builtin "max") [.float a t, .float b u, .float c x]) Q E s := by
  have hT : (s.heap.push { cls := .type "tuple", data := .seq #[.float a t, .float b u, .float c x] }).IsTuple s.heap.objs.size #[.float a t, .float b u, .float c x] := ⟨_, Heap.get?_push_size _ rfl, rfl, 0, rfl⟩
  refine call_max_three (wpAny_pyIter_tuple hT ?_)
  have hsz : (s.heap.push { cls := .type "tuple", data := .seq #[.float a t, .float b u, .float c x] }).objs.size = s.heap.objs.size + 1 := Heap.size_push ..
  refine ⟨_, [_, s.heap.objs.size], [_], _, _, _, fun i j => PySem.Float64.gt (at3 a b c i) (at3 a b c j), rfl, Walks.tuple (A := A.in1) hh _ s.heap.objs.size (by rw [hsz]; exact Nat.ne_of_lt (Nat.lt_succ_self _)) #[.float a t, .float b u, .float c x],
    ⟨⟨_, Heap.get?_push_size _ rfl, rfl, rfl⟩, hT.push _⟩, fun d hd => ?_, by simp, fun i j vi vj s' Q' E' hi hj hQ => ?_, fun v h' tk hP hk => ?_⟩
  · show d < ((s.heap.push _).push _).objs.size
    rw [Heap.size_push, hsz]
    rcases List.mem_cons.mp hd with rfl | hd
    · rw [hsz]; exact Nat.lt_succ_self _
    · rcases List.mem_cons.mp hd with rfl | hd
      · exact Nat.lt_succ_of_lt (Nat.lt_succ_self _)
      · cases hd
  · obtain ⟨_, rfl⟩ := at3_of i vi hi
    obtain ⟨_, rfl⟩ := at3_of j vj hj
    exact AutoFloatOps.gt_0 hQ
  · have hold : ∀ d o, s.heap.get? d = some o → h'.get? d = some o := fun d o e => by
      refine hk d o (fun hm => ?_) (Heap.get?_push_of_some _ (Heap.get?_push_of_some _ e))
      rcases List.mem_cons.mp hm with e1 | hm
      · have := Heap.lt_size e; rw [e1, hsz] at this; exact Nat.lt_irrefl _ (Nat.lt_of_succ_lt this)
      · cases hm
    obtain ⟨y, rfl⟩ := at3_of _ v hP
    have e : at3 a b c (argBest (fun i j => PySem.Float64.gt (at3 a b c i) (at3 a b c j)) (3 - 1)) = max3F a b c := by
      cases h1 : PySem.Float64.gt b a <;> cases h2 : PySem.Float64.gt c a <;> cases h3 : PySem.Float64.gt c b <;> simp [argBest, at3, max3F, h1, h2, h3]
    have := h h' tk y hold
    rw [← e] at this
    exact this
theorem min3_call {a b c : UInt64} {t u x : Tok} {Q : Value → Shared → Prop} (hh : A.handled = none)
    (h : ∀ h' tk y, Keep s.heap h' → Q (.float (min3F a b c) y) { s with heap := h', toks := tk }) :
    wpAny (model prog w) A (call (.builtin "min") [.float a t, .float b u, .float c x]) Q E s := by
  have hT : (s.heap.push { cls := .type "tuple", data := .seq #[.float a t, .float b u, .float c x] }).IsTuple s.heap.objs.size #[.float a t, .float b u, .float c x] := ⟨_, Heap.get?_push_size _ rfl, rfl, 0, rfl⟩
  refine call_min_three (wpAny_pyIter_tuple hT ?_)
  have hsz : (s.heap.push { cls := .type "tuple", data := .seq #[.float a t, .float b u, .float c x] }).objs.size = s.heap.objs.size + 1 := Heap.size_push ..
  refine ⟨_, [_, s.heap.objs.size], [_], _, _, _, fun i j => PySem.Float64.lt (at3 a b c i) (at3 a b c j), rfl, Walks.tuple (A := A.in1) hh _ s.heap.objs.size (by rw [hsz]; exact Nat.ne_of_lt (Nat.lt_succ_self _)) #[.float a t, .float b u, .float c x],
    ⟨⟨_, Heap.get?_push_size _ rfl, rfl, rfl⟩, hT.push _⟩, fun d hd => ?_, by simp, fun i j vi vj s' Q' E' hi hj hQ => ?_, fun v h' tk hP hk => ?_⟩
  · show d < ((s.heap.push _).push _).objs.size
    rw [Heap.size_push, hsz]
    rcases List.mem_cons.mp hd with rfl | hd
    · rw [hsz]; exact Nat.lt_succ_self _
    · rcases List.mem_cons.mp hd with rfl | hd
      · exact Nat.lt_succ_of_lt (Nat.lt_succ_self _)
      · cases hd
  · obtain ⟨_, rfl⟩ := at3_of i vi hi
    obtain ⟨_, rfl⟩ := at3_of j vj hj
    exact AutoFloatOps.lt_0 hQ
  · have hold : ∀ d o, s.heap.get? d = some o → h'.get? d = some o := fun d o e => by
      refine hk d o (fun hm => ?_) (Heap.get?_push_of_some _ (Heap.get?_push_of_some _ e))
      rcases List.mem_cons.mp hm with e1 | hm
      · have := Heap.lt_size e; rw [e1, hsz] at this; exact Nat.lt_irrefl _ (Nat.lt_of_succ_lt this)
      · cases hm
    obtain ⟨y, rfl⟩ := at3_of _ v hP
    have e : at3 a b c (argBest (fun i j => PySem.Float64.lt (at3 a b c i) (at3 a b c j)) (3 - 1)) = min3F a b c := by
      cases h1 : PySem.Float64.lt b a <;> cases h2 : PySem.Float64.lt c a <;> cases h3 : PySem.Float64.lt c b <;> simp [argBest, at3, min3F, h1, h2, h3]
    have := h h' tk y hold
    rw [← e] at this
    exact this
end
end Mine
end
section
open PySem PySem.W PyProof.Rows PySem.Calls
set_option Elab.async false
set_option maxRecDepth 100000 
set_option maxHeartbeats 8000000 
namespace Mine

noncomputable def rgbS (maxc minc : UInt64) : UInt64 :=
  if leF (Float64.div (Float64.add maxc minc) cTwo) cHalf = true then Float64.div (Float64.sub maxc minc) (Float64.add maxc minc)
  else Float64.div (Float64.sub maxc minc) (Float64.sub (Float64.sub cTwo maxc) minc)
noncomputable def rgbH (r g maxc rc gc bc : UInt64) : UInt64 :=
  if PySem.Builtin.Cmath.eq r maxc = true then Float64.sub bc gc else if PySem.Builtin.Cmath.eq g maxc = true then Float64.sub (Float64.add cTwo rc) bc else Float64.sub (Float64.add cFour gc) rc
noncomputable def rgbF1 (r g b maxc minc : UInt64) : UInt64 × UInt64 × UInt64 :=
  if PySem.Builtin.Cmath.eq minc maxc = true then (cZero, Float64.div (Float64.add maxc minc) cTwo, cZero) else
  (modF (Float64.div (rgbH r g maxc (Float64.div (Float64.sub maxc r) (Float64.sub maxc minc)) (Float64.div (Float64.sub maxc g) (Float64.sub maxc minc)) (Float64.div (Float64.sub maxc b) (Float64.sub maxc minc))) cSix) cOne,
    Float64.div (Float64.add maxc minc) cTwo, rgbS maxc minc)
noncomputable def rgbF (r g b : UInt64) : UInt64 × UInt64 × UInt64 := rgbF1 r g b (max3F r g b) (min3F r g b)
noncomputable def NZ (maxc minc x : UInt64) : Prop := (Float64.cmp minc maxc == some Ordering.eq) = true ∨ ¬ Float64.isZero x = true
section
variable {w : World} {mg mb : Str → Option Value} {p : Program} {loose : List Str} {mean : ExcName → Option Value}
    {s : Shared} {Q : Value → Shared → Prop} {E : Value → Shared → Prop} {d : Nat} {fr : Option (List Env)} {gs : Option (List Code)} {u : Nat}
local macro_rules | `(tactic| walk_at "call builtin:max") => `(tactic| (
  k_dflt (refine' max3_call rfl ?_); intro h' tk' t' hk';
  (with_reducible rename Fr _ _ _ _ => kF); (with_reducible rename News _ _ _ _ => kN); (have F' := Fr.keeps kF hk'); (have N' := News.grown kN hk'); (clear kF kN)))
local macro_rules | `(tactic| walk_at "call builtin:min") => `(tactic| (
  k_dflt (refine' min3_call rfl ?_); intro h' tk' t' hk';
  (with_reducible rename Fr _ _ _ _ => kF); (with_reducible rename News _ _ _ _ => kN); (have F' := Fr.keeps kF hk'); (have N' := News.grown kN hk'); (clear kF kN)))
local macro_rules | `(tactic| walk_at "binaryOp Div float float") => `(tactic| (
  k_dflt (refine' AutoFloatOps.truediv_1 ?hc0 ?_; (case hc0 => first | with_reducible exact isZero_two | decide +kernel | exact Or.resolve_left (by assumption) (by assumption) | exact Or.resolve_left (by assumption) (by simp only [*]; simp)); (try dsimp only [Made.post]))))

theorem rgb_call {r g b : UInt64} {t1 t2 t3 : Tok} 
    (X : (hd.heap_39 w.params).In s.heap) (T : Top p loose mean mg mb s.heap) (hroom : d + 10 < recursionLimit) 
    (hz1 : NZ (max3F r g b) (min3F r g b) (Float64.sub (max3F r g b) (min3F r g b)))
    (hz2 : NZ (max3F r g b) (min3F r g b) (Float64.add (max3F r g b) (min3F r g b)))
    (hz3 : NZ (max3F r g b) (min3F r g b) (Float64.sub (Float64.sub cTwo (max3F r g b)) (min3F r g b)))
    (hQ : ∀ h' tk a x y z, Keep s.heap h' → s.heap.get? a = none → h'.get? a = some (tup3 (.float (rgbF r g b).1 x) (.float (rgbF r g b).2.1 y) (.float (rgbF r g b).2.2 z)) → Q (.ref a) { s with heap := h', toks := tk }) :
    wpAny (model PR w) (AR d fr gs u) (call (.ref 49) [.float r t1, .float g t2, .float b t3]) Q E s := by
  simp only [NZ, cTwo] at hz1 hz2 hz3
  (have kz := kzz; revert kz; k_fill; intro kz; clear kz; refine' call_ro ?k1 ?k2 ?k6 ?k7 ?k8 ?k9 ?kB ?c2 ?c3 ?c4 ?c5 ?_; (case k1 => k_asm); (case k2 => k_asm); (case k6 => k_is); (case k7 => k_is); (case k8 => k_room); (case k9 => first | exact BindsTo.of_eq rfl | exact binds_K (by k_in) rfl (by k_is) rfl rfl rfl | fail "k_enter: no rule for these arguments"); (case c5 => decide); (case kB => exact locs rfl); (case c2 => exact rfl); (case c3 => exact rfl); (case c4 => exact rfl); k_whole; intro L' h' F' N'; (try dsimp only); (try k_fold))
  k_steps
  all_goals (try (k_unfold; dsimp only))
  all_goals
    (with_reducible rename News _ _ _ _ => kN)
    have kz := kN _ (List.Mem.head _)
    (with_reducible rename Fr _ _ _ _ => kF)
    clear X T hz1 hz2 hz3
    simp only [rgbF, rgbF1, rgbS, rgbH, modF, PySem.Builtin.Cmath.eq, leF, cZero, cOne, cTwo, cFour, cSix, cHalf, if_true, if_false, Bool.false_eq_true, *] at hQ
    exact hQ _ _ _ _ _ _ kF.keep kz.2.2 kz.1
end
end Mine
end
local macro_rules | `(tactic| walk_at "pad 4") => `(tactic| fail)
local macro_rules | `(tactic| walk_at "pad 5") => `(tactic| fail)
local macro_rules | `(tactic| walk_at "pad 6") => `(tactic| fail)
local macro_rules | `(tactic| walk_at "pad 7") => `(tactic| fail)
section
open PySem PySem.W PyProof.Rows PySem.Calls
set_option Elab.async false
set_option maxRecDepth 100000 
set_option maxHeartbeats 8000000 
namespace Mine

theorem news_add {h₀ h h' : Heap} {L a : Addr} {o : Obj} {m : Str → Option Value} {news : List (Addr × Obj)} (F : Fr h₀ L h m) (N : News h₀ L h news) (hk : Keep h h') (hf : h.get? a = none) (hg : h'.get? a = some o) : News h₀ L h' ((a, o) :: news) := by
  intro p hp
  rcases List.mem_cons.mp hp with rfl | hp
  · refine ⟨hg, fun e => ?_, ?_⟩
    · obtain ⟨oL, _, _, hL, _⟩ := F.ns
      rw [← e] at hL; rw [hf] at hL; cases hL
    · cases q : h₀.get? a with
      | none => rfl
      | some o' => have := F.keep _ _ q; rw [hf] at this; cases this
  · exact ⟨hk _ _ (N p hp).1, (N p hp).2⟩
theorem news_ne {h₀ h : Heap} {L a : Addr} {news : List (Addr × Obj)} (N : News h₀ L h news) (hf : h.get? a = none) : ∀ p ∈ news, p.1 ≠ a := fun p hp e => by
  have := (N p hp).1; rw [e, hf] at this; cases this

structure NZ3 (r g b : UInt64) : Prop where
  z1 : NZ (max3F r g b) (min3F r g b) (Float64.sub (max3F r g b) (min3F r g b))
  z2 : NZ (max3F r g b) (min3F r g b) (Float64.add (max3F r g b) (min3F r g b))
  z3 : NZ (max3F r g b) (min3F r g b) (Float64.sub (Float64.sub cTwo (max3F r g b)) (min3F r g b))
noncomputable abbrev seq3 (cls : String) (a b c : Value) : Obj := { cls := .type cls, data := .seq [a, b, c].toArray }
section
variable {w : World} {mg mb : Str → Option Value} {p : Program} {loose : List Str} {mean : ExcName → Option Value}
    {s : Shared} {Q : Value → Shared → Prop} {E : Value → Shared → Prop} {d : Nat} {fr : Option (List Env)} {gs : Option (List Code)} {u : Nat}
local macro_rules | `(tactic| walk_at "call ref") => `(tactic| (
  (with_reducible show wpAny _ _ (call (Value.ref 49) _) _ _ _); k_dflt (refine' rgb_call ?X ?T ?r ?z1 ?z2 ?z3 ?_; (case X => k_in); (case T => exact Top.keeps (by k_asm) (Fr.keep (by k_asm))); (case r => k_room); (case z1 => exact NZ3.z1 (by assumption)); (case z2 => exact NZ3.z2 (by assumption)); (case z3 => exact NZ3.z3 (by assumption))); intro h' tk' a' x' y' z' hk' hf' hg';
  (with_reducible rename Fr _ _ _ _ => kF); (with_reducible rename News _ _ _ _ => kN); (have F' := Fr.keeps kF hk'); (have N' := news_add kF kN hk' hf' hg'); (clear kF kN hf' hg')))
local macro_rules | `(tactic| walk_at "subscriptTail") => `(tactic| (k_here; (with_reducible show wpAny _ _ (subscriptTail _ _ (Value.ref _) (Value.int _ _)) _ _ _); k_dflt (refine' item_tupleT ?t ?a ?b ?c ?d ?_; (case t => exact IsTup.keeps (by assumption) (Fr.keep (by with_reducible assumption))); (case a => decide); (case b => decide); (case c => rfl); (case d => rfl); k_whole)))

structure ToldIs (r g b : UInt64) (i j k : Int) : Prop where
  nz : NZ3 r g b
  c0 : (Float64.cmpInt (rgbF r g b).1 0 == some Ordering.lt) = false
  c1 : (Float64.cmpInt (rgbF r g b).1 1 == some Ordering.gt) = false
  f1 : Float64.isFinite (Float64.mul (rgbF r g b).1 (Float64.ofInt (2 ^ Int.toNat 34))) = true
  f2 : Float64.isFinite (Float64.mul (rgbF r g b).2.1 (Float64.ofInt (2 ^ Int.toNat 33))) = true
  f3 : Float64.isFinite (Float64.mul (rgbF r g b).2.2 (Float64.ofInt (2 ^ Int.toNat 32))) = true
  r1 : (Flt.toInt Float64.nearestOf (Float64.mul (rgbF r g b).1 (Float64.ofInt (2 ^ Int.toNat 34)))).fmod (2 ^ Int.toNat 34) = i
  r2 : Flt.toInt Float64.nearestOf (Float64.mul (rgbF r g b).2.1 (Float64.ofInt (2 ^ Int.toNat 33))) = j
  r3 : Flt.toInt Float64.nearestOf (Float64.mul (rgbF r g b).2.2 (Float64.ofInt (2 ^ Int.toNat 32))) = k

theorem told_callT {c : Addr} {r g b : UInt64} {t1 t2 t3 : Tok} {i j k : Int}
    (X : (hd.heap_39 w.params).In s.heap) (T : Top p loose mean mg mb s.heap) (hroom : d + 20 < recursionLimit) 
    (hz : ToldIs r g b i j k) (hc : IsTup s.heap c [.float r t1, .float g t2, .float b t3].toArray)
    (hQ : ∀ h' tk a x y z, Keep s.heap h' → s.heap.get? a = none → h'.get? a = some (seq3 "list" (.int i x) (.int j y) (.int k z)) → Q (.ref a) { s with heap := h', toks := tk }) :
    wpAny (model PR w) (AR d fr gs u) (call (.ref 117) [.ref c]) Q E s := by
  obtain ⟨nz, c0, c1, f1, f2, f3, r1, r2, r3⟩ := hz
  (have kz := kzz; revert kz; k_fill; intro kz; clear kz; refine' call_ro ?k1 ?k2 ?k6 ?k7 ?k8 ?k9 ?kB ?c2 ?c3 ?c4 ?c5 ?_; (case k1 => k_asm); (case k2 => k_asm); (case k6 => k_is); (case k7 => k_is); (case k8 => k_room); (case k9 => first | exact BindsTo.of_eq rfl | exact binds_K (by k_in) rfl (by k_is) rfl rfl rfl | fail "k_enter: no rule for these arguments"); (case c5 => decide); (case kB => exact locs rfl); (case c2 => exact rfl); (case c3 => exact rfl); (case c4 => exact rfl); k_whole; intro L' h' F' N'; (try dsimp only); (try k_fold))
  k_steps
  all_goals (first | exact absurd (show (Float64.cmpInt (rgbF r g b).1 0 == some Ordering.lt) = true by assumption) (by rw [c0]; decide) | exact absurd (show (Float64.cmpInt (rgbF r g b).1 1 == some Ordering.gt) = true by assumption) (by rw [c1]; decide) | (try (k_unfold; dsimp only)))
  all_goals
    (with_reducible rename News _ _ _ _ => kN)
    have kz := kN _ (List.Mem.head _)
    (with_reducible rename Fr _ _ _ _ => kF)
    clear X T
    rw [← r1, ← r2, ← r3] at hQ
    exact hQ _ _ _ _ _ _ kF.keep kz.2.2 kz.1
end
end Mine
end
local macro_rules | `(tactic| walk_at "pad 8") => `(tactic| fail)
local macro_rules | `(tactic| walk_at "pad 9") => `(tactic| fail)
local macro_rules | `(tactic| walk_at "pad 10") => `(tactic| fail)
section
open PySem PySem.W PyProof.Rows PySem.Calls
set_option Elab.async false
set_option maxRecDepth 100000 
set_option maxHeartbeats 8000000 
namespace Mine
section
variable {w : World} {mg mb : Str → Option Value} {p : Program} {loose : List Str} {mean : ExcName → Option Value}
    {s : Shared} {Q : Value → Shared → Prop} {E : Value → Shared → Prop} {d : Nat} {fr : Option (List Env)} {gs : Option (List Code)} {u : Nat}
local macro_rules | `(tactic| walk_at "call ref") => `(tactic| (
  (with_reducible show wpAny _ _ (call (Value.ref 49) _) _ _ _); k_dflt (refine' rgb_call ?X ?T ?r ?z1 ?z2 ?z3 ?_; (case X => k_in); (case T => exact Top.keeps (by k_asm) (Fr.keep (by k_asm))); (case r => k_room); (case z1 => exact NZ3.z1 (by assumption)); (case z2 => exact NZ3.z2 (by assumption)); (case z3 => exact NZ3.z3 (by assumption))); intro h' tk' a' x' y' z' hk' hf' hg';
  (with_reducible rename Fr _ _ _ _ => kF); (with_reducible rename News _ _ _ _ => kN); (have F' := Fr.keeps kF hk'); (have N' := news_add kF kN hk' hf' hg'); (clear kF kN hf' hg')))
local macro_rules | `(tactic| walk_at "subscriptTail") => `(tactic| (k_here; (with_reducible show wpAny _ _ (subscriptTail _ _ (Value.ref _) (Value.int _ _)) _ _ _); k_dflt (refine' item_litK ?t ?a ?b ?c ?_ ?e; (case t => exact stays_list (Fr.keep (by with_reducible assumption)) (by assumption)); (case a => decide); (case b => decide); (case c => rfl); (case e => with_unfolding_all rfl); k_whole)))

theorem told_callL {c : Addr} {r g b : UInt64} {t1 t2 t3 : Tok} {i j k : Int}
    (X : (hd.heap_39 w.params).In s.heap) (T : Top p loose mean mg mb s.heap) (hroom : d + 20 < recursionLimit) 
    (hz : ToldIs r g b i j k) (hc : s.heap.IsList c [.float r t1, .float g t2, .float b t3].toArray)
    (hQ : ∀ h' tk a x y z, Keep s.heap h' → s.heap.get? a = none → h'.get? a = some (seq3 "list" (.int i x) (.int j y) (.int k z)) → Q (.ref a) { s with heap := h', toks := tk }) :
    wpAny (model PR w) (AR d fr gs u) (call (.ref 117) [.ref c]) Q E s := by
  obtain ⟨nz, c0, c1, f1, f2, f3, r1, r2, r3⟩ := hz
  (have kz := kzz; revert kz; k_fill; intro kz; clear kz; refine' call_ro ?k1 ?k2 ?k6 ?k7 ?k8 ?k9 ?kB ?c2 ?c3 ?c4 ?c5 ?_; (case k1 => k_asm); (case k2 => k_asm); (case k6 => k_is); (case k7 => k_is); (case k8 => k_room); (case k9 => first | exact BindsTo.of_eq rfl | exact binds_K (by k_in) rfl (by k_is) rfl rfl rfl | fail "k_enter: no rule for these arguments"); (case c5 => decide); (case kB => exact locs rfl); (case c2 => exact rfl); (case c3 => exact rfl); (case c4 => exact rfl); k_whole; intro L' h' F' N'; (try dsimp only); (try k_fold))
  k_steps
  all_goals (first | exact absurd (show (Float64.cmpInt (rgbF r g b).1 0 == some Ordering.lt) = true by assumption) (by rw [c0]; decide) | exact absurd (show (Float64.cmpInt (rgbF r g b).1 1 == some Ordering.gt) = true by assumption) (by rw [c1]; decide) | (try (k_unfold; dsimp only)))
  all_goals
    (with_reducible rename News _ _ _ _ => kN)
    have kz := kN _ (List.Mem.head _)
    (with_reducible rename Fr _ _ _ _ => kF)
    clear X T
    rw [← r1, ← r2, ← r3] at hQ
    exact hQ _ _ _ _ _ _ kF.keep kz.2.2 kz.1
end
end Mine
end
local macro_rules | `(tactic| walk_at "pad 11") => `(tactic| fail)
local macro_rules | `(tactic| walk_at "pad 12") => `(tactic| fail)
local macro_rules | `(tactic| walk_at "pad 13") => `(tactic| fail)
section
open PySem PySem.W PyProof.Rows PySem.Calls
set_option Elab.async false
set_option maxRecDepth 100000 
set_option maxHeartbeats 8000000 
namespace Mine

noncomputable abbrev nLo : Str := Str.ofString "lo"
noncomputable abbrev nHi : Str := Str.ofString "hi"
noncomputable abbrev nMid : Str := Str.ofString "mid"
section
variable {prog : Program} {w : World} {A : Around} {E : Value → Shared → Prop} {Q : Flow → Shared → Prop} {s : Shared} {env : Env} {h₀ : Heap} {L : Addr}
noncomputable def LoHiEnd (h₀ : Heap) (L : Addr) (s : Shared) (news : List (Addr × Obj)) (m₀ : Str → Option Value) (P : Int → Int → Prop) (lo hi : Int) (f : Flow) (s₃ : Shared) : Prop :=
  f = .next ∧ ∃ h' tk m' lo' hi' t1 t2, s₃ = { s with heap := h', toks := tk } ∧ Fr h₀ L h' m' ∧ News h₀ L h' news ∧ m' nLo = some (.int lo' t1) ∧ m' nHi = some (.int hi' t2) ∧
    (∀ y, y ≠ nLo → y ≠ nHi → y ≠ nMid → m' y = m₀ y) ∧ P lo' hi' ∧ lo ≤ lo' ∧ hi' ≤ hi ∧ lo' - hi' > lo - hi ∧ lo' ≤ hi'
theorem LoHiEnd.intro {news : List (Addr × Obj)} {m₀ m' : Str → Option Value} {P : Int → Int → Prop} {lo hi lo' hi' : Int} {t1 t2 : Tok} {h' : Heap} {tk : Nat}
    (F : Fr h₀ L h' m') (N : News h₀ L h' news) (h1 : m' nLo = some (.int lo' t1)) (h2 : m' nHi = some (.int hi' t2)) (h3 : ∀ y, y ≠ nLo → y ≠ nHi → y ≠ nMid → m' y = m₀ y) (h4 : P lo' hi') (h5 : lo ≤ lo' ∧ hi' ≤ hi ∧ lo' - hi' > lo - hi ∧ lo' ≤ hi') :
    LoHiEnd h₀ L s news m₀ P lo hi .next { s with heap := h', toks := tk } := ⟨rfl, h', tk, m', lo', hi', t1, t2, rfl, F, N, h1, h2, h3, h4, h5⟩
theorem while_lohi {test : Expr} {body : List Stmt} {pos : Pos} {m₀ : Str → Option Value} {news : List (Addr × Obj)} {lo₀ hi₀ : Int} {t₁ t₂ : Tok} (P : Int → Int → Prop)
    (F : Fr h₀ L s.heap m₀) (N : News h₀ L s.heap news) (hlo : m₀ nLo = some (.int lo₀ t₁)) (hhi : m₀ nHi = some (.int hi₀ t₂)) (hP : P lo₀ hi₀) (hle : lo₀ ≤ hi₀)
    (turn : ∀ lo hi t1 t2 um h₁ tk₁, P lo hi → lo ≤ hi → Fr h₀ L h₁ (fun y => if y = nLo then some (.int lo t1) else if y = nHi then some (.int hi t2) else if y = nMid then um else m₀ y) → News h₀ L h₁ news →
      wpAny (model prog w) A (isTrue test env (eval test env)) (fun b s₂ =>
        if b = true then wpAny (model prog w) A (execs body env) (LoHiEnd h₀ L s news m₀ P lo hi) E s₂ else Q .next s₂) E { s with heap := h₁, toks := tk₁ })
    (hE : PassesOwn (model prog w) A env E := by passes_own) :
    wpAny (model prog w) A (exec (.While test body [] pos) env) Q E s := by
  refine While_inv (m := m₀) (news := news) (n₀ := (hi₀ - lo₀).toNat) (fun n m₁ news₁ => news₁ = news ∧ ∃ lo hi t1 t2, n = (hi - lo).toNat ∧ lo ≤ hi ∧ P lo hi ∧ m₁ nLo = some (.int lo t1) ∧ m₁ nHi = some (.int hi t2) ∧ (∀ y, y ≠ nLo → y ≠ nHi → y ≠ nMid → m₁ y = m₀ y)) F N
    ⟨rfl, lo₀, hi₀, t₁, t₂, rfl, hle, hP, hlo, hhi, fun _ _ _ _ => rfl⟩ ?_ hE
  rintro n m₁ news₁ h₁ tk₁ F₁ N₁ ⟨rfl, lo, hi, t1, t2, hn, hle', hP', hl', hh', hm'⟩
  have e : m₁ = fun y => if y = nLo then some (.int lo t1) else if y = nHi then some (.int hi t2) else if y = nMid then m₁ nMid else m₀ y := by
    funext y
    by_cases e1 : y = nLo
    · rw [e1, if_pos rfl, hl']
    · by_cases e2 : y = nHi
      · rw [e2, if_neg (by decide), if_pos rfl, hh']
      · by_cases e3 : y = nMid
        · rw [e3, if_neg (by decide), if_neg (by decide), if_pos rfl]
        · rw [if_neg e1, if_neg e2, if_neg e3, hm' y e1 e2 e3]
  rw [e] at F₁
  refine wpAny_mono (turn lo hi t1 t2 (m₁ nMid) h₁ tk₁ hP' hle' F₁ N₁) (fun b s₂ h₂ => ?_) fun _ _ x => x
  cases b with
  | false => exact h₂
  | true =>
    simp only [if_true] at h₂ ⊢
    refine wpAny_mono h₂ (fun f s₃ h₃ => ?_) fun _ _ x => x
    obtain ⟨rfl, h', tk, m', lo', hi', u1, u2, rfl, F', N', a1, a2, a3, a4, a5, a6, a7, a8⟩ := h₃
    exact .intro F' N' (n' := (hi' - lo').toNat) (by omega) ⟨rfl, lo', hi', u1, u2, rfl, a8, a4, a1, a2, a3⟩
end
noncomputable def RightAt (ns : List Int) (x : Int) (lo hi : Int) : Prop := 0 ≤ lo ∧ hi ≤ ns.length ∧ (∀ i : Nat, (i : Int) < lo → ns.getD i 0 ≤ x) ∧ (∀ i : Nat, hi ≤ (i : Int) → i < ns.length → x < ns.getD i 0)
noncomputable def LeftAt (ns : List Int) (x : Int) (lo hi : Int) : Prop := 0 ≤ lo ∧ hi ≤ ns.length ∧ (∀ i : Nat, (i : Int) < lo → ns.getD i 0 < x) ∧ (∀ i : Nat, hi ≤ (i : Int) → i < ns.length → x ≤ ns.getD i 0)
noncomputable def Sorted (ns : List Int) : Prop := ∀ i j : Nat, i ≤ j → j < ns.length → ns.getD i 0 ≤ ns.getD j 0
theorem fdiv2 (a : Int) : a.fdiv 2 = a / 2 := by rw [Int.fdiv_eq_ediv_of_nonneg _ (by decide)]
theorem right_hi {ns : List Int} {x lo hi : Int} (S : Sorted ns) (P : RightAt ns x lo hi) (h : lo < hi) (hx : x < ns.getD ((lo + hi).fdiv 2).toNat 0) : RightAt ns x lo ((lo + hi).fdiv 2) := by
  rw [fdiv2] at *
  obtain ⟨h0, h1, h2, h3⟩ := P
  refine ⟨h0, by omega, h2, fun i hi' hl => ?_⟩
  have := S ((lo + hi) / 2).toNat i (by omega) hl
  omega
theorem right_lo {ns : List Int} {x lo hi : Int} (S : Sorted ns) (P : RightAt ns x lo hi) (h : lo < hi) (hx : ¬ x < ns.getD ((lo + hi).fdiv 2).toNat 0) : RightAt ns x ((lo + hi).fdiv 2 + 1) hi := by
  rw [fdiv2] at *
  obtain ⟨h0, h1, h2, h3⟩ := P
  refine ⟨by omega, h1, fun i hi' => ?_, h3⟩
  have := S i ((lo + hi) / 2).toNat (by omega) (by omega)
  omega
theorem left_lo {ns : List Int} {x lo hi : Int} (S : Sorted ns) (P : LeftAt ns x lo hi) (h : lo < hi) (hx : ns.getD ((lo + hi).fdiv 2).toNat 0 < x) : LeftAt ns x ((lo + hi).fdiv 2 + 1) hi := by
  rw [fdiv2] at *
  obtain ⟨h0, h1, h2, h3⟩ := P
  refine ⟨by omega, h1, fun i hi' => ?_, h3⟩
  have := S i ((lo + hi) / 2).toNat (by omega) (by omega)
  omega
theorem left_hi {ns : List Int} {x lo hi : Int} (S : Sorted ns) (P : LeftAt ns x lo hi) (h : lo < hi) (hx : ¬ ns.getD ((lo + hi).fdiv 2).toNat 0 < x) : LeftAt ns x lo ((lo + hi).fdiv 2) := by
  rw [fdiv2] at *
  obtain ⟨h0, h1, h2, h3⟩ := P
  refine ⟨h0, by omega, h2, fun i hi' hl => ?_⟩
  have := S ((lo + hi) / 2).toNat i (by omega) hl
  omega
section
variable {prog : Program} {w : World} {A : Around} {E : Value → Shared → Prop} {s : Shared}
theorem item_ints {value slice : PySem.Expr} {l : Addr} {vs : List Value} {ns : List Int} {k : Int} {u : Tok} {Q : Value → Shared → Prop} (hl : s.heap.IsList l vs.toArray) (hi : IntsAre vs ns) (hk : 0 ≤ k ∧ k < ns.length ∧ ns.length ≤ 1000) 
    (h : ∀ t, Q (.int (ns.getD k.toNat 0) t) s)
    (hs : subscripted slice false (.ref l) (.int k u) = operate [.ref l, .int k u] (getItem (.ref l) (.int k u)) := by with_unfolding_all rfl) :
    wpAny (model prog w) A (subscriptTail value slice (.ref l) (.int k u)) Q E s := by
  have h1 : ns[k.toNat]? = some (ns.getD k.toNat 0) := by rw [List.getD_eq_getElem?_getD, List.getElem?_eq_getElem (by omega)]; rfl
  obtain ⟨t, hx⟩ := hi.get k.toNat _ h1
  exact item_litK hl hk.1 (by omega) hx (h t) hs
end
section
variable {w : World} {mg mb : Str → Option Value} {p : Program} {loose : List Str} {mean : ExcName → Option Value}
    {s : Shared} {Q : Value → Shared → Prop} {E : Value → Shared → Prop} {d : Nat} {fr : Option (List Env)} {gs : Option (List Code)} {u : Nat}
theorem midR {ns : List Int} {x lo hi : Int} (P : RightAt ns x lo hi) (h : lo < hi) (hl : ns.length ≤ 1000) : 0 ≤ (lo + hi).fdiv 2 ∧ (lo + hi).fdiv 2 < ns.length ∧ ns.length ≤ 1000 := by
  rw [fdiv2]; obtain ⟨a, b, _⟩ := P; omega
theorem midL {ns : List Int} {x lo hi : Int} (P : LeftAt ns x lo hi) (h : lo < hi) (hl : ns.length ≤ 1000) : 0 ≤ (lo + hi).fdiv 2 ∧ (lo + hi).fdiv 2 < ns.length ∧ ns.length ≤ 1000 := by
  rw [fdiv2]; obtain ⟨a, b, _⟩ := P; omega
local macro_rules | `(tactic| walk_at "subscriptTail Name Name ref int") => `(tactic| (k_here; k_dflt (refine' item_ints ?t ?i ?k ?_ ?e; (case t => exact stays_list (Fr.keep (by with_reducible assumption)) (by assumption)); (case i => assumption); (case k => first | exact midR (by assumption) (by assumption) (by assumption) | exact midL (by assumption) (by assumption) (by assumption)); (case e => with_unfolding_all rfl); k_whole); intro t'))
structure WordR (ns : List Int) (x : Int) : Prop where
  tt : True
theorem right_start {ns : List Int} {x : Int} (_ : WordR ns x) : RightAt ns x 0 ns.length := ⟨by omega, by omega, fun i h => by omega, fun i h h' => by omega⟩
structure WordL (ns : List Int) (x : Int) : Prop where
  tt : True
theorem left_start {ns : List Int} {x : Int} (_ : WordL ns x) : LeftAt ns x 0 ns.length := ⟨by omega, by omega, fun i h => by omega, fun i h h' => by omega⟩
local macro_rules | `(tactic| walk_at "exec While Compare cons nil") => `(tactic| (
   k_here; (with_reducible rename Fr _ _ _ _ => kF); (with_reducible rename News _ _ _ _ => kN);
   k_dflt (first | refine' while_lohi (RightAt _ _) kF kN rfl rfl (right_start (by assumption)) ?l ?_ | refine' while_lohi (LeftAt _ _) kF kN rfl rfl (left_start (by assumption)) ?l ?_); (case l => omega); intro lo' hi' t1' t2' um' h' tk' hP' hle' F' N'; (clear kF kN); (try dsimp only); (try k_fold)))

theorem right_end {ns : List Int} {x lo hi : Int} (P : RightAt ns x lo hi) (h : lo ≤ hi) (h' : ¬ lo < hi) : RightAt ns x lo lo := by
  have e : lo = hi := by omega
  subst e; exact P
theorem left_end {ns : List Int} {x lo hi : Int} (P : LeftAt ns x lo hi) (h : lo ≤ hi) (h' : ¬ lo < hi) : LeftAt ns x lo lo := by
  have e : lo = hi := by omega
  subst e; exact P
theorem mid_hi {lo hi : Int} (h : lo < hi) : lo ≤ lo ∧ (lo + hi).fdiv 2 ≤ hi ∧ lo - (lo + hi).fdiv 2 > lo - hi ∧ lo ≤ (lo + hi).fdiv 2 := by rw [fdiv2]; omega
theorem mid_lo {lo hi : Int} (h : lo < hi) : lo ≤ (lo + hi).fdiv 2 + 1 ∧ hi ≤ hi ∧ (lo + hi).fdiv 2 + 1 - hi > lo - hi ∧ (lo + hi).fdiv 2 + 1 ≤ hi := by rw [fdiv2]; omega

theorem bisr_call {a : Addr} {vs : List Value} {ns : List Int} {x : Int} {t1 : Tok} 
    (X : (hd.heap_39 w.params).In s.heap) (T : Top p loose mean mg mb s.heap) (hroom : d + 20 < recursionLimit) 
    (hl : s.heap.IsList a vs.toArray) (hi : IntsAre vs ns) (hlen : ns.length ≤ 1000) (hS : Sorted ns)
    (hQ : ∀ h' tk t k, Keep s.heap h' → RightAt ns x k k → Q (.int k t) { s with heap := h', toks := tk }) :
    wpAny (model PR w) (AR d fr gs u) (call (.ref 92) [.ref a, .int x t1]) Q E s := by
  have hW : WordR ns x := ⟨trivial⟩
  (have kz := kzz; revert kz; k_fill; intro kz; clear kz; refine' call_ro ?k1 ?k2 ?k6 ?k7 ?k8 ?k9 ?kB ?c2 ?c3 ?c4 ?c5 ?_; (case k1 => k_asm); (case k2 => k_asm); (case k6 => k_is); (case k7 => k_is); (case k8 => k_room); (case k9 => first | exact BindsTo.of_eq rfl | exact binds_K (by k_in) rfl (by k_is) rfl rfl rfl | (refine' kp_binds ?kx ?ke; (case kx => k_in); (case ke => exact fun _ => rfl)) | fail "k_enter: no rule for these arguments"); (case c5 => decide); (case kB => exact locs rfl); (case c2 => exact rfl); (case c3 => exact rfl); (case c4 => exact rfl); k_whole; intro L' h' F' N'; (try dsimp only); (try k_fold))
  k_steps
  · exact LoHiEnd.intro (by assumption) (by assumption) rfl rfl (fun y h1 h2 h3 => by simp only [if_neg h1, if_neg h2, if_neg h3]) (right_hi hS (by assumption) (by assumption) (by assumption)) (mid_hi (by assumption))
  · exact LoHiEnd.intro (by assumption) (by assumption) rfl rfl (fun y h1 h2 h3 => by simp only [if_neg h1, if_neg h2, if_neg h3]) (right_lo hS (by assumption) (by assumption) (by assumption)) (mid_lo (by assumption))
  · exact hQ _ _ _ _ (Fr.keep (by with_reducible assumption)) (right_end (by assumption) (by assumption) (by assumption))

theorem bisl_call {a : Addr} {vs : List Value} {ns : List Int} {x : Int} {t1 t2 : Tok} 
    (X : (hd.heap_39 w.params).In s.heap) (T : Top p loose mean mg mb s.heap) (hroom : d + 20 < recursionLimit) 
    (hl : s.heap.IsList a vs.toArray) (hi : IntsAre vs ns) (hlen : ns.length ≤ 1000) (hS : Sorted ns)
    (hQ : ∀ h' tk t k, Keep s.heap h' → LeftAt ns x k k → Q (.int k t) { s with heap := h', toks := tk }) :
    wpAny (model PR w) (AR d fr gs u) (call (.ref 110) [.ref a, .int x t1]) Q E s := by
  have hW : WordL ns x := ⟨trivial⟩
  (have kz := kzz; revert kz; k_fill; intro kz; clear kz; refine' call_ro ?k1 ?k2 ?k6 ?k7 ?k8 ?k9 ?kB ?c2 ?c3 ?c4 ?c5 ?_; (case k1 => k_asm); (case k2 => k_asm); (case k6 => k_is); (case k7 => k_is); (case k8 => k_room); (case k9 => first | exact BindsTo.of_eq rfl | exact binds_K (by k_in) rfl (by k_is) rfl rfl rfl | (refine' kp_binds ?kx ?ke; (case kx => k_in); (case ke => exact fun _ => rfl)) | fail "k_enter: no rule for these arguments"); (case c5 => decide); (case kB => exact locs rfl); (case c2 => exact rfl); (case c3 => exact rfl); (case c4 => exact rfl); k_whole; intro L' h' F' N'; (try dsimp only); (try k_fold))
  k_steps
  · exact LoHiEnd.intro (by assumption) (by assumption) rfl rfl (fun y h1 h2 h3 => by simp only [if_neg h1, if_neg h2, if_neg h3]) (left_lo hS (by assumption) (by assumption) (by assumption)) (mid_lo (by assumption))
  · exact LoHiEnd.intro (by assumption) (by assumption) rfl rfl (fun y h1 h2 h3 => by simp only [if_neg h1, if_neg h2, if_neg h3]) (left_hi hS (by assumption) (by assumption) (by assumption)) (mid_hi (by assumption))
  · exact hQ _ _ _ _ (Fr.keep (by with_reducible assumption)) (left_end (by assumption) (by assumption) (by assumption))

theorem bisl_call2 {a : Addr} {vs : List Value} {ns : List Int} {x : Int} {t1 t2 : Tok} 
    (X : (hd.heap_39 w.params).In s.heap) (T : Top p loose mean mg mb s.heap) (hroom : d + 20 < recursionLimit) 
    (hl : s.heap.IsList a vs.toArray) (hi : IntsAre vs ns) (hlen : ns.length ≤ 1000) (hS : Sorted ns)
    (hQ : ∀ h' tk t k, Keep s.heap h' → LeftAt ns x k k → Q (.int k t) { s with heap := h', toks := tk }) :
    wpAny (model PR w) (AR d fr gs u) (call (.ref 110) [.ref a, .int x t1, .int 0 t2, .none]) Q E s := by
  have hW : WordL ns x := ⟨trivial⟩
  (have kz := kzz; revert kz; k_fill; intro kz; clear kz; refine' call_ro ?k1 ?k2 ?k6 ?k7 ?k8 ?k9 ?kB ?c2 ?c3 ?c4 ?c5 ?_; (case k1 => k_asm); (case k2 => k_asm); (case k6 => k_is); (case k7 => k_is); (case k8 => k_room); (case k9 => first | exact BindsTo.of_eq rfl | exact binds_K (by k_in) rfl (by k_is) rfl rfl rfl | (refine' kp_binds ?kx ?ke; (case kx => k_in); (case ke => exact fun _ => rfl)) | fail "k_enter: no rule for these arguments"); (case c5 => decide); (case kB => exact locs rfl); (case c2 => exact rfl); (case c3 => exact rfl); (case c4 => exact rfl); k_whole; intro L' h' F' N'; (try dsimp only); (try k_fold))
  k_steps
  · exact LoHiEnd.intro (by assumption) (by assumption) rfl rfl (fun y h1 h2 h3 => by simp only [if_neg h1, if_neg h2, if_neg h3]) (left_lo hS (by assumption) (by assumption) (by assumption)) (mid_lo (by assumption))
  · exact LoHiEnd.intro (by assumption) (by assumption) rfl rfl (fun y h1 h2 h3 => by simp only [if_neg h1, if_neg h2, if_neg h3]) (left_hi hS (by assumption) (by assumption) (by assumption)) (mid_hi (by assumption))
  · exact hQ _ _ _ _ (Fr.keep (by with_reducible assumption)) (left_end (by assumption) (by assumption) (by assumption))
end
end Mine
end
local macro_rules | `(tactic| walk_at "pad 14") => `(tactic| fail)
local macro_rules | `(tactic| walk_at "pad 15") => `(tactic| fail)
local macro_rules | `(tactic| walk_at "pad 16") => `(tactic| fail)
section
open PySem PySem.W PyProof.Rows PySem.Calls
set_option Elab.async false
set_option maxRecDepth 100000 
set_option maxHeartbeats 8000000 
namespace Mine

theorem call_rw {w : World} {mg mb : Str → Option Value} {p : Program} {loose : List Str} {mean : ExcName → Option Value} {s : Shared} {Q : Value → Shared → Prop} {E : Value → Shared → Prop} {K : Frag} {prog : Program} {A : Around} {h₀ : Heap} {news : List (Addr × Obj)}
    {name qual : Str} {params : Arguments} {body : List Stmt} {scope : Scope} {dV kV doc pm cdv ct oc : Value} {an od : Option Addr} {osl : Array (Option Value)} {f : Addr} {args : List Value} {kw : List (Str × Value)} {binds : List (Str × Value)}
    (X₀ : K.In h₀) (T : Top p loose mean mg mb h₀) (hk₀ : Keep h₀ s.heap) (hN : ∀ p ∈ news, s.heap.get? p.1 = some p.2 ∧ h₀.get? p.1 = none)
    (ho : K.lookup f = some ⟨oc, od, .func (fnOf name qual params body scope dV kV doc pm an cdv ct), osl⟩) (hcd : codeIn K cdv qual = true) (hroom : A.depth < recursionLimit)
    (hbind : BindsTo s (fnOf name qual params body scope dV kV doc pm an cdv ct) ⟨args, kw⟩ binds) (hloc : ∀ y ∈ binds, scope.names.lookup y.1 = some .local)
    (hco : scope.isCoroutine = false) (hgen : scope.isGenerator = false) (hk : scope.kind = .function)
    (hcell : ∀ x ∈ scope.names, x.2 ≠ .cell)
    (h : ∀ g L' h₁, (∀ b o, s.heap.get? b = some o → b ∉ news.map (·.1) → g.get? b = some o) → Fr g L' h₁ (fun y => binds.reverse.lookup y) → News g L' h₁ news → K.In g → Top p loose mean mg mb g →
      wpAny (model prog w) (A.deeper (envOf qual scope L' f cdv)) (execs body (envOf qual scope L' f cdv))
        (fun fl s' => Q (match fl with | .ret v => v | _ => .none) s') (fun _ _ => False)
        { s with heap := h₁, toks := s.toks + binds.length })
    : wpAny (model prog w) A (call (.ref f) args kw) Q E s := by
  refine wpAny_call ?_
  have X := X₀.keeps hk₀
  refine codeAny_call_def (fd := fnOf name qual params body scope dV kV doc pm an cdv ct) (body := body) (binds := binds) hroom (X _ _ ho) rfl (T.nolimit.keeps hk₀) (codeRec_of X hcd) rfl hbind hcell hloc (fun h₁ hns hk₁ => ?_) hco hgen hk
  have nm : ∀ b o, h₀.get? b = some o → b ∉ news.map (·.1) := fun b o e q => by
    obtain ⟨p, hp, rfl⟩ := List.mem_map.mp q
    rw [(hN p hp).2] at e; cases e
  have st : Keep h₀ (hideAll s.heap (news.map (·.1))) := fun b o e => hideAll_get _ (hk₀ b o e) (nm b o e)
  have X' : K.In (hideAll s.heap (news.map (fun p : Addr × Obj => p.1))) := X₀.keeps st
  have T' : Top p loose mean mg mb (hideAll s.heap (news.map (fun p : Addr × Obj => p.1))) := T.keeps st
  refine wpAny_mono (h (hideAll s.heap (news.map (·.1))) s.heap.objs.size h₁ (fun b o e n => hideAll_get _ e n) ⟨hns, fun b o e => hk₁ b o (of_hideAll _ e), Nat.le_of_eq (hideAll_size _ _)⟩
    (fun p hp => ⟨hk₁ _ _ (hN p hp).1, Nat.ne_of_lt (Heap.lt_size (hN p hp).1), hideAll_none _ (List.mem_map_of_mem hp)⟩) X' T') (fun fl s' x => x) fun _ _ x => x.elim


noncomputable def insI (ns : List Int) (k : Int) (x : Int) : List Int := ns.take k.toNat ++ x :: ns.drop k.toNat
theorem insI_perm (ns : List Int) (k x : Int) : (insI ns k x).Perm (x :: ns) := by
  unfold insI
  refine List.perm_middle.trans ?_
  rw [List.take_append_drop]
theorem insI_getD (ns : List Int) (k x : Int) (hk : 0 ≤ k) (hl : k ≤ ns.length) (i : Nat) : (insI ns k x).getD i 0 = if (i : Int) < k then ns.getD i 0 else if (i : Int) = k then x else ns.getD (i - 1) 0 := by
  unfold insI
  rw [List.getD_eq_getElem?_getD, List.getElem?_append, List.length_take]
  by_cases h1 : (i : Int) < k
  · rw [if_pos h1, if_pos (by omega), List.getElem?_take, if_pos (by omega), List.getD_eq_getElem?_getD]
  · rw [if_neg h1, if_neg (by omega)]
    by_cases h2 : (i : Int) = k
    · rw [if_pos h2, show i - min k.toNat ns.length = 0 by omega]; rfl
    · rw [if_neg h2, show i - min k.toNat ns.length = (i - 1 - k.toNat) + 1 by omega, List.getElem?_cons_succ, List.getElem?_drop, List.getD_eq_getElem?_getD, show k.toNat + (i - 1 - k.toNat) = i - 1 by omega]
theorem insI_length (ns : List Int) (k x : Int) : (insI ns k x).length = ns.length + 1 := by
  rw [(insI_perm ns k x).length_eq]; rfl
theorem insI_sorted {ns : List Int} {k x : Int} (S : Sorted ns) (P : LeftAt ns x k k) : Sorted (insI ns k x) := by
  obtain ⟨h0, h1, h2, h3⟩ := P
  intro i j hij hj
  rw [insI_length] at hj
  rw [insI_getD ns k x h0 h1, insI_getD ns k x h0 h1]
  by_cases a1 : (i : Int) < k
  · rw [if_pos a1]
    by_cases b1 : (j : Int) < k
    · rw [if_pos b1]; exact S i j hij (by omega)
    · rw [if_neg b1]
      have := h2 i a1
      by_cases b2 : (j : Int) = k
      · rw [if_pos b2]; omega
      · rw [if_neg b2]
        exact S i (j - 1) (by omega) (by omega)
  · rw [if_neg a1, if_neg (show ¬ (j : Int) < k by omega)]
    by_cases a2 : (i : Int) = k
    · rw [if_pos a2]
      by_cases b2 : (j : Int) = k
      · rw [if_pos b2]; exact Int.le_refl _
      · rw [if_neg b2]
        exact h3 (j - 1) (by omega) (by omega)
    · rw [if_neg a2, if_neg (show ¬ (j : Int) = k by omega)]
      exact S (i - 1) (j - 1) (by omega) (by omega)
theorem ins_ints {vs : List Value} {ns : List Int} (h : IntsAre vs ns) {k : Int} {x : Int} {t : Tok} (h0 : 0 ≤ k) (hl : k ≤ ns.length) : IntsAre (kl_ins vs k (.int x t)) (insI ns k x) := by
  have e := h.length
  unfold kl_ins insI
  rw [if_neg (by omega), show min k.toNat vs.length = k.toNat by omega]
  exact (h.take _).append (.cons _ _ (h.drop _))
theorem fits_small {k : Int} (h0 : 0 ≤ k) (h1 : k ≤ 1000) : Builtin.List.listFitsIndex k = true := by
  simp only [Builtin.List.listFitsIndex, Bool.and_eq_true, decide_eq_true_eq]; omega

section
variable {w : World} {mg mb : Str → Option Value} {p : Program} {loose : List Str} {mean : ExcName → Option Value}
    {s : Shared} {Q : Value → Shared → Prop} {E : Value → Shared → Prop} {d : Nat} {fr : Option (List Env)} {gs : Option (List Code)} {u : Nat}
local macro_rules | `(tactic| walk_at "call ref") => `(tactic| (
  (with_reducible show wpAny _ _ (call (Value.ref 110) _) _ _ _); k_dflt (refine' bisl_call2 ?X ?T ?r ?l ?i ?n ?S ?_; (case X => k_in); (case T => exact Top.keeps (by k_asm) (Fr.keep (by k_asm))); (case r => k_room); (case l => exact ⟨_, (News.get (by k_asm) (List.Mem.head _)), rfl, _, rfl⟩); (case i => assumption); (case n => assumption); (case S => assumption)); intro h' tk' t' k' hk' hP';
  (with_reducible rename Fr _ _ _ _ => kF); (with_reducible rename News _ _ _ _ => kN); (have F' := Fr.keeps kF hk'); (have N' := News.grown kN hk'); (clear kF kN)))
theorem left_bounds {ns : List Int} {x k : Int} (P : LeftAt ns x k k) (hl : ns.length ≤ 1000) : 0 ≤ k ∧ k ≤ ns.length ∧ k ≤ 1000 := by obtain ⟨a, b, _⟩ := P; omega
theorem room_of {vs : List Value} {ns : List Int} (h : IntsAre vs ns) (hl : ns.length ≤ 1000) : vs.toArray.toList.length ≤ sizeLine := by
  have := h.length
  rw [List.toList_toArray, this, sizeLine_eq]; omega
local macro_rules | `(tactic| walk_at "call builtin:list.insert") => `(tactic| (k_here; (with_reducible show wpAny _ _ (call (Value.builtin _) [Value.ref _, Value.int _ _, _]) _ _ _); k_dflt (refine' kl_insert ?F ?N ?f rfl ?U ?z ?_; (case F => k_asm); (case N => k_asm); (case U => k_upd); (case f => exact fits_small (left_bounds (by assumption) (by assumption)).1 (left_bounds (by assumption) (by assumption)).2.2); (case z => exact room_of (by assumption) (by assumption))); intro h' F' N'; (try k_sweep)))

theorem ins_call {h₀ : Heap} {a : Addr} {vs : List Value} {ns : List Int} {x : Int} {t1 : Tok} {n : Nat}
    (X : (hd.heap_39 w.params).In h₀) (T : Top p loose mean mg mb h₀) (hroom : d + 40 < recursionLimit) (hk₀ : Keep h₀ s.heap) (hf : h₀.get? a = none)
    (hl : s.heap.get? a = some (listOf vs.toArray n)) (hi : IntsAre vs ns) (hlen : ns.length ≤ 1000) (hS : Sorted ns)
    (hQ : ∀ h' tk vs' n' ns', (∀ b o, s.heap.get? b = some o → b ≠ a → h'.get? b = some o) → h'.get? a = some (listOf vs'.toArray n') → IntsAre vs' ns' → Sorted ns' → ns'.Perm (x :: ns) → Q .none { s with heap := h', toks := tk }) :
    wpAny (model PR w) (AR d fr gs u) (call (.ref 101) [.ref a, .int x t1]) Q E s := by
  have hn : ∀ p ∈ [(a, listOf vs.toArray n)], s.heap.get? p.1 = some p.2 ∧ h₀.get? p.1 = none := by
    intro p hp
    rw [List.mem_singleton.mp hp]; exact ⟨hl, hf⟩
  (have kz := kzz; revert kz; k_fill; intro kz; clear kz; refine' call_rw ?k1 ?k2 ?kk ?kn ?k6 ?k7 ?k8 ?k9 ?kB ?c2 ?c3 ?c4 ?c5 ?_; (case k1 => k_asm); (case k2 => k_asm); (case kk => assumption); (case kn => assumption); (case k6 => k_is); (case k7 => k_is); (case k8 => k_room); (case k9 => first | exact BindsTo.of_eq rfl | (refine' kp_binds ?kx ?ke; (case kx => exact Frag.In.keeps (by k_asm) (by assumption)); (case ke => exact fun _ => rfl)) | fail "k_enter: no rule for these arguments"); (case c5 => decide); (case kB => exact locs rfl); (case c2 => exact rfl); (case c3 => exact rfl); (case c4 => exact rfl); k_whole; intro g' L' h' hG' F' N' X' T'; (try dsimp only); (try k_fold))
  k_steps
  (with_reducible rename Fr _ _ _ _ => kF)
  (with_reducible rename News _ _ _ _ => kN)
  (with_reducible rename LeftAt _ _ _ _ => kP)
  (rename (∀ b o, s.heap.get? b = some o → b ∉ _ → _) => kG)
  exact hQ _ _ _ _ _ (fun b o e ne => kF.keep b o (kG b o e (fun q => ne (List.mem_singleton.mp q)))) (kN.get (List.Mem.head _)) (ins_ints hi (left_bounds kP hlen).1 (left_bounds kP hlen).2.1) (insI_sorted hS kP) (insI_perm _ _ _)
end
end Mine
end
local macro_rules | `(tactic| walk_at "pad 17") => `(tactic| fail)
local macro_rules | `(tactic| walk_at "pad 18") => `(tactic| fail)
local macro_rules | `(tactic| walk_at "pad 19") => `(tactic| fail)
section
open PySem PySem.Float64
set_option Elab.async false
set_option maxRecDepth 100000 
namespace Mine
/-- x is finite and of value k in units of 2 ^ (c - 1074) -/
noncomputable def EX (c : Nat) (x : UInt64) (k : Int) : Prop := ∃ a m e, decode x = .fin a m e ∧ val x = k * ((2 ^ c : Nat) : Int)

theorem rep_fl (K c : Nat) (hK : K < 2 ^ 53) (hc : c ≤ 1074) : ∃ t, t < infMag ∧ V t = K * 2 ^ c := by
  by_cases h0 : K = 0
  · subst h0
    exact ⟨0, by decide, by rw [V_zero, Nat.zero_mul]⟩
  · have hl : K.log2 < 53 := (Nat.log2_lt h0).mpr hK
    have h1 : 2 ^ K.log2 ≤ K := Nat.log2_self_le h0
    have h2 : K < 2 ^ (K.log2 + 1) := Nat.lt_log2_self
    have hi : infMag = 2047 * 2 ^ 52 := rfl
    by_cases hle : 52 - K.log2 ≤ c
    · have e1 : 2 ^ 52 ≤ K * 2 ^ (52 - K.log2) := by
        calc 2 ^ 52 = 2 ^ K.log2 * 2 ^ (52 - K.log2) := by rw [← Nat.pow_add]; congr 1; omega
          _ ≤ _ := Nat.mul_le_mul_right _ h1
      have e2 : K * 2 ^ (52 - K.log2) < 2 ^ 53 := by
        calc K * 2 ^ (52 - K.log2) < 2 ^ (K.log2 + 1) * 2 ^ (52 - K.log2) := Nat.mul_lt_mul_of_pos_right h2 (Nat.two_pow_pos _)
          _ = 2 ^ 53 := by rw [← Nat.pow_add]; congr 1; omega
      have hV := V_at (k := c - (52 - K.log2)) (q := K * 2 ^ (52 - K.log2)) (by omega) (.inl e1)
      refine ⟨_, ?_, hV.trans ?_⟩
      · rw [hi]
        have : (c - (52 - K.log2)) * 2 ^ 52 ≤ 1074 * 2 ^ 52 := Nat.mul_le_mul_right _ (by omega)
        omega
      · rw [Nat.mul_assoc, ← Nat.pow_add]; congr 2; omega
    · have e2 : K * 2 ^ c < 2 ^ 53 := by
        calc K * 2 ^ c < 2 ^ (K.log2 + 1) * 2 ^ c := Nat.mul_lt_mul_of_pos_right h2 (Nat.two_pow_pos _)
          _ ≤ 2 ^ 53 := by rw [← Nat.pow_add]; exact Nat.pow_le_pow_right (by decide) (by omega)
      have hV := V_at (k := 0) (q := K * 2 ^ c) (by omega) (.inr rfl)
      rw [Nat.zero_mul, Nat.zero_add, Nat.pow_zero, Nat.mul_one] at hV
      exact ⟨_, by rw [hi]; omega, hV⟩

theorem dist_self (a : Nat) : dist a a = 0 := by unfold dist; omega
theorem dist_zero {a b : Nat} (h : dist a b = 0) : a = b := by unfold dist at h; omega
theorem right_small {r : UInt64} {neg : Bool} {W D : Nat} (h : Right r neg W D) (hb : 2 * W < D * ((2 ^ 54 - 1) * 2 ^ 2045)) : ∃ t, r = pack neg t ∧ t < infMag ∧ (∀ t', dist W (D * V t) ≤ dist W (D * V t') ∧ (V t' ≠ V t → dist W (D * V t) = dist W (D * V t') → t % 2 = 0)) := by
  obtain ⟨t, rfl, hle, hinf, hn⟩ := h
  have : t < infMag := by
    rcases Nat.lt_or_eq_of_le hle with h | h
    · exact h
    · exact absurd (hinf.mp h) (by omega)
  exact ⟨t, rfl, this, hn this⟩
theorem under_big {K c D : Nat} (hD : 0 < D) (hK : K < 2 ^ 53) (hc : c ≤ 1074) : 2 * (D * (K * 2 ^ c)) < D * ((2 ^ 54 - 1) * 2 ^ 2045) := by
  have h1 : 2 * (K * 2 ^ c) < (2 ^ 54 - 1) * 2 ^ 2045 := by
    have e : (2 : Nat) ^ 2045 = 2 ^ c * 2 ^ (2045 - c) := by rw [← Nat.pow_add]; congr 1; omega
    have hp := Nat.two_pow_pos c
    have hq := Nat.two_pow_pos (2045 - c)
    rw [e]
    have a1 : 2 * (K * 2 ^ c) < (2 ^ 54 - 1) * 2 ^ c := by
      rw [← Nat.mul_assoc]
      exact Nat.mul_lt_mul_of_pos_right (by omega) hp
    have a2 : (2 ^ 54 - 1) * 2 ^ c * 1 ≤ (2 ^ 54 - 1) * 2 ^ c * 2 ^ (2045 - c) := Nat.mul_le_mul_left _ hq
    rw [Nat.mul_one, Nat.mul_assoc] at a2
    exact Nat.lt_of_lt_of_le a1 a2
  rw [Nat.mul_left_comm]
  exact Nat.mul_lt_mul_of_pos_left h1 hD
theorem right_exact {r : UInt64} {neg : Bool} {D K c : Nat} (h : Right r neg (D * (K * 2 ^ c)) D) (hD : 0 < D) (hK : K < 2 ^ 53) (hc : c ≤ 1074) : ∃ a m e, decode r = .fin a m e ∧ val r = sgn neg (K * 2 ^ c) := by
  obtain ⟨t, rfl, ht, hn⟩ := right_small h (under_big hD hK hc)
  obtain ⟨t', _, hV⟩ := rep_fl K c hK hc
  have h1 := (hn t').1
  rw [hV, dist_self] at h1
  have h2 := Nat.eq_of_mul_eq_mul_left hD (dist_zero (Nat.le_zero.mp h1))
  obtain ⟨m, e, hd, hv⟩ := decode_pack neg ht
  exact ⟨neg, m, e, hd, by rw [val_pack neg ht, ← h2]⟩

theorem sgn_lt (k : Int) : sgn (decide (k < 0)) k.natAbs = k := by
  unfold sgn
  by_cases h : k < 0
  · rw [if_pos (by simpa using h)]; omega
  · rw [if_neg (by simpa using h)]; omega
theorem natAbs_mul_pow (k : Int) (c : Nat) : (k * ((2 ^ c : Nat) : Int)).natAbs = k.natAbs * 2 ^ c := by rw [Int.natAbs_mul, Int.natAbs_natCast]
theorem mul_pow_neg (k : Int) (c : Nat) : decide (k * ((2 ^ c : Nat) : Int) < 0) = decide (k < 0) := by
  have hp : (0 : Int) < ((2 ^ c : Nat) : Int) := Int.ofNat_lt.mpr (Nat.two_pow_pos _)
  refine decide_eq_decide.mpr ⟨fun h => ?_, fun h => Int.mul_neg_of_neg_of_pos h hp⟩
  by_cases q : k < 0
  · exact q
  · have := Int.mul_nonneg (show 0 ≤ k by omega) (Int.le_of_lt hp); omega
theorem EX.zero' {c : Nat} (neg : Bool) : EX c (zero neg) 0 := by
  obtain ⟨m, e, hd, hv⟩ := decode_pack neg (t := 0) (by decide)
  exact ⟨neg, m, e, hd, by show val (pack neg 0) = _; rw [val_pack neg (by decide), V_zero, Int.zero_mul]; unfold sgn; cases neg <;> rfl⟩
theorem EX.of_right {r : UInt64} {c : Nat} {k : Int} (h : Right r (decide (k < 0)) (k.natAbs * 2 ^ c) 1) (hk : k.natAbs < 2 ^ 53) (hc : c ≤ 1074) : EX c r k := by
  have h' : Right r (decide (k < 0)) (1 * (k.natAbs * 2 ^ c)) 1 := by rw [Nat.one_mul]; exact h
  obtain ⟨a, m, e, hd, hv⟩ := right_exact h' (by decide) hk hc
  refine ⟨a, m, e, hd, ?_⟩
  rw [hv, sgn_mul, sgn_lt]
theorem EX.add' {c : Nat} {x y : UInt64} {k l : Int} (hx : EX c x k) (hy : EX c y l) (h : (k + l).natAbs < 2 ^ 53) (hc : c ≤ 1074) : EX c (add x y) (k + l) := by
  obtain ⟨a, m, e, hd, hv⟩ := hx
  obtain ⟨b, n, f, hd', hv'⟩ := hy
  have R := add_right hd hd'
  rw [hv, hv', ← Int.add_mul] at R
  by_cases h0 : k + l = 0
  · rw [h0] at R ⊢
    rw [R.1 (Int.zero_mul _)]
    exact .zero' _
  · have hp : (0 : Int) < ((2 ^ c : Nat) : Int) := Int.ofNat_lt.mpr (Nat.two_pow_pos _)
    have R2 := R.2 (fun q => by rcases Int.mul_eq_zero.mp q with q | q <;> omega)
    rw [mul_pow_neg, natAbs_mul_pow] at R2
    exact .of_right R2 h hc
theorem EX.neg' {c : Nat} {y : UInt64} {l : Int} (hy : EX c y l) : EX c (Float64.neg y) (-l) := by
  obtain ⟨b, n, f, hd', hv'⟩ := hy
  exact ⟨_, _, _, neg_decode hd', by rw [neg_val hd', hv', Int.neg_mul]⟩
theorem EX.sub' {c : Nat} {x y : UInt64} {k l : Int} (hx : EX c x k) (hy : EX c y l) (h : (k - l).natAbs < 2 ^ 53) (hc : c ≤ 1074) : EX c (sub x y) (k - l) := by
  have := hx.add' hy.neg' (by rwa [← Int.sub_eq_add_neg]) hc
  unfold sub
  rwa [← Int.sub_eq_add_neg] at this
theorem EX.ofInt' {i : Int} (h : i.natAbs < 2 ^ 53) : EX 1074 (ofInt i) i := .of_right (ofInt_right i) h (Nat.le_refl _)
/-- the sign's bit tells the sign, but of nought -/
theorem sgn_bit {x : UInt64} {a : Bool} {m : Nat} {e : Int} (h : decode x = .fin a m e) : sgn a (val x).natAbs = val x := by rw [val_natAbs h, val_eq h]
theorem sgn_xor (a b : Bool) (m n : Nat) : sgn (a != b) (m * n) = sgn a m * sgn b n := by
  unfold sgn
  cases a <;> cases b <;> simp [Int.neg_mul, Int.mul_neg]
theorem EX.mul' {c c' i : Nat} {x y : UInt64} {k l : Int} (hx : EX c x k) (hy : EX c' y l) (h : (k * l).natAbs < 2 ^ 53) (hc : c + c' = 1074 + i) (hi : i ≤ 1074) : EX i (mul x y) (k * l) := by
  obtain ⟨a, m, e, hd, hv⟩ := hx
  obtain ⟨b, n, f, hd', hv'⟩ := hy
  have R := mul_right hd hd'
  have e1 : (val x).natAbs * (val y).natAbs = 2 ^ 1074 * ((k * l).natAbs * 2 ^ i) := by
    rw [hv, hv', natAbs_mul_pow, natAbs_mul_pow, Int.natAbs_mul]
    have : (2 : Nat) ^ c * 2 ^ c' = 2 ^ 1074 * 2 ^ i := by rw [← Nat.pow_add, ← Nat.pow_add, hc]
    calc k.natAbs * 2 ^ c * (l.natAbs * 2 ^ c') = k.natAbs * l.natAbs * (2 ^ c * 2 ^ c') := by ac_rfl
      _ = k.natAbs * l.natAbs * (2 ^ 1074 * 2 ^ i) := by rw [this]
      _ = _ := by generalize (2 : Nat) ^ 1074 = Z; ac_rfl
  rw [e1] at R
  obtain ⟨a', m', e', hd'', hv''⟩ := right_exact R (Nat.two_pow_pos _) h hi
  refine ⟨a', m', e', hd'', ?_⟩
  rw [hv'', sgn_mul]
  congr 1
  have ha := sgn_bit hd
  have hb := sgn_bit hd'
  rw [hv, natAbs_mul_pow, sgn_mul] at ha
  rw [hv', natAbs_mul_pow, sgn_mul] at hb
  have z1 : ((2 ^ c : Nat) : Int) ≠ 0 := by have := Nat.two_pow_pos c; omega
  have z2 : ((2 ^ c' : Nat) : Int) ≠ 0 := by have := Nat.two_pow_pos c'; omega
  rw [Int.natAbs_mul, sgn_xor, Int.eq_of_mul_eq_mul_right z1 ha, Int.eq_of_mul_eq_mul_right z2 hb]

theorem EX.rescale {c c' i : Nat} {x : UInt64} {k : Int} (h : EX c x k) (e : c = c' + i) : EX c' x (k * ((2 ^ i : Nat) : Int)) := by
  obtain ⟨a, m, e', hd, hv⟩ := h
  refine ⟨a, m, e', hd, ?_⟩
  rw [hv, e, Nat.pow_add, Nat.mul_comm, Int.natCast_mul, Int.mul_assoc]
theorem EX.div' {c j : Nat} {x : UInt64} {k : Int} {y : UInt64} (hx : EX c x k) (hy : EX 1074 y ((2 ^ j : Nat) : Int)) (hk : k.natAbs < 2 ^ 53) (hj : j ≤ c) (hc : c ≤ 1074) : EX (c - j) (div x y) k := by
  obtain ⟨a, m, e, hd, hv⟩ := hx
  obtain ⟨b, n, f, hd', hv'⟩ := hy
  have hn : n ≠ 0 := by
    intro q
    have := val_eq hd'
    rw [hv', q, Nat.zero_mul] at this
    have h1 := Nat.mul_pos (Nat.two_pow_pos j) (Nat.two_pow_pos 1074)
    rw [← Int.natCast_mul] at this
    unfold sgn at this
    split at this <;> omega
  have R := div_right hd hd' hn
  have e1 : (val x).natAbs * 2 ^ 1074 = (val y).natAbs * (k.natAbs * 2 ^ (c - j)) := by
    rw [hv, hv', natAbs_mul_pow, natAbs_mul_pow, Int.natAbs_natCast]
    have : (2 : Nat) ^ c = 2 ^ j * 2 ^ (c - j) := by rw [← Nat.pow_add]; congr 1; omega
    rw [this]
    generalize (2 : Nat) ^ 1074 = Z
    ac_rfl
  rw [e1] at R
  have hpos : 0 < (val y).natAbs := by rw [hv', natAbs_mul_pow, Int.natAbs_natCast]; exact Nat.mul_pos (Nat.two_pow_pos _) (Nat.two_pow_pos _)
  obtain ⟨a', m', e', hd'', hv''⟩ := right_exact R hpos hk (by omega)
  refine ⟨a', m', e', hd'', ?_⟩
  rw [hv'', sgn_mul]
  congr 1
  have ha := sgn_bit hd
  rw [hv, natAbs_mul_pow, sgn_mul] at ha
  have z1 : ((2 ^ c : Nat) : Int) ≠ 0 := by have := Nat.two_pow_pos c; omega
  have ha' := Int.eq_of_mul_eq_mul_right z1 ha
  have hb := sgn_bit hd'
  rw [hv', natAbs_mul_pow, Int.natAbs_natCast] at hb
  have hbf : b = false := by
    cases b with
    | false => rfl
    | true =>
      have h1 := Nat.mul_pos (Nat.two_pow_pos j) (Nat.two_pow_pos 1074)
      rw [← Int.natCast_mul] at hb
      unfold sgn at hb
      rw [if_pos rfl] at hb
      omega
  rw [hbf]
  cases a <;> exact ha'

/-- the product's remainder is nought where the product is exact -/
theorem fma_zero {c c' i : Nat} {x y z : UInt64} {k l : Int} (hx : EX c x k) (hy : EX c' y l) (hz : EX i z (-(k * l))) (hc : c + c' = 1074 + i) : EX i (fma x y z) 0 := by
  obtain ⟨a, m, e, hd, hv⟩ := hx
  obtain ⟨b, n, f, hd', hv'⟩ := hy
  obtain ⟨g, q, o, hd'', hv''⟩ := hz
  have he := decode_ge hd
  have hf := decode_ge hd'
  have ho := decode_ge hd''
  have key : sgn (a != b) (m * n * 2 ^ (e + f - min (e + f) o).toNat) + sgn g (q * 2 ^ (o - min (e + f) o).toNat) = 0 := by
    have hp : (0 : Int) < ((2 ^ (min (e + f) o + 2148).toNat : Nat) : Int) := Int.ofNat_lt.mpr (Nat.two_pow_pos _)
    refine Int.eq_of_mul_eq_mul_right (Int.ne_of_gt hp) ?_
    rw [Int.zero_mul, Int.add_mul, ← sgn_mul, ← sgn_mul, Nat.mul_assoc (m * n), Nat.mul_assoc q, ← Nat.pow_add, ← Nat.pow_add]
    have l1 : min (e + f) o ≤ e + f := Int.min_le_left _ _
    have l2 : min (e + f) o ≤ o := Int.min_le_right _ _
    have l3 : -2148 ≤ min (e + f) o := Int.le_min.mpr ⟨by omega, by omega⟩
    have tn : ∀ {a b c d : Int}, 0 ≤ a → 0 ≤ b → 0 ≤ c → 0 ≤ d → a + b = c + d → a.toNat + b.toNat = c.toNat + d.toNat := fun ha hb hc hd h => by
      rw [← Int.toNat_add ha hb, h, Int.toNat_add hc hd]
    have e1 : (e + f - min (e + f) o).toNat + (min (e + f) o + 2148).toNat = (e + 1074).toNat + (f + 1074).toNat := by
      generalize min (e + f) o = mn at l1 l2 l3
      exact tn (by omega) (by omega) (by omega) (by omega) (by omega)
    have e2 : (o - min (e + f) o).toNat + (min (e + f) o + 2148).toNat = (o + 1074).toNat + 1074 := by
      generalize min (e + f) o = mn at l1 l2 l3
      exact tn (d := 1074) (by omega) (by omega) (by omega) (by omega) (by omega)
    rw [e1, e2, Nat.pow_add, Nat.pow_add]
    have e3 : m * n * (2 ^ (e + 1074).toNat * 2 ^ (f + 1074).toNat) = (m * 2 ^ (e + 1074).toNat) * (n * 2 ^ (f + 1074).toNat) := by ac_rfl
    rw [e3, sgn_xor, ← val_eq hd, ← val_eq hd', hv, hv', ← Nat.mul_assoc, sgn_mul, ← val_eq hd'', hv'']
    have e4 : (((2 : Nat) ^ c : Nat) : Int) * (((2 : Nat) ^ c' : Nat) : Int) = (((2 : Nat) ^ i : Nat) : Int) * (((2 : Nat) ^ 1074 : Nat) : Int) := by
      rw [← Int.natCast_mul, ← Int.natCast_mul, ← Nat.pow_add, ← Nat.pow_add, hc, Nat.add_comm]
    have e5 : k * (((2 : Nat) ^ c : Nat) : Int) * (l * (((2 : Nat) ^ c' : Nat) : Int)) = k * l * ((((2 : Nat) ^ c : Nat) : Int) * (((2 : Nat) ^ c' : Nat) : Int)) := by ac_rfl
    rw [e5, e4, Int.neg_mul, Int.neg_mul, ← Int.mul_assoc]
    generalize k * l * (((2 : Nat) ^ i : Nat) : Int) * (((2 : Nat) ^ 1074 : Nat) : Int) = Z
    omega
  have hfma : fma x y z = zero (if m * n == 0 && q == 0 then (a != b) && g else false) := by
    unfold fma
    rw [hd, hd', hd'']
    unfold align
    simp only
    rw [if_pos (by simpa using key)]
  rw [hfma]
  exact .zero' _
end Mine
end
section
open PySem PySem.W PyProof.Rows PySem.Calls
set_option Elab.async false
set_option maxRecDepth 100000 
namespace Mine
section
variable {prog : Program} {w : World} {A : Around} {E : Value → Shared → Prop} {s : Shared}
theorem gcode {env : Env} {c P : Addr} {ps : Array Value} {pos : Pos} {qualname : Str} {scope : Scope} {M : Model} {Q : Value → Shared → Prop} (hc : env.code = .ref c) (hok : s.heap.IsCode c P ps) (htab : s.heap.TableAt c P ps)
    (hQ : ∀ code h' tk more, Heap.ExtBut P s.heap h' → s.heap.objs.size ≤ h'.objs.size → h'.IsCode c P (ps ++ more) → h'.TableAt c P (ps ++ more) → Q code { s with heap := h', toks := tk }) :
    wpAny M A (genexprCode env pos qualname scope) Q E s := by
  cases hnf : codeAmong pos ps.toList with
  | none => exact wpAny_genexprCodeX hc hok htab hnf fun c' h' tk hx hle hlt hok' _ htab' _ => hQ _ h' tk _ hx (by omega) hok' htab'
  | some cv =>
    obtain ⟨o, vs, file, tf, flags, tg, inF, text, tt, op, ho, hd, h11, h2, h7, h9, h10, hop, hpd, htr, hne⟩ := id hok
    unfold genexprCode codeAt
    rw [hc, if_neg (show ¬ ((Value.ref c == Value.none) = true) from Bool.false_ne_true)]
    refine wpAny_bind (wpAny_fieldsOf ho hd ?_)
    rw [h11]
    refine wpAny_bind (wpAny_fieldsOf hop hpd ?_)
    rw [hnf]
    have := hQ cv s.heap s.toks #[] (Heap.ExtBut.refl _ _) (Nat.le_refl _) (by simpa using hok) (by simpa using htab)
    exact wpAny_pure this

noncomputable abbrev Keep' (h h' : Heap) : Prop := ∀ b o, h.get? b = some o → h'.get? b = some o
/-- what an element of the generator (xi - xbar for xi in x) is -/
noncomputable def IsDiff (ns : List Int) (xb : UInt64) (i : Nat) (y : Value) : Prop := ∃ t, y = .float (Float64.sub (Float64.ofInt (ns.getD i 0)) xb) t


theorem passing_all (n : Nat) : passing (fun _ => true) n 0 = List.range n := by
  unfold passing
  rw [List.drop_zero, List.filter_eq_self.mpr (fun _ _ => rfl)]
theorem walksS_all {I : Addr} {fp wr : List Addr} {G : Array GenState → Array GenState → Prop} {n : Nat} {F : Nat → Value → Prop} {St : Nat → Shared → Prop}
    (W : WalksS prog w A I fp wr G (passing (fun _ => true) n 0).length (fun j y => ∃ i, (passing (fun _ => true) n 0)[j]? = some i ∧ F i y) St) : WalksS prog w A I fp wr G n F St := by
  rw [passing_all, List.length_range] at W
  exact { sub := W.sub, grefl := W.grefl, gtrans := W.gtrans, frame := W.frame, done := W.done, self := W.self,
          item := fun i s Q E hi st hQ => W.item i s Q E hi st fun v s' hP => hQ v s' (by
            obtain ⟨j, hj, hF⟩ := hP
            rw [List.getElem?_range hi] at hj
            cases hj; exact hF) }

theorem gen_make {env : Env} {iter : Expr} {x y : Str} {px pa pb pe : Pos} {scope : Scope} {cl : List (Str × Addr)} {pos : Pos} {Q : Value → Shared → Prop} {c P T cX bm : Addr} {ob : Obj} {mg : Str → Option Value} {ps : Array Value} {vs : List Value} {ns : List Int} {xb : UInt64} {tb : Tok}
    (hh : A.handled = none) (hco : scope.isCoroutine = false) (hclos : closureFor scope env = pure cl) (hcell : ∀ y ∈ scope.names, y.2 ≠ .cell) (h0 : scope.names.lookup (".0" : Str) = some NameKind.local)
    (hx : scope.names.lookup x = some .local) (hy : scope.names.lookup y = some .free) (hkind : scope.kind = .function) (hroom : A.depth < recursionLimit)
    (hxd : (x == ("__debug__" : Str)) = false) (hyd : (y == ("__debug__" : Str)) = false) (hyc : (y == ("__classdict__" : Str)) = false)
    (hs : ∀ x, genFold iter env x = pure x)
    (hit : ∀ (R : Value → Shared → Prop), R (.ref T) s → wpAny (model prog w) A (eval iter env) R E s)
    (hT : IsTup s.heap T vs.toArray) (hi : IntsAre vs ns) (hsmall : ∀ n ∈ ns, n.natAbs < 2 ^ 53)
    (hcl : cl.lookup y = some cX) (hcX : s.heap.IsCell cX (some (.float xb tb)))
    (hlim : s.heap.NoLimit) (hcode : env.code = .ref c) (hok : s.heap.IsCode c P ps) (htab : s.heap.TableAt c P ps) (M : BMod s.heap env.globals mg bm ob)
    (hcP : cStatics ≠ P) (hTP : T ≠ P) (hXP : cX ≠ P)
    (hQ : ∀ a C I h' tk more gs, gs.bare = true → Heap.ExtBut P s.heap h' → h'.IsCode c P (ps ++ more) → h'.TableAt c P (ps ++ more) →
      s.heap.objs.size ≤ I → I < C → C < a → a < h'.objs.size →
      WalksS prog w A.in4 a (a :: C :: [I, T, cX, cStatics]) [C, I] (GenOnlyQ s.gens.size) ns.length (IsDiff ns xb) (GenAt prog w A.in4 a s.gens.size C [I, T, cX, cStatics] [I] (fun _ => true) ns.length (IsDiff ns xb)) → 
      GenAt prog w A.in4 a s.gens.size C [I, T, cX, cStatics] [I] (fun _ => true) ns.length (IsDiff ns xb) 0 { s with gens := s.gens.push gs, toks := tk, heap := h' } →
      Q (.ref a) { s with gens := s.gens.push gs, toks := tk, heap := h' }) :
    wpAny (model prog w) A (eval (.GeneratorExp (.BinOp (.Name x pa) .Sub (.Name y pb) pe) [⟨.Name x px, iter, [], 0⟩] scope pos) env) Q E s := by
  refine wpAny_GeneratorExp_make hco hclos hcell h0 hkind hroom (hit _ (wpAny_pyIter_tuple hT ⟨hlim.keeps fun b o e => Heap.get?_push_of_some _ e, ?_⟩)) hs
  have hPlt := hok.lt.2
  have up1 : Keep' s.heap (s.heap.push { cls := .type "tuple_iterator", data := .fields #[.ref T, .int 0 0] }) := fun b o e => Heap.get?_push_of_some _ e
  refine gcode hcode (hok.keeps up1) (htab.keeps up1) fun cv h₃ tk₃ more hx₃ hge hok₃ htab₃ => ?_
  have hsz1 : (s.heap.push { cls := .type "tuple_iterator", data := .fields #[.ref T, .int 0 0] }).objs.size = s.heap.objs.size + 1 := Heap.size_push ..
  replace hge : s.heap.objs.size + 1 ≤ h₃.objs.size := by rw [← hsz1]; exact hge
  have hx₀ : Heap.ExtBut P s.heap h₃ := fun b o hb e => hx₃ b o hb (up1 b o e)
  have M₃ : BMod h₃ env.globals mg bm ob := (M.keeps up1).extBut (htab.keeps up1) hx₃
  refine wpAny_builtinsFor M₃.ns M₃.name M₃.ne M₃.obj M₃.cls M₃.dict M₃.data ?_
  intro h' hn' hs'
  have hl₃ : h₃.NoLimit := hlim.extBut hx₀ hcP
  have hsz' : h'.objs.size = h₃.objs.size + 1 := by rw [hs'.1, Heap.size_push]
  have keep' : ∀ b o, h₃.get? b = some o → h'.get? b = some o := fun b o e => hs'.extBut b o (Nat.ne_of_lt (Heap.lt_size e)) (Heap.get?_push_of_some _ e)
  have keep₅ : ∀ b o, h₃.get? b = some o → (h'.push { cls := .type "generator", data := .fields #[.int s.gens.size 0, .str "<genexpr>" (tk₃ + 1), .str (env.qual ++ "<genexpr>") (tk₃ + 1 + 1)] }).get? b = some o :=
    fun b o e => Heap.get?_push_of_some _ (keep' b o e)
  have hTlt : T < s.heap.objs.size := let ⟨_, ho, _⟩ := hT; Heap.lt_size ho
  have hXlt : cX < s.heap.objs.size := let ⟨_, ho, _⟩ := hcX; Heap.lt_size ho
  have hSlt : cStatics < s.heap.objs.size := let ⟨_, hn, _⟩ := hlim; hn.lt
  have hIget : h₃.get? s.heap.objs.size = some { cls := .type "tuple_iterator", data := .fields #[.ref T, .int 0 0] } := hx₃ _ _ (Nat.ne_of_gt hPlt) (Heap.get?_push_size _ rfl)
  have hT₃ : h₃.IsTuple T vs.toArray := let ⟨o, ho, r⟩ := hT; ⟨o, hx₀ _ _ hTP ho, r⟩
  have hX₃ : h₃.IsCell cX (some (.float xb tb)) := let ⟨o, ho, r⟩ := hcX; ⟨o, hx₀ _ _ hXP ho, r⟩
  have W₀ : ∀ A' : Around, A'.handled = none → Walks prog w A' s.heap.objs.size [s.heap.objs.size, T, cX, cStatics] [s.heap.objs.size] ns.length (fun i v => vs.toArray[i]? = some v) (fun i h => h.IsTupleIter s.heap.objs.size T i ∧ h.IsTuple T vs.toArray) := fun A' hA => by
    have W := Walks.tuple (prog := prog) (w := w) (A := A') hA s.heap.objs.size T (Nat.ne_of_lt hTlt) vs.toArray
    rw [show vs.toArray.size = ns.length by rw [List.size_toArray]; exact hi.length] at W
    exact W.mono_fp fun b hb => by
      rcases List.mem_cons.mp hb with rfl | hb
      · exact .head _
      · rw [List.mem_singleton.mp hb]; exact .tail _ (.head _)
  have quiet : QuietGen prog w (genEnv scope cl h₃.objs.size cv builtinsNs env) x [] (.BinOp (.Name x pa) .Sub (.Name y pb) pe) [s.heap.objs.size, T, cX, cStatics] [s.heap.objs.size] (fun i v => vs.toArray[i]? = some v) (fun _ => true) (IsDiff ns xb) (h'.push { cls := .type "generator", data := .fields #[.int s.gens.size 0, .str "<genexpr>" (tk₃ + 1), .str (env.qual ++ "<genexpr>") (tk₃ + 1 + 1)] }) := by
    refine ⟨fun A' E' i v s₂ m₂ _ _ _ _ _ => ?_, fun A' E' i v s₂ m₂ hA' hP _ hn₂ hm₂ hk₂ => ?_⟩
    · exact wpAny_pure ⟨rfl, s₂.heap, s₂.toks, rfl, fun _ _ e => e⟩
    · have hcell2 : s₂.heap.IsCell cX (some (.float xb tb)) := let ⟨o, ho, r⟩ := hX₃; ⟨o, hk₂ cX (by simp) (fun hm => Nat.lt_irrefl _ (List.mem_singleton.mp hm ▸ hXlt)) o (keep₅ _ _ ho), r⟩
      obtain ⟨t, rfl⟩ : ∃ t, v = .int (ns.getD i 0) t := hi.int_at i v (by simpa using hP)
      have hlt : i < ns.length := by
        rw [← hi.length]
        have hP' : vs[i]? = some (.int (ns.getD i 0) t) := by simpa using hP
        exact (List.getElem?_eq_some_iff.mp hP').1
      have hmem : ns.getD i 0 ∈ ns := by rw [List.getD_eq_getElem?_getD, List.getElem?_eq_getElem hlt]; exact List.getElem_mem hlt
      refine wpAny_BinOp (wpAny_Name (wpAny_loadName_local hkind hx hn₂ hm₂ ?_) hxd)
      refine wpAny_Name (wpAny_loadName_free hkind hy hcl hcell2 ?_ hyc) hyd
      refine AutoFloatOps.sub_if_1 (Float64.ofInt_fits (Nat.lt_of_lt_of_le (hsmall _ hmem) (Nat.pow_le_pow_right (by decide) (by decide)))) ?_
      exact ⟨⟨_, rfl⟩, s₂.heap, s₂.toks + 1, rfl, fun _ _ e => e⟩
  have haC : h'.objs.size ≠ h₃.objs.size := by rw [hsz']; exact Nat.succ_ne_self _
  have mem4 : ∀ {z : Addr}, z ∈ [s.heap.objs.size, T, cX, cStatics] → z < h₃.objs.size := fun {z} hz => by
    have l1 : s.heap.objs.size < h₃.objs.size := hge
    rcases List.mem_cons.mp hz with rfl | hz
    · exact l1
    rcases List.mem_cons.mp hz with rfl | hz
    · exact Nat.lt_trans hTlt l1
    rcases List.mem_cons.mp hz with rfl | hz
    · exact Nat.lt_trans hXlt l1
    · rw [List.mem_singleton.mp hz]; exact Nat.lt_trans hSlt l1
  have l1 : s.heap.objs.size < h₃.objs.size := hge
  have l2 : h₃.objs.size < h'.objs.size := by rw [hsz']; exact Nat.lt_succ_self _
  have G0 : GenAt prog w A.in4 h'.objs.size s.gens.size h₃.objs.size [s.heap.objs.size, T, cX, cStatics] [s.heap.objs.size] (fun _ => true) ns.length (IsDiff ns xb) 0
      { s with gens := s.gens.push (.fresh (.compStart (.GeneratorExp (.BinOp (.Name x pa) .Sub (.Name y pb) pe) [⟨.Name x px, iter, [], 0⟩] scope pos) 0 (.ref s.heap.objs.size) .none (genEnv scope cl h₃.objs.size cv builtinsNs env))), toks := tk₃ + 1 + 1 + 1, heap := h'.push { cls := .type "generator", data := .fields #[.int s.gens.size 0, .str "<genexpr>" (tk₃ + 1), .str (env.qual ++ "<genexpr>") (tk₃ + 1 + 1)] } } :=
    GenAt.fresh (A := A.in4) (cenv := genEnv scope cl h₃.objs.size cv builtinsNs env) (m := fun y => if y = ".0" then some (.ref s.heap.objs.size) else none) hh W₀ (fun _ => true) (IsDiff ns xb) hx (by simp [genEnv, hkind]) hco
      (fun hm => Nat.lt_irrefl _ (mem4 hm)) quiet ⟨_, _, _, Heap.get?_push_size _ rfl, rfl, rfl, rfl⟩ (Array.getElem?_push_size ..)
      ⟨⟨_, keep₅ _ _ hIget, rfl, rfl⟩, let ⟨o, ho, r⟩ := hT₃; ⟨o, keep₅ _ _ ho, r⟩⟩ (hn'.push _) (hl₃.keeps keep₅)
  refine hQ h'.objs.size h₃.objs.size s.heap.objs.size _ _ more _ rfl (fun b o hb e => keep₅ b o (hx₀ b o hb e)) (hok₃.keeps keep₅) (htab₃.keeps keep₅) (Nat.le_refl _) l1 l2 (by rw [Heap.size_push]; exact Nat.lt_succ_self _) ?_ G0
  exact walksS_all (WalksS.genexpQ (A := A.in4) hh _ _ _ _ [s.heap.objs.size] (fun _ => true) ns.length (IsDiff ns xb) haC (fun hm => Nat.lt_asymm l2 (mem4 hm)) (fun b hb => by rw [List.mem_singleton.mp hb]; exact .head _) hroom (by simp) (Nat.ne_of_lt (Nat.lt_trans hSlt l1)) (fun hm => Nat.lt_irrefl _ (List.mem_singleton.mp hm ▸ hSlt)))
end
end Mine
end
section
open PySem PySem.W PyProof.Rows PySem.Calls PySem.Float64
set_option Elab.async false
set_option maxRecDepth 100000 
namespace Mine
open PySem.Builtin.Math in
theorem tl_step {c : Int} {hi lo ti x y : UInt64} {k l : Int} (h1 : EX 1066 hi c) (h2 : EX 1066 lo 0) (h3 : EX 1066 ti 0) (hx : EX 1070 x k) (hy : EX 1070 y l) (hc : c.natAbs < 2 ^ 50) (hkl : (k * l).natAbs < 2 ^ 50) :
    EX 1066 (tlFma x y (hi, lo, ti)).1 (c + k * l) ∧ EX 1066 (tlFma x y (hi, lo, ti)).2.1 0 ∧ EX 1066 (tlFma x y (hi, lo, ti)).2.2 0 := by
  generalize hv : k * l = v at *
  have z0 : EX 1066 (mul x y) v := hv ▸ hx.mul' hy (by rw [hv]; omega) (by decide) (by decide)
  have z1 : EX 1066 (fma x y (neg (mul x y))) 0 := fma_zero hx hy (by rw [hv]; exact z0.neg') (by decide)
  have S1 : EX 1066 (add hi (mul x y)) (c + v) := h1.add' z0 (by omega) (by decide)
  have S2 : EX 1066 (sub (add hi (mul x y)) hi) v := by have := S1.sub' h1 (by omega) (by decide); rwa [show c + v - c = v by omega] at this
  have S3 : EX 1066 (sub (add hi (mul x y)) (sub (add hi (mul x y)) hi)) c := by have := S1.sub' S2 (by omega) (by decide); rwa [show c + v - v = c by omega] at this
  have S4 : EX 1066 (add (sub hi (sub (add hi (mul x y)) (sub (add hi (mul x y)) hi))) (sub (mul x y) (sub (add hi (mul x y)) hi))) 0 := by
    have := (h1.sub' S3 (by omega) (by decide)).add' (z0.sub' S2 (by omega) (by decide)) (by omega) (by decide)
    rwa [show c - c + (v - v) = 0 by omega] at this
  have dz : ∀ a b, EX 1066 a 0 → EX 1066 b 0 → EX 1066 (add a b) 0 ∧ EX 1066 (sub a b) 0 := fun a b ha hb => ⟨ha.add' hb (by decide) (by decide), ha.sub' hb (by decide) (by decide)⟩
  have ds : ∀ a b, EX 1066 a 0 → EX 1066 b 0 → EX 1066 (dlSum a b).1 0 ∧ EX 1066 (dlSum a b).2 0 := fun a b ha hb => by
    unfold dlSum
    have e1 := (dz a b ha hb).1
    have e2 := (dz _ _ e1 ha).2
    exact ⟨e1, (dz _ _ (dz _ _ ha (dz _ _ e1 e2).2).2 (dz _ _ hb e2).2).1⟩
  have r1 := ds lo _ h2 z1
  have r2 := ds _ _ r1.1 S4
  exact ⟨S1, r2.1, (dz _ _ (dz _ _ h3 r1.2).1 r2.2).1⟩
open PySem.Builtin.Math in
theorem tl_end {c : Int} {hi lo ti : UInt64} (h1 : EX 1066 hi c) (h2 : EX 1066 lo 0) (h3 : EX 1066 ti 0) (hc : c.natAbs < 2 ^ 50) : EX 1066 (tlToFloat (hi, lo, ti)) c := by
  have S1 : EX 1066 (add lo hi) c := by have := h2.add' h1 (by omega) (by decide); rwa [Int.zero_add] at this
  have S2 : EX 1066 (sub (add lo hi) lo) c := by have := S1.sub' h2 (by omega) (by decide); rwa [Int.sub_zero] at this
  have S3 : EX 1066 (sub (add lo hi) (sub (add lo hi) lo)) 0 := by have := S1.sub' S2 (by omega) (by decide); rwa [Int.sub_self] at this
  have S4 : EX 1066 (add (sub lo (sub (add lo hi) (sub (add lo hi) lo))) (sub hi (sub (add lo hi) lo))) 0 := by
    have := (h2.sub' S3 (by decide) (by decide)).add' (h1.sub' S2 (by omega) (by decide)) (by omega) (by decide)
    rwa [show (0 : Int) - 0 + (c - c) = 0 by omega] at this
  have S5 := (h3.add' S4 (by decide) (by decide)).add' S1 (by omega) (by decide)
  rwa [show (0 : Int) + 0 + c = c by omega] at S5
theorem EX.finite {c : Nat} {x : UInt64} {k : Int} (h : EX c x k) : isFinite x = true := by
  obtain ⟨a, m, e, hd, _⟩ := h
  unfold isFinite; rw [hd]

noncomputable def accS (k l : Nat → Int) : Nat → Int
  | 0 => 0
  | n + 1 => accS k l n + k n * l n
theorem accS_bound {k l : Nat → Int} {n : Nat} (h : ∀ i, i < n → (k i * l i).natAbs ≤ 2 ^ 20) (hn : n ≤ 1000) : ∀ j, j ≤ n → (accS k l j).natAbs ≤ j * 2 ^ 20
  | 0, _ => by simp [accS]
  | j + 1, hj => by
    have := accS_bound h hn j (by omega)
    have h2 := h j (by omega)
    unfold accS
    omega

theorem genAt_keeps {prog : Program} {w : World} {A : Around} {a : Addr} {g : Nat} {C : Addr} {fp wr : List Addr} {pz : Nat → Bool} {n₀ : Nat} {F : Nat → Value → Prop} {j : Nat} {s s' : Shared} (G : GenAt prog w A a g C fp wr pz n₀ F j s)
    (hcs : cStatics ∈ fp) (hk : ∀ b ∈ a :: C :: fp, ∀ o, s.heap.get? b = some o → s'.heap.get? b = some o) (hg : s'.gens[g]? = s.gens[g]?) : GenAt prog w A a g C fp wr pz n₀ F j s' :=
  ⟨let ⟨o, nm, qn, ho, r⟩ := G.1; ⟨o, nm, qn, hk a (List.mem_cons_self ..) o ho, r⟩,
   (let ⟨mc, hns, hnn⟩ := G.2.1; ⟨mc, hns.at' fun o e => hk cStatics (List.mem_cons_of_mem _ (List.mem_cons_of_mem _ hcs)) o e, hnn⟩),
   let ⟨gs, hgs, hgo⟩ := G.2.2; ⟨gs, hg.trans hgs, fun s'' hal => hgo s'' fun b hb o e => hal b hb o (hk b (List.mem_cons_of_mem _ hb) o e)⟩⟩

structure Moved2 (wr : List Addr) (s s' : Shared) : Prop where
  heap : ∀ b o, b ∉ wr → s.heap.get? b = some o → s'.heap.get? b = some o
  bare : (∀ y ∈ s.gens, y.bare = true) → ∀ y ∈ s'.gens, y.bare = true
  drawn : s'.drawn = s.drawn
  os : s'.os = s.os
theorem Moved2.refl {wr : List Addr} {s : Shared} : Moved2 wr s s := ⟨fun _ _ _ e => e, fun h => h, rfl, rfl⟩
theorem Moved2.trans {wr : List Addr} {s s' s'' : Shared} (x : Moved2 wr s s') (y : Moved2 wr s' s'') : Moved2 wr s s'' :=
  ⟨fun b o hb e => y.heap b o hb (x.heap b o hb e), fun h => y.bare (x.bare h), y.drawn.trans x.drawn, y.os.trans x.os⟩
theorem Moved2.of {wr wr' : List Addr} {g : Nat} {s s' : Shared} (x : Moved wr (GenOnlyQ g) s s') (h : ∀ b ∈ wr, b ∈ wr') : Moved2 wr' s s' :=
  ⟨fun b o hb e => x.heap b o (fun q => hb (h b q)) e, x.gens.bare, x.drawn, x.os⟩
theorem genOnly_other {g g' : Nat} {a b : Array GenState} (x : GenOnlyQ g a b) (h : g' ≠ g) : b[g']? = a[g']? := by
  rcases x with rfl | ⟨⟨_, ho⟩, _⟩
  · rfl
  · exact ho g' h

namespace FF
theorem kind_sumprod : builtinKind "math.sumprod" = none := by decide +kernel
theorem plain_sumprod : plainId "math.sumprod" = true := by decide +kernel
theorem entry_sumprod : entryFor table "math.sumprod" = some Builtin.«math.sumprod» := entryFor_of_fast (by kernel_rfl)
theorem args_sumprod (a b : Value) : argsOk "math.sumprod" ⟨[a, b], []⟩ := by unfold argsOk; kernel_rfl
theorem plain_sumprod_loop : plainId "math.sumprod.loop" = true := by decide +kernel
theorem entry_sumprod_loop : entryFor table "math.sumprod.loop" = some Builtin.«math.sumprod.loop» := entryFor_of_fast (by kernel_rfl)
theorem kind_fsum : builtinKind "math.fsum" = none := by decide +kernel
theorem plain_fsum : plainId "math.fsum" = true := by decide +kernel
theorem entry_fsum : entryFor table "math.fsum" = some Builtin.«math.fsum» := entryFor_of_fast (by kernel_rfl)
theorem args_fsum (a : Value) : argsOk "math.fsum" ⟨[a], []⟩ := by unfold argsOk; kernel_rfl
theorem plain_fsum_loop : plainId "math.fsum.loop" = true := by decide +kernel
theorem entry_fsum_loop : entryFor table "math.fsum.loop" = some Builtin.«math.fsum.loop» := entryFor_of_fast (by kernel_rfl)
end FF
end Mine
end
section
open PySem PySem.W PyProof.Rows PySem.Calls PySem.Float64
set_option Elab.async false
set_option maxRecDepth 100000 
namespace Mine
noncomputable abbrev tri (a b c : Value) (n : Nat) : Obj := { cls := .type "tuple", data := .seq #[a, b, c] n }
theorem moved2_push {wr : List Addr} (s : Shared) (o : Obj) : Moved2 wr s { s with heap := s.heap.push o } := ⟨fun b o' _ e => Heap.get?_push_of_some _ e, fun h => h, rfl, rfl⟩
section
variable {prog : Program} {w : World} {A : Around} {R : Result → Shared → Prop}
structure Two (prog : Program) (w : World) (A : Around) (a₁ C₁ I₁ T₁ X₁ g₁ a₂ C₂ I₂ T₂ X₂ g₂ : Nat) (n : Nat) (F₁ F₂ : Nat → Value → Prop) : Prop where
  W₁ : WalksS prog w A.in4 a₁ (a₁ :: C₁ :: [I₁, T₁, X₁, cStatics]) [C₁, I₁] (GenOnlyQ g₁) n F₁ (GenAt prog w A.in4 a₁ g₁ C₁ [I₁, T₁, X₁, cStatics] [I₁] (fun _ => true) n F₁)
  W₂ : WalksS prog w A.in4 a₂ (a₂ :: C₂ :: [I₂, T₂, X₂, cStatics]) [C₂, I₂] (GenOnlyQ g₂) n F₂ (GenAt prog w A.in4 a₂ g₂ C₂ [I₂, T₂, X₂, cStatics] [I₂] (fun _ => true) n F₂)
  gne : g₁ ≠ g₂
  off₁ : ∀ b ∈ a₁ :: C₁ :: [I₁, T₁, X₁, cStatics], b ∉ [C₂, I₂]
  off₂ : ∀ b ∈ a₂ :: C₂ :: [I₂, T₂, X₂, cStatics], b ∉ [C₁, I₁]
noncomputable def TwoAt (prog : Program) (w : World) (A : Around) (a₁ C₁ I₁ T₁ X₁ g₁ a₂ C₂ I₂ T₂ X₂ g₂ : Nat) (n : Nat) (F₁ F₂ : Nat → Value → Prop) (j : Nat) (s : Shared) : Prop :=
  GenAt prog w A.in4 a₁ g₁ C₁ [I₁, T₁, X₁, cStatics] [I₁] (fun _ => true) n F₁ j s ∧ GenAt prog w A.in4 a₂ g₂ C₂ [I₂, T₂, X₂, cStatics] [I₂] (fun _ => true) n F₂ j s

theorem sp_loop {a₁ C₁ I₁ T₁ X₁ g₁ a₂ C₂ I₂ T₂ X₂ g₂ n : Nat} {F₁ F₂ : Nat → Value → Prop} (D : Two prog w A a₁ C₁ I₁ T₁ X₁ g₁ a₂ C₂ I₂ T₂ X₂ g₂ n F₁ F₂) {k l : Nat → Int}
    (hF₁ : ∀ i v, i < n → F₁ i v → ∃ x t, v = .float x t ∧ EX 1070 x (k i)) (hF₂ : ∀ i v, i < n → F₂ i v → ∃ x t, v = .float x t ∧ EX 1070 x (l i))
    (hb : ∀ i, i < n → (k i * l i).natAbs ≤ 2 ^ 20) (hn : n ≤ 1000) :
    ∀ (m j : Nat) (s : Shared) (F : Addr) (fn : Nat) (hi lo ti : UInt64) (t₀ u₀ u₁ u₂ u₃ : Tok) (io fu : Bool), n - j = m → j ≤ n → TwoAt prog w A a₁ C₁ I₁ T₁ X₁ g₁ a₂ C₂ I₂ T₂ X₂ g₂ n F₁ F₂ j s →
      (C₁ < F ∧ I₁ < F) ∧ (C₂ < F ∧ I₂ < F) →
      s.heap.get? F = some (tri (.int hi.toNat u₁) (.int lo.toNat u₂) (.int ti.toNat u₃) fn) → EX 1066 hi (accS k l j) → EX 1066 lo 0 → EX 1066 ti 0 → (j = n → io = false ∧ fu = true) →
      (∀ s' r t, EX 1066 r (accS k l n) → Moved2 [C₁, I₁, C₂, I₂] s s' → R (.ok (.ret (.float r t))) s') →
      codeAny (model prog w) A (.builtin "math.sumprod.loop" ⟨[.ref a₁, .ref a₂, .int 0 t₀, .bool io, .int 0 u₀, .bool false, .bool true, .ref F, .bool fu], []⟩) R s := by
  intro m
  induction m with
  | zero =>
    intro j s F fn hi lo ti t₀ u₀ u₁ u₂ u₃ io fu hm hj hat hFs hFg e1 e2 e3 hend hR
    obtain rfl : j = n := by omega
    obtain ⟨rfl, rfl⟩ := hend rfl
    refine codeAny_builtin FF.entry_sumprod_loop ?_
    rw [Around.under_plainId FF.plain_sumprod_loop _]
    unfold Builtin.«math.sumprod.loop»
    refine wpAny_bind (wpAny_seqItems hFg rfl ?_)
    dsimp only [Option.getD_some]
    refine wpAny_bind (D.W₁.in4_1.done s _ _ hat.1 fun s₁ m₁ => ?_)
    have st2 : GenAt prog w A.in4 a₂ g₂ C₂ [I₂, T₂, X₂, cStatics] [I₂] (fun _ => true) j F₂ j s₁ := genAt_keeps hat.2 (by simp) (fun b hb o e => m₁.heap b o (D.off₂ b hb) e) (genOnly_other m₁.gens (Ne.symm D.gne))
    refine wpAny_bind (wpAny_holding (D.W₂.in4_1.done s₁ _ _ st2 fun s₂ m₂ => ?_))
    dsimp only [Option.isSome, Option.toList]
    simp only [bne_self_eq_false, Bool.false_eq_true, if_false, if_true, PySem.Flt.comp_back]
    refine wpAny_bind (wpAny_rule (wpAny_bind (wpAny_mkFloat ?_)))
    have fin := tl_end e1 e2 e3 (by have := accS_bound hb hn j (by omega); omega)
    refine wpAny_bind (wpAny_holding (AutoFloatOps.add_if_1 (by decide +kernel) ?_))
    refine wpAny_pure ?_
    refine hR _ _ _ ?_ (.trans (.of m₁ fun b hb => by rcases List.mem_cons.mp hb with rfl | hb; exact .head _; rw [List.mem_singleton.mp hb]; exact .tail _ (.head _)) (.trans (.of m₂ fun b hb => by
      rcases List.mem_cons.mp hb with rfl | hb
      · exact .tail _ (.tail _ (.head _))
      · rw [List.mem_singleton.mp hb]; exact .tail _ (.tail _ (.tail _ (.head _)))) ⟨fun _ _ _ e => e, fun h => h, rfl, rfl⟩))
    have z0 : EX 1066 (ofInt 0) 0 := by
      have := (EX.ofInt' (i := 0) (by decide)).rescale (c' := 1066) (i := 8) (by decide)
      rwa [Int.zero_mul] at this
    have := z0.add' fin (by have := accS_bound hb hn j (by omega); omega) (by decide)
    rwa [Int.zero_add] at this
  | succ m ih =>
    intro j s F fn hi lo ti t₀ u₀ u₁ u₂ u₃ io fu hm hj hat hFs hFg e1 e2 e3 hend hR
    have hlt : j < n := by omega
    refine codeAny_builtin FF.entry_sumprod_loop ?_
    rw [Around.under_plainId FF.plain_sumprod_loop _]
    unfold Builtin.«math.sumprod.loop»
    refine wpAny_bind (wpAny_seqItems hFg rfl ?_)
    dsimp only [Option.getD_some]
    refine wpAny_bind (D.W₁.in4_1.item j s _ _ hlt hat.1 fun v₁ s₁ p₁ G₁ m₁ => ?_)
    have st2 : GenAt prog w A.in4 a₂ g₂ C₂ [I₂, T₂, X₂, cStatics] [I₂] (fun _ => true) n F₂ j s₁ := genAt_keeps hat.2 (by simp) (fun b hb o e => m₁.heap b o (D.off₂ b hb) e) (genOnly_other m₁.gens (Ne.symm D.gne))
    refine wpAny_bind (wpAny_holding (D.W₂.in4_1.item j s₁ _ _ hlt st2 fun v₂ s₂ p₂ G₂ m₂ => ?_))
    obtain ⟨x, tx, rfl, ex⟩ := hF₁ j v₁ hlt p₁
    obtain ⟨y, ty, rfl, ey⟩ := hF₂ j v₂ hlt p₂
    have step := tl_step e1 e2 e3 ex ey (by have := accS_bound hb hn j (by omega); omega) (by have := hb j hlt; omega)
    have M12 : Moved2 [C₁, I₁, C₂, I₂] s s₂ := .trans (.of m₁ fun b hb => by rcases List.mem_cons.mp hb with rfl | hb; exact .head _; rw [List.mem_singleton.mp hb]; exact .tail _ (.head _)) (.of m₂ fun b hb => by
      rcases List.mem_cons.mp hb with rfl | hb
      · exact .tail _ (.tail _ (.head _))
      · rw [List.mem_singleton.mp hb]; exact .tail _ (.tail _ (.tail _ (.head _))))
    have hFn : F ∉ [C₁, I₁, C₂, I₂] := fun q => by
      rcases List.mem_cons.mp q with rfl | q
      · exact Nat.lt_irrefl _ hFs.1.1
      rcases List.mem_cons.mp q with rfl | q
      · exact Nat.lt_irrefl _ hFs.1.2
      rcases List.mem_cons.mp q with rfl | q
      · exact Nat.lt_irrefl _ hFs.2.1
      rw [List.mem_singleton.mp q] at hFs; exact Nat.lt_irrefl _ hFs.2.2
    have hFlt : F < s₂.heap.objs.size := Heap.lt_size (M12.heap _ _ hFn hFg)
    have G₁' := genAt_keeps (s' := s₂) G₁ (by simp) (fun b hb o e => m₂.heap b o (D.off₁ b hb) e) (genOnly_other m₂.gens D.gne)
    have go : ∀ u, codeAny (model prog w) A (.builtin "math.sumprod.loop" ⟨[.ref a₁, .ref a₂, .int 0 t₀, .bool false, .int 0 u, .bool false, .bool true, .ref s₂.heap.objs.size, .bool true], []⟩) R
        { s₂ with heap := s₂.heap.push (tri (.int (Builtin.Math.tlFma x y (hi, lo, ti)).1.toNat 0) (.int (Builtin.Math.tlFma x y (hi, lo, ti)).2.1.toNat 0) (.int (Builtin.Math.tlFma x y (hi, lo, ti)).2.2.toNat 0) 0) } := fun u => by
      refine ih (j + 1) _ s₂.heap.objs.size 0 _ _ _ t₀ u 0 0 0 false true (by omega) hlt ⟨?_, ?_⟩ ?_ (Heap.get?_push_size _ rfl) step.1 step.2.1 step.2.2 (fun _ => ⟨rfl, rfl⟩) fun s' r t hr hm => hR s' r t hr (M12.trans (Moved2.trans (moved2_push _ _) hm))
      · exact genAt_keeps G₁' (by simp) (fun b _ o e => Heap.get?_push_of_some _ e) rfl
      · exact genAt_keeps G₂ (by simp) (fun b _ o e => Heap.get?_push_of_some _ e) rfl
      · exact ⟨⟨Nat.lt_trans hFs.1.1 hFlt, Nat.lt_trans hFs.1.2 hFlt⟩, Nat.lt_trans hFs.2.1 hFlt, Nat.lt_trans hFs.2.2 hFlt⟩
    cases io
    all_goals
      dsimp only [Option.isSome, Option.toList]
      simp only [bne_self_eq_false, Bool.false_eq_true, if_false, if_true, PySem.Flt.comp_back, Bool.or_true, Bool.true_or, step.1.finite]
      try refine wpAny_bind (wpAny_rule ?_)
      refine wpAny_bind (wpAny_newObj_type ?_)
      exact wpAny_pure ⟨plainId_quiet FF.plain_sumprod_loop _, go _⟩
end
end Mine
end
section
open PySem PySem.W PyProof.Rows PySem.Calls PySem.Float64
set_option Elab.async false
set_option maxRecDepth 100000 
namespace Mine
theorem zero_EX (c : Nat) : EX c (zero false) 0 := EX.zero' false
section
variable {prog : Program} {w : World} {A : Around} {E : Value → Shared → Prop} {s : Shared} {Q : Value → Shared → Prop}
theorem sumprod_call {a₁ C₁ I₁ T₁ X₁ g₁ a₂ C₂ I₂ T₂ X₂ g₂ n : Nat} {F₁ F₂ : Nat → Value → Prop} (D : Two prog w A a₁ C₁ I₁ T₁ X₁ g₁ a₂ C₂ I₂ T₂ X₂ g₂ n F₁ F₂) {k l : Nat → Int}
    (hF₁ : ∀ i v, i < n → F₁ i v → ∃ x t, v = .float x t ∧ EX 1070 x (k i)) (hF₂ : ∀ i v, i < n → F₂ i v → ∃ x t, v = .float x t ∧ EX 1070 x (l i))
    (hb : ∀ i, i < n → (k i * l i).natAbs ≤ 2 ^ 20) (hn : n ≤ 1000) (h0 : 0 < n) (hat : TwoAt prog w A a₁ C₁ I₁ T₁ X₁ g₁ a₂ C₂ I₂ T₂ X₂ g₂ n F₁ F₂ 0 s)
    (hlt : (C₁ < s.heap.objs.size ∧ I₁ < s.heap.objs.size) ∧ (C₂ < s.heap.objs.size ∧ I₂ < s.heap.objs.size))
    (hQ : ∀ s' r t, EX 1066 r (accS k l n) → Moved2 [C₁, I₁, C₂, I₂] s s' → Q (.float r t) s') :
    wpAny (model prog w) A (call (.builtin "math.sumprod") [.ref a₁, .ref a₂]) Q E s := by
  refine call_function_tree FF.kind_sumprod FF.plain_sumprod FF.entry_sumprod (FF.args_sumprod _ _) ?_
  unfold Builtin.«math.sumprod»
  refine wpAny_bind (wpAny_of_eq (show Builtin.Math.mathSome "sumprod" 2 2 ⟨[.ref a₁, .ref a₂], []⟩ = pure [.ref a₁, .ref a₂] from rfl) ?_)
  dsimp only
  refine wpAny_bind (D.W₁.in4_1.self 0 s _ _ hat.1 ?_)
  refine wpAny_bind (wpAny_holding (D.W₂.in4_1.self 0 s _ _ hat.2 ?_))
  refine wpAny_bind (wpAny_mkInt ?_)
  refine wpAny_bind (wpAny_newObj_type ?_)
  refine wpAny_pure ⟨plainId_quiet FF.plain_sumprod_loop _, ?_⟩
  refine sp_loop D hF₁ hF₂ hb hn n 0 _ s.heap.objs.size 0 (zero false) (zero false) (zero false) _ _ 0 0 0 true false (by omega) (by omega) ⟨?_, ?_⟩ hlt (Heap.get?_push_size _ rfl) (zero_EX _) (zero_EX _) (zero_EX _) (by omega) fun s' r t hr hm => hQ s' r t hr (Moved2.trans (s' := { s with heap := s.heap.push (tri (.int (zero false).toNat 0) (.int (zero false).toNat 0) (.int (zero false).toNat 0) 0), toks := s.toks + 1 }) ⟨fun b o' _ e => Heap.get?_push_of_some _ e, fun h => h, rfl, rfl⟩ hm)
  · exact genAt_keeps hat.1 (by simp) (fun b _ o e => Heap.get?_push_of_some _ e) rfl
  · exact genAt_keeps hat.2 (by simp) (fun b _ o e => Heap.get?_push_of_some _ e) rfl

theorem EX.isZero' {c : Nat} {x : UInt64} (h : EX c x 0) : isZero x = true := by
  obtain ⟨a, m, e, hd, hv⟩ := h
  rw [Int.zero_mul] at hv
  have hm : m = 0 := by
    have := val_natAbs hd
    rw [hv] at this
    have hp := Nat.two_pow_pos (e + 1074).toNat
    rcases Nat.eq_zero_or_pos m with h | h
    · exact h
    · have := Nat.mul_pos h hp; simp at *; omega
  unfold isZero
  rw [hd, hm]
  rfl
theorem EX.of_isZero {c : Nat} {x : UInt64} {k : Int} (h : EX c x k) (hz : isZero x = true) : k = 0 := by
  obtain ⟨a, m, e, hd, hv⟩ := h
  unfold isZero at hz
  rw [hd] at hz
  have hm : m = 0 := by
    cases m with
    | zero => rfl
    | succ m => simp at hz
  have := val_natAbs hd
  rw [hv, hm, Nat.zero_mul, natAbs_mul_pow] at this
  have hp := Nat.two_pow_pos c
  rcases Nat.mul_eq_zero.mp this with h | h
  · exact Int.natAbs_eq_zero.mp h
  · omega
theorem fsum_step {x y : UInt64} {S n : Int} (hy : EX 1074 y S) (hx : EX 1074 x n) (hS : S.natAbs < 2 ^ 50) (hn : n.natAbs < 2 ^ 50) : ∃ t, fsumAdd [y] x = ([], t) ∧ EX 1074 t (S + n) := by
  unfold fsumAdd
  simp only
  split
  · have S1 : EX 1074 (add y x) (S + n) := hy.add' hx (by omega) (by decide)
    have S2 : EX 1074 (sub (add y x) y) n := by have := S1.sub' hy (by omega) (by decide); rwa [show S + n - S = n by omega] at this
    have S3 : EX 1074 (sub x (sub (add y x) y)) 0 := by have := hx.sub' S2 (by omega) (by decide); rwa [Int.sub_self] at this
    unfold fsumAdd
    simp only [S3.isZero', if_true]
    exact ⟨_, rfl, S1⟩
  · have S1 : EX 1074 (add x y) (S + n) := by have := hx.add' hy (by omega) (by decide); rwa [Int.add_comm] at this
    have S2 : EX 1074 (sub (add x y) x) S := by have := S1.sub' hx (by omega) (by decide); rwa [show S + n - n = S by omega] at this
    have S3 : EX 1074 (sub y (sub (add x y) x)) 0 := by have := hy.sub' S2 (by omega) (by decide); rwa [Int.sub_self] at this
    unfold fsumAdd
    simp only [S3.isZero', if_true]
    exact ⟨_, rfl, S1⟩

/-- the partials of fsum over ints: none, or one -/
inductive PsAre : List UInt64 → Int → Prop
  | nil : PsAre [] 0
  | one {y : UInt64} {S : Int} : EX 1074 y S → PsAre [y] S
theorem PsAre.step {ps : List UInt64} {S n : Int} {x : UInt64} (h : PsAre ps S) (hx : EX 1074 x n) (hS : S.natAbs < 2 ^ 50) (hn : n.natAbs < 2 ^ 50) :
    ∃ t, fsumAdd ps x = ([], t) ∧ isFinite t = true ∧ PsAre (if isZero t = true then [] else [t]) (S + n) := by
  have key : ∃ t, fsumAdd ps x = ([], t) ∧ EX 1074 t (S + n) := by
    cases h with
    | nil => exact ⟨x, rfl, by rw [Int.zero_add]; exact hx⟩
    | one hy => exact fsum_step hy hx hS hn
  obtain ⟨t, e, ht⟩ := key
  refine ⟨t, e, ht.finite, ?_⟩
  split
  · rename_i hz; rw [ht.of_isZero hz]; exact .nil
  · exact .one ht
theorem PsAre.fin {ps : List UInt64} {S : Int} (h : PsAre ps S) : EX 1074 (fsumEnd ps) S := by
  cases h with
  | nil => exact zero_EX _
  | one hy => exact hy

theorem ofInt_small {i : Int} (h : i.natAbs < 2 ^ 50) : ¬ Flt.Over i := by
  intro q
  unfold Flt.Over at q
  have : (2 : Nat) ^ 50 ≤ 2 ^ 1024 - 2 ^ 970 := by decide +kernel
  omega
noncomputable def bitsObj (xs : List UInt64) : Obj := { cls := .type "tuple", data := .seq (xs.map fun x => rawInt x.toNat).toArray }
theorem unpack_back (xs : List UInt64) : ((some (xs.map fun x => rawInt x.toNat).toArray).getD #[]).toList.map (fun | .int i _ => i.toNat.toUInt64 | _ => 0) = xs := by
  rw [Option.getD_some, List.map_map]
  induction xs with
  | nil => rfl
  | cons x r ih => rw [List.map_cons, ih]; congr 1; show ((x.toNat : Int)).toNat.toUInt64 = x; exact PySem.Flt.comp_back x

theorem unpack_any {F : Addr} {xs : List UInt64} {Q : List UInt64 → Shared → Prop} (h : s.heap.get? F = some (bitsObj xs)) (hQ : Q xs s) :
    wpAny (model prog w) A (seqItems? (.ref F) >>= fun r => pure ((r.getD #[]).toList.map (fun | .int i _ => i.toNat.toUInt64 | _ => 0))) Q E s := by
  refine wpAny_bind (wpAny_seqItems h rfl (wpAny_pure ?_))
  rw [unpack_back]; exact hQ
theorem pack_any {xs : List UInt64} {Q : Value → Shared → Prop} (hl : xs.length ≤ 100) (hQ : Q (.ref s.heap.objs.size) { s with heap := s.heap.push (bitsObj xs) }) :
    wpAny (model prog w) A (newTuple (xs.map fun x => rawInt x.toNat)) Q E s :=
  wpAny_newObj_type hQ (by show (xs.map fun x => rawInt x.toNat).toArray.size ≤ sizeLine; rw [List.size_toArray, List.length_map, sizeLine_eq]; omega)
theorem foldl_drop (val : Nat → Int) {n j : Nat} (h : j < n) (S : Int) : S + ((List.range n).drop j).foldl (fun a i => a + val i) 0 = S + val j + ((List.range n).drop (j + 1)).foldl (fun a i => a + val i) 0 := by
  rw [range_drop h, List.foldl_cons, Int.zero_add]
  have : ∀ (l : List Nat) (a : Int), l.foldl (fun a i => a + val i) a = a + l.foldl (fun a i => a + val i) 0 := by
    intro l
    induction l with
    | nil => intro a; simp
    | cons x r ih => intro a; rw [List.foldl_cons, ih, List.foldl_cons, ih (0 + val x)]; omega
  rw [this _ (val j)]; omega

theorem fsum_loop {I : Addr} {fp wr : List Addr} {n : Nat} {P : Nat → Value → Prop} {St : Nat → Heap → Prop} {R : Result → Shared → Prop} (hA : A.handled = none) (W : Walks prog w A.in1 I fp wr n P St) (val : Nat → Int) (hP : ∀ i v, i < n → P i v → ∃ t, v = .int (val i) t)
    (hb : ∀ i, i < n → (val i).natAbs ≤ 2 ^ 20) (hn : n ≤ 1000) :
    ∀ (m j : Nat) (s : Shared) (F G : Addr) (ps : List UInt64) (S : Int), n - j = m → j ≤ n → St j s.heap → (∀ b ∈ fp, b < F) → G ∉ fp → s.heap.get? F = some (bitsObj ps) → s.heap.get? G = some (bitsObj [zero false, zero false]) →
      PsAre ps S → S.natAbs ≤ j * 2 ^ 20 →
      (∀ h' tk r t, EX 1074 r (S + ((List.range n).drop j).foldl (fun a i => a + val i) 0) → (∀ b o, b ∉ wr → s.heap.get? b = some o → h'.get? b = some o) → R (.ok (.ret (.float r t))) { s with heap := h', toks := tk }) →
      codeAny (model prog w) A (.builtin "math.fsum.loop" ⟨[.ref I, .ref F, .ref G], []⟩) R s := by
  intro m
  induction m with
  | zero =>
    intro j s F G ps S hm hj hst hF hG hFg hGg hps hS hR
    obtain rfl : j = n := by omega
    refine codeAny_builtin FF.entry_fsum_loop ?_
    rw [Around.under_plainId FF.plain_fsum_loop _]
    unfold Builtin.«math.fsum.loop»
    refine wpAny_bind (unpack_any hFg ?_)
    refine wpAny_bind (unpack_any hGg ?_)
    dsimp only
    refine wpAny_bind (W.done s _ _ hst fun h' tk hk => ?_)
    dsimp only
    rw [if_neg (by rw [(zero_EX 1074).isZero']; decide)]
    refine wpAny_bind (wpAny_mkFloat (wpAny_pure ?_))
    refine hR h' _ _ _ ?_ hk
    rw [List.drop_of_length_le (by rw [List.length_range]; exact Nat.le_refl _)]
    show EX 1074 _ (S + 0)
    rw [Int.add_zero]
    exact hps.fin
  | succ m ih =>
    intro j s F G ps S hm hj hst hF hG hFg hGg hps hS hR
    have hlt : j < n := by omega
    refine codeAny_builtin FF.entry_fsum_loop ?_
    rw [Around.under_plainId FF.plain_fsum_loop _]
    unfold Builtin.«math.fsum.loop»
    refine wpAny_bind (unpack_any hFg ?_)
    refine wpAny_bind (unpack_any hGg ?_)
    dsimp only
    refine wpAny_bind (W.item j s _ _ hlt hst fun v h' tk hPv hst' hk => ?_)
    obtain ⟨t, rfl⟩ := hP j v hlt hPv
    dsimp only
    have hbj := hb j hlt
    refine wpAny_bind (wpAny_holding (Flt.realArg_int hA (fun q => absurd q (ofInt_small (by omega))) fun _ => ?_))
    obtain ⟨y, e, hfin, hps'⟩ := hps.step (EX.ofInt' (i := val j) (by omega)) (by omega) (by omega)
    rw [e]
    dsimp only
    rw [if_pos hfin]
    refine wpAny_bind (pack_any (by split <;> simp) ?_)
    have hGw : G ∉ wr := fun q => hG (W.sub _ q)
    have hFw : F ∉ wr := fun q => Nat.lt_irrefl _ (hF F (W.sub _ q))
    have hFlt : F < h'.objs.size := Heap.lt_size (hk _ _ hFw hFg)
    refine wpAny_pure ⟨plainId_quiet FF.plain_fsum_loop _, ih (j + 1) _ _ G _ (S + val j) (by omega) hlt (W.frame _ _ _ hst' fun b _ o e => Heap.get?_push_of_some _ e) (fun b q => Nat.lt_trans (hF b q) hFlt) hG (Heap.get?_push_size _ rfl) (Heap.get?_push_of_some _ (hk _ _ hGw hGg)) hps' (by omega) fun h'' tk'' r t hr hk'' => ?_⟩
    refine hR h'' tk'' r t ?_ fun b o hb e => hk'' b o hb (Heap.get?_push_of_some _ (hk b o hb e))
    rw [foldl_drop val hlt]
    exact hr

theorem fsum_call {T : Addr} {vs : List Value} {ns : List Int} (hA : A.handled = none) (hT : IsTup s.heap T vs.toArray) (hi : IntsAre vs ns) (hb : ∀ n ∈ ns, n.natAbs ≤ 2 ^ 20) (hn : ns.length ≤ 1000)
    (hQ : ∀ h' tk r t, EX 1074 r ns.sum → (∀ b o, s.heap.get? b = some o → h'.get? b = some o) → Q (.float r t) { s with heap := h', toks := tk }) :
    wpAny (model prog w) A (call (.builtin "math.fsum") [.ref T]) Q E s := by
  refine call_function_tree FF.kind_fsum FF.plain_fsum FF.entry_fsum (FF.args_fsum _) ?_
  unfold Builtin.«math.fsum»
  refine wpAny_bind (wpAny_of_eq (show Builtin.Math.mathOne "fsum" ⟨[.ref T], []⟩ = pure (.ref T) from rfl) ?_)
  refine wpAny_bind (wpAny_pyIter_tuple hT ?_)
  refine wpAny_bind (pack_any (by simp) ?_)
  refine wpAny_bind (pack_any (by simp) ?_)
  have hTlt : T < s.heap.objs.size := let ⟨_, ho, _⟩ := hT; Heap.lt_size ho
  have hlen : vs.toArray.size = ns.length := by rw [List.size_toArray]; exact hi.length
  have W := Walks.tuple (prog := prog) (w := w) (A := A.in1) hA s.heap.objs.size T (Nat.ne_of_lt hTlt) vs.toArray
  rw [hlen] at W
  have hval : ∀ i v, i < ns.length → vs.toArray[i]? = some v → ∃ t, v = .int (ns.getD i 0) t := fun i v _ hv => hi.int_at i v (by simpa using hv)
  have hbd : ∀ i, i < ns.length → (ns.getD i 0).natAbs ≤ 2 ^ 20 := fun i h => by
    rw [List.getD_eq_getElem?_getD, List.getElem?_eq_getElem h]; exact hb _ (List.getElem_mem h)
  generalize hh1 : s.heap.push { cls := .type "tuple_iterator", data := .fields #[.ref T, .int 0 0] } = h1
  have k1 : ∀ b o, s.heap.get? b = some o → h1.get? b = some o := fun b o e => by rw [← hh1]; exact Heap.get?_push_of_some _ e
  have g1 : h1.get? s.heap.objs.size = some { cls := .type "tuple_iterator", data := .fields #[.ref T, .int 0 0] } := by rw [← hh1]; exact Heap.get?_push_size _ rfl
  have sz1 : h1.objs.size = s.heap.objs.size + 1 := by rw [← hh1, Heap.size_push]
  generalize hh2 : h1.push (bitsObj []) = h2
  have k2 : ∀ b o, h1.get? b = some o → h2.get? b = some o := fun b o e => by rw [← hh2]; exact Heap.get?_push_of_some _ e
  have g2 : h2.get? h1.objs.size = some (bitsObj []) := by rw [← hh2]; exact Heap.get?_push_size _ rfl
  have sz2 : h2.objs.size = s.heap.objs.size + 2 := by rw [← hh2, Heap.size_push, sz1]
  have sumE : ∀ (l : List Int), (List.range l.length).foldl (fun a i => a + l.getD i 0) 0 = l.sum := by
    intro l
    have gen : ∀ (l : List Int) (a : Int), (List.range l.length).foldl (fun a i => a + l.getD i 0) a = a + l.sum := by
      intro l
      induction l with
      | nil => intro a; simp
      | cons x r ih =>
        intro a
        rw [List.length_cons, List.range_succ_eq_map, List.foldl_cons, List.foldl_map, List.sum_cons]
        have := ih (a + x)
        simp only [List.getD_cons_succ, List.getD_cons_zero] at this ⊢
        rw [this]; omega
    rw [gen]; omega
  have lt1 : s.heap.objs.size < h1.objs.size := by rw [sz1]; exact Nat.lt_succ_self _
  refine wpAny_pure ⟨plainId_quiet FF.plain_fsum_loop _, fsum_loop hA W (fun i => ns.getD i 0) hval hbd hn ns.length 0 _ h1.objs.size h2.objs.size [] 0 (by omega) (by omega) ?_ ?_ ?_ ?_ (Heap.get?_push_size _ rfl) .nil (by simp) ?_⟩
  · refine ⟨⟨_, Heap.get?_push_of_some _ (k2 _ _ g1), rfl, rfl⟩, ?_⟩
    obtain ⟨o, ho, r⟩ := hT
    exact ⟨o, Heap.get?_push_of_some _ (k2 _ _ (k1 _ _ ho)), r⟩
  · intro b hb
    rcases List.mem_cons.mp hb with rfl | hb
    · exact lt1
    · rw [List.mem_singleton.mp hb]; exact Nat.lt_trans hTlt lt1
  · intro hb
    have lt2 : s.heap.objs.size < h2.objs.size := by rw [sz2]; exact Nat.lt_of_lt_of_le (Nat.lt_succ_self _) (Nat.le_succ _)
    rcases List.mem_cons.mp hb with e | hb
    · rw [e] at lt2; exact Nat.lt_irrefl _ lt2
    · have e := List.mem_singleton.mp hb
      rw [e] at lt2; exact Nat.lt_asymm lt2 hTlt
  · exact Heap.get?_push_of_some _ g2
  · intro h' tk r t hr hk
    refine hQ h' tk r t ?_ fun b o e => hk b o (fun q => ?_) (Heap.get?_push_of_some _ (k2 _ _ (k1 _ _ e)))
    · rw [List.drop_zero, Int.zero_add, sumE] at hr; exact hr
    · have := Heap.lt_size e
      rw [List.mem_singleton.mp q] at this
      exact Nat.lt_irrefl _ this
end
end Mine
end
local macro_rules | `(tactic| walk_at "pad 20") => `(tactic| fail)
section
open PySem PySem.W PyProof.Rows PySem.Calls
set_option Elab.async false
set_option maxRecDepth 100000 
set_option maxHeartbeats 8000000 
namespace Mine

theorem call_roN {w : World} {s : Shared} {Q : Value → Shared → Prop} {E : Value → Shared → Prop} {K : Frag} {prog : Program} {A : Around} {name qual : Str} {params : Arguments} {body : List Stmt} {scope : Scope} {dV kV doc pm cdv ct oc : Value} {an od : Option Addr} {osl : Array (Option Value)} {f : Addr} {args : List Value} {kw : List (Str × Value)} {binds : List (Str × Value)}
    (X : K.In s.heap) (hlim : s.heap.NoLimit)
    (ho : K.lookup f = some ⟨oc, od, .func (fnOf name qual params body scope dV kV doc pm an cdv ct), osl⟩) (hcd : codeIn K cdv qual = true) (hroom : A.depth < recursionLimit)
    (hbind : BindsTo s (fnOf name qual params body scope dV kV doc pm an cdv ct) ⟨args, kw⟩ binds) (hkind : (binds.all fun y => scope.names.lookup y.1 == some .local || scope.names.lookup y.1 == some .cell) = true)
    (hnd : ((cellsFrom 0 scope.names []).map (·.1)).Nodup)
    (hco : scope.isCoroutine = false) (hgen : scope.isGenerator = false) (hk : scope.kind = .function)
    (h : ∀ L' h₁ tk cells, Fr s.heap L' h₁ (bindL (envOfC qual scope L' f cdv).kindOf binds fun _ => none) → News s.heap L' h₁ cells →
      CellsAre (bindC (envOfC qual scope L' f cdv).kindOf binds fun _ => none) (cellsFrom (L' + 1) scope.names []) cells →
      wpAny (model prog w) (A.deeper (envOfC qual scope L' f cdv)) (execs body (envOfC qual scope L' f cdv))
        (fun fl s' => Q (match fl with | .ret v => v | _ => .none) s') (fun _ _ => False)
        { s with heap := h₁, toks := tk })
    : wpAny (model prog w) A (call (.ref f) args kw) Q E s := by
  refine wpAny_call ?_
  refine codeAny_call_function hroom (X _ _ ho) rfl hco hgen rfl (codeRec_of X hcd) (hbind _ _ _ _ ?_)
  refine wpAny_newFunctionEnv_cells hk (kindsX hkind _) fun env' he s' x => ?_
  subst he
  refine ⟨hlim.keeps x.toInCall.keep, codeAny_func ?_⟩
  obtain ⟨h₁, tk, rfl, _⟩ := x.done
  have hk₁ := x.toInCall.keep
  obtain ⟨cells, NC, Y⟩ := Cl.news (h₀ := s.heap) (Nat.le_refl _) fun n c hm => ⟨x.cell n c (lookup_of_mem_nodup (cellsFrom_names scope.names 0 (s.heap.objs.size + 1) [] [] rfl ▸ hnd) hm), x.above n c hm⟩
  exact wpAny_mono (h s.heap.objs.size h₁ tk cells ⟨x.toInCall.ns, hk₁, Nat.le_refl _⟩ NC Y) (fun fl s' x => x) fun _ _ x => x.elim

section
variable {w : World} {mg mb : Str → Option Value} {p : Program} {loose : List Str} 
    {s : Shared} {Q : Value → Shared → Prop} {E : Value → Shared → Prop} {d : Nat} {fr : Option (List Env)} {gs : Option (List Code)} {u : Nat}
theorem len16 {prog : Program} {A : Around} {t : Addr} {vs : List Value} {ns : List Int} {Q : Value → Shared → Prop} (ht : IsTup s.heap t vs.toArray) (hi : IntsAre vs ns) (hl : ns.length = 16)
    (h : Q (.int 16 (s.toks + 1)) { s with toks := s.toks + 1 + 1 }) : wpAny (model prog w) A (call (.builtin "len") [.ref t]) Q E s := by
  have e : vs.toArray.size = 16 := by rw [List.size_toArray, hi.length, hl]
  refine len_tuple ht (by rw [e]; decide) ?_
  rw [e]; exact h
local macro_rules | `(tactic| walk_at "call builtin:len") => `(tactic| (
  k_dflt (refine' len16 ?t ?i ?n ?_; (case t => exact IsTup.keeps (by assumption) (Fr.keep (by with_reducible assumption))); (case i => assumption); (case n => assumption)); (try dsimp only)))
local macro_rules | `(tactic| walk_at "call builtin:math.fsum") => `(tactic| (
  k_dflt (refine' fsum_call rfl ?t ?i ?b ?n ?_; (case t => exact IsTup.keeps (by assumption) (Fr.keep (by with_reducible assumption))); (case i => assumption); (case b => assumption); (case n => omega)); intro h' tk' r' t' hr' hk';
  (with_reducible rename Fr _ _ _ _ => kF); (with_reducible rename News _ _ _ _ => kN); (have F' := Fr.keeps kF hk'); (have N' := News.grown kN hk'); (clear kF kN)))

theorem spliced_one {M : Model} {A : Around} {E : Value → Shared → Prop} {s : Shared} {t : Sem Value} {Q : List Value → Shared → Prop} (h : wpAny M A t (fun v s₁ => Q [v] s₁) E s) : wpAny M A (spliced [(false, t)]) Q E s :=
  PySem.Calls.spliced_cons (wpAny_mono h (fun v s₁ h₁ => PySem.Calls.spliced_nil h₁) fun _ _ x => x)
noncomputable def covI (nx ny : List Int) : Int := accS (fun i => nx.getD i 0 * 16 - nx.sum) (fun i => ny.getD i 0 * 16 - ny.sum) 16
theorem isDiff_EX {ns : List Int} {r : UInt64} {i : Nat} {v : Value} (hr : EX 1074 r ns.sum) (hs : ns.sum.natAbs ≤ 2 ^ 25) (hb : (ns.getD i 0).natAbs ≤ 2 ^ 20) (h : IsDiff ns (Float64.div r (Float64.ofInt 16)) i v) : ∃ x t, v = .float x t ∧ EX 1070 x (ns.getD i 0 * 16 - ns.sum) := by
  obtain ⟨t, rfl⟩ := h
  refine ⟨_, t, rfl, ?_⟩
  have h16 : EX 1074 (Float64.ofInt 16) ((2 ^ 4 : Nat) : Int) := EX.ofInt' (by decide)
  have e1 := EX.div' hr h16 (by omega) (by decide) (by decide)
  have e2 := (EX.ofInt' (i := ns.getD i 0) (by omega)).rescale (c' := 1070) (i := 4) (by decide)
  exact EX.sub' (k := ns.getD i 0 * 16) e2 e1 (by omega) (by decide)
theorem sum_bound : ∀ {l : List Int}, (∀ n ∈ l, n.natAbs ≤ 3) → l.sum.natAbs ≤ 3 * l.length
  | [], _ => by simp
  | x :: r, h => by
    have h1 := h x (.head _)
    have h2 := sum_bound (fun n hn => h n (.tail _ hn) : ∀ n ∈ r, n.natAbs ≤ 3)
    rw [List.sum_cons, List.length_cons]; omega
theorem getD_bound {l : List Int} (h : ∀ n ∈ l, n.natAbs ≤ 3) (i : Nat) : (l.getD i 0).natAbs ≤ 3 := by
  rw [List.getD_eq_getElem?_getD]
  cases hq : l[i]? with
  | none => decide
  | some x => exact h x (List.mem_of_getElem? hq)

theorem two_gens {prog : Program} {A : Around} {E : Value → Shared → Prop} {s : Shared} {env : Env} {iter1 iter2 : Expr} {x1 y1 x2 y2 : Str} {px1 pa1 pb1 pe1 px2 pa2 pb2 pe2 pos1 pos2 : Pos} {sc1 sc2 : Scope} {cl1 cl2 : List (Str × Addr)} {Q : Value → Shared → Prop}
    {c P L T1 T2 c1 c2 bm : Addr} {ob : Obj} {mg : Str → Option Value} {ps : Array Value} {vx vy : List Value} {nx ny : List Int} {b1 b2 : UInt64} {tb1 tb2 : Tok} {k l : Nat → Int}
    (hh : A.handled = none) (hroom : A.depth < recursionLimit) (hcode : env.code = .ref c)
    (q1 : sc1.isCoroutine = false ∧ closureFor sc1 env = pure cl1 ∧ (∀ y ∈ sc1.names, y.2 ≠ .cell) ∧ sc1.names.lookup (".0" : Str) = some NameKind.local ∧ sc1.names.lookup x1 = some .local ∧ sc1.names.lookup y1 = some .free ∧ sc1.kind = .function ∧ (x1 == ("__debug__" : Str)) = false ∧ (y1 == ("__debug__" : Str)) = false ∧ (y1 == ("__classdict__" : Str)) = false ∧ (∀ x, genFold iter1 env x = pure x) ∧ cl1.lookup y1 = some c1)
    (q2 : sc2.isCoroutine = false ∧ closureFor sc2 env = pure cl2 ∧ (∀ y ∈ sc2.names, y.2 ≠ .cell) ∧ sc2.names.lookup (".0" : Str) = some NameKind.local ∧ sc2.names.lookup x2 = some .local ∧ sc2.names.lookup y2 = some .free ∧ sc2.kind = .function ∧ (x2 == ("__debug__" : Str)) = false ∧ (y2 == ("__debug__" : Str)) = false ∧ (y2 == ("__classdict__" : Str)) = false ∧ (∀ x, genFold iter2 env x = pure x) ∧ cl2.lookup y2 = some c2)
    (hit1 : ∀ (s₁ : Shared) (R : Value → Shared → Prop), (∀ o, s.heap.get? L = some o → s₁.heap.get? L = some o) → R (.ref T1) s₁ → wpAny (model prog w) A (eval iter1 env) R E s₁)
    (hit2 : ∀ (s₁ : Shared) (R : Value → Shared → Prop), (∀ o, s.heap.get? L = some o → s₁.heap.get? L = some o) → R (.ref T2) s₁ → wpAny (model prog w) A (eval iter2 env) R E s₁)
    (hT1 : IsTup s.heap T1 vx.toArray) (hi1 : IntsAre vx nx) (hl1 : nx.length = 16) (hs1 : ∀ n ∈ nx, n.natAbs < 2 ^ 53)
    (hT2 : IsTup s.heap T2 vy.toArray) (hi2 : IntsAre vy ny) (hl2 : ny.length = 16) (hs2 : ∀ n ∈ ny, n.natAbs < 2 ^ 53)
    (hX1 : s.heap.IsCell c1 (some (.float b1 tb1))) (hX2 : s.heap.IsCell c2 (some (.float b2 tb2)))
    (hlim : s.heap.NoLimit) (hok : s.heap.IsCode c P ps) (htab : s.heap.TableAt c P ps) (M : BMod s.heap env.globals mg bm ob)
    (hcP : cStatics ≠ P) (hn : T1 ≠ P ∧ T2 ≠ P ∧ c1 ≠ P ∧ c2 ≠ P ∧ L ≠ P)
    (hF1 : ∀ i v, i < 16 → IsDiff nx b1 i v → ∃ x t, v = .float x t ∧ EX 1070 x (k i)) (hF2 : ∀ i v, i < 16 → IsDiff ny b2 i v → ∃ x t, v = .float x t ∧ EX 1070 x (l i))
    (hb : ∀ i, i < 16 → (k i * l i).natAbs ≤ 2 ^ 20)
    (hQ : ∀ s' r t more, EX 1066 r (accS k l 16) → Heap.ExtBut P s.heap s'.heap → s'.heap.IsCode c P (ps ++ more) → s'.heap.TableAt c P (ps ++ more) → ((∀ y ∈ s.gens, y.bare = true) → ∀ y ∈ s'.gens, y.bare = true) → s'.drawn = s.drawn → s'.os = s.os → Q (.float r t) s') :
    wpAny (model prog w) A (eval (.GeneratorExp (.BinOp (.Name x1 pa1) .Sub (.Name y1 pb1) pe1) [⟨.Name x1 px1, iter1, [], 0⟩] sc1 pos1) env)
      (fun v s₁ => wpAny (model prog w) A (spliced [(false, eval (.GeneratorExp (.BinOp (.Name x2 pa2) .Sub (.Name y2 pb2) pe2) [⟨.Name x2 px2, iter2, [], 0⟩] sc2 pos2) env)])
        (fun vs s₂ => wpAny (model prog w) A (call (.builtin "math.sumprod") (v :: vs)) Q E s₂) E s₁) E s := by
  obtain ⟨p1, p2, p3, p4, p5, p6, p7, p8, p9, p10, p11, p12⟩ := q1
  obtain ⟨r1, r2, r3, r4, r5, r6, r7, r8, r9, r10, r11, r12⟩ := q2
  obtain ⟨n1, n2, n3, n4, n5⟩ := hn
  have t1lt : T1 < s.heap.objs.size := let ⟨_, ho, _⟩ := hT1; Heap.lt_size ho
  have t2lt : T2 < s.heap.objs.size := let ⟨_, ho, _⟩ := hT2; Heap.lt_size ho
  have c1lt : c1 < s.heap.objs.size := let ⟨_, ho, _⟩ := hX1; Heap.lt_size ho
  have c2lt : c2 < s.heap.objs.size := let ⟨_, ho, _⟩ := hX2; Heap.lt_size ho
  have slt : cStatics < s.heap.objs.size := let ⟨_, hn, _⟩ := hlim; hn.lt
  have Plt := hok.lt.2
  have clt := hok.lt.1
  refine gen_make hh p1 p2 p3 p4 p5 p6 p7 hroom p8 p9 p10 p11 (fun R hR => hit1 s R (fun _ e => e) hR) hT1 hi1 hs1 p12 hX1 hlim hcode hok htab M hcP n1 n3 ?_
  intro a₁ C₁ I₁ h₁ tk₁ more₁ gs₁ hg₁ hx₁ hok₁ htab₁ l1 l2 l3 l4 W₁ G₁
  have keepOld : ∀ {b : Addr}, b ≠ P → ∀ o, s.heap.get? b = some o → h₁.get? b = some o := fun hb o e => hx₁ _ _ hb e
  refine spliced_one ?_
  refine gen_make hh r1 r2 r3 r4 r5 r6 r7 hroom r8 r9 r10 r11 (fun R hR => hit2 _ R (fun o e => keepOld n5 o e) hR) (let ⟨o, ho, r⟩ := hT2; ⟨o, keepOld n2 o ho, r⟩) hi2 hs2 r12 (let ⟨o, ho, r⟩ := hX2; ⟨o, keepOld n4 o ho, r⟩) (hlim.extBut hx₁ hcP) hcode hok₁ htab₁ (M.extBut htab hx₁) hcP n2 n4 ?_
  intro a₂ C₂ I₂ h₂ tk₂ more₂ gs₂ hg₂ hx₂ hok₂ htab₂ m1 m2 m3 m4 W₂ G₂
  have szle : s.heap.objs.size ≤ h₁.objs.size := Nat.le_of_lt (Nat.lt_of_le_of_lt l1 (Nat.lt_trans l2 (Nat.lt_trans l3 l4)))
  have gne : s.gens.size ≠ (s.gens.push gs₁).size := by rw [Array.size_push]; exact (Nat.succ_ne_self _).symm
  have big : ∀ {b : Addr}, b < h₁.objs.size → b ∉ [C₂, I₂] := fun {b} hb q => by
    rcases List.mem_cons.mp q with rfl | q
    · exact Nat.lt_irrefl _ (Nat.lt_of_lt_of_le hb (Nat.le_trans m1 (Nat.le_of_lt m2)))
    · rw [List.mem_singleton.mp q] at hb; exact Nat.lt_irrefl _ (Nat.lt_of_lt_of_le hb m1)
  have low : ∀ {b : Addr}, b < s.heap.objs.size → b ∉ [C₁, I₁] := fun {b} hb q => by
    rcases List.mem_cons.mp q with rfl | q
    · exact Nat.lt_irrefl _ (Nat.lt_of_lt_of_le hb (Nat.le_trans l1 (Nat.le_of_lt l2)))
    · rw [List.mem_singleton.mp q] at hb; exact Nat.lt_irrefl _ (Nat.lt_of_lt_of_le hb l1)
  have high : ∀ {b : Addr}, h₁.objs.size ≤ b → b ∉ [C₁, I₁] := fun {b} hb q => by
    have hC : C₁ < h₁.objs.size := Nat.lt_trans l3 l4
    rcases List.mem_cons.mp q with rfl | q
    · exact Nat.lt_irrefl _ (Nat.lt_of_lt_of_le hC hb)
    · rw [List.mem_singleton.mp q] at hb; exact Nat.lt_irrefl _ (Nat.lt_of_lt_of_le (Nat.lt_trans l2 hC) hb)
  have off₁ : ∀ b ∈ a₁ :: C₁ :: [I₁, T1, c1, cStatics], b < h₁.objs.size := fun b hb => by
    rcases List.mem_cons.mp hb with rfl | hb
    · exact l4
    rcases List.mem_cons.mp hb with rfl | hb
    · exact Nat.lt_trans l3 l4
    rcases List.mem_cons.mp hb with rfl | hb
    · exact Nat.lt_trans l2 (Nat.lt_trans l3 l4)
    rcases List.mem_cons.mp hb with rfl | hb
    · exact Nat.lt_of_lt_of_le t1lt szle
    rcases List.mem_cons.mp hb with rfl | hb
    · exact Nat.lt_of_lt_of_le c1lt szle
    · rw [List.mem_singleton.mp hb]; exact Nat.lt_of_lt_of_le slt szle
  have neP₁ : ∀ b ∈ a₁ :: C₁ :: [I₁, T1, c1, cStatics], b ≠ P := fun b hb => by
    have up : ∀ {b : Addr}, s.heap.objs.size ≤ b → b ≠ P := fun {b} h e => by rw [e] at h; exact Nat.lt_irrefl _ (Nat.lt_of_lt_of_le Plt h)
    rcases List.mem_cons.mp hb with rfl | hb
    · exact up (Nat.le_trans l1 (Nat.le_trans (Nat.le_of_lt l2) (Nat.le_of_lt l3)))
    rcases List.mem_cons.mp hb with rfl | hb
    · exact up (Nat.le_trans l1 (Nat.le_of_lt l2))
    rcases List.mem_cons.mp hb with rfl | hb
    · exact up l1
    rcases List.mem_cons.mp hb with rfl | hb
    · exact n1
    rcases List.mem_cons.mp hb with rfl | hb
    · exact n3
    · rw [List.mem_singleton.mp hb]; exact hcP
  have D : Two prog w A a₁ C₁ I₁ T1 c1 s.gens.size a₂ C₂ I₂ T2 c2 (s.gens.push gs₁).size 16 (IsDiff nx b1) (IsDiff ny b2) := by
    rw [hl1] at W₁
    rw [hl2] at W₂
    refine ⟨W₁, W₂, gne, fun b hb => big (off₁ b hb), fun b hb => ?_⟩
    rcases List.mem_cons.mp hb with rfl | hb
    · exact high (Nat.le_trans m1 (Nat.le_trans (Nat.le_of_lt m2) (Nat.le_of_lt m3)))
    rcases List.mem_cons.mp hb with rfl | hb
    · exact high (Nat.le_trans m1 (Nat.le_of_lt m2))
    rcases List.mem_cons.mp hb with rfl | hb
    · exact high m1
    rcases List.mem_cons.mp hb with rfl | hb
    · exact low t2lt
    rcases List.mem_cons.mp hb with rfl | hb
    · exact low c2lt
    · rw [List.mem_singleton.mp hb]; exact low slt
  rw [hl1] at G₁
  rw [hl2] at G₂
  refine sumprod_call D hF1 hF2 hb (by decide) (by decide) ⟨genAt_keeps G₁ (by simp) (fun b hb o e => hx₂ b o (neP₁ b hb) e) ?_, G₂⟩ ?_ fun s' r t hr hm => ?_
  · show ((s.gens.push gs₁).push gs₂)[s.gens.size]? = (s.gens.push gs₁)[s.gens.size]?
    rw [Array.getElem?_push, if_neg gne]
  · have s2 : h₁.objs.size ≤ h₂.objs.size := Nat.le_of_lt (Nat.lt_of_le_of_lt m1 (Nat.lt_trans m2 (Nat.lt_trans m3 m4)))
    exact ⟨⟨Nat.lt_of_lt_of_le (off₁ C₁ (by simp)) s2, Nat.lt_of_lt_of_le (off₁ I₁ (by simp)) s2⟩, Nat.lt_trans m3 m4, Nat.lt_trans m2 (Nat.lt_trans m3 m4)⟩
  · have noff : ∀ {b : Addr}, b < s.heap.objs.size → b ∉ [C₁, I₁, C₂, I₂] := fun {b} hb q => by
      have q1 := low hb
      have q2 := big (Nat.lt_of_lt_of_le hb szle)
      simp only [List.mem_cons, List.not_mem_nil, or_false, not_or] at q1 q2 q
      rcases q with q | q | q | q
      · exact q1.1 q
      · exact q1.2 q
      · exact q2.1 q
      · exact q2.2 q
    have e3 : ps ++ more₁ ++ more₂ = ps ++ (more₁ ++ more₂) := Array.append_assoc
    rw [e3] at hok₂ htab₂
    refine hQ s' r t (more₁ ++ more₂) hr (fun b o hb e => hm.heap b o (noff (Heap.lt_size e)) (hx₂ b o hb (hx₁ b o hb e))) (PySem.Heap.IsCode.at2 hok₂ (fun o e => hm.heap _ _ (noff clt) e) (fun o e => hm.heap _ _ (noff Plt) e)) (PySem.Heap.TableAt.at2 htab₂ (fun o e => hm.heap _ _ (noff clt) e) (fun o e => hm.heap _ _ (noff Plt) e)) (fun h => hm.bare fun y hy => ?_) hm.drawn hm.os
    rcases Array.mem_push.mp hy with hy | rfl
    · rcases Array.mem_push.mp hy with hy | rfl
      · exact h y hy
      · exact hg₁
    · exact hg₂

theorem news_nil_of {h₀ h : Heap} {L : Addr} {m : Str → Option Value} (_ : Fr h₀ L h m) : News h₀ L h [] := News.nil
theorem cov_call {tx ty bm : Addr} {ob : Obj} {vx vy : List Value} {nx ny : List Int} {ps : Array Value}
    (X : (hd.heap_39 w.params).In s.heap) (T : TopRead p loose mg mb s.heap) (hlim : s.heap.NoLimit) (M : BMod s.heap mainGlobals mg bm ob) (hok : s.heap.IsCode 82 78 ps) (htab : s.heap.TableAt 82 78 ps) (hroom : d + 20 < recursionLimit)
    (hx : IsTup s.heap tx vx.toArray) (hix : IntsAre vx nx) (hlx : nx.length = 16) (hbx : ∀ n ∈ nx, n.natAbs ≤ 3)
    (hy : IsTup s.heap ty vy.toArray) (hiy : IntsAre vy ny) (hly : ny.length = 16) (hby : ∀ n ∈ ny, n.natAbs ≤ 3)
    (hQ : ∀ s' sxy t more, EX 1066 sxy (covI nx ny) → Heap.ExtBut 78 s.heap s'.heap → s'.heap.IsCode 82 78 (ps ++ more) → s'.heap.TableAt 82 78 (ps ++ more) → ((∀ y ∈ s.gens, y.bare = true) → ∀ y ∈ s'.gens, y.bare = true) → s'.drawn = s.drawn → s'.os = s.os → Q (.float (Float64.div sxy (Float64.ofInt 15)) t) s') :
    wpAny (model PR w) (AR d fr gs u) (call (.ref 83) [.ref tx, .ref ty]) Q E s := by
  have hbx' : ∀ n ∈ nx, n.natAbs ≤ 2 ^ 20 := fun n h => Nat.le_trans (hbx n h) (by decide)
  have hby' : ∀ n ∈ ny, n.natAbs ≤ 2 ^ 20 := fun n h => Nat.le_trans (hby n h) (by decide)
  have hPs : cStatics ≠ 78 := by decide
  have htx : tx ≠ 78 := fun e => by obtain ⟨o, ho, _, _, hd⟩ := hx; rw [e, htab.2] at ho; cases ho; cases hd
  have hty : ty ≠ 78 := fun e => by obtain ⟨o, ho, _, _, hd⟩ := hy; rw [e, htab.2] at ho; cases ho; cases hd
  have B := Based.start hok htab (by decide)
  (have kz := kzz; revert kz; k_fill; intro kz; clear kz; refine' call_roN ?k1 ?k2 ?k6 ?k7 ?k8 ?k9 ?kB ?kD ?c2 ?c3 ?c4 ?_; (case k1 => k_asm); (case k2 => assumption); (case k6 => k_is); (case k7 => k_is); (case k8 => k_room); (case k9 => first | exact BindsTo.of_eq rfl | (refine' kp_binds ?kx ?ke; (case kx => k_in); (case ke => exact fun _ => rfl)) | fail "k_enter: no rule for these arguments"); (case kB => exact rfl); (case kD => decide +kernel); (case c2 => exact rfl); (case c3 => exact rfl); (case c4 => exact rfl); k_whole; intro L' h' tk' cells' F' N' Y'; k_cells Y'; (try simp only [List.cons_append, List.nil_append] at N'); (try dsimp only); (try k_fold))
  k_steps
  (with_reducible rename Fr _ _ _ _ => kF)
  (with_reducible rename News _ _ _ _ => kN)
  rename EX 1074 _ ny.sum => hr2
  rename EX 1074 _ nx.sum => hr1
  have hL := kF.above
  have hP1 := hok.lt.2
  have hcell1 := kN (_, _) (.tail _ (.head _))
  have hcell2 := kN (_, _) (.head _)
  have sx := sum_bound hbx
  have sy := sum_bound hby
  rw [hlx] at sx
  rw [hly] at sy
  have hk1 : ∀ i, (nx.getD i 0 * 16 - nx.sum).natAbs ≤ 96 := fun i => by have := getD_bound hbx i; omega
  have hk2 : ∀ i, (ny.getD i 0 * 16 - ny.sum).natAbs ≤ 96 := fun i => by have := getD_bound hby i; omega
  have ne81 : ∀ {b : Addr} {o : Obj}, s.heap.get? b = none → b ≠ 78 := fun {b o} hb e => by rw [e, htab.2] at hb; cases hb
  with_unfolding_all refine' two_gens (c := 82) (P := 78) (T1 := tx) (T2 := ty) (ps := ps) (k := fun i => nx.getD i 0 * 16 - nx.sum) (l := fun i => ny.getD i 0 * 16 - ny.sum) ?hh ?hroom ?hcode ?q1 ?q2 ?hit1 ?hit2 ?hT1 hix hlx ?hs1 ?hT2 hiy hly ?hs2 ?hX1 ?hX2 ?hlim ?hok ?htab ?hM hPs ?hn ?hF1 ?hF2 ?hb ?hQ
  case hh => rfl
  case hroom => (show d + 1 < recursionLimit); omega
  case hcode => rfl
  case hit1 => exact fun s₁ R hk hR => wpAny_Name (wpAny_loadName_local rfl rfl (kF.ns.at' hk) (by with_unfolding_all rfl) hR) (by decide)
  case hit2 => exact fun s₁ R hk hR => wpAny_Name (wpAny_loadName_local rfl rfl (kF.ns.at' hk) (by with_unfolding_all rfl) hR) (by decide)
  case q1 => with_unfolding_all exact ⟨rfl, rfl, by decide, rfl, rfl, rfl, rfl, by decide, by decide, by decide, fun _ => rfl, rfl⟩
  case q2 => with_unfolding_all exact ⟨rfl, rfl, by decide, rfl, rfl, rfl, rfl, by decide, by decide, by decide, fun _ => rfl, rfl⟩
  case hT1 => exact IsTup.keeps hx kF.keep
  case hT2 => exact IsTup.keeps hy kF.keep
  case hs1 => exact fun n h => Nat.lt_of_le_of_lt (hbx n h) (by decide)
  case hs2 => exact fun n h => Nat.lt_of_le_of_lt (hby n h) (by decide)
  case hX1 => exact ⟨_, hcell1.1, by assumption⟩
  case hX2 => exact ⟨_, hcell2.1, by assumption⟩
  case hlim => exact hlim.keeps kF.keep
  case hok => exact hok.keeps kF.keep
  case htab => exact htab.keeps kF.keep
  case hM => exact M.keeps kF.keep
  case hn =>
    refine ⟨htx, hty, (fun e => ?_), (fun e => ?_), (fun e => ?_)⟩
    · have := hcell1.2.2
      rw [show (78 : Addr) = _ from e.symm] at htab
      rw [htab.2] at this; cases this
    · have := hcell2.2.2
      rw [show (78 : Addr) = _ from e.symm] at htab
      rw [htab.2] at this; cases this
    · rw [e] at hL; exact Nat.lt_irrefl _ (Nat.lt_of_lt_of_le hP1 hL)
  case hF1 => exact fun i v hi h => isDiff_EX hr1 (by omega) (by have := getD_bound hbx i; omega) h
  case hF2 => exact fun i v hi h => isDiff_EX hr2 (by omega) (by have := getD_bound hby i; omega) h
  case hb =>
    intro i hi
    rw [Int.natAbs_mul]
    exact Nat.le_trans (Nat.mul_le_mul (hk1 i) (hk2 i)) (by decide)
  case hQ =>
    intro s' r t more hr hx' hok' htab' hb' hd' ho'
    have hG := B.grow kF (more := more) hx' hok' htab'
    have F' := hG.2
    have N' := news_nil_of F'
    clear kF kN
    k_steps
    all_goals ((with_reducible rename Fr _ _ _ _ => kF))
    all_goals exact hQ _ r _ more hr (fun b o hb e => kF.keep b o ((Heap.get?_update_other _ _ (Ne.symm hb)).trans e)) (hG.1.code.keeps kF.keep) (hG.1.tab.keeps kF.keep) hb' hd' ho'
end
end Mine
end
local macro_rules | `(tactic| walk_at "pad 21") => `(tactic| fail)
local macro_rules | `(tactic| walk_at "pad 22") => `(tactic| fail)
local macro_rules | `(tactic| walk_at "pad 23") => `(tactic| fail)
section
open PySem PySem.W PyProof.Rows PySem.Calls
set_option Elab.async false
set_option maxRecDepth 100000 
namespace Mine
section
variable {prog : Program} {w : World} {A : Around} {R : Result → Shared → Prop} {s : Shared}
/-- what an element's value tells of a heap, told again of each heap that keeps what is new since `h₃` or old -/
noncomputable def Robust (base : Heap) (wr : List Addr) (h₃ h₄ : Heap) (F : Heap → Prop) : Prop :=
  ∀ h', (∀ b o, (h₃.get? b = none ∨ (b ∉ wr ∧ (base.get? b).isSome = true)) → h₄.get? b = some o → h'.get? b = some o) → F h'

theorem gloop {elt iter : Expr} {x : Str} {px : Pos} {scope : Scope} {pos : Pos} {I D B C : Addr} {fp wr : List Addr} (wx : List Addr) {n : Nat} {P : Nat → Value → Prop} {St : Nat → Heap → Prop} {cenv : Env}
    (W : Walks prog w A I fp wr n P St) (VarAt : Value → Heap → Prop) (Live : Heap → Prop)
    (hLB : ∀ h, Live h → ∃ o, h.get? B = some o) (hLC : ∀ h, Live h → ∃ o, h.get? C = some o)
    (hLk : ∀ h h', Live h → (∀ b o, b = B ∨ b = C → h.get? b = some o → h'.get? b = some o) → Live h')
    (hassign : ∀ v (s : Shared) (Q : Unit → Shared → Prop) (E : Value → Shared → Prop), Live s.heap → (∀ h' tk, VarAt v h' → Live h' → Heap.SameBut B s.heap h' → Q () { s with heap := h', toks := tk }) → wpAny (model prog w) A (assign (.Name x px) cenv v) Q E s)
    (hlive : ∀ i h, St i h → ∀ b ∈ wr, ∃ o, h.get? b = some o)
    (hDB : D ≠ B) (hDC : D ≠ C) (hDf : D ∉ fp) (hBf : B ∉ fp) (hCf : C ∉ fp)
    (hst : St 0 s.heap) (hacc : s.heap.PlainList D #[]) (hL : Live s.heap)
    (base : Heap) (hwx : ∀ b ∈ wx, b ∈ wr ∨ (base.get? b).isSome = true) (hwr : ∀ b ∈ wr, b ∈ wx) (hbase : ∀ b o, base.get? b = some o → s.heap.get? b = some o ∧ b ≠ D ∧ b ≠ B ∧ b ≠ C)
    (F : Nat → Value → Heap → Prop)
    (helt : ∀ i v s₃ E', i < n → P i v → VarAt v s₃.heap → (∀ b o, b ∉ wr → base.get? b = some o → s₃.heap.get? b = some o) → (∃ h tk, s₃ = { s with heap := h, toks := tk }) →
      wpAny (model prog w) A (eval elt cenv) (fun y s₄ => Keeps s₃ s₄ ∧ Robust base wx s₃.heap s₄.heap (F i y)) E' s₃)
    (hR : ∀ h' tk ys, h'.PlainList D ys → ys.size = n → (∀ j, j < n → ∃ y, ys[j]? = some y ∧ ∀ h'', (∀ b o, b ≠ C → b ∉ wx → h'.get? b = some o → h''.get? b = some o) → F j y h'') → Live h' →
      (∀ b o, b ∉ wr → base.get? b = some o → h'.get? b = some o) → R (.ok .next) { s with heap := h', toks := tk })
    (hsz : n ≤ sizeLine) :
    codeAny (model prog w) A (.compLoop (.ListComp elt [⟨.Name x px, iter, [], 0⟩] scope pos) 0 (.ref I) (.ref D) cenv) R s := by
  have hDw : D ∉ wr := fun h => hDf (W.sub _ h)
  have hBw : B ∉ wr := fun h => hBf (W.sub _ h)
  have hCw : C ∉ wr := fun h => hCf (W.sub _ h)
  refine codeAny_compLoop_tests
    (fun k s' => ∃ h' tk ys j, s' = { s with heap := h', toks := tk } ∧ St j h' ∧ h'.PlainList D ys ∧ ys.size = j ∧ Live h' ∧ j ≤ n ∧ k = n + 1 - j ∧
      (∀ i, i < j → ∃ y, ys[i]? = some y ∧ ∀ h'', (∀ b o, b ∉ wx → b ≠ B → b ≠ D → b ≠ C → h'.get? b = some o → h''.get? b = some o) → F i y h'') ∧
      (∀ b o, b ∉ wr → base.get? b = some o → h'.get? b = some o)) ?_ (n + 1)
    ⟨s.heap, s.toks, #[], 0, rfl, hst, hacc, rfl, hL, Nat.zero_le _, rfl, (fun i h => absurd h (Nat.not_lt_zero _)), fun b o _ e => (hbase b o e).1⟩
  rintro k s' ⟨H, tk, ys, j, rfl, hst', hacc', hlen, hLv, hj, rfl, hel, hkb⟩
  by_cases hlt : j < n
  · refine W.item j _ _ _ hlt hst' fun v h₁ tk₁ hPv hst₁ hk₁ => ?_
    have hL₁ : Live h₁ := hLk _ _ hLv fun b o hb e => hk₁ b o (by rcases hb with rfl | rfl; exact hBw; exact hCw) e
    refine hassign v _ _ _ hL₁ fun h₂ tk₂ hv₂ hL₂ hs₂ => ?_
    have hst₂ : St (j + 1) h₂ := W.frame _ _ _ hst₁ fun b hb o e => hs₂.extBut b o (fun h => hBf (h ▸ hb)) e
    refine wpAny_pure ?_
    simp only [if_true]
    have base₂ : ∀ b o, b ∉ wr → base.get? b = some o → h₂.get? b = some o := fun b o hb e => hs₂.extBut b o (hbase b o e).2.2.1 (hk₁ b o hb (hkb b o hb e))
    refine wpAny_mono (helt j v _ _ hlt hPv hv₂ base₂ ⟨_, _, rfl⟩) (fun y s₄ h₄ => ?_) fun _ _ e => e
    obtain ⟨⟨h₄, tk₄, rfl, hk₄⟩, hrob⟩ := h₄
    have accK : h₄.PlainList D ys := hacc'.at fun o e => hk₄ _ o (hs₂.extBut _ o hDB (hk₁ _ o hDw e))
    refine wpAny_list_append_plain (hsz := by omega) accK fun h₅ hl₅ hs₅ => ?_
    have up : ∀ b o, b ∉ wr → b ≠ B → b ≠ D → H.get? b = some o → h₅.get? b = some o := fun b o h1 h2 h3 e => hs₅.extBut b o h3 (hk₄ b o (hs₂.extBut b o h2 (hk₁ b o h1 e)))
    refine ⟨n + 1 - (j + 1), by omega, h₅, tk₄, ys.push y, j + 1, rfl, ?_, hl₅, by rw [Array.size_push, hlen], ?_, hlt, rfl, ?_, ?_⟩
    · exact W.frame _ _ h₅ hst₂ fun b hb o e => hs₅.extBut b o (fun h => hDf (h ▸ hb)) (hk₄ b o e)
    · exact hLk _ _ hL₂ fun b o hb e => hs₅.extBut b o (by rcases hb with rfl | rfl; exact Ne.symm hDB; exact Ne.symm hDC) (hk₄ b o e)
    · intro i hi
      rcases Nat.lt_or_ge i j with h | h
      · obtain ⟨z, hz, hF⟩ := hel i h
        refine ⟨z, by rw [Array.getElem?_push, if_neg (by omega)]; exact hz, fun h'' hk'' => hF h'' fun b o h1 h2 h3 h4 e => hk'' b o h1 h2 h3 h4 (up b o (fun q => h1 (hwr b q)) h2 h3 e)⟩
      · obtain rfl : i = j := by omega
        refine ⟨y, by rw [Array.getElem?_push, if_pos hlen.symm], fun h'' hk'' => hrob h'' fun b o hb e => ?_⟩
        have live3 : ∀ b, (b ∈ wr ∨ b = B ∨ b = D ∨ b = C) → ∃ o, h₂.get? b = some o := fun b hb => by
          rcases hb with hb | rfl | rfl | rfl
          · exact hlive _ _ hst₂ b hb
          · exact hLB _ hL₂
          · obtain ⟨_, ho⟩ := hacc'; exact ⟨_, hs₂.extBut _ _ hDB (hk₁ _ _ hDw ho)⟩
          · exact hLC _ hL₂
        have off : b ∉ wx ∧ b ≠ B ∧ b ≠ D ∧ b ≠ C := by
          rcases hb with hb | ⟨hb, hsome⟩
          · have ne : ∀ c, (∃ o, h₂.get? c = some o) → b ≠ c := fun c hc e => by obtain ⟨o', ho'⟩ := hc; rw [← e] at ho'; rw [show h₂.get? b = none from hb] at ho'; cases ho'
            exact ⟨fun hm => by
              rcases hwx b hm with hm | hm
              · exact ne b (live3 b (.inl hm)) rfl
              · obtain ⟨o', ho'⟩ := Option.isSome_iff_exists.mp hm
                by_cases q : b ∈ wr
                · exact ne b (live3 b (.inl q)) rfl
                · exact ne b ⟨_, base₂ b o' q ho'⟩ rfl, ne B (live3 B (.inr (.inl rfl))), ne D (live3 D (.inr (.inr (.inl rfl)))), ne C (live3 C (.inr (.inr (.inr rfl))))⟩
          · obtain ⟨o', ho'⟩ := Option.isSome_iff_exists.mp hsome
            have := hbase b o' ho'
            exact ⟨hb, this.2.2.1, this.2.1, this.2.2.2⟩
        exact hk'' b o off.1 off.2.1 off.2.2.1 off.2.2.2 (hs₅.extBut b o off.2.2.1 e)
    · exact fun b o hb e => hs₅.extBut b o (hbase b o e).2.1 (hk₄ b o (base₂ b o hb e))
  · obtain rfl : j = n := by omega
    refine W.done _ _ _ hst' fun h₁ tk₁ hk₁ => ?_
    refine hR h₁ tk₁ ys (hacc'.at fun o e => hk₁ _ o hDw e) hlen (fun i hi => ?_) (hLk _ _ hLv fun b o hb e => hk₁ b o (by rcases hb with rfl | rfl; exact hBw; exact hCw) e) fun b o hb e => hk₁ b o hb (hkb b o hb e)
    obtain ⟨z, hz, hF⟩ := hel i hi
    exact ⟨z, hz, fun h'' hk'' => hF h'' fun b o h1 h2 h3 h4 e => hk'' b o h4 h1 (hk₁ b o (fun q => h1 (hwr b q)) e)⟩
end
end Mine
end
section
open PySem PySem.W PyProof.Rows PySem.Calls
set_option Elab.async false
set_option maxRecDepth 100000 
namespace Mine
section
variable {prog : Program} {w : World} {A : Around} {E : Value → Shared → Prop} {env : Env}

theorem gcompC {s : Shared} {elt iter : Expr} {x : Str} {px : Pos} {scope : Scope} {cl : List (Str × Addr)} {pos : Pos} {Q : Value → Shared → Prop}
    (hclos : closureFor scope env = pure cl) (hkind : scope.kind = .function) (hnames : ∀ y ∈ scope.names, y.2 = .local → scope.names.lookup y.1 = some .local)
    (hone : ∀ n, cellsFrom n scope.names cl = (x, n) :: cl) (hpush : ∀ h : Heap, pushCells h scope.names = h.push { cls := .type "cell", data := .cell none }) (hkx : (relabel scope env).names.lookup x = some .cell)
    (h : wpAny (model prog w) A (eval iter env) (fun xv s₁ => wpAny (model prog w) A (pyIter xv) (fun it s₂ => ∃ I fp wr n P St, ∃ F : Nat → Value → Heap → Prop, it = .ref I ∧ Walks prog w A I fp wr n P St ∧ n ≤ sizeLine ∧ (∀ i h, St i h → ∀ b ∈ wr, ∃ o, h.get? b = some o) ∧ St 0 s₂.heap ∧ (∀ b ∈ fp, b < s₂.heap.objs.size) ∧
      (∀ C X i v s₃ E', s₂.heap.objs.size ≤ C → i < n → P i v → s₃.heap.IsCell X (some v) → (∀ b o, b ∉ wr → s₂.heap.get? b = some o → s₃.heap.get? b = some o) → (∃ h tk, s₃ = { s₂ with heap := h, toks := tk }) →
        wpAny (model prog w) A (eval elt (compEnvC scope ((x, X) :: cl) C env)) (fun y s₄ => Keeps s₃ s₄ ∧ Robust s₂.heap wr s₃.heap s₄.heap (F i y)) E' s₃) ∧
      (∀ D h' tk ys, s₂.heap.get? D = none → h'.PlainList D ys → ys.size = n → (∀ j, j < n → ∃ y, ys[j]? = some y ∧ F j y h') →
        (∀ b o, b ∉ wr → s₂.heap.get? b = some o → h'.get? b = some o) → Q (.ref D) { s₂ with heap := h', toks := tk })) E s₁) E s)
    (hs : ∀ x, foldedSetIterable iter env x = pure x) :
    wpAny (model prog w) A (eval (.ListComp elt [⟨.Name x px, iter, [], 0⟩] scope pos) env) Q E s := by
  rw [eval_ListComp]
  refine wpAny_comprehension_free (use := none) rfl hs hclos hkind hnames (wpAny_mono h (fun xv s₁ h₁ => wpAny_mono h₁ (fun it s₂ h₂ => ?_) fun _ _ e => e) fun _ _ e => e)
  obtain ⟨I, fp, wr, n, P, St, F, rfl, W, hsz, hlive, hst, hfp, helt, hQ⟩ := h₂
  refine wpAny_newObj_type ?_
  generalize hH1 : s₂.heap.push { cls := .type "list", dict := none, data := .seq ([] : List Value).toArray } = H1
  have sz1 : H1.objs.size = s₂.heap.objs.size + 1 := by rw [← hH1, Heap.size_push]
  have k1 : ∀ b o, s₂.heap.get? b = some o → H1.get? b = some o := fun b o e => hH1 ▸ Heap.get?_push_of_some _ e
  have g1 : H1.get? s₂.heap.objs.size = some { cls := .type "list", dict := none, data := .seq ([] : List Value).toArray } := hH1 ▸ Heap.get?_push_size _ rfl
  simp only [newFunctionEnv, Option.isSome_some, if_true]
  refine wpAny_bind (wpAny_alloc ?_)
  generalize hH2 : H1.push { cls := .type "dict", data := .dict #[] } = H2
  have sz2 : H2.objs.size = H1.objs.size + 1 := by rw [← hH2, Heap.size_push]
  have k2 : ∀ b o, H1.get? b = some o → H2.get? b = some o := fun b o e => hH2 ▸ Heap.get?_push_of_some _ e
  have g2 : H2.Ns H1.objs.size (fun _ => none) := hH2 ▸ Heap.Ns.new H1 (.type "dict")
  refine wpAny_bind (wpAny_layCells _ (fun name kind cells => by cases hkc : kind == NameKind.cell <;> simp [hkc]) _ _ _ _ ?_)
  rw [hone, hpush]
  dsimp only
  generalize hH3 : H2.push { cls := .type "cell", data := .cell none } = H3
  have sz3 : H3.objs.size = H2.objs.size + 1 := by rw [← hH3, Heap.size_push]
  have k3 : ∀ b o, H2.get? b = some o → H3.get? b = some o := fun b o e => hH3 ▸ Heap.get?_push_of_some _ e
  have g3 : H3.IsCell H2.objs.size none := ⟨_, hH3 ▸ Heap.get?_push_size _ rfl, rfl⟩
  refine wpAny_bind ?_
  simp only [List.forIn_nil]
  refine wpAny_pure (wpAny_pure ?_)
  have lt1 : s₂.heap.objs.size < H1.objs.size := by rw [sz1]; exact Nat.lt_succ_self _
  have lt2 : H1.objs.size < H2.objs.size := by rw [sz2]; exact Nat.lt_succ_self _
  have g2' := g2.keeps k3
  have loop : ∀ s₃ : Shared, s₃ = { s₂ with heap := H3 } →
      codeAny (model prog w) A (.compLoop (.ListComp elt [⟨.Name x px, iter, [], 0⟩] scope pos) 0 (.ref I) (.ref s₂.heap.objs.size) (compEnvC scope ((x, H2.objs.size) :: cl) H1.objs.size env))
        (compPost (model prog w) A E none Q (.ref s₂.heap.objs.size) H1.objs.size) s₃ := by
    rintro s₃ rfl
    refine gloop wr (B := H2.objs.size) (C := H1.objs.size) W (fun v h => h.IsCell H2.objs.size (some v)) (fun h => (∃ v, h.IsCell H2.objs.size v) ∧ ∃ m, h.Ns H1.objs.size m)
      (fun h hL => let ⟨⟨v, o, ho, _⟩, _⟩ := hL; ⟨o, ho⟩) (fun h hL => let ⟨_, m, o, _, _, ho, _⟩ := hL; ⟨o, ho⟩)
      (fun h h' hL hk => ⟨let ⟨⟨v, o, ho, hd⟩, _⟩ := hL; ⟨v, o, hk _ o (.inl rfl) ho, hd⟩, let ⟨_, m, hn⟩ := hL; ⟨m, hn.at' fun o e => hk _ o (.inr rfl) e⟩⟩)
      (fun v s Q E hL hQ => ?_) hlive (Nat.ne_of_lt (Nat.lt_trans lt1 lt2)) (Nat.ne_of_lt lt1) (fun hm => Nat.lt_irrefl _ (hfp _ hm)) (fun hm => Nat.lt_asymm (Nat.lt_trans lt1 lt2) (hfp _ hm)) (fun hm => Nat.lt_asymm lt1 (hfp _ hm))
      (W.frame _ _ _ hst fun b _ o e => k3 _ _ (k2 _ _ (k1 _ _ e))) ⟨_, k3 _ _ (k2 _ _ g1)⟩ ⟨⟨none, g3⟩, _, g2'⟩ s₂.heap (fun b hb => .inl hb) (fun b hb => hb)
      (fun b o e => ⟨k3 _ _ (k2 _ _ (k1 _ _ e)), Nat.ne_of_lt (Heap.lt_size e), Nat.ne_of_lt (Nat.lt_trans (Heap.lt_size e) (Nat.lt_trans lt1 lt2)), Nat.ne_of_lt (Nat.lt_trans (Heap.lt_size e) lt1)⟩)
      F (fun i v s₃ E' hi hP hv hk hsame => helt _ _ i v s₃ E' (Nat.le_of_lt lt1) hi hP hv hk (let ⟨h, tk, e⟩ := hsame; ⟨h, tk, e⟩)) (fun h' tk ys hpl hlen hel hL hk => ?_) hsz
    · obtain ⟨⟨v₀, hc⟩, m, hn⟩ := hL
      refine wpAny_assign_Name (wpAny_storeName_cell (by simp [compEnvC, relabel, hkind]) hkx (by show List.lookup x ((x, H2.objs.size) :: cl) = _; simp) hc fun h' hc' hs' => ?_)
      exact hQ h' _ hc' ⟨⟨_, hc'⟩, m, hn.at' fun o e => hs'.extBut _ o (Nat.ne_of_lt lt2) e⟩ hs'
    · obtain ⟨_, m, hn⟩ := hL
      refine ⟨m, hn, fun h'' hs'' => ?_⟩
      refine hQ _ h'' tk ys (PySem.Heap.get?_none_of_le (Nat.le_refl _)) (hpl.at fun o e => hs''.extBut _ o (Nat.ne_of_lt lt1) e) hlen (fun j hj => ?_) fun b o hb e => hs''.extBut b o (Nat.ne_of_lt (Nat.lt_trans (Heap.lt_size e) lt1)) (hk b o hb e)
      obtain ⟨y, hy, hF⟩ := hel j hj
      exact ⟨y, hy, hF h'' fun b o hb _ e => hs''.extBut b o hb e⟩
  exact codeAny_compStart_list (loop _ rfl) (W.self 0 _ _ _ (W.frame _ _ _ hst fun b _ o e => k3 _ _ (k2 _ _ (k1 _ _ e))) (loop _ rfl))

theorem gassignC {s : Shared} {elt iter : Expr} {x y : Str} {px py : Pos} {scope : Scope} {cl : List (Str × Addr)} {pos spos : Pos} {Q : Flow → Shared → Prop}
    (hsw : swapsWith (.ListComp elt [⟨.Name x px, iter, [], 0⟩] scope pos) (some (.Name y py)) spos.line env = pure true) (hy : env.kindOf y = some .local) (hp : (env.scope.kind == .class || (env.scope.kind == .module && env.locals != env.globals)) = false)
    (hclos : closureFor scope env = pure cl) (hkind : scope.kind = .function) (hnames : ∀ y ∈ scope.names, y.2 = .local → scope.names.lookup y.1 = some .local)
    (hone : ∀ n, cellsFrom n scope.names cl = (x, n) :: cl) (hpush : ∀ h : Heap, pushCells h scope.names = h.push { cls := .type "cell", data := .cell none }) (hkx : (relabel scope env).names.lookup x = some .cell)
    (h : wpAny (model prog w) A (eval iter env) (fun xv s₁ => wpAny (model prog w) A (pyIter xv) (fun it s₂ => ∃ I fp wr n P St m, ∃ F : Nat → Value → Heap → Prop, it = .ref I ∧ env.locals ∉ wr ∧ s₂.heap.Ns env.locals m ∧ Walks prog w A I fp wr n P St ∧ n ≤ sizeLine ∧ (∀ i h, St i h → ∀ b ∈ wr, ∃ o, h.get? b = some o) ∧ St 0 s₂.heap ∧ (∀ b ∈ fp, b < s₂.heap.objs.size) ∧
      (∀ C X i v s₃ E', s₂.heap.objs.size ≤ C → i < n → P i v → s₃.heap.IsCell X (some v) → (∀ b o, b ∉ wr → s₂.heap.get? b = some o → s₃.heap.get? b = some o) → (∃ h tk, s₃ = { s₂ with heap := h, toks := tk }) →
        wpAny (model prog w) A (eval elt (compEnvC scope ((x, X) :: cl) C env)) (fun y s₄ => Keeps s₃ s₄ ∧ Robust s₂.heap (env.locals :: wr) s₃.heap s₄.heap (F i y)) E' s₃) ∧
      (∀ D h' tk ys, s₂.heap.get? D = none → h'.PlainList D ys → ys.size = n → (∀ j, j < n → ∃ y, ys[j]? = some y ∧ F j y h') → h'.Ns env.locals (fun z => if z = y then some (.ref D) else m z) →
        (∀ b o, b ≠ env.locals → b ∉ wr → s₂.heap.get? b = some o → h'.get? b = some o) → Q .next { s₂ with heap := h', toks := tk })) E s₁) E s)
    (hs : ∀ x, foldedSetIterable iter env x = pure x) :
    wpAny (model prog w) A (exec (.Assign [.Name y py] (.ListComp elt [⟨.Name x px, iter, [], 0⟩] scope pos) spos) env) Q E s := by
  rw [exec_Assign_Name_used _ _ _ _ hsw]
  refine wpAny_bind (wpAny_standAt (wpAny_bind ?_))
  show wpAny _ A (do let _ ← comprehension (.ListComp elt [⟨.Name x px, iter, [], 0⟩] scope pos) scope env _ (newList []) false (eval iter env) (some (assign (.Name y py) env))) _ _ s
  refine wpAny_bind (wpAny_mono (wpAny_comprehension_free (use := some (assign (.Name y py) env)) (Q := fun _ s' => Q .next s') rfl hs hclos hkind hnames
    (wpAny_mono h (fun xv s₁ h₁ => wpAny_mono h₁ (fun it s₂ h₂ => ?_) fun _ _ e => e) fun _ _ e => e)) (fun _ s' hq => wpAny_pure (wpAny_pure hq)) fun _ _ e => e)
  obtain ⟨I, fp, wr, n, P, St, m₀, F, rfl, hLw, hLn, W, hsz, hlive, hst, hfp, helt, hQ⟩ := h₂
  refine wpAny_newObj_type ?_
  generalize hH1 : s₂.heap.push { cls := .type "list", dict := none, data := .seq ([] : List Value).toArray } = H1
  have sz1 : H1.objs.size = s₂.heap.objs.size + 1 := by rw [← hH1, Heap.size_push]
  have k1 : ∀ b o, s₂.heap.get? b = some o → H1.get? b = some o := fun b o e => hH1 ▸ Heap.get?_push_of_some _ e
  have g1 : H1.get? s₂.heap.objs.size = some { cls := .type "list", dict := none, data := .seq ([] : List Value).toArray } := hH1 ▸ Heap.get?_push_size _ rfl
  simp only [newFunctionEnv, Option.isSome_some, if_true]
  refine wpAny_bind (wpAny_alloc ?_)
  generalize hH2 : H1.push { cls := .type "dict", data := .dict #[] } = H2
  have sz2 : H2.objs.size = H1.objs.size + 1 := by rw [← hH2, Heap.size_push]
  have k2 : ∀ b o, H1.get? b = some o → H2.get? b = some o := fun b o e => hH2 ▸ Heap.get?_push_of_some _ e
  have g2 : H2.Ns H1.objs.size (fun _ => none) := hH2 ▸ Heap.Ns.new H1 (.type "dict")
  refine wpAny_bind (wpAny_layCells _ (fun name kind cells => by cases hkc : kind == NameKind.cell <;> simp [hkc]) _ _ _ _ ?_)
  rw [hone, hpush]
  dsimp only
  generalize hH3 : H2.push { cls := .type "cell", data := .cell none } = H3
  have sz3 : H3.objs.size = H2.objs.size + 1 := by rw [← hH3, Heap.size_push]
  have k3 : ∀ b o, H2.get? b = some o → H3.get? b = some o := fun b o e => hH3 ▸ Heap.get?_push_of_some _ e
  have g3 : H3.IsCell H2.objs.size none := ⟨_, hH3 ▸ Heap.get?_push_size _ rfl, rfl⟩
  refine wpAny_bind ?_
  simp only [List.forIn_nil]
  refine wpAny_pure (wpAny_pure ?_)
  have lt1 : s₂.heap.objs.size < H1.objs.size := by rw [sz1]; exact Nat.lt_succ_self _
  have lt2 : H1.objs.size < H2.objs.size := by rw [sz2]; exact Nat.lt_succ_self _
  have g2' := g2.keeps k3
  have loop : ∀ s₃ : Shared, s₃ = { s₂ with heap := H3 } →
      codeAny (model prog w) A (.compLoop (.ListComp elt [⟨.Name x px, iter, [], 0⟩] scope pos) 0 (.ref I) (.ref s₂.heap.objs.size) (compEnvC scope ((x, H2.objs.size) :: cl) H1.objs.size env))
        (compPost (model prog w) A E (some (assign (.Name y py) env)) (fun _ s' => Q .next s') (.ref s₂.heap.objs.size) H1.objs.size) s₃ := by
    rintro s₃ rfl
    refine gloop (env.locals :: wr) (B := H2.objs.size) (C := H1.objs.size) W (fun v h => h.IsCell H2.objs.size (some v)) (fun h => (∃ v, h.IsCell H2.objs.size v) ∧ ∃ m, h.Ns H1.objs.size m)
      (fun h hL => let ⟨⟨v, o, ho, _⟩, _⟩ := hL; ⟨o, ho⟩) (fun h hL => let ⟨_, m, o, _, _, ho, _⟩ := hL; ⟨o, ho⟩)
      (fun h h' hL hk => ⟨let ⟨⟨v, o, ho, hd⟩, _⟩ := hL; ⟨v, o, hk _ o (.inl rfl) ho, hd⟩, let ⟨_, m, hn⟩ := hL; ⟨m, hn.at' fun o e => hk _ o (.inr rfl) e⟩⟩)
      (fun v s Q E hL hQ => ?_) hlive (Nat.ne_of_lt (Nat.lt_trans lt1 lt2)) (Nat.ne_of_lt lt1) (fun hm => Nat.lt_irrefl _ (hfp _ hm)) (fun hm => Nat.lt_asymm (Nat.lt_trans lt1 lt2) (hfp _ hm)) (fun hm => Nat.lt_asymm lt1 (hfp _ hm))
      (W.frame _ _ _ hst fun b _ o e => k3 _ _ (k2 _ _ (k1 _ _ e))) ⟨_, k3 _ _ (k2 _ _ g1)⟩ ⟨⟨none, g3⟩, _, g2'⟩ s₂.heap (fun b hb => by rcases List.mem_cons.mp hb with rfl | hb; exact .inr (let ⟨o, _, _, ho, _⟩ := hLn; by rw [ho]; rfl); exact .inl hb) (fun b hb => .tail _ hb)
      (fun b o e => ⟨k3 _ _ (k2 _ _ (k1 _ _ e)), Nat.ne_of_lt (Heap.lt_size e), Nat.ne_of_lt (Nat.lt_trans (Heap.lt_size e) (Nat.lt_trans lt1 lt2)), Nat.ne_of_lt (Nat.lt_trans (Heap.lt_size e) lt1)⟩)
      F (fun i v s₃ E' hi hP hv hk hsame => helt _ _ i v s₃ E' (Nat.le_of_lt lt1) hi hP hv hk (let ⟨h, tk, e⟩ := hsame; ⟨h, tk, e⟩)) (fun h' tk ys hpl hlen hel hL hk => ?_) hsz
    · obtain ⟨⟨v₀, hc⟩, m, hn⟩ := hL
      refine wpAny_assign_Name (wpAny_storeName_cell (by simp [compEnvC, relabel, hkind]) hkx (by show List.lookup x ((x, H2.objs.size) :: cl) = _; simp) hc fun h' hc' hs' => ?_)
      exact hQ h' _ hc' ⟨⟨_, hc'⟩, m, hn.at' fun o e => hs'.extBut _ o (Nat.ne_of_lt lt2) e⟩ hs'
    · obtain ⟨_, m, hn⟩ := hL
      have hLlt : env.locals < s₂.heap.objs.size := hLn.lt
      have hLC : env.locals ≠ H1.objs.size := Nat.ne_of_lt (Nat.lt_trans hLlt lt1)
      show wpAny _ A (assign (.Name y py) env (.ref s₂.heap.objs.size)) _ _ _
      refine wpAny_assign_Name (wpAny_storeName_local hy (hLn.at' fun o e => hk _ o hLw e) (fun h₂ hn₂ hs₂ => ?_) hp)
      refine ⟨m, hn.at' fun o e => hs₂.extBut _ o (Ne.symm hLC) e, fun h'' hs'' => ?_⟩
      refine hQ _ h'' _ ys (PySem.Heap.get?_none_of_le (Nat.le_refl _)) (hpl.at fun o e => hs''.extBut _ o (Nat.ne_of_lt lt1) (hs₂.extBut _ o (Nat.ne_of_gt hLlt) e)) hlen (fun j hj => ?_) (hn₂.at' fun o e => hs''.extBut _ o hLC e)
        fun b o hbL hb e => hs''.extBut b o (Nat.ne_of_lt (Nat.lt_trans (Heap.lt_size e) lt1)) (hs₂.extBut b o hbL (hk b o hb e))
      obtain ⟨y', hy', hF⟩ := hel j hj
      exact ⟨y', hy', hF h'' fun b o hb hb' e => hs''.extBut b o hb (hs₂.extBut b o (fun q => hb' (q ▸ .head _)) e)⟩
  exact codeAny_compStart_list (loop _ rfl) (W.self 0 _ _ _ (W.frame _ _ _ hst fun b _ o e => k3 _ _ (k2 _ _ (k1 _ _ e))) (loop _ rfl))

theorem gcompL {s : Shared} {elt iter : Expr} {x : Str} {px : Pos} {scope : Scope} {cl : List (Str × Addr)} {pos : Pos} {Q : Value → Shared → Prop}
    (hclos : closureFor scope env = pure cl) (hkind : scope.kind = .function) (hnames : ∀ y ∈ scope.names, y.2 = .local → scope.names.lookup y.1 = some .local)
    (hcell : ∀ y ∈ scope.names, y.2 ≠ .cell) (hx : scope.names.lookup x = some .local)
    (h : wpAny (model prog w) A (eval iter env) (fun xv s₁ => wpAny (model prog w) A (pyIter xv) (fun it s₂ => ∃ I fp wr n P St, ∃ F : Nat → Value → Heap → Prop, it = .ref I ∧ Walks prog w A I fp wr n P St ∧ n ≤ sizeLine ∧ (∀ i h, St i h → ∀ b ∈ wr, ∃ o, h.get? b = some o) ∧ St 0 s₂.heap ∧ (∀ b ∈ fp, b < s₂.heap.objs.size) ∧
      (∀ C i v s₃ E', s₂.heap.objs.size ≤ C → i < n → P i v → (∃ m, s₃.heap.Ns C m ∧ m x = some v) → (∀ b o, b ∉ wr → s₂.heap.get? b = some o → s₃.heap.get? b = some o) → (∃ h tk, s₃ = { s₂ with heap := h, toks := tk }) →
        wpAny (model prog w) A (eval elt (compEnvC scope cl C env)) (fun y s₄ => Keeps s₃ s₄ ∧ Robust s₂.heap wr s₃.heap s₄.heap (F i y)) E' s₃) ∧
      (∀ D h' tk ys, s₂.heap.get? D = none → h'.PlainList D ys → ys.size = n → (∀ j, j < n → ∃ y, ys[j]? = some y ∧ F j y h') →
        (∀ b o, b ∉ wr → s₂.heap.get? b = some o → h'.get? b = some o) → Q (.ref D) { s₂ with heap := h', toks := tk })) E s₁) E s)
    (hs : ∀ x, foldedSetIterable iter env x = pure x) :
    wpAny (model prog w) A (eval (.ListComp elt [⟨.Name x px, iter, [], 0⟩] scope pos) env) Q E s := by
  rw [eval_ListComp]
  refine wpAny_comprehension_free (use := none) rfl hs hclos hkind hnames (wpAny_mono h (fun xv s₁ h₁ => wpAny_mono h₁ (fun it s₂ h₂ => ?_) fun _ _ e => e) fun _ _ e => e)
  obtain ⟨I, fp, wr, n, P, St, F, rfl, W, hsz, hlive, hst, hfp, helt, hQ⟩ := h₂
  refine wpAny_newObj_type ?_
  generalize hH1 : s₂.heap.push { cls := .type "list", dict := none, data := .seq ([] : List Value).toArray } = H1
  have sz1 : H1.objs.size = s₂.heap.objs.size + 1 := by rw [← hH1, Heap.size_push]
  have k1 : ∀ b o, s₂.heap.get? b = some o → H1.get? b = some o := fun b o e => hH1 ▸ Heap.get?_push_of_some _ e
  have g1 : H1.get? s₂.heap.objs.size = some { cls := .type "list", dict := none, data := .seq ([] : List Value).toArray } := hH1 ▸ Heap.get?_push_size _ rfl
  refine wpAny_newFunctionEnv hcell (by intro y hy; simp at hy) (fun H3 hns₁ hsb₁ => ?_) hkind
  dsimp only at hns₁ hsb₁ ⊢
  have k3 : ∀ b o, H1.get? b = some o → H3.get? b = some o := fun b o e => hsb₁.extBut b o (Nat.ne_of_lt (Heap.lt_size e)) (Heap.get?_push_of_some _ e)
  have lt1 : s₂.heap.objs.size < H1.objs.size := by rw [sz1]; exact Nat.lt_succ_self _
  have loop : ∀ s₃ : Shared, s₃ = { s₂ with heap := H3, toks := s₂.toks + ([] : List (Str × Value)).length } →
      codeAny (model prog w) A (.compLoop (.ListComp elt [⟨.Name x px, iter, [], 0⟩] scope pos) 0 (.ref I) (.ref s₂.heap.objs.size) (compEnvC scope cl H1.objs.size env))
        (compPost (model prog w) A E none Q (.ref s₂.heap.objs.size) H1.objs.size) s₃ := by
    rintro s₃ rfl
    refine gloop wr (B := H1.objs.size) (C := H1.objs.size) W (fun v h => ∃ m, h.Ns H1.objs.size m ∧ m x = some v) (fun h => ∃ m, h.Ns H1.objs.size m)
      (fun h hL => let ⟨m, o, _, _, ho, _⟩ := hL; ⟨o, ho⟩) (fun h hL => let ⟨m, o, _, _, ho, _⟩ := hL; ⟨o, ho⟩)
      (fun h h' hL hk => let ⟨m, hn⟩ := hL; ⟨m, hn.at' fun o e => hk _ o (.inr rfl) e⟩)
      (fun v s Q E hL hQ => ?_) hlive (Nat.ne_of_lt lt1) (Nat.ne_of_lt lt1) (fun hm => Nat.lt_irrefl _ (hfp _ hm)) (fun hm => Nat.lt_asymm lt1 (hfp _ hm)) (fun hm => Nat.lt_asymm lt1 (hfp _ hm))
      (W.frame _ _ _ hst fun b _ o e => k3 _ _ (k1 _ _ e)) ⟨_, k3 _ _ g1⟩ ⟨_, hns₁⟩ s₂.heap (fun b hb => .inl hb) (fun b hb => hb)
      (fun b o e => ⟨k3 _ _ (k1 _ _ e), Nat.ne_of_lt (Heap.lt_size e), Nat.ne_of_lt (Nat.lt_trans (Heap.lt_size e) lt1), Nat.ne_of_lt (Nat.lt_trans (Heap.lt_size e) lt1)⟩)
      F (fun i v s₃ E' hi hP hv hk hsame => helt _ i v s₃ E' (Nat.le_of_lt lt1) hi hP hv hk (let ⟨h, tk, e⟩ := hsame; ⟨h, tk, e⟩)) (fun h' tk ys hpl hlen hel hL hk => ?_) hsz
    · obtain ⟨m, hn⟩ := hL
      refine wpAny_assign_Name (wpAny_storeName_local (lookup_relabel_local hx) hn (fun h' hn' hs' => ?_) (by simp [compEnvC, relabel, hkind]))
      exact hQ h' _ ⟨_, hn', by simp⟩ ⟨_, hn'⟩ hs'
    · obtain ⟨m, hn⟩ := hL
      refine ⟨m, hn, fun h'' hs'' => ?_⟩
      refine hQ _ h'' tk ys (PySem.Heap.get?_none_of_le (Nat.le_refl _)) (hpl.at fun o e => hs''.extBut _ o (Nat.ne_of_lt lt1) e) hlen (fun j hj => ?_) fun b o hb e => hs''.extBut b o (Nat.ne_of_lt (Nat.lt_trans (Heap.lt_size e) lt1)) (hk b o hb e)
      obtain ⟨y, hy, hF⟩ := hel j hj
      exact ⟨y, hy, hF h'' fun b o hb _ e => hs''.extBut b o hb e⟩
  exact codeAny_compStart_list (loop _ rfl) (W.self 0 _ _ _ (W.frame _ _ _ hst fun b _ o e => k3 _ _ (k1 _ _ e)) (loop _ rfl))
end
end Mine
end
section
open PySem PySem.W PyProof.Rows PySem.Calls
set_option Elab.async false
set_option maxRecDepth 100000 
set_option maxHeartbeats 8000000 
namespace Mine
section
variable {prog : Program} {w : World} {A : Around} {E : Value → Shared → Prop} {s : Shared} {env : Env} {K : Frag} {p : Program} {loose : List Str} {mg mb : Str → Option Value}
theorem name_g {x : Str} {pos : Pos} {v : Value} {Q : Value → Shared → Prop} (X : K.In s.heap) (T : TopRead p loose mg mb s.heap) (e : nsIn K mainGlobals x = some (some v)) (hg : env.globals = mainGlobals) (hk : env.scope.kind = .function) (hx : env.kindOf x = some .globalImplicit) (hd : (x == ("__debug__" : Str)) = false) (h : Q v s) :
    wpAny (model prog w) A (eval (.Name x pos) env) Q E s :=
  Name_function_global hk hx (loadGlobal_global (env := env) (by rw [hg]; exact T.g) (mg_of X T.g e) h) hd
theorem name_b {x : Str} {pos : Pos} {v : Value} {Q : Value → Shared → Prop} (X : K.In s.heap) (T : TopRead p loose mg mb s.heap) (e : nsIn K mainGlobals x = some none) (hb : env.builtins = builtinsNs) (hv : bootBuiltins x = some v) (hn : x ≠ "__name__") (hg : env.globals = mainGlobals) (hk : env.scope.kind = .function) (hx : env.kindOf x = some .globalImplicit) (hd : (x == ("__debug__" : Str)) = false) (h : Q v s) :
    wpAny (model prog w) A (eval (.Name x pos) env) Q E s :=
  Name_function_global hk hx (loadGlobal_builtin (env := env) (by rw [hg]; exact T.g) (mg_none_of X T.g e) (by rw [hb]; exact T.b) ((T.builtins x hn).trans hv) h) hd
/-- f(a), f(a, b) with f of the written part -/
theorem call_g2 {pos : Pos} {f : Value} {e1 e2 : Expr} {Q : Value → Shared → Prop} (hk : keepIn K f = true) (h1 : starEach [e1, e2] env = [(false, eval e1 env), (false, eval e2 env)])
    (h : wpAny (model prog w) A (eval e1 env) (fun a s₁ => wpAny (model prog w) A (eval e2 env) (fun b s₂ => K.In s₂.heap ∧ wpAny (model prog w) A (call f [a, b]) Q E s₂) E s₁) E s) :
    wpAny (model prog w) A (callWith pos f [] (backTo pos (starEach [e1, e2] env)) []) Q E s := by
  rw [h1]
  refine callWith_of rfl (keeps_K hk) (PySem.Calls.evalArgs_plain (PySem.Calls.spliced_cons (wpAny_mono h (fun a s₁ h₁ => PySem.Calls.spliced_cons (wpAny_mono h₁ (fun b s₂ h₂ => PySem.Calls.spliced_nil h₂) fun _ _ x => x)) fun _ _ x => x)))
theorem call_b1 {pos : Pos} {id : String} {e1 : Expr} {Q : Value → Shared → Prop} (h1 : starEach [e1] env = [(false, eval e1 env)])
    (h : wpAny (model prog w) A (eval e1 env) (fun a s₁ => wpAny (model prog w) A (call (.builtin id) [a]) Q E s₁) E s) :
    wpAny (model prog w) A (callWith pos (.builtin id) [] (backTo pos (starEach [e1] env)) []) Q E s := by
  rw [h1]
  exact PySem.Calls.callWith_builtin rfl (PySem.Calls.evalArgs_plain (PySem.Calls.spliced_cons (wpAny_mono h (fun a s₁ h₁ => PySem.Calls.spliced_nil h₁) fun _ _ x => x)))
theorem call_t1 {pos : Pos} {id : String} {e1 : Expr} {Q : Value → Shared → Prop} (h1 : starEach [e1] env = [(false, eval e1 env)])
    (h : wpAny (model prog w) A (eval e1 env) (fun a s₁ => wpAny (model prog w) A (call (.type id) [a]) Q E s₁) E s) :
    wpAny (model prog w) A (callWith pos (.type id) [] (backTo pos (starEach [e1] env)) []) Q E s := by
  rw [h1]
  exact PySem.callWith_type rfl (PySem.Calls.evalArgs_plain (PySem.Calls.spliced_cons (wpAny_mono h (fun a s₁ h₁ => PySem.Calls.spliced_nil h₁) fun _ _ x => x)))

/-- range(n) iterated -/
theorem range_iter {n : Nat} {np rp cp : Pos} {R : Value → Shared → Prop} (X : K.In s.heap) (T : TopRead p loose mg mb s.heap) (e : nsIn K mainGlobals "range" = some none) (hg : env.globals = mainGlobals) (hb : env.builtins = builtinsNs) (hk : env.scope.kind = .function) (hx : env.kindOf "range" = some .globalImplicit)
    (hsm : Builtin.Range.small 0 n 1 = true) (hsz : Builtin.Range.rangeSize 0 n 1 = n)
    (h : ∀ I h₂ tk, s.heap.objs.size ≤ I → I < h₂.objs.size → Keep s.heap h₂ → IsRangeIter h₂ I (0 + ((0 : Nat) : Int) * 1) ((n : Int) - ((0 : Nat) : Int)) 1 → R (.ref I) { s with heap := h₂, toks := tk }) :
    wpAny (model prog w) A (eval (.Call (.Name "range" np) [.Constant (.int n) 0 cp] [] rp) env) (fun xv s₁ => wpAny (model prog w) A (pyIter xv) R E s₁) E s := by
  refine Call_ (name_b X T e hb (by boot_fast) (by decide) hg hk hx (by decide) ?_)
  refine call_t1 rfl ?_
  refine wpAny_Constant_int ?_
  refine call_range_1 ?_
  refine wpAny_pyIter_range (a := 0) (b := n) (c := 1) (Heap.get?_push_size _ rfl) hsm ?_
  rw [hsz]
  generalize hH1 : s.heap.push { cls := .type "range", data := .fields #[.int 0 _, .int n _, .int 1 _] } = H1
  have sz1 : H1.objs.size = s.heap.objs.size + 1 := by rw [← hH1, Heap.size_push]
  have k1 : ∀ b o, s.heap.get? b = some o → H1.get? b = some o := fun b o e => hH1 ▸ Heap.get?_push_of_some _ e
  have := h H1.objs.size (H1.push { cls := .type "range_iterator", data := .fields #[rawInt 0, rawInt n, rawInt 1] }) (s.toks + 1 + 1 + 1) (by rw [sz1]; exact Nat.le_succ _) (by rw [Heap.size_push]; exact Nat.lt_succ_self _) (fun b o e => Heap.get?_push_of_some _ (k1 b o e)) (by
    have e := Heap.get?_push_size (h := H1) (o := { cls := .type "range_iterator", data := .fields #[rawInt 0, rawInt n, rawInt 1] }) rfl
    simpa [IsRangeIter] using e)
  exact this
end
end Mine
end
section
open PySem PySem.W PyProof.Rows PySem.Calls
set_option Elab.async false
set_option maxRecDepth 100000 
set_option maxHeartbeats 8000000 
namespace Mine
theorem intsAre_of : ∀ {vs : List Value} {n : Nat} {f : Nat → Int}, vs.length = n → (∀ j, j < n → ∃ y, vs[j]? = some y ∧ ∃ t, y = .int (f j) t) → IntsAre vs ((List.range n).map f)
  | [], n, f, hl, _ => by
    obtain rfl : n = 0 := by simpa using hl.symm
    exact .nil
  | v :: r, n, f, hl, h => by
    obtain ⟨k, rfl⟩ : ∃ k, n = k + 1 := ⟨r.length, by simpa using hl.symm⟩
    obtain ⟨y, hy, t, rfl⟩ := h 0 (by omega)
    have e : v = .int (f 0) t := by simpa using hy
    subst e
    rw [List.range_succ_eq_map, List.map_cons, List.map_map]
    refine .cons _ _ (intsAre_of (f := f ∘ Nat.succ) (by simpa using hl) fun j hj => ?_)
    obtain ⟨y, hy, t, rfl⟩ := h (j + 1) (by omega)
    exact ⟨_, by simpa using hy, t, rfl⟩
section
variable {prog : Program} {w : World} {A : Around} {E : Value → Shared → Prop} {s : Shared} {env : Env}
theorem list_iter {S : Addr} {items : Array Value} {R : Value → Shared → Prop} (hS : s.heap.IsList S items)
    (h : ∀ I h₂, s.heap.objs.size ≤ I → I < h₂.objs.size → S < s.heap.objs.size → Keep s.heap h₂ → (h₂.IsListIter I S 0 ∧ h₂.IsList S items) → R (.ref I) { s with heap := h₂ }) :
    wpAny (model prog w) A (pyIter (.ref S)) R E s := by
  refine wpAny_pyIter_list hS ?_
  refine h _ _ (Nat.le_refl _) (by rw [Heap.size_push]; exact Nat.lt_succ_self _) (let ⟨_, ho, _⟩ := hS; Heap.lt_size ho) (fun b o e => Heap.get?_push_of_some _ e) ⟨⟨_, Heap.get?_push_size _ rfl, rfl, rfl⟩, ?_⟩
  exact hS.at fun o e => Heap.get?_push_of_some _ e
theorem not_in_one {h : Heap} {I b : Addr} {o : Obj} (hI : h.objs.size ≤ I) (e : h.get? b = some o) : b ∉ [I] := fun q => by
  rw [List.mem_singleton.mp q] at e
  exact Nat.lt_irrefl _ (Nat.lt_of_lt_of_le (Heap.lt_size e) hI)

/-- an element that is a new list of ints -/
noncomputable def IsRow (h₁ : Heap) (ns : List Int) (y : Value) (h : Heap) : Prop := ∃ R vs k, y = .ref R ∧ h.get? R = some (listOf vs.toArray k) ∧ IntsAre vs ns ∧ h₁.get? R = none

theorem rows3E {elt : Expr} {x : Str} {px pv : Pos} {src : Str} {scope : Scope} {cl : List (Str × Addr)} {pos : Pos} {Q : Value → Shared → Prop} {S : Addr} {items : Array Value} (g : Nat → List Int)
    (hh : A.handled = none)
    (hclos : closureFor scope env = pure cl) (hkind : scope.kind = .function) (hnames : ∀ y ∈ scope.names, y.2 = .local → scope.names.lookup y.1 = some .local)
    (hone : ∀ n, cellsFrom n scope.names cl = (x, n) :: cl) (hpush : ∀ h : Heap, pushCells h scope.names = h.push { cls := .type "cell", data := .cell none }) (hkx : (relabel scope env).names.lookup x = some .cell)
    (hsrc : ∀ R : Value → Shared → Prop, R (.ref S) s → wpAny (model prog w) A (eval (.Name src pv) env) R E s)
    (hS : s.heap.IsList S items) (hn : items.size = 3)
    (hinner : ∀ C X j v s₃ E' (Q' : Value → Shared → Prop), j < 3 → items[j]? = some v → s₃.heap.IsCell X (some v) → Keep s.heap s₃.heap → (∃ h tk, s₃ = { s with heap := h, toks := tk }) →
      (∀ D h' tk vs k, s₃.heap.get? D = none → h'.get? D = some (listOf vs.toArray k) → IntsAre vs (g j) → Keep s₃.heap h' → Q' (.ref D) { s₃ with heap := h', toks := tk }) →
      wpAny (model prog w) A (eval elt (compEnvC scope ((x, X) :: cl) C env)) Q' E' s₃)
    (hQ : ∀ D h' tk ys k, s.heap.get? D = none → h'.get? D = some (listOf ys k) → ys.size = 3 → (∀ j, j < 3 → ∃ y, ys[j]? = some y ∧ IsRow s.heap (g j) y h') → Keep s.heap h' → Q (.ref D) { s with heap := h', toks := tk })
    (hs : ∀ x, foldedSetIterable (.Name src pv) env x = pure x) :
    wpAny (model prog w) A (eval (.ListComp elt [⟨.Name x px, .Name src pv, [], 0⟩] scope pos) env) Q E s := by
  refine gcompC hclos hkind hnames hone hpush hkx (hsrc _ (list_iter hS fun I h₂ hI hI' hSlt hk hst => ?_)) hs
  have W := Walks.list (prog := prog) (w := w) (A := A) hh I S (Nat.ne_of_lt (Nat.lt_of_lt_of_le hSlt hI)) items
  rw [hn] at W
  have off : ∀ b o, s.heap.get? b = some o → b ∉ [I] := fun b o e => not_in_one hI e
  refine ⟨I, _, _, 3, _, _, fun j y h => IsRow s.heap (g j) y h, rfl, W, by decide +kernel, fun i h st b hb => by rw [List.mem_singleton.mp hb]; obtain ⟨⟨o, ho, _⟩, _⟩ := st; exact ⟨o, ho⟩, hst, fun b hb => ?_, ?_, ?_⟩
  · rcases List.mem_cons.mp hb with rfl | hb
    · exact hI'
    · rw [List.mem_singleton.mp hb]; exact Nat.lt_of_lt_of_le hSlt (Nat.le_of_lt (Nat.lt_of_le_of_lt hI hI'))
  · rintro C X j v s₃ E' hC hj hP hX hk₃ ⟨h3, t3, rfl⟩
    have kk : Keep s.heap h3 := fun b o e => hk₃ b o (off b o e) (hk b o e)
    refine hinner C X j v _ E' _ hj hP hX kk ⟨h3, t3, rfl⟩ fun D h' tk vs k hD hD' hi hk' => ⟨⟨h', tk, rfl, hk'⟩, fun h'' hrob => ?_⟩
    refine ⟨D, vs, k, rfl, hrob D _ (.inl hD) hD', hi, ?_⟩
    cases q : s.heap.get? D with
    | none => rfl
    | some o => have := kk D o q; rw [show h3.get? D = none from hD] at this; cases this
  · rintro D h' tk ys hD ⟨k, hpl⟩ hlen hel hk'
    refine hQ D h' tk ys k ?_ hpl hlen hel fun b o e => hk' b o (off b o e) (hk b o e)
    cases q : s.heap.get? D with
    | none => rfl
    | some o => have := hk D o q; rw [show h₂.get? D = none from hD] at this; cases this

theorem rows3A {elt : Expr} {x y : Str} {px py pv : Pos} {src : Str} {scope : Scope} {cl : List (Str × Addr)} {pos spos : Pos} {Q : Flow → Shared → Prop} {S : Addr} {items : Array Value} {m : Str → Option Value} (g : Nat → List Int)
    (hh : A.handled = none) (hsw : swapsWith (.ListComp elt [⟨.Name x px, .Name src pv, [], 0⟩] scope pos) (some (.Name y py)) spos.line env = pure true) (hy : env.kindOf y = some .local) (hp : (env.scope.kind == .class || (env.scope.kind == .module && env.locals != env.globals)) = false)
    (hclos : closureFor scope env = pure cl) (hkind : scope.kind = .function) (hnames : ∀ y ∈ scope.names, y.2 = .local → scope.names.lookup y.1 = some .local)
    (hone : ∀ n, cellsFrom n scope.names cl = (x, n) :: cl) (hpush : ∀ h : Heap, pushCells h scope.names = h.push { cls := .type "cell", data := .cell none }) (hkx : (relabel scope env).names.lookup x = some .cell)
    (hsrc : ∀ R : Value → Shared → Prop, R (.ref S) s → wpAny (model prog w) A (eval (.Name src pv) env) R E s)
    (hS : s.heap.IsList S items) (hn : items.size = 3) (hL : s.heap.Ns env.locals m)
    (hinner : ∀ C X j v s₃ E' (Q' : Value → Shared → Prop), j < 3 → items[j]? = some v → s₃.heap.IsCell X (some v) → Keep s.heap s₃.heap → (∃ h tk, s₃ = { s with heap := h, toks := tk }) →
      (∀ D h' tk vs k, s₃.heap.get? D = none → h'.get? D = some (listOf vs.toArray k) → IntsAre vs (g j) → Keep s₃.heap h' → Q' (.ref D) { s₃ with heap := h', toks := tk }) →
      wpAny (model prog w) A (eval elt (compEnvC scope ((x, X) :: cl) C env)) Q' E' s₃)
    (hQ : ∀ D h' tk ys k, s.heap.get? D = none → h'.get? D = some (listOf ys k) → ys.size = 3 → (∀ j, j < 3 → ∃ y, ys[j]? = some y ∧ IsRow s.heap (g j) y h') → h'.Ns env.locals (fun z => if z = y then some (.ref D) else m z) →
      (∀ b o, b ≠ env.locals → s.heap.get? b = some o → h'.get? b = some o) → Q .next { s with heap := h', toks := tk })
    (hs : ∀ x, foldedSetIterable (.Name src pv) env x = pure x) :
    wpAny (model prog w) A (exec (.Assign [.Name y py] (.ListComp elt [⟨.Name x px, .Name src pv, [], 0⟩] scope pos) spos) env) Q E s := by
  refine gassignC hsw hy hp hclos hkind hnames hone hpush hkx (hsrc _ (list_iter hS fun I h₂ hI hI' hSlt hk hst => ?_)) hs
  have W := Walks.list (prog := prog) (w := w) (A := A) hh I S (Nat.ne_of_lt (Nat.lt_of_lt_of_le hSlt hI)) items
  rw [hn] at W
  have off : ∀ b o, s.heap.get? b = some o → b ∉ [I] := fun b o e => not_in_one hI e
  have hLn : h₂.Ns env.locals m := hL.keeps hk
  refine ⟨I, _, _, 3, _, _, m, fun j y h => IsRow s.heap (g j) y h, rfl, (let ⟨o, _, _, ho, _⟩ := hL; off _ o ho), hLn, W, by decide +kernel, fun i h st b hb => by rw [List.mem_singleton.mp hb]; obtain ⟨⟨o, ho, _⟩, _⟩ := st; exact ⟨o, ho⟩, hst, fun b hb => ?_, ?_, ?_⟩
  · rcases List.mem_cons.mp hb with rfl | hb
    · exact hI'
    · rw [List.mem_singleton.mp hb]; exact Nat.lt_of_lt_of_le hSlt (Nat.le_of_lt (Nat.lt_of_le_of_lt hI hI'))
  · rintro C X j v s₃ E' hC hj hP hX hk₃ ⟨h3, t3, rfl⟩
    have kk : Keep s.heap h3 := fun b o e => hk₃ b o (off b o e) (hk b o e)
    refine hinner C X j v _ E' _ hj hP hX kk ⟨h3, t3, rfl⟩ fun D h' tk vs k hD hD' hi hk' => ⟨⟨h', tk, rfl, hk'⟩, fun h'' hrob => ?_⟩
    refine ⟨D, vs, k, rfl, hrob D _ (.inl hD) hD', hi, ?_⟩
    cases q : s.heap.get? D with
    | none => rfl
    | some o => have := kk D o q; rw [show h3.get? D = none from hD] at this; cases this
  · rintro D h' tk ys hD ⟨k, hpl⟩ hlen hel hns hk'
    refine hQ D h' tk ys k ?_ hpl hlen hel hns fun b o hb e => hk' b o hb (off b o e) (hk b o e)
    cases q : s.heap.get? D with
    | none => rfl
    | some o => have := hk D o q; rw [show h₂.get? D = none from hD] at this; cases this
end
end Mine
end
section
open PySem PySem.W PyProof.Rows PySem.Calls
set_option Elab.async false
set_option maxRecDepth 100000 
set_option maxHeartbeats 1000000
namespace Mine
noncomputable def cR (p : List Int) (x : Nat) : Int := ((p.filter (fun a => decide (a ≤ (x : Int)))).length : Int)
noncomputable def cL (p : List Int) (x : Nat) : Int := ((p.filter (fun a => decide ((a + 8).fmod 16 < (x : Int)))).length : Int)
noncomputable def stepsOf (p q : List Int) : List Int := p.flatMap fun a => q.map fun b => (a - b - 9).fmod 16
noncomputable def ways (p q : List Int) : Int := ((stepsOf p q).map fun s => s * (16 - s)).sum
noncomputable def wI (a b : Int) : Int := (a - b - 9).fmod 16 * (16 - (a - b - 9).fmod 16)

theorem filter_all {q : Int → Bool} : ∀ {l : List Int}, (∀ i : Nat, i < l.length → q (l.getD i 0) = true) → l.filter q = l
  | [], _ => rfl
  | a :: l, h => by
    rw [List.filter_cons_of_pos (by simpa using h 0 (by simp))]
    congr 1
    exact filter_all fun i hi => by simpa using h (i + 1) (by simpa using hi)
theorem filter_none {q : Int → Bool} : ∀ {l : List Int}, (∀ i : Nat, i < l.length → q (l.getD i 0) = false) → l.filter q = []
  | [], _ => rfl
  | a :: l, h => by
    rw [List.filter_cons_of_neg (by have := h 0 (by simp); simpa using this)]
    exact filter_none fun i hi => by simpa using h (i + 1) (by simpa using hi)
theorem filter_cut {q : Int → Bool} {l : List Int} {k : Nat} (hk : k ≤ l.length) (h1 : ∀ i : Nat, i < k → q (l.getD i 0) = true) (h2 : ∀ i : Nat, k ≤ i → i < l.length → q (l.getD i 0) = false) : (l.filter q).length = k := by
  rw [← List.take_append_drop k l, List.filter_append, List.length_append]
  rw [filter_all, filter_none]
  · simp; omega
  · intro i hi
    have := h2 (k + i) (by omega) (by simp at hi; omega)
    rwa [List.getD_eq_getElem?_getD, List.getElem?_drop, ← List.getD_eq_getElem?_getD]
  · intro i hi
    have hi' : i < k := by simp at hi; omega
    have := h1 i hi'
    rwa [List.getD_eq_getElem?_getD, List.getElem?_take, if_pos hi', ← List.getD_eq_getElem?_getD]
theorem right_count {ns p : List Int} {x : Nat} {k : Int} (h : RightAt ns x k k) (hp : ns.Perm p) : k = cR p x := by
  obtain ⟨h0, h1, h2, h3⟩ := h
  unfold cR
  rw [← (hp.filter _).length_eq, filter_cut (k := k.toNat) (by omega) (fun i hi => ?_) fun i hi hl => ?_]
  · omega
  · exact decide_eq_true (h2 i (by omega))
  · have := h3 i (by omega) hl
    exact decide_eq_false (by omega)
theorem left_count {ns p : List Int} {x : Nat} {k : Int} (h : LeftAt ns x k k) (hp : ns.Perm (p.map fun a => (a + 8).fmod 16)) : k = cL p x := by
  obtain ⟨h0, h1, h2, h3⟩ := h
  have e : cL p x = (((p.map fun a => (a + 8).fmod 16).filter fun a => decide (a < (x : Int))).length : Int) := by
    unfold cL
    rw [List.filter_map, List.length_map]
    rfl
  rw [e, ← (hp.filter _).length_eq, filter_cut (k := k.toNat) (by omega) (fun i hi => ?_) fun i hi hl => ?_]
  · omega
  · exact decide_eq_true (h2 i (by omega))
  · have := h3 i (by omega) hl
    exact decide_eq_false (by omega)

theorem sum_ofFn (f : Nat → Int) : ∀ n, ((List.range n).map f).sum = accS f (fun _ => 1) n
  | 0 => rfl
  | n + 1 => by
    rw [List.range_succ, List.map_append, List.sum_append, sum_ofFn f n]
    simp [accS]
theorem accS_congr {k k' l l' : Nat → Int} : ∀ n, (∀ i, i < n → k i = k' i ∧ l i = l' i) → accS k l n = accS k' l' n
  | 0, _ => rfl
  | n + 1, h => by
    unfold accS
    rw [accS_congr n fun i hi => h i (by omega), (h n (by omega)).1, (h n (by omega)).2]
theorem accS_add_l {k k' l : Nat → Int} : ∀ n, accS (fun i => k i + k' i) l n = accS k l n + accS k' l n
  | 0 => rfl
  | n + 1 => by unfold accS; rw [accS_add_l n, Int.add_mul]; omega
theorem accS_sub_l {k k' l : Nat → Int} : ∀ n, accS (fun i => k i - k' i) l n = accS k l n - accS k' l n
  | 0 => rfl
  | n + 1 => by unfold accS; rw [accS_sub_l n, Int.sub_mul]; omega
theorem accS_comm {k l : Nat → Int} : ∀ n, accS k l n = accS l k n
  | 0 => rfl
  | n + 1 => by unfold accS; rw [accS_comm n, Int.mul_comm]
theorem accS_zero_l {l : Nat → Int} : ∀ n, accS (fun _ => 0) l n = 0
  | 0 => rfl
  | n + 1 => by unfold accS; rw [accS_zero_l n, Int.zero_mul]; rfl
noncomputable def listS (g : Int → Nat → Int) (p : List Int) (i : Nat) : Int := (p.map fun a => g a i).sum
theorem listS_cons (g : Int → Nat → Int) (a : Int) (p : List Int) : listS g (a :: p) = fun i => g a i + listS g p i := by
  funext i; unfold listS; rw [List.map_cons, List.sum_cons]
theorem acc_listS_l (g : Int → Nat → Int) (l : Nat → Int) (n : Nat) : ∀ p, accS (listS g p) l n = (p.map fun a => accS (g a) l n).sum
  | [] => accS_zero_l n
  | a :: p => by rw [listS_cons, accS_add_l, acc_listS_l g l n p, List.map_cons, List.sum_cons]
noncomputable def ku (a : Int) (i : Nat) : Int := (if a ≤ (i : Int) then 16 else 0) - (16 - a)
noncomputable def kh (b : Int) (i : Nat) : Int := (if (b + 8).fmod 16 < (i : Int) then 16 else 0) - (15 - (b + 8).fmod 16)
noncomputable def InR (p : List Int) : Prop := ∀ a ∈ p, 0 ≤ a ∧ a < 16
noncomputable def g1 (a : Int) : Int := 128 * a - 8 * (a * a)
noncomputable def g2 (b : Int) : Int := 128 * ((b + 8).fmod 16 + 1) - 8 * (((b + 8).fmod 16 + 1) * ((b + 8).fmod 16 + 1))
theorem pair_ok : ((List.range 16).all fun a => (List.range 16).all fun b => decide (accS (ku (a : Int)) (kh (b : Int)) 16 = g1 a + g2 b - 8 * wI a b)) = true := by decide +kernel
noncomputable def indR (a : Int) (i : Nat) : Int := if a ≤ (i : Int) then 1 else 0
noncomputable def indL (b : Int) (i : Nat) : Int := if (b + 8).fmod 16 < (i : Int) then 1 else 0
theorem cR_list (p : List Int) : cR p = listS indR p := by
  funext i
  induction p with
  | nil => rfl
  | cons a p ih =>
    rw [listS_cons]
    show _ = indR a i + listS indR p i
    rw [← ih]
    unfold cR indR
    rw [List.filter_cons]
    by_cases h : a ≤ (i : Int)
    · rw [if_pos (decide_eq_true h), if_pos h, List.length_cons]; omega
    · rw [if_neg (by rw [decide_eq_true_eq]; exact h), if_neg h]; omega
theorem cL_list (p : List Int) : cL p = listS indL p := by
  funext i
  induction p with
  | nil => rfl
  | cons a p ih =>
    rw [listS_cons]
    show _ = indL a i + listS indL p i
    rw [← ih]
    unfold cL indL
    rw [List.filter_cons]
    by_cases h : (a + 8).fmod 16 < (i : Int)
    · rw [if_pos (decide_eq_true h), if_pos h, List.length_cons]; omega
    · rw [if_neg (by rw [decide_eq_true_eq]; exact h), if_neg h]; omega
theorem ind_ok : ((List.range 16).all fun a => decide (accS (indR (a : Int)) (fun _ => 1) 16 = 16 - (a : Int)) && decide (accS (indL (a : Int)) (fun _ => 1) 16 = 15 - ((a : Int) + 8).fmod 16)) = true := by decide +kernel
theorem toNat16 {a : Int} (h : 0 ≤ a ∧ a < 16) : a = ((a.toNat : Nat) : Int) ∧ a.toNat ∈ List.range 16 := ⟨by omega, List.mem_range.mpr (by omega)⟩
theorem indR_sum {a : Int} (h : 0 ≤ a ∧ a < 16) : accS (indR a) (fun _ => 1) 16 = 16 - a := by
  have q := toNat16 h
  have := List.all_eq_true.mp ind_ok _ q.2
  rw [← q.1, Bool.and_eq_true, decide_eq_true_eq] at this
  exact this.1
theorem indL_sum {a : Int} (h : 0 ≤ a ∧ a < 16) : accS (indL a) (fun _ => 1) 16 = 15 - (a + 8).fmod 16 := by
  have q := toNat16 h
  have := List.all_eq_true.mp ind_ok _ q.2
  rw [← q.1, Bool.and_eq_true, decide_eq_true_eq, decide_eq_true_eq] at this
  exact this.2
theorem pair_sum {a b : Int} (h : 0 ≤ a ∧ a < 16) (h' : 0 ≤ b ∧ b < 16) : accS (ku a) (kh b) 16 = g1 a + g2 b - 8 * wI a b := by
  have q := toNat16 h
  have q' := toNat16 h'
  have := List.all_eq_true.mp (List.all_eq_true.mp pair_ok _ q.2) _ q'.2
  rw [← q.1, ← q'.1, decide_eq_true_eq] at this
  exact this
theorem kR {p : List Int} (h : InR p) (i : Nat) : 16 * cR p i - accS (cR p) (fun _ => 1) 16 = listS ku p i := by
  rw [cR_list]
  induction p with
  | nil => rw [show listS indR [] = fun _ => 0 from rfl, accS_zero_l]; rfl
  | cons a p ih =>
    have ih := ih fun b hb => h b (.tail _ hb)
    rw [listS_cons, listS_cons, accS_add_l, indR_sum (h a (.head _))]
    show 16 * (indR a i + _) - _ = ku a i + _
    rw [← ih]
    unfold indR ku
    split <;> omega
theorem kL {p : List Int} (h : InR p) (i : Nat) : 16 * cL p i - accS (cL p) (fun _ => 1) 16 = listS kh p i := by
  rw [cL_list]
  induction p with
  | nil => rw [show listS indL [] = fun _ => 0 from rfl, accS_zero_l]; rfl
  | cons a p ih =>
    have ih := ih fun b hb => h b (.tail _ hb)
    rw [listS_cons, listS_cons, accS_add_l, indL_sum (h a (.head _))]
    show 16 * (indL a i + _) - _ = kh a i + _
    rw [← ih]
    unfold indL kh
    split <;> omega
noncomputable def rowD (c : List Int → Nat → Int) (p p' : List Int) : List Int := (List.range 16).map fun i => c p i - c p' i
theorem rowD_get (c : List Int → Nat → Int) (p p' : List Int) {i : Nat} (h : i < 16) : (rowD c p p').getD i 0 = c p i - c p' i := by
  unfold rowD
  rw [List.getD_eq_getElem?_getD, List.getElem?_map, List.getElem?_range h]; rfl
theorem rowD_sum (c : List Int → Nat → Int) (p p' : List Int) : (rowD c p p').sum = accS (c p) (fun _ => 1) 16 - accS (c p') (fun _ => 1) 16 := by
  unfold rowD
  rw [sum_ofFn, accS_sub_l]
theorem cov_rows {p p' q q' : List Int} (hp : InR p) (hp' : InR p') (hq : InR q) (hq' : InR q') :
    covI (rowD cR p p') (rowD cL q q') = accS (fun i => listS ku p i - listS ku p' i) (fun i => listS kh q i - listS kh q' i) 16 := by
  unfold covI
  refine accS_congr _ fun i hi => ?_
  rw [rowD_get _ _ _ hi, rowD_get _ _ _ hi, rowD_sum, rowD_sum, ← kR hp, ← kR hp', ← kL hq, ← kL hq']
  constructor <;> omega
theorem accS_sub_r {k l l' : Nat → Int} (n : Nat) : accS k (fun i => l i - l' i) n = accS k l n - accS k l' n := by
  rw [accS_comm, accS_sub_l, accS_comm, accS_comm (k := l')]
noncomputable def DS (p q : List Int) : Int := accS (listS ku p) (listS kh q) 16
theorem DS_eq (p q : List Int) : DS p q = (p.map fun a => (q.map fun b => accS (ku a) (kh b) 16).sum).sum := by
  unfold DS
  rw [acc_listS_l]
  congr 1
  refine List.map_congr_left fun a _ => ?_
  rw [accS_comm, acc_listS_l]
  congr 1
  exact List.map_congr_left fun b _ => accS_comm _
theorem ways_cons (a : Int) (p q : List Int) : ways (a :: p) q = (q.map fun b => wI a b).sum + ways p q := by
  unfold ways stepsOf
  rw [List.flatMap_cons, List.map_append, List.sum_append, List.map_map]
  rfl
theorem ways_nil (q : List Int) : ways [] q = 0 := rfl
theorem three {p : List Int} (h : p.length = 3) : ∃ a b c, p = [a, b, c] := by
  match p, h with
  | [a, b, c], _ => exact ⟨a, b, c, rfl⟩
theorem DS_three {p q : List Int} (hp : InR p) (hq : InR q) (h1 : p.length = 3) (h2 : q.length = 3) : DS p q = 3 * (p.map g1).sum + 3 * (q.map g2).sum - 8 * ways p q := by
  obtain ⟨a, b, c, rfl⟩ := three h1
  obtain ⟨x, y, z, rfl⟩ := three h2
  rw [DS_eq, ways_cons, ways_cons, ways_cons, ways_nil]
  have ha := hp a (by simp)
  have hb := hp b (by simp)
  have hc := hp c (by simp)
  have hx := hq x (by simp)
  have hy := hq y (by simp)
  have hz := hq z (by simp)
  simp only [List.map_cons, List.map_nil, List.sum_cons, List.sum_nil]
  rw [pair_sum ha hx, pair_sum ha hy, pair_sum ha hz, pair_sum hb hx, pair_sum hb hy, pair_sum hb hz, pair_sum hc hx, pair_sum hc hy, pair_sum hc hz]
  generalize wI a x = w1; generalize wI a y = w2; generalize wI a z = w3; generalize wI b x = w4; generalize wI b y = w5; generalize wI b z = w6; generalize wI c x = w7; generalize wI c y = w8; generalize wI c z = w9
  generalize g1 a = u1; generalize g1 b = u2; generalize g1 c = u3; generalize g2 x = u4; generalize g2 y = u5; generalize g2 z = u6
  omega
theorem cov_ways {p p' q q' : List Int} (hp : InR p) (hp' : InR p') (hq : InR q) (hq' : InR q') (h1 : p.length = 3) (h1' : p'.length = 3) (h2 : q.length = 3) (h2' : q'.length = 3) :
    covI (rowD cR p p') (rowD cL q q') = 8 * (ways p q' + ways p' q - (ways p q + ways p' q')) := by
  rw [cov_rows hp hp' hq hq', accS_sub_l, accS_sub_r, accS_sub_r]
  have e1 := DS_three hp hq h1 h2
  have e2 := DS_three hp hq' h1 h2'
  have e3 := DS_three hp' hq h1' h2
  have e4 := DS_three hp' hq' h1' h2'
  unfold DS at e1 e2 e3 e4
  show _ - accS (listS ku p) (listS kh q') 16 - (_ - accS (listS ku p') (listS kh q') 16) = _
  rw [show accS (listS ku p) (fun i => listS kh q i) 16 = accS (listS ku p) (listS kh q) 16 from rfl] 
  rw [e1, e2, e4]
  rw [show accS (fun i => listS ku p' i) (fun i => listS kh q i) 16 = accS (listS ku p') (listS kh q) 16 from rfl, e3]
  omega
theorem wI_bound (a b : Int) : 0 ≤ wI a b ∧ wI a b ≤ 64 := by
  unfold wI
  rw [Int.fmod_eq_emod_of_nonneg _ (by decide)]
  have h1 := Int.emod_nonneg (a - b - 9) (show (16 : Int) ≠ 0 by decide)
  have h2 := Int.emod_lt_of_pos (a - b - 9) (show (0 : Int) < 16 by decide)
  generalize (a - b - 9) % 16 = s at h1 h2
  obtain ⟨n, rfl⟩ := Int.eq_ofNat_of_zero_le h1
  exact (by decide : ∀ n : Fin 16, 0 ≤ ((n.val : Nat) : Int) * (16 - ((n.val : Nat) : Int)) ∧ ((n.val : Nat) : Int) * (16 - ((n.val : Nat) : Int)) ≤ 64) ⟨n, Int.ofNat_lt.mp h2⟩
theorem ways_bound {p q : List Int} (h1 : p.length = 3) (h2 : q.length = 3) : 0 ≤ ways p q ∧ ways p q ≤ 576 := by
  obtain ⟨a, b, c, rfl⟩ := three h1
  obtain ⟨x, y, z, rfl⟩ := three h2
  rw [ways_cons, ways_cons, ways_cons, ways_nil]
  simp only [List.map_cons, List.map_nil, List.sum_cons, List.sum_nil]
  have := wI_bound a x; have := wI_bound a y; have := wI_bound a z; have := wI_bound b x; have := wI_bound b y; have := wI_bound b z; have := wI_bound c x; have := wI_bound c y; have := wI_bound c z
  omega
end Mine
end
section
open PySem PySem.W PyProof.Rows PySem.Calls
set_option Elab.async false
set_option maxRecDepth 100000 
set_option maxHeartbeats 8000000 
namespace Mine
section
variable {prog : Program} {w : World} {A : Around} {E : Value → Shared → Prop} {s : Shared} {env : Env} {h₀ : Heap} {x : Str} {body : List Stmt} {Q : Flow → Shared → Prop}
theorem iter_rangeN {r : Addr} {b₀ : Int} {t₀ u₀ v₀ : Tok} {n : Nat} {m₀ : Str → Option Value} {news : List (Addr × Obj)} (J : Nat → (Str → Option Value) → List (Addr × Obj) → Prop)
    (hh : A.handled = none) (hr : IsRange s.heap r 0 b₀ 1 t₀ u₀ v₀) (hsmall : Builtin.Range.small 0 b₀ 1 = true) (hn : Builtin.Range.rangeSize 0 b₀ 1 = (n : Int)) (F : Fr h₀ env.locals s.heap m₀) (N : News h₀ env.locals s.heap news) (hj : J 0 m₀ news)
    (turn : ∀ i t m₁ news₁ h tk own, i < n → news₁.map (·.1) = news.map (·.1) → OwnOff own (news.map (·.1)) → J i m₁ news₁ → Fr h₀ env.locals h (fun y => if y = x then some (.int (i : Int) t) else m₁ y) → News h₀ env.locals h (news₁ ++ own) →
      wpAny (model prog w) A (execs body env) (InvPostN h₀ env.locals (J (i + 1)) own (news.map (·.1)) { s with heap := h, toks := tk } Q) E { s with heap := h, toks := tk })
    (done : ∀ m₁ news₁ h tk, news₁.map (·.1) = news.map (·.1) → J n m₁ news₁ → Fr h₀ env.locals h m₁ → News h₀ env.locals h news₁ → Q .next { s with heap := h, toks := tk }) :
    wpAny (model prog w) A (pyIter (.ref r)) (fun it s₂ => LoopAtV prog w A h₀ env x body Q E it s₂) E s := by
  refine wpAny_pyIter_range hr hsmall ?_
  have W : Walks prog w A s.heap.objs.size [s.heap.objs.size] [s.heap.objs.size] n (fun i v => i < n ∧ ∃ t, v = .int (0 + i * 1) t)
      (fun i h => IsRangeIter h s.heap.objs.size (0 + (i : Nat) * 1) ((n : Int) - (i : Nat)) 1) := (Walks.range hh _ 0 1 n).bound
  let J' : Nat → (Str → Option Value) → List (Addr × Obj) → Prop := fun i m₁ news₁ => news₁.map (·.1) = news.map (·.1) ∧ J i m₁ news₁
  refine ⟨_, _, _, n, _, _, m₀, news, J', rfl, W, ?_, ?_, ?_, (by show IsRangeIter _ _ _ _ _; rw [hn]; simpa using Heap.get?_push_size _ rfl), F.push _, (fun p hp => ⟨Heap.get?_push_of_some _ (N p hp).1, (N p hp).2⟩), ⟨rfl, hj⟩, ?_, ?_⟩
  · intro hm
    exact absurd F.ns.lt ((List.mem_singleton.mp hm) ▸ Nat.lt_irrefl _)
  · intro b hb
    rw [List.mem_singleton.mp hb]
    exact next_is_new F
  · intro p hp hI
    exact absurd (Heap.lt_size (N p hp).1) ((List.mem_singleton.mp hI) ▸ Nat.lt_irrefl _)
  · rintro i v m₁ news₁ s₁ own ⟨hh', tk', rfl⟩ hin ⟨_, t, rfl⟩ ⟨hadr, hJ⟩ hoff hown _ _ _ F₁ N₁
    have hsep : OwnOff own (news.map (·.1)) := by
      intro p hp b hb e
      obtain ⟨q, hq, rfl⟩ := List.mem_map.mp hb
      have h1 := List.mem_singleton.mp (hown p hp)
      exact absurd (Heap.lt_size (N q hq).1) (by rw [← e, h1]; exact Nat.lt_irrefl _)
    have N₂ : News h₀ env.locals hh' (news₁ ++ own) := fun p hp => N₁ p ((List.mem_append.mp hp).elim (fun h => List.mem_append.mpr (.inr h)) fun h => List.mem_append.mpr (.inl h))
    have ei : (0 : Int) + (i : Int) * 1 = (i : Int) := by omega
    rw [ei] at F₁
    refine wpAny_mono (turn i t m₁ news₁ hh' tk' own hin hadr hsep hJ F₁ N₂) (fun f s₂ p => ?_) fun _ _ e => e
    have fin : InvEndN h₀ env.locals (J (i + 1)) own (news.map (·.1)) { s with heap := hh', toks := tk' } s₂ → LoopStepU h₀ env.locals [s.heap.objs.size] own (J' (i + 1)) { s with heap := hh', toks := tk' } .next s₂ := by
      rintro ⟨h', tk, m', news', nx, e, F', N', hn, ho, ha, hm⟩
      refine ⟨rfl, h', tk, m', nx, e, F', fun p hp => N' p ((List.mem_append.mp hp).elim (ho p) (hn p)), fun p hp hq => ?_, ha, hm⟩
      have h1 : p.1 ∈ nx.map (·.1) := List.mem_map.mpr ⟨p, hp, rfl⟩
      rw [ha, ← hadr] at h1
      obtain ⟨q, hq1, hq2⟩ := List.mem_map.mp h1
      exact hoff q hq1 (by rw [hq2]; exact hq)
    cases f with
    | ret v => exact .ret p
    | brk => exact .brk p
    | next => exact .next (fin p)
    | cont => exact .cont (fin p)
  · rintro h' tk m' news' F' N' _ ⟨ha, hJ⟩
    exact done m' news' h' tk ha hJ F' N'
end
end Mine
end
section
open PySem PySem.W PyProof.Rows PySem.Calls
set_option Elab.async false
set_option maxRecDepth 100000 
set_option maxHeartbeats 8000000 
namespace Mine
structure PalSt (vp vs vf : List Value) (P S Fc : List Int) (n : Nat) : Prop where
  ip : IntsAre vp P
  iS : IntsAre vs S
  iF : IntsAre vf Fc
  ss : Sorted S
  sf : Sorted Fc
  ps : S.Perm P
  pf : Fc.Perm (P.map fun a => (a + 8).fmod 16)
  rg : InR P
  len : P.length = n
theorem PalSt.step {vp vs vf vp' vs' vf' : List Value} {P S Fc S' F' : List Int} {n : Nat} {a : Int} (H : PalSt vp vs vf P S Fc n) (h1 : IntsAre vp' (P ++ [a])) (h2 : IntsAre vs' S') (h3 : IntsAre vf' F') (h4 : Sorted S') (h5 : Sorted F')
    (h6 : S'.Perm (a :: S)) (h7 : F'.Perm ((a + 8).fmod 16 :: Fc)) (ha : 0 ≤ a ∧ a < 16) : PalSt vp' vs' vf' (P ++ [a]) S' F' (n + 1) := by
  refine ⟨h1, h2, h3, h4, h5, ?_, ?_, ?_, by rw [List.length_append, H.len]; rfl⟩
  · refine h6.trans (.trans ?_ List.perm_append_comm)
    exact H.ps.cons a
  · rw [List.map_append]
    refine h7.trans (.trans ?_ List.perm_append_comm)
    exact H.pf.cons _
  · intro b hb
    rcases List.mem_append.mp hb with hb | hb
    · exact H.rg b hb
    · rw [List.mem_singleton.mp hb]; exact ha
theorem PalSt.empty : PalSt [] [] [] [] [] [] 0 := ⟨.nil, .nil, .nil, fun _ _ _ h => absurd h (by simp), fun _ _ _ h => absurd h (by simp), .refl _, .refl _, (fun _ h => nomatch h), rfl⟩
theorem PalSt.short {vp vs vf : List Value} {P S Fc : List Int} {n : Nat} (H : PalSt vp vs vf P S Fc n) : vp.length = n ∧ S.length = n ∧ Fc.length = n := by
  refine ⟨by rw [H.ip.length, H.len], by rw [H.ps.length_eq, H.len], by rw [H.pf.length_eq, List.length_map, H.len]⟩
noncomputable def cnt (i j : Nat) : Nat := (i + 2 - j) / 3
noncomputable abbrev lobj (vs : List Value) (n : Nat) : Obj := listOf vs.toArray n
noncomputable def dyn (pp sp fp : Nat → Addr) (vp vs vf : Nat → List Value) (np ns nf : Nat → Nat) : List (Addr × Obj) :=
  [(pp 0, lobj (vp 0) (np 0)), (sp 0, lobj (vs 0) (ns 0)), (fp 0, lobj (vf 0) (nf 0)), (pp 1, lobj (vp 1) (np 1)), (sp 1, lobj (vs 1) (ns 1)), (fp 1, lobj (vf 1) (nf 1)), (pp 2, lobj (vp 2) (np 2)), (sp 2, lobj (vs 2) (ns 2)), (fp 2, lobj (vf 2) (nf 2))]
noncomputable def othr (j : Nat) (pp sp fp : Nat → Addr) (vp vs vf : Nat → List Value) (np ns nf : Nat → Nat) : List (Addr × Obj) :=
  [(pp ((j + 1) % 3), lobj (vp ((j + 1) % 3)) (np ((j + 1) % 3))), (sp ((j + 1) % 3), lobj (vs ((j + 1) % 3)) (ns ((j + 1) % 3))), (fp ((j + 1) % 3), lobj (vf ((j + 1) % 3)) (nf ((j + 1) % 3))),
   (pp ((j + 2) % 3), lobj (vp ((j + 2) % 3)) (np ((j + 2) % 3))), (sp ((j + 2) % 3), lobj (vs ((j + 2) % 3)) (ns ((j + 2) % 3))), (fp ((j + 2) % 3), lobj (vf ((j + 2) % 3)) (nf ((j + 2) % 3)))]
theorem lt3 {j : Nat} (h : j < 3) : j = 0 ∨ j = 1 ∨ j = 2 := by omega
section
variable {pp sp fp : Nat → Addr} {vp vs vf : Nat → List Value} {np ns nf : Nat → Nat}
theorem all_one {α : Type} {P : α → Prop} {a : α} {l : List α} (h : P a) (t : ∀ p ∈ l, P p) : ∀ p ∈ a :: l, P p := List.forall_mem_cons.mpr ⟨h, t⟩
theorem all_none {α : Type} {P : α → Prop} : ∀ p ∈ ([] : List α), P p := fun _ h => nomatch h
theorem mem_dyn {j : Nat} (hj : j < 3) : (pp j, lobj (vp j) (np j)) ∈ dyn pp sp fp vp vs vf np ns nf ∧ (sp j, lobj (vs j) (ns j)) ∈ dyn pp sp fp vp vs vf np ns nf ∧ (fp j, lobj (vf j) (nf j)) ∈ dyn pp sp fp vp vs vf np ns nf := by
  unfold dyn
  rcases lt3 hj with rfl | rfl | rfl <;> refine ⟨?_, ?_, ?_⟩ <;> repeat (first | exact List.Mem.head _ | refine List.Mem.tail _ ?_)
theorem othr_sub {j : Nat} (hj : j < 3) : ∀ p ∈ othr j pp sp fp vp vs vf np ns nf, p ∈ dyn pp sp fp vp vs vf np ns nf := by
  unfold othr dyn
  rcases lt3 hj with rfl | rfl | rfl
  all_goals refine all_one ?_ (all_one ?_ (all_one ?_ (all_one ?_ (all_one ?_ (all_one ?_ all_none))))) <;> repeat (first | exact List.Mem.head _ | refine List.Mem.tail _ ?_)
noncomputable def upd1 {α : Type} (f : Nat → α) (j : Nat) (a : α) : Nat → α := fun i => if i = j then a else f i
theorem upd1_at {α : Type} (f : Nat → α) (j : Nat) (a : α) : upd1 f j a j = a := if_pos rfl
theorem upd1_ne {α : Type} (f : Nat → α) {i j : Nat} (a : α) (h : i ≠ j) : upd1 f j a i = f i := if_neg h
theorem dyn_map (vp' vs' vf' : Nat → List Value) (np' ns' nf' : Nat → Nat) : (dyn pp sp fp vp vs vf np ns nf).map (·.1) = (dyn pp sp fp vp' vs' vf' np' ns' nf').map (·.1) := rfl
theorem dyn_upd {j : Nat} (hj : j < 3) {x y z : List Value} {a b c : Nat} : ∀ p ∈ dyn pp sp fp (upd1 vp j x) (upd1 vs j y) (upd1 vf j z) (upd1 np j a) (upd1 ns j b) (upd1 nf j c),
    p = (pp j, lobj x a) ∨ p = (sp j, lobj y b) ∨ p = (fp j, lobj z c) ∨ p ∈ othr j pp sp fp vp vs vf np ns nf := by
  unfold dyn othr
  rcases lt3 hj with rfl | rfl | rfl
  all_goals refine all_one ?_ (all_one ?_ (all_one ?_ (all_one ?_ (all_one ?_ (all_one ?_ (all_one ?_ (all_one ?_ (all_one ?_ all_none)))))))) <;> first | exact .inl rfl | exact .inr (.inl rfl) | exact .inr (.inr (.inl rfl)) | (refine .inr (.inr (.inr ?_)); repeat (first | exact List.Mem.head _ | refine List.Mem.tail _ ?_))
end
section
variable {prog : Program} {w : World} {A : Around} {E : Value → Shared → Prop} {s : Shared} {env : Env} {h₀ : Heap} {x : Str} {body : List Stmt} {Q : Flow → Shared → Prop}
noncomputable def Turn9 (h₀ : Heap) (env : Env) (x : Str) (stored : List Str) (m₀ : Str → Option Value) (keep : List (Addr × Obj)) (pa sa fa : Addr) (P : List Int) (n : Nat) (s : Shared) (f : Flow) (s' : Shared) : Prop :=
  f = .next ∧ ∃ h' tk m' news' vp' vs' vf' n1 n2 n3 a S' F', s' = { s with heap := h', toks := tk } ∧ Fr h₀ env.locals h' m' ∧ News h₀ env.locals h' news' ∧ (pa, lobj vp' n1) ∈ news' ∧ (sa, lobj vs' n2) ∈ news' ∧ (fa, lobj vf' n3) ∈ news' ∧
    (∀ p ∈ keep, p ∈ news') ∧ (∀ y, y ≠ x → stored.contains y = false → m' y = m₀ y) ∧ PalSt vp' vs' vf' (P ++ [a]) S' F' (n + 1)
theorem law_loop {r : Addr} {b₀ : Int} {t₀ u₀ v₀ : Tok} {m₀ : Str → Option Value} {newsW stat : List (Addr × Obj)} (stored : List Str) (pp sp fp : Nat → Addr)
    (hh : A.handled = none) (hr : IsRange s.heap r 0 b₀ 1 t₀ u₀ v₀) (hsmall : Builtin.Range.small 0 b₀ 1 = true) (hn : Builtin.Range.rangeSize 0 b₀ 1 = ((9 : Nat) : Int)) (F : Fr h₀ env.locals s.heap m₀) (N : News h₀ env.locals s.heap newsW)
    (hst : ∀ p ∈ stat, p ∈ newsW) (hdy : ∀ p ∈ dyn pp sp fp (fun _ => []) (fun _ => []) (fun _ => []) (fun _ => 0) (fun _ => 0) (fun _ => 0), p ∈ newsW)
    (hnd : ∀ i j, i < 3 → j < 3 → pp i ≠ sp j ∧ pp i ≠ fp j ∧ sp i ≠ fp j ∧ (i ≠ j → pp i ≠ pp j ∧ sp i ≠ sp j ∧ fp i ≠ fp j))
    (turn : ∀ i t (u : Str → Option Value) h tk own pa sa fa vp vs vf n1 n2 n3 P S Fc, i < 9 → pa = pp (i % 3) → sa = sp (i % 3) → fa = fp (i % 3) → PalSt vp vs vf P S Fc (cnt i (i % 3)) → (∀ p ∈ own, p.1 ≠ pa) → (∀ p ∈ own, p.1 ≠ sa) → (∀ p ∈ own, p.1 ≠ fa) →
      Fr h₀ env.locals h (fun y => if y = x then some (.int (i : Int) t) else if stored.contains y then u y else m₀ y) → News h₀ env.locals h ((pa, lobj vp n1) :: (sa, lobj vs n2) :: (fa, lobj vf n3) :: (stat ++ own)) →
      wpAny (model prog w) A (execs body env) (Turn9 h₀ env x stored m₀ (stat ++ own) pa sa fa P (cnt i (i % 3)) { s with heap := h, toks := tk }) E { s with heap := h, toks := tk })
    (done : ∀ (u : Str → Option Value) h tk vp vs vf np ns nf (P S Fc : Nat → List Int), (∀ j, j < 3 → PalSt (vp j) (vs j) (vf j) (P j) (S j) (Fc j) 3) → Fr h₀ env.locals h (fun y => if y = x then u y else if stored.contains y then u y else m₀ y) → News h₀ env.locals h (stat ++ dyn pp sp fp vp vs vf np ns nf) →
      Q .next { s with heap := h, toks := tk }) :
    wpAny (model prog w) A (pyIter (.ref r)) (fun it s₂ => LoopAtV prog w A h₀ env x body Q E it s₂) E s := by
  have N₀ : News h₀ env.locals s.heap (stat ++ dyn pp sp fp (fun _ => []) (fun _ => []) (fun _ => []) (fun _ => 0) (fun _ => 0) (fun _ => 0)) := fun p hp => N p ((List.mem_append.mp hp).elim (hst p) (hdy p))
  refine iter_rangeN (n := 9) (fun i m₁ news₁ => (∀ y, y ≠ x → stored.contains y = false → m₁ y = m₀ y) ∧ ∃ vp vs vf np ns nf, ∃ P S Fc : Nat → List Int, news₁ = stat ++ dyn pp sp fp vp vs vf np ns nf ∧ ∀ j, j < 3 → PalSt (vp j) (vs j) (vf j) (P j) (S j) (Fc j) (cnt i j))
    hh hr hsmall hn F N₀ ⟨fun _ _ _ => rfl, _, _, _, _, _, _, fun _ => [], fun _ => [], fun _ => [], rfl, fun j hj => by
      have : cnt 0 j = 0 := by unfold cnt; omega
      rw [this]; exact .empty⟩ ?_ ?_
  · rintro i t m₁ news₁ h tk own hi hadr hoff ⟨hm, vp, vs, vf, np, ns, nf, P, S, Fc, rfl, hP⟩ F₁ N₁
    have hj : i % 3 < 3 := Nat.mod_lt _ (by decide)
    generalize hjj : i % 3 = j at hj
    have md := mem_dyn (pp := pp) (sp := sp) (fp := fp) (vp := vp) (vs := vs) (vf := vf) (np := np) (ns := ns) (nf := nf) hj
    have e : (fun y => if y = x then some (Value.int (i : Int) t) else m₁ y) = fun y => if y = x then some (.int (i : Int) t) else if stored.contains y then m₁ y else m₀ y := by
      funext y
      by_cases h1 : y = x
      · simp [h1]
      · simp only [if_neg h1]
        cases h2 : stored.contains y with
        | true => simp
        | false => simp only [Bool.false_eq_true, if_false]; exact hm y h1 h2
    rw [e] at F₁
    have N₂ : News h₀ env.locals h ((pp j, lobj (vp j) (np j)) :: (sp j, lobj (vs j) (ns j)) :: (fp j, lobj (vf j) (nf j)) :: (stat ++ (othr j pp sp fp vp vs vf np ns nf ++ own))) := by
      intro p hp
      have hin : p ∈ stat ++ dyn pp sp fp vp vs vf np ns nf ++ own := by
        rcases List.mem_cons.mp hp with rfl | hp
        · exact List.mem_append_left _ (List.mem_append_right _ md.1)
        rcases List.mem_cons.mp hp with rfl | hp
        · exact List.mem_append_left _ (List.mem_append_right _ md.2.1)
        rcases List.mem_cons.mp hp with rfl | hp
        · exact List.mem_append_left _ (List.mem_append_right _ md.2.2)
        rcases List.mem_append.mp hp with hp | hp
        · exact List.mem_append_left _ (List.mem_append_left _ hp)
        rcases List.mem_append.mp hp with hp | hp
        · exact List.mem_append_left _ (List.mem_append_right _ (othr_sub hj p hp))
        · exact List.mem_append_right _ hp
      exact N₁ p hin
    have hadr' : ∀ b, b = pp j ∨ b = sp j ∨ b = fp j → b ∈ (stat ++ dyn pp sp fp (fun _ => []) (fun _ => []) (fun _ => []) (fun _ => 0) (fun _ => 0) (fun _ => 0)).map (·.1) := by
      intro b hb
      have md := mem_dyn (pp := pp) (sp := sp) (fp := fp) (vp := fun _ => []) (vs := fun _ => []) (vf := fun _ => []) (np := fun _ => 0) (ns := fun _ => 0) (nf := fun _ => 0) hj
      rcases hb with rfl | rfl | rfl
      · exact List.mem_map.mpr ⟨_, List.mem_append_right _ md.1, rfl⟩
      · exact List.mem_map.mpr ⟨_, List.mem_append_right _ md.2.1, rfl⟩
      · exact List.mem_map.mpr ⟨_, List.mem_append_right _ md.2.2, rfl⟩
    have j1 : (j + 1) % 3 < 3 := Nat.mod_lt _ (by decide)
    have j2 : (j + 2) % 3 < 3 := Nat.mod_lt _ (by decide)
    have n1 : (j + 1) % 3 ≠ j := by omega
    have n2 : (j + 2) % 3 ≠ j := by omega
    have offO : ∀ b, b = pp j ∨ b = sp j ∨ b = fp j → ∀ p ∈ othr j pp sp fp vp vs vf np ns nf ++ own, p.1 ≠ b := by
      intro b hb p hp
      rcases List.mem_append.mp hp with hp | hp
      · have a1 := hnd _ _ j1 hj
        have a2 := hnd _ _ j2 hj
        have b1 := hnd _ _ hj j1
        have b2 := hnd _ _ hj j2
        have a1' := a1.2.2.2 n1
        have a2' := a2.2.2.2 n2
        unfold othr at hp
        simp only [List.mem_cons, List.not_mem_nil, or_false] at hp
        rcases hb with rfl | rfl | rfl <;> rcases hp with rfl | rfl | rfl | rfl | rfl | rfl
        · exact a1'.1
        · exact b1.1.symm
        · exact b1.2.1.symm
        · exact a2'.1
        · exact b2.1.symm
        · exact b2.2.1.symm
        · exact a1.1
        · exact a1'.2.1
        · exact b1.2.2.1.symm
        · exact a2.1
        · exact a2'.2.1
        · exact b2.2.2.1.symm
        · exact a1.2.1
        · exact a1.2.2.1
        · exact a1'.2.2
        · exact a2.2.1
        · exact a2.2.2.1
        · exact a2'.2.2
      · exact hoff p hp b (hadr' b hb)
    have T := turn i t m₁ h tk (othr j pp sp fp vp vs vf np ns nf ++ own) (pp j) (sp j) (fp j) (vp j) (vs j) (vf j) (np j) (ns j) (nf j) (P j) (S j) (Fc j) hi (by rw [hjj]) (by rw [hjj]) (by rw [hjj]) (by rw [hjj]; exact hP j hj)
      (offO _ (.inl rfl)) (offO _ (.inr (.inl rfl))) (offO _ (.inr (.inr rfl))) F₁ N₂
    refine wpAny_mono T (fun f s₂ hT => ?_) fun _ _ e => e
    obtain ⟨rfl, h', tk', m', news', vp', vs', vf', k1, k2, k3, a, S', F', rfl, F₂, N₃, i1, i2, i3, hk, hm', H⟩ := hT
    refine ⟨h', tk', m', news', stat ++ dyn pp sp fp (upd1 vp j vp') (upd1 vs j vs') (upd1 vf j vf') (upd1 np j k1) (upd1 ns j k2) (upd1 nf j k3), rfl, F₂, N₃, ?_, ?_, ?_, hm', _, _, _, _, _, _, upd1 P j (P j ++ [a]), upd1 S j S', upd1 Fc j F', rfl, ?_⟩
    · intro p hp
      rcases List.mem_append.mp hp with hp | hp
      · exact hk p (List.mem_append_left _ hp)
      · rcases dyn_upd (vp := vp) (vs := vs) (vf := vf) (np := np) (ns := ns) (nf := nf) hj p hp with rfl | rfl | rfl | hp
        · exact i1
        · exact i2
        · exact i3
        · exact hk p (List.mem_append_right _ (List.mem_append_left _ hp))
    · intro p hp
      exact hk p (List.mem_append_right _ (List.mem_append_right _ hp))
    · rw [List.map_append, List.map_append, dyn_map]
    · intro l hl
      by_cases q : l = j
      · subst q
        simp only [upd1_at]
        have : cnt (i + 1) l = cnt i l + 1 := by unfold cnt; omega
        rw [this]
        rw [hjj] at H
        exact H
      · simp only [upd1_ne _ _ q]
        have : cnt (i + 1) l = cnt i l := by unfold cnt; omega
        rw [this]
        exact hP l hl
  · rintro m₁ news₁ h tk _ ⟨hm, vp, vs, vf, np, ns, nf, P, S, Fc, rfl, hP⟩ F₁ N₁
    refine done m₁ h tk vp vs vf np ns nf P S Fc (fun j hj => ?_) ?_ N₁
    · have := hP j hj
      have e : cnt 9 j = 3 := by unfold cnt; omega
      rwa [e] at this
    · have e : (fun y => if y = x then m₁ y else if stored.contains y then m₁ y else m₀ y) = m₁ := by
        funext y
        by_cases h1 : y = x
        · simp [h1]
        · simp only [if_neg h1]
          cases h2 : stored.contains y with
          | true => simp
          | false => simp only [Bool.false_eq_true, if_false]; exact (hm y h1 h2).symm
      rw [e]; exact F₁
end
end Mine
end
section
open PySem PySem.W PyProof.Rows PySem.Calls
set_option Elab.async false
set_option maxRecDepth 100000 
set_option maxHeartbeats 8000000 
namespace Mine
noncomputable def Stop (p : Prop) : Prop := p
theorem stop_mk {p : Prop} (h : Stop p) : p := h
noncomputable def sel (a b c : Addr) (j : Nat) : Addr := match j with | 0 => a | 1 => b | _ => c
noncomputable abbrev eobj : Obj := listOf #[] 0
noncomputable abbrev nlt (a b : Nat) : Prop := a < b
section
variable {prog : Program} {w : World} {A : Around} {E : Value → Shared → Prop} {s : Shared} {env : Env} {h₀ : Heap} {x : Str} {body : List Stmt} {Q : Flow → Shared → Prop}
/-- what a turn knows of its palette -/
structure TurnCtx (i : Nat) (PA SA FA : Array Value) (pa sa fa : Addr) (vp vs vf : List Value) (P S Fc : List Int) (n : Nat) (c st po so fo : Addr) : Prop where
  i9 : i < 9
  pal : PalSt vp vs vf P S Fc n
  sz : PA.size = 3 ∧ SA.size = 3 ∧ FA.size = 3
  ip : PA[i % 3]? = some (.ref pa)
  iS : SA[i % 3]? = some (.ref sa)
  iF : FA[i % 3]? = some (.ref fa)
  n3 : n ≤ 3
/-- a list of nine ints -/
noncomputable def NineInts (o : Obj) : Prop := ∃ vs ns, o = listOf vs.toArray 0 ∧ IntsAre vs ns ∧ ns.length = 9
theorem law_loop2 {r : Addr} {b₀ : Int} {t₀ u₀ v₀ : Tok} {m₀ : Str → Option Value} {c st p0 p1 p2 po s0 s1 s2 so f0 f1 f2 fo : Addr} {oc oS : Obj} (stored : List Str)
    (hh : A.handled = none) (hr : IsRange s.heap r 0 b₀ 1 t₀ u₀ v₀) (hsmall : Builtin.Range.small 0 b₀ 1 = true) (hn : Builtin.Range.rangeSize 0 b₀ 1 = ((9 : Nat) : Int)) (F : Fr h₀ env.locals s.heap m₀)
    (N : News h₀ env.locals s.heap [(fo, listOf #[.ref f0, .ref f1, .ref f2] 0), (f2, eobj), (f1, eobj), (f0, eobj), (so, listOf #[.ref s0, .ref s1, .ref s2] 0), (s2, eobj), (s1, eobj), (s0, eobj), (po, listOf #[.ref p0, .ref p1, .ref p2] 0), (p2, eobj), (p1, eobj), (p0, eobj), (st, oS), (c, oc)])
    (hlt : nlt c st ∧ nlt st p0 ∧ nlt p0 p1 ∧ nlt p1 p2 ∧ nlt p2 po ∧ nlt po s0 ∧ nlt s0 s1 ∧ nlt s1 s2 ∧ nlt s2 so ∧ nlt so f0 ∧ nlt f0 f1 ∧ nlt f1 f2 ∧ nlt f2 fo)
    (hS : NineInts oS)
    (turn : ∀ oS, NineInts oS → ∀ i t (u : Str → Option Value) h tk own pa sa fa vp vs vf n1 n2 n3 P S Fc n PA SA FA, TurnCtx i PA SA FA pa sa fa vp vs vf P S Fc n c st po so fo →
      (nlt c st ∧ nlt st pa ∧ nlt pa po ∧ nlt po sa ∧ nlt sa so ∧ nlt so fa ∧ nlt fa fo) →
      (∀ p ∈ own, p.1 ≠ pa) → (∀ p ∈ own, p.1 ≠ sa) → (∀ p ∈ own, p.1 ≠ fa) →
      Fr h₀ env.locals h (fun y => if y = x then some (.int (i : Int) t) else if stored.contains y then u y else m₀ y) → News h₀ env.locals h ((pa, lobj vp n1) :: (sa, lobj vs n2) :: (fa, lobj vf n3) :: (fo, listOf FA 0) :: (so, listOf SA 0) :: (po, listOf PA 0) :: (st, oS) :: (c, oc) :: own) →
      wpAny (model prog w) A (execs body env) (Turn9 h₀ env x stored m₀ ((fo, listOf FA 0) :: (so, listOf SA 0) :: (po, listOf PA 0) :: (st, oS) :: (c, oc) :: own) pa sa fa P n { s with heap := h, toks := tk }) E { s with heap := h, toks := tk })
    (done : ∀ (u : Str → Option Value) h tk (vp vs vf : Nat → List Value) (np ns nf : Nat → Nat) (P S Fc : Nat → List Int), (∀ j, j < 3 → PalSt (vp j) (vs j) (vf j) (P j) (S j) (Fc j) 3) → Fr h₀ env.locals h (fun y => if y = x then u y else if stored.contains y then u y else m₀ y) →
      News h₀ env.locals h [(fo, listOf #[.ref f0, .ref f1, .ref f2] 0), (so, listOf #[.ref s0, .ref s1, .ref s2] 0), (po, listOf #[.ref p0, .ref p1, .ref p2] 0), (st, oS), (c, oc),
        (p0, lobj (vp 0) (np 0)), (s0, lobj (vs 0) (ns 0)), (f0, lobj (vf 0) (nf 0)), (p1, lobj (vp 1) (np 1)), (s1, lobj (vs 1) (ns 1)), (f1, lobj (vf 1) (nf 1)), (p2, lobj (vp 2) (np 2)), (s2, lobj (vs 2) (ns 2)), (f2, lobj (vf 2) (nf 2))] →
      Q .next { s with heap := h, toks := tk }) :
    wpAny (model prog w) A (pyIter (.ref r)) (fun it s₂ => LoopAtV prog w A h₀ env x body Q E it s₂) E s := by
  obtain ⟨l1, l2, l3, l4, l5, l6, l7, l8, l9, l10, l11, l12, l13⟩ := hlt
  refine law_loop (stat := [(fo, listOf #[.ref f0, .ref f1, .ref f2] 0), (so, listOf #[.ref s0, .ref s1, .ref s2] 0), (po, listOf #[.ref p0, .ref p1, .ref p2] 0), (st, oS), (c, oc)]) stored (sel p0 p1 p2) (sel s0 s1 s2) (sel f0 f1 f2) hh hr hsmall hn F N ?_ ?_ ?_ ?_ ?_
  · intro p hp
    simp only [List.mem_cons, List.not_mem_nil, or_false] at hp ⊢
    rcases hp with rfl | rfl | rfl | rfl | rfl <;> simp
  · intro p hp
    simp only [dyn, sel, List.mem_cons, List.not_mem_nil, or_false] at hp ⊢
    rcases hp with rfl | rfl | rfl | rfl | rfl | rfl | rfl | rfl | rfl <;> simp
  · unfold nlt at *
    intro i j hi hj
    have q : ∀ a b : Nat, a < b → a ≠ b := fun a b h => Nat.ne_of_lt h
    rcases lt3 hi with rfl | rfl | rfl <;> rcases lt3 hj with rfl | rfl | rfl <;> simp only [sel] <;>
      refine ⟨q _ _ ?_, q _ _ ?_, q _ _ ?_, fun hij => ?_⟩ <;> first
      | exact absurd rfl hij
      | (refine ⟨?_, ?_, ?_⟩ <;> first | (refine q _ _ ?_; omega) | (refine (q _ _ ?_).symm; omega))
      | omega
  · intro i t u h tk own pa sa fa vp vs vf n1 n2 n3 P S Fc hi e1 e2 e3 H o1 o2 o3 F₁ N₁
    have hj : i % 3 < 3 := Nat.mod_lt _ (by decide)
    refine turn oS hS i t u h tk own pa sa fa vp vs vf n1 n2 n3 P S Fc _ #[.ref p0, .ref p1, .ref p2] #[.ref s0, .ref s1, .ref s2] #[.ref f0, .ref f1, .ref f2] ⟨hi, H, ⟨rfl, rfl, rfl⟩, ?_, ?_, ?_, ?_⟩ ?_ o1 o2 o3 F₁ N₁
    · rw [e1]; rcases lt3 hj with h | h | h <;> rw [h] <;> rfl
    · rw [e2]; rcases lt3 hj with h | h | h <;> rw [h] <;> rfl
    · rw [e3]; rcases lt3 hj with h | h | h <;> rw [h] <;> rfl
    · unfold cnt; omega
    · rw [e1, e2, e3]
      unfold nlt at *
      rcases lt3 hj with h | h | h <;> rw [h] <;> simp only [sel] <;> omega
  · intro u h tk vp vs vf np ns nf P S Fc H F₁ N₁
    exact done u h tk vp vs vf np ns nf P S Fc H F₁ N₁
theorem item_pal {value slice : PySem.Expr} {l a : Addr} {PA : Array Value} {n i : Nat} {u : Tok} {Q : Value → Shared → Prop} (hl : s.heap.get? l = some (listOf PA n)) (hs3 : PA.size = 3) (hi : PA[i % 3]? = some (.ref a))
    (h : Q (.ref a) s)
    (hs : subscripted slice false (.ref l) (.int ((i : Int).fmod 3) u) = operate [.ref l, .int ((i : Int).fmod 3) u] (getItem (.ref l) (.int ((i : Int).fmod 3) u)) := by with_unfolding_all rfl) :
    wpAny (model prog w) A (subscriptTail value slice (.ref l) (.int ((i : Int).fmod 3) u)) Q E s := by
  have e : (i : Int).fmod 3 = ((i % 3 : Nat) : Int) := by rw [Int.fmod_eq_emod_of_nonneg _ (by decide)]; rfl
  rw [e] at hs ⊢
  have h3 : i % 3 < 3 := Nat.mod_lt _ (by decide)
  exact item_litK (vs := PA.toList) ⟨_, hl, rfl, _, rfl⟩ (by omega) (by omega) (by rw [Int.toNat_natCast, Array.getElem?_toList]; exact hi) h hs
end
end Mine
end
section
open PySem PySem.Float64
set_option Elab.async false
set_option maxRecDepth 100000 
namespace Mine
theorem near_unique {W D t1 t2 : Nat} (hD : 0 < D) (h1 : ∀ t', dist W (D * V t1) ≤ dist W (D * V t') ∧ (V t' ≠ V t1 → dist W (D * V t1) = dist W (D * V t') → t1 % 2 = 0))
    (h2 : ∀ t', dist W (D * V t2) ≤ dist W (D * V t') ∧ (V t' ≠ V t2 → dist W (D * V t2) = dist W (D * V t') → t2 % 2 = 0)) : ¬ t1 < t2 := by
  intro hlt
  have hV := V_lt hlt
  have e1 := (h1 t2).1
  have e2 := (h2 t1).1
  have eq : dist W (D * V t1) = dist W (D * V t2) := by omega
  have p1 := (h1 t2).2 (by omega) eq
  have p2 := (h2 t1).2 (by omega) eq.symm
  have hm1 : V t1 < V (t1 + 1) := V_succ t1
  have hm2 : V (t1 + 1) < V t2 := V_lt (by omega)
  have m1 := Nat.mul_lt_mul_of_pos_left hm1 hD
  have m2 := Nat.mul_lt_mul_of_pos_left hm2 hD
  have e3 := (h1 (t1 + 1)).1
  unfold dist at *
  omega
theorem right_unique {r1 r2 : UInt64} {n1 n2 : Bool} {W D : Nat} (h1 : Right r1 n1 W D) (h2 : Right r2 n2 W D) (hD : 0 < D) (hb : 2 * W < D * ((2 ^ 54 - 1) * 2 ^ 2045)) :
    ∃ t, r1 = pack n1 t ∧ r2 = pack n2 t ∧ t < infMag ∧ (W = 0 → V t = 0) := by
  obtain ⟨t1, e1, l1, a1⟩ := right_small h1 hb
  obtain ⟨t2, e2, l2, a2⟩ := right_small h2 hb
  have h12 := near_unique hD a1 a2
  have h21 := near_unique hD a2 a1
  obtain rfl : t1 = t2 := by omega
  refine ⟨t1, e1, e2, l1, fun hW => ?_⟩
  have := (a1 0).1
  rw [hW, V_zero, Nat.mul_zero, dist_self] at this
  have := dist_zero (Nat.le_zero.mp this)
  rcases Nat.mul_eq_zero.mp this.symm with h | h
  · omega
  · exact h
theorem cmp_self_val {x y : UInt64} {a b : Bool} {m k : Nat} {e f : Int} (hx : decode x = .fin a m e) (hy : decode y = .fin b k f) (h : val x = val y) : cmp x y = some .eq := by
  rw [cmp_right hx hy, h]
  simp
theorem pack_cmp {n1 n2 : Bool} {t : Nat} (ht : t < infMag) (h : n1 = n2 ∨ V t = 0) : cmp (pack n1 t) (pack n2 t) = some .eq := by
  obtain ⟨m1, f1, d1, _⟩ := decode_pack n1 ht
  obtain ⟨m2, f2, d2, _⟩ := decode_pack n2 ht
  refine cmp_self_val d1 d2 ?_
  rw [val_pack n1 ht, val_pack n2 ht]
  rcases h with rfl | h
  · rfl
  · rw [h]; cases n1 <;> cases n2 <;> rfl
theorem cov_div {x : UInt64} {v : Int} (hx : EX 1066 x (8 * v)) (hv : v.natAbs < 2 ^ 40) :
    cmp (div x (ofInt 15)) (ofFrac (decide (v < 0) != decide ((480 : Int) < 0)) v.natAbs (480 : Int).natAbs) = some .eq := by
  obtain ⟨a, m, e, hd, hvx⟩ := hx
  obtain ⟨b, n, f, hd', hvy⟩ := EX.ofInt' (i := 15) (by decide)
  have hn : n ≠ 0 := by
    intro q
    have := val_natAbs hd'
    rw [hvy, q, Nat.zero_mul, natAbs_mul_pow] at this
    have hp := Nat.two_pow_pos 1074
    rcases Nat.mul_eq_zero.mp this with h | h
    · revert h; decide
    · omega
  have R1 := div_right hd hd' hn
  have e1 : (val x).natAbs = 8 * v.natAbs * 2 ^ 1066 := by rw [hvx, natAbs_mul_pow, Int.natAbs_mul]; rfl
  have e2 : (val (ofInt 15)).natAbs = 15 * 2 ^ 1074 := by rw [hvy, natAbs_mul_pow]; rfl
  have hD : 0 < (val (ofInt 15)).natAbs := by rw [e2]; exact Nat.mul_pos (by decide) (Nat.two_pow_pos _)
  have R2 : Right (ofFrac (decide (v < 0) != decide ((480 : Int) < 0)) v.natAbs (480 : Int).natAbs) (decide (v < 0) != decide ((480 : Int) < 0)) ((val x).natAbs * 2 ^ 1074) (val (ofInt 15)).natAbs := by
    refine ofFrac_right (by decide) ?_ hD
    rw [e1, e2, show (2 : Nat) ^ 1074 = 2 ^ 8 * 2 ^ 1066 by rw [← Nat.pow_add], show (480 : Int).natAbs = 480 from rfl]
    generalize (2 : Nat) ^ 1066 = Z
    have : (2 : Nat) ^ 8 = 256 := by decide
    rw [this]
    generalize v.natAbs = u
    have : u * (256 * Z) * (15 * (256 * Z)) = (u * Z * Z) * (256 * 15 * 256) := by ac_rfl
    rw [this]
    have : 8 * u * Z * (256 * Z) * 480 = (u * Z * Z) * (8 * 256 * 480) := by ac_rfl
    rw [this]
  have hb : 2 * ((val x).natAbs * 2 ^ 1074) < (val (ofInt 15)).natAbs * ((2 ^ 54 - 1) * 2 ^ 2045) := by
    rw [e1, e2, show 8 * v.natAbs * 2 ^ 1066 * 2 ^ 1074 = 2 ^ 1074 * (8 * v.natAbs * 2 ^ 1066) by rw [Nat.mul_comm]]
    have h1 := under_big (K := 8 * v.natAbs) (c := 1066) (D := 2 ^ 1074) (Nat.two_pow_pos _) (by omega) (by decide)
    refine Nat.lt_of_lt_of_le h1 (Nat.mul_le_mul_right _ ?_)
    rw [Nat.mul_comm]
    exact Nat.le_mul_of_pos_right _ (by decide)
  obtain ⟨t, q1, q2, ht, hW⟩ := right_unique R1 R2 hD hb
  rw [q1, q2]
  refine pack_cmp ht ?_
  by_cases h0 : v = 0
  · right
    refine hW ?_
    rw [e1, h0]
    simp
  · left
    have hbf : b = false := by
      have hb := sgn_bit hd'
      rw [hvy, natAbs_mul_pow] at hb
      cases b with
      | false => rfl
      | true =>
        have hp := Nat.two_pow_pos 1074
        generalize (2 : Nat) ^ 1074 = Z at hb hp
        unfold sgn at hb
        rw [if_pos rfl] at hb
        have : (15 : Int).natAbs = 15 := rfl
        rw [this] at hb
        omega
    have ha := sgn_bit hd
    rw [hvx, natAbs_mul_pow, sgn_mul] at ha
    have z1 : ((2 ^ 1066 : Nat) : Int) ≠ 0 := by have := Nat.two_pow_pos 1066; generalize (2 : Nat) ^ 1066 = Z at *; omega
    have ha' := Int.eq_of_mul_eq_mul_right z1 ha
    rw [hbf]
    unfold sgn at ha'
    cases a
    · rw [if_neg (by decide)] at ha'
      have : decide (v < 0) = false := by rw [decide_eq_false_iff_not]; omega
      rw [this]; rfl
    · rw [if_pos rfl] at ha'
      have : decide (v < 0) = true := by rw [decide_eq_true_eq]; omega
      rw [this]; rfl
end Mine
end
local macro_rules | `(tactic| walk_at "pad 24") => `(tactic| fail)
section
open PySem PySem.Float64
set_option Elab.async false
set_option maxRecDepth 100000 
set_option maxHeartbeats 4000000
set_option exponentiation.threshold 200
namespace Mine
noncomputable def ONE : Nat := 1606938044258990275541962092341162602522202993782792835301376
noncomputable def six : Nat := 267823007376498364389830216369778339396554983864891135229952
noncomputable def tthird : Nat := 1071292029505993457559320865479113357586219935459564540919808
noncomputable def fk : Nat → Nat → Nat
  | 0, _ => 0
  | k + 1, q => bif Nat.ble (Nat.pow 2 (Nat.add 53 k)) q then Nat.succ k else fk k q
noncomputable def heQ (n d : Nat) : Nat := bif (Nat.ble d (Nat.mul 2 (Nat.mod n d))) then (bif Nat.beq (Nat.mul 2 (Nat.mod n d)) d then Nat.add (Nat.div n d) (Nat.mod (Nat.div n d) 2) else Nat.succ (Nat.div n d)) else Nat.div n d
noncomputable def okR (k n d : Nat) : Bool := Nat.ble (Nat.mul (Nat.pow 2 (Nat.add 52 k)) d) n && Nat.ble (Nat.succ n) (Nat.mul (Nat.pow 2 (Nat.add 53 k)) d)
noncomputable def R1 (k n d : Nat) (f : Nat → Bool) : Bool := bif okR k n d then f (Nat.mul (heQ n (Nat.mul d (Nat.pow 2 k))) (Nat.pow 2 k)) else false
noncomputable def Rk (k n d : Nat) (f : Nat → Bool) : Bool := bif Nat.beq n 0 then f 0 else R1 (fk k (Nat.div n d)) n d f
noncomputable def R (n d : Nat) (f : Nat → Bool) : Bool := Rk 152 n d f
noncomputable def vQ (m1 m2 d hue : Nat) (f : Nat → Bool) : Bool :=
  bif Nat.blt hue six then R (Nat.mul d hue) ONE fun a => R (Nat.mul a 6) 1 fun b => R (Nat.add m1 b) 1 f
  else bif Nat.blt hue (Nat.div ONE 2) then f m2
  else bif Nat.blt hue tthird then R (Nat.sub tthird hue) 1 fun x => R (Nat.mul d x) ONE fun a => R (Nat.mul a 6) 1 fun b => R (Nat.add m1 b) 1 f
  else f m1
noncomputable def max3N (a b c : Nat) : Nat := bif Nat.blt a b then (bif Nat.blt b c then c else b) else (bif Nat.blt a c then c else a)
noncomputable def min3N (a b c : Nat) : Nat := bif Nat.blt b a then (bif Nat.blt c b then c else b) else (bif Nat.blt c a then c else a)
noncomputable def sQ (rangec sumc l u : Nat) (f : Nat → Bool) : Bool :=
  bif Nat.ble l (Nat.div ONE 2) then R (Nat.mul rangec ONE) sumc f else R (Nat.mul rangec ONE) u f
noncomputable def hQ (r g mx rc gc bc : Nat) (f : Nat → Bool) : Bool :=
  bif Nat.beq r mx then (bif Nat.ble gc bc then R (Nat.sub bc gc) 1 fun h => R h 6 fun x => R (Nat.mod x ONE) 1 f
    else R (Nat.sub gc bc) 1 fun h => R h 6 fun x => bif Nat.blt x ONE then R x 1 fun y => bif Nat.blt 0 y && Nat.ble y ONE then R (Nat.sub ONE y) 1 f else false else false)
  else bif Nat.beq g mx then R (Nat.add (Nat.mul 2 ONE) rc) 1 fun t => bif Nat.ble bc t then R (Nat.sub t bc) 1 fun h => R h 6 fun x => R (Nat.mod x ONE) 1 f else false
  else R (Nat.add (Nat.mul 4 ONE) gc) 1 fun t => bif Nat.ble rc t then R (Nat.sub t rc) 1 fun h => R h 6 fun x => R (Nat.mod x ONE) 1 f else false
noncomputable def endQ (P L S h l s : Nat) : Bool := Nat.ble h ONE && Rk 184 (Nat.mul h (Nat.pow 2 34)) 1 fun h' => Rk 184 (Nat.mul l (Nat.pow 2 33)) 1 fun l' => Rk 184 (Nat.mul s (Nat.pow 2 32)) 1 fun s' =>
  Nat.beq (Nat.mod (heQ h' ONE) (Nat.pow 2 34)) (Nat.mul P (Nat.pow 2 30)) && Nat.beq (heQ l' ONE) (Nat.mul L (Nat.pow 2 30)) && Nat.beq (heQ s' ONE) (Nat.mul S (Nat.pow 2 30))
noncomputable def toldQ1 (r g b mx mn P L S : Nat) : Bool := bif Nat.blt mn mx && Nat.ble mx (Nat.mul 2 ONE) && Nat.ble r mx && Nat.ble g mx && Nat.ble b mx then
  R (Nat.add mx mn) 1 fun sumc => R (Nat.sub mx mn) 1 fun rangec => R sumc 2 fun l => R (Nat.sub (Nat.mul 2 ONE) mx) 1 fun t => bif Nat.blt 0 sumc && Nat.blt 0 rangec && Nat.ble mn t then
  R (Nat.sub t mn) 1 fun u => bif Nat.blt 0 u then sQ rangec sumc l u fun s =>
  R (Nat.sub mx r) 1 fun a => R (Nat.mul a ONE) rangec fun rc => R (Nat.sub mx g) 1 fun a' => R (Nat.mul a' ONE) rangec fun gc => R (Nat.sub mx b) 1 fun a'' => R (Nat.mul a'' ONE) rangec fun bc =>
  hQ r g mx rc gc bc fun h => endQ P L S h l s else false else false else false
noncomputable def toldQ (r g b P L S : Nat) : Bool := toldQ1 r g b (max3N r g b) (min3N r g b) P L S
noncomputable def oppQ (r g b P L S : Nat) : Bool := bif Nat.ble r ONE && Nat.ble g ONE && Nat.ble b ONE then R (Nat.sub ONE r) 1 fun r' => R (Nat.sub ONE g) 1 fun g' => R (Nat.sub ONE b) 1 fun b' => toldQ r' g' b' (Nat.mod (Nat.add P 8) 16) (Nat.sub 8 L) S else false
noncomputable def cellQ (h1 h2 h3 m1 m2 d P L S : Nat) : Bool := vQ m1 m2 d h1 fun r => vQ m1 m2 d h2 fun g => vQ m1 m2 d h3 fun b => toldQ r g b P L S && oppQ r g b P L S
noncomputable def m1N (L S : Nat) : Nat := bif Nat.ble L 4 then Nat.mul (Nat.mul L (Nat.sub 4 S)) (Nat.pow 2 195) else Nat.mul (Nat.sub (Nat.add (Nat.mul 4 L) (Nat.mul L S)) (Nat.mul 8 S)) (Nat.pow 2 195)
noncomputable def m2N (L S : Nat) : Nat := bif Nat.ble L 4 then Nat.mul (Nat.mul L (Nat.add 4 S)) (Nat.pow 2 195) else Nat.mul (Nat.sub (Nat.add (Nat.mul 4 L) (Nat.mul 8 S)) (Nat.mul L S)) (Nat.pow 2 195)
noncomputable def cells (P : Nat) (h : Nat × Nat × Nat) : Bool := (List.range 7).all fun l => (List.range 4).all fun s => cellQ h.1 h.2.1 h.2.2 (m1N (l+1) (s+1)) (m2N (l+1) (s+1)) (Nat.sub (m2N (l+1) (s+1)) (m1N (l+1) (s+1))) P (l+1) (s+1)

theorem ONE_eq : ONE = 2 ^ 200 := by decide +kernel
theorem ONE_mul : 2 ^ 874 * ONE = 2 ^ 1074 := by rw [ONE_eq, ← Nat.pow_add]
theorem heQ_eq (n d : Nat) : heQ n d = halfEven n d := by
  unfold heQ halfEven
  simp only [Nat.mul_eq, Nat.add_eq, show Nat.div n d = n / d from rfl, show Nat.mod n d = n % d from rfl, show Nat.mod (n / d) 2 = n / d % 2 from rfl]
  cases h1 : Nat.ble d (2 * (n % d)) with
  | false =>
    have : ¬ d ≤ 2 * (n % d) := fun h => by rw [Nat.ble_eq_true_of_le h] at h1; cases h1
    rw [cond_false, if_neg]
    simp only [Bool.or_eq_true, decide_eq_true_eq, Bool.and_eq_true, beq_iff_eq]
    omega
  | true =>
    have h1 := Nat.le_of_ble_eq_true h1
    rw [cond_true]
    cases h2 : Nat.beq (2 * (n % d)) d with
    | true =>
      have h2 := Nat.eq_of_beq_eq_true h2
      rw [cond_true]
      split
      · rename_i h
        simp only [Bool.or_eq_true, decide_eq_true_eq, Bool.and_eq_true, beq_iff_eq] at h
        omega
      · rename_i h
        simp only [Bool.or_eq_true, decide_eq_true_eq, Bool.and_eq_true, beq_iff_eq, not_or, not_and] at h
        omega
    | false =>
      have h2 : 2 * (n % d) ≠ d := fun h => by rw [h] at h2; rw [Nat.beq_refl] at h2; cases h2
      rw [cond_false, if_pos]
      simp only [Bool.or_eq_true, decide_eq_true_eq]
      omega
theorem halfEven_scale (n d t : Nat) (ht : 0 < t) : halfEven (n * t) (d * t) = halfEven n d := by
  unfold halfEven
  simp only [Nat.mul_div_mul_right _ _ ht, Nat.mul_mod_mul_right]
  have e1 : (2 * (n % d * t) > d * t) ↔ (2 * (n % d) > d) := by
    rw [← Nat.mul_assoc]; exact Nat.mul_lt_mul_right ht
  have e2 : (2 * (n % d * t) = d * t) ↔ (2 * (n % d) = d) := by
    rw [← Nat.mul_assoc]; exact Nat.mul_left_inj (Nat.ne_of_gt ht)
  have e3 : (2 * (n % d * t) == d * t) = (2 * (n % d) == d) := by rw [Bool.eq_iff_iff, beq_iff_eq, beq_iff_eq]; exact e2
  simp only [e1, e3]
theorem fk_le : ∀ k q, fk k q ≤ k
  | 0, _ => Nat.le_refl _
  | k + 1, q => by
    unfold fk
    cases Nat.ble (Nat.pow 2 (Nat.add 53 k)) q with
    | true => exact Nat.le_refl _
    | false => exact Nat.le_succ_of_le (fk_le k q)
theorem right_round {r : UInt64} {neg : Bool} {n d k W D : Nat} (h : Right r neg W D) (hd : 0 < d) (hD : 0 < D) (hW : W * d = n * 2 ^ 874 * D) (hok : okR k n d = true) (hk : k ≤ 200) :
    ∃ m e, decode r = .fin neg m e ∧ val r = sgn neg (heQ n (d * 2 ^ k) * 2 ^ k * 2 ^ 874) := by
  unfold okR at hok
  rw [Bool.and_eq_true] at hok
  have h1 : 2 ^ (52 + k) * d ≤ n := Nat.le_of_ble_eq_true hok.1
  have h2 : n < 2 ^ (53 + k) * d := Nat.le_of_ble_eq_true hok.2
  have hp := Nat.two_pow_pos k
  have hb : 0 < d * 2 ^ k := Nat.mul_pos hd hp
  have lo : 2 ^ 52 * (d * 2 ^ k) ≤ n := by rw [Nat.pow_add, Nat.mul_assoc, Nat.mul_comm (2 ^ k)] at h1; exact h1
  have up : n < 2 ^ 53 * (d * 2 ^ k) := by rw [Nat.pow_add, Nat.mul_assoc, Nat.mul_comm (2 ^ k)] at h2; exact h2
  have hsmall : 2 * W < D * ((2 ^ 54 - 1) * 2 ^ 2045) := by
    refine Nat.lt_of_mul_lt_mul_right (a := d) ?_
    rw [Nat.mul_assoc, hW]
    have b1 : n * 2 ^ 874 * D < 2 ^ (53 + k) * d * 2 ^ 874 * D := Nat.mul_lt_mul_of_pos_right (Nat.mul_lt_mul_of_pos_right h2 (Nat.two_pow_pos _)) hD
    have b2 : 2 * (2 ^ (53 + k) * d * 2 ^ 874 * D) ≤ D * ((2 ^ 54 - 1) * 2 ^ 2045) * d := by
      calc 2 * (2 ^ (53 + k) * d * 2 ^ 874 * D) = D * (2 * 2 ^ (53 + k) * 2 ^ 874) * d := by generalize (2 : Nat) ^ (53 + k) = A; generalize (2 : Nat) ^ 874 = B; ac_rfl
        _ ≤ D * ((2 ^ 54 - 1) * 2 ^ 2045) * d := by
          refine Nat.mul_le_mul_right _ (Nat.mul_le_mul_left _ ?_)
          have : 2 * 2 ^ (53 + k) * 2 ^ 874 = 2 ^ (928 + k) := by rw [Nat.mul_comm 2, ← Nat.pow_succ, ← Nat.pow_add]; congr 1; omega
          rw [this]
          calc 2 ^ (928 + k) ≤ 2 ^ 2045 := Nat.pow_le_pow_right (by decide) (by omega)
            _ = 1 * 2 ^ 2045 := (Nat.one_mul _).symm
            _ ≤ _ := Nat.mul_le_mul_right _ (by decide)
    exact Nat.lt_of_lt_of_le (Nat.mul_lt_mul_of_pos_left b1 (by decide)) b2
  obtain ⟨t, rfl, ht, hn⟩ := right_small h hsmall
  have hq := heQ_eq n (d * 2 ^ k)
  generalize heQ n (d * 2 ^ k) = q at hq ⊢
  have core := fun t' => nearest_core (k := k + 874) hb hq up (.inr lo) t'
  have hq1 : q ≤ 2 ^ 53 := by
    have h1 := halfEven_le' n (d * 2 ^ k) hb
    have h2 : n / (d * 2 ^ k) < 2 ^ 53 := (Nat.div_lt_iff_lt_mul hb).mpr up
    omega
  have hq2 : 2 ^ 52 ≤ q := by
    have h1 : 2 ^ 52 ≤ n / (d * 2 ^ k) := (Nat.le_div_iff_mul_le hb).mpr lo
    have h2 : n / (d * 2 ^ k) ≤ halfEven n (d * 2 ^ k) := by unfold halfEven; simp only; split <;> omega
    omega
  have hV := V_at (k := k + 874) hq1 (.inl hq2)
  have sc : ∀ v, d * 2 ^ k * dist W (D * v) = D * dist (n * 2 ^ (k + 874)) (d * 2 ^ k * v) := by
    intro v
    have eA : d * 2 ^ k * W = D * (n * 2 ^ (k + 874)) := by
      rw [Nat.pow_add]
      generalize (2 : Nat) ^ 874 = B at hW ⊢
      generalize (2 : Nat) ^ k = A
      calc d * A * W = W * d * A := by ac_rfl
        _ = n * B * D * A := by rw [hW]
        _ = D * (n * (A * B)) := by ac_rfl
    have eB : d * 2 ^ k * (D * v) = D * (d * 2 ^ k * v) := by generalize (2 : Nat) ^ k = A; ac_rfl
    rw [← dist_mul, eA, eB, dist_mul]
  have hn2 : ∀ t', dist W (D * V ((k + 874) * 2 ^ 52 + q)) ≤ dist W (D * V t') ∧ (V t' ≠ V ((k + 874) * 2 ^ 52 + q) → dist W (D * V ((k + 874) * 2 ^ 52 + q)) = dist W (D * V t') → ((k + 874) * 2 ^ 52 + q) % 2 = 0) := by
    intro t'
    rw [hV]
    have c := core t'
    refine ⟨?_, fun hne he => ?_⟩
    · refine Nat.le_of_mul_le_mul_left (c := d * 2 ^ k) ?_ hb
      rw [sc, sc]
      exact Nat.mul_le_mul_left _ c.1
    · have e : D * dist (n * 2 ^ (k + 874)) (d * 2 ^ k * (q * 2 ^ (k + 874))) = D * dist (n * 2 ^ (k + 874)) (d * 2 ^ k * V t') := by rw [← sc, ← sc, he]
      have := c.2 hne (Nat.eq_of_mul_eq_mul_left hD e)
      omega
  have a1 := near_unique hD hn hn2
  have a2 := near_unique hD hn2 hn
  obtain rfl : t = (k + 874) * 2 ^ 52 + q := by omega
  obtain ⟨m, e, hdc, _⟩ := decode_pack neg ht
  refine ⟨m, e, hdc, ?_⟩
  rw [val_pack neg ht, hV, Nat.pow_add, Nat.mul_assoc]

theorem Rk_right {r : UInt64} {neg : Bool} {K n d W D : Nat} {f : Nat → Bool} (h : Right r neg W D) (hd : 0 < d) (hD : 0 < D) (hW : W * d = n * 2 ^ 874 * D) (hK : K ≤ 200) (hR : Rk K n d f = true) :
    ∃ v, f v = true ∧ (n = 0 → v = 0) ∧ ∃ m e, decode r = .fin neg m e ∧ val r = sgn neg (v * 2 ^ 874) := by
  unfold Rk at hR
  cases h0 : Nat.beq n 0 with
  | true =>
    obtain rfl := Nat.eq_of_beq_eq_true h0
    rw [h0, cond_true] at hR
    have hW0 : W = 0 := by
      rw [Nat.zero_mul, Nat.zero_mul] at hW
      rcases Nat.mul_eq_zero.mp hW with h | h
      · exact h
      · omega
    have h' : Right r neg (D * (0 * 2 ^ 0)) D := by rw [hW0] at h; simpa using h
    obtain ⟨a, m, e, h1, h2⟩ := right_exact h' hD (by decide) (by decide)
    obtain ⟨t, rfl, ht, _⟩ := right_small h' (by have := Nat.mul_pos hD (Nat.mul_pos (show 0 < 2 ^ 54 - 1 by decide) (Nat.two_pow_pos 2045)); omega)
    obtain ⟨m', e', hdc, _⟩ := decode_pack neg ht
    refine ⟨0, hR, fun _ => rfl, m', e', hdc, ?_⟩
    rw [h2]
    simp
  | false =>
    rw [h0, cond_false] at hR
    unfold R1 at hR
    cases h1 : okR (fk K (Nat.div n d)) n d with
    | false => rw [h1] at hR; cases hR
    | true =>
      rw [h1, cond_true] at hR
      obtain ⟨m, e, hdc, hv⟩ := right_round h hd hD hW h1 (Nat.le_trans (fk_le _ _) hK)
      refine ⟨_, hR, fun q => ?_, m, e, hdc, hv⟩
      rw [q] at h0; cases h0
end Mine
end
local macro_rules | `(tactic| walk_at "pad 25") => `(tactic| fail)
section
open PySem PySem.Float64
set_option Elab.async false
set_option maxRecDepth 100000 
set_option maxHeartbeats 1000000
set_option profiler true
set_option profiler.threshold 2000
set_option exponentiation.threshold 200
namespace Mine
noncomputable def EXN (x : UInt64) (n : Nat) : Prop := ∃ a m e, decode x = .fin a m e ∧ val x = ((n * 2 ^ 874 : Nat) : Int)
noncomputable def EXM (x : UInt64) (n : Nat) : Prop := ∃ a m e, decode x = .fin a m e ∧ val x = -((n * 2 ^ 874 : Nat) : Int)
theorem sgn_false (n : Nat) : sgn false n = (n : Int) := rfl
theorem sgn_true (n : Nat) : sgn true n = -(n : Int) := rfl
theorem p874 : 0 < 2 ^ 874 := Nat.two_pow_pos _
theorem sgn_nat {a : Bool} {n : Nat} (h : sgn a n = (n : Int)) : a = false ∨ n = 0 := by
  cases a with
  | false => exact .inl rfl
  | true => rw [sgn_true] at h; right; omega
theorem sgn_natM {a : Bool} {n : Nat} (h : sgn a n = -(n : Int)) : a = true ∨ n = 0 := by
  cases a with
  | true => exact .inl rfl
  | false => rw [sgn_false] at h; right; omega
theorem EXN.sign {x : UInt64} {n : Nat} {a : Bool} {m : Nat} {e : Int} (h : EXN x n) (hd : decode x = .fin a m e) : (a = false ∨ n = 0) ∧ (val x).natAbs = n * 2 ^ 874 := by
  obtain ⟨_, _, _, _, hv⟩ := h
  have := sgn_bit hd
  rw [hv, Int.natAbs_natCast] at this
  refine ⟨(sgn_nat this).imp id fun q => ?_, by rw [hv, Int.natAbs_natCast]⟩
  rcases Nat.mul_eq_zero.mp q with q | q
  · exact q
  · exact absurd q (Nat.ne_of_gt p874)
theorem EXM.sign {x : UInt64} {n : Nat} {a : Bool} {m : Nat} {e : Int} (h : EXM x n) (hd : decode x = .fin a m e) : (a = true ∨ n = 0) ∧ (val x).natAbs = n * 2 ^ 874 := by
  obtain ⟨_, _, _, _, hv⟩ := h
  have := sgn_bit hd
  rw [hv, Int.natAbs_neg, Int.natAbs_natCast] at this
  refine ⟨(sgn_natM this).imp id fun q => ?_, by rw [hv, Int.natAbs_neg, Int.natAbs_natCast]⟩
  rcases Nat.mul_eq_zero.mp q with q | q
  · exact q
  · exact absurd q (Nat.ne_of_gt p874)
theorem EXN.of {r : UInt64} {v : Nat} {neg : Bool} {m : Nat} {e : Int} (h : decode r = .fin neg m e) (hv : val r = sgn neg (v * 2 ^ 874)) (hs : neg = false ∨ v = 0) : EXN r v := by
  refine ⟨_, _, _, h, ?_⟩
  rw [hv]
  rcases hs with rfl | rfl
  · exact sgn_false _
  · rw [Nat.zero_mul]; cases neg <;> rfl
theorem EXM.of {r : UInt64} {v : Nat} {neg : Bool} {m : Nat} {e : Int} (h : decode r = .fin neg m e) (hv : val r = sgn neg (v * 2 ^ 874)) (hs : neg = true ∨ v = 0) : EXM r v := by
  refine ⟨_, _, _, h, ?_⟩
  rw [hv]
  rcases hs with rfl | rfl
  · exact sgn_true _
  · rw [Nat.zero_mul]; cases neg <;> rfl
variable {K : Nat} {f : Nat → Bool}
theorem EXN.neg' {x : UInt64} {n : Nat} (h : EXN x n) : EXM (Float64.neg x) n := by
  obtain ⟨a, m, e, hd, hv⟩ := h
  exact ⟨_, _, _, neg_decode hd, by rw [neg_val hd, hv]⟩
theorem EXN.zero' (neg : Bool) : EXN (zero neg) 0 := by
  obtain ⟨a, m, e, hd, hv⟩ := EX.zero' (c := 874) neg
  exact ⟨a, m, e, hd, by rw [hv, Int.zero_mul, Nat.zero_mul]; rfl⟩
theorem EXM.zero' (neg : Bool) : EXM (zero neg) 0 := by
  obtain ⟨a, m, e, hd, hv⟩ := EX.zero' (c := 874) neg
  exact ⟨a, m, e, hd, by rw [hv, Int.zero_mul, Nat.zero_mul]; rfl⟩
theorem sum_pos {z : Int} {n : Nat} {x y : UInt64} {a b : Bool} {m k : Nat} {e g : Int} (hx : decode x = .fin a m e) (hy : decode y = .fin b k g) (hz : val x + val y = ((n * 2 ^ 874 : Nat) : Int)) (hK : K ≤ 200) (h : Rk K n 1 f = true) : ∃ v, f v = true ∧ EXN (add x y) v := by
  have A := add_right hx hy
  by_cases h0 : n = 0
  · subst h0
    rw [A.1 (by rw [hz, Nat.zero_mul]; rfl)]
    exact ⟨0, by simpa [Rk] using h, .zero' _⟩
  · have hp : 0 < n * 2 ^ 874 := Nat.mul_pos (Nat.pos_of_ne_zero h0) p874
    have R := A.2 (by rw [hz]; omega)
    rw [hz, Int.natAbs_natCast, show decide (((n * 2 ^ 874 : Nat) : Int) < 0) = false by rw [decide_eq_false_iff_not]; omega] at R
    obtain ⟨v, h1, h2, m, e, hd, hv⟩ := Rk_right R (by decide) (by decide) rfl hK h
    exact ⟨v, h1, .of hd hv (.inl rfl)⟩
theorem sum_neg {z : Int} {n : Nat} {x y : UInt64} {a b : Bool} {m k : Nat} {e g : Int} (hx : decode x = .fin a m e) (hy : decode y = .fin b k g) (hz : val x + val y = -((n * 2 ^ 874 : Nat) : Int)) (hK : K ≤ 200) (h : Rk K n 1 f = true) : ∃ v, f v = true ∧ EXM (add x y) v := by
  have A := add_right hx hy
  by_cases h0 : n = 0
  · subst h0
    rw [A.1 (by rw [hz, Nat.zero_mul]; rfl)]
    exact ⟨0, by simpa [Rk] using h, .zero' _⟩
  · have hp : 0 < n * 2 ^ 874 := Nat.mul_pos (Nat.pos_of_ne_zero h0) p874
    have R := A.2 (by rw [hz]; omega)
    rw [hz, Int.natAbs_neg, Int.natAbs_natCast, show decide (-((n * 2 ^ 874 : Nat) : Int) < 0) = true by rw [decide_eq_true_eq]; omega] at R
    obtain ⟨v, h1, h2, m, e, hd, hv⟩ := Rk_right R (by decide) (by decide) rfl hK h
    exact ⟨v, h1, .of hd hv (.inl rfl)⟩
theorem R_add {x y : UInt64} {a b : Nat} (hx : EXN x a) (hy : EXN y b) (h : R (Nat.add a b) 1 f = true) : ∃ v, f v = true ∧ EXN (add x y) v := by
  obtain ⟨_, _, _, d1, v1⟩ := hx
  obtain ⟨_, _, _, d2, v2⟩ := hy
  exact sum_pos (z := 0) d1 d2 (by rw [v1, v2, ← Int.natCast_add, ← Nat.add_mul]; rfl) (by decide) h
theorem sub_cast {a b : Nat} (h : b ≤ a) : ((a * 2 ^ 874 : Nat) : Int) + -((b * 2 ^ 874 : Nat) : Int) = ((Nat.sub a b * 2 ^ 874 : Nat) : Int) := by
  show _ = (((a - b) * 2 ^ 874 : Nat) : Int)
  have := Nat.mul_le_mul_right (2 ^ 874) h
  rw [Nat.sub_mul]; omega
theorem R_sub {x y : UInt64} {a b : Nat} (hx : EXN x a) (hy : EXN y b) (hle : b ≤ a) (h : R (Nat.sub a b) 1 f = true) : ∃ v, f v = true ∧ EXN (sub x y) v := by
  obtain ⟨_, _, _, d1, v1⟩ := hx
  obtain ⟨_, _, _, d2, v2⟩ := hy.neg'
  unfold Float64.sub
  exact sum_pos (z := 0) d1 d2 (by rw [v1, v2, sub_cast hle]) (by decide) h
theorem R_subM {x y : UInt64} {a b : Nat} (hx : EXN x a) (hy : EXN y b) (hle : a ≤ b) (h : R (Nat.sub b a) 1 f = true) : ∃ v, f v = true ∧ EXM (sub x y) v := by
  obtain ⟨_, _, _, d1, v1⟩ := hx
  obtain ⟨_, _, _, d2, v2⟩ := hy.neg'
  unfold Float64.sub
  exact sum_neg (z := 0) d1 d2 (by rw [v1, v2, ← sub_cast hle]; omega) (by decide) h
theorem R_addM {x y : UInt64} {a b : Nat} (hx : EXM x a) (hy : EXN y b) (hle : a ≤ b) (h : R (Nat.sub b a) 1 f = true) : ∃ v, f v = true ∧ EXN (add x y) v := by
  obtain ⟨_, _, _, d1, v1⟩ := hx
  obtain ⟨_, _, _, d2, v2⟩ := hy
  exact sum_pos (z := 0) d1 d2 (by rw [v1, v2, ← sub_cast hle]; omega) (by decide) h
theorem mul_hw {a b d n : Nat} (h : a * b * d = n * ONE) : a * 2 ^ 874 * (b * 2 ^ 874) * d = n * 2 ^ 874 * 2 ^ 1074 := by
  rw [← ONE_mul]
  generalize (2 : Nat) ^ 874 = B
  generalize ONE = O at *
  calc a * B * (b * B) * d = a * b * d * (B * B) := by ac_rfl
    _ = n * O * (B * B) := by rw [h]
    _ = _ := by ac_rfl
theorem xor_false {a b : Bool} {n k : Nat} {v : Nat} (h1 : a = false ∨ n = 0) (h2 : b = false ∨ k = 0) (h : n = 0 ∨ k = 0 → v = 0) : (a != b) = false ∨ v = 0 := by
  rcases h1 with rfl | h1
  · rcases h2 with rfl | h2
    · exact .inl rfl
    · exact .inr (h (.inr h2))
  · exact .inr (h (.inl h1))
theorem Rk_mul {x y : UInt64} {a b n d : Nat} (hx : EXN x a) (hy : EXN y b) (hd : 0 < d) (hn : a * b * d = n * ONE) (hK : K ≤ 200) (h : Rk K n d f = true) : ∃ v, f v = true ∧ EXN (mul x y) v := by
  have hx' := hx
  have hy' := hy
  obtain ⟨sa, _, _, d1, v1⟩ := hx
  obtain ⟨sb, _, _, d2, v2⟩ := hy
  have M := mul_right d1 d2
  rw [v1, v2, Int.natAbs_natCast, Int.natAbs_natCast] at M
  obtain ⟨v, h1, h2, m, e, hd', hv⟩ := Rk_right M hd (Nat.two_pow_pos _) (mul_hw hn) hK h
  refine ⟨v, h1, .of hd' hv (xor_false (hx'.sign d1).1 (hy'.sign d2).1 fun q => h2 ?_)⟩
  have : n * ONE = 0 := by rw [← hn]; rcases q with rfl | rfl <;> simp
  rcases Nat.mul_eq_zero.mp this with q | q
  · exact q
  · exact absurd q (by decide +kernel)
theorem div_hw {a b d n : Nat} (h : a * ONE * d = n * b) : a * 2 ^ 874 * 2 ^ 1074 * d = n * 2 ^ 874 * (b * 2 ^ 874) := by
  rw [← ONE_mul]
  generalize (2 : Nat) ^ 874 = B
  generalize ONE = O at *
  calc a * B * (B * O) * d = a * O * d * (B * B) := by ac_rfl
    _ = n * b * (B * B) := by rw [h]
    _ = _ := by ac_rfl
theorem den_ne {y : UInt64} {b : Nat} {s : Bool} {k : Nat} {e : Int} (hy : EXN y b) (hb : 0 < b) (hd : decode y = .fin s k e) : k ≠ 0 := by
  intro q
  have := (hy.sign hd).2
  rw [val_natAbs hd, q, Nat.zero_mul] at this
  have := Nat.mul_pos hb p874
  omega
theorem R_div {x y : UInt64} {a b n d : Nat} (hx : EXN x a) (hy : EXN y b) (hb : 0 < b) (hd : 0 < d) (hn : a * ONE * d = n * b) (h : R n d f = true) : ∃ v, f v = true ∧ EXN (div x y) v := by
  have hx' := hx
  have hy' := hy
  obtain ⟨sa, _, _, d1, v1⟩ := hx
  obtain ⟨sb, _, _, d2, v2⟩ := hy
  have M := div_right d1 d2 (den_ne hy' hb d2)
  rw [v1, v2, Int.natAbs_natCast, Int.natAbs_natCast] at M
  obtain ⟨v, h1, h2, m, e, hd', hv⟩ := Rk_right M hd (Nat.mul_pos hb p874) (div_hw hn) (by decide) h
  refine ⟨v, h1, .of hd' hv (xor_false (hx'.sign d1).1 (hy'.sign d2).1 fun q => h2 ?_)⟩
  have : n * b = 0 := by rw [← hn]; rcases q with rfl | rfl; simp; omega
  rcases Nat.mul_eq_zero.mp this with q | q
  · exact q
  · omega
theorem R_divM {x y : UInt64} {a b n d : Nat} (hx : EXM x a) (hy : EXN y b) (hb : 0 < b) (hd : 0 < d) (hn : a * ONE * d = n * b) (h : R n d f = true) : ∃ v, f v = true ∧ EXM (div x y) v := by
  have hx' := hx
  have hy' := hy
  obtain ⟨sa, _, _, d1, v1⟩ := hx
  obtain ⟨sb, _, _, d2, v2⟩ := hy
  have M := div_right d1 d2 (den_ne hy' hb d2)
  rw [v1, v2, Int.natAbs_neg, Int.natAbs_natCast, Int.natAbs_natCast] at M
  obtain ⟨v, h1, h2, m, e, hd', hv⟩ := Rk_right M hd (Nat.mul_pos hb p874) (div_hw hn) (by decide) h
  refine ⟨v, h1, .of hd' hv ?_⟩
  have hz : a = 0 → v = 0 := fun q => h2 (by
    have : n * b = 0 := by rw [← hn, q]; simp
    rcases Nat.mul_eq_zero.mp this with q | q
    · exact q
    · omega)
  rcases (hy'.sign d2).1 with rfl | q
  · rcases (hx'.sign d1).1 with rfl | q
    · exact .inl rfl
    · exact .inr (hz q)
  · omega
theorem dec_one : decode cOne = .fin false (2 ^ 52) (-52) := by unfold cOne; with_unfolding_all rfl
theorem fmod_right {x : UInt64} {a : Bool} {m : Nat} {e : Int} (hx : decode x = .fin a m e) : Right (fmod x cOne) a ((val x).natAbs % 2 ^ 1074) 1 := by
  have he := decode_ge hx
  unfold fmod align
  rw [hx, dec_one]
  simp only [sgn_false, Int.toNat_natCast]
  rw [if_neg (by decide)]
  generalize hg : min e (-52) = g
  have hM : (m * 2 ^ (e - g).toNat % (2 ^ 52 * 2 ^ (-52 - g).toNat)) * 2 ^ (g + (1074 : Nat)).toNat = (val x).natAbs % 2 ^ 1074 := by
    rw [val_natAbs hx, ← Nat.mul_mod_mul_right, Nat.mul_assoc m, ← Nat.pow_add, ← Nat.pow_add, ← Nat.pow_add]
    congr 2
    · congr 1; congr 1; omega
    · congr 1; omega
  rw [← hM]
  generalize m * 2 ^ (e - g).toNat % (2 ^ 52 * 2 ^ (-52 - g).toNat) = M
  unfold ofBin
  have hs := shift_one M g 1074 (by omega)
  exact ofFrac_right (neg := a) (n := (shift M 1 g).1) (d := (shift M 1 g).2) (shift_pos _ _ _ (by decide)) (by rw [Nat.mul_one, hs]) (by decide)
theorem isZero_right {x : UInt64} {a : Bool} {m : Nat} {e : Int} (hx : decode x = .fin a m e) : isZero x = decide (val x = 0) := by
  rw [Flt.isZero_eq, cmpInt_right hx, Int.zero_mul]
  rw [Bool.eq_iff_iff, decide_eq_true_eq]
  simp [Int.compare_eq_eq]
end Mine
end
local macro_rules | `(tactic| walk_at "pad 26") => `(tactic| fail)
section
open PySem PySem.Float64
set_option Elab.async false
set_option maxRecDepth 100000 
set_option maxHeartbeats 1000000
set_option exponentiation.threshold 200
namespace Mine
theorem ble_dec (a b : Nat) : Nat.ble a b = decide (a ≤ b) := by
  rw [Bool.eq_iff_iff, decide_eq_true_eq]; rw [Nat.ble_eq]
theorem cmpN {x y : UInt64} {a b : Nat} (hx : EXN x a) (hy : EXN y b) : cmp x y = some (compare a b) := by
  obtain ⟨_, _, _, d1, v1⟩ := hx
  obtain ⟨_, _, _, d2, v2⟩ := hy
  rw [cmp_right d1 d2, v1, v2]
  congr 1
  have hp := p874
  rcases Nat.lt_trichotomy a b with h | h | h
  · have h' : ((a * 2 ^ 874 : Nat) : Int) < ((b * 2 ^ 874 : Nat) : Int) := Int.ofNat_lt.mpr (Nat.mul_lt_mul_of_pos_right h hp)
    rw [Int.compare_eq_lt.mpr h', Nat.compare_eq_lt.mpr h]
  · rw [h, Int.compare_eq_eq.mpr rfl, Nat.compare_eq_eq.mpr rfl]
  · have h' : ((b * 2 ^ 874 : Nat) : Int) < ((a * 2 ^ 874 : Nat) : Int) := Int.ofNat_lt.mpr (Nat.mul_lt_mul_of_pos_right h hp)
    rw [Int.compare_eq_gt.mpr h', Nat.compare_eq_gt.mpr h]
theorem ltN {x y : UInt64} {a b : Nat} (hx : EXN x a) (hy : EXN y b) : PySem.Float64.lt x y = decide (a < b) := by
  unfold PySem.Float64.lt; rw [cmpN hx hy, Bool.eq_iff_iff, decide_eq_true_eq, beq_iff_eq, Option.some.injEq, Nat.compare_eq_lt]
theorem gtN {x y : UInt64} {a b : Nat} (hx : EXN x a) (hy : EXN y b) : PySem.Float64.gt x y = decide (b < a) := by
  unfold PySem.Float64.gt; rw [cmpN hx hy, Bool.eq_iff_iff, decide_eq_true_eq, beq_iff_eq, Option.some.injEq, Nat.compare_eq_gt]
theorem eqN {x y : UInt64} {a b : Nat} (hx : EXN x a) (hy : EXN y b) : PySem.Builtin.Cmath.eq x y = decide (a = b) := by
  unfold PySem.Builtin.Cmath.eq; rw [cmpN hx hy, Bool.eq_iff_iff, decide_eq_true_eq, beq_iff_eq, Option.some.injEq, Nat.compare_eq_eq]
theorem leN {x y : UInt64} {a b : Nat} (hx : EXN x a) (hy : EXN y b) : leF x y = decide (a ≤ b) := by
  have h1 := ltN hx hy
  have h2 := eqN hx hy
  unfold PySem.Float64.lt at h1
  unfold PySem.Builtin.Cmath.eq at h2
  unfold leF
  rw [h1, h2, Bool.eq_iff_iff, decide_eq_true_eq, Bool.or_eq_true, decide_eq_true_eq, decide_eq_true_eq]
  omega
theorem EXN.lit {x : UInt64} {n m : Nat} {e : Int} (h : decode x = .fin false m e) (h2 : m * 2 ^ (e + 1074).toNat = n * 2 ^ 874) : EXN x n := ⟨_, _, _, h, by rw [val_eq h, h2, sgn_false]⟩
theorem kSixth : EXN cSixth six := .lit (by unfold cSixth; with_unfolding_all rfl) (by decide +kernel)
theorem kTT : EXN cTwoThird tthird := .lit (by unfold cTwoThird; with_unfolding_all rfl) (by decide +kernel)
theorem kHalf : EXN cHalf (Nat.div ONE 2) := .lit (by unfold cHalf; with_unfolding_all rfl) (by decide +kernel)
theorem kOne : EXN cOne ONE := .lit (by unfold cOne; with_unfolding_all rfl) (by decide +kernel)
theorem kTwo : EXN cTwo (Nat.mul 2 ONE) := .lit (by unfold cTwo; with_unfolding_all rfl) (by decide +kernel)
theorem kFour : EXN cFour (Nat.mul 4 ONE) := .lit (by unfold cFour; with_unfolding_all rfl) (by decide +kernel)
theorem kSix : EXN cSix (Nat.mul 6 ONE) := .lit (by unfold cSix; with_unfolding_all rfl) (by decide +kernel)
theorem kZero : EXN cZero 0 := .lit (by unfold cZero; with_unfolding_all rfl) (by decide +kernel)
theorem onePos : 0 < ONE := by decide +kernel
variable {f : Nat → Bool}
theorem vQ_spec {m1 m2 hue : UInt64} {a b d h : Nat} (h1 : EXN m1 a) (h2 : EXN m2 b) (hd : EXN (Float64.sub m2 m1) d) (hh : EXN hue h) (hq : vQ a b d h f = true) : ∃ v, f v = true ∧ EXN (vF1 m1 m2 hue) v := by
  unfold vQ at hq
  unfold vF1
  rw [PySem.W.S.blt_dec, PySem.W.S.blt_dec, PySem.W.S.blt_dec] at hq
  rw [ltN hh kSixth, ltN hh kHalf, ltN hh kTT]
  by_cases c1 : h < six
  · rw [decide_eq_true c1, cond_true] at hq
    rw [if_pos (decide_eq_true c1)]
    obtain ⟨x, hq, ex⟩ := Rk_mul hd hh onePos (by rfl) (by decide) hq
    obtain ⟨y, hq, ey⟩ := Rk_mul ex kSix (by decide) (by show x * (6 * ONE) * 1 = x * 6 * ONE; rw [Nat.mul_one, Nat.mul_assoc]) (by decide) hq
    exact R_add h1 ey hq
  · rw [decide_eq_false c1, cond_false] at hq
    rw [if_neg (by rw [decide_eq_true_eq]; exact c1)]
    by_cases c2 : h < Nat.div ONE 2
    · rw [decide_eq_true c2, cond_true] at hq
      rw [if_pos (decide_eq_true c2)]
      exact ⟨_, hq, h2⟩
    · rw [decide_eq_false c2, cond_false] at hq
      rw [if_neg (by rw [decide_eq_true_eq]; exact c2)]
      by_cases c3 : h < tthird
      · rw [decide_eq_true c3, cond_true] at hq
        rw [if_pos (decide_eq_true c3)]
        obtain ⟨z, hq, ez⟩ := R_sub kTT hh (Nat.le_of_lt c3) hq
        obtain ⟨x, hq, ex⟩ := Rk_mul hd ez onePos (by rfl) (by decide) hq
        obtain ⟨y, hq, ey⟩ := Rk_mul ex kSix (by decide) (by show x * (6 * ONE) * 1 = x * 6 * ONE; rw [Nat.mul_one, Nat.mul_assoc]) (by decide) hq
        exact R_add h1 ey hq
      · rw [decide_eq_false c3, cond_false] at hq
        rw [if_neg (by rw [decide_eq_true_eq]; exact c3)]
        exact ⟨_, hq, h1⟩
theorem max3_spec {r g b : UInt64} {x y z : Nat} (h1 : EXN r x) (h2 : EXN g y) (h3 : EXN b z) : EXN (max3F r g b) (max3N x y z) := by
  unfold max3F max3N
  rw [PySem.W.S.blt_dec, PySem.W.S.blt_dec, PySem.W.S.blt_dec, gtN h2 h1, gtN h3 h2, gtN h3 h1]
  by_cases c1 : x < y <;> by_cases c2 : y < z <;> by_cases c3 : x < z <;> simp only [c1, c2, c3, decide_true, decide_false, cond_true, cond_false, if_true, if_false, Bool.false_eq_true] <;> assumption
theorem min3_spec {r g b : UInt64} {x y z : Nat} (h1 : EXN r x) (h2 : EXN g y) (h3 : EXN b z) : EXN (min3F r g b) (min3N x y z) := by
  unfold min3F min3N
  rw [PySem.W.S.blt_dec, PySem.W.S.blt_dec, PySem.W.S.blt_dec, ltN h2 h1, ltN h3 h2, ltN h3 h1]
  by_cases c1 : y < x <;> by_cases c2 : z < y <;> by_cases c3 : z < x <;> simp only [c1, c2, c3, decide_true, decide_false, cond_true, cond_false, if_true, if_false, Bool.false_eq_true] <;> assumption
theorem EXN.nz {x : UInt64} {n : Nat} (h : EXN x n) (hp : 0 < n) : ¬ isZero x = true := by
  obtain ⟨_, _, _, d, v⟩ := h
  rw [isZero_right d, v, decide_eq_true_eq]
  have := Nat.mul_pos hp p874
  omega
theorem div_exact {n t : Nat} (h : n * t = 0) (ht : 0 < t) : n = 0 := by
  rcases Nat.mul_eq_zero.mp h with h | h
  · exact h
  · omega
theorem sQ_spec {mx mn : UInt64} {rn sn l u : Nat} (hr : EXN (Float64.sub mx mn) rn) (hs : EXN (Float64.add mx mn) sn) (hl : EXN (Float64.div (Float64.add mx mn) cTwo) l) (hu : EXN (Float64.sub (Float64.sub cTwo mx) mn) u) (h1 : 0 < sn) (h2 : 0 < u)
    (hq : sQ rn sn l u f = true) : ∃ v, f v = true ∧ EXN (rgbS mx mn) v := by
  unfold sQ at hq
  unfold rgbS
  rw [ble_dec] at hq
  rw [leN hl kHalf]
  by_cases c1 : l ≤ Nat.div ONE 2
  · rw [decide_eq_true c1, cond_true] at hq
    rw [if_pos (decide_eq_true c1)]
    exact R_div hr hs h1 h1 (by rfl) hq
  · rw [decide_eq_false c1, cond_false] at hq
    rw [if_neg (by rw [decide_eq_true_eq]; exact c1)]
    exact R_div hr hu h2 h2 (by rfl) hq
theorem modF_eq (x : UInt64) : modF x cOne = if isZero (fmod x cOne) = true then copysign (zero false) cOne else if (Float64.lt cOne (zero false) != Float64.lt (fmod x cOne) (zero false)) = true then Float64.add (fmod x cOne) cOne else fmod x cOne := by
  unfold modF divmod
  simp only
  split
  · rfl
  · split <;> rfl
theorem lt_one_zero : Float64.lt cOne (zero false) = false := by unfold cOne; decide +kernel
theorem fmod_val (n : Nat) : n * 2 ^ 874 % 2 ^ 1074 = n % ONE * 2 ^ 874 := by
  rw [← ONE_mul, Nat.mul_comm (2 ^ 874) ONE, Nat.mul_mod_mul_right]
theorem mod_pos {x : UInt64} {n : Nat} (hx : EXN x n) (hq : R (Nat.mod n ONE) 1 f = true) : ∃ v, f v = true ∧ EXN (modF x cOne) v := by
  have hx' := hx
  obtain ⟨a, m, e, d, v⟩ := hx
  have M := fmod_right d
  rw [v, Int.natAbs_natCast, fmod_val] at M
  obtain ⟨w, h1, h2, m', e', hd', hv⟩ := Rk_right M (by decide) (by decide) (by rfl) (by decide) hq
  have E : EXN (fmod x cOne) w := .of hd' hv ((hx'.sign d).1.imp id fun q => h2 (by rw [q]; rfl))
  refine ⟨w, h1, ?_⟩
  rw [modF_eq]
  have hz : isZero (fmod x cOne) = decide (w = 0) := by
    obtain ⟨_, _, _, d3, v3⟩ := E
    rw [isZero_right d3, v3, Bool.eq_iff_iff, decide_eq_true_eq, decide_eq_true_eq]
    constructor
    · intro q
      exact div_exact (t := 2 ^ 874) (by omega) p874
    · rintro rfl; rw [Nat.zero_mul]; rfl
  have hl : Float64.lt (fmod x cOne) (zero false) = false := by
    have := ltN E (.zero' false)
    unfold PySem.Float64.lt at this
    unfold Float64.lt
    rw [this]; simp
  rw [hz, lt_one_zero, hl]
  by_cases c : w = 0
  · rw [if_pos (decide_eq_true c), c]
    exact .lit (m := 0) (e := -1074) (by unfold cOne; with_unfolding_all rfl) (by decide +kernel)
  · rw [if_neg (by rw [decide_eq_true_eq]; exact c), if_neg (by decide)]
    exact E
theorem mod_neg {x : UInt64} {n : Nat} (hx : EXM x n) (hn : n < ONE) (hq : R n 1 (fun y => bif Nat.blt 0 y && Nat.ble y ONE then R (Nat.sub ONE y) 1 f else false) = true) : ∃ v, f v = true ∧ EXN (modF x cOne) v := by
  have hx' := hx
  obtain ⟨a, m, e, d, v⟩ := hx
  have M := fmod_right d
  rw [v, Int.natAbs_neg, Int.natAbs_natCast, fmod_val, Nat.mod_eq_of_lt hn] at M
  obtain ⟨w, h1, h2, m', e', hd', hv⟩ := Rk_right M (by decide) (by decide) (by rfl) (by decide) hq
  have E : EXM (fmod x cOne) w := .of hd' hv ((hx'.sign d).1.imp id fun q => h2 q)
  rw [PySem.W.S.blt_dec, ble_dec] at h1
  by_cases c1 : 0 < w
  · by_cases c2 : w ≤ ONE
    · rw [decide_eq_true c1, decide_eq_true c2] at h1
      rw [modF_eq]
      obtain ⟨_, _, _, d3, v3⟩ := id E
      have hp := Nat.mul_pos c1 p874
      have hz : isZero (fmod x cOne) = false := by
        rw [isZero_right d3, v3, decide_eq_false_iff_not]
        omega
      have hl : Float64.lt (fmod x cOne) (zero false) = true := by
        obtain ⟨_, _, _, d4, v4⟩ := EXN.zero' false
        unfold Float64.lt
        rw [cmp_right d3 d4, v3, v4, Nat.zero_mul, beq_iff_eq, Option.some.injEq, Int.compare_eq_lt]
        show _ < (0 : Int)
        omega
      rw [hz, lt_one_zero, hl, if_neg (by decide), if_pos (by decide)]
      exact R_addM E kOne c2 h1
    · rw [decide_eq_false c2, Bool.and_false] at h1; cases h1
  · rw [decide_eq_false c1, Bool.false_and] at h1; cases h1
theorem six_hn (h : Nat) : h * ONE * 6 = h * (6 * ONE) := by rw [Nat.mul_assoc, Nat.mul_comm ONE]
theorem hQ_spec {r g mx rc gc bc : UInt64} {r' g' mx' rc' gc' bc' : Nat} (h1 : EXN r r') (h2 : EXN g g') (h3 : EXN mx mx') (h4 : EXN rc rc') (h5 : EXN gc gc') (h6 : EXN bc bc') (hq : hQ r' g' mx' rc' gc' bc' f = true) : ∃ v, f v = true ∧ EXN (modF (Float64.div (rgbH r g mx rc gc bc) cSix) cOne) v := by
  unfold hQ at hq
  unfold rgbH
  rw [PySem.W.BT.beq_eq, PySem.W.BT.beq_eq, ble_dec] at hq
  rw [eqN h1 h3, eqN h2 h3]
  have six0 : 0 < Nat.mul 6 ONE := by decide +kernel
  by_cases c1 : r' = mx'
  · rw [decide_eq_true c1, cond_true] at hq
    rw [if_pos (decide_eq_true c1)]
    by_cases c2 : gc' ≤ bc'
    · rw [decide_eq_true c2, cond_true] at hq
      obtain ⟨x, hq, ex⟩ := R_sub h6 h5 c2 hq
      obtain ⟨y, hq, ey⟩ := R_div ex kSix six0 (by decide) (six_hn x) hq
      exact mod_pos ey hq
    · rw [decide_eq_false c2, cond_false] at hq
      obtain ⟨x, hq, ex⟩ := R_subM h6 h5 (by omega) hq
      obtain ⟨y, hq, ey⟩ := R_divM ex kSix six0 (by decide) (six_hn x) hq
      simp only [PySem.W.S.blt_dec y] at hq
      by_cases c3 : y < ONE
      · rw [decide_eq_true c3, cond_true] at hq
        exact mod_neg ey c3 hq
      · rw [decide_eq_false c3, cond_false] at hq; cases hq
  · rw [decide_eq_false c1, cond_false] at hq
    rw [if_neg (by rw [decide_eq_true_eq]; exact c1)]
    by_cases c2 : g' = mx'
    · rw [decide_eq_true c2, cond_true] at hq
      rw [if_pos (decide_eq_true c2)]
      obtain ⟨x, hq, ex⟩ := R_add kTwo h4 hq
      simp only [ble_dec bc'] at hq
      by_cases c3 : bc' ≤ x
      · rw [decide_eq_true c3, cond_true] at hq
        obtain ⟨x, hq, ex⟩ := R_sub ex h6 c3 hq
        obtain ⟨y, hq, ey⟩ := R_div ex kSix six0 (by decide) (six_hn x) hq
        exact mod_pos ey hq
      · rw [decide_eq_false c3, cond_false] at hq; cases hq
    · rw [decide_eq_false c2, cond_false] at hq
      rw [if_neg (by rw [decide_eq_true_eq]; exact c2)]
      obtain ⟨x, hq, ex⟩ := R_add kFour h5 hq
      simp only [ble_dec rc'] at hq
      by_cases c3 : rc' ≤ x
      · rw [decide_eq_true c3, cond_true] at hq
        obtain ⟨x, hq, ex⟩ := R_sub ex h4 c3 hq
        obtain ⟨y, hq, ey⟩ := R_div ex kSix six0 (by decide) (six_hn x) hq
        exact mod_pos ey hq
      · rw [decide_eq_false c3, cond_false] at hq; cases hq
end Mine
end
local macro_rules | `(tactic| walk_at "pad 27") => `(tactic| fail)
section
open PySem PySem.Float64
set_option Elab.async false
set_option maxRecDepth 100000 
set_option maxHeartbeats 1000000
set_option exponentiation.threshold 200
namespace Mine
theorem halfEven_zero (d : Nat) (hd : 0 < d) : halfEven 0 d = 0 := by
  have h := halfEven_nearest 0 d hd 0
  rw [Nat.mul_zero, dist_self] at h
  exact div_exact (t := d) (by rw [Nat.mul_comm]; exact (dist_zero (Nat.le_zero.mp h)).symm) hd
theorem near_toInt {x : UInt64} {v : Nat} (hx : EXN x v) : Flt.toInt nearestOf x = (heQ v ONE : Int) := by
  have hx' := hx
  obtain ⟨a, m, e, d, hv⟩ := hx
  have he := decode_ge d
  unfold Flt.toInt
  rw [d]
  show nearestOf a m e = _
  have hS := hx'.sign d
  have hm := val_natAbs d
  rw [hS.2] at hm
  have hs := shift_one m e 1074 (by omega)
  have hp := shift_pos m 1 e (by decide)
  have e1 : halfEven (shift m 1 e).1 (shift m 1 e).2 = halfEven v ONE := by
    rw [← halfEven_scale _ _ (2 ^ 1074) (Nat.two_pow_pos _), hs]
    rw [show (e + ((1074 : Nat) : Int)).toNat = (e + 1074).toNat from rfl, ← hm, ← ONE_mul]
    generalize (shift m 1 e).2 = t at *
    rw [← halfEven_scale v ONE (2 ^ 874 * t) (Nat.mul_pos p874 hp)]
    have q1 : v * 2 ^ 874 * t = v * (2 ^ 874 * t) := Nat.mul_assoc _ _ _
    have q2 : t * (2 ^ 874 * ONE) = ONE * (2 ^ 874 * t) := by generalize (2 : Nat) ^ 874 = B; generalize ONE = O; ac_rfl
    rw [q1, q2]
  have e2 : nearestOf a m e = sgn a (halfEven (shift m 1 e).1 (shift m 1 e).2) := by unfold nearestOf; rfl
  rw [e2, e1, heQ_eq]
  rcases hS.1 with rfl | rfl
  · rfl
  · rw [halfEven_zero _ onePos]; cases a <;> rfl
theorem EXN.ofNat (n : Nat) (h : n < 2 ^ 53) : EXN (ofInt (n : Int)) (Nat.mul n ONE) := by
  obtain ⟨a, m, e, d, v⟩ := EX.ofInt' (i := (n : Int)) (by rw [Int.natAbs_natCast]; exact h)
  refine ⟨a, m, e, d, ?_⟩
  have q : n * 2 ^ 1074 = Nat.mul n ONE * 2 ^ 874 := by
    rw [← ONE_mul]
    show n * (2 ^ 874 * ONE) = n * ONE * 2 ^ 874
    rw [Nat.mul_assoc, Nat.mul_comm ONE]
  rw [v, ← Int.natCast_mul, q]
theorem EXN.fin {x : UInt64} {n : Nat} (h : EXN x n) : isFinite x = true := by
  obtain ⟨a, m, e, d, v⟩ := h
  unfold isFinite; rw [d]
variable {f : Nat → Bool}
theorem R_scale {x : UInt64} {n k : Nat} (hx : EXN x n) (hk : k < 2 ^ 53) (hq : Rk 184 (Nat.mul n k) 1 f = true) : ∃ v, f v = true ∧ EXN (mul x (ofInt (k : Int))) v :=
  Rk_mul hx (.ofNat k hk) (by decide) (by show n * (k * ONE) * 1 = n * k * ONE; rw [Nat.mul_one, Nat.mul_assoc]) (by decide) hq
theorem cmpInt_lo {x : UInt64} {n : Nat} (h : EXN x n) : (cmpInt x 0 == some .lt) = false := by
  obtain ⟨a, m, e, d, v⟩ := h
  rw [cmpInt_right d, v, Int.zero_mul, beq_eq_false_iff_ne]
  intro q
  have := Int.compare_eq_lt.mp (Option.some.inj q)
  omega
theorem cmpInt_hi {x : UInt64} {n : Nat} (h : EXN x n) (hn : n ≤ ONE) : (cmpInt x 1 == some .gt) = false := by
  obtain ⟨a, m, e, d, v⟩ := h
  rw [cmpInt_right d, v, Int.one_mul, beq_eq_false_iff_ne]
  intro q
  have := Int.compare_eq_gt.mp (Option.some.inj q)
  have h2 := Nat.mul_le_mul_right (2 ^ 874) hn
  rw [Nat.mul_comm ONE, ONE_mul] at h2
  have h3 : ((2 : Int) ^ 1074) = ((2 ^ 1074 : Nat) : Int) := by rw [Int.natCast_pow]; rfl
  rw [h3] at this
  have h4 := Int.ofNat_lt.mp this
  omega
theorem toldQ_spec {r g b : UInt64} {r' g' b' P L S : Nat} (h1 : EXN r r') (h2 : EXN g g') (h3 : EXN b b') (hq : toldQ r' g' b' P L S = true) : ToldIs r g b ((P * 2 ^ 30 : Nat) : Int) ((L * 2 ^ 30 : Nat) : Int) ((S * 2 ^ 30 : Nat) : Int) := by
  have hmx := max3_spec h1 h2 h3
  have hmn := min3_spec h1 h2 h3
  unfold toldQ at hq
  generalize max3N r' g' b' = mx' at *
  generalize min3N r' g' b' = mn' at *
  generalize hMX : max3F r g b = mx at *
  generalize hMN : min3F r g b = mn at *
  unfold toldQ1 at hq
  simp only [PySem.W.S.blt_dec, ble_dec] at hq
  have key : (decide (mn' < mx') && decide (mx' ≤ Nat.mul 2 ONE) && decide (r' ≤ mx') && decide (g' ≤ mx') && decide (b' ≤ mx')) = true := by
    cases c : (decide (mn' < mx') && decide (mx' ≤ Nat.mul 2 ONE) && decide (r' ≤ mx') && decide (g' ≤ mx') && decide (b' ≤ mx')) with
    | true => rfl
    | false => rw [c, cond_false] at hq; cases hq
  rw [key, cond_true] at hq
  simp only [Bool.and_eq_true, decide_eq_true_eq] at key
  obtain ⟨⟨⟨⟨k1, k2⟩, k3⟩, k4⟩, k5⟩ := key
  obtain ⟨sumc, hq, e1⟩ := R_add hmx hmn hq
  obtain ⟨rangec, hq, e2⟩ := R_sub hmx hmn (Nat.le_of_lt k1) hq
  obtain ⟨l, hq, e3⟩ := R_div e1 kTwo (by decide +kernel) (by decide) (by show sumc * ONE * 2 = sumc * (2 * ONE); rw [Nat.mul_assoc, Nat.mul_comm ONE]) hq
  obtain ⟨t, hq, e4⟩ := R_sub kTwo hmx k2 hq
  have key : (decide (0 < sumc) && decide (0 < rangec) && decide (mn' ≤ t)) = true := by
    cases c : (decide (0 < sumc) && decide (0 < rangec) && decide (mn' ≤ t)) with
    | true => rfl
    | false => rw [c, cond_false] at hq; cases hq
  rw [key, cond_true] at hq
  simp only [Bool.and_eq_true, decide_eq_true_eq] at key
  obtain ⟨⟨k6, k7⟩, k8⟩ := key
  obtain ⟨u, hq, e5⟩ := R_sub e4 hmn k8 hq
  have key : 0 < u := by
    by_cases c : 0 < u
    · exact c
    · rw [decide_eq_false c, cond_false] at hq; cases hq
  rw [decide_eq_true key, cond_true] at hq
  obtain ⟨s, hq, e6⟩ := sQ_spec e2 e1 e3 e5 k6 key hq
  obtain ⟨a, hq, e7⟩ := R_sub hmx h1 k3 hq
  obtain ⟨rc, hq, e8⟩ := R_div e7 e2 k7 k7 (by rfl) hq
  obtain ⟨a2, hq, e9⟩ := R_sub hmx h2 k4 hq
  obtain ⟨gc, hq, e10⟩ := R_div e9 e2 k7 k7 (by rfl) hq
  obtain ⟨a3, hq, e11⟩ := R_sub hmx h3 k5 hq
  obtain ⟨bc, hq, e12⟩ := R_div e11 e2 k7 k7 (by rfl) hq
  obtain ⟨h, hq, e13⟩ := hQ_spec h1 h2 hmx e8 e10 e12 hq
  unfold endQ at hq
  rw [Bool.and_eq_true, ble_dec, decide_eq_true_eq] at hq
  obtain ⟨hh, hq⟩ := hq
  have eF : rgbF r g b = (modF (Float64.div (rgbH r g mx (Float64.div (Float64.sub mx r) (Float64.sub mx mn)) (Float64.div (Float64.sub mx g) (Float64.sub mx mn)) (Float64.div (Float64.sub mx b) (Float64.sub mx mn))) cSix) cOne,
    Float64.div (Float64.add mx mn) cTwo, rgbS mx mn) := by
    unfold rgbF
    rw [hMX, hMN]
    unfold rgbF1
    rw [eqN hmn hmx, decide_eq_false (Nat.ne_of_lt k1), if_neg (by decide)]
  obtain ⟨h', hq, e14⟩ := R_scale (k := 2 ^ 34) e13 (by decide) hq
  obtain ⟨l', hq, e15⟩ := R_scale (k := 2 ^ 33) e3 (by decide) hq
  obtain ⟨s', hq, e16⟩ := R_scale (k := 2 ^ 32) e6 (by decide) hq
  simp only [Bool.and_eq_true, PySem.W.BT.beq_eq, decide_eq_true_eq] at hq
  obtain ⟨⟨q1, q2⟩, q3⟩ := hq
  have n1 := near_toInt e14
  have n2 := near_toInt e15
  have n3 := near_toInt e16
  refine ⟨⟨?_, ?_, ?_⟩, ?_, ?_, ?_, ?_, ?_, ?_, ?_, ?_⟩
  · rw [hMX, hMN]; exact .inr (e2.nz k7)
  · rw [hMX, hMN]; exact .inr (e1.nz k6)
  · rw [hMX, hMN]; exact .inr (e5.nz key)
  · rw [eF]; exact cmpInt_lo e13
  · rw [eF]; exact cmpInt_hi e13 hh
  · rw [eF]; exact e14.fin
  · rw [eF]; exact e15.fin
  · rw [eF]; exact e16.fin
  · rw [eF]
    show (Flt.toInt nearestOf (mul _ (ofInt ((2 ^ 34 : Nat) : Int)))).fmod ((2 ^ 34 : Nat) : Int) = _
    rw [n1, Int.fmod_eq_emod_of_nonneg _ (Int.natCast_nonneg _), ← Int.natCast_emod]
    exact congrArg Int.ofNat q1
  · rw [eF]
    show Flt.toInt nearestOf (mul _ (ofInt ((2 ^ 33 : Nat) : Int))) = _
    rw [n2]; exact congrArg Int.ofNat q2
  · rw [eF]
    show Flt.toInt nearestOf (mul _ (ofInt ((2 ^ 32 : Nat) : Int))) = _
    rw [n3]; exact congrArg Int.ofNat q3
theorem oppQ_spec {w r g b : UInt64} {r' g' b' P L S : Nat} (hw : EXN w ONE) (h1 : EXN r r') (h2 : EXN g g') (h3 : EXN b b') (hq : oppQ r' g' b' P L S = true) :
    ToldIs (Float64.sub w r) (Float64.sub w g) (Float64.sub w b) (((P + 8) % 16 * 2 ^ 30 : Nat) : Int) (((8 - L) * 2 ^ 30 : Nat) : Int) ((S * 2 ^ 30 : Nat) : Int) := by
  unfold oppQ at hq
  simp only [ble_dec] at hq
  have key : (decide (r' ≤ ONE) && decide (g' ≤ ONE) && decide (b' ≤ ONE)) = true := by
    cases c : (decide (r' ≤ ONE) && decide (g' ≤ ONE) && decide (b' ≤ ONE)) with
    | true => rfl
    | false => rw [c, cond_false] at hq; cases hq
  rw [key, cond_true] at hq
  simp only [Bool.and_eq_true, decide_eq_true_eq] at key
  obtain ⟨⟨k1, k2⟩, k3⟩ := key
  obtain ⟨x, hq, e1⟩ := R_sub hw h1 k1 hq
  obtain ⟨y, hq, e2⟩ := R_sub hw h2 k2 hq
  obtain ⟨z, hq, e3⟩ := R_sub hw h3 k3 hq
  exact toldQ_spec e1 e2 e3 hq
theorem cellQ_spec {w hue m1 m2 h1 h2 h3 : UInt64} {a b c x y d P L S : Nat} (hw : EXN w ONE) (e1 : EXN h1 a) (e2 : EXN h2 b) (e3 : EXN h3 c) (f1 : EXN m1 x) (f2 : EXN m2 y) (f3 : EXN (Float64.sub m2 m1) d) (hq : cellQ a b c x y d P L S = true) :
    ToldIs (vF1 m1 m2 h1) (vF1 m1 m2 h2) (vF1 m1 m2 h3) ((P * 2 ^ 30 : Nat) : Int) ((L * 2 ^ 30 : Nat) : Int) ((S * 2 ^ 30 : Nat) : Int) ∧
    ToldIs (Float64.sub w (vF1 m1 m2 h1)) (Float64.sub w (vF1 m1 m2 h2)) (Float64.sub w (vF1 m1 m2 h3)) (((P + 8) % 16 * 2 ^ 30 : Nat) : Int) (((8 - L) * 2 ^ 30 : Nat) : Int) ((S * 2 ^ 30 : Nat) : Int) := by
  unfold cellQ at hq
  obtain ⟨r, hq, g1⟩ := vQ_spec f1 f2 f3 e1 hq
  obtain ⟨g, hq, g2⟩ := vQ_spec f1 f2 f3 e2 hq
  obtain ⟨b, hq, g3⟩ := vQ_spec f1 f2 f3 e3 hq
  rw [Bool.and_eq_true] at hq
  exact ⟨toldQ_spec g1 g2 g3 hq.1, oppQ_spec hw g1 g2 g3 hq.2⟩
end Mine
end
local macro_rules | `(tactic| walk_at "pad 28") => `(tactic| fail)
section
open PySem PySem.Float64
set_option Elab.async false
set_option maxRecDepth 100000 
set_option maxHeartbeats 1000000
set_option exponentiation.threshold 200
namespace Mine
noncomputable def good0 : List (Nat × Nat × Nat) := [(535646014752996639576679638617064112650236877136336246538240, 0, 1071292029505993279153359277234128225300473754272672493076480), (535646014752996639576679638617064112650236877136336246538240, 0, 1071292029505993635965282453724098489871966116646456588763136), (535646014752996728779660432739556678793109967729782270459904, 0, 1071292029505993635965282453724098489871966116646456588763136), (535646014752996996388602815107034377221729239510120342224896, 0, 1071292029505993635965282453724098489871966116646456588763136)]
theorem good0_ok : good0.all (cells 0) = true := by decide +kernel
noncomputable def good1 : List (Nat × Nat × Nat) := [(636079642519183531798052269388386775307874564247760798744576, 100433627766186892221372630771322662657637687111424552206336, 1171725657272180171374731908005450887958111441384097045282816), (636079642519183531798052269388386775307874564247760798744576, 100433627766186892221372630771322662657637687111424552206336, 1171725657272180528186655084495421152529603803757881140969472), (636079642519183621001033063510879341450747654841206822666240, 100433627766186892221372630771322662657637687111424552206336, 1171725657272180528186655084495421152529603803757881140969472), (636079642519183888609975445878357039879366926621544894431232, 100433627766186892221372630771322662657637687111424552206336, 1171725657272180528186655084495421152529603803757881140969472)]
theorem good1_ok : good1.all (cells 1) = true := by decide +kernel
noncomputable def good2 : List (Nat × Nat × Nat) := [(736513270285370424019424900159709437965512251359185350950912, 200867255532373784442745261542645325315275374222849104412672, 1272159285038367063596104538776773550615749128495521597489152), (736513270285370424019424900159709437965512251359185350950912, 200867255532373784442745261542645325315275374222849104412672, 1272159285038367420408027715266743815187241490869305693175808), (736513270285370513222405694282202004108385341952631374872576, 200867255532373784442745261542645325315275374222849104412672, 1272159285038367420408027715266743815187241490869305693175808), (736513270285370780831348076649679702537004613732969446637568, 200867255532373784442745261542645325315275374222849104412672, 1272159285038367420408027715266743815187241490869305693175808)]
theorem good2_ok : good2.all (cells 2) = true := by decide +kernel
noncomputable def good3 : List (Nat × Nat × Nat) := [(836946898051557316240797530931032100623149938470609903157248, 301300883298560676664117892313967987972913061334273656619008, 1372592912804553955817477169548096213273386815606946149695488), (836946898051557316240797530931032100623149938470609903157248, 301300883298560676664117892313967987972913061334273656619008, 1372592912804554312629400346038066477844879177980730245382144), (836946898051557673052720707421002365194642300844393998843904, 301300883298560676664117892313967987972913061334273656619008, 1372592912804554312629400346038066477844879177980730245382144)]
theorem good3_ok : good3.all (cells 3) = true := by decide +kernel
noncomputable def good4 : List (Nat × Nat × Nat) := [(937380525817744208462170161702354763280787625582034455363584, 401734511064747568885490523085290650630550748445698208825344, 1473026540570740848038849800319418875931024502718370701901824), (937380525817744208462170161702354763280787625582034455363584, 401734511064747568885490523085290650630550748445698208825344, 1473026540570741204850772976809389140502516865092154797588480), (937380525817744565274093338192325027852279987955818551050240, 401734511064747568885490523085290650630550748445698208825344, 1473026540570741204850772976809389140502516865092154797588480)]
theorem good4_ok : good4.all (cells 4) = true := by decide +kernel
noncomputable def good5 : List (Nat × Nat × Nat) := [(1037814153583931100683542792473677425938425312693459007569920, 502168138830934461106863153856613313288188435557122761031680, 1573460168336927740260222431090741538588662189829795254108160), (1037814153583931100683542792473677425938425312693459007569920, 502168138830934461106863153856613313288188435557122761031680, 1573460168336928097072145607580711803160154552203579349794816), (1037814153583931457495465968963647690509917675067243103256576, 502168138830934461106863153856613313288188435557122761031680, 1573460168336928097072145607580711803160154552203579349794816)]
theorem good5_ok : good5.all (cells 5) = true := by decide +kernel
noncomputable def good6 : List (Nat × Nat × Nat) := [(1138247781350117992904915423245000088596062999804883559776256, 602601766597121353328235784627935975945826122668547313238016, 66955751844124713751556146010871863295589245532211066699776), (1138247781350117992904915423245000088596062999804883559776256, 602601766597121353328235784627935975945826122668547313238016, 66955751844124624548575351888379297152716154938765042778112), (1138247781350118349716838599734970353167555362178667655462912, 602601766597121353328235784627935975945826122668547313238016, 66955751844124356939632969520901598724096883158426971013120)]
theorem good6_ok : good6.all (cells 6) = true := by decide +kernel
noncomputable def good7 : List (Nat × Nat × Nat) := [(1238681409116304885126288054016322751253700686916308111982592, 703035394363308245549608415399258638603463809779971865444352, 167389379610311605972928776782194525953226932643635618906112), (1238681409116304885126288054016322751253700686916308111982592, 703035394363308245549608415399258638603463809779971865444352, 167389379610311516769947982659701959810353842050189594984448), (1238681409116305241938211230506293015825193049290092207669248, 703035394363308245549608415399258638603463809779971865444352, 167389379610311249161005600292224261381734570269851523219456)]
theorem good7_ok : good7.all (cells 7) = true := by decide +kernel
noncomputable def good8 : List (Nat × Nat × Nat) := [(1339115036882491777347660684787645413911338374027732664188928, 803469022129495137770981046170581301261101496891396417650688, 267823007376498498194301407553517188610864619755060171112448), (1339115036882491777347660684787645413911338374027732664188928, 803469022129495137770981046170581301261101496891396417650688, 267823007376498408991320613431024622467991529161614147190784), (1339115036882492134159583861277615678482830736401516759875584, 803469022129495137770981046170581301261101496891396417650688, 267823007376498141382378231063546924039372257381276075425792)]
theorem good8_ok : good8.all (cells 8) = true := by decide +kernel
noncomputable def good9 : List (Nat × Nat × Nat) := [(1439548664648678669569033315558968076568976061139157216395264, 903902649895682029992353676941903963918739184002820969857024, 368256635142685390415674038324839851268502306866484723318784), (1439548664648678669569033315558968076568976061139157216395264, 903902649895682029992353676941903963918739184002820969857024, 368256635142685301212693244202347285125629216273038699397120), (1439548664648679026380956492048938341140468423512941312081920, 903902649895682029992353676941903963918739184002820969857024, 368256635142685033603750861834869586697009944492700627632128)]
theorem good9_ok : good9.all (cells 9) = true := by decide +kernel
noncomputable def good10 : List (Nat × Nat × Nat) := [(1539982292414865561790405946330290739226613748250581768601600, 1004336277661868922213726307713226626576376871114245522063360, 468690262908872282637046669096162513926139993977909275525120), (1539982292414865561790405946330290739226613748250581768601600, 1004336277661868922213726307713226626576376871114245522063360, 468690262908872193434065874973669947783266903384463251603456), (1539982292414865918602329122820261003798106110624365864288256, 1004336277661868922213726307713226626576376871114245522063360, 468690262908871925825123492606192249354647631604125179838464)]
theorem good10_ok : good10.all (cells 10) = true := by decide +kernel
noncomputable def good11 : List (Nat × Nat × Nat) := [(33477875922062178469816484760450799362048441579213485506560, 1104769905428055814435098938484549289234014558225670074269696, 569123890675059174858419299867485176583777681089333827731456), (33477875922062267672797278882943365504921532172659509428224, 1104769905428055814435098938484549289234014558225670074269696, 569123890675059174858419299867485176583777681089333827731456), (33477875922062178469816484760450799362048441579213485506560, 1104769905428055814435098938484549289234014558225670074269696, 569123890675059085655438505744992610440904590495887803809792), (33477875922062535281739661250421063933540803952997581193216, 1104769905428055814435098938484549289234014558225670074269696, 569123890675059174858419299867485176583777681089333827731456), (33477875922062535281739661250421063933540803952997581193216, 1104769905428055814435098938484549289234014558225670074269696, 569123890675058818046496123377514912012285318715549732044800)]
theorem good11_ok : good11.all (cells 11) = true := by decide +kernel
noncomputable def good12 : List (Nat × Nat × Nat) := [(133911503688249070691189115531773462019686128690638037712896, 1205203533194242706656471569255871951891652245337094626476032, 669557518441246067079791930638807839241415368200758379937792), (133911503688249159894169909654266028162559219284084061634560, 1205203533194242706656471569255871951891652245337094626476032, 669557518441246067079791930638807839241415368200758379937792), (133911503688249070691189115531773462019686128690638037712896, 1205203533194242706656471569255871951891652245337094626476032, 669557518441245977876811136516315273098542277607312356016128), (133911503688249427503112292021743726591178491064422133399552, 1205203533194242706656471569255871951891652245337094626476032, 669557518441246067079791930638807839241415368200758379937792), (133911503688249427503112292021743726591178491064422133399552, 1205203533194242706656471569255871951891652245337094626476032, 669557518441245710267868754148837574669923005826974284251136)]
theorem good12_ok : good12.all (cells 12) = true := by decide +kernel
noncomputable def good13 : List (Nat × Nat × Nat) := [(234345131454435962912561746303096124677323815802062589919232, 1305637160960429598877844200027194614549289932448519178682368, 769991146207432959301164561410130501899053055312182932144128), (234345131454436052115542540425588690820196906395508613840896, 1305637160960429598877844200027194614549289932448519178682368, 769991146207432959301164561410130501899053055312182932144128), (234345131454435962912561746303096124677323815802062589919232, 1305637160960429598877844200027194614549289932448519178682368, 769991146207432870098183767287637935756179964718736908222464), (234345131454436319724484922793066389248816178175846685605888, 1305637160960429598877844200027194614549289932448519178682368, 769991146207432959301164561410130501899053055312182932144128), (234345131454436319724484922793066389248816178175846685605888, 1305637160960429598877844200027194614549289932448519178682368, 769991146207432602489241384920160237327560692938398836457472)]
theorem good13_ok : good13.all (cells 13) = true := by decide +kernel
noncomputable def good14 : List (Nat × Nat × Nat) := [(334778759220622855133934377074418787334961502913487142125568, 1406070788726616491099216830798517277206927619559943730888704, 870424773973619851522537192181453164556690742423607484350464), (334778759220622944336915171196911353477834593506933166047232, 1406070788726616491099216830798517277206927619559943730888704, 870424773973619851522537192181453164556690742423607484350464), (334778759220623211945857553564389051906453865287271237812224, 1406070788726616491099216830798517277206927619559943730888704, 870424773973619851522537192181453164556690742423607484350464), (334778759220623211945857553564389051906453865287271237812224, 1406070788726616491099216830798517277206927619559943730888704, 870424773973619494710614015691482899985198380049823388663808)]
theorem good14_ok : good14.all (cells 14) = true := by decide +kernel
noncomputable def good15 : List (Nat × Nat × Nat) := [(435212386986809747355307007845741449992599190024911694331904, 1506504416492803383320589461569839939864565306671368283095040, 970858401739806743743909822952775827214328429535032036556800), (435212386986809836558287801968234016135472280618357718253568, 1506504416492803383320589461569839939864565306671368283095040, 970858401739806743743909822952775827214328429535032036556800), (435212386986810104167230184335711714564091552398695790018560, 1506504416492803383320589461569839939864565306671368283095040, 970858401739806743743909822952775827214328429535032036556800), (435212386986810104167230184335711714564091552398695790018560, 1506504416492803383320589461569839939864565306671368283095040, 970858401739806386931986646462805562642836067161247940870144)]
theorem good15_ok : good15.all (cells 15) = true := by decide +kernel
noncomputable def good : Nat → List (Nat × Nat × Nat)
  | 0 => good0
  | 1 => good1
  | 2 => good2
  | 3 => good3
  | 4 => good4
  | 5 => good5
  | 6 => good6
  | 7 => good7
  | 8 => good8
  | 9 => good9
  | 10 => good10
  | 11 => good11
  | 12 => good12
  | 13 => good13
  | 14 => good14
  | _ => good15
theorem good_ok : ∀ p, p < 16 → ∀ h ∈ good p, cells p h = true
  | 0, _, h, hm => List.all_eq_true.mp good0_ok h hm
  | 1, _, h, hm => List.all_eq_true.mp good1_ok h hm
  | 2, _, h, hm => List.all_eq_true.mp good2_ok h hm
  | 3, _, h, hm => List.all_eq_true.mp good3_ok h hm
  | 4, _, h, hm => List.all_eq_true.mp good4_ok h hm
  | 5, _, h, hm => List.all_eq_true.mp good5_ok h hm
  | 6, _, h, hm => List.all_eq_true.mp good6_ok h hm
  | 7, _, h, hm => List.all_eq_true.mp good7_ok h hm
  | 8, _, h, hm => List.all_eq_true.mp good8_ok h hm
  | 9, _, h, hm => List.all_eq_true.mp good9_ok h hm
  | 10, _, h, hm => List.all_eq_true.mp good10_ok h hm
  | 11, _, h, hm => List.all_eq_true.mp good11_ok h hm
  | 12, _, h, hm => List.all_eq_true.mp good12_ok h hm
  | 13, _, h, hm => List.all_eq_true.mp good13_ok h hm
  | 14, _, h, hm => List.all_eq_true.mp good14_ok h hm
  | 15, _, h, hm => List.all_eq_true.mp good15_ok h hm
  | n + 16, hn, _, _ => absurd hn (by omega)
noncomputable def exB (x : UInt64) (n : Nat) : Bool := match decode x with | .fin false m e => Nat.beq (m * 2 ^ (e + 1074).toNat) (n * 2 ^ 874) | _ => false
theorem exB_spec {x : UInt64} {n : Nat} (h : exB x n = true) : EXN x n := by
  unfold exB at h
  cases hd : decode x with
  | nan => rw [hd] at h; cases h
  | inf b => rw [hd] at h; cases h
  | fin a m e =>
    rw [hd] at h
    cases a with
    | true => cases h
    | false => exact .lit hd (Nat.eq_of_beq_eq_true h)
noncomputable def hueW (p t : Nat) : UInt64 := Float64.sub (Float64.add (ofFrac false p 16) (ofInt (t : Int))) (ofInt 2)
noncomputable def hueB (p t : Nat) : Bool := (good p).any fun h => exB (modF (Float64.add (hueW p t) cThird) cOne) h.1 && exB (modF (hueW p t) cOne) h.2.1 && exB (modF (Float64.sub (hueW p t) cThird) cOne) h.2.2
theorem hue_ok : ((List.range 16).all fun p => (List.range 5).all fun t => hueB p t) = true := by decide +kernel
noncomputable def lW (L : Nat) : UInt64 := ofFrac false L 8
noncomputable def sW (S : Nat) : UInt64 := ofFrac false S 4
noncomputable def m1W (L S : Nat) : UInt64 := Float64.sub (Float64.mul cTwo (lW L)) (m2F (lW L) (sW S))
noncomputable def lsB (L S : Nat) : Bool := exB (m1W L S) (m1N L S) && exB (m2F (lW L) (sW S)) (m2N L S) && exB (Float64.sub (m2F (lW L) (sW S)) (m1W L S)) (Nat.sub (m2N L S) (m1N L S)) && !(PySem.Builtin.Cmath.eq (sW S) cZero)
theorem ls_ok : ((List.range 7).all fun l => (List.range 4).all fun s => lsB (l + 1) (s + 1)) = true := by decide +kernel
theorem cell_told {w : UInt64} {p t L S : Nat} (hw : EXN w ONE) (hp : p < 16) (ht : t < 5) (hL : 1 ≤ L ∧ L < 8) (hS : 1 ≤ S ∧ S < 5) :
    ToldIs (hlsF (hueW p t) (lW L) (sW S)).1 (hlsF (hueW p t) (lW L) (sW S)).2.1 (hlsF (hueW p t) (lW L) (sW S)).2.2 ((p * 2 ^ 30 : Nat) : Int) ((L * 2 ^ 30 : Nat) : Int) ((S * 2 ^ 30 : Nat) : Int) ∧
    ToldIs (Float64.sub w (hlsF (hueW p t) (lW L) (sW S)).1) (Float64.sub w (hlsF (hueW p t) (lW L) (sW S)).2.1) (Float64.sub w (hlsF (hueW p t) (lW L) (sW S)).2.2) (((p + 8) % 16 * 2 ^ 30 : Nat) : Int) (((8 - L) * 2 ^ 30 : Nat) : Int) ((S * 2 ^ 30 : Nat) : Int) := by
  have h1 := List.all_eq_true.mp (List.all_eq_true.mp hue_ok p (List.mem_range.mpr hp)) t (List.mem_range.mpr ht)
  obtain ⟨h, hm, hq⟩ := List.any_eq_true.mp h1
  have h2 := good_ok p hp h hm
  have h3 := List.all_eq_true.mp (List.all_eq_true.mp ls_ok (L - 1) (List.mem_range.mpr (by omega))) (S - 1) (List.mem_range.mpr (by omega))
  have h4 := List.all_eq_true.mp (List.all_eq_true.mp h2 (L - 1) (List.mem_range.mpr (by omega))) (S - 1) (List.mem_range.mpr (by omega))
  rw [show L - 1 + 1 = L by omega, show S - 1 + 1 = S by omega] at h3 h4
  simp only [lsB, Bool.and_eq_true] at h3
  simp only [Bool.and_eq_true] at hq
  obtain ⟨⟨⟨a1, a2⟩, a3⟩, a4⟩ := h3
  obtain ⟨⟨b1, b2⟩, b3⟩ := hq
  have H := cellQ_spec (hue := 0) hw (exB_spec b1) (exB_spec b2) (exB_spec b3) (exB_spec a1) (exB_spec a2) (exB_spec a3) h4
  have e0 : PySem.Builtin.Cmath.eq (sW S) cZero = false := by simpa using a4
  have eH : hlsF (hueW p t) (lW L) (sW S) = (vF1 (m1W L S) (m2F (lW L) (sW S)) (modF (Float64.add (hueW p t) cThird) cOne), vF1 (m1W L S) (m2F (lW L) (sW S)) (modF (hueW p t) cOne), vF1 (m1W L S) (m2F (lW L) (sW S)) (modF (Float64.sub (hueW p t) cThird) cOne)) := by
    unfold hlsF
    rw [e0, if_neg (by decide)]
    rfl
  rw [eH]
  exact H
end Mine
end
section
open PySem PySem.W PyProof.Rows PySem.Calls
set_option Elab.async false
set_option maxRecDepth 100000 
set_option maxHeartbeats 8000000 
namespace Mine
section
variable {prog : Program} {w : World} {A : Around} {E : Value → Shared → Prop} {s : Shared}
theorem sum_arr {D : Addr} {items : Array Value} {ns : List Int} {Q : Value → Shared → Prop} (hh : A.handled = none) (hl : s.heap.IsList D items) (hi : IntsAre items.toList ns)
    (h : ∀ h' tk v t', Keep s.heap h' → v = ns.sum → Q (.int v t') { s with heap := h', toks := tk }) :
    wpAny (model prog w) A (call (.builtin "sum") [.ref D]) Q E s := by
  obtain ⟨xs, hx⟩ := hi.allInts.items
  have hx : items = intItems xs := by simpa using hx
  have hn : numsOf items.toList = ns := by rw [hi.numsOf]
  rw [hx] at hl hn
  rw [nums_intItems] at hn
  obtain ⟨o, ho, hc, n, hd⟩ := id hl
  have hne : D ≠ s.heap.objs.size := Nat.ne_of_lt (Heap.lt_size ho)
  have hsz : (intItems xs).size = xs.size := by simp [intItems]
  have W := (Walks.list (prog := prog) (w := w) (A := A.in1) hh s.heap.objs.size D hne (intItems xs)).toS
  rw [hsz] at W
  refine call_sum_walkAnyS (wpAny_pyIter_list hl ?_)
  refine ⟨s.heap.objs.size, _, _, _, _, _, _, numAt xs, rfl, W, ⟨⟨_, Heap.get?_push_size _ rfl, rfl, rfl⟩, hl.at fun o e => Heap.get?_push_of_some _ e⟩, fun b hb => ?_, fun i v hP => intItems_at hP, fun s' t' hm => ?_⟩
  · rcases List.mem_cons.mp hb with rfl | hb
    · exact Heap.lt_size (Heap.get?_push_size _ rfl)
    · obtain rfl := List.mem_singleton.mp hb
      exact Heap.lt_size (Heap.get?_push_of_some _ ho)
  · obtain ⟨h', g', d', tk', os'⟩ := s'
    have e1 : g' = s.gens := hm.gens
    have e2 : d' = s.drawn := hm.drawn
    have e3 : os' = s.os := hm.os
    subst e1 e2 e3
    have := h h' tk' _ t' (fun b o e => hm.heap b o (fun hb => absurd (Heap.lt_size e) ((List.mem_singleton.mp hb) ▸ Nat.lt_irrefl _)) (Heap.get?_push_of_some _ e)) rfl
    rw [← hn] at this
    rw [preSum_eq, List.take_of_length_le (by simp)]
    exact this
theorem item_starts {value slice : PySem.Expr} {l : Addr} {oS : Obj} {i : Nat} {u : Tok} {Q : Value → Shared → Prop} (hS : NineInts oS) (hl : s.heap.get? l = some oS) (hi : i < 9)
    (h : ∀ v t, Q (.int v t) s)
    (hs : subscripted slice false (.ref l) (.int (i : Int) u) = operate [.ref l, .int (i : Int) u] (getItem (.ref l) (.int (i : Int) u)) := by with_unfolding_all rfl) :
    wpAny (model prog w) A (subscriptTail value slice (.ref l) (.int (i : Int) u)) Q E s := by
  obtain ⟨vs, ns, rfl, hn, h9⟩ := hS
  exact item_ints (vs := vs) (ns := ns) ⟨_, hl, rfl, _, rfl⟩ hn ⟨by omega, by omega, by omega⟩ (fun t => h _ t) hs
/-- every address of the ledger is another one than d: a structure, so that omega does not see it -/
structure AllNe (d : Addr) (l : List (Addr × Obj)) : Prop where
  off : ∀ p ∈ l, p.1 ≠ d
theorem allNe_of {d : Addr} {l : List (Addr × Obj)} (h : ∀ p ∈ l, p.1 ≠ d) : AllNe d l := ⟨h⟩
end
end Mine
end
section
open PySem PySem.W PyProof.Rows PySem.Calls
set_option Elab.async false
set_option maxRecDepth 100000 
set_option maxHeartbeats 8000000 
namespace Mine
noncomputable def Sm (x : Int) : Prop := 0 ≤ x ∧ x < 64
theorem Sm.fm {y n : Int} (h : 0 < n) (h2 : n ≤ 64) : Sm (y.fmod n) := ⟨Int.fmod_nonneg_of_pos _ h, Int.lt_of_lt_of_le (Int.fmod_lt_of_pos _ h) h2⟩
theorem Sm.one {y n : Int} (h : 0 < n) (h2 : n ≤ 32) : Sm (1 + y.fmod n) := by
  have a := Int.fmod_nonneg_of_pos y h
  have b := Int.fmod_lt_of_pos y h
  exact ⟨by omega, by omega⟩
theorem small1023 : (64 : Nat) < 2 ^ 1023 := by
  calc 64 = 2 ^ 6 := by decide
    _ < 2 ^ 1023 := Nat.pow_lt_pow_right (by decide) (by decide)
theorem Sm.fit {x : Int} (h : Sm x) : x.natAbs < 2 ^ 1023 := Nat.lt_trans (show x.natAbs < 64 by have := h.1; have := h.2; omega) small1023
section
variable {prog : Program} {w : World} {A : Around} {E : Value → Shared → Prop} {s : Shared} {t u : Tok} {Q : Value → Shared → Prop}
theorem div_small {x b : Int} {n : Nat} (hA : A.handled = none) (hx : Sm x) (hb : b = ((n + 1 : Nat) : Int)) (h : Q (.float (Float64.ofFrac false x.toNat (n + 1)) s.toks) { s with toks := s.toks + 1 }) :
    wpAny (model prog w) A (binaryOp .Div (.int x t) (.int b u)) Q E s := by
  subst hb
  refine Flt.div_ii_fits hA hx.fit (fun e => absurd e (by omega)) fun _ _ => ?_
  have h0 := hx.1
  have e1 : decide (x < 0) = false := decide_eq_false (by omega)
  have e2 : decide (((n + 1 : Nat) : Int) < 0) = false := decide_eq_false (by omega)
  have e3 : x.natAbs = x.toNat := by omega
  rw [e1, e2, e3, Int.natAbs_natCast]
  exact h
theorem add_small {a : UInt64} {x : Int} (hx : Sm x) (h : Q (.float (Float64.add a (Float64.ofInt ((x.toNat : Nat) : Int))) s.toks) { s with toks := s.toks + 1 }) :
    wpAny (model prog w) A (binaryOp .Add (.float a t) (.int x u)) Q E s := by
  rw [Int.toNat_of_nonneg hx.1] at h
  exact add_fi_fits hx.fit h
end
section
variable {w : World} {mg mb : Str → Option Value} {p : Program} {loose : List Str} {mean : ExcName → Option Value}
    {s : Shared} {Q : Value → Shared → Prop} {E : Value → Shared → Prop} {d : Nat} {fr : Option (List Env)} {gs : Option (List Code)} {u : Nat}
theorem zeroI : (Float64.cmpInt 0 0 == some Ordering.eq) = true := by decide +kernel
theorem hls0_call {h l : UInt64} {t1 t2 t3 : Tok} 
    (X : (hd.heap_39 w.params).In s.heap) (T : Top p loose mean mg mb s.heap) (hroom : d + 10 < recursionLimit) 
    (hQ : ∀ h' tk a, Keep s.heap h' → s.heap.get? a = none → h'.get? a = some (tup3 (.float l t2) (.float l t2) (.float l t2)) → Q (.ref a) { s with heap := h', toks := tk }) :
    wpAny (model PR w) (AR d fr gs u) (call (.ref 56) [.float h t1, .float l t2, .int 0 t3]) Q E s := by
  (have kz := kzz; revert kz; k_fill; intro kz; clear kz; refine' call_ro ?k1 ?k2 ?k6 ?k7 ?k8 ?k9 ?kB ?c2 ?c3 ?c4 ?c5 ?_; (case k1 => k_asm); (case k2 => k_asm); (case k6 => k_is); (case k7 => k_is); (case k8 => k_room); (case k9 => first | exact BindsTo.of_eq rfl | exact binds_K (by k_in) rfl (by k_is) rfl rfl rfl | fail "k_enter: no rule for these arguments"); (case c5 => decide); (case kB => exact locs rfl); (case c2 => exact rfl); (case c3 => exact rfl); (case c4 => exact rfl); k_whole; intro L' h' F' N'; (try dsimp only); (try k_fold))
  iterate 11 (first | (k_unfold; dsimp only) | walk1 | (dsimp only; walk1) | skip)
  all_goals (try exact absurd (show (Float64.cmpInt 0 0 == some Ordering.eq) = false by assumption) (by rw [zeroI]; decide))
  k_steps
  all_goals (try (k_unfold; dsimp only))
  all_goals
    (with_reducible rename News _ _ _ _ => kN)
    have kz := kN _ (List.Mem.head _)
    (with_reducible rename Fr _ _ _ _ => kF)
    clear X T
    exact hQ _ _ _ kF.keep kz.2.2 kz.1
end
section
variable {prog : Program} {w : World} {A : Around} {E : Value → Shared → Prop} {s : Shared} {env : Env}
/-- [1 - part for part in colour] -/
theorem comp_neg {x : Str} {px p1 p2 p3 pv : Pos} {src : Str} {scope : Scope} {cl : List (Str × Addr)} {pos : Pos} {Q : Value → Shared → Prop} {S : Addr} {a b c : UInt64} {t1 t2 t3 : Tok}
    (hh : A.handled = none)
    (hclos : closureFor scope env = pure cl) (hkind : scope.kind = .function) (hnames : ∀ y ∈ scope.names, y.2 = .local → scope.names.lookup y.1 = some .local)
    (hcell : ∀ y ∈ scope.names, y.2 ≠ .cell) (hx : scope.names.lookup x = some .local) (hxd : (x == ("__debug__" : Str)) = false)
    (hsrc : ∀ R : Value → Shared → Prop, R (.ref S) s → wpAny (model prog w) A (eval (.Name src pv) env) R E s)
    (hS : IsTup s.heap S [.float a t1, .float b t2, .float c t3].toArray)
    (hQ : ∀ D h' tk y1 y2 y3 k, s.heap.get? D = none → h'.get? D = some (listOf [.float (Float64.sub (Float64.ofInt 1) a) y1, .float (Float64.sub (Float64.ofInt 1) b) y2, .float (Float64.sub (Float64.ofInt 1) c) y3].toArray k) → Keep s.heap h' → Q (.ref D) { s with heap := h', toks := tk })
    (hs : ∀ x, foldedSetIterable (.Name src pv) env x = pure x) :
    wpAny (model prog w) A (eval (.ListComp (.BinOp (.Constant (.int 1) 0 p1) .Sub (.Name x p2) p3) [⟨.Name x px, .Name src pv, [], 0⟩] scope pos) env) Q E s := by
  obtain ⟨oS, hoS, hoc, nS, hod⟩ := id hS
  refine gcompL hclos hkind hnames hcell hx (hsrc _ (wpAny_pyIter_tuple hS ?_)) hs
  have hSlt : S < s.heap.objs.size := Heap.lt_size hoS
  have W := Walks.tuple (prog := prog) (w := w) (A := A) hh s.heap.objs.size S (Nat.ne_of_lt hSlt) [Value.float a t1, .float b t2, .float c t3].toArray
  refine ⟨_, _, _, 3, _, _, fun j y _ => ∃ t, y = .float (Float64.sub (Float64.ofInt 1) (at3 a b c j)) t, rfl, W, by decide +kernel, fun i h st b hb => by rw [List.mem_singleton.mp hb]; obtain ⟨⟨o, ho, _⟩, _⟩ := st; exact ⟨o, ho⟩, ⟨⟨_, Heap.get?_push_size _ rfl, rfl, rfl⟩, hS.push _⟩, fun b hb => ?_, ?_, ?_⟩
  · rcases List.mem_cons.mp hb with rfl | hb
    · rw [Heap.size_push]; exact Nat.lt_succ_self _
    · rw [List.mem_singleton.mp hb, Heap.size_push]; exact Nat.lt_succ_of_lt hSlt
  · rintro C i v s₃ E' hC hi hP ⟨m, hn, hm⟩ hk ⟨h3, tk3, rfl⟩
    obtain ⟨y, rfl⟩ := at3_of i v (by simpa using hP)
    refine wpAny_BinOp (wpAny_Constant_int ?_)
    refine wpAny_Name (wpAny_loadName_local (by simp [compEnvC, relabel, hkind]) (lookup_relabel_local hx) hn hm ?_) hxd
    refine sub_if_fits (Nat.lt_trans (show (1 : Int).natAbs < 64 by decide) small1023) ?_
    exact ⟨⟨h3, _, rfl, fun b o e => e⟩, fun h'' _ => ⟨_, rfl⟩⟩
  · rintro D h' tk ys hD ⟨k, hpl⟩ hlen hel hk'
    obtain ⟨y0, h0, ⟨u0, rfl⟩⟩ := hel 0 (by decide)
    obtain ⟨y1, h1, ⟨u1, rfl⟩⟩ := hel 1 (by decide)
    obtain ⟨y2, h2, ⟨u2, rfl⟩⟩ := hel 2 (by decide)
    have eY : ys = [Value.float (Float64.sub (Float64.ofInt 1) a) u0, .float (Float64.sub (Float64.ofInt 1) b) u1, .float (Float64.sub (Float64.ofInt 1) c) u2].toArray := by
      apply Array.ext'
      apply List.ext_getElem?
      intro i
      match i with
      | 0 => simpa [at3] using h0
      | 1 => simpa [at3] using h1
      | 2 => simpa [at3] using h2
      | n + 3 => simp [hlen]
    rw [eY] at hpl
    refine hQ D h' tk _ _ _ k ?_ hpl fun b o e => hk' b o (fun q => ?_) (Heap.get?_push_of_some _ e)
    · cases q : s.heap.get? D with
      | none => rfl
      | some o => rw [Heap.get?_push_of_some _ q] at hD; cases hD
    · have := Heap.lt_size e; rw [List.mem_singleton.mp q] at this; exact Nat.lt_irrefl _ this
end
end Mine
end
local macro_rules | `(tactic| walk_at "pad 29") => `(tactic| fail)
section
open PySem PySem.W PyProof.Rows PySem.Calls
set_option Elab.async false
set_option maxRecDepth 100000 
set_option maxHeartbeats 8000000 
namespace Mine
noncomputable abbrev colF (x t l s : Int) : UInt64 × UInt64 × UInt64 := hlsF (Float64.sub (Float64.add (Float64.ofFrac false x.toNat (15 + 1)) (Float64.ofInt ((t.toNat : Nat) : Int))) (Float64.ofInt 2)) (Float64.ofFrac false l.toNat (7 + 1)) (Float64.ofFrac false s.toNat (3 + 1))
theorem p30 (n : Nat) (x : Int) (h : (n : Int) = x) : ((n * 2 ^ 30 : Nat) : Int) = x * 2 ^ Int.toNat 30 := by rw [← h, Int.natCast_mul]; rfl
theorem one_is : EXN (Float64.ofInt 1) ONE := by
  have := EXN.ofNat 1 (by decide)
  rwa [show Nat.mul 1 ONE = ONE from Nat.one_mul _] at this
theorem cell_toldI {x t l s : Int} (hx : 0 ≤ x ∧ x < 16) (ht : 0 ≤ t ∧ t < 5) (hl : 0 ≤ l ∧ l < 7) (hs : 0 ≤ s ∧ s < 4) :
    ToldIs (colF x t (1 + l) (1 + s)).1 (colF x t (1 + l) (1 + s)).2.1 (colF x t (1 + l) (1 + s)).2.2 (x * 2 ^ Int.toNat 30) ((1 + l) * 2 ^ Int.toNat 30) ((1 + s) * 2 ^ Int.toNat 30) ∧
    ToldIs (Float64.sub (Float64.ofInt 1) (colF x t (1 + l) (1 + s)).1) (Float64.sub (Float64.ofInt 1) (colF x t (1 + l) (1 + s)).2.1) (Float64.sub (Float64.ofInt 1) (colF x t (1 + l) (1 + s)).2.2) ((x + 8).fmod 16 * 2 ^ Int.toNat 30) ((8 - (1 + l)) * 2 ^ Int.toNat 30) ((1 + s) * 2 ^ Int.toNat 30) := by
  have H := cell_told (w := Float64.ofInt 1) (p := x.toNat) (t := t.toNat) (L := (1 + l).toNat) (S := (1 + s).toNat) one_is (by omega) (by omega) ⟨by omega, by omega⟩ ⟨by omega, by omega⟩
  rw [p30 x.toNat x (by omega), p30 (1 + l).toNat (1 + l) (by omega), p30 (1 + s).toNat (1 + s) (by omega), p30 ((x.toNat + 8) % 16) ((x + 8).fmod 16) (by rw [Int.fmod_eq_emod_of_nonneg _ (by decide)]; omega), p30 (8 - (1 + l).toNat) (8 - (1 + l)) (by omega)] at H
  exact H
theorem fmb {y n : Int} (h : 0 < n) : 0 ≤ y.fmod n ∧ y.fmod n < n := ⟨Int.fmod_nonneg_of_pos _ h, Int.fmod_lt_of_pos _ h⟩
structure ColIs (r g b : UInt64) (x l s : Int) : Prop where
  told : ToldIs r g b (x * 2 ^ Int.toNat 30) (l * 2 ^ Int.toNat 30) (s * 2 ^ Int.toNat 30)
  neg : ToldIs (Float64.sub (Float64.ofInt 1) r) (Float64.sub (Float64.ofInt 1) g) (Float64.sub (Float64.ofInt 1) b) ((x + 8).fmod 16 * 2 ^ Int.toNat 30) ((8 - l) * 2 ^ Int.toNat 30) (s * 2 ^ Int.toNat 30)
section
variable {w : World} {mg mb : Str → Option Value} {p : Program} {loose : List Str} {mean : ExcName → Option Value}
    {s : Shared} {Q : Value → Shared → Prop} {E : Value → Shared → Prop} {d : Nat} {fr : Option (List Env)} {gs : Option (List Code)} {u : Nat}
theorem col_call {x t l sa : Int} {t1 t2 t3 : Tok} 
    (X : (hd.heap_39 w.params).In s.heap) (T : Top p loose mean mg mb s.heap) (hroom : d + 10 < recursionLimit) 
    (hx : 0 ≤ x ∧ x < 16) (ht : 0 ≤ t ∧ t < 5) (hl : 0 ≤ l ∧ l < 7) (hs : 0 ≤ sa ∧ sa < 4)
    (hQ : ∀ h' tk a r g b x' y z, Keep s.heap h' → s.heap.get? a = none → h'.get? a = some (tup3 (.float r x') (.float g y) (.float b z)) → ColIs r g b x (1 + l) (1 + sa) → Q (.ref a) { s with heap := h', toks := tk }) :
    wpAny (model PR w) (AR d fr gs u) (call (.ref 56) [.float (Float64.sub (Float64.add (Float64.ofFrac false x.toNat (15 + 1)) (Float64.ofInt ((t.toNat : Nat) : Int))) (Float64.ofInt 2)) t1, .float (Float64.ofFrac false (1 + l).toNat (7 + 1)) t2, .float (Float64.ofFrac false (1 + sa).toNat (3 + 1)) t3]) Q E s :=
  hls_call X T hroom fun h' tk a x' y z hk hf hg => hQ h' tk a _ _ _ x' y z hk hf hg ⟨(cell_toldI hx ht hl hs).1, (cell_toldI hx ht hl hs).2⟩
end
end Mine
end
section
open PySem PySem.W PyProof.Rows PySem.Calls
set_option Elab.async false
set_option maxRecDepth 100000 
namespace Mine
noncomputable abbrev two (elt i1 i2 : Expr) (x y : Str) (px py : Pos) (scope : Scope) (pos : Pos) : Expr := .ListComp elt [⟨.Name x px, i1, [], 0⟩, ⟨.Name y py, i2, [], 0⟩] scope pos
theorem turn_out (elt i1 i2 : Expr) (x y : Str) (px py : Pos) (scope : Scope) (pos : Pos) (it acc : Value) (env : Env) :
    compTurn (two elt i1 i2 x y px py scope pos) 0 it acc env = (standAt i1.pos >>= fun _ => pyNext it >>= fun r => match r with
      | none => pure (.done .next)
      | some v => letOwnedTupleGo (.Name x px) it v >>= fun _ => assign (.Name x px) env v >>= fun _ =>
        eval i2 env >>= fun x' => standAt i2.pos >>= fun _ => foldedSetIterable i2 env x' >>= fun x' => holding [x'] (pyIter x') >>= fun it' => runOwn (.compStart (two elt i1 i2 x y px py scope pos) 1 it' acc env) env >>= fun _ =>
          again (.compLoop (two elt i1 i2 x y px py scope pos) 0 it acc env)) := by rfl
theorem turn_in (elt i1 i2 : Expr) (x y : Str) (px py : Pos) (scope : Scope) (pos : Pos) (it acc : Value) (env : Env) :
    compTurn (two elt i1 i2 x y px py scope pos) 1 it acc env = (standAt i2.pos >>= fun _ => pyNext it >>= fun r => match r with
      | none => pure (.done .next)
      | some v => letOwnedTupleGo (.Name y py) it v >>= fun _ => assign (.Name y py) env v >>= fun _ =>
        (eval elt env >>= fun x' => call (.builtin "list.append") [acc, x'] >>= fun _ => pure ()) >>= fun _ =>
          again (.compLoop (two elt i1 i2 x y px py scope pos) 1 it acc env)) := by rfl
section
variable {prog : Program} {w : World} {A : Around} {R : Result → Shared → Prop} {s : Shared}
variable {elt i1 i2 : Expr} {x y : Str} {px py : Pos} {scope : Scope} {pos : Pos} {it acc : Value} {env : Env}
theorem loop_in (I : Nat → Shared → Prop)
    (turn : ∀ n s, I n s → wpAny (model prog w) A (pyNext it) (fun r s₁ => match r with
      | none => R (.ok .next) s₁
      | some v => wpAny (model prog w) A (assign (.Name y py) env v) (fun _ s₂ => wpAny (model prog w) A (eval elt env) (fun x s₃ =>
          wpAny (model prog w) A (call (.builtin "list.append") [acc, x]) (fun _ s₄ => ∃ m, m < n ∧ I m s₄) (notedBy (model prog w) A env fun e s' => R (.error e) s') s₃)
          (notedBy (model prog w) A env fun e s' => R (.error e) s') s₂) (notedBy (model prog w) A env fun e s' => R (.error e) s') s₁) (notedBy (model prog w) A env fun e s' => R (.error e) s') s)
    (n : Nat) (h : I n s) : codeAny (model prog w) A (.compLoop (two elt i1 i2 x y px py scope pos) 1 it acc env) R s := by
  refine codeAny_loop rfl I (fun n s hI => ?_) n h
  show wpAny _ _ ((compTurn (two elt i1 i2 x y px py scope pos) 1 it acc env).onRaise (fun x => do noteFrame x env; theTreesLotGoes x)) _ _ s
  refine wpAny_noted ?_
  rw [turn_in]
  refine wpAny_bind (wpAny_standAt (wpAny_bind (wpAny_mono (turn n s hI) (fun r s₁ h₁ => ?_) fun _ _ h' => h')))
  cases r with
  | none => exact wpAny_pure h₁
  | some v =>
    refine wpAny_bind (wpAny_of_eq (show letOwnedTupleGo (.Name y py) it v = pure () from rfl) ?_)
    exact wpAny_bind (wpAny_mono h₁ (fun _ s₂ h₂ => wpAny_bind (wpAny_bind (wpAny_mono h₂ (fun x s₃ h₃ => wpAny_bind (wpAny_mono h₃
      (fun _ s₄ h₄ => wpAny_pure (wpAny_pure ⟨rfl, h₄⟩)) fun _ _ h' => h')) fun _ _ h' => h'))) fun _ _ h' => h')

theorem start_in
    (h0 : codeAny (model prog w) A (.compLoop (two elt i1 i2 x y px py scope pos) 1 it acc env) R s)
    (h : wpAny (model prog w) A (pyIter it) (fun it' s' => codeAny (model prog w) A (.compLoop (two elt i1 i2 x y px py scope pos) 1 it' acc env) R s')
      (notedBy (model prog w) A env fun x s' => R (.error x) s') s) :
    codeAny (model prog w) A (.compStart (two elt i1 i2 x y px py scope pos) 1 it acc env) R s := by
  refine codeAny_of_tree ?_
  show wpAny _ _ ((compStart (two elt i1 i2 x y px py scope pos) 1 it acc env).onRaise (fun x => do noteFrame x env; standAt theWindowsPlace)) _ _ s
  refine wpAny_notedAt ?_
  unfold compStart
  show wpAny _ _ (ask >>= _) _ _ s
  refine wpAny_bind (wpAny_askSetting (wpAny_ite ?_))
  split
  · first
      | exact wpAny_bind (wpAny_pure (wpAny_pure (And.intro rfl h0)))
      | exact wpAny_pure (And.intro rfl h0)
  · first
      | exact wpAny_bind (wpAny_rule (wpAny_bind (wpAny_standAt (wpAny_bind (wpAny_mono h (fun it' s' h' => wpAny_pure (And.intro rfl h')) fun _ _ x => x)))))
      | (refine wpAny_bind (wpAny_rule ?_); show wpAny _ _ (standAt i2.pos >>= _) _ _ s; exact wpAny_bind (wpAny_standAt (wpAny_bind (wpAny_mono h (fun it' s' h' => wpAny_pure (And.intro rfl h')) fun _ _ x => x))))

theorem loop_out (I : Nat → Shared → Prop) (hs : ∀ v, foldedSetIterable i2 env v = pure v)
    (turn : ∀ n s, I n s → wpAny (model prog w) A (pyNext it) (fun r s₁ => match r with
      | none => R (.ok .next) s₁
      | some v => wpAny (model prog w) A (assign (.Name x px) env v) (fun _ s₂ => wpAny (model prog w) A (eval i2 env) (fun x' s₃ =>
          wpAny (model prog w) A (pyIter x') (fun it' s₄ => codeAny (model prog w) A (.compStart (two elt i1 i2 x y px py scope pos) 1 it' acc env) (fun r s₅ => r = .ok .next ∧ ∃ m, m < n ∧ I m s₅) s₄) (notedBy (model prog w) A env fun e s' => R (.error e) s') s₃)
          (notedBy (model prog w) A env fun e s' => R (.error e) s') s₂) (notedBy (model prog w) A env fun e s' => R (.error e) s') s₁) (notedBy (model prog w) A env fun e s' => R (.error e) s') s)
    (n : Nat) (h : I n s) : codeAny (model prog w) A (.compLoop (two elt i1 i2 x y px py scope pos) 0 it acc env) R s := by
  refine codeAny_loop rfl I (fun n s hI => ?_) n h
  show wpAny _ _ ((compTurn (two elt i1 i2 x y px py scope pos) 0 it acc env).onRaise (fun x => do noteFrame x env; theTreesLotGoes x)) _ _ s
  refine wpAny_noted ?_
  rw [turn_out]
  refine wpAny_bind (wpAny_standAt (wpAny_bind (wpAny_mono (turn n s hI) (fun r s₁ h₁ => ?_) fun _ _ h' => h')))
  cases r with
  | none => exact wpAny_pure h₁
  | some v =>
    refine wpAny_bind (wpAny_of_eq (show letOwnedTupleGo (.Name x px) it v = pure () from rfl) ?_)
    refine wpAny_bind (wpAny_mono h₁ (fun _ s₂ h₂ => wpAny_bind (wpAny_mono h₂ (fun x' s₃ h₃ => wpAny_bind (wpAny_standAt (wpAny_bind (wpAny_of_eq (hs x') (wpAny_bind (wpAny_holding (wpAny_mono h₃
      (fun it' s₄ h₄ => wpAny_bind (wpAny_runOwn (codeAny_mono h₄ fun r s₅ h₅ => ?_))) fun _ _ h' => h'))))))) fun _ _ h' => h')) fun _ _ h' => h')
    obtain ⟨rfl, h₅⟩ := h₅
    exact wpAny_pure ⟨rfl, h₅⟩

theorem inner2 {I D C S : Addr} {items : Array Value} {v : Value} {n : Nat} {f : Nat → Int} {ys0 : Array Value}
    (hh : A.handled = none) (hC : env.locals = C) (hy : env.kindOf y = some .local) (hp : (env.scope.kind == .class || (env.scope.kind == .module && env.locals != env.globals)) = false) (hxy : x ≠ y)
    (hn : items.size = n) (d1 : D ≠ C) (d2 : D ≠ I) (d3 : C ≠ I) (d4 : S ≠ D) (d5 : S ≠ C) (d6 : S ≠ I)
    (hI : s.heap.IsListIter I S 0 ∧ s.heap.IsList S items) (hD : s.heap.PlainList D ys0) (hCn : ∃ m, s.heap.Ns C m ∧ m x = some v)
    (helt : ∀ j u s₃ E', j < n → items[j]? = some u → (∃ m, s₃.heap.Ns C m ∧ m x = some v ∧ m y = some u) →
      wpAny (model prog w) A (eval elt env) (fun r s₄ => (∃ t, r = .int (f j) t) ∧ ∃ tk, s₄ = { s₃ with toks := tk }) E' s₃)
    (hsz : ys0.size + n ≤ sizeLine)
    (hR : ∀ h' tk zs, h'.PlainList D (ys0 ++ zs) → zs.size = n → (∀ j, j < n → ∃ t, zs[j]? = some (.int (f j) t)) → (∃ m, h'.Ns C m ∧ m x = some v) → (∀ b o, b ∉ [C, I, D] → s.heap.get? b = some o → h'.get? b = some o) →
      R (.ok .next) { s with heap := h', toks := tk }) :
    codeAny (model prog w) A (.compLoop (two elt i1 i2 x y px py scope pos) 1 (.ref I) (.ref D) env) R s := by
  subst hC
  have W := Walks.list (prog := prog) (w := w) (A := A) hh I S d6 items
  rw [hn] at W
  refine loop_in (fun k s' => ∃ h' tk zs j, s' = { s with heap := h', toks := tk } ∧ (h'.IsListIter I S j ∧ h'.IsList S items) ∧ h'.PlainList D (ys0 ++ zs) ∧ zs.size = j ∧ j ≤ n ∧ k = n + 1 - j ∧ (∀ i, i < j → ∃ t, zs[i]? = some (.int (f i) t)) ∧
      (∃ m, h'.Ns env.locals m ∧ m x = some v) ∧ (∀ b o, b ∉ [env.locals, I, D] → s.heap.get? b = some o → h'.get? b = some o)) ?_ (n + 1) ⟨s.heap, s.toks, #[], 0, rfl, hI, by simpa using hD, rfl, Nat.zero_le _, rfl, fun i h => absurd h (Nat.not_lt_zero _), hCn, fun _ _ _ e => e⟩
  rintro k s' ⟨h', tk, zs, j, rfl, hI', hD', hlen, hj, rfl, hel, ⟨m, hns, hmx⟩, hk⟩
  by_cases hlt : j < n
  · refine W.item j _ _ _ hlt hI' fun u h₁ tk₁ hPu hI₁ hk₁ => ?_
    have off1 : ∀ b o, b ≠ I → h'.get? b = some o → h₁.get? b = some o := fun b o hb e => hk₁ b o (fun q => hb (List.mem_singleton.mp q)) e
    refine wpAny_assign_Name (wpAny_storeName_local hy (hns.at' fun o e => off1 _ o d3 e) (fun h₂ hn₂ hs₂ => ?_) hp)
    refine wpAny_mono (helt j u _ _ hlt hPu ⟨_, hn₂, by simp [hxy, hmx], by simp⟩) (fun r s₄ h₄ => ?_) fun _ _ e => e
    obtain ⟨⟨t, rfl⟩, tk₄, rfl⟩ := h₄
    have hD₂ : h₂.PlainList D (ys0 ++ zs) := hD'.at fun o e => hs₂.extBut _ o d1 (off1 _ o d2 e)
    have hsz' : (ys0 ++ zs).size ≤ sizeLine := by rw [Array.size_append, hlen]; omega
    refine wpAny_list_append_plain (hsz := hsz') hD₂ fun h₅ hl₅ hs₅ => ?_
    refine ⟨n + 1 - (j + 1), by omega, h₅, tk₄, zs.push (.int (f j) t), j + 1, rfl, ?_, ?_, by rw [Array.size_push, hlen], hlt, rfl, ?_, ⟨_, hn₂.at' fun o e => hs₅.extBut _ o d1.symm e, by simp [hxy, hmx]⟩, ?_⟩
    · exact W.frame _ _ h₅ hI₁ fun b hb o e => by
        rcases List.mem_cons.mp hb with rfl | hb
        · exact hs₅.extBut _ o d2.symm (hs₂.extBut _ o d3.symm e)
        · rw [List.mem_singleton.mp hb] at e ⊢; exact hs₅.extBut _ o d4 (hs₂.extBut _ o d5 e)
    · have := hl₅; rwa [← Array.append_push] at this
    · intro i hi
      rcases Nat.lt_or_ge i j with q | q
      · obtain ⟨t', ht'⟩ := hel i q
        exact ⟨t', by rw [Array.getElem?_push, if_neg (by omega)]; exact ht'⟩
      · obtain rfl : i = j := by omega
        exact ⟨t, by rw [Array.getElem?_push, if_pos hlen.symm]⟩
    · intro b o hb e
      simp only [List.mem_cons, List.not_mem_nil, or_false, not_or] at hb
      exact hs₅.extBut _ o hb.2.2 (hs₂.extBut _ o hb.1 (off1 _ o hb.2.1 (hk b o (by simp [hb]) e)))
  · obtain rfl : j = n := by omega
    refine W.done _ _ _ hI' fun h₁ tk₁ hk₁ => ?_
    have off1 : ∀ b o, b ≠ I → h'.get? b = some o → h₁.get? b = some o := fun b o hb e => hk₁ b o (fun q => hb (List.mem_singleton.mp q)) e
    refine hR h₁ tk₁ zs (hD'.at fun o e => off1 _ o d2 e) hlen hel ⟨m, hns.at' fun o e => off1 _ o d3 e, hmx⟩ fun b o hb e => ?_
    simp only [List.mem_cons, List.not_mem_nil, or_false, not_or] at hb
    exact off1 _ o hb.2.1 (hk b o (by simp [hb]) e)
end
end Mine
end
section
open PySem PySem.W PyProof.Rows PySem.Calls
set_option Elab.async false
set_option maxRecDepth 100000 
namespace Mine
noncomputable def flatI (f : Nat → Nat → Int) (n1 n2 : Nat) : List Int := (List.range n1).flatMap fun i => (List.range n2).map fun j => f i j
theorem flatI_succ (f : Nat → Nat → Int) (n1 n2 : Nat) : flatI f (n1 + 1) n2 = flatI f n1 n2 ++ (List.range n2).map (f n1) := by
  unfold flatI
  rw [List.range_succ, List.flatMap_append, List.flatMap_singleton]
section
variable {prog : Program} {w : World} {A : Around} {R : Result → Shared → Prop} {s : Shared} {E : Value → Shared → Prop}
variable {elt i1 i2 : Expr} {x y : Str} {px py : Pos} {scope : Scope} {pos : Pos} {it acc : Value} {env : Env}
theorem outer2 {I D C S1 S2 : Addr} {it1 it2 : Array Value} {n1 n2 : Nat} {f : Nat → Nat → Int}
    (hh : A.handled = none) (hC : env.locals = C) (hx : env.kindOf x = some .local) (hy : env.kindOf y = some .local) (hp : (env.scope.kind == .class || (env.scope.kind == .module && env.locals != env.globals)) = false) (hxy : x ≠ y)
    (hs : ∀ v, foldedSetIterable i2 env v = pure v) (hn1 : it1.size = n1) (hn2 : it2.size = n2) (d1 : D ≠ C) (d2 : D ≠ I) (d3 : C ≠ I) (e1 : S1 ≠ D) (e2 : S1 ≠ C) (e3 : S1 ≠ I) (g1 : S2 ≠ D) (g2 : S2 ≠ C) (g3 : S2 ≠ I)
    (hsrc : ∀ s₃ E' (Q' : Value → Shared → Prop), (∀ b o, b ∉ [C, I, D] → s.heap.get? b = some o → s₃.heap.get? b = some o) → Q' (.ref S2) s₃ → wpAny (model prog w) A (eval i2 env) Q' E' s₃)
    (hI : s.heap.IsListIter I S1 0 ∧ s.heap.IsList S1 it1) (hS2 : s.heap.IsList S2 it2) (hD : s.heap.PlainList D #[]) (hCn : ∃ m, s.heap.Ns C m)
    (helt : ∀ i j v u s₃ E', i < n1 → j < n2 → it1[i]? = some v → it2[j]? = some u → (∃ m, s₃.heap.Ns C m ∧ m x = some v ∧ m y = some u) →
      wpAny (model prog w) A (eval elt env) (fun r s₄ => (∃ t, r = .int (f i j) t) ∧ ∃ tk, s₄ = { s₃ with toks := tk }) E' s₃)
    (hsz : n1 * n2 ≤ sizeLine)
    (hR : ∀ h' tk zs, h'.PlainList D zs → IntsAre zs.toList (flatI f n1 n2) → (∃ m, h'.Ns C m) → (∀ b o, b ∉ [C, I, D] → s.heap.get? b = some o → h'.get? b = some o) → R (.ok .next) { s with heap := h', toks := tk }) :
    codeAny (model prog w) A (.compLoop (two elt i1 i2 x y px py scope pos) 0 (.ref I) (.ref D) env) R s := by
  subst hC
  have W := Walks.list (prog := prog) (w := w) (A := A) hh I S1 e3 it1
  rw [hn1] at W
  have live : ∃ oC oD, s.heap.get? env.locals = some oC ∧ s.heap.get? D = some oD := by
    obtain ⟨m, oC, _, _, hoC, _⟩ := hCn
    obtain ⟨k, hoD⟩ := hD
    exact ⟨_, _, hoC, hoD⟩
  refine loop_out (fun k s' => ∃ h' tk zs j, s' = { s with heap := h', toks := tk } ∧ (h'.IsListIter I S1 j ∧ h'.IsList S1 it1) ∧ h'.PlainList D zs ∧ IntsAre zs.toList (flatI f j n2) ∧ zs.size = j * n2 ∧ j ≤ n1 ∧ k = n1 + 1 - j ∧
      (∃ m, h'.Ns env.locals m) ∧ (∀ b o, b ∉ [env.locals, I, D] → s.heap.get? b = some o → h'.get? b = some o)) hs ?_ (n1 + 1) ⟨s.heap, s.toks, #[], 0, rfl, hI, hD, .nil, by simp, Nat.zero_le _, rfl, hCn, fun _ _ _ e => e⟩
  rintro k s' ⟨h', tk, zs, j, rfl, hI', hD', hints, hlen, hj, rfl, ⟨m, hns⟩, hk⟩
  by_cases hlt : j < n1
  · refine W.item j _ _ _ hlt hI' fun v h₁ tk₁ hPv hI₁ hk₁ => ?_
    have off1 : ∀ b o, b ≠ I → h'.get? b = some o → h₁.get? b = some o := fun b o hb e => hk₁ b o (fun q => hb (List.mem_singleton.mp q)) e
    refine wpAny_assign_Name (wpAny_storeName_local hx (hns.at' fun o e => off1 _ o d3 e) (fun h₂ hn₂ hs₂ => ?_) hp)
    have keep₂ : ∀ b o, b ∉ [env.locals, I, D] → s.heap.get? b = some o → h₂.get? b = some o := fun b o hb e => by
      have hb' := hb
      simp only [List.mem_cons, List.not_mem_nil, or_false, not_or] at hb'
      exact hs₂.extBut _ o hb'.1 (off1 _ o hb'.2.1 (hk b o hb e))
    have hI₂ : h₂.IsListIter I S1 (j + 1) ∧ h₂.IsList S1 it1 := W.frame _ _ h₂ hI₁ fun b hb o e => by
        rcases List.mem_cons.mp hb with rfl | hb
        · exact hs₂.extBut _ o d3.symm e
        · rw [List.mem_singleton.mp hb] at e ⊢; exact hs₂.extBut _ o e2 e
    refine hsrc _ _ _ keep₂ ?_
    have hS2' : h₂.IsList S2 it2 := let ⟨o, ho, r⟩ := hS2; ⟨o, keep₂ _ o (by simp [g1, g2, g3]) ho, r⟩
    refine wpAny_pyIter_list hS2' ?_
    generalize hH : h₂.push { cls := .type "list_iterator", data := .fields #[.ref S2, .int 0 0] } = h₃
    have up : ∀ b o, h₂.get? b = some o → h₃.get? b = some o := fun b o e => hH ▸ Heap.get?_push_of_some _ e
    have hI₃ : h₃.IsListIter h₂.objs.size S2 0 ∧ h₃.IsList S2 it2 := ⟨⟨_, hH ▸ Heap.get?_push_size _ rfl, rfl, rfl⟩, hS2'.at fun o e => up _ o e⟩
    have hD₃ : h₃.PlainList D zs := hD'.at fun o e => up _ o (hs₂.extBut _ o d1 (off1 _ o d2 e))
    have hC₃ : h₃.Ns env.locals (fun q => if q = x then some v else m q) := hn₂.keeps up
    have ltC : env.locals < h₂.objs.size := hn₂.lt
    have ltI : I < h₂.objs.size := let ⟨⟨o, ho, _⟩, _⟩ := hI₂; Heap.lt_size ho
    have ltS1 : S1 < h₂.objs.size := let ⟨_, ⟨o, ho, _⟩⟩ := hI₂; Heap.lt_size ho
    have ltS2 : S2 < h₂.objs.size := let ⟨o, ho, _⟩ := hS2'; Heap.lt_size ho
    have ltD : D < h₂.objs.size := let ⟨k, ho⟩ := hD'; Heap.lt_size (hs₂.extBut _ _ d1 (off1 _ _ d2 ho))
    have body : ∀ tkk, codeAny (model prog w) A (.compLoop (two elt i1 i2 x y px py scope pos) 1 (.ref h₂.objs.size) (.ref D) env) (fun r s₅ => r = .ok .next ∧ ∃ m, m < n1 + 1 - j ∧ ∃ h' tk zs j, s₅ = { s with heap := h', toks := tk } ∧ (h'.IsListIter I S1 j ∧ h'.IsList S1 it1) ∧ h'.PlainList D zs ∧ IntsAre zs.toList (flatI f j n2) ∧ zs.size = j * n2 ∧ j ≤ n1 ∧ m = n1 + 1 - j ∧
      (∃ m, h'.Ns env.locals m) ∧ (∀ b o, b ∉ [env.locals, I, D] → s.heap.get? b = some o → h'.get? b = some o)) { s with heap := h₃, toks := tkk } := by
      intro tkk
      have hszz : zs.size + n2 ≤ sizeLine := by
        have := Nat.mul_le_mul_right n2 (show j + 1 ≤ n1 from hlt)
        rw [Nat.succ_mul] at this
        omega
      refine inner2 (C := env.locals) (S := S2) (v := v) (n := n2) (f := f j) hh rfl hy hp hxy hn2 d1 (Nat.ne_of_lt ltD) (Nat.ne_of_lt ltC) g1 g2 (Nat.ne_of_lt ltS2) hI₃ hD₃ ⟨_, hC₃, by simp⟩ (fun j' u s₃ E' hj' hu hm => helt j j' v u s₃ E' hlt hj' hPv hu hm) hszz ?_
      rintro h₅ tk₅ ws hD₅ hws hwe ⟨m₅, hns₅, _⟩ hk₅
      have hwi : IntsAre ws.toList ((List.range n2).map (f j)) := intsAre_of (by rw [Array.length_toList]; exact hws) fun i hi => by
        obtain ⟨t, ht⟩ := hwe i hi
        exact ⟨_, by rw [Array.getElem?_toList]; exact ht, t, rfl⟩
      refine ⟨rfl, n1 + 1 - (j + 1), by omega, h₅, tk₅, zs ++ ws, j + 1, rfl, ?_, hD₅, ?_, ?_, hlt, rfl, ⟨m₅, hns₅⟩, ?_⟩
      · refine W.frame _ _ h₅ hI₂ fun b hb o e => ?_
        rcases List.mem_cons.mp hb with rfl | hb
        · exact hk₅ _ o (by simp [d3.symm, Nat.ne_of_lt ltI, d2.symm]) (up _ o e)
        · rw [List.mem_singleton.mp hb] at e ⊢; exact hk₅ _ o (by simp [e2, Nat.ne_of_lt ltS1, e1]) (up _ o e)
      · rw [Array.toList_append, flatI_succ]
        exact hints.append hwi
      · rw [Array.size_append, hlen, hws, Nat.succ_mul]
      · intro b o hb e
        have hb' := hb
        simp only [List.mem_cons, List.not_mem_nil, or_false, not_or] at hb'
        have e₂ := keep₂ b o hb e
        exact hk₅ b o (by simp [hb'.1, hb'.2.2, Nat.ne_of_lt (Heap.lt_size e₂)]) (up _ o e₂)
    exact start_in (body _) (wpAny_pyIter_listiter hI₃.1 (body _))
  · obtain rfl : j = n1 := by omega
    refine W.done _ _ _ hI' fun h₁ tk₁ hk₁ => ?_
    have off1 : ∀ b o, b ≠ I → h'.get? b = some o → h₁.get? b = some o := fun b o hb e => hk₁ b o (fun q => hb (List.mem_singleton.mp q)) e
    refine hR h₁ tk₁ zs (hD'.at fun o e => off1 _ o d2 e) hints ⟨m, hns.at' fun o e => off1 _ o d3 e⟩ fun b o hb e => ?_
    have hb' := hb
    simp only [List.mem_cons, List.not_mem_nil, or_false, not_or] at hb'
    exact off1 _ o hb'.2.1 (hk b o hb e)
theorem assign2 {z : Str} {pz : Pos} {cl : List (Str × Addr)} {spos : Pos} {Q : Flow → Shared → Prop} {S1 S2 : Addr} {it1 it2 : Array Value} {n1 n2 : Nat} {f : Nat → Nat → Int} {m : Str → Option Value}
    (hh : A.handled = none) (hsw : swapsWith (two elt i1 i2 x y px py scope pos) (some (.Name z pz)) spos.line env = pure true) (hz : env.kindOf z = some .local) (hp : (env.scope.kind == .class || (env.scope.kind == .module && env.locals != env.globals)) = false)
    (hclos : closureFor scope env = pure cl) (hkind : scope.kind = .function) (hnames : ∀ y ∈ scope.names, y.2 = .local → scope.names.lookup y.1 = some .local)
    (hcell : ∀ y ∈ scope.names, y.2 ≠ .cell) (hx : scope.names.lookup x = some .local) (hy : scope.names.lookup y = some .local) (hxy : x ≠ y)
    (hs1 : ∀ v, foldedSetIterable i1 env v = pure v) (hs2 : ∀ C v, foldedSetIterable i2 (compEnvC scope cl C env) v = pure v)
    (hn1 : it1.size = n1) (hn2 : it2.size = n2) (hsz : n1 * n2 ≤ sizeLine)
    (hsrc1 : ∀ (Q' : Value → Shared → Prop), Q' (.ref S1) s → wpAny (model prog w) A (eval i1 env) Q' E s)
    (hsrc2 : ∀ C s₃ E' (Q' : Value → Shared → Prop), (∀ b o, s.heap.get? b = some o → s₃.heap.get? b = some o) → Q' (.ref S2) s₃ → wpAny (model prog w) A (eval i2 (compEnvC scope cl C env)) Q' E' s₃)
    (hS1 : s.heap.IsList S1 it1) (hS2 : s.heap.IsList S2 it2) (hL : s.heap.Ns env.locals m)
    (helt : ∀ C i j v u s₃ E', i < n1 → j < n2 → it1[i]? = some v → it2[j]? = some u → (∃ m, s₃.heap.Ns C m ∧ m x = some v ∧ m y = some u) →
      wpAny (model prog w) A (eval elt (compEnvC scope cl C env)) (fun r s₄ => (∃ t, r = .int (f i j) t) ∧ ∃ tk, s₄ = { s₃ with toks := tk }) E' s₃)
    (hQ : ∀ D h' tk vs k, s.heap.get? D = none → h'.get? D = some (listOf vs.toArray k) → IntsAre vs (flatI f n1 n2) → h'.Ns env.locals (fun q => if q = z then some (.ref D) else m q) →
      (∀ b o, b ≠ env.locals → s.heap.get? b = some o → h'.get? b = some o) → Q .next { s with heap := h', toks := tk }) :
    wpAny (model prog w) A (exec (.Assign [.Name z pz] (two elt i1 i2 x y px py scope pos) spos) env) Q E s := by
  rw [exec_Assign_Name_used _ _ _ _ hsw]
  refine wpAny_bind (wpAny_standAt (wpAny_bind ?_))
  show wpAny _ A (do let _ ← comprehension (two elt i1 i2 x y px py scope pos) scope env _ (newList []) false (eval i1 env) (some (assign (.Name z pz) env))) _ _ s
  refine wpAny_bind (wpAny_mono (wpAny_comprehension_free (use := some (assign (.Name z pz) env)) (Q := fun _ s' => Q .next s') rfl hs1 hclos hkind hnames
    (hsrc1 _ (wpAny_pyIter_list hS1 ?_))) (fun _ s' hq => wpAny_pure (wpAny_pure hq)) fun _ _ e => e)
  generalize hH0 : s.heap.push { cls := .type "list_iterator", data := .fields #[.ref S1, .int 0 0] } = H0
  have k0 : ∀ b o, s.heap.get? b = some o → H0.get? b = some o := fun b o e => hH0 ▸ Heap.get?_push_of_some _ e
  have sz0 : H0.objs.size = s.heap.objs.size + 1 := by rw [← hH0, Heap.size_push]
  have gI : H0.IsListIter s.heap.objs.size S1 0 := ⟨_, hH0 ▸ Heap.get?_push_size _ rfl, rfl, rfl⟩
  refine wpAny_newObj_type ?_
  dsimp only
  generalize hH1 : H0.push { cls := .type "list", dict := none, data := .seq ([] : List Value).toArray } = H1
  have sz1 : H1.objs.size = H0.objs.size + 1 := by rw [← hH1, Heap.size_push]
  have k1 : ∀ b o, H0.get? b = some o → H1.get? b = some o := fun b o e => hH1 ▸ Heap.get?_push_of_some _ e
  have g1 : H1.get? H0.objs.size = some { cls := .type "list", dict := none, data := .seq ([] : List Value).toArray } := hH1 ▸ Heap.get?_push_size _ rfl
  refine wpAny_newFunctionEnv hcell (by intro y hy; simp at hy) (fun H3 hns₁ hsb₁ => ?_) hkind
  dsimp only at hns₁ hsb₁ ⊢
  have k3 : ∀ b o, H1.get? b = some o → H3.get? b = some o := fun b o e => hsb₁.extBut b o (Nat.ne_of_lt (Heap.lt_size e)) (Heap.get?_push_of_some _ e)
  have lt0 : s.heap.objs.size < H0.objs.size := by rw [sz0]; exact Nat.lt_succ_self _
  have lt1 : H0.objs.size < H1.objs.size := by rw [sz1]; exact Nat.lt_succ_self _
  have up : ∀ b o, s.heap.get? b = some o → H3.get? b = some o := fun b o e => k3 _ _ (k1 _ _ (k0 _ _ e))
  have ltS1 : S1 < s.heap.objs.size := let ⟨o, ho, _⟩ := hS1; Heap.lt_size ho
  have ltS2 : S2 < s.heap.objs.size := let ⟨o, ho, _⟩ := hS2; Heap.lt_size ho
  have loop : ∀ s₃ : Shared, s₃ = { s with heap := H3, toks := s.toks + ([] : List (Str × Value)).length } →
      codeAny (model prog w) A (.compLoop (two elt i1 i2 x y px py scope pos) 0 (.ref s.heap.objs.size) (.ref H0.objs.size) (compEnvC scope cl H1.objs.size env))
        (compPost (model prog w) A E (some (assign (.Name z pz) env)) (fun _ s' => Q .next s') (.ref H0.objs.size) H1.objs.size) s₃ := by
    rintro s₃ rfl
    refine outer2 (C := H1.objs.size) (S1 := S1) (S2 := S2) (it1 := it1) (it2 := it2) (n1 := n1) (n2 := n2) (f := f) hh rfl (lookup_relabel_local hx) (lookup_relabel_local hy) (by simp [compEnvC, relabel, hkind]) hxy (hs2 _) hn1 hn2
      (Nat.ne_of_lt lt1) (Nat.ne_of_gt lt0) (Nat.ne_of_gt (Nat.lt_trans lt0 lt1)) (Nat.ne_of_lt (Nat.lt_trans ltS1 lt0)) (Nat.ne_of_lt (Nat.lt_trans ltS1 (Nat.lt_trans lt0 lt1))) (Nat.ne_of_lt ltS1) (Nat.ne_of_lt (Nat.lt_trans ltS2 lt0)) (Nat.ne_of_lt (Nat.lt_trans ltS2 (Nat.lt_trans lt0 lt1))) (Nat.ne_of_lt ltS2)
      (fun s₃ E' Q' hk hq => hsrc2 _ s₃ E' Q' (fun b o e => hk b o ?_ (up b o e)) hq) ⟨let ⟨o, ho, r⟩ := gI; ⟨o, k3 _ _ (k1 _ _ ho), r⟩, hS1.at fun o e => up _ o e⟩ (hS2.at fun o e => up _ o e) ⟨_, k3 _ _ g1⟩ ⟨_, hns₁⟩
      (fun i j v u s₃ E' hi hj hv hu hm => helt _ i j v u s₃ E' hi hj hv hu hm) hsz (fun h' tk zs hpl hints hns hk => ?_)
    · have := Heap.lt_size e
      simp only [List.mem_cons, List.not_mem_nil, or_false, not_or]
      exact ⟨Nat.ne_of_lt (Nat.lt_trans this (Nat.lt_trans lt0 lt1)), Nat.ne_of_lt this, Nat.ne_of_lt (Nat.lt_trans this lt0)⟩
    · obtain ⟨m₁, hn⟩ := hns
      have old : ∀ b o, s.heap.get? b = some o → h'.get? b = some o := fun b o e => hk b o (by
        have := Heap.lt_size e
        simp only [List.mem_cons, List.not_mem_nil, or_false, not_or]
        exact ⟨Nat.ne_of_lt (Nat.lt_trans this (Nat.lt_trans lt0 lt1)), Nat.ne_of_lt this, Nat.ne_of_lt (Nat.lt_trans this lt0)⟩) (up b o e)
      have hLlt : env.locals < s.heap.objs.size := hL.lt
      have hLC : env.locals ≠ H1.objs.size := Nat.ne_of_lt (Nat.lt_trans hLlt (Nat.lt_trans lt0 lt1))
      show wpAny _ A (assign (.Name z pz) env (.ref H0.objs.size)) _ _ _
      refine wpAny_assign_Name (wpAny_storeName_local hz (hL.keeps old) (fun h₂ hn₂ hs₂ => ?_) hp)
      refine ⟨m₁, hn.at' fun o e => hs₂.extBut _ o (Ne.symm hLC) e, fun h'' hs'' => ?_⟩
      have hD' : h''.PlainList H0.objs.size zs := hpl.at fun o e => hs''.extBut _ o (Nat.ne_of_lt lt1) (hs₂.extBut _ o (Nat.ne_of_gt (Nat.lt_trans hLlt lt0)) e)
      obtain ⟨k, hD'⟩ := hD'
      refine hQ H0.objs.size h'' _ zs.toList k (PySem.Heap.get?_none_of_le (Nat.le_of_lt lt0)) hD' hints (hn₂.at' fun o e => hs''.extBut _ o hLC e) fun b o hb e => ?_
      exact hs''.extBut b o (Nat.ne_of_lt (Nat.lt_trans (Heap.lt_size e) (Nat.lt_trans lt0 lt1))) (hs₂.extBut b o hb (old b o e))
  have it : H3.IsListIter s.heap.objs.size S1 0 := let ⟨o, ho, r⟩ := gI; ⟨o, k3 _ _ (k1 _ _ ho), r⟩
  exact codeAny_compStart_list (loop _ rfl) (wpAny_pyIter_listiter it (loop _ rfl))
end
end Mine
end
section
open PySem PySem.W PyProof.Rows PySem.Calls
set_option Elab.async false
set_option maxRecDepth 100000 
namespace Mine
theorem map_getD (f : Int → Int) (ns : List Int) : (List.range ns.length).map (fun j => f (ns.getD j 0)) = ns.map f := by
  apply List.ext_getElem?
  intro i
  rw [List.getElem?_map, List.getElem?_map]
  by_cases h : i < ns.length
  · rw [List.getElem?_range h, List.getElem?_eq_getElem h]
    simp [List.getD_eq_getElem?_getD, List.getElem?_eq_getElem h]
  · rw [List.getElem?_eq_none (by simp; omega), List.getElem?_eq_none (by omega)]; rfl
theorem fr_assign {h₀ h h' : Heap} {L : Addr} {m m' : Str → Option Value} (F : Fr h₀ L h m) (hn : h'.Ns L m') (hk : ∀ b o, b ≠ L → h.get? b = some o → h'.get? b = some o) : Fr h₀ L h' m' :=
  ⟨hn, fun b o e => hk b o (Nat.ne_of_lt (Nat.lt_of_lt_of_le (Heap.lt_size e) F.above)) (F.keep b o e), F.above⟩
theorem news_assign {h₀ h h' : Heap} {L D : Addr} {o : Obj} {m : Str → Option Value} {news : List (Addr × Obj)} (F : Fr h₀ L h m) (N : News h₀ L h news) (hk : ∀ b o, b ≠ L → h.get? b = some o → h'.get? b = some o) (hD : h.get? D = none) (hg : h'.get? D = some o) : News h₀ L h' ((D, o) :: news) := by
  intro p hp
  rcases List.mem_cons.mp hp with rfl | hp
  · refine ⟨hg, fun e => ?_, ?_⟩
    · obtain ⟨oL, _, _, hL, _⟩ := F.ns
      rw [← e] at hL; rw [hD] at hL; cases hL
    · cases q : h₀.get? D with
      | none => rfl
      | some o' => have := F.keep _ _ q; rw [hD] at this; cases this
  · exact ⟨hk _ _ (N p hp).2.1 (N p hp).1, (N p hp).2⟩
section
variable {prog : Program} {w : World} {A : Around} {E : Value → Shared → Prop} {s : Shared} {env : Env}
theorem compI {elt iter : Expr} {x : Str} {px : Pos} {scope : Scope} {cl : List (Str × Addr)} {pos : Pos} {Q : Value → Shared → Prop} {S : Addr} {vs : List Value} {ns : List Int} (f : Int → Int)
    (hh : A.handled = none)
    (hclos : closureFor scope env = pure cl) (hkind : scope.kind = .function) (hnames : ∀ y ∈ scope.names, y.2 = .local → scope.names.lookup y.1 = some .local)
    (hcell : ∀ y ∈ scope.names, y.2 ≠ .cell) (hx : scope.names.lookup x = some .local)
    (hs : ∀ x, foldedSetIterable iter env x = pure x)
    (hsrc : ∀ R : Value → Shared → Prop, R (.ref S) s → wpAny (model prog w) A (eval iter env) R E s)
    (hS : s.heap.IsList S vs.toArray) (hi : IntsAre vs ns) (hsz : ns.length ≤ sizeLine)
    (helt : ∀ C m a t s₃ E' (Q' : Value → Shared → Prop), s₃.heap.Ns C m → m x = some (.int a t) → a ∈ ns → (∀ tk t', Q' (.int (f a) t') { s₃ with toks := tk }) → wpAny (model prog w) A (eval elt (compEnvC scope cl C env)) Q' E' s₃)
    (hQ : ∀ D h' tk vs' k, s.heap.get? D = none → h'.get? D = some (listOf vs'.toArray k) → IntsAre vs' (ns.map f) → Keep s.heap h' → Q (.ref D) { s with heap := h', toks := tk }) :
    wpAny (model prog w) A (eval (.ListComp elt [⟨.Name x px, iter, [], 0⟩] scope pos) env) Q E s := by
  refine gcompL hclos hkind hnames hcell hx (hsrc _ (list_iter hS fun I h₂ hI hI' hSlt hk hst => ?_)) hs
  have W := Walks.list (prog := prog) (w := w) (A := A) hh I S (Nat.ne_of_lt (Nat.lt_of_lt_of_le hSlt hI)) vs.toArray
  rw [show vs.toArray.size = ns.length by rw [List.size_toArray]; exact hi.length] at W
  have off : ∀ b o, s.heap.get? b = some o → b ∉ [I] := fun b o e => not_in_one hI e
  refine ⟨I, _, _, ns.length, _, _, fun j y _ => ∃ t, y = .int (f (ns.getD j 0)) t, rfl, W, hsz, fun i h st b hb => by rw [List.mem_singleton.mp hb]; obtain ⟨⟨o, ho, _⟩, _⟩ := st; exact ⟨o, ho⟩, hst, fun b hb => ?_, ?_, ?_⟩
  · rcases List.mem_cons.mp hb with rfl | hb
    · exact hI'
    · rw [List.mem_singleton.mp hb]; exact Nat.lt_of_lt_of_le hSlt (Nat.le_of_lt (Nat.lt_of_le_of_lt hI hI'))
  · rintro C j v s₃ E' hC hj hP ⟨m, hn, hm⟩ hk₃ ⟨h3, t3, rfl⟩
    obtain ⟨t, rfl⟩ : ∃ t, v = .int (ns.getD j 0) t := hi.int_at j v (by simpa using hP)
    have hmem : ns.getD j 0 ∈ ns := by rw [List.getD_eq_getElem?_getD, List.getElem?_eq_getElem hj]; exact List.getElem_mem hj
    exact helt C m _ t _ E' _ hn hm hmem fun tk t' => ⟨⟨h3, tk, rfl, fun b o e => e⟩, fun h'' _ => ⟨_, rfl⟩⟩
  · rintro D h' tk ys hD ⟨k, hpl⟩ hlen hel hk'
    refine hQ D h' tk ys.toList k ?_ hpl ?_ fun b o e => hk' b o (off b o e) (hk b o e)
    · cases q : s.heap.get? D with
      | none => rfl
      | some o => have := hk D o q; rw [show h₂.get? D = none from hD] at this; cases this
    · have := intsAre_of (vs := ys.toList) (n := ns.length) (f := fun j => f (ns.getD j 0)) (by rw [Array.length_toList]; exact hlen) fun j hj => by
        obtain ⟨y, hy, ht⟩ := hel j hj
        exact ⟨y, by rw [Array.getElem?_toList]; exact hy, ht⟩
      rwa [map_getD] at this
end
end Mine
end
section
open PySem PySem.W PyProof.Rows PySem.Calls
set_option Elab.async false
set_option maxRecDepth 100000 
namespace Mine
noncomputable def IsNew (h₁ : Heap) (G : Obj → Prop) (y : Value) (h : Heap) : Prop := ∃ R ob, y = .ref R ∧ h.get? R = some ob ∧ G ob ∧ h₁.get? R = none
section
variable {prog : Program} {w : World} {A : Around} {E : Value → Shared → Prop} {s : Shared} {env : Env} {K : Frag} {p : Program} {loose : List Str} {mg mb : Str → Option Value}
theorem range_not {h h₂ : Heap} {I b : Addr} {o : Obj} (hI : h.objs.size ≤ I) (e : h.get? b = some o) : b ∉ [I] := not_in_one hI e
theorem old_none {h h' : Heap} {D : Addr} (hk : Keep h h') (hD : h'.get? D = none) : h.get? D = none := by
  cases q : h.get? D with
  | none => rfl
  | some o => have := hk D o q; rw [hD] at this; cases this
theorem compR {elt : Expr} {x : Str} {n : Nat} {np cp rp px : Pos} {scope : Scope} {cl : List (Str × Addr)} {pos : Pos} {Q : Value → Shared → Prop} (f : Nat → Int)
    (X : K.In s.heap) (T : TopRead p loose mg mb s.heap) (er : nsIn K mainGlobals "range" = some none) (hg : env.globals = mainGlobals) (hb : env.builtins = builtinsNs) (hk : env.scope.kind = .function) (hxr : env.kindOf "range" = some .globalImplicit)
    (hsm : Builtin.Range.small 0 n 1 = true) (hsz : Builtin.Range.rangeSize 0 n 1 = n) (hsl : n ≤ sizeLine)
    (hh : A.handled = none)
    (hclos : closureFor scope env = pure cl) (hkind : scope.kind = .function) (hnames : ∀ y ∈ scope.names, y.2 = .local → scope.names.lookup y.1 = some .local)
    (hcell : ∀ y ∈ scope.names, y.2 ≠ .cell) (hx : scope.names.lookup x = some .local)
    (helt : ∀ C m i t s₃ E' (Q' : Value → Shared → Prop), i < n → s₃.heap.Ns C m → m x = some (.int (i : Int) t) → Keep s.heap s₃.heap → (∃ h tk, s₃ = { s with heap := h, toks := tk }) → (∀ h' tk t', Keep s₃.heap h' → Q' (.int (f i) t') { s₃ with heap := h', toks := tk }) → wpAny (model prog w) A (eval elt (compEnvC scope cl C env)) Q' E' s₃)
    (hQ : ∀ D h' tk vs' k, s.heap.get? D = none → h'.get? D = some (listOf vs'.toArray k) → IntsAre vs' ((List.range n).map f) → Keep s.heap h' → Q (.ref D) { s with heap := h', toks := tk })
    (hs : ∀ x, foldedSetIterable (.Call (.Name "range" np) [.Constant (.int n) 0 cp] [] rp) env x = pure x) :
    wpAny (model prog w) A (eval (.ListComp elt [⟨.Name x px, .Call (.Name "range" np) [.Constant (.int n) 0 cp] [] rp, [], 0⟩] scope pos) env) Q E s := by
  refine gcompL hclos hkind hnames hcell hx (range_iter X T er hg hb hk hxr hsm hsz fun I h₂ tk₂ hI hI' hkk hst => ?_) hs
  have off : ∀ b o, s.heap.get? b = some o → b ∉ [I] := fun b o e => not_in_one hI e
  refine ⟨I, _, _, n, _, _, fun j y _ => ∃ t, y = .int (f j) t, rfl, Walks.range hh I 0 1 n, hsl, fun i h st b hb => by rw [List.mem_singleton.mp hb]; exact ⟨_, st⟩, hst, fun b hb => by rw [List.mem_singleton.mp hb]; exact hI', ?_, ?_⟩
  · rintro C j v s₃ E' hC hj ⟨t, rfl⟩ ⟨m, hn, hm⟩ hk₃ ⟨h3, t3, rfl⟩
    have ej : (0 : Int) + (j : Int) * 1 = (j : Int) := by omega
    rw [ej] at hm
    exact helt C m j t _ E' _ hj hn hm (fun b o e => hk₃ b o (off b o e) (hkk b o e)) ⟨_, _, rfl⟩ fun h' tk t' hk' => ⟨⟨h', tk, rfl, hk'⟩, fun h'' _ => ⟨_, rfl⟩⟩
  · rintro D h' tk ys hD ⟨k, hpl⟩ hlen hel hk'
    refine hQ D h' tk ys.toList k (old_none hkk hD) hpl ?_ fun b o e => hk' b o (off b o e) (hkk b o e)
    exact intsAre_of (vs := ys.toList) (n := n) (f := f) (by rw [Array.length_toList]; exact hlen) fun j hj => by
        obtain ⟨y, hy, ht⟩ := hel j hj
        exact ⟨y, by rw [Array.getElem?_toList]; exact hy, ht⟩
theorem compRC {elt : Expr} {x : Str} {n : Nat} {np cp rp px : Pos} {scope : Scope} {cl : List (Str × Addr)} {pos : Pos} {Q : Value → Shared → Prop} (G : Nat → Obj → Prop)
    (X : K.In s.heap) (T : TopRead p loose mg mb s.heap) (er : nsIn K mainGlobals "range" = some none) (hg : env.globals = mainGlobals) (hb : env.builtins = builtinsNs) (hk : env.scope.kind = .function) (hxr : env.kindOf "range" = some .globalImplicit)
    (hsm : Builtin.Range.small 0 n 1 = true) (hsz : Builtin.Range.rangeSize 0 n 1 = n) (hsl : n ≤ sizeLine)
    (hh : A.handled = none)
    (hclos : closureFor scope env = pure cl) (hkind : scope.kind = .function) (hnames : ∀ y ∈ scope.names, y.2 = .local → scope.names.lookup y.1 = some .local)
    (hone : ∀ n, cellsFrom n scope.names cl = (x, n) :: cl) (hpush : ∀ h : Heap, pushCells h scope.names = h.push { cls := .type "cell", data := .cell none }) (hkx : (relabel scope env).names.lookup x = some .cell)
    (hinner : ∀ C X' i t s₃ E' (Q' : Value → Shared → Prop), i < n → s₃.heap.IsCell X' (some (.int (i : Int) t)) → Keep s.heap s₃.heap → (∃ h tk, s₃ = { s with heap := h, toks := tk }) →
      (∀ D h' tk ob, s₃.heap.get? D = none → h'.get? D = some ob → G i ob → Keep s₃.heap h' → Q' (.ref D) { s₃ with heap := h', toks := tk }) →
      wpAny (model prog w) A (eval elt (compEnvC scope ((x, X') :: cl) C env)) Q' E' s₃)
    (hQ : ∀ D h' tk ys k, s.heap.get? D = none → h'.get? D = some (listOf ys k) → ys.size = n → (∀ j, j < n → ∃ y, ys[j]? = some y ∧ IsNew s.heap (G j) y h') → Keep s.heap h' → Q (.ref D) { s with heap := h', toks := tk })
    (hs : ∀ x, foldedSetIterable (.Call (.Name "range" np) [.Constant (.int n) 0 cp] [] rp) env x = pure x) :
    wpAny (model prog w) A (eval (.ListComp elt [⟨.Name x px, .Call (.Name "range" np) [.Constant (.int n) 0 cp] [] rp, [], 0⟩] scope pos) env) Q E s := by
  refine gcompC hclos hkind hnames hone hpush hkx (range_iter X T er hg hb hk hxr hsm hsz fun I h₂ tk₂ hI hI' hkk hst => ?_) hs
  have off : ∀ b o, s.heap.get? b = some o → b ∉ [I] := fun b o e => not_in_one hI e
  refine ⟨I, _, _, n, _, _, fun j y h => IsNew s.heap (G j) y h, rfl, Walks.range hh I 0 1 n, hsl, fun i h st b hb => by rw [List.mem_singleton.mp hb]; exact ⟨_, st⟩, hst, fun b hb => by rw [List.mem_singleton.mp hb]; exact hI', ?_, ?_⟩
  · rintro C X' j v s₃ E' hC hj ⟨t, rfl⟩ hX hk₃ ⟨h3, t3, rfl⟩
    have ej : (0 : Int) + (j : Int) * 1 = (j : Int) := by omega
    rw [ej] at hX
    have kk : Keep s.heap h3 := fun b o e => hk₃ b o (off b o e) (hkk b o e)
    refine hinner C X' j t _ E' _ hj hX kk ⟨_, _, rfl⟩ fun D h' tk ob hD hD' hi hk' => ⟨⟨h', tk, rfl, hk'⟩, fun h'' hrob => ?_⟩
    exact ⟨D, ob, rfl, hrob D _ (.inl hD) hD', hi, old_none kk hD⟩
  · rintro D h' tk ys hD ⟨k, hpl⟩ hlen hel hk'
    exact hQ D h' tk ys k (old_none hkk hD) hpl hlen hel fun b o e => hk' b o (off b o e) (hkk b o e)
end
end Mine
end
section
open PySem PySem.W PyProof.Rows PySem.Calls
set_option Elab.async false
set_option maxRecDepth 100000 
set_option maxHeartbeats 8000000 
namespace Mine
noncomputable def gap (g : Nat → List Int) (j : Nat) : List Int := (List.range 16).map fun i => (g j).getD i 0 - (g ((j + 1) % 3)).getD i 0
noncomputable def IsTupOf (ns : List Int) (ob : Obj) : Prop := ∃ vs k, ob = { cls := .type "tuple", data := .seq vs.toArray k } ∧ IntsAre vs ns
section
variable {w : World} {mg mb : Str → Option Value} {p : Program} {loose : List Str} 
    {s : Shared} {Q : Value → Shared → Prop} {E : Value → Shared → Prop} {d : Nat} {fr : Option (List Env)} {gs : Option (List Code)} {u : Nat}
theorem ref3_get {r : Nat → Addr} {j : Nat} (h : j < 3) : [Value.ref (r 0), .ref (r 1), .ref (r 2)][j]? = some (.ref (r j)) := by
  rcases lt3 h with rfl | rfl | rfl <;> rfl
theorem item_ref3 {prog : Program} {A : Around} {value slice : PySem.Expr} {l : Addr} {r : Nat → Addr} {i : Nat} {k : Int} {t : Tok} {Q : Value → Shared → Prop} (hl : s.heap.IsList l [Value.ref (r 0), .ref (r 1), .ref (r 2)].toArray) (hk : k = (i : Int)) (hi : i < 3)
    (h : Q (.ref (r i)) s)
    (hs : subscripted slice false (.ref l) (.int k t) = operate [.ref l, .int k t] (getItem (.ref l) (.int k t)) := by with_unfolding_all rfl) :
    wpAny (model prog w) A (subscriptTail value slice (.ref l) (.int k t)) Q E s := by
  subst hk
  exact item_litK hl (by omega) (by omega) (by rw [Int.toNat_natCast]; exact ref3_get hi) h hs
theorem fmod3 (j : Nat) : ((j : Int) + 1).fmod 3 = (((j + 1) % 3 : Nat) : Int) := by
  rw [Int.fmod_eq_emod_of_nonneg _ (by decide)]; omega
theorem gaps_call {a : Addr} {r : Nat → Addr} {vv : Nat → List Value} {g : Nat → List Int}
    (X : (hd.heap_39 w.params).In s.heap) (T : TopRead p loose mg mb s.heap) (hlim : s.heap.NoLimit) (hroom : d + 20 < recursionLimit) 
    (ha : s.heap.IsList a [Value.ref (r 0), .ref (r 1), .ref (r 2)].toArray) (hr : ∀ j, j < 3 → s.heap.IsList (r j) (vv j).toArray ∧ IntsAre (vv j) (g j) ∧ (g j).length = 16)
    (hQ : ∀ D h' tk ys k, s.heap.get? D = none → h'.get? D = some (listOf ys k) → ys.size = 3 → (∀ j, j < 3 → ∃ y, ys[j]? = some y ∧ IsNew s.heap (IsTupOf (gap g j)) y h') → Keep s.heap h' → Q (.ref D) { s with heap := h', toks := tk }) :
    wpAny (model PR w) (AR d fr gs u) (call (.ref 127) [.ref a]) Q E s := by
  (have kz := kzz; revert kz; k_fill; intro kz; clear kz; refine' call_roN ?k1 ?k2 ?k6 ?k7 ?k8 ?k9 ?kB ?kD ?c2 ?c3 ?c4 ?_; (case k1 => k_asm); (case k2 => assumption); (case k6 => k_is); (case k7 => k_is); (case k8 => k_room); (case k9 => first | exact BindsTo.of_eq rfl | (refine' kp_binds ?kx ?ke; (case kx => k_in); (case ke => exact fun _ => rfl)) | fail "k_enter: no rule for these arguments"); (case kB => exact rfl); (case kD => decide +kernel); (case c2 => exact rfl); (case c3 => exact rfl); (case c4 => exact rfl); k_whole; intro L' h' tk' cells' F' N' Y'; k_cells Y'; (try simp only [List.cons_append, List.nil_append] at N'); (try dsimp only); (try k_fold))
  (with_reducible rename Fr _ _ _ _ => kF)
  (with_reducible rename News _ _ _ _ => kN)
  have hcell := kN _ (List.Mem.head _)
  have X' := X.keeps kF.keep
  have T' := T.keeps kF.keep
  refine wpAny_execs_cons (wpAny_Return_some ?_)
  with_unfolding_all refine' compRC (n := 3) (fun j => IsTupOf (gap g j)) X' T' ?er ?hg ?hb ?hk ?hxr ?hsm ?hsz ?hsl ?hh ?hclos ?hkind ?hnames ?hone ?hpush ?hkx ?hinner ?hQ ?hs
  case er => k_is
  case hg => rfl
  case hb => rfl
  case hk => rfl
  case hxr => rfl
  case hsm => decide +kernel
  case hsz => decide +kernel
  case hsl => decide +kernel
  case hh => rfl
  case hclos => rfl
  case hkind => rfl
  case hnames => decide
  case hone => exact fun n => rfl
  case hpush => exact fun _ => rfl
  case hkx => rfl
  case hs => exact fun _ => rfl
  case hinner =>
    rintro C X1 j t s₃ E' Q' hj hX1 hk₃ ⟨h3, tk3, rfl⟩ hQ'
    have X3 := X'.keeps hk₃
    have T3 := T'.keeps hk₃
    refine Call_ (name_b X3 T3 (by k_is) rfl (by boot_fast) (by decide) rfl rfl rfl (by decide) (call_t1 rfl ?_))
    with_unfolding_all refine' compR (n := 16) (fun i => (g j).getD i 0 - (g ((j + 1) % 3)).getD i 0) X3 T3 ?zer ?zhg ?zhb ?zhk ?zhxr ?zhsm ?zhsz ?zhsl ?zhh ?zhclos ?zhkind ?zhnames ?zhcell ?zhx ?zhelt ?zhQ ?zhs
    case zer => k_is
    case zhg => rfl
    case zhb => rfl
    case zhk => rfl
    case zhxr => rfl
    case zhsm => decide +kernel
    case zhsz => decide +kernel
    case zhsl => decide +kernel
    case zhh => rfl
    case zhclos => rfl
    case zhkind => rfl
    case zhnames => decide
    case zhcell => decide
    case zhx => rfl
    case zhs => exact fun _ => rfl
    case zhQ =>
      intro D h' tk vs k hD hg hi hk
      have hl : h'.IsList D vs.toArray := ⟨_, hg, rfl, _, rfl⟩
      have hlen : vs.toArray.size ≤ sizeLine := by rw [List.size_toArray, hi.length, List.length_map, List.length_range]; decide +kernel
      refine call_tuple_list hl (fun h4 hk4 => ?_) hlen
      refine hQ' h4.objs.size _ tk { cls := .type "tuple", data := .seq vs.toArray } ?_ (Heap.get?_push_size _ rfl) ⟨vs, _, rfl, hi⟩ fun b o e => Heap.get?_push_of_some _ (hk4 _ _ (hk _ _ e))
      cases q : h3.get? h4.objs.size with
      | none => rfl
      | some o => exact absurd (Heap.lt_size (hk4 _ _ (hk _ _ q))) (Nat.lt_irrefl _)
    case zhelt =>
      rintro C2 m i ti s₄ E2 Q2 hi hn hm hk₄ ⟨h4, tk4, rfl⟩ hQ2
      have hj' : (j + 1) % 3 < 3 := Nat.mod_lt _ (by decide)
      have KK : Keep s.heap h4 := fun b o e => hk₄ _ _ (hk₃ _ _ (kF.keep _ _ e))
      have cC : h4.IsCell (_ + 1) (some (.ref a)) := ⟨_, hk₄ _ _ (hk₃ _ _ hcell.1), by assumption⟩
      have cJ : h4.IsCell X1 (some (.int (j : Int) t)) := let ⟨o, ho, r⟩ := hX1; ⟨o, hk₄ _ _ ho, r⟩
      have hl : h4.IsList a [Value.ref (r 0), .ref (r 1), .ref (r 2)].toArray := ha.at fun o e => KK _ o e
      have row : ∀ j, j < 3 → h4.IsList (r j) (vv j).toArray := fun j h => (hr j h).1.at fun o e => KK _ o e
      have len : ∀ j, j < 3 → 0 ≤ (i : Int) ∧ (i : Int) < (g j).length ∧ (g j).length ≤ 1000 := fun j h => by rw [(hr j h).2.2]; omega
      refine wpAny_BinOp (Subscript_ (Subscript_ (wpAny_Name (wpAny_loadName_cell rfl rfl rfl cC ?_) (by decide))))
      refine wpAny_Name (wpAny_loadName_cell rfl rfl rfl cJ ?_) (by decide)
      refine item_ref3 hl rfl hj ?_
      refine wpAny_Name (wpAny_loadName_local rfl rfl hn hm ?_) (by decide)
      refine item_ints (row j hj) (hr j hj).2.1 (len j hj) fun t1 => ?_
      refine Subscript_ (Subscript_ (wpAny_Name (wpAny_loadName_cell rfl rfl rfl cC ?_) (by decide)))
      refine wpAny_BinOp (wpAny_BinOp (wpAny_Name (wpAny_loadName_cell rfl rfl rfl cJ ?_) (by decide)))
      refine wpAny_Constant_int (add_int (wpAny_Constant_int (mod_int' (by decide) ?_)))
      refine item_ref3 hl (fmod3 j) hj' ?_
      refine wpAny_Name (wpAny_loadName_local rfl rfl hn hm ?_) (by decide)
      refine item_ints (row _ hj') (hr _ hj').2.1 (len _ hj') fun t2 => ?_
      refine sub_int' ?_
      exact hQ2 _ _ _ fun _ _ e => e
  case hQ =>
    intro D h' tk ys k hD hg hlen hel hk
    refine hQ D h' tk ys k (old_none kF.keep hD) hg hlen (fun j hj => ?_) fun b o e => hk _ _ (kF.keep _ _ e)
    obtain ⟨y, hy, R, ob, e1, e2, e3, e4⟩ := hel j hj
    exact ⟨y, hy, R, ob, e1, e2, e3, old_none kF.keep e4⟩
end
end Mine
end
local macro_rules | `(tactic| walk_at "pad 30") => `(tactic| fail)
section
open PySem PySem.W PyProof.Rows PySem.Calls
set_option Elab.async false
set_option maxRecDepth 100000 
namespace Mine
section
variable {prog : Program} {w : World} {A : Around} {E : Value → Shared → Prop} {s : Shared} {env : Env}
noncomputable def qV (q : Int → Bool) (v : Value) : Bool := match v with | .int a _ => q a | _ => false
theorem paired_len {F : Value → Value → Prop} : ∀ {l l' : List Value}, Paired F l l' → l.length = l'.length := fun h => h.length
theorem filter_qV (q : Int → Bool) : ∀ {vs : List Value} {ns : List Int}, IntsAre vs ns → (vs.filter (qV q)).length = (ns.filter q).length
  | _, _, .nil => rfl
  | _, _, .cons a t h => by
    have ih := filter_qV q h
    have e : qV q (.int a t) = q a := rfl
    cases hq : q a with
    | true => rw [List.filter_cons_of_pos (by rw [e]; exact hq), List.filter_cons_of_pos hq, List.length_cons, List.length_cons, ih]
    | false => rw [List.filter_cons_of_neg (by rw [e, hq]; decide), List.filter_cons_of_neg (by rw [hq]; decide), ih]
theorem compF {test iter : Expr} {x : Str} {px p2 : Pos} {scope : Scope} {cl : List (Str × Addr)} {pos : Pos} {Q : Value → Shared → Prop} {S : Addr} {vs : List Value} {ns : List Int} (q : Int → Bool)
    (hh : A.handled = none)
    (hclos : closureFor scope env = pure cl) (hkind : scope.kind = .function) (hnames : ∀ y ∈ scope.names, y.2 = .local → scope.names.lookup y.1 = some .local)
    (hcell : ∀ y ∈ scope.names, y.2 ≠ .cell) (hx : scope.names.lookup x = some .local) (hxd : (x == ("__debug__" : Str)) = false)
    (hs : ∀ x, foldedSetIterable iter env x = pure x)
    (hsrc : ∀ R : Value → Shared → Prop, R (.ref S) s → wpAny (model prog w) A (eval iter env) R E s)
    (hS : s.heap.IsList S vs.toArray) (hi : IntsAre vs ns) (hsz : ns.length ≤ sizeLine)
    (htest : ∀ C m a t s₃ E' (Q' : Bool → Shared → Prop), s₃.heap.Ns C m → m x = some (.int a t) → Keep s.heap s₃.heap → (∀ tk, Q' (q a) { s₃ with toks := tk }) → wpAny (model prog w) A (isTrue test (compEnvC scope cl C env) (eval test (compEnvC scope cl C env))) Q' E' s₃)
    (hQ : ∀ D h' tk ys, s.heap.get? D = none → h'.IsList D ys → ys.size = (ns.filter q).length → Keep s.heap h' → Q (.ref D) { s with heap := h', toks := tk }) :
    wpAny (model prog w) A (eval (.ListComp (.Name x p2) [⟨.Name x px, iter, [test], 0⟩] scope pos) env) Q E s := by
  refine wpAny_ListComp_free (qV q) (fun v y => v = y) hclos hcell hkind hnames hx (hsrc _ (list_iter hS fun I h₂ hI hI' hSlt hk hst => ?_)) hs
  have W := Walks.list (prog := prog) (w := w) (A := A) hh I S (Nat.ne_of_lt (Nat.lt_of_lt_of_le hSlt hI)) vs.toArray
  rw [show vs.toArray.size = ns.length by rw [List.size_toArray]; exact hi.length] at W
  have off : ∀ b o, s.heap.get? b = some o → b ∉ [I] := fun b o e => not_in_one hI e
  refine ⟨I, _, _, ns.length, _, _, rfl, W, hsz, hst, fun b hb => ?_, ⟨?_, ?_⟩, ?_⟩
  · rcases List.mem_cons.mp hb with rfl | hb
    · exact hI'
    · rw [List.mem_singleton.mp hb]; exact Nat.lt_of_lt_of_le hSlt (Nat.le_of_lt (Nat.lt_of_le_of_lt hI hI'))
  · intro C i v s₃ m₃ E' hC hP hn hm hk₃ htk
    obtain ⟨t, rfl⟩ : ∃ t, v = .int (ns.getD i 0) t := hi.int_at i v (by simpa using hP)
    refine wpAny_tests_one (htest C m₃ _ t s₃ E' _ hn hm (fun b o e => hk₃ b o (off b o e) (hk b o e)) fun tk => ⟨rfl, s₃.heap, tk, rfl, fun b o e => e⟩)
  · intro C i v s₃ m₃ E' hC hP hp hn hm hk₃ htk
    exact wpAny_Name (wpAny_loadName_local (by simp [compEnvC, relabel, hkind]) (lookup_relabel_local hx) hn hm ⟨rfl, s₃.heap, s₃.toks, rfl, fun b o e => e⟩) hxd
  · intro D h' tk ys vs' hD hl hpl hlen hP hF hk'
    refine hQ D h' tk ys (old_none hk hD) hl ?_ fun b o e => hk' b o (off b o e) (hk b o e)
    have e : vs' = vs := by
      apply List.ext_getElem?
      intro i
      by_cases h : i < vs'.length
      · have := hP i _ (List.getElem?_eq_getElem h)
        rw [List.getElem?_eq_getElem h]
        simpa using this.symm
      · rw [List.getElem?_eq_none (by omega), List.getElem?_eq_none (by rw [hi.length]; omega)]
    rw [e] at hF
    have := hF.length
    rw [filter_qV q hi, Array.length_toList] at this
    exact this.symm
end
end Mine
end
section
open PySem PySem.W PyProof.Rows PySem.Calls
set_option Elab.async false
set_option maxRecDepth 100000 
set_option maxHeartbeats 8000000 
namespace Mine
section
variable {w : World} {mg mb : Str → Option Value} {p : Program} {loose : List Str} 
    {s : Shared} {Q : Value → Shared → Prop} {E : Value → Shared → Prop} {d : Nat} {fr : Option (List Env)} {gs : Option (List Code)} {u : Nat}
theorem ways_call {a b : Addr} {va vb : List Value} {na nb : List Int}
    (X : (hd.heap_39 w.params).In s.heap) (T : TopRead p loose mg mb s.heap) (hlim : s.heap.NoLimit) (hroom : d + 20 < recursionLimit) 
    (ha : s.heap.IsList a va.toArray) (hia : IntsAre va na) (hla : na.length = 3) (hb : s.heap.IsList b vb.toArray) (hib : IntsAre vb nb) (hlb : nb.length = 3)
    (hQ : ∀ h' tk t, Keep s.heap h' → Q (.int (ways na nb) t) { s with heap := h', toks := tk }) :
    wpAny (model PR w) (AR d fr gs u) (call (.ref 122) [.ref a, .ref b]) Q E s := by
  obtain ⟨a0, a1, a2, rfl⟩ := three hla
  obtain ⟨b0, b1, b2, rfl⟩ := three hlb
  obtain ⟨t0, va', rfl, hia'⟩ : ∃ t0 va', va = .int a0 t0 :: va' ∧ IntsAre va' [a1, a2] := by cases hia; exact ⟨_, _, rfl, by assumption⟩
  obtain ⟨t1, va'', rfl, hia''⟩ : ∃ t0 va'', va' = .int a1 t0 :: va'' ∧ IntsAre va'' [a2] := by cases hia'; exact ⟨_, _, rfl, by assumption⟩
  obtain ⟨t2, rfl⟩ : ∃ t0, va'' = [.int a2 t0] := by cases hia''; rename_i h; cases h; exact ⟨_, rfl⟩
  obtain ⟨t3, vb', rfl, hib'⟩ : ∃ t0 va', vb = .int b0 t0 :: va' ∧ IntsAre va' [b1, b2] := by cases hib; exact ⟨_, _, rfl, by assumption⟩
  obtain ⟨t4, vb'', rfl, hib''⟩ : ∃ t0 va'', vb' = .int b1 t0 :: va'' ∧ IntsAre va'' [b2] := by cases hib'; exact ⟨_, _, rfl, by assumption⟩
  obtain ⟨t5, rfl⟩ : ∃ t0, vb'' = [.int b2 t0] := by cases hib''; rename_i h; cases h; exact ⟨_, rfl⟩
  clear hia' hia'' hib' hib''
  (have kz := kzz; revert kz; k_fill; intro kz; clear kz; refine' call_roN ?k1 ?k2 ?k6 ?k7 ?k8 ?k9 ?kB ?kD ?c2 ?c3 ?c4 ?_; (case k1 => k_asm); (case k2 => assumption); (case k6 => k_is); (case k7 => k_is); (case k8 => k_room); (case k9 => first | exact BindsTo.of_eq rfl | (refine' kp_binds ?kx ?ke; (case kx => k_in); (case ke => exact fun _ => rfl)) | fail "k_enter: no rule for these arguments"); (case kB => exact rfl); (case kD => decide +kernel); (case c2 => exact rfl); (case c3 => exact rfl); (case c4 => exact rfl); k_whole; intro L' h' tk' cells' F' N' Y'; k_cells Y'; (try simp only [List.cons_append, List.nil_append] at N'); (try dsimp only); (try k_fold))
  k_steps
  (with_reducible rename Fr _ _ _ _ => kF)
  (with_reducible rename News _ _ _ _ => kN)
  have hcell := kN _ (List.Mem.head _)
  with_unfolding_all refine' assign2 (S1 := a) (S2 := b) (it1 := [Value.int a0 t0, .int a1 t1, .int a2 t2].toArray) (it2 := [Value.int b0 t3, .int b1 t4, .int b2 t5].toArray) (n1 := 3) (n2 := 3) (f := fun i j => ([a0, a1, a2].getD i 0 - [b0, b1, b2].getD j 0 - 9).fmod 16) ?hh ?hsw ?hz ?hp ?hclos ?hkind ?hnames ?hcell ?hx ?hy ?hxy ?hs1 ?hs2 rfl rfl ?hsz ?hsrc1 ?hsrc2 ?hS1 ?hS2 kF.ns ?helt ?hQ
  case hh => rfl
  case hsw => rfl
  case hz => rfl
  case hp => rfl
  case hclos => rfl
  case hkind => rfl
  case hnames => decide
  case hcell => decide
  case hx => rfl
  case hy => rfl
  case hxy => decide
  case hs1 => exact fun _ => rfl
  case hs2 => exact fun _ _ => rfl
  case hsz => decide +kernel
  case hsrc1 => exact fun Q' hq => wpAny_Name (wpAny_loadName_local rfl rfl kF.ns (by with_unfolding_all rfl) hq) (by decide)
  case hsrc2 => exact fun C s₃ E' Q' hk hq => wpAny_Name (wpAny_loadName_cell rfl rfl (by with_unfolding_all rfl) ⟨_, hk _ _ hcell.1, by assumption⟩ hq) (by decide)
  case hS1 => exact ha.at fun o e => kF.keep _ o e
  case hS2 => exact hb.at fun o e => kF.keep _ o e
  case helt =>
    intro C i j v u s₃ E' hi hj hv hu ⟨m, hn, h1, h2⟩
    obtain ⟨t, rfl⟩ := hia.int_at i v (by simpa using hv)
    obtain ⟨t', rfl⟩ := hib.int_at j u (by simpa using hu)
    refine wpAny_BinOp (wpAny_BinOp (wpAny_BinOp (wpAny_Name (wpAny_loadName_local rfl rfl hn h1 ?_) (by decide))))
    refine wpAny_Name (wpAny_loadName_local rfl rfl hn h2 ?_) (by decide)
    refine sub_int' (wpAny_Constant_int (sub_int' (wpAny_Constant_int (mod_int' (by decide) ⟨⟨_, rfl⟩, _, rfl⟩))))
  case hQ =>
    intro D h' tk vs k hD hg hints hns hk
    have F' := fr_assign kF hns hk
    have N' := news_assign kF kN hk hD hg
    clear kF kN hns hk
    dsimp only
    have hl : h'.IsList D vs.toArray := ⟨_, hg, rfl, _, rfl⟩
    refine wpAny_execs_cons (wpAny_Return_some (Call_ (name_b (X.keeps F'.keep) (T.keeps F'.keep) (by k_is) rfl (by boot_fast) (by decide) rfl rfl rfl (by decide) (call_b1 rfl ?_))))
    refine compI (fun a => a * (16 - a)) rfl rfl rfl (by decide) (by decide) rfl (fun _ => rfl) (fun R hR => wpAny_Name (wpAny_loadName_local rfl rfl F'.ns (by with_unfolding_all rfl) hR) (by decide)) hl hints (show (9 : Nat) ≤ sizeLine by decide +kernel) ?_ ?_
    · intro C m a t s₃ E' Q' hn hm ha' hQ'
      have hb1 : IntMulOk a (16 - a) := by
        refine IntMulOk.of_left (intBits_le_64 ?_ ?_) <;>
        · simp only [flatI, List.mem_flatMap, List.mem_map] at ha'
          obtain ⟨i, _, j, _, rfl⟩ := ha'
          have := Int.fmod_nonneg_of_pos ([a0, a1, a2].getD i 0 - [b0, b1, b2].getD j 0 - 9) (show (0 : Int) < 16 by decide)
          have := Int.fmod_lt_of_pos ([a0, a1, a2].getD i 0 - [b0, b1, b2].getD j 0 - 9) (show (0 : Int) < 16 by decide)
          omega
      exact wpAny_BinOp (wpAny_Name (wpAny_loadName_local rfl rfl hn hm (wpAny_BinOp (wpAny_Constant_int (wpAny_Name (wpAny_loadName_local rfl rfl hn hm (sub_int' (PyProof.Rows.mul_int (hQ' _ _) hb1))) (by decide))))) (by decide))
    · intro D₂ h₂ tk₂ vs₂ k₂ hD₂ hg₂ hi₂ hk₂
      refine sum_arr rfl ⟨_, hg₂, rfl, _, rfl⟩ (by simpa using hi₂) fun h₃ tk₃ v t hk₃ hv => ?_
      subst hv
      exact hQ h₃ tk₃ t fun b o e => hk₃ _ _ (hk₂ _ _ (F'.keep _ _ e))
end
end Mine
end
local macro_rules | `(tactic| walk_at "pad 31") => `(tactic| fail)
section
open PySem PySem.W PyProof.Rows PySem.Calls PySem.SeqAt
set_option Elab.async false
set_option maxRecDepth 100000 
namespace Mine
theorem booked_of {w : World} {h : Heap} (X : (hd.heap_39 w.params).In h) (hl : h.NoLimit) : NoneBooked h := by
  obtain ⟨mc, hn, _⟩ := hl
  refine ⟨mc, hn, ?_⟩
  obtain ⟨o, es, ep, ho, hd', hk, hf⟩ := hn
  have e : ∃ ob, (hd.heap_39 w.params).lookup cStatics = some ob ∧ ∃ es' ep', ob.data = .dict es' ep' ∧ nsFind es' sharingNotToldKey = none := ⟨_, rfl, _, _, rfl, rfl⟩
  obtain ⟨ob, e1, es', ep', e2, e3⟩ := e
  have := X _ _ e1
  rw [ho] at this
  cases this
  rw [hd'] at e2
  cases e2
  rw [← hf]; exact e3
section
variable {prog : Program} {w : World} {A : Around} {E : Value → Shared → Prop} {s : Shared}
theorem created_any {c : Bool} {u v : Tok} {Q : Bool → Shared → Prop} (hu : u ≠ 0) (hv : v ≠ 0) (hb : NoneBooked s.heap) (hq : ∀ b, Q b s) : wpAny (model prog w) A (isSame.created c u v) Q E s := by
  unfold isSame.created
  refine wpAny_ite ?_
  split
  · rename_i h
    simp only [Bool.or_eq_true, beq_iff_eq] at h
    rcases h with h | h
    · exact absurd h hu
    · exact absurd h hv
  refine wpAny_ite ?_
  split
  · exact wpAny_pure (hq _)
  refine wpAny_ite ?_
  split
  · exact wpAny_pure (hq _)
  refine wpAny_bind (wpAny_sharingNotTold_none hb ?_)
  first | rw [if_neg Bool.false_ne_true] | simp only [Bool.false_eq_true, if_false]
  refine wpAny_bind (wpAny_sharingNotTold_none hb ?_)
  first | rw [if_neg Bool.false_ne_true] | simp only [Bool.false_eq_true, if_false]
  exact wpAny_bind (wpAny_rule (wpAny_bind (wpAny_askSetting (wpAny_pure (hq _)))))
theorem eqAt_float {p q : UInt64} {t u : Tok} (hc : (Float64.cmp p q == some Ordering.eq) = true) (ht : t ≠ 0) (hu : u ≠ 0) (hb : NoneBooked s.heap) : EqAt A s (.float p t) (.float q u) true := fun prog w E Q h => by
  unfold eqBool
  refine wpAny_holding ?_
  refine wpAny_ite_split (fun hab => ?_) (fun _ => ?_)
  · exact wpAny_bind (wpAny_rule (wpAny_pure h))
  · have fin : wpAny (model prog w) A (richCompare .Eq (.float p t) (.float q u) >>= fun r => truthOfDropped r) Q E s := by
      refine wpAny_bind (AutoFloatOps.eq_0 (E := E) ?_)
      rw [hc]
      exact wpAny_truthy_bool h
    dsimp only
    refine wpAny_bind ?_
    show wpAny _ A (isSame.created _ t u) _ _ _
    refine created_any ht hu hb fun b => ?_
    refine wpAny_ite ?_
    cases b with
    | true => exact wpAny_pure h
    | false => exact fin
theorem eqAt_float_int {p : UInt64} {t u : Tok} {i : Int} (hc : (Float64.cmpInt p i == some Ordering.eq) = true) : EqAt A s (.float p t) (.int i u) true := fun prog w E Q h => by
  unfold eqBool
  refine wpAny_holding ?_
  refine wpAny_ite_split (fun hab => absurd (eq_of_beq hab) nofun) (fun _ => ?_)
  refine wpAny_bind (eq_fi (E := E) ?_)
  rw [hc]
  exact wpAny_truthy_bool h
theorem tup_ne3 {a b : Addr} {x0 x1 x2 y0 y1 y2 : Value} {Q : Value → Shared → Prop} (ha : IsTup s.heap a [x0, x1, x2].toArray) (hb : IsTup s.heap b [y0, y1, y2].toArray) (hu : A.units < cLine)
    (h0 : EqAt A.in1 s x0 y0 true) (h1 : EqAt A.in1 s x1 y1 true) (h2 : EqAt A.in1 s x2 y2 true) (h : Q (.bool false) s) : wpAny (model prog w) A (compareOp .NotEq (.ref a) (.ref b)) Q E s := by
  refine RcNeAt.tuples (A := A) (e := fun _ => true) ha hb hu (fun j h1' h2' => ?_) prog w E Q ?_
  · match j, h1' with
    | 0, _ => exact h0
    | 1, _ => exact h1
    | 2, _ => exact h2
    | n + 3, hh => exact absurd hh (by simp)
  · exact h
end
end Mine
end
section
open PySem PySem.W PyProof.Rows PySem.Calls
set_option Elab.async false
set_option maxRecDepth 100000 
set_option maxHeartbeats 8000000 
namespace Mine
structure GreyOk (l : UInt64) : Prop where
  same : (Float64.cmp (min3F l l l) (max3F l l l) == some Ordering.eq) = true
  half : (Float64.cmp (Float64.div (Float64.add (max3F l l l) (min3F l l l)) cTwo) l == some Ordering.eq) = true
  self : (Float64.cmp l l == some Ordering.eq) = true
noncomputable def greyB (l : UInt64) : Bool := (Float64.cmp (min3F l l l) (max3F l l l) == some Ordering.eq) && (Float64.cmp (Float64.div (Float64.add (max3F l l l) (min3F l l l)) cTwo) l == some Ordering.eq) && (Float64.cmp l l == some Ordering.eq)
theorem grey_all : ((List.range 7).all fun i => greyB (Float64.ofFrac false (i + 1) (7 + 1))) = true := by decide +kernel
theorem grey_ok {l : Int} (hl : 0 ≤ l ∧ l < 7) : GreyOk (Float64.ofFrac false (1 + l).toNat (7 + 1)) := by
  have h := List.all_eq_true.mp grey_all l.toNat (List.mem_range.mpr (by omega))
  rw [show l.toNat + 1 = (1 + l).toNat by omega] at h
  unfold greyB at h
  simp only [Bool.and_eq_true] at h
  exact ⟨h.1.1, h.1.2, h.2⟩
theorem zero_is : (Float64.cmpInt cZero 0 == some Ordering.eq) = true := by decide +kernel
section
variable {w : World} {mg mb : Str → Option Value} {p : Program} {loose : List Str} {mean : ExcName → Option Value}
    {s : Shared} {Q : Value → Shared → Prop} {E : Value → Shared → Prop} {d : Nat} {fr : Option (List Env)} {gs : Option (List Code)} {u : Nat}
local macro_rules | `(tactic| walk_at "call builtin:max") => `(tactic| (
  k_dflt (refine' max3_call rfl ?_); intro h' tk' t' hk';
  (with_reducible rename Fr _ _ _ _ => kF); (with_reducible rename News _ _ _ _ => kN); (have F' := Fr.keeps kF hk'); (have N' := News.grown kN hk'); (clear kF kN)))
local macro_rules | `(tactic| walk_at "call builtin:min") => `(tactic| (
  k_dflt (refine' min3_call rfl ?_); intro h' tk' t' hk';
  (with_reducible rename Fr _ _ _ _ => kF); (with_reducible rename News _ _ _ _ => kN); (have F' := Fr.keeps kF hk'); (have N' := News.grown kN hk'); (clear kF kN)))
local macro_rules | `(tactic| walk_at "binaryOp Div float float") => `(tactic| (
  k_dflt (refine' AutoFloatOps.truediv_1 ?hc0 ?_; (case hc0 => with_reducible exact isZero_two); (try dsimp only [Made.post]))))
local macro_rules | `(tactic| walk_at "ite") => `(tactic| ((with_reducible rename GreyOk _ => hG); k_dflt (refine' PySem.W.kdb_pos (GreyOk.same hG) ?_)))
theorem grey_call {l : UInt64} {t1 t2 t3 : Tok} 
    (X : (hd.heap_39 w.params).In s.heap) (T : Top p loose mean mg mb s.heap) (hroom : d + 10 < recursionLimit) (hg : GreyOk l)
    (hQ : ∀ h' tk a x y z l', Keep s.heap h' → s.heap.get? a = none → h'.get? a = some (tup3 (.float cZero x) (.float l' y) (.float cZero z)) → y ≠ 0 → (Float64.cmp l' l == some Ordering.eq) = true → Q (.ref a) { s with heap := h', toks := tk }) :
    wpAny (model PR w) (AR d fr gs u) (call (.ref 49) [.float l t1, .float l t2, .float l t3]) Q E s := by
  (have kz := kzz; revert kz; k_fill; intro kz; clear kz; refine' call_ro ?k1 ?k2 ?k6 ?k7 ?k8 ?k9 ?kB ?c2 ?c3 ?c4 ?c5 ?_; (case k1 => k_asm); (case k2 => k_asm); (case k6 => k_is); (case k7 => k_is); (case k8 => k_room); (case k9 => first | exact BindsTo.of_eq rfl | exact binds_K (by k_in) rfl (by k_is) rfl rfl rfl | fail "k_enter: no rule for these arguments"); (case c5 => decide); (case kB => exact locs rfl); (case c2 => exact rfl); (case c3 => exact rfl); (case c4 => exact rfl); k_whole; intro L' h' F' N'; (try dsimp only); (try k_fold))
  k_steps
  all_goals (try (k_unfold; dsimp only))
  (with_reducible rename News _ _ _ _ => kN)
  have kz := kN _ (List.Mem.head _)
  (with_reducible rename Fr _ _ _ _ => kF)
  (with_reducible rename GreyOk _ => hG)
  exact hQ _ _ _ _ _ _ _ kF.keep kz.2.2 kz.1 (Nat.succ_ne_zero _) hG.half
end
end Mine
end
local macro_rules | `(tactic| walk_at "pad 32") => `(tactic| fail)
local macro_rules | `(tactic| walk_at "pad 33") => `(tactic| fail)
local macro_rules | `(tactic| walk_at "pad 34") => `(tactic| fail)
local macro_rules | `(tactic| walk_at "pad 35") => `(tactic| fail)
local macro_rules | `(tactic| walk_at "pad 36") => `(tactic| fail)
section
open PySem PySem.W PyProof.Rows PySem.Calls
set_option Elab.async false
set_option maxRecDepth 100000 
namespace Mine
section
variable {h₀ h h' : Heap} {L a : Addr} {o o' : Obj} {m : Str → Option Value} {news news' : List (Addr × Obj)}
theorem upd_mem {news news' : List (Addr × Obj)} (U : Upd a o o' news news') : (a, o) ∈ news := by
  obtain ⟨pre, post, rfl, rfl, _, _⟩ := U.split
  exact List.mem_append.mpr (.inr (.head _))
theorem news_put (U : Upd a o o' news news') (N : News h₀ L h news) (hk : ∀ b o, h.get? b = some o → b ≠ a → h'.get? b = some o) (hg : h'.get? a = some o') : News h₀ L h' news' := by
  obtain ⟨pre, post, rfl, rfl, h1, h2⟩ := U.split
  intro p hp
  rcases List.mem_append.mp hp with hp | hp
  · have := N p (List.mem_append.mpr (.inl hp))
    exact ⟨hk _ _ this.1 (h1 p hp), this.2⟩
  rcases List.mem_cons.mp hp with rfl | hp
  · have := N (a, o) (List.mem_append.mpr (.inr (.head _)))
    exact ⟨hg, this.2⟩
  · have := N p (List.mem_append.mpr (.inr (.tail _ hp)))
    exact ⟨hk _ _ this.1 (h2 p hp), this.2⟩
theorem fr_put (U : Upd a o o' news news') (F : Fr h₀ L h m) (N : News h₀ L h news) (hk : ∀ b o, h.get? b = some o → b ≠ a → h'.get? b = some o) : Fr h₀ L h' m := by
  have hm := N _ (upd_mem U)
  refine ⟨F.ns.at' fun o e => hk L o e (Ne.symm hm.2.1), fun b o e => hk b o (F.keep b o e) fun q => ?_, F.above⟩
  rw [q, hm.2.2] at e; cases e
theorem insK {G : Prop} (U : Upd a o o' news news') (F : Fr h₀ L h m) (N : News h₀ L h news) (hk : ∀ b o, h.get? b = some o → b ≠ a → h'.get? b = some o) (hg : h'.get? a = some o') (g : Fr h₀ L h' m → News h₀ L h' news' → G) : G :=
  g (fr_put U F N hk) (news_put U N hk hg)
end
theorem allNe_l {d b : Addr} {o : Obj} {l : List (Addr × Obj)} (h : AllNe d l) (hm : (b, o) ∈ l) : @Ne Nat d b := Ne.symm (h.off _ hm)
theorem pal_len {vp vs vf : List Value} {P S Fc : List Int} {n : Nat} (H : PalSt vp vs vf P S Fc n) (hn : n ≤ 3) : S.length ≤ 1000 ∧ Fc.length ≤ 1000 ∧ P.length ≤ 1000 := by
  have := H.short
  have := H.len
  omega
theorem app_room {vs : List Value} {ns : List Int} (h : IntsAre vs ns) (hl : ns.length ≤ 1000) : vs.toArray.size ≤ sizeLine := by
  have := h.length
  rw [List.size_toArray, this, sizeLine_eq]; omega
theorem contains_ne {l : List Str} {y : Str} (h : l.contains y = false) (z : Str) (hz : z ∈ l) : ¬ y = z := fun e => by
  subst e
  rw [List.contains_iff_mem.mpr hz] at h
  cases h
theorem div30 (x : Int) : (x * 2 ^ Int.toNat 30).fdiv (2 ^ Int.toNat 30) = x := by
  rw [Int.fdiv_eq_ediv_of_nonneg _ (by decide)]
  exact Int.mul_ediv_cancel _ (by decide)
theorem turn9_intro {h₀ : Heap} {env : Env} {x : Str} {stored : List Str} {m₀ m' : Str → Option Value} {keep news' : List (Addr × Obj)} {pa sa fa : Addr} {P S Fc S' F' : List Int} {n : Nat} {s : Shared} {h' : Heap} {tk : Nat} {vp vs vf vp' vs' vf' : List Value} {n1 n2 n3 : Nat} {a xs xf : Int} {L : Addr}
    (hL : env.locals = L) (F : Fr h₀ L h' m') (N : News h₀ L h' news') (i1 : (pa, lobj vp' n1) ∈ news') (i2 : (sa, lobj vs' n2) ∈ news') (i3 : (fa, lobj vf' n3) ∈ news') (hk : ∀ p ∈ keep, p ∈ news')
    (hm : ∀ y, y ≠ x → stored.contains y = false → m' y = m₀ y) (H : PalSt vp vs vf P S Fc n) (h1 : IntsAre vp' (P ++ [a])) (h2 : IntsAre vs' S') (h3 : IntsAre vf' F') (h4 : Sorted S') (h5 : Sorted F')
    (h6 : S'.Perm (xs :: S)) (h7 : F'.Perm (xf :: Fc)) (e1 : xs = a) (e2 : xf = (a + 8).fmod 16) (ha : 0 ≤ a ∧ a < 16) :
    Turn9 h₀ env x stored m₀ keep pa sa fa P n s .next { s with heap := h', toks := tk } := by
  subst hL e1 e2
  exact ⟨rfl, h', tk, m', news', vp', vs', vf', n1, n2, n3, xs, S', F', rfl, F, N, i1, i2, i3, hk, hm, H.step h1 h2 h3 h4 h5 h6 h7 ha⟩
end Mine
end
section
open PySem PySem.W PyProof.Rows PySem.Calls PySem.SeqAt
set_option Elab.async false
set_option maxRecDepth 100000 
namespace Mine
section
variable {prog : Program} {w : World} {A : Around} {E : Value → Shared → Prop} {s : Shared} {env : Env}
theorem compLst {elt iter : Expr} {x : Str} {px : Pos} {scope : Scope} {cl : List (Str × Addr)} {pos : Pos} {Q : Value → Shared → Prop} {S : Addr} {items : Array Value} {n : Nat} (f : Nat → Int)
    (hh : A.handled = none)
    (hclos : closureFor scope env = pure cl) (hkind : scope.kind = .function) (hnames : ∀ y ∈ scope.names, y.2 = .local → scope.names.lookup y.1 = some .local)
    (hcell : ∀ y ∈ scope.names, y.2 ≠ .cell) (hx : scope.names.lookup x = some .local)
    (hs : ∀ x, foldedSetIterable iter env x = pure x)
    (hsrc : ∀ R : Value → Shared → Prop, R (.ref S) s → wpAny (model prog w) A (eval iter env) R E s)
    (hS : s.heap.IsList S items) (hn : items.size = n) (hsz : n ≤ sizeLine)
    (helt : ∀ C m i v s₃ E' (Q' : Value → Shared → Prop), i < n → items[i]? = some v → s₃.heap.Ns C m → m x = some v → Keep s.heap s₃.heap → (∃ h tk, s₃ = { s with heap := h, toks := tk }) → (∀ h' tk t', Keep s₃.heap h' → Q' (.int (f i) t') { s₃ with heap := h', toks := tk }) → wpAny (model prog w) A (eval elt (compEnvC scope cl C env)) Q' E' s₃)
    (hQ : ∀ D h' tk vs' k, s.heap.get? D = none → h'.get? D = some (listOf vs'.toArray k) → IntsAre vs' ((List.range n).map f) → Keep s.heap h' → Q (.ref D) { s with heap := h', toks := tk }) :
    wpAny (model prog w) A (eval (.ListComp elt [⟨.Name x px, iter, [], 0⟩] scope pos) env) Q E s := by
  refine gcompL hclos hkind hnames hcell hx (hsrc _ (list_iter hS fun I h₂ hI hI' hSlt hk hst => ?_)) hs
  have W := Walks.list (prog := prog) (w := w) (A := A) hh I S (Nat.ne_of_lt (Nat.lt_of_lt_of_le hSlt hI)) items
  rw [hn] at W
  have off : ∀ b o, s.heap.get? b = some o → b ∉ [I] := fun b o e => not_in_one hI e
  refine ⟨I, _, _, n, _, _, fun j y _ => ∃ t, y = .int (f j) t, rfl, W, hsz, fun i h st b hb => by rw [List.mem_singleton.mp hb]; obtain ⟨⟨o, ho, _⟩, _⟩ := st; exact ⟨o, ho⟩, hst, fun b hb => ?_, ?_, ?_⟩
  · rcases List.mem_cons.mp hb with rfl | hb
    · exact hI'
    · rw [List.mem_singleton.mp hb]; exact Nat.lt_of_lt_of_le hSlt (Nat.le_of_lt (Nat.lt_of_le_of_lt hI hI'))
  · rintro C j v s₃ E' hC hj hP ⟨m, hn', hm⟩ hk₃ ⟨h3, t3, rfl⟩
    exact helt C m j v _ E' _ hj hP hn' hm (fun b o e => hk₃ b o (off b o e) (hk b o e)) ⟨_, _, rfl⟩ fun h' tk t' hk' => ⟨⟨h', tk, rfl, hk'⟩, fun h'' _ => ⟨_, rfl⟩⟩
  · rintro D h' tk ys hD ⟨k, hpl⟩ hlen hel hk'
    refine hQ D h' tk ys.toList k (old_none hk hD) hpl ?_ fun b o e => hk' b o (off b o e) (hk b o e)
    exact intsAre_of (vs := ys.toList) (n := n) (f := f) (by rw [Array.length_toList]; exact hlen) fun j hj => by
        obtain ⟨y, hy, ht⟩ := hel j hj
        exact ⟨y, by rw [Array.getElem?_toList]; exact hy, ht⟩
theorem isList_of {h : Heap} {a : Addr} {vs : Array Value} {k : Nat} (e : h.get? a = some (listOf vs k)) : h.IsList a vs := ⟨_, e, rfl, _, rfl⟩
theorem row_eqAt {a b : Addr} {vs ws : List Value} {ns : List Int} {k1 k2 : Nat} (ha : s.heap.get? a = some (listOf vs.toArray k1)) (hb : s.heap.get? b = some (listOf ws.toArray k2)) (hi : IntsAre vs ns) (hj : IntsAre ws ns) (hu : A.units < cLine) : EqAt A s (.ref a) (.ref b) true := by
  by_cases q : a = b
  · subst q; exact EqAt.same _
  · have hsz : vs.toArray.size = ws.toArray.size := by rw [List.size_toArray, List.size_toArray, hi.length, hj.length]
    have := RcAt.lists (A := A) (e := fun _ => true) (isList_of ha) (isList_of hb) hsz hu (fun j h1 h2 => by
      have h1' : j < vs.length := by simpa using h1
      have h2' : j < ws.length := by simpa using h2
      obtain ⟨t, e1⟩ := hi.int_at j vs[j] (List.getElem?_eq_getElem h1')
      obtain ⟨u, e2⟩ := hj.int_at j ws[j] (List.getElem?_eq_getElem h2')
      rw [List.getElem_toArray, List.getElem_toArray, e1, e2]
      have := EqAt.int_int (A := A.in1) (s := s) (ns.getD j 0) t (ns.getD j 0) u
      rwa [beq_self_eq_true] at this)
    have e : (List.range vs.toArray.size).all (fun _ => true) = true := List.all_eq_true.mpr fun _ _ => rfl
    rw [e] at this
    exact EqAt.of_refs q this
theorem rows_ne {a b : Addr} {xs ys : Array Value} {k1 k2 : Nat} {g : Nat → List Int} {h1 h2 : Heap} {Q : Value → Shared → Prop} (ha : s.heap.get? a = some (listOf xs k1)) (hb : s.heap.get? b = some (listOf ys k2)) (hx : xs.size = 3) (hy : ys.size = 3)
    (rx : ∀ j, j < 3 → ∃ y, xs[j]? = some y ∧ IsRow h1 (g j) y s.heap) (ry : ∀ j, j < 3 → ∃ y, ys[j]? = some y ∧ IsRow h2 (g j) y s.heap) (hu : A.units < cLine) (hu1 : A.in1.units < cLine) (h : Q (.bool false) s) :
    wpAny (model prog w) A (compareOp .NotEq (.ref a) (.ref b)) Q E s := by
  refine RcNeAt.lists (A := A) (e := fun _ => true) (isList_of ha) (isList_of hb) (by rw [hx, hy]) hu (fun j h1' h2' => ?_) prog w E Q ?_
  · have hj : j < 3 := by rw [← hx]; exact h1'
    obtain ⟨y, hy1, R, vs, k, rfl, hR, hI, _⟩ := rx j hj
    obtain ⟨z, hz1, R2, ws, k', rfl, hR2, hI2, _⟩ := ry j hj
    rw [Array.getElem?_eq_getElem h1'] at hy1
    rw [Array.getElem?_eq_getElem h2'] at hz1
    rw [Option.some.inj hy1, Option.some.inj hz1]
    exact row_eqAt hR hR2 hI hI2 hu1
  · have e : (List.range xs.size).all (fun _ => true) = true := List.all_eq_true.mpr fun _ _ => rfl
    rw [e]; exact h
end
end Mine
end
section
open PySem PySem.W PyProof.Rows PySem.Calls PySem.SeqAt
set_option Elab.async false
set_option maxRecDepth 100000 
namespace Mine
section
variable {h₀ h h' : Heap} {L : Addr} {m : Str → Option Value} {news : List (Addr × Obj)}
theorem news_more (F : Fr h₀ L h m) (N : News h₀ L h news) (hk : ∀ b o, b ≠ L → h.get? b = some o → h'.get? b = some o) {new : List (Addr × Obj)} (hn : ∀ p ∈ new, h.get? p.1 = none ∧ h'.get? p.1 = some p.2) : News h₀ L h' (new ++ news) := by
  intro p hp
  rcases List.mem_append.mp hp with hp | hp
  · obtain ⟨hD, hg⟩ := hn p hp
    refine ⟨hg, fun e => ?_, ?_⟩
    · obtain ⟨oL, _, _, hL, _⟩ := F.ns
      rw [← e] at hL; rw [hD] at hL; cases hL
    · cases q : h₀.get? p.1 with
      | none => rfl
      | some o' => have := F.keep _ _ q; rw [hD] at this; cases this
  · exact ⟨hk _ _ (N p hp).2.1 (N p hp).1, (N p hp).2⟩
noncomputable abbrev refs3 (r : Nat → Addr) : List Value := [.ref (r 0), .ref (r 1), .ref (r 2)]
theorem refs3_get (r : Nat → Addr) {j : Nat} (h : j < 3) : (refs3 r).toArray[j]? = some (.ref (r j)) := by
  rcases lt3 h with rfl | rfl | rfl <;> rfl
theorem rows_pick {G : Nat → Obj → Prop} {xs : Array Value} (hs : xs.size = 3) (hr : ∀ j, j < 3 → ∃ y, xs[j]? = some y ∧ IsNew h (G j) y h') : ∃ (r : Nat → Addr) (ob : Nat → Obj), xs = (refs3 r).toArray ∧ ∀ j, j < 3 → h'.get? (r j) = some (ob j) ∧ G j (ob j) ∧ h.get? (r j) = none := by
  obtain ⟨y0, e0, R0, o0, rfl, a0, b0, c0⟩ := hr 0 (by decide)
  obtain ⟨y1, e1, R1, o1, rfl, a1, b1, c1⟩ := hr 1 (by decide)
  obtain ⟨y2, e2, R2, o2, rfl, a2, b2, c2⟩ := hr 2 (by decide)
  refine ⟨sel R0 R1 R2, fun j => match j with | 0 => o0 | 1 => o1 | _ => o2, ?_, fun j hj => ?_⟩
  · apply Array.ext_getElem?
    intro i
    match i with
    | 0 => exact e0
    | 1 => exact e1
    | 2 => exact e2
    | n + 3 => rw [Array.getElem?_eq_none (by omega)]; rfl
  · rcases lt3 hj with rfl | rfl | rfl
    · exact ⟨a0, b0, c0⟩
    · exact ⟨a1, b1, c1⟩
    · exact ⟨a2, b2, c2⟩
theorem news3 {r : Nat → Addr} {ob : Nat → Obj} {D : Addr} {oD : Obj} (F : Fr h₀ L h m) (N : News h₀ L h news) (hk : ∀ b o, b ≠ L → h.get? b = some o → h'.get? b = some o) (hD : h.get? D = none) (hD' : h'.get? D = some oD)
    (hr : ∀ j, j < 3 → h'.get? (r j) = some (ob j) ∧ h.get? (r j) = none) : News h₀ L h' ((D, oD) :: (r 0, ob 0) :: (r 1, ob 1) :: (r 2, ob 2) :: news) :=
  news_more (new := [(D, oD), (r 0, ob 0), (r 1, ob 1), (r 2, ob 2)]) F N hk fun p hp => by
    simp only [List.mem_cons, List.not_mem_nil, or_false] at hp
    rcases hp with rfl | rfl | rfl | rfl
    · exact ⟨hD, hD'⟩
    · exact ⟨(hr 0 (by decide)).2, (hr 0 (by decide)).1⟩
    · exact ⟨(hr 1 (by decide)).2, (hr 1 (by decide)).1⟩
    · exact ⟨(hr 2 (by decide)).2, (hr 2 (by decide)).1⟩
noncomputable def RowOf (ns : List Int) (ob : Obj) : Prop := ∃ vs k, ob = listOf (List.toArray vs) k ∧ IntsAre vs ns
theorem isNew_of_row {ns : List Int} {y : Value} (x : IsRow h ns y h') : IsNew h (RowOf ns) y h' := by
  obtain ⟨R, vs, k, e, hg, hi, hn⟩ := x
  exact ⟨R, _, e, hg, ⟨vs, k, rfl, hi⟩, hn⟩
theorem isRow_of {ns : List Int} {R : Addr} {ob : Obj} (hg : h'.get? R = some ob) (hG : RowOf ns ob) (hn : h.get? R = none) : IsRow h ns (.ref R) h' := by
  obtain ⟨vs, k, rfl, hi⟩ := hG
  exact ⟨R, vs, k, rfl, hg, hi, hn⟩
end
section
variable {prog : Program} {w : World} {A : Around} {E : Value → Shared → Prop} {s : Shared} {env : Env} {h₀ : Heap}
theorem call_g2' {K : Frag} {h₁ : Heap} {pos : Pos} {f : Value} {e1 e2 : Expr} {Q : Value → Shared → Prop} (_X : K.In h₁) (hk : keepIn K f = true) (h1 : starEach [e1, e2] env = [(false, eval e1 env), (false, eval e2 env)])
    (h : wpAny (model prog w) A (eval e1 env) (fun a s₁ => wpAny (model prog w) A (eval e2 env) (fun b s₂ => K.In s₂.heap ∧ wpAny (model prog w) A (call f [a, b]) Q E s₂) E s₁) E s) :
    wpAny (model prog w) A (callWith pos f [] (backTo pos (starEach [e1, e2] env)) []) Q E s := call_g2 hk h1 h
/-- y = [ELT for x in src], ELT a new list of ints -/
theorem rows3F {elt : Expr} {x y : Str} {px py pv : Pos} {src : Str} {scope : Scope} {cl : List (Str × Addr)} {pos spos : Pos} {Q : Flow → Shared → Prop} {S : Addr} {items : Array Value} {kS : Nat} {m : Str → Option Value} {news : List (Addr × Obj)} (g : Nat → List Int)
    (F : Fr h₀ env.locals s.heap m) (N : News h₀ env.locals s.heap news)
    (hh : A.handled = none) (hsw : swapsWith (.ListComp elt [⟨.Name x px, .Name src pv, [], 0⟩] scope pos) (some (.Name y py)) spos.line env = pure true) (hy : env.kindOf y = some .local) (hp : (env.scope.kind == .class || (env.scope.kind == .module && env.locals != env.globals)) = false)
    (hclos : closureFor scope env = pure cl) (hkind : scope.kind = .function) (hnames : ∀ y ∈ scope.names, y.2 = .local → scope.names.lookup y.1 = some .local)
    (hone : ∀ n, cellsFrom n scope.names cl = (x, n) :: cl) (hpush : ∀ h : Heap, pushCells h scope.names = h.push { cls := .type "cell", data := .cell none }) (hkx : (relabel scope env).names.lookup x = some .cell)
    (hsrc : ∀ R : Value → Shared → Prop, R (.ref S) s → wpAny (model prog w) A (eval (.Name src pv) env) R E s)
    (hS : s.heap.get? S = some (listOf items kS)) (hn : items.size = 3)
    (hinner : ∀ C X j v s₃ E' (Q' : Value → Shared → Prop), j < 3 → items[j]? = some v → s₃.heap.IsCell X (some v) → Keep s.heap s₃.heap → (∃ h tk, s₃ = { s with heap := h, toks := tk }) →
      (∀ D h' tk vs k, s₃.heap.get? D = none → h'.get? D = some (listOf vs.toArray k) → IntsAre vs (g j) → Keep s₃.heap h' → Q' (.ref D) { s₃ with heap := h', toks := tk }) →
      wpAny (model prog w) A (eval elt (compEnvC scope ((x, X) :: cl) C env)) Q' E' s₃)
    (hQ : ∀ D h' tk (r : Nat → Addr) (ob : Nat → Obj) k, (∀ j, j < 3 → RowOf (g j) (ob j)) → Fr h₀ env.locals h' (fun z => if z = y then some (.ref D) else m z) →
      News h₀ env.locals h' ((D, listOf (refs3 r).toArray k) :: (r 0, ob 0) :: (r 1, ob 1) :: (r 2, ob 2) :: news) → Q .next { s with heap := h', toks := tk })
    (hs : ∀ x, foldedSetIterable (.Name src pv) env x = pure x) :
    wpAny (model prog w) A (exec (.Assign [.Name y py] (.ListComp elt [⟨.Name x px, .Name src pv, [], 0⟩] scope pos) spos) env) Q E s := by
  refine rows3A g hh hsw hy hp hclos hkind hnames hone hpush hkx hsrc (isList_of hS) hn F.ns hinner (fun D h' tk ys k hD hg hlen hel hns hk => ?_) hs
  obtain ⟨r, ob, rfl, hr⟩ := rows_pick (G := fun j => RowOf (g j)) hlen fun j hj => let ⟨y, hy, hx⟩ := hel j hj; ⟨y, hy, isNew_of_row hx⟩
  exact hQ D h' tk r ob k (fun j hj => (hr j hj).2.1) (fr_assign F hns hk) (news3 F N hk hD hg fun j hj => ⟨(hr j hj).1, (hr j hj).2.2⟩)
/-- x != [[..] ..] with equal rows -/
theorem rows_ne' {a b : Addr} {r : Nat → Addr} {ob : Nat → Obj} {ys : Array Value} {k1 k2 : Nat} {g : Nat → List Int} {h1 : Heap} {Q : Value → Shared → Prop} (ha : s.heap.get? a = some (listOf (refs3 r).toArray k1)) (hr : ∀ j, j < 3 → s.heap.get? (r j) = some (ob j) ∧ RowOf (g j) (ob j)) (hb : s.heap.get? b = some (listOf ys k2)) (hy : ys.size = 3)
    (ry : ∀ j, j < 3 → ∃ y, ys[j]? = some y ∧ IsRow h1 (g j) y s.heap) (hu : A.units < cLine) (hu1 : A.in1.units < cLine) (h : Q (.bool false) s) :
    wpAny (model prog w) A (compareOp .NotEq (.ref a) (.ref b)) Q E s := by
  refine RcNeAt.lists (A := A) (e := fun _ => true) (isList_of ha) (isList_of hb) (by rw [hy]; rfl) hu (fun j h1' h2' => ?_) prog w E Q ?_
  · have hj : j < 3 := by rw [← hy]; exact h2'
    obtain ⟨z, hz1, R2, ws, k', rfl, hR2, hI2, _⟩ := ry j hj
    obtain ⟨hR, vs, k, e, hI⟩ := hr j hj
    rw [e] at hR
    have e1 := refs3_get r hj
    rw [Array.getElem?_eq_getElem h1'] at e1
    rw [Array.getElem?_eq_getElem h2'] at hz1
    rw [Option.some.inj e1, Option.some.inj hz1]
    exact row_eqAt hR hR2 hI hI2 hu1
  · exact h
theorem compRI {K : Frag} {p : Program} {loose : List Str} {mg mb : Str → Option Value} {elt : Expr} {x : Str} {n : Nat} {np cp rp px : Pos} {scope : Scope} {cl : List (Str × Addr)} {pos : Pos} {Q : Value → Shared → Prop} (f : Nat → Int)
    (X : K.In s.heap) (T : TopRead p loose mg mb s.heap) (er : nsIn K mainGlobals "range" = some none) (hg : env.globals = mainGlobals) (hb : env.builtins = builtinsNs) (hk : env.scope.kind = .function) (hxr : env.kindOf "range" = some .globalImplicit)
    (hsm : Builtin.Range.small 0 n 1 = true) (hsz : Builtin.Range.rangeSize 0 n 1 = n) (hsl : n ≤ sizeLine)
    (hh : A.handled = none)
    (hclos : closureFor scope env = pure cl) (hkind : scope.kind = .function) (hnames : ∀ y ∈ scope.names, y.2 = .local → scope.names.lookup y.1 = some .local)
    (hone : ∀ n, cellsFrom n scope.names cl = (x, n) :: cl) (hpush : ∀ h : Heap, pushCells h scope.names = h.push { cls := .type "cell", data := .cell none }) (hkx : (relabel scope env).names.lookup x = some .cell)
    (hinner : ∀ C X' i t s₃ E' (Q' : Value → Shared → Prop), i < n → s₃.heap.IsCell X' (some (.int (i : Int) t)) → Keep s.heap s₃.heap → (∃ h tk, s₃ = { s with heap := h, toks := tk }) →
      (∀ h' tk t', Keep s₃.heap h' → Q' (.int (f i) t') { s₃ with heap := h', toks := tk }) →
      wpAny (model prog w) A (eval elt (compEnvC scope ((x, X') :: cl) C env)) Q' E' s₃)
    (hQ : ∀ D h' tk vs' k, s.heap.get? D = none → h'.get? D = some (listOf vs'.toArray k) → IntsAre vs' ((List.range n).map f) → Keep s.heap h' → Q (.ref D) { s with heap := h', toks := tk })
    (hs : ∀ x, foldedSetIterable (.Call (.Name "range" np) [.Constant (.int n) 0 cp] [] rp) env x = pure x) :
    wpAny (model prog w) A (eval (.ListComp elt [⟨.Name x px, .Call (.Name "range" np) [.Constant (.int n) 0 cp] [] rp, [], 0⟩] scope pos) env) Q E s := by
  refine gcompC hclos hkind hnames hone hpush hkx (range_iter X T er hg hb hk hxr hsm hsz fun I h₂ tk₂ hI hI' hkk hst => ?_) hs
  have off : ∀ b o, s.heap.get? b = some o → b ∉ [I] := fun b o e => not_in_one hI e
  refine ⟨I, _, _, n, _, _, fun j y _ => ∃ t, y = .int (f j) t, rfl, Walks.range hh I 0 1 n, hsl, fun i h st b hb => by rw [List.mem_singleton.mp hb]; exact ⟨_, st⟩, hst, fun b hb => by rw [List.mem_singleton.mp hb]; exact hI', ?_, ?_⟩
  · rintro C X' j v s₃ E' hC hj ⟨t, rfl⟩ hX hk₃ ⟨h3, t3, rfl⟩
    have ej : (0 : Int) + (j : Int) * 1 = (j : Int) := by omega
    rw [ej] at hX
    exact hinner C X' j t _ E' _ hj hX (fun b o e => hk₃ b o (off b o e) (hkk b o e)) ⟨_, _, rfl⟩ fun h' tk t' hk' => ⟨⟨h', tk, rfl, hk'⟩, fun h'' _ => ⟨_, rfl⟩⟩
  · rintro D h' tk ys hD ⟨k, hpl⟩ hlen hel hk'
    refine hQ D h' tk ys.toList k (old_none hkk hD) hpl ?_ fun b o e => hk' b o (off b o e) (hkk b o e)
    exact intsAre_of (vs := ys.toList) (n := n) (f := f) (by rw [Array.length_toList]; exact hlen) fun j hj => by
        obtain ⟨y, hy, ht⟩ := hel j hj
        exact ⟨y, by rw [Array.getElem?_toList]; exact hy, ht⟩
end
end Mine
end
section
open PySem PySem.W PyProof.Rows PySem.Calls PySem.SeqAt
set_option Elab.async false
set_option maxRecDepth 100000 
set_option maxHeartbeats 8000000
namespace Mine
theorem rows_vv {h : Heap} {r : Nat → Addr} {ob : Nat → Obj} {g : Nat → List Int} (hr : ∀ j, j < 3 → h.get? (r j) = some (ob j) ∧ RowOf (g j) (ob j)) : ∃ vv : Nat → List Value, ∀ j, j < 3 → h.IsList (r j) (vv j).toArray ∧ IntsAre (vv j) (g j) := by
  obtain ⟨a0, v0, k0, e0, i0⟩ := hr 0 (by decide)
  obtain ⟨a1, v1, k1, e1, i1⟩ := hr 1 (by decide)
  obtain ⟨a2, v2, k2, e2, i2⟩ := hr 2 (by decide)
  refine ⟨fun j => match j with | 0 => v0 | 1 => v1 | _ => v2, fun j hj => ?_⟩
  rcases lt3 hj with rfl | rfl | rfl
  · exact ⟨isList_of (e0 ▸ a0), i0⟩
  · exact ⟨isList_of (e1 ▸ a1), i1⟩
  · exact ⟨isList_of (e2 ▸ a2), i2⟩
theorem gap_row (c : List Int → Nat → Int) (P : Nat → List Int) (j : Nat) : gap (fun j => (List.range 16).map (c (P j))) j = rowD c (P j) (P ((j + 1) % 3)) := by
  unfold gap rowD
  apply List.map_congr_left
  intro i hi
  have hi' := List.mem_range.mp hi
  simp [List.getD_eq_getElem?_getD, List.getElem?_map, List.getElem?_range hi']
section
variable {prog : Program} {w : World} {A : Around} {E : Value → Shared → Prop} {s : Shared} {env : Env}
theorem call_g1' {K : Frag} {h₁ : Heap} {pos : Pos} {f : Value} {e1 : Expr} {Q : Value → Shared → Prop} (_X : K.In h₁) (hk : keepIn K f = true) (h1 : starEach [e1] env = [(false, eval e1 env)])
    (h : wpAny (model prog w) A (eval e1 env) (fun a s₁ => K.In s₁.heap ∧ wpAny (model prog w) A (call f [a]) Q E s₁) E s) :
    wpAny (model prog w) A (callWith pos f [] (backTo pos (starEach [e1] env)) []) Q E s := by
  rw [h1]
  refine callWith_of rfl (keeps_K hk) (PySem.Calls.evalArgs_plain (PySem.Calls.spliced_cons (wpAny_mono h (fun a s₁ h₁ => PySem.Calls.spliced_nil h₁) fun _ _ x => x)))
end
section
variable {w : World} {mg mb : Str → Option Value} {p : Program} {loose : List Str} {h₀ : Heap} {env : Env}
    {s : Shared} {E : Value → Shared → Prop} {d : Nat} {fr : Option (List Env)} {gs : Option (List Code)} {u : Nat}
theorem gapsF {y src : Str} {py p1 p2 p3 spos : Pos} {Q : Flow → Shared → Prop} {U : Addr} {r : Nat → Addr} {ob : Nat → Obj} {g : Nat → List Int} {kU : Nat} {m : Str → Option Value} {news : List (Addr × Obj)}
    (X : (hd.heap_39 w.params).In h₀) (T : TopRead p loose mg mb h₀) (F : Fr h₀ env.locals s.heap m) (N : News h₀ env.locals s.heap news) (hroom : d + 20 < recursionLimit)
    (hg : env.globals = mainGlobals) (hk : env.scope.kind = .function) (hx : env.kindOf "_law_gaps" = some .globalImplicit)
    (hsw : swapsWith (.Call (.Name "_law_gaps" p1) [.Name src p2] [] p3) (some (.Name y py)) spos.line env = pure false) (hy : env.kindOf y = some .local) (hp : (env.scope.kind == .class || (env.scope.kind == .module && env.locals != env.globals)) = false)
    (hst : starEach [.Name src p2] env = [(false, eval (.Name src p2) env)])
    (hsrc : ∀ R : Value → Shared → Prop, R (.ref U) s → wpAny (model PR w) (AR d fr gs u) (eval (.Name src p2) env) R E s)
    (hU : (U, listOf (refs3 r).toArray kU) ∈ news) (h0 : (r 0, ob 0) ∈ news) (h1 : (r 1, ob 1) ∈ news) (h2 : (r 2, ob 2) ∈ news) (hrow : ∀ j, j < 3 → RowOf (g j) (ob j)) (hlen : ∀ j, j < 3 → (g j).length = 16)
    (hQ : ∀ D h' tk (t : Nat → Addr) (ob' : Nat → Obj) k, (∀ j, j < 3 → IsTupOf (gap g j) (ob' j)) → Fr h₀ env.locals h' (fun z => if z = y then some (.ref D) else m z) →
      News h₀ env.locals h' ((D, listOf (refs3 t).toArray k) :: (t 0, ob' 0) :: (t 1, ob' 1) :: (t 2, ob' 2) :: news) → Q .next { s with heap := h', toks := tk }) :
    wpAny (model PR w) (AR d fr gs u) (exec (.Assign [.Name y py] (.Call (.Name "_law_gaps" p1) [.Name src p2] [] p3) spos) env) Q E s := by
  have kz := kzz; revert kz; k_fill; intro kz; clear kz
  have Xs := X.keeps F.keep
  have Ts := T.keeps F.keep
  obtain ⟨vv, hvv⟩ := rows_vv (h := s.heap) (r := r) (ob := ob) (g := g) fun j hj => ⟨by
    rcases lt3 hj with rfl | rfl | rfl
    · exact (N _ h0).1
    · exact (N _ h1).1
    · exact (N _ h2).1, hrow j hj⟩
  refine wpAny_Assign_Name (Call_ (name_g Xs Ts (by k_is) hg hk hx (by decide) (call_g1' Xs (by k_is) hst (hsrc _ ⟨Xs, ?_⟩)))) hsw
  refine gaps_call Xs Ts Ts.nolimit hroom (isList_of (N _ hU).1) (fun j hj => ⟨(hvv j hj).1, (hvv j hj).2, hlen j hj⟩) fun D h' tk ys k hD hg' hsz hel hk' => ?_
  refine wpAny_storeName_local hy (F.ns.keeps hk') (fun h₂ hn₂ hs₂ => ?_) hp
  obtain ⟨t, ob', rfl, ht⟩ := rows_pick (G := fun j => IsTupOf (gap g j)) hsz hel
  have hLe : ∃ oL, s.heap.get? env.locals = some oL := let ⟨o, _, _, ho, _⟩ := F.ns; ⟨o, ho⟩
  have ne : ∀ b, s.heap.get? b = none → b ≠ env.locals := fun b hb e => by obtain ⟨o, ho⟩ := hLe; rw [← e, hb] at ho; cases ho
  have keepL : ∀ b o, b ≠ env.locals → s.heap.get? b = some o → h₂.get? b = some o := fun b o hb e => hs₂.extBut b o hb (hk' b o e)
  exact hQ D h₂ _ t ob' k (fun j hj => (ht j hj).2.1) (fr_assign F hn₂ keepL) (news3 F N keepL hD (hs₂.extBut _ _ (ne _ hD) hg') fun j hj => ⟨hs₂.extBut _ _ (ne _ (ht j hj).2.2) (ht j hj).1, (ht j hj).2.2⟩)
end
end Mine
end
local macro_rules | `(tactic| walk_at "pad 37") => `(tactic| fail)
section
open PySem PySem.W PyProof.Rows PySem.Calls
set_option Elab.async false
set_option maxRecDepth 100000 
set_option maxHeartbeats 8000000
namespace Mine
section
variable {w : World} {h h₁ g : Heap} {loose : List Str} {mean : ExcName → Option Value} {mg mb : Str → Option Value} {ps : Array Value}
theorem cov_based (X : (hd.heap_39 w.params).In h) (T : Top hd.view_39 loose mean mg mb h) : Based h h 82 78 #[] := by
  have h1 : ((recsOf hd.view_39).find? (fun e => e.name == ("covariance" : Str))).isSome = true := by decide +kernel
  obtain ⟨d, hd'⟩ := Option.isSome_iff_exists.mp h1
  have hm : mg "covariance" = some (.ref 83) := mg_of X T.g rfl
  have h2 : ∃ ob fd, (hd.heap_39 w.params).lookup 83 = some ob ∧ ob.data = .func fd ∧ fd.code = .ref 82 := ⟨_, _, rfl, rfl, rfl⟩
  obtain ⟨ob, fd, e1, e2, e3⟩ := h2
  obtain ⟨c, P, e4, B⟩ := based_of_top T hd' hm (X _ _ e1) e2
  rw [e3] at e4
  cases e4
  have h3 : ∃ ob vs, (hd.heap_39 w.params).lookup 82 = some ob ∧ ob.data = .fields vs ∧ vs.getD 11 .none = .ref 78 := ⟨_, _, rfl, rfl, rfl⟩
  obtain ⟨ob2, vs2, f1, f2, f3⟩ := h3
  obtain ⟨o, vs, _, _, _, _, _, _, _, _, a, b, c', _⟩ := id B.code
  have := X _ _ f1
  rw [a] at this
  cases this
  rw [b] at f2
  cases f2
  rw [c'] at f3
  cases f3
  exact B
theorem based_get (B : Based h₁ g 82 78 ps) {b : Addr} {o : Obj} (hb : b ≠ 78) (e : h₁.get? b = some o) : g.get? b = some o := (B.same.2 b hb).trans e
theorem in_based (B : Based h₁ g 82 78 ps) (X : (hd.heap_39 w.params).In h₁) : (hd.heap_39 w.params).In g := fun a o e => based_get B (fun q => by
  subst q
  have h81 : (hd.heap_39 w.params).lookup 78 = none := rfl
  rw [h81] at e; cases e) (X a o e)
theorem topRead_based {p : Program} (B : Based h₁ g 82 78 ps) (T : TopRead p loose mg mb h₁) : TopRead p loose mg mb g :=
  ⟨T.g.at' fun o e => based_get B (by decide) e, T.b.at' fun o e => based_get B (by decide) e, let ⟨mc, hn, hk⟩ := T.nolimit; ⟨mc, hn.at' fun o e => based_get B (by decide) e, hk⟩, T.builtins, T.free⟩
theorem bmod_based {bm : Addr} {ob : Obj} (B : Based h₁ g 82 78 ps) (M : BMod h₁ mainGlobals mg bm ob) : BMod g mainGlobals mg bm ob := by
  obtain ⟨ps₁, t⟩ := B.tab₁
  exact ⟨M.ns.at' fun o e => based_get B (by decide) e, M.name, M.ne, based_get B (M.apart t).2 M.obj, M.cls, M.dict, M.data⟩
end
noncomputable def Inv (h₁ : Heap) (L : Addr) (vars : List Str) (m₀ : Str → Option Value) (news : List (Addr × Obj)) (s₀ s : Shared) : Prop :=
  (∃ g ps m, Based h₁ g 82 78 ps ∧ Fr g L s.heap m ∧ News g L s.heap news ∧ ∀ y, vars.contains y = false → m y = m₀ y) ∧ (∀ y ∈ s.gens, y.bare = true) ∧ s.drawn = s₀.drawn ∧ s.os = s₀.os
theorem isIt {h : Heap} {I : Addr} {i n : Int} : IsRangeIter h I i n 1 ↔ h.get? I = some (PySem.W.itR i n) := by
  unfold IsRangeIter PySem.W.itR
  constructor <;> intro e <;> simpa using e
section
variable {prog : Program} {w : World} {A : Around} {env : Env} {h₁ : Heap} {mg mb : Str → Option Value} {p : Program} {loose : List Str} {K : Frag}
theorem for_inv {E : Value → Shared → Prop} {x : Str} {px np cp rp pos : Pos} {n : Nat} {body : List Stmt} {vars : List Str} {m₀ : Str → Option Value} {news : List (Addr × Obj)} {s₀ s : Shared} {Q : Flow → Shared → Prop}
    (X : ∀ s', Inv h₁ env.locals vars m₀ news s₀ s' → K.In s'.heap) (T : ∀ s', Inv h₁ env.locals vars m₀ news s₀ s' → TopRead p loose mg mb s'.heap)
    (er : nsIn K mainGlobals "range" = some none) (hg : env.globals = mainGlobals) (hb : env.builtins = builtinsNs) (hk : env.scope.kind = .function) (hxr : env.kindOf "range" = some .globalImplicit)
    (hsm : Builtin.Range.small 0 n 1 = true) (hsz : Builtin.Range.rangeSize 0 n 1 = n)
    (hh : A.handled = none) (hx : env.kindOf x = some .local) (hp : (env.scope.kind == .class || (env.scope.kind == .module && env.locals != env.globals)) = false) (hv : vars.contains x = true)
    (hs : ∀ v, foldedSetIterable (.Call (.Name "range" np) [.Constant (.int n) 0 cp] [] rp) env v = pure v)
    (I0 : Inv h₁ env.locals vars m₀ news s₀ s)
    (turn : ∀ i t I s' E', i < n →
      (∃ g ps m, Based h₁ g 82 78 ps ∧ Fr g env.locals s'.heap m ∧ News g env.locals s'.heap ((I, PySem.W.itR ((i : Int) + 1) ((n : Int) - i - 1)) :: news) ∧ m x = some (.int (i : Int) t) ∧ ∀ y, vars.contains y = false → m y = m₀ y) →
      (∀ y ∈ s'.gens, y.bare = true) → s'.drawn = s₀.drawn → s'.os = s₀.os →
      wpAny (model prog w) A (execs body env) (fun f s'' => f = .next ∧ Inv h₁ env.locals vars m₀ ((I, PySem.W.itR ((i : Int) + 1) ((n : Int) - i - 1)) :: news) s₀ s'') E' s')
    (hQ : ∀ s', Inv h₁ env.locals vars m₀ news s₀ s' → Q .next s') :
    wpAny (model prog w) A (exec (.For (.Name x px) (.Call (.Name "range" np) [.Constant (.int n) 0 cp] [] rp) body [] pos) env) Q E s := by
  refine wpAny_For (range_iter (X s I0) (T s I0) er hg hb hk hxr hsm hsz fun I h₂ tk hI hI' hkk hst => ?_) hs
  obtain ⟨⟨g, ps, m, B, F, N, hm⟩, hbare, hdr, hos⟩ := I0
  have hLlt : env.locals < s.heap.objs.size := F.ns.lt
  have hLI : env.locals ≠ I := Nat.ne_of_lt (Nat.lt_of_lt_of_le hLlt hI)
  have nI : ∀ p ∈ news, p.1 ≠ I := fun p hp => Nat.ne_of_lt (Nat.lt_of_lt_of_le (Heap.lt_size (N p hp).1) hI)
  have gI : g.get? I = none := by
    cases q : g.get? I with
    | none => rfl
    | some o => exact absurd (Heap.lt_size (F.keep _ _ q)) (Nat.not_lt.mpr hI)
  refine codeAny_forLoop (fun k s' => ∃ i : Nat, i ≤ n ∧ k = n + 1 - i ∧ Inv h₁ env.locals vars m₀ ((I, PySem.W.itR (i : Int) ((n : Int) - i)) :: news) s₀ s') ?_ (n + 1) ⟨0, Nat.zero_le _, rfl, ⟨g, ps, m, B, F.keeps hkk, ?_, hm⟩, hbare, hdr, hos⟩
  · rintro k s' ⟨i, hi, rfl, ⟨g', ps', m', B', F', N', hm'⟩, hb', hd', ho'⟩
    have hit : IsRangeIter s'.heap I (0 + (i : Int) * 1) ((n : Int) - (i : Nat)) 1 := by
      rw [show (0 : Int) + (i : Int) * 1 = (i : Int) by omega]
      exact isIt.mpr (N' _ (.head _)).1
    have hg'I : g'.get? I = none := (N' _ (.head _)).2.2
    have W := Walks.range (prog := prog) (w := w) (A := A) hh I 0 1 n
    by_cases hlt : i < n
    · refine W.item i s' _ _ hlt hit fun v h' tk' hv st' hk' => ?_
      obtain ⟨t, rfl⟩ := hv
      have off : ∀ b o, b ≠ I → s'.heap.get? b = some o → h'.get? b = some o := fun b o hb e => hk' b o (fun q => hb (List.mem_singleton.mp q)) e
      refine wpAny_assign_Name (wpAny_storeName_local hx (F'.ns.at' fun o e => off _ o hLI e) (fun h₃ hn₃ hs₃ => ?_) hp)
      have st3 : h₃.get? I = some (PySem.W.itR ((i : Int) + 1) ((n : Int) - i - 1)) := by
        have := isIt.mp st'
        rw [show (0 : Int) + ((i + 1 : Nat) : Int) * 1 = (i : Int) + 1 by push_cast; omega, show (n : Int) - ((i + 1 : Nat) : Int) = (n : Int) - i - 1 by push_cast; omega] at this
        exact hs₃.extBut _ _ (Ne.symm hLI) this
      have ev : (0 : Int) + (i : Int) * 1 = (i : Int) := by omega
      rw [ev] at hn₃
      have F₃ : Fr g' env.locals h₃ (fun y => if y = x then some (.int (i : Int) t) else m' y) := ⟨hn₃, fun b o e => by
        have hbI : b ≠ I := fun q => by rw [q, hg'I] at e; cases e
        exact hs₃.extBut b o (Nat.ne_of_lt (Nat.lt_of_lt_of_le (Heap.lt_size e) F'.above)) (off b o hbI (F'.keep b o e)), F'.above⟩
      have N₃ : News g' env.locals h₃ ((I, PySem.W.itR ((i : Int) + 1) ((n : Int) - i - 1)) :: news) := by
        intro p hp'
        rcases List.mem_cons.mp hp' with rfl | hp'
        · exact ⟨st3, Ne.symm hLI, hg'I⟩
        · have := N' p (.tail _ hp')
          exact ⟨hs₃.extBut _ _ this.2.1 (off _ _ (nI p hp') this.1), this.2⟩
      refine wpAny_mono (turn i t I _ _ hlt ⟨g', ps', _, B', F₃, N₃, by simp, fun y hy => ?_⟩ hb' hd' ho') (fun f s₄ h₄ => ?_) fun _ _ e => e
      · have : y ≠ x := fun q => by rw [q, hv] at hy; cases hy
        rw [if_neg this]; exact hm' y hy
      · obtain ⟨rfl, h₄⟩ := h₄
        refine ⟨n + 1 - (i + 1), by omega, i + 1, hlt, rfl, ?_⟩
        rw [show ((i + 1 : Nat) : Int) = (i : Int) + 1 by push_cast; rfl, show (n : Int) - ((i : Int) + 1) = (n : Int) - i - 1 by omega]
        exact h₄
    · obtain rfl : i = n := by omega
      refine W.done s' _ _ hit fun h' tk' hk' => wpAny_execs_nil ?_
      have off : ∀ b o, b ≠ I → s'.heap.get? b = some o → h'.get? b = some o := fun b o hb e => hk' b o (fun q => hb (List.mem_singleton.mp q)) e
      refine hQ _ ⟨⟨g', ps', m', B', ⟨F'.ns.at' fun o e => off _ o hLI e, fun b o e => off b o (fun q => by rw [q, hg'I] at e; cases e) (F'.keep b o e), F'.above⟩, fun p hp' => ?_, hm'⟩, hb', hd', ho'⟩
      have := N' p (.tail _ hp')
      exact ⟨off _ _ (nI p hp') this.1, this.2⟩
  · intro p hp'
    rcases List.mem_cons.mp hp' with rfl | hp'
    · refine ⟨?_, Ne.symm hLI, gI⟩
      have := isIt.mp hst
      simpa using this
    · exact ⟨hkk _ _ (N p hp').1, (N p hp').2⟩
end
end Mine
end
section
open PySem PySem.W PyProof.Rows PySem.Calls
set_option Elab.async false
set_option maxRecDepth 100000 
set_option maxHeartbeats 8000000
namespace Mine
section
variable {prog : Program} {w : World} {A : Around} {E : Value → Shared → Prop} {s : Shared} {env : Env}
theorem item_way {value slice : PySem.Expr} {l : Addr} {vs : List Value} {f : Nat → Int} {i : Nat} {k : Int} {u : Tok} {Q : Value → Shared → Prop} (hl : s.heap.IsList l vs.toArray) (hi : IntsAre vs ((List.range 3).map f)) (hk : k = (i : Int)) (h3 : i < 3)
    (h : ∀ t, Q (.int (f i) t) s)
    (hs : subscripted slice false (.ref l) (.int k u) = operate [.ref l, .int k u] (getItem (.ref l) (.int k u)) := by with_unfolding_all rfl) :
    wpAny (model prog w) A (subscriptTail value slice (.ref l) (.int k u)) Q E s := by
  subst hk
  refine item_ints hl hi ⟨by omega, by simp; omega, by simp⟩ (fun t => ?_) hs
  have e : ((List.range 3).map f).getD ((i : Int)).toNat 0 = f i := by
    rw [Int.toNat_natCast, List.getD_eq_getElem?_getD, List.getElem?_map, List.getElem?_range h3]; rfl
  rw [e]; exact h t
theorem tup_vv {h : Heap} {r : Nat → Addr} {ob : Nat → Obj} {g : Nat → List Int} (hr : ∀ j, j < 3 → h.get? (r j) = some (ob j) ∧ IsTupOf (g j) (ob j)) : ∃ vv : Nat → List Value, ∀ j, j < 3 → IsTup h (r j) (vv j).toArray ∧ IntsAre (vv j) (g j) := by
  obtain ⟨a0, v0, k0, e0, i0⟩ := hr 0 (by decide)
  obtain ⟨a1, v1, k1, e1, i1⟩ := hr 1 (by decide)
  obtain ⟨a2, v2, k2, e2, i2⟩ := hr 2 (by decide)
  refine ⟨fun j => match j with | 0 => v0 | 1 => v1 | _ => v2, fun j hj => ?_⟩
  rcases lt3 hj with rfl | rfl | rfl
  · exact ⟨⟨_, e0 ▸ a0, rfl, _, rfl⟩, i0⟩
  · exact ⟨⟨_, e1 ▸ a1, rfl, _, rfl⟩, i1⟩
  · exact ⟨⟨_, e2 ▸ a2, rfl, _, rfl⟩, i2⟩
theorem call_b2 {pos : Pos} {id : String} {e1 e2 : Expr} {Q : Value → Shared → Prop} (h1 : starEach [e1, e2] env = [(false, eval e1 env), (false, eval e2 env)])
    (h : wpAny (model prog w) A (eval e1 env) (fun a s₁ => wpAny (model prog w) A (eval e2 env) (fun b s₂ => wpAny (model prog w) A (call (.builtin id) [a, b]) Q E s₂) E s₁) E s) :
    wpAny (model prog w) A (callWith pos (.builtin id) [] (backTo pos (starEach [e1, e2] env)) []) Q E s := by
  rw [h1]
  exact PySem.Calls.callWith_builtin rfl (PySem.Calls.evalArgs_plain (PySem.Calls.spliced_cons (wpAny_mono h (fun a s₁ h₁ => PySem.Calls.spliced_cons (wpAny_mono h₁ (fun b s₂ h₂ => PySem.Calls.spliced_nil h₂) fun _ _ x => x)) fun _ _ x => x)))
end
section
variable {w : World} {h₁ : Heap} {L : Addr} {vars : List Str} {m₀ : Str → Option Value} {news : List (Addr × Obj)} {s₀ s : Shared} {p : Program} {loose : List Str} {mg mb : Str → Option Value}
theorem inv_in (X : (hd.heap_39 w.params).In h₁) (I : Inv h₁ L vars m₀ news s₀ s) : (hd.heap_39 w.params).In s.heap := by
  obtain ⟨⟨g, ps, m, B, F, _⟩, _⟩ := I
  exact (in_based B X).keeps F.keep
theorem inv_top (T : TopRead p loose mg mb h₁) (I : Inv h₁ L vars m₀ news s₀ s) : TopRead p loose mg mb s.heap := by
  obtain ⟨⟨g, ps, m, B, F, _⟩, _⟩ := I
  exact (topRead_based B T).keeps F.keep
end
theorem cR_bound {p : List Int} (h : p.length = 3) (x : Nat) : 0 ≤ cR p x ∧ cR p x ≤ 3 := by
  unfold cR
  have := List.length_filter_le (fun a => decide (a ≤ (x : Int))) p
  omega
theorem cL_bound {p : List Int} (h : p.length = 3) (x : Nat) : 0 ≤ cL p x ∧ cL p x ≤ 3 := by
  unfold cL
  have := List.length_filter_le (fun a => decide ((a + 8).fmod 16 < (x : Int))) p
  omega
theorem rowD_bound {c : List Int → Nat → Int} {p q : List Int} (hc : ∀ x, 0 ≤ c p x ∧ c p x ≤ 3) (hd : ∀ x, 0 ≤ c q x ∧ c q x ≤ 3) : ∀ n ∈ rowD c p q, n.natAbs ≤ 3 := by
  intro n hn
  unfold rowD at hn
  obtain ⟨i, _, rfl⟩ := List.mem_map.mp hn
  have := hc i
  have := hd i
  omega
theorem rowD_len (c : List Int → Nat → Int) (p q : List Int) : (rowD c p q).length = 16 := by
  unfold rowD; rw [List.length_map, List.length_range]
theorem end_cmp {p p' q q' : List Int} {r : UInt64} (hp : InR p) (hp' : InR p') (hq : InR q) (hq' : InR q') (h1 : p.length = 3) (h1' : p'.length = 3) (h2 : q.length = 3) (h2' : q'.length = 3)
    (hx : EX 1066 r (covI (rowD cR p p') (rowD cL q q'))) :
    (Float64.cmp (Float64.div r (Float64.ofInt 15)) (Float64.ofFrac (decide ((ways p q' + ways p' q - (ways p q + ways p' q') : Int) < 0) != decide ((480 : Int) < 0)) (ways p q' + ways p' q - (ways p q + ways p' q')).natAbs (480 : Int).natAbs) != some Ordering.eq) = false := by
  rw [cov_ways hp hp' hq hq' h1 h1' h2 h2'] at hx
  have b1 := ways_bound h1 h2'
  have b2 := ways_bound h1' h2
  have b3 := ways_bound h1 h2
  have b4 := ways_bound h1' h2'
  rw [cov_div hx (by omega)]
  rfl
theorem small_v {p p' q q' : List Int} (h1 : p.length = 3) (h1' : p'.length = 3) (h2 : q.length = 3) (h2' : q'.length = 3) : (ways p q' + ways p' q - (ways p q + ways p' q')).natAbs < 2 ^ 1023 := by
  have b1 := ways_bound h1 h2'
  have b2 := ways_bound h1' h2
  have b3 := ways_bound h1 h2
  have b4 := ways_bound h1' h2'
  have : (2048 : Nat) < 2 ^ 1023 := by
    calc 2048 = 2 ^ 11 := by decide
      _ < 2 ^ 1023 := Nat.pow_lt_pow_right (by decide) (by decide)
  omega
end Mine
end
section
open PySem PySem.W PyProof.Rows
set_option Elab.async false
set_option maxRecDepth 100000
set_option maxHeartbeats 8000000
namespace Mine
section
variable {M : Model} {A : Around} {E : Value → Shared → Prop} {s s₁ : Shared} {h : Heap} {L : Addr} {m : Str → Option Value} {T₀ : Nat}
theorem store_gen {env : Env} {x : Str} {v : Int} {T : Tok} {Q : Unit → Shared → Prop} (_ : Fr s₁.heap L h m) (e : s = ⟨h, s₁.gens, s₁.drawn, T₀, s₁.os⟩)
    (H : ∀ T t, wpAny M A (storeName env x (.int v T)) Q E ⟨h, s₁.gens, s₁.drawn, t, s₁.os⟩) : wpAny M A (storeName env x (.int v T)) Q E s := by subst e; exact H _ _
theorem list_gen {a b c : Int} {T1 T2 T3 : Tok} {Q : Value → Shared → Prop} (_ : Fr s₁.heap L h m) (e : s = ⟨h, s₁.gens, s₁.drawn, T₀, s₁.os⟩)
    (H : ∀ T1 T2 T3 t, wpAny M A (newList [.int a T1, .int b T2, .int c T3]) Q E ⟨h, s₁.gens, s₁.drawn, t, s₁.os⟩) : wpAny M A (newList [.int a T1, .int b T2, .int c T3]) Q E s := by subst e; exact H _ _ _ _
end
local macro_rules | `(tactic| k_ne) => `(tactic| exact allNe_l (by assumption) (by k_mem))
local macro_rules | `(tactic| walk_at "pyIter ref") => `(tactic| (k_here; (with_reducible show wpAny _ _ _ (fun it s₂ => LoopAtV _ _ _ _ _ _ _ _ _ it s₂) _ _); refine stop_mk ?_))


local macro_rules | `(tactic| k_all) => `(tactic| assumption)
local macro_rules | `(tactic| walk_at "subscriptTail Name Name ref int") => `(tactic| (k_here; k_dflt (refine' item_starts ?n ?t ?i ?_ ?e; (case n => assumption); (case t => exact News.get (by assumption) (by k_mem)); (case i => exact TurnCtx.i9 (by assumption)); (case e => with_unfolding_all rfl); k_whole); intro t'))
local macro_rules | `(tactic| k_room) => `(tactic| ((try simp only [depth_under_make, depth_under_kw, depth_in1, depth_deeper, depth_caller]); (first | omega | decide +kernel)))
local macro_rules | `(tactic| walk_at "call builtin:sum") => `(tactic| (
  k_here; k_dflt (refine' sum_arr rfl ?l ?i ?_; (case l => exact ⟨_, News.get (by assumption) (by k_mem), rfl, _, rfl⟩); (case i => exact IntsAre.pick (by assumption) _ _ _)); intro h' tk' v' t' hk' hv'; clear hv';
  (with_reducible rename Fr _ _ _ _ => kF); (with_reducible rename News _ _ _ _ => kN); k_dflt (have F' := Fr.keeps kF hk'; have N' := PyProof.Rows.News.tail' (News.grown kN hk')); (clear kF kN)))
local macro_rules | `(tactic| walk_at "binaryOp Div int int") => `(tactic| (k_here; k_dflt (refine' div_small rfl ?x ?n ?_; (case x => first | exact Sm.fm (by decide) (by decide) | exact Sm.one (by decide) (by decide)); (case n => rfl)); (try dsimp only)))
local macro_rules | `(tactic| walk_at "binaryOp Add float int") => `(tactic| (k_here; k_dflt (refine' add_small ?x ?_; (case x => first | exact Sm.fm (by decide) (by decide) | exact Sm.one (by decide) (by decide))); (try dsimp only)))
local macro_rules | `(tactic| walk_at "call ref") => `(tactic| (
  k_here; (with_reducible show wpAny _ _ (call (Value.ref 56) _) _ _ _); k_dflt (refine' col_call ?X ?T ?r ?hx ?ht ?hl ?hs ?_; (case hx => exact fmb (by decide)); (case ht => exact fmb (by decide)); (case hl => exact fmb (by decide)); (case hs => exact fmb (by decide)); (case X => k_in); (case T => exact Top.keeps (by k_asm) (Fr.keep (by k_asm))); (case r => k_room)); intro h' tk' a' r' g' b' x' y' z' hk' hf' hg' hc';
  (with_reducible rename Fr _ _ _ _ => kF); (with_reducible rename News _ _ _ _ => kN); k_dflt (have F' := Fr.keeps kF hk'; have N' := news_add kF kN hk' hf' hg'; have hne' := allNe_of (news_ne kN hf')); (clear kF kN hf' hg' hk')))
local macro_rules | `(tactic| walk_at "call ref") => `(tactic| (
  k_here; (with_reducible show wpAny _ _ (call (Value.ref 117) [Value.ref _]) _ _ _); k_dflt (first | (refine' told_callT ?X ?T ?r ?z ?c ?_; (case c => exact ⟨_, News.get (by assumption) (by k_mem), rfl, _, rfl⟩); (case z => exact ColIs.told (by assumption))) | (refine' told_callL ?X ?T ?r ?z ?c ?_; (case c => exact ⟨_, News.get (by assumption) (by k_mem), rfl, _, rfl⟩); (case z => exact ColIs.neg (by assumption)))); (case X => k_in); (case T => exact Top.keeps (by k_asm) (Fr.keep (by k_asm))); (case r => k_room); intro h' tk' a' x' y' z' hk' hf' hg';
  (with_reducible rename Fr _ _ _ _ => kF); (with_reducible rename News _ _ _ _ => kN); k_dflt (have F' := Fr.keeps kF hk'; have N' := news_add kF kN hk' hf' hg'; have hne' := allNe_of (news_ne kN hf')); (clear kF kN hf' hg' hk')))
local macro_rules | `(tactic| walk_at "binaryOp Pow int int") => `(tactic| (k_here; (with_reducible refine pow_int_small ?kb1 ?kb2 ?kb3 ?_); (case kb1 => decide); (case kb2 => decide); (case kb3 => decide)))
local macro_rules | `(tactic| walk_at "eval ListComp") => `(tactic| (
  k_here; (with_reducible rename Fr _ _ _ _ => kF); (with_reducible rename News _ _ _ _ => kN); k_dflt (with_unfolding_all refine' comp_neg rfl ?c1 ?c2 ?c3 ?c4 ?c5 ?c6 ?c7 ?c8 ?_ ?c9; (case c1 => rfl); (case c2 => rfl); (case c3 => decide); (case c4 => decide); (case c5 => rfl); (case c6 => decide); (case c7 => exact fun R hR => wpAny_Name (wpAny_loadName_local rfl rfl kF.ns (by with_unfolding_all rfl) hR) (by decide)); (case c8 => exact ⟨_, News.get (by assumption) (by k_mem), rfl, _, rfl⟩); (case c9 => exact fun _ => rfl)); intro D' h' tk' y1' y2' y3' n' hf' hg' hk';
  k_dflt (have F' := Fr.keeps kF hk'; have N' := news_add kF kN hk' hf' hg'; have hne' := allNe_of (news_ne kN hf')); (clear kF kN hf' hg' hk')))
local macro_rules | `(tactic| walk_at "call ref") => `(tactic| (
  k_here; (with_reducible show wpAny _ _ (call (Value.ref 56) [_, _, Value.int _ _]) _ _ _); k_dflt (refine' hls0_call ?X ?T ?r ?_; (case X => k_in); (case T => exact Top.keeps (by k_asm) (Fr.keep (by k_asm))); (case r => k_room)); intro h' tk' a' hk' hf' hg';
  (with_reducible rename Fr _ _ _ _ => kF); (with_reducible rename News _ _ _ _ => kN); k_dflt (have F' := Fr.keeps kF hk'; have N' := news_add kF kN hk' hf' hg'; have hne' := allNe_of (news_ne kN hf')); (clear kF kN hf' hg' hk')))
local macro_rules | `(tactic| walk_at "call builtin:isinstance") => `(tactic| (k_here; (with_reducible show wpAny _ _ (call _ [Value.ref _, Value.type "tuple"]) _ _ _); k_dflt (refine' IsiPair.isTuple_tuple (h₀ := _) ?a ?b ?_; (case a => exact ⟨_, News.get (by assumption) (by k_mem), rfl, _, rfl⟩); (case b => exact fun _ _ e => e))))
local macro_rules | `(tactic| walk_at "call ref") => `(tactic| (
  k_here; (with_reducible show wpAny _ _ (call (Value.ref 49) _) _ _ _); k_dflt (refine' grey_call ?X ?T ?r ?g ?_; (case g => exact grey_ok (fmb (by decide))); (case X => k_in); (case T => exact Top.keeps (by k_asm) (Fr.keep (by k_asm))); (case r => k_room)); intro h' tk' a' x' y' z' l' hk' hf' hg' hy' he';
  (with_reducible rename Fr _ _ _ _ => kF); (with_reducible rename News _ _ _ _ => kN); k_dflt (have F' := Fr.keeps kF hk'; have N' := news_add kF kN hk' hf' hg'; have hne' := allNe_of (news_ne kN hf')); (clear kF kN hf' hg' hk')))
local macro_rules | `(tactic| walk_at "compareOp NotEq ref ref") => `(tactic| (
  k_here; k_dflt (refine' tup_ne3 ?a ?b ?u ?h0 ?h1 ?h2 ?_; (case a => exact ⟨_, News.get (by assumption) (by k_mem), rfl, _, rfl⟩); (case b => exact ⟨_, News.get (by assumption) (by k_mem), rfl, _, rfl⟩); (case u => units_room); (case h0 => first | exact eqAt_float_int zero_is | exact eqAt_float (GreyOk.self (grey_ok (fmb (by decide)))) (Nat.succ_ne_zero _) (Nat.succ_ne_zero _) (booked_of (by k_in) (Heap.NoLimit.keeps (Top.nolimit (by k_asm)) (Fr.keep (by assumption))))); (case h1 => first | exact eqAt_float (by assumption) (by assumption) (Nat.succ_ne_zero _) (booked_of (by k_in) (Heap.NoLimit.keeps (Top.nolimit (by k_asm)) (Fr.keep (by assumption)))) | exact eqAt_float (GreyOk.self (grey_ok (fmb (by decide)))) (Nat.succ_ne_zero _) (Nat.succ_ne_zero _) (booked_of (by k_in) (Heap.NoLimit.keeps (Top.nolimit (by k_asm)) (Fr.keep (by assumption))))); (case h2 => first | exact eqAt_float_int zero_is | exact eqAt_float (GreyOk.self (grey_ok (fmb (by decide)))) (Nat.succ_ne_zero _) (Nat.succ_ne_zero _) (booked_of (by k_in) (Heap.NoLimit.keeps (Top.nolimit (by k_asm)) (Fr.keep (by assumption))))))))
local macro_rules | `(tactic| walk_at "subscriptTail Name BinOp ref int") => `(tactic| (
  k_here; (with_reducible show wpAny _ _ (subscriptTail _ _ (Value.ref _) (Value.int _ _)) _ _ _); (with_reducible rename TurnCtx _ _ _ _ _ _ _ _ _ _ _ _ _ _ _ _ _ _ _ => kC); k_dflt (refine' item_pal ?l ?s ?i ?_ ?e; (case l => exact News.get (by assumption) (by k_mem)); (case i => first | exact TurnCtx.ip kC | exact TurnCtx.iS kC | exact TurnCtx.iF kC); (case s => first | exact (TurnCtx.sz kC).1 | exact (TurnCtx.sz kC).2.1 | exact (TurnCtx.sz kC).2.2); (case e => with_unfolding_all rfl))))
local macro_rules | `(tactic| walk_at "call ref") => `(tactic| (
  k_here; (with_reducible show wpAny _ _ (call (Value.ref 101) _) _ _ _); (with_reducible rename Fr _ _ _ _ => kF); (with_reducible rename News _ _ _ _ => kN); (with_reducible rename TurnCtx _ _ _ _ _ _ _ _ _ _ _ _ _ _ _ _ _ _ _ => kC); k_dflt (refine' ins_call ?X ?T ?r (Fr.keep kF) ?f ?l ?i ?n ?S ?_; (case l => exact News.get kN (by k_mem)); (case f => exact PyProof.Rows.News.fresh kN (by k_mem)); (case X => k_asm); (case T => k_asm); (case r => k_room); (case i => first | exact PalSt.iS (TurnCtx.pal kC) | exact PalSt.iF (TurnCtx.pal kC)); (case n => first | exact (pal_len (TurnCtx.pal kC) (TurnCtx.n3 kC)).1 | exact (pal_len (TurnCtx.pal kC) (TurnCtx.n3 kC)).2.1); (case S => first | exact PalSt.ss (TurnCtx.pal kC) | exact PalSt.sf (TurnCtx.pal kC))); intro h' tk' vs' n' ns' hk' hg' hi' hs' hp';
  k_dflt (refine' insK ?U kF kN hk' hg' ?_; (case U => k_upd)); intro F' N'; (clear kF kN hk' hg')))
local macro_rules | `(tactic| walk_at "call builtin:list.append") => `(tactic| (
  k_here; k_dflt (show wpAny _ _ (call (Value.builtin _) [Value.ref _, _]) _ _ _); (with_reducible rename Fr _ _ _ _ => kF); (with_reducible rename News _ _ _ _ => kN); (with_reducible rename TurnCtx _ _ _ _ _ _ _ _ _ _ _ _ _ _ _ _ _ _ _ => kC); k_dflt (refine' append_K kF kN ?U ?_ ?z; (case U => k_upd); (case z => exact app_room (PalSt.ip (TurnCtx.pal kC)) (pal_len (TurnCtx.pal kC) (TurnCtx.n3 kC)).2.2)); intro h' F' N'; (clear kF kN); (try simp only [List.push_toArray] at N')))
local macro_rules | `(tactic| walk_at "storeName") => `(tactic| (k_here; (with_reducible show wpAny _ _ (storeName _ _ (Value.int _ (Shared.toks _))) _ _ _); (with_reducible rename Fr _ _ _ _ => kF); k_dflt (refine store_gen kF rfl ?_); intro _ _))
local macro_rules | `(tactic| walk_at "newList") => `(tactic| (k_here; (with_reducible show wpAny _ _ (newList [Value.int _ (Shared.toks _), _, _]) _ _ _); (with_reducible rename Fr _ _ _ _ => kF); k_dflt (refine list_gen kF rfl ?_); intro _ _ _ _))
theorem sub_contains {y : Str} (h : (["j", "k", "apart", "alike", "answer"] : List Str).contains y = false) : (["k", "apart", "alike", "answer"] : List Str).contains y = false := by
  cases q : (["k", "apart", "alike", "answer"] : List Str).contains y with
  | false => rfl
  | true =>
    rw [List.contains_iff_mem.mpr (List.mem_cons_of_mem _ (List.contains_iff_mem.mp q))] at h
    cases h
theorem law_holds : Challenge.rw_wn0076_01.Holds := hd (by
  k_fill
  intro w s₀ s₁ mg mb G Y fa o pm cd doc dV kV ho hd hcd hD hmg hg args vals as hpre hlay hrd hwl hlo
  have KX := kIn_of Y
  have X := (Ground.X G).1
  have V := (Ground.X G).2
  refine Ground.open G ?_
  intro T B D TE TW
  try (refine guard_noD D (by decide +kernel) ?_; clear D)
  obtain ⟨_, _, M⟩ := bmod_of_top T
  have TA := at_of_top T
  try (obtain ⟨_, _, he, B0⟩ := based_of_top T rfl hmg ho hd; have he' : cd = _ := he; subst he'; clear he)
  clear hmg
  wrow_args hpre hlay hrd hwl hlo
  first | refine callC_kw (enter_call ?_) | refine enter_call ?_ | refine callC_kw (enter_callW ?_) | refine enter_callW ?_ | w_how
  w_top on
  have K0 := below_caller (Top.heap T)
  w_call any ho hd hcd hD T F
  clear hd TA
  k_drop
  all_goals (try k_fold)
  k_steps
  unfold Stop
  refine' law_loop2 ["cell", "place", "light", "share", "colour", "told", "opposite", "grey", "laid"] ?hh ?hr ?hsm ?hn ?F ?N ?hlt ?hS ?turn ?done
  case hh => rfl
  case hr => assumption
  case hsm => decide +kernel
  case hn => decide +kernel
  case F => assumption
  case N => assumption
  case hlt =>
    dsimp only [nlt]
    refine ⟨?_, ?_, ?_, ?_, ?_, ?_, ?_, ?_, ?_, ?_, ?_, ?_, ?_⟩ <;> omega
  case hS => exact ⟨_, _, rfl, .cons _ _ (.cons _ _ (.cons _ _ (.cons _ _ (.cons _ _ (.cons _ _ (.cons _ _ (.cons _ _ (.cons _ _ .nil)))))))), rfl⟩
  case turn =>
    intro oS hoS i t u h tk own pa sa fa vp vs vf n1 n2 n3 P S Fc n PA SA FA ctx lts o1 o2 o3 F' N'
    obtain ⟨q1, q2, q3, q4, q5, q6, q7⟩ := lts
    dsimp only [nlt] at q1 q2 q3 q4 q5 q6 q7
    k_steps
    (with_reducible rename Fr _ _ _ _ => kF)
    (with_reducible rename News _ _ _ _ => kN)
    (with_reducible rename TurnCtx _ _ _ _ _ _ _ _ _ _ _ _ _ _ _ _ _ _ _ => kC)
    refine' turn9_intro rfl kF kN ?i1 ?i2 ?i3 ?kk ?mm kC.pal ((PalSt.ip kC.pal).append (.cons _ _ .nil)) ?I1 ?I2 ?S1 ?S2 ?P1 ?P2 ?e1 ?e2 (fmb (by decide))
    case i1 => k_mem
    case i2 => k_mem
    case i3 => k_mem
    case I1 => assumption
    case I2 => assumption
    case S1 => assumption
    case S2 => assumption
    case P1 => assumption
    case P2 => assumption
    case e1 => exact div30 _
    case e2 => exact div30 _
    case kk => exact fun p hp => by repeat (first | exact hp | refine List.Mem.tail _ ?_)
    case mm =>
      intro y h1 h2
      repeat refine (if_neg (contains_ne h2 _ (by k_mem))).trans ?_
      exact (if_neg h1).trans (if_neg (by rw [h2]; decide))
  case done =>
    intro u h tk vp vs vf np ns nf P S Fc pal F' N'
    (with_reducible rename Frag.In _ _ => kX)
    (with_reducible rename Top _ _ _ _ _ _ => kT)
    (with_reducible rename Fr _ _ _ _ => kF)
    (with_reducible rename News _ _ _ _ => kN)
    have kT0 := kT
    have kT := topRead_of kT
    have kXh := kX.keeps kF.keep
    refine wpAny_execs_cons ?_
    with_unfolding_all refine' rows3F (fun j => (List.range 16).map (cR (P j))) kF kN ?be1 ?be2 ?be3 ?be4 ?be5 ?be6 ?be7 ?be8 ?be9 ?be10 ?be11 (News.get kN (by first | exact (.tail _ (.head _)))) ?be13 ?be14 ?be15 ?be16
    case be1 => rfl
    case be2 => rfl
    case be3 => rfl
    case be4 => rfl
    case be5 => rfl
    case be6 => rfl
    case be7 => decide
    case be8 => exact fun _ => rfl
    case be9 => exact fun _ => rfl
    case be10 => rfl
    case be11 => exact fun R hR => wpAny_Name (wpAny_loadName_local rfl rfl kF.ns (by with_unfolding_all rfl) hR) (by decide)
    case be13 => rfl
    case be16 => exact fun _ => rfl
    case be14 =>
      rintro C X1 j v s₃ E' Q' hj hv hX1 hk₃ ⟨h3, tk3, rfl⟩ hQ'
      have X3 := (kX.keeps kF.keep).keeps hk₃
      have T3 := (kT.keeps kF.keep).keeps hk₃
      with_unfolding_all refine' compR (n := 16) (cR (P j)) X3 T3 ?b1 ?b2 ?b3 ?b4 ?b5 ?b6 ?b7 ?b8 ?b9 ?b10 ?b11 ?b12 ?b13 ?b14 ?b15 hQ' ?b17
      case b1 => k_is
      case b2 => rfl
      case b3 => rfl
      case b4 => rfl
      case b5 => rfl
      case b6 => decide +kernel
      case b7 => decide +kernel
      case b8 => decide +kernel
      case b9 => rfl
      case b10 => rfl
      case b11 => rfl
      case b12 => decide
      case b13 => decide
      case b14 => rfl
      case b17 => exact fun _ => rfl
      case b15 =>
        rintro C2 m2 i ti s₄ E2 Q2 hi hn hm hk₄ ⟨h4, tk4, rfl⟩ hQ2
        have X4 := X3.keeps hk₄
        have T4 := Top.keeps kT0 (fun b o e => hk₄ _ _ (hk₃ _ _ (kF.keep _ _ e)))
        refine Call_ (name_g X4 (T3.keeps hk₄) (by k_is) rfl rfl rfl (by decide) (call_g2' X4 (by k_is) rfl ?_))
        have cJ : h4.IsCell X1 (some v) := let ⟨o, ho, r⟩ := hX1; ⟨o, hk₄ _ _ ho, r⟩
        refine wpAny_Name (wpAny_loadName_cell rfl rfl rfl cJ ?_) (by decide)
        refine wpAny_Name (wpAny_loadName_local rfl rfl hn hm ?_) (by decide)
        refine ⟨X4, ?_⟩
        have row : ∃ a, v = .ref a ∧ h4.get? a = some (lobj (vs j) (ns j)) := by
          rcases lt3 hj with rfl | rfl | rfl
          · exact ⟨_, (Option.some.inj hv).symm, hk₄ _ _ (hk₃ _ _ (News.get kN (by k_mem)))⟩
          · exact ⟨_, (Option.some.inj hv).symm, hk₄ _ _ (hk₃ _ _ (News.get kN (by k_mem)))⟩
          · exact ⟨_, (Option.some.inj hv).symm, hk₄ _ _ (hk₃ _ _ (News.get kN (by k_mem)))⟩
        obtain ⟨a, rfl, hrow⟩ := row
        have hp := pal j hj
        refine bisr_call (d := _) X4 T4 (by decide +kernel) (isList_of hrow) hp.iS (pal_len hp (by decide)).1 hp.ss fun h' tk t k hk' hat => ?_
        rw [right_count hat hp.ps]
        exact hQ2 _ _ _ hk'

    case be15 =>
      intro D h' tk' rb obb k hrowb F' N'
      clear kF kN kXh
      dsimp only
      (with_reducible rename Fr _ _ _ _ => kF)
      (with_reducible rename News _ _ _ _ => kN)
      have kXh := kX.keeps kF.keep
      have kTh := kT.keeps kF.keep
      refine wpAny_execs_cons (wpAny_If (wpAny_isTrue_Compare1 ?_))
      refine wpAny_Name (wpAny_loadName_local rfl rfl kF.ns (by with_unfolding_all rfl) ?_) (by decide)
      with_unfolding_all refine' rows3E (fun j => (List.range 16).map (cR (P j))) ?ba1 ?ba2 ?ba3 ?ba4 ?ba5 ?ba6 ?ba7 ?ba8 (isList_of (News.get kN (by first | exact (.tail _ (.tail _ (.tail _ (.tail _ (.tail _ (.tail _ (.head _)))))))))) ?ba10 ?ba11 ?ba12 ?ba13
      case ba1 => rfl
      case ba2 => rfl
      case ba3 => rfl
      case ba4 => decide
      case ba5 => exact fun _ => rfl
      case ba6 => exact fun _ => rfl
      case ba7 => rfl
      case ba8 => exact fun R hR => wpAny_Name (wpAny_loadName_cell rfl rfl (by with_unfolding_all rfl) ⟨_, News.get kN (by k_mem), by assumption⟩ hR) (by decide)
      case ba10 => rfl
      case ba13 => exact fun _ => rfl
      case ba11 =>
        rintro C X1 j v s₃ E' Q' hj hv hX1 hk₃ ⟨h3, tk3, rfl⟩ hQ'
        have X3 := kXh.keeps hk₃
        have T3 := kTh.keeps hk₃
        with_unfolding_all refine' compRI (n := 16) (cR (P j)) X3 T3 ?bb1 ?bb2 ?bb3 ?bb4 ?bb5 ?bb6 ?bb7 ?bb8 ?bb9 ?bb10 ?bb11 ?bb12 ?bb13 ?bb14 ?bb15 ?bb16 hQ' ?bb18
        case bb1 => k_is
        case bb2 => rfl
        case bb3 => rfl
        case bb4 => rfl
        case bb5 => rfl
        case bb6 => decide +kernel
        case bb7 => decide +kernel
        case bb8 => decide +kernel
        case bb9 => rfl
        case bb10 => rfl
        case bb11 => rfl
        case bb12 => decide
        case bb13 => exact fun _ => rfl
        case bb14 => exact fun _ => rfl
        case bb15 => rfl
        case bb18 => exact fun _ => rfl
        case bb16 =>
          rintro C2 X2 i ti s₄ E2 Q2 hi hX2 hk₄ ⟨h4, tk4, rfl⟩ hQ2
          have X4 := X3.keeps hk₄
          have cJ : h4.IsCell X1 (some v) := let ⟨o, ho, r⟩ := hX1; ⟨o, hk₄ _ _ ho, r⟩
          have row : ∃ a, v = .ref a ∧ h4.get? a = some (lobj (vp j) (np j)) := by
            rcases lt3 hj with rfl | rfl | rfl
            · exact ⟨_, (Option.some.inj hv).symm, hk₄ _ _ (hk₃ _ _ (News.get kN (by k_mem)))⟩
            · exact ⟨_, (Option.some.inj hv).symm, hk₄ _ _ (hk₃ _ _ (News.get kN (by k_mem)))⟩
            · exact ⟨_, (Option.some.inj hv).symm, hk₄ _ _ (hk₃ _ _ (News.get kN (by k_mem)))⟩
          obtain ⟨a, rfl, hrow⟩ := row
          have hp := pal j hj
          refine Call_ (name_b X4 (T3.keeps hk₄) (by k_is) rfl (by boot_fast) (by decide) rfl rfl rfl (by decide) (call_b1 rfl ?_))
          with_unfolding_all refine' compF (fun a => decide (a ≤ (i : Int))) ?bc1 ?bc2 ?bc3 ?bc4 ?bc5 ?bc6 ?bc7 ?bc8 ?bc9 (isList_of hrow) hp.ip ?bc12 ?bc13 ?bc14
          case bc1 => rfl
          case bc2 => rfl
          case bc3 => rfl
          case bc4 => decide
          case bc5 => decide
          case bc6 => rfl
          case bc7 => decide
          case bc8 => exact fun _ => rfl
          case bc9 => exact fun R hR => wpAny_Name (wpAny_loadName_cell rfl rfl rfl cJ hR) (by decide)
          case bc12 => rw [hp.len]; decide +kernel
          case bc13 =>
            intro C3 m3 b tb s₅ E3 Q3 hn3 hm3 hk₅ hQ3
            have cX : s₅.heap.IsCell X2 (some (.int (i : Int) ti)) := let ⟨o, ho, r⟩ := hX2; ⟨o, hk₅ _ _ ho, r⟩
            refine wpAny_isTrue_Compare1 ?_
            refine wpAny_Name (wpAny_loadName_local rfl rfl hn3 hm3 ?_) (by decide)
            refine wpAny_Name (wpAny_loadName_cell rfl rfl rfl cX ?_) (by decide)
            exact PyProof.Rows.le_int (wpAny_truthy_bool (hQ3 _))
          case bc14 =>
            intro D2 h5 tk5 ys hD2 hl2 hsz2 hk5
            refine PyProof.Rows.len_list hl2 (by rw [hsz2]; exact Int.ofNat_lt.mpr (Nat.lt_of_le_of_lt (Nat.le_trans (List.length_filter_le _ _) (Nat.le_of_eq hp.len)) (by decide))) ?_
            rw [hsz2]
            exact hQ2 _ _ _ hk5
      case ba12 =>
        intro D2 h5 tk5 ys k5 hD2 hg5 hsz5 hel5 hk5
        refine rows_ne' (hk5 _ _ (News.get kN (.head _))) (fun j hj => ⟨?_, hrowb j hj⟩) hg5 hsz5 hel5 (by units_room) (by units_room) (wpAny_truthy_bool ?_)
        · rcases lt3 hj with rfl | rfl | rfl
          · exact hk5 _ _ (News.get kN (by k_mem))
          · exact hk5 _ _ (News.get kN (by k_mem))
          · exact hk5 _ _ (News.get kN (by k_mem))
        · have kF := Fr.keeps kF hk5
          have kN := News.grown kN hk5
          refine wpAny_execs_nil ?_
          dsimp only
          clear kXh kTh
          have kXh := kX.keeps kF.keep
          refine wpAny_execs_cons ?_
          with_unfolding_all refine' rows3F (fun j => (List.range 16).map (cL (P j))) kF kN ?ge1 ?ge2 ?ge3 ?ge4 ?ge5 ?ge6 ?ge7 ?ge8 ?ge9 ?ge10 ?ge11 (News.get kN (by first | exact (.tail _ (.tail _ (.tail _ (.tail _ (.head _))))))) ?ge13 ?ge14 ?ge15 ?ge16
          case ge1 => rfl
          case ge2 => rfl
          case ge3 => rfl
          case ge4 => rfl
          case ge5 => rfl
          case ge6 => rfl
          case ge7 => decide
          case ge8 => exact fun _ => rfl
          case ge9 => exact fun _ => rfl
          case ge10 => rfl
          case ge11 => exact fun R hR => wpAny_Name (wpAny_loadName_local rfl rfl kF.ns (by with_unfolding_all rfl) hR) (by decide)
          case ge13 => rfl
          case ge16 => exact fun _ => rfl
          case ge14 =>
            rintro C X1 j v s₃ E' Q' hj hv hX1 hk₃ ⟨h3, tk3, rfl⟩ hQ'
            have X3 := (kX.keeps kF.keep).keeps hk₃
            have T3 := (kT.keeps kF.keep).keeps hk₃
            with_unfolding_all refine' compR (n := 16) (cL (P j)) X3 T3 ?g1 ?g2 ?g3 ?g4 ?g5 ?g6 ?g7 ?g8 ?g9 ?g10 ?g11 ?g12 ?g13 ?g14 ?g15 hQ' ?g17
            case g1 => k_is
            case g2 => rfl
            case g3 => rfl
            case g4 => rfl
            case g5 => rfl
            case g6 => decide +kernel
            case g7 => decide +kernel
            case g8 => decide +kernel
            case g9 => rfl
            case g10 => rfl
            case g11 => rfl
            case g12 => decide
            case g13 => decide
            case g14 => rfl
            case g17 => exact fun _ => rfl
            case g15 =>
              rintro C2 m2 i ti s₄ E2 Q2 hi hn hm hk₄ ⟨h4, tk4, rfl⟩ hQ2
              have X4 := X3.keeps hk₄
              have T4 := Top.keeps kT0 (fun b o e => hk₄ _ _ (hk₃ _ _ (kF.keep _ _ e)))
              refine Call_ (name_g X4 (T3.keeps hk₄) (by k_is) rfl rfl rfl (by decide) (call_g2' X4 (by k_is) rfl ?_))
              have cJ : h4.IsCell X1 (some v) := let ⟨o, ho, r⟩ := hX1; ⟨o, hk₄ _ _ ho, r⟩
              refine wpAny_Name (wpAny_loadName_cell rfl rfl rfl cJ ?_) (by decide)
              refine wpAny_Name (wpAny_loadName_local rfl rfl hn hm ?_) (by decide)
              refine ⟨X4, ?_⟩
              have row : ∃ a, v = .ref a ∧ h4.get? a = some (lobj (vf j) (nf j)) := by
                rcases lt3 hj with rfl | rfl | rfl
                · exact ⟨_, (Option.some.inj hv).symm, hk₄ _ _ (hk₃ _ _ (News.get kN (by k_mem)))⟩
                · exact ⟨_, (Option.some.inj hv).symm, hk₄ _ _ (hk₃ _ _ (News.get kN (by k_mem)))⟩
                · exact ⟨_, (Option.some.inj hv).symm, hk₄ _ _ (hk₃ _ _ (News.get kN (by k_mem)))⟩
              obtain ⟨a, rfl, hrow⟩ := row
              have hp := pal j hj
              refine bisl_call (t2 := 0) (d := _) X4 T4 (by decide +kernel) (isList_of hrow) hp.iF (pal_len hp (by decide)).2.1 hp.sf fun h' tk t k hk' hat => ?_
              rw [left_count hat hp.pf]
              exact hQ2 _ _ _ hk'

          case ge15 =>
            intro D h' tk' rg obg k hrowg F' N'
            clear kF kN kXh
            dsimp only
            (with_reducible rename Fr _ _ _ _ => kF)
            (with_reducible rename News _ _ _ _ => kN)
            have kXh := kX.keeps kF.keep
            have kTh := kT.keeps kF.keep
            refine wpAny_execs_cons (wpAny_If (wpAny_isTrue_Compare1 ?_))
            refine wpAny_Name (wpAny_loadName_local rfl rfl kF.ns (by with_unfolding_all rfl) ?_) (by decide)
            with_unfolding_all refine' rows3E (fun j => (List.range 16).map (cL (P j))) ?ga1 ?ga2 ?ga3 ?ga4 ?ga5 ?ga6 ?ga7 ?ga8 (isList_of (News.get kN (by first | exact (.tail _ (.tail _ (.tail _ (.tail _ (.tail _ (.tail _ (.tail _ (.tail _ (.tail _ (.tail _ (.head _)))))))))))))) ?ga10 ?ga11 ?ga12 ?ga13
            case ga1 => rfl
            case ga2 => rfl
            case ga3 => rfl
            case ga4 => decide
            case ga5 => exact fun _ => rfl
            case ga6 => exact fun _ => rfl
            case ga7 => rfl
            case ga8 => exact fun R hR => wpAny_Name (wpAny_loadName_cell rfl rfl (by with_unfolding_all rfl) ⟨_, News.get kN (by k_mem), by assumption⟩ hR) (by decide)
            case ga10 => rfl
            case ga13 => exact fun _ => rfl
            case ga11 =>
              rintro C X1 j v s₃ E' Q' hj hv hX1 hk₃ ⟨h3, tk3, rfl⟩ hQ'
              have X3 := kXh.keeps hk₃
              have T3 := kTh.keeps hk₃
              with_unfolding_all refine' compRI (n := 16) (cL (P j)) X3 T3 ?gb1 ?gb2 ?gb3 ?gb4 ?gb5 ?gb6 ?gb7 ?gb8 ?gb9 ?gb10 ?gb11 ?gb12 ?gb13 ?gb14 ?gb15 ?gb16 hQ' ?gb18
              case gb1 => k_is
              case gb2 => rfl
              case gb3 => rfl
              case gb4 => rfl
              case gb5 => rfl
              case gb6 => decide +kernel
              case gb7 => decide +kernel
              case gb8 => decide +kernel
              case gb9 => rfl
              case gb10 => rfl
              case gb11 => rfl
              case gb12 => decide
              case gb13 => exact fun _ => rfl
              case gb14 => exact fun _ => rfl
              case gb15 => rfl
              case gb18 => exact fun _ => rfl
              case gb16 =>
                rintro C2 X2 i ti s₄ E2 Q2 hi hX2 hk₄ ⟨h4, tk4, rfl⟩ hQ2
                have X4 := X3.keeps hk₄
                have cJ : h4.IsCell X1 (some v) := let ⟨o, ho, r⟩ := hX1; ⟨o, hk₄ _ _ ho, r⟩
                have row : ∃ a, v = .ref a ∧ h4.get? a = some (lobj (vp j) (np j)) := by
                  rcases lt3 hj with rfl | rfl | rfl
                  · exact ⟨_, (Option.some.inj hv).symm, hk₄ _ _ (hk₃ _ _ (News.get kN (by k_mem)))⟩
                  · exact ⟨_, (Option.some.inj hv).symm, hk₄ _ _ (hk₃ _ _ (News.get kN (by k_mem)))⟩
                  · exact ⟨_, (Option.some.inj hv).symm, hk₄ _ _ (hk₃ _ _ (News.get kN (by k_mem)))⟩
                obtain ⟨a, rfl, hrow⟩ := row
                have hp := pal j hj
                refine Call_ (name_b X4 (T3.keeps hk₄) (by k_is) rfl (by boot_fast) (by decide) rfl rfl rfl (by decide) (call_b1 rfl ?_))
                with_unfolding_all refine' compF (fun a => decide ((a + 8).fmod 16 < (i : Int))) ?gc1 ?gc2 ?gc3 ?gc4 ?gc5 ?gc6 ?gc7 ?gc8 ?gc9 (isList_of hrow) hp.ip ?gc12 ?gc13 ?gc14
                case gc1 => rfl
                case gc2 => rfl
                case gc3 => rfl
                case gc4 => decide
                case gc5 => decide
                case gc6 => rfl
                case gc7 => decide
                case gc8 => exact fun _ => rfl
                case gc9 => exact fun R hR => wpAny_Name (wpAny_loadName_cell rfl rfl rfl cJ hR) (by decide)
                case gc12 => rw [hp.len]; decide +kernel
                case gc13 =>
                  intro C3 m3 b tb s₅ E3 Q3 hn3 hm3 hk₅ hQ3
                  have cX : s₅.heap.IsCell X2 (some (.int (i : Int) ti)) := let ⟨o, ho, r⟩ := hX2; ⟨o, hk₅ _ _ ho, r⟩
                  refine wpAny_isTrue_Compare1 ?_
                  refine wpAny_BinOp (wpAny_BinOp (wpAny_Name (wpAny_loadName_local rfl rfl hn3 hm3 ?_) (by decide)))
                  refine wpAny_Constant_int (PyProof.Rows.add_int (wpAny_Constant_int (mod_int' (by decide) ?_)))
                  refine wpAny_Name (wpAny_loadName_cell rfl rfl rfl cX ?_) (by decide)
                  exact PyProof.Rows.lt_int (wpAny_truthy_bool (hQ3 _))
                case gc14 =>
                  intro D2 h5 tk5 ys hD2 hl2 hsz2 hk5
                  refine PyProof.Rows.len_list hl2 (by rw [hsz2]; exact Int.ofNat_lt.mpr (Nat.lt_of_le_of_lt (Nat.le_trans (List.length_filter_le _ _) (Nat.le_of_eq hp.len)) (by decide))) ?_
                  rw [hsz2]
                  exact hQ2 _ _ _ hk5
            case ga12 =>
              intro D2 h5 tk5 ys k5 hD2 hg5 hsz5 hel5 hk5
              refine rows_ne' (hk5 _ _ (News.get kN (.head _))) (fun j hj => ⟨?_, hrowg j hj⟩) hg5 hsz5 hel5 (by units_room) (by units_room) (wpAny_truthy_bool ?_)
              · rcases lt3 hj with rfl | rfl | rfl
                · exact hk5 _ _ (News.get kN (by k_mem))
                · exact hk5 _ _ (News.get kN (by k_mem))
                · exact hk5 _ _ (News.get kN (by k_mem))
              · have kF := Fr.keeps kF hk5
                have kN := News.grown kN hk5
                refine wpAny_execs_nil ?_
                dsimp only
                clear kXh kTh
                refine wpAny_execs_cons ?_
                with_unfolding_all refine' gapsF (r := rb) (ob := obb) (g := fun j => (List.range 16).map (cR (P j))) kX kT kF kN ?bf1 ?bf2 ?bf3 ?bf4 ?bf5 ?bf6 ?bf7 ?bf8 ?bf9 ?bf10 ?bf11 ?bf12 ?bf13 hrowb ?bf15 ?bf16
                case bf1 => decide +kernel
                case bf2 => rfl
                case bf3 => rfl
                case bf4 => rfl
                case bf5 => rfl
                case bf6 => rfl
                case bf7 => rfl
                case bf8 => rfl
                case bf9 => exact fun R hR => wpAny_Name (wpAny_loadName_local rfl rfl kF.ns (by with_unfolding_all rfl) hR) (by decide)
                case bf10 => exact (.tail _ (.tail _ (.tail _ (.tail _ (.head _)))))
                case bf11 => k_mem
                case bf12 => k_mem
                case bf13 => k_mem
                case bf15 => exact fun j hj => by rw [List.length_map, List.length_range]
                case bf16 =>
                  intro D h' tk' tb otb k htupb F' N'
                  clear kF kN
                  dsimp only
                  (with_reducible rename Fr _ _ _ _ => kF)
                  (with_reducible rename News _ _ _ _ => kN)
                  refine wpAny_execs_cons ?_
                  with_unfolding_all refine' gapsF (r := rg) (ob := obg) (g := fun j => (List.range 16).map (cL (P j))) kX kT kF kN ?gf1 ?gf2 ?gf3 ?gf4 ?gf5 ?gf6 ?gf7 ?gf8 ?gf9 ?gf10 ?gf11 ?gf12 ?gf13 hrowg ?gf15 ?gf16
                  case gf1 => decide +kernel
                  case gf2 => rfl
                  case gf3 => rfl
                  case gf4 => rfl
                  case gf5 => rfl
                  case gf6 => rfl
                  case gf7 => rfl
                  case gf8 => rfl
                  case gf9 => exact fun R hR => wpAny_Name (wpAny_loadName_local rfl rfl kF.ns (by with_unfolding_all rfl) hR) (by decide)
                  case gf10 => exact (.tail _ (.tail _ (.tail _ (.tail _ (.head _)))))
                  case gf11 => k_mem
                  case gf12 => k_mem
                  case gf13 => k_mem
                  case gf15 => exact fun j hj => by rw [List.length_map, List.length_range]
                  case gf16 =>
                    intro D h' tk' tg otg k htupg F' N'
                    clear kF kN
                    dsimp only
                    (with_reducible rename Fr _ _ _ _ => kF)
                    (with_reducible rename News _ _ _ _ => kN)
                    have kXh := kX.keeps kF.keep
                    have kTh := kT.keeps kF.keep
                    have hcl := News.get kN (by first | exact (.tail _ (.tail _ (.tail _ (.tail _ (.tail _ (.tail _ (.tail _ (.tail _ (.tail _ (.tail _ (.tail _ (.tail _ (.tail _ (.tail _ (.tail _ (.tail _ (.tail _ (.tail _ (.tail _ (.tail _ (.head _))))))))))))))))))))))
                    refine wpAny_execs_cons ?_
                    with_unfolding_all refine' rows3F (fun j => (List.range 3).map fun i => ways (P j) (P i)) kF kN ?we1 ?we2 ?we3 ?we4 ?we5 ?we6 ?we7 ?we8 ?we9 ?we10 ?we11 (News.get kN (by first | exact (.tail _ (.tail _ (.tail _ (.tail _ (.tail _ (.tail _ (.tail _ (.tail _ (.tail _ (.tail _ (.tail _ (.tail _ (.tail _ (.tail _ (.tail _ (.tail _ (.tail _ (.tail _ (.head _))))))))))))))))))))) ?we13 ?we14 ?we15 ?we16
                    case we1 => rfl
                    case we2 => rfl
                    case we3 => rfl
                    case we4 => rfl
                    case we5 => rfl
                    case we6 => rfl
                    case we7 => decide
                    case we8 => exact fun _ => rfl
                    case we9 => exact fun _ => rfl
                    case we10 => rfl
                    case we11 => exact fun R hR => wpAny_Name (wpAny_loadName_cell rfl rfl (by with_unfolding_all rfl) ⟨_, hcl, by assumption⟩ hR) (by decide)
                    case we13 => rfl
                    case we16 => exact fun _ => rfl
                    case we14 =>
                      rintro C X1 j v s₃ E' Q' hj hv hX1 hk₃ ⟨h3, tk3, rfl⟩ hQ'
                      have X3 := kXh.keeps hk₃
                      have T3 := kTh.keeps hk₃
                      with_unfolding_all refine' compLst (n := 3) (fun i => ways (P j) (P i)) ?wb1 ?wb2 ?wb3 ?wb4 ?wb5 ?wb6 ?wb7 ?wb8 (isList_of (hk₃ _ _ (News.get kN (by first | exact (.tail _ (.tail _ (.tail _ (.tail _ (.tail _ (.tail _ (.tail _ (.tail _ (.tail _ (.tail _ (.tail _ (.tail _ (.tail _ (.tail _ (.tail _ (.tail _ (.tail _ (.tail _ (.head _))))))))))))))))))))))) ?wb10 ?wb11 ?wb12 hQ'
                      case wb1 => rfl
                      case wb2 => rfl
                      case wb3 => rfl
                      case wb4 => decide
                      case wb5 => decide
                      case wb6 => rfl
                      case wb7 => exact fun _ => rfl
                      case wb8 => exact fun R hR => wpAny_Name (wpAny_loadName_cell rfl rfl rfl ⟨_, hk₃ _ _ hcl, by assumption⟩ hR) (by decide)
                      case wb10 => rfl
                      case wb11 => decide +kernel
                      case wb12 =>
                        rintro C2 m2 i v2 s₄ E2 Q2 hi hv2 hn hm hk₄ ⟨h4, tk4, rfl⟩ hQ2
                        have X4 := X3.keeps hk₄
                        have T4 := T3.keeps hk₄
                        have cJ : h4.IsCell X1 (some v) := let ⟨o, ho, r⟩ := hX1; ⟨o, hk₄ _ _ ho, r⟩
                        obtain ⟨a, rfl, ha⟩ : ∃ a, v = .ref a ∧ h4.get? a = some (lobj (vp j) (np j)) := by
                          rcases lt3 hj with rfl | rfl | rfl <;> exact ⟨_, (Option.some.inj hv).symm, hk₄ _ _ (hk₃ _ _ (News.get kN (by k_mem)))⟩
                        obtain ⟨b, rfl, hb⟩ : ∃ a, v2 = .ref a ∧ h4.get? a = some (lobj (vp i) (np i)) := by
                          rcases lt3 hi with rfl | rfl | rfl <;> exact ⟨_, (Option.some.inj hv2).symm, hk₄ _ _ (hk₃ _ _ (News.get kN (by k_mem)))⟩
                        refine Call_ (name_g X4 T4 (by k_is) rfl rfl rfl (by decide) (call_g2' X4 (by k_is) rfl ?_))
                        refine wpAny_Name (wpAny_loadName_cell rfl rfl rfl cJ ?_) (by decide)
                        refine wpAny_Name (wpAny_loadName_local rfl rfl hn hm ?_) (by decide)
                        refine ⟨X4, ?_⟩
                        exact ways_call X4 T4 T4.nolimit (by decide +kernel) (isList_of ha) (pal j hj).ip (pal j hj).len (isList_of hb) (pal i hi).ip (pal i hi).len fun h' tk t hk' => hQ2 _ _ _ hk'
                    case we15 =>
                      intro D h' tk' rw obw k hroww F' N'
                      clear kF kN kXh kTh hcl
                      dsimp only
                      (with_reducible rename Fr _ _ _ _ => kF)
                      (with_reducible rename News _ _ _ _ => kN)
                      have kB := cov_based kX kT0
                      (with_reducible rename BMod _ _ _ _ _ => kM)
                      refine wpAny_execs_cons ?_
                      with_unfolding_all refine' for_inv (n := 3) (vars := ["j", "k", "apart", "alike", "answer"]) (fun s' I => inv_in kX I) (fun s' I => inv_top kT I) ?l1 ?l2 ?l3 ?l4 ?l5 ?l6 ?l7 ?l8 ?l9 ?l10 ?l11 ?l12 ⟨⟨_, _, _, kB, kF, kN, fun _ _ => rfl⟩, ?l13, rfl, rfl⟩ ?l14 ?l15
                      case l1 => k_is
                      case l2 => rfl
                      case l3 => rfl
                      case l4 => rfl
                      case l5 => rfl
                      case l6 => decide +kernel
                      case l7 => decide +kernel
                      case l8 => rfl
                      case l9 => rfl
                      case l10 => rfl
                      case l11 => decide
                      case l12 => exact fun _ => rfl
                      case l13 =>
                        (with_reducible rename (_ = #[]) => kG)
                        dsimp only
                        rw [kG]; exact fun y hy => absurd hy (Array.not_mem_empty y)
                      case l14 =>
                        intro i t I s' E' hi ⟨g, ps, m, B, F, N, hmx, hm⟩ hb hd ho
                        refine wpAny_execs_cons ?_
                        with_unfolding_all refine' for_inv (n := 3) (vars := ["k", "apart", "alike", "answer"]) (fun s' I => inv_in kX I) (fun s' I => inv_top kT I) ?li1 ?li2 ?li3 ?li4 ?li5 ?li6 ?li7 ?li8 ?li9 ?li10 ?li11 ?li12 ⟨⟨g, ps, m, B, F, N, fun _ _ => rfl⟩, hb, hd, ho⟩ ?li14 ?li15
                        case li1 => k_is
                        case li2 => rfl
                        case li3 => rfl
                        case li4 => rfl
                        case li5 => rfl
                        case li6 => decide +kernel
                        case li7 => decide +kernel
                        case li8 => rfl
                        case li9 => rfl
                        case li10 => rfl
                        case li11 => decide
                        case li12 => exact fun _ => rfl
                        case li14 =>
                          intro i2 t2 I2 s2 E2 hi2 ⟨g2, ps2, m2, B2, F2, N2, hmx2, hm2⟩ hb2 hd2 ho2
                          clear kF kN F N
                          have kF := F2
                          have kN := N2
                          clear F2 N2
                          have hmW := (hm2 "ways" (by decide)).trans ((hm "ways" (by decide)).trans (by with_unfolding_all rfl : _ = some (Value.ref _)))
                          have hmU := (hm2 "ups" (by decide)).trans ((hm "ups" (by decide)).trans (by with_unfolding_all rfl : _ = some (Value.ref _)))
                          have hmA := (hm2 "aheads" (by decide)).trans ((hm "aheads" (by decide)).trans (by with_unfolding_all rfl : _ = some (Value.ref _)))
                          have hmJ := (hm2 "j" (by decide)).trans hmx
                          have hmK := hmx2
                          have hlW := isList_of (News.get kN (List.Mem.tail _ (List.Mem.tail _ (List.Mem.head _))))
                          obtain ⟨vw, hvw⟩ := rows_vv (r := rw) (ob := obw) (g := fun j => (List.range 3).map fun i => ways (P j) (P i)) fun j hj => ⟨(by rcases lt3 hj with rfl | rfl | rfl <;> exact News.get kN (by k_mem)), hroww j hj⟩
                          refine wpAny_execs_cons (wpAny_Assign_Name (wpAny_BinOp ?_))
                          refine Subscript_ (Subscript_ (wpAny_Name (wpAny_loadName_local rfl rfl kF.ns (by with_unfolding_all exact hmW) ?_) (by decide)))
                          refine wpAny_Name (wpAny_loadName_local rfl rfl kF.ns (by with_unfolding_all exact hmJ) ?_) (by decide)
                          refine item_ref3 (r := rw) hlW rfl hi ?_
                          refine wpAny_BinOp (wpAny_BinOp (wpAny_Name (wpAny_loadName_local rfl rfl kF.ns (by with_unfolding_all exact hmK) ?_) (by decide)))
                          refine wpAny_Constant_int (PyProof.Rows.add_int (wpAny_Constant_int (mod_int' (by decide) ?_)))
                          refine item_way (hvw _ hi).1 (hvw _ hi).2 (fmod3 _) (Nat.mod_lt _ (by decide)) fun _ => ?_
                          refine Subscript_ (Subscript_ (wpAny_Name (wpAny_loadName_local rfl rfl kF.ns (by with_unfolding_all exact hmW) ?_) (by decide)))
                          refine wpAny_BinOp (wpAny_BinOp (wpAny_Name (wpAny_loadName_local rfl rfl kF.ns (by with_unfolding_all exact hmJ) ?_) (by decide)))
                          refine wpAny_Constant_int (PyProof.Rows.add_int (wpAny_Constant_int (mod_int' (by decide) ?_)))
                          refine item_ref3 (r := rw) hlW (fmod3 _) (Nat.mod_lt _ (by decide)) ?_
                          refine wpAny_Name (wpAny_loadName_local rfl rfl kF.ns (by with_unfolding_all exact hmK) ?_) (by decide)
                          refine item_way (hvw _ (Nat.mod_lt _ (by decide))).1 (hvw _ (Nat.mod_lt _ (by decide))).2 rfl hi2 fun _ => ?_
                          refine PyProof.Rows.add_int ?_
                          refine wpAny_storeName_local rfl kF.ns (fun hN hn hs => ?_) rfl
                          have F' := kF.set hn hs
                          have N' := kN.set hs
                          clear hn hs
                          clear kF kN
                          have kF := F'
                          have kN := N'
                          clear F' N'
                          dsimp only
                          clear hlW hvw vw
                          have hlW := isList_of (News.get kN (List.Mem.tail _ (List.Mem.tail _ (List.Mem.head _))))
                          obtain ⟨vw, hvw⟩ := rows_vv (r := rw) (ob := obw) (g := fun j => (List.range 3).map fun i => ways (P j) (P i)) fun j hj => ⟨(by rcases lt3 hj with rfl | rfl | rfl <;> exact News.get kN (by k_mem)), hroww j hj⟩
                          refine wpAny_execs_cons (wpAny_Assign_Name (wpAny_BinOp ?_))
                          refine Subscript_ (Subscript_ (wpAny_Name (wpAny_loadName_local rfl rfl kF.ns (by with_unfolding_all exact hmW) ?_) (by decide)))
                          refine wpAny_Name (wpAny_loadName_local rfl rfl kF.ns (by with_unfolding_all exact hmJ) ?_) (by decide)
                          refine item_ref3 (r := rw) hlW rfl hi ?_
                          refine wpAny_Name (wpAny_loadName_local rfl rfl kF.ns (by with_unfolding_all exact hmK) ?_) (by decide)
                          refine item_way (hvw _ hi).1 (hvw _ hi).2 rfl hi2 fun _ => ?_
                          refine Subscript_ (Subscript_ (wpAny_Name (wpAny_loadName_local rfl rfl kF.ns (by with_unfolding_all exact hmW) ?_) (by decide)))
                          refine wpAny_BinOp (wpAny_BinOp (wpAny_Name (wpAny_loadName_local rfl rfl kF.ns (by with_unfolding_all exact hmJ) ?_) (by decide)))
                          refine wpAny_Constant_int (PyProof.Rows.add_int (wpAny_Constant_int (mod_int' (by decide) ?_)))
                          refine item_ref3 (r := rw) hlW (fmod3 _) (Nat.mod_lt _ (by decide)) ?_
                          refine wpAny_BinOp (wpAny_BinOp (wpAny_Name (wpAny_loadName_local rfl rfl kF.ns (by with_unfolding_all exact hmK) ?_) (by decide)))
                          refine wpAny_Constant_int (PyProof.Rows.add_int (wpAny_Constant_int (mod_int' (by decide) ?_)))
                          refine item_way (hvw _ (Nat.mod_lt _ (by decide))).1 (hvw _ (Nat.mod_lt _ (by decide))).2 (fmod3 _) (Nat.mod_lt _ (by decide)) fun _ => ?_
                          refine PyProof.Rows.add_int ?_
                          refine wpAny_storeName_local rfl kF.ns (fun hN hn hs => ?_) rfl
                          have F' := kF.set hn hs
                          have N' := kN.set hs
                          clear hn hs
                          clear kF kN
                          have kF := F'
                          have kN := N'
                          clear F' N'
                          dsimp only
                          clear hlW hvw vw
                          have kXh := (in_based B2 kX).keeps kF.keep
                          have kTh := (topRead_based B2 kT).keeps kF.keep
                          have hlA := isList_of (News.get kN (List.Mem.tail _ (List.Mem.tail _ (List.Mem.tail _ (List.Mem.tail _ (List.Mem.tail _ (List.Mem.tail _ (List.Mem.head _))))))))
                          have hlU := isList_of (News.get kN (List.Mem.tail _ (List.Mem.tail _ (List.Mem.tail _ (List.Mem.tail _ (List.Mem.tail _ (List.Mem.tail _ (List.Mem.tail _ (List.Mem.tail _ (List.Mem.tail _ (List.Mem.tail _ (List.Mem.head _))))))))))))
                          obtain ⟨vt, hvt⟩ := tup_vv (r := tb) (ob := otb) (g := gap fun j => (List.range 16).map (cR (P j))) fun j hj => ⟨(by rcases lt3 hj with rfl | rfl | rfl <;> exact News.get kN (by k_mem)), htupb j hj⟩
                          obtain ⟨va, hva⟩ := tup_vv (r := tg) (ob := otg) (g := gap fun j => (List.range 16).map (cL (P j))) fun j hj => ⟨(by rcases lt3 hj with rfl | rfl | rfl <;> exact News.get kN (by k_mem)), htupg j hj⟩
                          have ti := (hvt i hi).2
                          have ta := (hva i2 hi2).2
                          rw [gap_row] at ti ta
                          have j1 : (i + 1) % 3 < 3 := Nat.mod_lt _ (by decide)
                          have k1 : (i2 + 1) % 3 < 3 := Nat.mod_lt _ (by decide)
                          refine wpAny_execs_cons (wpAny_Assign_Name (Call_ (name_g kXh kTh (by k_is) rfl rfl rfl (by decide) (call_g2' kXh (by k_is) rfl ?_))))
                          refine Subscript_ (wpAny_Name (wpAny_loadName_local rfl rfl kF.ns (by with_unfolding_all exact hmU) ?_) (by decide))
                          refine wpAny_Name (wpAny_loadName_local rfl rfl kF.ns (by with_unfolding_all exact hmJ) ?_) (by decide)
                          refine item_ref3 (r := tb) hlU rfl hi ?_
                          refine Subscript_ (wpAny_Name (wpAny_loadName_local rfl rfl kF.ns (by with_unfolding_all exact hmA) ?_) (by decide))
                          refine wpAny_Name (wpAny_loadName_local rfl rfl kF.ns (by with_unfolding_all exact hmK) ?_) (by decide)
                          refine item_ref3 (r := tg) hlA rfl hi2 ?_
                          refine ⟨kXh, ?_⟩
                          refine cov_call kXh kTh kTh.nolimit ((bmod_based B2 kM).keeps kF.keep) (B2.codeAt kF) (B2.tabAt kF) (by decide +kernel) (hvt i hi).1 ti (rowD_len _ _ _) (rowD_bound (cR_bound (pal i hi).len) (cR_bound (pal _ j1).len)) (hva i2 hi2).1 ta (rowD_len _ _ _) (rowD_bound (cL_bound (pal i2 hi2).len) (cL_bound (pal _ k1).len)) ?_
                          intro sC sxy tC more hEX hx' hok' htab' hb' hd' ho'
                          have hG := B2.grow kF hx' hok' htab'
                          have nG := News.rebase (ps' := ps2 ++ more) kN B2 hx'
                          clear kF kN kXh kTh hlA hlU
                          have kF := hG.2
                          have kN := nG
                          have kB2 := hG.1
                          clear hG nG
                          refine wpAny_storeName_local rfl kF.ns (fun hN hn hs => ?_) rfl
                          have F' := kF.set hn hs
                          have N' := kN.set hs
                          clear hn hs
                          clear kF kN
                          have kF := F'
                          have kN := N'
                          clear F' N'
                          dsimp only
                          have kXh := (in_based kB2 kX).keeps kF.keep
                          have kTh := (topRead_based kB2 kT).keeps kF.keep
                          refine wpAny_execs_cons (wpAny_If (isTrue_or (isTrue_not (isTrue_plain (Call_ (name_b kXh kTh (by k_is) rfl (by boot_fast) (by decide) rfl rfl rfl (by decide) (call_b2 rfl ?_)))))))
                          refine wpAny_Name (wpAny_loadName_local rfl rfl kF.ns (by with_unfolding_all rfl) ?_) (by decide)
                          refine name_b kXh kTh (by k_is) rfl (by boot_fast) (by decide) rfl rfl rfl (by decide) ?_
                          refine IsiPair.float_float (wpAny_truthy_bool ?_)
                          simp only [Bool.not_true, Bool.false_eq_true, if_false]
                          refine isTrue_or (wpAny_isTrue_Compare1 ?_)
                          refine wpAny_Name (wpAny_loadName_local rfl rfl kF.ns (by with_unfolding_all rfl) ?_) (by decide)
                          refine wpAny_BinOp (wpAny_BinOp (wpAny_Name (wpAny_loadName_local rfl rfl kF.ns (by with_unfolding_all rfl) ?_) (by decide)))
                          refine wpAny_Name (wpAny_loadName_local rfl rfl kF.ns (by with_unfolding_all rfl) ?_) (by decide)
                          refine sub_int' (wpAny_Constant_int ?_)
                          refine Flt.div_ii_fits rfl (small_v (pal i hi).len (pal _ j1).len (pal i2 hi2).len (pal _ k1).len) (fun e => absurd e (by decide)) fun _ _ => ?_
                          refine AutoFloatOps.ne_0 ?_
                          rw [end_cmp (pal i hi).rg (pal _ j1).rg (pal i2 hi2).rg (pal _ k1).rg (pal i hi).len (pal _ j1).len (pal i2 hi2).len (pal _ k1).len hEX]
                          refine wpAny_truthy_bool ?_
                          simp only [Bool.false_eq_true, if_false]
                          refine isTrue_or_nil ?_
                          simp only [Bool.false_eq_true, if_false]
                          refine wpAny_execs_nil ?_
                          dsimp only
                          refine wpAny_execs_nil ⟨rfl, ⟨_, _, _, kB2, kF, kN, fun y hy => ?_⟩, hb' hb2, hd'.trans hd2, ho'.trans ho2⟩
                          exact (if_neg (contains_ne hy _ (by k_mem))).trans ((if_neg (contains_ne hy _ (by k_mem))).trans ((if_neg (contains_ne hy _ (by k_mem))).trans (hm2 y hy)))
                        case li15 =>
                          intro s3 ⟨⟨g3, ps3, m3, B3, F3, N3, hm3⟩, hb3, hd3, ho3⟩
                          dsimp only
                          exact wpAny_execs_nil ⟨rfl, ⟨g3, ps3, m3, B3, F3, N3, fun y hy => (hm3 y (sub_contains hy)).trans (hm y hy)⟩, hb3, hd3, ho3⟩
                      case l15 =>
                        intro s' hI
                        clear kF kN
                        dsimp only
                        obtain ⟨⟨g, ps, m, B, F, N, hm⟩, hb, hd, ho⟩ := hI
                        refine wpAny_execs_cons (wpAny_Return_some (wpAny_Constant_bool ?_))
                        dsimp only
                        k_unfold
                        dsimp only
                        refine goodWG_reads B F hb (raisesW_false ?_) (.bool true) unshared_nil ?_ ?_
                        · wrow_none_raised
                        · wrow_post
                        · exact ho)
end Mine
end
open PySem PySem.W PyProof.Rows
set_option Elab.async false
set_option maxRecDepth 100000 in
set_option maxHeartbeats 8000000 in
theorem PySem.Challenge.cw_wn0076_01_holds : PySem.Challenge.rw_wn0076_01.Holds := by
  exact Mine.law_holds
