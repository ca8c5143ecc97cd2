import PyProof.Rows.All
import Wide.All
import OpenK.AllK
import Wide.FinOn
import Wide.Txt2
import PyProof.ZipIter
import PyProof.AutoSeq1
import PyProof.Rows.ExtendIn
import PySem.Challenge.RW_pg0287_01
set_option Elab.async false
section
open PySem PySem.W PyProof.Rows
namespace Mine
set_option maxRecDepth 100000
set_option maxHeartbeats 8000000
open_top hd for PySem.Challenge.rw_pg0287_01
end Mine
end

section
open PySem PySem.W PySem.Calls PyProof.Rows PySem.Spec
set_option maxRecDepth 100000
theorem dummyF1 : (PySem.Challenge.rw_pg0287_01 = PySem.Challenge.rw_pg0287_01 ∧ Mine.hd.heap_39 = Mine.hd.heap_39) → True := by
  k_fill
  intro _; trivial
namespace Mine
section
variable {prog : Program} {w : World} {A : Around} {E : Value → Shared → Prop} {s : Shared} {K : Frag} {Q : Value → Shared → Prop}
/-- a def of the text's, called: its body is run over a frame of its own, all that stood stays -/
theorem call_pure {f : Addr} {name qual : Str} {params : Arguments} {body : List Stmt} {scope : Scope} {dV kV doc pm cdv ct oc : Value} {an od : Option Addr} {osl : Array (Option Value)} {args : List Value} {kw : List (Str × Value)} {binds : List (Str × Value)}
    (X : K.In s.heap) (hlim : s.heap.NoLimit) (hroom : A.depth < recursionLimit)
    (ho : K.lookup f = some ⟨oc, od, .func (fnOf name qual params body scope dV kV doc pm an cdv ct), osl⟩) (hcd : codeIn K cdv qual = true)
    (hbind : BindsTo s (fnOf name qual params body scope dV kV doc pm an cdv ct) ⟨args, kw⟩ binds) (hloc : ∀ y ∈ binds, scope.names.lookup y.1 = some .local)
    (hcell : ∀ x ∈ scope.names, x.2 ≠ .cell) (hco : scope.isCoroutine = false) (hgen : scope.isGenerator = false) (hk : scope.kind = .function)
    (h : ∀ h₁, Fr s.heap s.heap.objs.size h₁ (fun y => binds.reverse.lookup y) →
      wpAny (model prog w) (A.deeper (envOf qual scope s.heap.objs.size f cdv)) (execs body (envOf qual scope s.heap.objs.size f cdv))
        (fun fl s' => Q (match fl with | .ret v => v | _ => .none) s') (fun _ _ => False)
        { s with heap := h₁, toks := s.toks + binds.length }) :
    wpAny (model prog w) A (call (.ref f) args kw) Q E s := by
  refine wpAny_call ?_
  refine codeAny_call_def (fd := fnOf name qual params body scope dV kV doc pm an cdv ct) (body := body) (binds := binds) hroom (X _ _ ho) rfl hlim (codeRec_of X hcd) rfl hbind hcell hloc (fun h₁ hns hk₁ => ?_) hco hgen hk
  exact wpAny_mono (h h₁ ⟨hns, hk₁, Nat.le_refl _⟩) (fun fl s' hl => hl) (fun _ _ x => x.elim)
end

/-- all that stood stays -/
abbrev Kp (h h' : Heap) : Prop := ∀ b o, h.get? b = some o → h'.get? b = some o
theorem Kp.trans {a b c : Heap} (x : Kp a b) (y : Kp b c) : Kp a c := fun i o e => y i o (x i o e)
theorem Kp.rfl {a : Heap} : Kp a a := fun _ _ e => e
theorem nolimit_kp {h h' : Heap} (l : h.NoLimit) (k : Kp h h') : h'.NoLimit := l.keeps k

noncomputable abbrev LOOSE : List Str := looseW hd.view_39 [Str.ofString "tspecials", Str.ofString "_name_disallowed_re", Str.ofString "_value_disallowed_re", Str.ofString "_formatparam"]
/-- what every call leans on: the text's own objects, and its two tables of names -/
structure Wd (w : World) (h : Heap) : Prop where
  X : (hd.heap_39 w.params).In h
  T : ∃ mg mb, TopRead hd.view_39 LOOSE mg mb h
theorem Wd.kp {w : World} {h h' : Heap} (W : Wd w h) (k : Kp h h') : Wd w h' := by
  obtain ⟨mg, mb, T⟩ := W.T
  refine ⟨W.X.keeps k, mg, mb, ⟨T.g.at' fun o e => k _ o e, T.b.at' fun o e => k _ o e, T.nolimit.keeps k, T.builtins, T.free⟩⟩
theorem Wd.lim {w : World} {h : Heap} (W : Wd w h) : h.NoLimit := by
  obtain ⟨mg, mb, T⟩ := W.T
  exact T.nolimit
section
variable {w : World} {A : Around} {E : Value → Shared → Prop} {s : Shared} {Q : Value → Shared → Prop} {g : Heap} {L fa : Addr} {cn : Str} {cs : Scope} {cd : Value} {m : Str → Option Value} {x : Str} {v : Value} {pos : Pos}
theorem nmB (F : Fr g L s.heap m) (W : Wd w g) (e : nsIn (hd.heap_39 w.params) mainGlobals x = some none) (hv : bootBuiltins x = some v) (h : Q v s) (hn : x ≠ "__name__" := by decide)
    (hk : cs.kind = .function := by rfl) (hx : (envOf cn cs L fa cd).kindOf x = some .globalImplicit := by rfl) (hd : (x == ("__debug__" : Str)) = false := by decide) :
    wpAny (model PW w) A (eval (.Name x pos) (envOf cn cs L fa cd)) Q E s := by
  obtain ⟨mg, mb, T⟩ := W.T
  exact name_B F W.X T e hv hn h hk hx hd
theorem nmG (F : Fr g L s.heap m) (W : Wd w g) (e : nsIn (hd.heap_39 w.params) mainGlobals x = some (some v)) (h : Q v s)
    (hk : cs.kind = .function := by rfl) (hx : (envOf cn cs L fa cd).kindOf x = some .globalImplicit := by rfl) (hd : (x == ("__debug__" : Str)) = false := by decide) :
    wpAny (model PW w) A (eval (.Name x pos) (envOf cn cs L fa cd)) Q E s := by
  obtain ⟨mg, mb, T⟩ := W.T
  exact name_K F W.X T e h hk hx hd
end
section
variable {prog : Program} {w : World} {A : Around} {E : Value → Shared → Prop} {s : Shared} {Q : Value → Shared → Prop}
open PySem.Flt in
theorem max3 {a b c : UInt64} {t u x : Tok} (hh : A.handled = none)
    (h : ∀ h' tk v, Kp s.heap h' → Q (.float (if (Float64.cmp (if Float64.cmp a b == some .lt then b else a) c == some .lt) = true then c else (if Float64.cmp a b == some .lt then b else a)) v) { s with heap := h', toks := tk }) :
    wpAny (model prog w) A (call (.builtin "max") [.float a t, .float b u, .float c x]) Q E s := by
  have hT : (s.heap.push { cls := .type "tuple", data := .seq #[.float a t, .float b u, .float c x] }).IsTuple s.heap.objs.size #[.float a t, .float b u, .float c x] := ⟨_, Heap.get?_push_size _ rfl, rfl, 0, rfl⟩
  refine call_max_three (wpAny_pyIter_tuple hT ?_)
  have hsz : (s.heap.push { cls := .type "tuple", data := .seq #[.float a t, .float b u, .float c x] }).objs.size = s.heap.objs.size + 1 := Heap.size_push ..
  refine ⟨_, [_, s.heap.objs.size], [_], _, _, _, _, rfl, Walks.tuple (A := A.in1) hh _ s.heap.objs.size (by rw [hsz]; exact Nat.ne_of_lt (Nat.lt_succ_self _)) #[.float a t, .float b u, .float c x],
    ⟨⟨_, Heap.get?_push_size _ rfl, rfl, rfl⟩, hT.push _⟩, fun d hd => ?_, by simp, cmpOf_gt #[.float a t, .float b u, .float c x] (by simp [NumV.float]), fun v h' tk hP hk => ?_⟩
  · show d < ((s.heap.push _).push _).objs.size
    rw [Heap.size_push, hsz]
    rcases List.mem_cons.mp hd with rfl | hd
    · rw [hsz]; exact Nat.lt_succ_self _
    · rcases List.mem_cons.mp hd with rfl | hd
      · exact Nat.lt_succ_of_lt (Nat.lt_succ_self _)
      · cases hd
  · have hold : Kp s.heap h' := fun d o e => by
      refine hk d o (fun hm => ?_) (Heap.get?_push_of_some _ (Heap.get?_push_of_some _ e))
      rcases List.mem_cons.mp hm with e1 | hm
      · have := Heap.lt_size e; rw [e1, hsz] at this; exact Nat.lt_irrefl _ (Nat.lt_of_succ_lt this)
      · cases hm
    have key := fun z => h h' tk z hold
    cases c1 : (Float64.cmp a b == some .lt)
    · cases c2 : (Float64.cmp a c == some .lt) <;> simp [argBest, ltV, c1, c2] at hP <;> subst hP <;> simpa [c1, c2] using key _
    · cases c2 : (Float64.cmp b c == some .lt) <;> simp [argBest, ltV, c1, c2] at hP <;> subst hP <;> simpa [c1, c2] using key _
open PySem.Flt in
theorem min3 {a b c : UInt64} {t u x : Tok} (hh : A.handled = none)
    (h : ∀ h' tk v, Kp s.heap h' → Q (.float (if (Float64.cmp c (if Float64.cmp b a == some .lt then b else a) == some .lt) = true then c else (if Float64.cmp b a == some .lt then b else a)) v) { s with heap := h', toks := tk }) :
    wpAny (model prog w) A (call (.builtin "min") [.float a t, .float b u, .float c x]) Q E s := by
  have hT : (s.heap.push { cls := .type "tuple", data := .seq #[.float a t, .float b u, .float c x] }).IsTuple s.heap.objs.size #[.float a t, .float b u, .float c x] := ⟨_, Heap.get?_push_size _ rfl, rfl, 0, rfl⟩
  refine call_min_three (wpAny_pyIter_tuple hT ?_)
  have hsz : (s.heap.push { cls := .type "tuple", data := .seq #[.float a t, .float b u, .float c x] }).objs.size = s.heap.objs.size + 1 := Heap.size_push ..
  refine ⟨_, [_, s.heap.objs.size], [_], _, _, _, _, rfl, Walks.tuple (A := A.in1) hh _ s.heap.objs.size (by rw [hsz]; exact Nat.ne_of_lt (Nat.lt_succ_self _)) #[.float a t, .float b u, .float c x],
    ⟨⟨_, Heap.get?_push_size _ rfl, rfl, rfl⟩, hT.push _⟩, fun d hd => ?_, by simp, cmpOf_lt #[.float a t, .float b u, .float c x] (by simp [NumV.float]), fun v h' tk hP hk => ?_⟩
  · show d < ((s.heap.push _).push _).objs.size
    rw [Heap.size_push, hsz]
    rcases List.mem_cons.mp hd with rfl | hd
    · rw [hsz]; exact Nat.lt_succ_self _
    · rcases List.mem_cons.mp hd with rfl | hd
      · exact Nat.lt_succ_of_lt (Nat.lt_succ_self _)
      · cases hd
  · have hold : Kp s.heap h' := fun d o e => by
      refine hk d o (fun hm => ?_) (Heap.get?_push_of_some _ (Heap.get?_push_of_some _ e))
      rcases List.mem_cons.mp hm with e1 | hm
      · have := Heap.lt_size e; rw [e1, hsz] at this; exact Nat.lt_irrefl _ (Nat.lt_of_succ_lt this)
      · cases hm
    have key := fun z => h h' tk z hold
    cases c1 : (Float64.cmp b a == some .lt)
    · cases c2 : (Float64.cmp c a == some .lt) <;> simp [argBest, ltV, c1, c2] at hP <;> subst hP <;> simpa [c1, c2] using key _
    · cases c2 : (Float64.cmp c b == some .lt) <;> simp [argBest, ltV, c1, c2] at hP <;> subst hP <;> simpa [c1, c2] using key _
end
def f6 : UInt64 := 4618441417868443648
def f1 : UInt64 := 4607182418800017408
def f2 : UInt64 := 4611686018427387904
def f4 : UInt64 := 4616189618054758400
def fh : UInt64 := 4602678819172646912

def mx (a b c : UInt64) : UInt64 := if (Float64.cmp (if Float64.cmp a b == some .lt then b else a) c == some .lt) = true then c else (if Float64.cmp a b == some .lt then b else a)
def mn (a b c : UInt64) : UInt64 := if (Float64.cmp c (if Float64.cmp b a == some .lt then b else a) == some .lt) = true then c else (if Float64.cmp b a == some .lt then b else a)
section
variable {prog : Program} {w : World} {A : Around} {E : Value → Shared → Prop} {s : Shared} {Q : Value → Shared → Prop}
theorem max3e {a b c M : UInt64} {t u x : Tok} (hh : A.handled = none) (hm : mx a b c = M) (h : ∀ h' tk v, Kp s.heap h' → Q (.float M v) { s with heap := h', toks := tk }) :
    wpAny (model prog w) A (call (.builtin "max") [.float a t, .float b u, .float c x]) Q E s := by
  subst hm
  exact max3 hh h
theorem min3e {a b c M : UInt64} {t u x : Tok} (hh : A.handled = none) (hm : mn a b c = M) (h : ∀ h' tk v, Kp s.heap h' → Q (.float M v) { s with heap := h', toks := tk }) :
    wpAny (model prog w) A (call (.builtin "min") [.float a t, .float b u, .float c x]) Q E s := by
  subst hm
  exact min3 hh h
theorem ite_negB {b : Bool} {a c : Prop} (hb : b = false) (h : c) : if b = true then a else c := by subst hb; exact h
theorem ite_posB {b : Bool} {a c : Prop} (hb : b = true) (h : a) : if b = true then a else c := by subst hb; exact h
theorem ite_both {b : Bool} {a c : Prop} (h : b = true → a) (h' : b = false → c) : if b = true then a else c := by
  cases b with
  | true => exact h rfl
  | false => exact h' rfl
theorem nof {b : Bool} {P : Prop} (h : b = false) (q : b = true) : P := absurd (h.symm.trans q) Bool.false_ne_true
theorem execs_join {M : Model} {env : Env} {st : Stmt} {rest : List Stmt} {Q : Flow → Shared → Prop} (P : Shared → Prop)
    (h : wpAny M A (exec st env) (fun f s' => f = .next ∧ P s') E s) (k : ∀ s', P s' → wpAny M A (execs rest env) Q E s') : wpAny M A (execs (st :: rest) env) Q E s :=
  wpAny_execs_cons (wpAny_mono h (fun f s' hp => by obtain ⟨rfl, hp⟩ := hp; exact k s' hp) fun _ _ e => e)
/-- one float stored under x, all else as it was -/
def Got (g : Heap) (L : Addr) (m : Str → Option Value) (x : Str) (s₀ s : Shared) : Prop :=
  ∃ h tk v t, s = { s₀ with heap := h, toks := tk } ∧ Fr g L h (fun y => if y = x then some (.float v t) else m y)
theorem Got.intro {g : Heap} {L : Addr} {m : Str → Option Value} {x : Str} {h : Heap} {tk : Nat} {v : UInt64} {t : Tok} (F : Fr g L h (fun y => if y = x then some (.float v t) else m y)) : Got g L m x s { s with heap := h, toks := tk } := ⟨h, tk, v, t, rfl, F⟩
end
theorem join_float {M : Model} {A : Around} {E : Value → Shared → Prop} {s s₀ : Shared} {env : Env} {st : Stmt} {rest : List Stmt} {Q : Flow → Shared → Prop} {g : Heap} {L : Addr} {h₀ : Heap} {m : Str → Option Value} (_F : Fr g L h₀ m) (x : Str)
    (h : wpAny M A (exec st env) (fun f s' => f = .next ∧ Got g L m x s₀ s') E s)
    (k : ∀ h tk v t, Fr g L h (fun y => if y = x then some (.float v t) else m y) → wpAny M A (execs rest env) Q E { s₀ with heap := h, toks := tk }) : wpAny M A (execs (st :: rest) env) Q E s :=
  execs_join (Got g L m x s₀) h fun s' hs => by
    obtain ⟨h', tk, v, t, rfl, F'⟩ := hs
    exact k h' tk v t F'
def hsvSel (k : Int) (V p q t : UInt64) : Option (UInt64 × UInt64 × UInt64) :=
  if k = 0 then some (V, t, p) else if k = 1 then some (q, V, p) else if k = 2 then some (p, V, t)
  else if k = 3 then some (p, q, V) else if k = 4 then some (t, p, V) else if k = 5 then some (V, p, q) else none
theorem hsvSel_inv {k : Int} {V p q t x y z : UInt64} (h : hsvSel k V p q t = some (x, y, z)) : (k = 0 ∧ V = x ∧ t = y ∧ p = z) ∨ (k = 1 ∧ q = x ∧ V = y ∧ p = z) ∨ (k = 2 ∧ p = x ∧ V = y ∧ t = z) ∨
    (k = 3 ∧ p = x ∧ q = y ∧ V = z) ∨ (k = 4 ∧ t = x ∧ p = y ∧ V = z) ∨ (k = 5 ∧ V = x ∧ p = y ∧ q = z) := by
  unfold hsvSel at h
  repeat' split at h
  all_goals first | cases h; done | skip
  all_goals simp_all
theorem tneg {k n i : Int} (h : k = n) (hn : (n == i) = false) : ¬ ((k == i) = true) := by
  subst h; rw [hn]; exact Bool.false_ne_true
theorem tpos {k n : Int} (h : k = n) : (k == n) = true := by
  subst h; exact beq_self_eq_true _
def hsvF (H S V : UInt64) : Option (UInt64 × UInt64 × UInt64) :=
  if (Float64.cmp S 0 == some .eq) = false ∧ Float64.isNaN (Float64.mul H 4618441417868443648) = false ∧ Float64.isInf (Float64.mul H 4618441417868443648) = false ∧ (PySem.Flt.toInt Float64.truncOf (Float64.mul H 4618441417868443648)).natAbs < 1000 then
    hsvSel ((PySem.Flt.toInt Float64.truncOf (Float64.mul H 4618441417868443648)).fmod 6) V (Float64.mul V (Float64.sub 4607182418800017408 S))
      (Float64.mul V (Float64.sub 4607182418800017408 (Float64.mul S (Float64.sub (Float64.mul H 4618441417868443648) (Float64.ofInt (PySem.Flt.toInt Float64.truncOf (Float64.mul H 4618441417868443648)))))))
      (Float64.mul V (Float64.sub 4607182418800017408 (Float64.mul S (Float64.sub 4607182418800017408 (Float64.sub (Float64.mul H 4618441417868443648) (Float64.ofInt (PySem.Flt.toInt Float64.truncOf (Float64.mul H 4618441417868443648))))))))
  else none
theorem hsvF_inv {H S V x y z : UInt64} (h : hsvF H S V = some (x, y, z)) : (Float64.cmp S 0 == some .eq) = false ∧ Float64.isNaN (Float64.mul H 4618441417868443648) = false ∧ Float64.isInf (Float64.mul H 4618441417868443648) = false ∧ (PySem.Flt.toInt Float64.truncOf (Float64.mul H 4618441417868443648)).natAbs < 1000 ∧
    hsvSel ((PySem.Flt.toInt Float64.truncOf (Float64.mul H 4618441417868443648)).fmod 6) V (Float64.mul V (Float64.sub 4607182418800017408 S))
      (Float64.mul V (Float64.sub 4607182418800017408 (Float64.mul S (Float64.sub (Float64.mul H 4618441417868443648) (Float64.ofInt (PySem.Flt.toInt Float64.truncOf (Float64.mul H 4618441417868443648)))))))
      (Float64.mul V (Float64.sub 4607182418800017408 (Float64.mul S (Float64.sub 4607182418800017408 (Float64.sub (Float64.mul H 4618441417868443648) (Float64.ofInt (PySem.Flt.toInt Float64.truncOf (Float64.mul H 4618441417868443648)))))))) = some (x, y, z) := by
  unfold hsvF at h
  split at h
  case isFalse => cases h
  case isTrue hc => exact ⟨hc.1, hc.2.1, hc.2.2.1, hc.2.2.2, h⟩

section
variable {w : World} {A : Around} {E : Value → Shared → Prop} {s : Shared} {Q : Value → Shared → Prop}
abbrev PW : Program := PySem.Challenge.pw_pg0287_01
theorem ret3 {g : Heap} {L fa : Addr} {cn : Str} {cs : Scope} {cd : Value} {m : Str → Option Value} {E : Value → Shared → Prop} {Q : Flow → Shared → Prop} {p : Pos} {k : Nat} {x y z : Str} {p1 p2 p3 pt : Pos} {vx vy vz : Value}
    (F : Fr g L s.heap m) (hx : m x = some vx) (hy : m y = some vy) (hz : m z = some vz)
    (h : ∀ r h' , Kp s.heap h' → Fr g L h' m → IsTup h' r #[vx, vy, vz] → Q (.ret (.ref r)) { s with heap := h' })
    (hk : cs.kind = .function := by rfl) (hlx : (envOf cn cs L fa cd).kindOf x = some .local := by rfl) (hly : (envOf cn cs L fa cd).kindOf y = some .local := by rfl) (hlz : (envOf cn cs L fa cd).kindOf z = some .local := by rfl)
    (hdx : (x == ("__debug__" : Str)) = false := by decide) (hdy : (y == ("__debug__" : Str)) = false := by decide) (hdz : (z == ("__debug__" : Str)) = false := by decide) :
    wpAny (model PW w) A (exec (.Return (some (.Tuple [.Name x p1, .Name y p2, .Name z p3] k pt)) p) (envOf cn cs L fa cd)) Q E s := by
  refine wpAny_Return_some (Tuple_ (args_cons (ld F hx (args_cons (ld F hy (args_cons (ld F hz (args_nil ?_) hk hlz hdz)) hk hly hdy)) hk hlx hdx)))
  refine wpAny_newObj_type ?_ (by show ([vx, vy, vz] : List Value).toArray.size ≤ sizeLine; rw [List.size_toArray, sizeLine_eq]; exact Nat.le_of_ble_eq_true rfl)
  refine h _ _ (fun b o e => Heap.get?_push_of_some _ e) (F.push _) ⟨_, Heap.get?_push_size _ rfl, rfl, 0, rfl⟩
end
end Mine
end

section
open PySem PySem.W PySem.Calls PyProof.Rows PySem.Spec
set_option maxRecDepth 100000
namespace Mine
section
variable {w : World} {A : Around} {E : Value → Shared → Prop} {s : Shared} {Q : Value → Shared → Prop}
set_option maxHeartbeats 4000000 in
theorem hsv_call {H S V x y z : UInt64} {t1 t2 t3 : Tok} (W : Wd w s.heap) (hh : A.handled = none) (hroom : A.depth < recursionLimit)
    (hv : hsvF H S V = some (x, y, z))
    (h : ∀ r h' tk' tx ty tz, Kp s.heap h' → IsTup h' r #[.float x tx, .float y ty, .float z tz] → Q (.ref r) { s with heap := h', toks := tk' }) :
    wpAny (model PW w) A (call (.ref 200) [.float H t1, .float S t2, .float V t3]) Q E s := by
  refine' call_pure W.X W.lim hroom ?ho ?hcd ?hb ?hl ?c1 ?c2 ?c3 ?c4 ?_
  case ho => k_dflt k_is
  case hcd => k_dflt k_is
  case hb => exact BindsTo.of_eq rfl
  case hl => exact locs rfl
  case c2 => exact rfl
  case c3 => exact rfl
  case c4 => exact rfl
  case c1 => decide
  intro h₁ F
  obtain ⟨c1, c2, c3, c4, hv⟩ := hsvF_inv hv
  refine wpAny_execs_cons (wpAny_If (wpAny_isTrue_Compare1 (ld F rfl (wpAny_Constant_float (AutoFloatOps.eq_0 (wpAny_truthy_bool ?_))))))
  refine ite_neg (by rw [c1]; exact Bool.false_ne_true) (wpAny_execs_nil ?_)
  refine wpAny_execs_cons (wpAny_Assign_Name (Call_ (nmB F W (by k_dflt k_is) Pv.boot_int (Pv.callWith_type1 (args_cons (wpAny_BinOp (ld F rfl (wpAny_Constant_float (mul_float (args_nil ?_))))))))))
  refine PySem.Flt.call_int_float3 hh (fun e => absurd (c2.symm.trans e) Bool.false_ne_true) (fun e => absurd (c3.symm.trans e) Bool.false_ne_true) (fun _ => st F fun h₂ F₂ => ?_)
  refine wpAny_execs_cons (wpAny_Assign_Name (wpAny_BinOp (wpAny_BinOp (ld F₂ rfl (wpAny_Constant_float (mul_float (ld F₂ rfl (sub_fi_fits (Nat.lt_of_lt_of_le c4 (by decide +kernel)) (st F₂ fun h₃ F₃ => ?_)))))))))
  refine wpAny_execs_cons (wpAny_Assign_Name (wpAny_BinOp (ld F₃ rfl (wpAny_BinOp (wpAny_Constant_float (ld F₃ rfl (sub_float (mul_float (st F₃ fun h₄ F₄ => ?_)))))))))
  refine wpAny_execs_cons (wpAny_Assign_Name (wpAny_BinOp (ld F₄ rfl (wpAny_BinOp (wpAny_Constant_float (wpAny_BinOp (ld F₄ rfl (ld F₄ rfl (mul_float (sub_float (mul_float (st F₄ fun h₅ F₅ => ?_)))))))))))) 
  refine wpAny_execs_cons (wpAny_Assign_Name (wpAny_BinOp (ld F₅ rfl (wpAny_BinOp (wpAny_Constant_float (wpAny_BinOp (ld F₅ rfl (wpAny_BinOp (wpAny_Constant_float (ld F₅ rfl (sub_float (mul_float (sub_float (mul_float (st F₅ fun h₆ F₆ => ?_))))))))))))))) 
  refine wpAny_execs_cons (wpAny_Assign_Name (wpAny_BinOp (ld F₆ rfl (wpAny_Constant_int (mod_int (by decide) (st F₆ fun h₇ F₇ => ?_))))))
  have K7 : Kp s.heap h₇ := F₇.keep
  have q := hsvSel_inv hv
  clear hv
  rcases q with ⟨hk, a1, a2, a3⟩ | ⟨hk, a1, a2, a3⟩ | ⟨hk, a1, a2, a3⟩ | ⟨hk, a1, a2, a3⟩ | ⟨hk, a1, a2, a3⟩ | ⟨hk, a1, a2, a3⟩
  · rw [← a1, ← a2, ← a3] at h
    clear a1 a2 a3
    refine wpAny_execs_cons (wpAny_If (wpAny_isTrue_Compare1 (ld F₇ rfl (wpAny_Constant_int (eq_int (wpAny_truthy_bool (ite_pos (tpos hk) (wpAny_execs_cons (ret3 F₇ rfl rfl rfl fun r h' kp _ tup => ?_)))))))))
    refine h r h' _ ?_ ?_ ?_ (K7.trans kp) ?_
    rotate_right
    exact tup
  · rw [← a1, ← a2, ← a3] at h
    clear a1 a2 a3
    refine wpAny_execs_cons (wpAny_If (wpAny_isTrue_Compare1 (ld F₇ rfl (wpAny_Constant_int (eq_int (wpAny_truthy_bool (ite_neg (tneg hk (by decide)) (wpAny_execs_nil ?_))))))))
    refine wpAny_execs_cons (wpAny_If (wpAny_isTrue_Compare1 (ld F₇ rfl (wpAny_Constant_int (eq_int (wpAny_truthy_bool (ite_pos (tpos hk) (wpAny_execs_cons (ret3 F₇ rfl rfl rfl fun r h' kp _ tup => ?_)))))))))
    refine h r h' _ ?_ ?_ ?_ (K7.trans kp) ?_
    rotate_right
    exact tup
  · rw [← a1, ← a2, ← a3] at h
    clear a1 a2 a3
    refine wpAny_execs_cons (wpAny_If (wpAny_isTrue_Compare1 (ld F₇ rfl (wpAny_Constant_int (eq_int (wpAny_truthy_bool (ite_neg (tneg hk (by decide)) (wpAny_execs_nil ?_))))))))
    refine wpAny_execs_cons (wpAny_If (wpAny_isTrue_Compare1 (ld F₇ rfl (wpAny_Constant_int (eq_int (wpAny_truthy_bool (ite_neg (tneg hk (by decide)) (wpAny_execs_nil ?_))))))))
    refine wpAny_execs_cons (wpAny_If (wpAny_isTrue_Compare1 (ld F₇ rfl (wpAny_Constant_int (eq_int (wpAny_truthy_bool (ite_pos (tpos hk) (wpAny_execs_cons (ret3 F₇ rfl rfl rfl fun r h' kp _ tup => ?_)))))))))
    refine h r h' _ ?_ ?_ ?_ (K7.trans kp) ?_
    rotate_right
    exact tup
  · rw [← a1, ← a2, ← a3] at h
    clear a1 a2 a3
    refine wpAny_execs_cons (wpAny_If (wpAny_isTrue_Compare1 (ld F₇ rfl (wpAny_Constant_int (eq_int (wpAny_truthy_bool (ite_neg (tneg hk (by decide)) (wpAny_execs_nil ?_))))))))
    refine wpAny_execs_cons (wpAny_If (wpAny_isTrue_Compare1 (ld F₇ rfl (wpAny_Constant_int (eq_int (wpAny_truthy_bool (ite_neg (tneg hk (by decide)) (wpAny_execs_nil ?_))))))))
    refine wpAny_execs_cons (wpAny_If (wpAny_isTrue_Compare1 (ld F₇ rfl (wpAny_Constant_int (eq_int (wpAny_truthy_bool (ite_neg (tneg hk (by decide)) (wpAny_execs_nil ?_))))))))
    refine wpAny_execs_cons (wpAny_If (wpAny_isTrue_Compare1 (ld F₇ rfl (wpAny_Constant_int (eq_int (wpAny_truthy_bool (ite_pos (tpos hk) (wpAny_execs_cons (ret3 F₇ rfl rfl rfl fun r h' kp _ tup => ?_)))))))))
    refine h r h' _ ?_ ?_ ?_ (K7.trans kp) ?_
    rotate_right
    exact tup
  · rw [← a1, ← a2, ← a3] at h
    clear a1 a2 a3
    refine wpAny_execs_cons (wpAny_If (wpAny_isTrue_Compare1 (ld F₇ rfl (wpAny_Constant_int (eq_int (wpAny_truthy_bool (ite_neg (tneg hk (by decide)) (wpAny_execs_nil ?_))))))))
    refine wpAny_execs_cons (wpAny_If (wpAny_isTrue_Compare1 (ld F₇ rfl (wpAny_Constant_int (eq_int (wpAny_truthy_bool (ite_neg (tneg hk (by decide)) (wpAny_execs_nil ?_))))))))
    refine wpAny_execs_cons (wpAny_If (wpAny_isTrue_Compare1 (ld F₇ rfl (wpAny_Constant_int (eq_int (wpAny_truthy_bool (ite_neg (tneg hk (by decide)) (wpAny_execs_nil ?_))))))))
    refine wpAny_execs_cons (wpAny_If (wpAny_isTrue_Compare1 (ld F₇ rfl (wpAny_Constant_int (eq_int (wpAny_truthy_bool (ite_neg (tneg hk (by decide)) (wpAny_execs_nil ?_))))))))
    refine wpAny_execs_cons (wpAny_If (wpAny_isTrue_Compare1 (ld F₇ rfl (wpAny_Constant_int (eq_int (wpAny_truthy_bool (ite_pos (tpos hk) (wpAny_execs_cons (ret3 F₇ rfl rfl rfl fun r h' kp _ tup => ?_)))))))))
    refine h r h' _ ?_ ?_ ?_ (K7.trans kp) ?_
    rotate_right
    exact tup
  · rw [← a1, ← a2, ← a3] at h
    clear a1 a2 a3
    refine wpAny_execs_cons (wpAny_If (wpAny_isTrue_Compare1 (ld F₇ rfl (wpAny_Constant_int (eq_int (wpAny_truthy_bool (ite_neg (tneg hk (by decide)) (wpAny_execs_nil ?_))))))))
    refine wpAny_execs_cons (wpAny_If (wpAny_isTrue_Compare1 (ld F₇ rfl (wpAny_Constant_int (eq_int (wpAny_truthy_bool (ite_neg (tneg hk (by decide)) (wpAny_execs_nil ?_))))))))
    refine wpAny_execs_cons (wpAny_If (wpAny_isTrue_Compare1 (ld F₇ rfl (wpAny_Constant_int (eq_int (wpAny_truthy_bool (ite_neg (tneg hk (by decide)) (wpAny_execs_nil ?_))))))))
    refine wpAny_execs_cons (wpAny_If (wpAny_isTrue_Compare1 (ld F₇ rfl (wpAny_Constant_int (eq_int (wpAny_truthy_bool (ite_neg (tneg hk (by decide)) (wpAny_execs_nil ?_))))))))
    refine wpAny_execs_cons (wpAny_If (wpAny_isTrue_Compare1 (ld F₇ rfl (wpAny_Constant_int (eq_int (wpAny_truthy_bool (ite_neg (tneg hk (by decide)) (wpAny_execs_nil ?_))))))))
    refine wpAny_execs_cons (wpAny_If (wpAny_isTrue_Compare1 (ld F₇ rfl (wpAny_Constant_int (eq_int (wpAny_truthy_bool (ite_pos (tpos hk) (wpAny_execs_cons (ret3 F₇ rfl rfl rfl fun r h' kp _ tup => ?_)))))))))
    refine h r h' _ ?_ ?_ ?_ (K7.trans kp) ?_
    rotate_right
    exact tup
end
end Mine
end

section
open PySem PySem.W PySem.Calls PyProof.Rows PySem.Spec
set_option maxRecDepth 100000
namespace Mine
def hlsOk (maxc minc : UInt64) : Bool :=
  !(Float64.cmp minc maxc == some .eq) && !Float64.isZero (Float64.sub maxc minc) && !Float64.isZero (Float64.add maxc minc) && !Float64.isZero (Float64.sub (Float64.sub 4611686018427387904 maxc) minc)
theorem nz2 : ¬ Float64.isZero 4611686018427387904 = true := by decide +kernel
theorem nz6 : ¬ Float64.isZero 4618441417868443648 = true := by decide +kernel
theorem nz1 : ¬ Float64.isZero 4607182418800017408 = true := by decide +kernel
section
variable {w : World} {A : Around} {E : Value → Shared → Prop} {s : Shared} {Q : Value → Shared → Prop}
set_option maxHeartbeats 4000000 in
theorem hls_call {r g b maxc minc : UInt64} {t1 t2 t3 : Tok} (W : Wd w s.heap) (hh : A.handled = none) (hroom : A.depth < recursionLimit)
    (hx : mx r g b = maxc) (hn : mn r g b = minc) (hv : hlsOk maxc minc = true)
    (h : ∀ r h' tk' x z tx ty tz, Kp s.heap h' → IsTup h' r #[.float x tx, .float (Float64.div (Float64.add maxc minc) 4611686018427387904) ty, .float z tz] → Q (.ref r) { s with heap := h', toks := tk' }) :
    wpAny (model PW w) A (call (.ref 193) [.float r t1, .float g t2, .float b t3]) Q E s := by
  simp only [hlsOk, Bool.and_eq_true, Bool.not_eq_true'] at hv
  obtain ⟨⟨⟨c1, c2⟩, c3⟩, c4⟩ := hv
  have d2 := fun q => Bool.false_ne_true (c2.symm.trans q)
  have d3 := fun q => Bool.false_ne_true (c3.symm.trans q)
  have d4 := fun q => Bool.false_ne_true (c4.symm.trans q)
  refine' call_pure W.X W.lim hroom ?ho ?hcd ?hb ?hl ?c1 ?c2 ?c3 ?c4 ?_
  case ho => k_dflt k_is
  case hcd => k_dflt k_is
  case hb => exact BindsTo.of_eq rfl
  case hl => exact locs rfl
  case c2 => exact rfl
  case c3 => exact rfl
  case c4 => exact rfl
  case c1 => decide
  intro h₁ F
  refine wpAny_execs_cons (wpAny_Assign_Name (Call_ (nmB F W (by k_dflt k_is) PyProof.Rows.boot_max (PyProof.Rows.callWith_builtin1 (args_cons (ld F rfl (args_cons (ld F rfl (args_cons (ld F rfl (args_nil ?_)))))))))))
  refine max3e hh hx fun h₂ tk₂ v₂ k₂ => st (F.grownK k₂) fun h₃ F₃ => ?_
  clear F k₂
  refine wpAny_execs_cons (wpAny_Assign_Name (Call_ (nmB F₃ W (by k_dflt k_is) PyProof.Rows.boot_min (PyProof.Rows.callWith_builtin1 (args_cons (ld F₃ rfl (args_cons (ld F₃ rfl (args_cons (ld F₃ rfl (args_nil ?_)))))))))))
  refine min3e hh hn fun h₄ tk₄ v₄ k₄ => st (F₃.grownK k₄) fun h₅ F₅ => ?_
  clear F₃ k₄
  refine wpAny_execs_cons (wpAny_Assign_Name (wpAny_BinOp (ld F₅ rfl (ld F₅ rfl (add_float (st F₅ fun h₆ F₆ => ?_))))))
  refine wpAny_execs_cons (wpAny_Assign_Name (wpAny_BinOp (ld F₆ rfl (ld F₆ rfl (sub_float (st F₆ fun h₇ F₇ => ?_))))))
  refine wpAny_execs_cons (wpAny_Assign_Name (wpAny_BinOp (ld F₇ rfl (wpAny_Constant_float (truediv_float_or hh (fun q => absurd q nz2) fun _ => st F₇ fun h₈ F₈ => ?_)))))
  clear F₅ F₆ F₇
  refine wpAny_execs_cons (wpAny_If (wpAny_isTrue_Compare1 (ld F₈ rfl (ld F₈ rfl (AutoFloatOps.eq_0 (wpAny_truthy_bool (ite_negB c1 (wpAny_execs_nil ?_))))))))
  refine join_float F₈ (Str.ofString "s") (s₀ := s) (wpAny_If (wpAny_isTrue_Compare1 (ld F₈ rfl (wpAny_Constant_float (AutoFloatOps.le_0 (wpAny_truthy_bool (ite_both (fun _ => ?_) (fun _ => ?_)))))))) (fun h₉ tk₉ sv ts F₉ => ?_)
  · refine wpAny_execs_cons (wpAny_Assign_Name (wpAny_BinOp (ld F₈ rfl (ld F₈ rfl (truediv_float_or hh (fun q => nof c3 q) fun _ => st F₈ fun h₉ F₉ => ?_)))))
    exact wpAny_execs_nil (And.intro rfl (Got.intro F₉))
  · refine wpAny_execs_cons (wpAny_Assign_Name (wpAny_BinOp (ld F₈ rfl (wpAny_BinOp (wpAny_BinOp (wpAny_Constant_float (ld F₈ rfl (sub_float (ld F₈ rfl (sub_float (truediv_float_or hh (fun q => nof c4 q) fun _ => st F₈ fun h₉ F₉ => ?_)))))))))))
    exact wpAny_execs_nil (And.intro rfl (Got.intro F₉))
  clear F₈
  refine wpAny_execs_cons (wpAny_Assign_Name (wpAny_BinOp (wpAny_BinOp (ld F₉ rfl (ld F₉ rfl (sub_float (ld F₉ rfl (truediv_float_or hh (fun q => nof c2 q) fun _ => st F₉ fun h₁₀ F₁₀ => ?_))))))))
  clear F₉
  refine wpAny_execs_cons (wpAny_Assign_Name (wpAny_BinOp (wpAny_BinOp (ld F₁₀ rfl (ld F₁₀ rfl (sub_float (ld F₁₀ rfl (truediv_float_or hh (fun q => nof c2 q) fun _ => st F₁₀ fun h₁₁ F₁₁ => ?_))))))))
  clear F₁₀
  refine wpAny_execs_cons (wpAny_Assign_Name (wpAny_BinOp (wpAny_BinOp (ld F₁₁ rfl (ld F₁₁ rfl (sub_float (ld F₁₁ rfl (truediv_float_or hh (fun q => nof c2 q) fun _ => st F₁₁ fun h₁₂ F₁₂ => ?_))))))))
  clear F₁₁
  refine join_float F₁₂ (Str.ofString "h") (s₀ := s) (wpAny_If (wpAny_isTrue_Compare1 (ld F₁₂ rfl (ld F₁₂ rfl (AutoFloatOps.eq_0 (wpAny_truthy_bool (ite_both (fun _ => ?_) (fun _ => ?_)))))))) (fun h₁₃ tk₁₃ hv th F₁₃ => ?_)
  · refine wpAny_execs_cons (wpAny_Assign_Name (wpAny_BinOp (ld F₁₂ rfl (ld F₁₂ rfl (sub_float (st F₁₂ fun h₁₃ F₁₃ => ?_))))))
    exact wpAny_execs_nil (And.intro rfl (Got.intro F₁₃))
  · refine wpAny_execs_cons (wpAny_If (wpAny_isTrue_Compare1 (ld F₁₂ rfl (ld F₁₂ rfl (AutoFloatOps.eq_0 (wpAny_truthy_bool (ite_both (fun _ => ?_) (fun _ => ?_))))))))
    · refine wpAny_execs_cons (wpAny_Assign_Name (wpAny_BinOp (wpAny_BinOp (wpAny_Constant_float (ld F₁₂ rfl (add_float (ld F₁₂ rfl (sub_float (st F₁₂ fun h₁₃ F₁₃ => ?_)))))))))
      exact wpAny_execs_nil (wpAny_execs_nil (And.intro rfl (Got.intro F₁₃)))
    · refine wpAny_execs_cons (wpAny_Assign_Name (wpAny_BinOp (wpAny_BinOp (wpAny_Constant_float (ld F₁₂ rfl (add_float (ld F₁₂ rfl (sub_float (st F₁₂ fun h₁₃ F₁₃ => ?_)))))))))
      exact wpAny_execs_nil (wpAny_execs_nil (And.intro rfl (Got.intro F₁₃)))
  clear F₁₂
  refine wpAny_execs_cons (wpAny_Assign_Name (wpAny_BinOp (wpAny_BinOp (ld F₁₃ rfl (wpAny_Constant_float (truediv_float_or hh (fun q => absurd q nz6) fun _ => wpAny_Constant_float (PySem.Flt.mod_ff hh (fun q => absurd q nz1) fun _ => st F₁₃ fun h₁₄ F₁₄ => ?_)))))))
  clear F₁₃
  refine wpAny_execs_cons (ret3 F₁₄ rfl rfl rfl fun r h' kp _ tup => ?_)
  refine h r h' _ ?_ ?_ ?_ ?_ ?_ (Kp.trans F₁₄.keep kp) ?_
  rotate_right
  exact tup
end
end Mine
end

section
open PySem PySem.W PySem.Calls PyProof.Rows PySem.Spec
set_option maxRecDepth 100000
namespace Mine
section
variable {prog : Program} {w : World} {A : Around} {R : Result → Shared → Prop} {s : Shared}
/-- a comprehension's loop, whatever its depth: over any source, by an invariant -/
theorem loop_walk {e : Expr} {d : Nat} {acc : Value} {env : Env} {x : Str} {px : Pos} {pp : Pos} {ifs : List Expr} {inner : Sem Unit} {I : Addr} {fp wr : List Addr} {n : Nat} {P : Nat → Value → Prop} {St : Nat → Heap → Prop}
    (hT : compTurn e d (.ref I) acc env = (do
      standAt pp
      match ← pyNext (.ref I) with
      | none => pure (.done .next)
      | some v =>
        letOwnedTupleGo (.Name x px) (.ref I) v
        assign (.Name x px) env v
        let mut ok := true
        for c in ifs do
          if ok then ok ← isTrue c env (eval c env)
        if ok then inner
        again (.compLoop e d (.ref I) acc env)))
    (hq : (Code.compLoop e d (.ref I) acc env).quiet = true) (hfr : (Code.compLoop e d (.ref I) acc env).isFrame = false) (hun : A.under (Code.compLoop e d (.ref I) acc env) = A)
    (W : Walks prog w A I fp wr n P St) (J : Nat → Shared → Prop) (hSt : ∀ i s, J i s → St i s.heap)
    (turn : ∀ i v s h' tk E', i < n → P i v → J i s → St (i + 1) h' → (∀ b o, b ∉ wr → s.heap.get? b = some o → h'.get? b = some o) →
      wpAny (model prog w) A (assign (.Name x px) env v) (fun _ s₂ =>
        wpAny (model prog w) A (forIn ifs true fun c r => if r = true then do let ok ← isTrue c env (eval c env); pure (ForInStep.yield ok) else pure (ForInStep.yield r)) (fun ok s₃ =>
          if ok = true then wpAny (model prog w) A inner (fun _ s₄ => J (i + 1) s₄) E' s₃ else J (i + 1) s₃) E' s₂) E' { s with heap := h', toks := tk })
    (done : ∀ s h' tk, J n s → (∀ b o, b ∉ wr → s.heap.get? b = some o → h'.get? b = some o) → R (.ok .next) { s with heap := h', toks := tk })
    (h : J 0 s) : codeAny (model prog w) A (.compLoop e d (.ref I) acc env) R s := by
  refine codeAny_loop hq (fun k s' => ∃ i, i ≤ n ∧ k = n + 1 - i ∧ J i s') (fun k s' hI => ?_) (n + 1) ⟨0, Nat.zero_le _, rfl, h⟩
  obtain ⟨i, hi, rfl, hJ⟩ := hI
  rw [hun]
  have hden : denote table (Code.compLoop e d (.ref I) acc env) = (compTurn e d (.ref I) acc env).onRaise (fun x => do noteFrame x env; theTreesLotGoes x) := by
    show (if (Code.compLoop e d (.ref I) acc env).isFrame = true then _ else _) = _
    rw [hfr]; rfl
  show wpAny _ A (denote table (Code.compLoop e d (.ref I) acc env)) _ _ s'
  rw [hden]
  refine wpAny_noted ?_
  rw [hT]
  refine wpAny_bind (wpAny_standAt (wpAny_bind ?_))
  by_cases hlt : i < n
  · refine W.item i _ _ _ hlt (hSt i s' hJ) fun v h' tk hP hst hk => ?_
    refine wpAny_bind (wpAny_of_eq (show letOwnedTupleGo (.Name x px) (.ref I) v = pure () from rfl) ?_)
    refine wpAny_bind (wpAny_mono (turn i v s' h' tk _ hlt hP hJ hst hk) (fun _ s₂ h₂ => wpAny_bind (wpAny_mono h₂ (fun ok s₃ h₃ => ?_) fun _ _ z => z)) fun _ _ z => z)
    have hm : n + 1 - (i + 1) < n + 1 - i := by omega
    cases ok with
    | false => exact wpAny_pure ⟨rfl, _, hm, i + 1, hlt, rfl, h₃⟩
    | true => exact wpAny_bind (wpAny_mono h₃ (fun _ s₄ h₄ => wpAny_pure ⟨rfl, _, hm, i + 1, hlt, rfl, h₄⟩) fun _ _ z => z)
  · obtain rfl : i = n := Nat.le_antisymm hi (Nat.not_lt.mp hlt)
    exact W.done _ _ _ (hSt i s' hJ) fun h' tk hk => wpAny_pure (done s' h' tk hJ hk)
end
end Mine
end

section
open PySem PySem.W PySem.Calls PyProof.Rows PySem.Spec
set_option maxRecDepth 100000
namespace Mine
/-- item by item -/
inductive Pair2 (F : Nat → Value → Prop) : List Nat → List Value → Prop
  | nil : Pair2 F [] []
  | cons {a b l₁ l₂} : F a b → Pair2 F l₁ l₂ → Pair2 F (a :: l₁) (b :: l₂)
theorem Pair2.snoc {F : Nat → Value → Prop} {a : Nat} {b : Value} : ∀ {l₁ : List Nat} {l₂ : List Value}, Pair2 F l₁ l₂ → F a b → Pair2 F (l₁ ++ [a]) (l₂ ++ [b])
  | _, _, .nil, h => .cons h .nil
  | _, _, .cons h₁ t, h => .cons h₁ (Pair2.snoc t h)
theorem Pair2.mono {F G : Nat → Value → Prop} (h : ∀ a b, F a b → G a b) : ∀ {l₁ : List Nat} {l₂ : List Value}, Pair2 F l₁ l₂ → Pair2 G l₁ l₂
  | _, _, .nil => .nil
  | _, _, .cons h₁ t => .cons (h _ _ h₁) (Pair2.mono h t)
theorem Pair2.len {F : Nat → Value → Prop} : ∀ {l₁ : List Nat} {l₂ : List Value}, Pair2 F l₁ l₂ → l₁.length = l₂.length
  | _, _, .nil => rfl
  | _, _, .cons _ t => by simp [Pair2.len t]
theorem range_filter_succ (p : Nat → Bool) (i : Nat) : (List.range (i + 1)).filter p = (List.range i).filter p ++ (if p i then [i] else []) := by
  rw [List.range_succ, List.filter_append]
  cases hp : p i <;> simp [hp]
section
variable {prog : Program} {w : World} {A : Around} {E : Value → Shared → Prop} {env : Env}
/-- what a comprehension asks of its tests and of its elements -/
structure QuietG (prog : Program) (w : World) (A : Around) (env : Env) (scope : Scope) (cl : List (Str × Addr)) (x : Str) (ifs : List Expr) (elt : Expr) (wr : List Addr) (n : Nat) (P : Nat → Value → Prop) (p : Nat → Bool)
    (F : Nat → Heap → Value → Prop) (s₂ : Shared) : Prop where
  tests : ∀ C i v s₃ m₃ E', i < n → P i v → s₃.heap.Ns C m₃ → m₃ x = some v → (∀ b o, b ∉ wr → s₂.heap.get? b = some o → s₃.heap.get? b = some o) → s₂.heap.objs.size + 2 ≤ s₃.heap.objs.size →
    wpAny (model prog w) A (forIn ifs true fun c r => if r = true then do let ok ← isTrue c (compEnvC scope cl C env) (eval c (compEnvC scope cl C env)); pure (ForInStep.yield ok) else pure (ForInStep.yield r))
      (fun ok s₄ => ok = p i ∧ Keeps s₃ s₄) E' s₃
  elt : ∀ C i v s₃ m₃ E', i < n → P i v → p i = true → s₃.heap.Ns C m₃ → m₃ x = some v → (∀ b o, b ∉ wr → s₂.heap.get? b = some o → s₃.heap.get? b = some o) → s₂.heap.objs.size + 2 ≤ s₃.heap.objs.size →
    wpAny (model prog w) A (eval elt (compEnvC scope cl C env)) (fun y s₄ => F i s₄.heap y ∧ Keeps s₃ s₄) E' s₃

theorem comp_block {elt iter : Expr} {x : Str} {px : Pos} {ifs : List Expr} {scope : Scope} {cl : List (Str × Addr)} {pos : Pos} {s₂ : Shared} {I : Addr} {fp wr : List Addr} {n : Nat} {P : Nat → Value → Prop}
    {St : Nat → Heap → Prop} (W : Walks prog w A I fp wr n P St) (hsz : n ≤ sizeLine) (p : Nat → Bool) (F : Nat → Heap → Value → Prop) {RR : Value → Addr → Result → Shared → Prop}
    (hF : ∀ i h h' y, F i h y → (∀ b o, s₂.heap.objs.size + 2 ≤ b → h.get? b = some o → h'.get? b = some o) → F i h' y)
    (hcell : ∀ y ∈ scope.names, y.2 ≠ .cell) (hkind : scope.kind = .function) (hx : scope.names.lookup x = some .local) (hst : St 0 s₂.heap) (hfp : ∀ b ∈ fp, b < s₂.heap.objs.size)
    (hq : QuietG prog w A env scope cl x ifs elt wr n P p F s₂)
    (hRR : ∀ D C h' tk m' ys, s₂.heap.objs.size ≤ D → s₂.heap.get? D = none → s₂.heap.get? C = none → D ≠ C → h'.Ns C m' → h'.IsList D ys → Pair2 (fun i y => F i h' y) ((List.range n).filter p) ys.toList →
      (∀ b o, b ∉ wr → s₂.heap.get? b = some o → h'.get? b = some o) → D < s₂.heap.objs.size + 2 → C < s₂.heap.objs.size + 2 → RR (.ref D) C (.ok .next) { s₂ with heap := h', toks := tk }) :
    wpAny (model prog w) A (newList []) (fun acc s₃ => wpAny (model prog w) A (newFunctionEnv scope env.globals cl [] env.qual none .none (some env)) (fun cenv s₄ =>
      codeAny (model prog w) A (.compStart (.ListComp elt [⟨.Name x px, iter, ifs, 0⟩] scope pos) 0 (.ref I) acc { cenv with scope := relabel scope env }) (RR acc cenv.locals) s₄) E s₃) E s₂ := by
  refine wpAny_newObj_type (wpAny_newFunctionEnv hcell (by intro y hy; simp at hy) (fun h₁ hns₁ hsb₁ => ?_) hkind)
  dsimp only at hns₁ hsb₁ ⊢
  generalize hH2 : s₂.heap.push { cls := .type "list", dict := none, data := .seq ([] : List Value).toArray } = H2 at hns₁ hsb₁ ⊢
  have hC : H2.objs.size = s₂.heap.objs.size + 1 := by rw [← hH2, Heap.size_push]
  have hDC : s₂.heap.objs.size ≠ H2.objs.size := by rw [hC]; exact Nat.ne_of_lt (Nat.lt_succ_self _)
  have below : ∀ b, b < s₂.heap.objs.size → b ≠ H2.objs.size ∧ b ≠ s₂.heap.objs.size := fun b hb => ⟨by rw [hC]; exact Nat.ne_of_lt (Nat.lt_succ_of_lt hb), Nat.ne_of_lt hb⟩
  have hDf : s₂.heap.objs.size ∉ fp := fun hm => Nat.lt_irrefl _ (hfp _ hm)
  have hCf : H2.objs.size ∉ fp := fun hm => by have := hfp _ hm; rw [hC] at this; exact Nat.lt_irrefl _ (Nat.lt_of_succ_lt this)
  have hDw : s₂.heap.objs.size ∉ wr := fun hm => hDf (W.sub _ hm)
  have hCw : H2.objs.size ∉ wr := fun hm => hCf (W.sub _ hm)
  have hwr : ∀ b ∈ wr, b < s₂.heap.objs.size := fun b hb => hfp b (W.sub b hb)
  have old : ∀ b o, s₂.heap.get? b = some o → h₁.get? b = some o := fun b o e => hsb₁.extBut b o (below b (Heap.lt_size e)).1 (Heap.get?_push_of_some _ (hH2 ▸ Heap.get?_push_of_some _ e))
  have hacc : h₁.IsList s₂.heap.objs.size #[] := ⟨_, hsb₁.extBut _ _ hDC (Heap.get?_push_of_some _ (hH2 ▸ Heap.get?_push_size _ rfl)), rfl, 0, rfl⟩
  have hst₁ : St 0 h₁ := W.frame _ _ _ hst fun b _ o e => old b o e
  have fresh : ∀ a, s₂.heap.objs.size ≤ a → s₂.heap.get? a = none := fun a ha => by
    cases e : s₂.heap.get? a with
    | none => rfl
    | some o' => exact absurd (Heap.lt_size e) (Nat.not_lt.mpr ha)
  have hC2 : H2.objs.size < s₂.heap.objs.size + 2 := by rw [hC]; exact Nat.lt_succ_self _
  have hD2 : s₂.heap.objs.size < s₂.heap.objs.size + 2 := Nat.lt_succ_of_lt (Nat.lt_succ_self _)
  have apart : ∀ b, s₂.heap.objs.size + 2 ≤ b → b ≠ H2.objs.size ∧ b ≠ s₂.heap.objs.size ∧ b ∉ wr := fun b hb =>
    ⟨fun e => absurd (e ▸ hb) (Nat.not_le.mpr hC2), fun e => absurd (e ▸ hb) (Nat.not_le.mpr hD2), fun hm => absurd (Nat.lt_of_lt_of_le (hwr b hm) (Nat.le_trans (Nat.le_add_right _ 2) hb)) (Nat.lt_irrefl _)⟩
  have loop : ∀ s₃ : Shared, s₃ = { s₂ with heap := h₁, toks := s₂.toks + ([] : List (Str × Value)).length } →
      codeAny (model prog w) A (.compLoop (.ListComp elt [⟨.Name x px, iter, ifs, 0⟩] scope pos) 0 (.ref I) (.ref s₂.heap.objs.size) (compEnvC scope cl H2.objs.size env))
        (RR (.ref s₂.heap.objs.size) H2.objs.size) s₃ := by
    rintro s₃ rfl
    refine loop_walk (x := x) (px := px) (pp := iter.pos) (ifs := ifs) (inner := (do let _ ← call (.builtin "list.append") [.ref s₂.heap.objs.size, ← eval elt (compEnvC scope cl H2.objs.size env)])) (by rfl) rfl rfl rfl W
      (fun i s' => ∃ h' tk m' ys, s' = { s₂ with heap := h', toks := tk } ∧ i ≤ n ∧ St i h' ∧ h'.Ns H2.objs.size m' ∧ h'.IsList s₂.heap.objs.size ys ∧ Pair2 (fun j y => F j h' y) ((List.range i).filter p) ys.toList ∧
        (∀ b o, b ∉ wr → s₂.heap.get? b = some o → h'.get? b = some o) ∧ s₂.heap.objs.size + 2 ≤ h'.objs.size) ?_ ?_ ?_ ?_
    · rintro i s' ⟨h', tk, m', ys, rfl, _, hst', _⟩
      exact hst'
    · rintro i v s' h₂ tk₂ E' hlt hP ⟨h', tk, m', ys, rfl, _, _, hn', hl', hp', hk', hz'⟩ hst₂ hk₂
      have hn₂ : h₂.Ns H2.objs.size m' := hn'.at' fun o e => hk₂ _ o hCw e
      refine wpAny_assign_Name (wpAny_storeName_local (lookup_relabel_local hx) hn₂ (fun h₃ hn₃ hs₃ => ?_) (by simp [compEnvC, relabel, hkind]))
      have hl₃ : h₃.IsList s₂.heap.objs.size ys := (hl'.at fun o e => hk₂ _ o hDw e).at fun o e => hs₃.extBut _ o hDC e
      have hk₃ : ∀ b o, b ∉ wr → s₂.heap.get? b = some o → h₃.get? b = some o := fun b o hb e => hs₃.extBut b o (below b (Heap.lt_size e)).1 (hk₂ b o hb (hk' b o hb e))
      have hz₃ : s₂.heap.objs.size + 2 ≤ h₃.objs.size := by
        obtain ⟨oC, _, _, eC, _⟩ := hn₃
        have q := Heap.lt_size eC
        rw [hC] at q; exact q
      have hst₃ : St (i + 1) h₃ := W.frame _ _ _ hst₂ fun b hb o e => hs₃.extBut b o (fun q => hCf (by have q' : b = H2.objs.size := q; rw [← q']; exact hb)) e
      have hp₃ : Pair2 (fun j y => F j h₃ y) ((List.range i).filter p) ys.toList := hp'.mono fun j y f => hF j _ _ y f fun b o hb e => hs₃.extBut b o (apart b hb).1 (hk₂ b o (apart b hb).2.2 e)
      refine wpAny_mono (hq.tests H2.objs.size i v _ _ _ hlt hP hn₃ (by simp) hk₃ hz₃) (fun ok s₄ h₄ => ?_) fun _ _ z => z
      obtain ⟨rfl, h₄, tk₄, rfl, kp₄⟩ := h₄
      have hz₄ : s₂.heap.objs.size + 2 ≤ h₄.objs.size := by
        obtain ⟨oC, _, _, eC, _⟩ := hn₃
        have q := Heap.lt_size (kp₄ _ _ eC)
        rw [hC] at q; exact q
      have hp₄ : Pair2 (fun j y => F j h₄ y) ((List.range i).filter p) ys.toList := hp₃.mono fun j y f => hF j _ _ y f fun b o _ e => kp₄ b o e
      have hst₄ : St (i + 1) h₄ := W.frame _ _ _ hst₃ fun b _ o e => kp₄ b o e
      cases hpi : p i with
      | false =>
        rw [if_neg Bool.false_ne_true]
        refine ⟨h₄, tk₄, _, ys, rfl, hlt, hst₄, hn₃.at' fun o e => kp₄ _ o e, hl₃.at fun o e => kp₄ _ o e, ?_, fun b o hb e => kp₄ b o (hk₃ b o hb e), hz₄⟩
        rw [range_filter_succ, hpi]
        simpa using hp₄
      | true =>
        rw [if_pos rfl]
        refine wpAny_bind (wpAny_mono (hq.elt H2.objs.size i v _ _ _ hlt hP hpi (hn₃.at' fun o e => kp₄ _ o e) (by simp) (fun b o hb e => kp₄ b o (hk₃ b o hb e)) hz₄) (fun y s₅ h₅ => ?_) fun _ _ z => z)
        obtain ⟨f₅, h₅, tk₅, rfl, kp₅⟩ := h₅
        refine wpAny_bind (wpAny_list_append ((hl₃.at fun o e => kp₄ _ o e).at fun o e => kp₅ _ o e) (fun h₆ hl₆ hs₆ => wpAny_pure ?_) ?_)
        · have hst₅ : St (i + 1) h₅ := W.frame _ _ _ hst₄ fun b _ o e => kp₅ b o e
          refine ⟨h₆, _, _, ys.push y, rfl, hlt, W.frame _ _ _ hst₅ fun b hb o e => hs₆.extBut b o (fun q => hDf (by have q' : b = s₂.heap.objs.size := q; rw [← q']; exact hb)) e,
            ((hn₃.at' fun o e => kp₄ _ o e).at' fun o e => kp₅ _ o e).at' fun o e => hs₆.extBut _ o (Ne.symm hDC) e, hl₆, ?_, fun b o hb e => hs₆.extBut b o (below b (Heap.lt_size e)).2 (kp₅ b o (kp₄ b o (hk₃ b o hb e))), ?_⟩
          · rw [range_filter_succ, hpi]
            simp only [if_true, Array.toList_push]
            refine Pair2.snoc (hp₄.mono fun j z f => hF j _ _ z f fun b o hb e => hs₆.extBut b o (apart b hb).2.1 (kp₅ b o e)) ?_
            exact hF i _ _ y f₅ fun b o hb e => hs₆.extBut b o (apart b hb).2.1 e
          · rw [hs₆.1]
            obtain ⟨oC, _, _, eC, _⟩ := hn₃
            have q := Heap.lt_size (kp₅ _ _ (kp₄ _ _ eC))
            rw [hC] at q; exact q
        · have e1 := hp₃.len
          have e2 : ((List.range i).filter p).length ≤ i := by
            refine Nat.le_trans (List.length_filter_le _ _) ?_
            rw [List.length_range]; exact Nat.le_refl _
          have : ys.size ≤ i := by rw [← Array.length_toList, ← e1]; exact e2
          exact Nat.le_trans this (Nat.le_trans (Nat.le_of_lt hlt) hsz)
    · rintro s' h₂ tk₂ ⟨h', tk, m', ys, rfl, _, hst', hn', hl', hp', hk', hz'⟩ hk₂
      exact hRR _ _ h₂ tk₂ m' ys (Nat.le_refl _) (fresh _ (Nat.le_refl _)) (fresh _ (by rw [hC]; exact Nat.le_succ _)) hDC (hn'.at' fun o e => hk₂ _ o hCw e) (hl'.at fun o e => hk₂ _ o hDw e)
        (hp'.mono fun j y f => hF j _ _ y f fun b o hb e => hk₂ b o (apart b hb).2.2 e) (fun b o hb e => hk₂ b o hb (hk' b o hb e)) hD2 hC2
    · refine ⟨h₁, _, _, #[], rfl, Nat.zero_le _, hst₁, hns₁, hacc, .nil, fun b o _ e => old b o e, ?_⟩
      obtain ⟨oC, _, _, eC, _⟩ := hns₁
      have q := Heap.lt_size eC
      rw [hC] at q; exact q
  exact codeAny_compStart_list (loop _ rfl) (W.self 0 _ _ _ hst₁ (loop _ rfl))
end
end Mine
end

section
open PySem PySem.W PySem.Calls PyProof.Rows PySem.Spec
set_option maxRecDepth 100000
namespace Mine
section
variable {prog : Program} {w : World} {A : Around} {E : Value → Shared → Prop} {env : Env} {s : Shared}
/-- a fresh iterator stands at I; all that stood in s stands -/
def SrcIt (prog : Program) (w : World) (A : Around) (s s₂ : Shared) (I : Addr) (n : Nat) (P : Nat → Value → Prop) : Prop :=
  ∃ fp St h tk, Walks prog w A I fp [I] n P St ∧ St 0 s₂.heap ∧ (∀ b ∈ fp, b < s₂.heap.objs.size) ∧ s₂ = { s with heap := h, toks := tk } ∧ Kp s.heap h ∧ s.heap.get? I = none
theorem SrcIt.of {s₁ s₂ : Shared} {I : Addr} {n : Nat} {P : Nat → Value → Prop} (S : SrcIt prog w A s₁ s₂ I n P) {h : Heap} {tk : Nat} (e : s₁ = { s with heap := h, toks := tk }) (k : Kp s.heap h) : SrcIt prog w A s s₂ I n P := by
  subst e
  obtain ⟨fp, St, h', tk', W, a, b, c, d, f⟩ := S
  refine ⟨fp, St, h', tk', W, a, b, c, k.trans d, ?_⟩
  cases q : s.heap.get? I with
  | none => rfl
  | some o => rw [show ({ s with heap := h, toks := tk } : Shared).heap.get? I = some o from k _ _ q] at f; cases f
theorem none_size (h : Heap) : h.get? h.objs.size = none := by
  cases q : h.get? h.objs.size with
  | none => rfl
  | some o => exact absurd (Heap.lt_size q) (Nat.lt_irrefl _)
theorem src_range {r : Addr} {a b : Int} {t u v : Tok} {n : Nat} {Q : Value → Shared → Prop} (hh : A.handled = none) (hr : IsRange s.heap r a b 1 t u v) (hsm : Builtin.Range.small a b 1 = true) (hn : Builtin.Range.rangeSize a b 1 = (n : Int))
    (h : ∀ I s₂, SrcIt prog w A s s₂ I n (fun i v => ∃ t, v = .int (a + (i : Int)) t) → Q (.ref I) s₂) : wpAny (model prog w) A (pyIter (.ref r)) Q E s := by
  refine wpAny_pyIter_range hr hsm (h _ _ ⟨[s.heap.objs.size], _, _, _, LCg.range_walks (I := s.heap.objs.size) hh a n, ?_, ?_, rfl, fun b o e => Heap.get?_push_of_some _ e, none_size _⟩)
  · show IsRangeIter _ _ _ _ _
    rw [hn]; simpa using Heap.get?_push_size _ rfl
  · intro b hb
    rw [List.mem_singleton.mp hb]
    show s.heap.objs.size < (s.heap.push _).objs.size
    rw [Heap.size_push]; exact Nat.lt_succ_self _
theorem src_list {l : Addr} {its : Array Value} {Q : Value → Shared → Prop} (hh : A.handled = none) (hl : s.heap.IsList l its)
    (h : ∀ I s₂, SrcIt prog w A s s₂ I its.size (fun i v => its[i]? = some v) → Q (.ref I) s₂) : wpAny (model prog w) A (pyIter (.ref l)) Q E s := by
  have hlt : l < s.heap.objs.size := by obtain ⟨_, e, _⟩ := hl; exact Heap.lt_size e
  refine wpAny_pyIter_list hl (h _ _ ⟨[s.heap.objs.size, l], _, _, _, Walks.list hh s.heap.objs.size l (Nat.ne_of_lt hlt) its, ⟨⟨_, Heap.get?_push_size _ rfl, rfl, rfl⟩, hl.push _⟩, ?_, rfl, fun b o e => Heap.get?_push_of_some _ e, none_size _⟩)
  intro b hb
  show b < (s.heap.push _).objs.size
  rw [Heap.size_push]
  rcases List.mem_cons.mp hb with rfl | hb
  · exact Nat.lt_succ_self _
  · rw [List.mem_singleton.mp hb]; exact Nat.lt_succ_of_lt hlt

/-- the tests and the elements, told from the state ahead of the comprehension -/
structure Body (prog : Program) (w : World) (A : Around) (env : Env) (scope : Scope) (cl : List (Str × Addr)) (x : Str) (ifs : List Expr) (elt : Expr) (n : Nat) (P : Nat → Value → Prop) (p : Nat → Bool)
    (F : Nat → Nat → Heap → Value → Prop) (s : Shared) : Prop where
  tests : ∀ C i v s₃ m₃ E', i < n → P i v → s₃.heap.Ns C m₃ → m₃ x = some v → Kp s.heap s₃.heap →
    wpAny (model prog w) A (forIn ifs true fun c r => if r = true then do let ok ← isTrue c (compEnvC scope cl C env) (eval c (compEnvC scope cl C env)); pure (ForInStep.yield ok) else pure (ForInStep.yield r))
      (fun ok s₄ => ok = p i ∧ Keeps s₃ s₄) E' s₃
  elt : ∀ C i v s₃ m₃ E' n₀, i < n → P i v → p i = true → s₃.heap.Ns C m₃ → m₃ x = some v → Kp s.heap s₃.heap → n₀ ≤ s₃.heap.objs.size →
    wpAny (model prog w) A (eval elt (compEnvC scope cl C env)) (fun y s₄ => F n₀ i s₄.heap y ∧ Keeps s₃ s₄) E' s₃
abbrev Stable (F : Nat → Nat → Heap → Value → Prop) : Prop := ∀ n₀ i h h' y, F n₀ i h y → (∀ b o, n₀ ≤ b → h.get? b = some o → h'.get? b = some o) → F n₀ i h' y

theorem Body.quiet {scope : Scope} {cl : List (Str × Addr)} {x : Str} {ifs : List Expr} {elt : Expr} {n : Nat} {P : Nat → Value → Prop} {p : Nat → Bool} {F : Nat → Nat → Heap → Value → Prop} {s₂ : Shared} {I : Addr}
    (B : Body prog w A env scope cl x ifs elt n P p F s) (S : SrcIt prog w A s s₂ I n P) : QuietG prog w A env scope cl x ifs elt [I] n P p (F (s₂.heap.objs.size + 2)) s₂ := by
  obtain ⟨fp, St, h, tk, W, a, b, rfl, k, f⟩ := S
  have hk : ∀ h' : Heap, (∀ b o, b ∉ [I] → h.get? b = some o → h'.get? b = some o) → Kp s.heap h' := fun h' q b o e => q b o (fun hm => by rw [List.mem_singleton.mp hm, f] at e; cases e) (k b o e)
  exact ⟨fun C i v s₃ m₃ E' hi hp hn hm q _ => B.tests C i v s₃ m₃ E' hi hp hn hm (hk _ q), fun C i v s₃ m₃ E' hi hp hpi hn hm q z => B.elt C i v s₃ m₃ E' _ hi hp hpi hn hm (hk _ q) z⟩

theorem compE2 {elt iter : Expr} {x : Str} {px : Pos} {ifs : List Expr} {scope : Scope} {cl : List (Str × Addr)} {pos : Pos} {Q : Value → Shared → Prop} (p : Nat → Bool) (F : Nat → Nat → Heap → Value → Prop) (hF : Stable F)
    (hclos : closureFor scope env = pure cl) (hcell : ∀ y ∈ scope.names, y.2 ≠ .cell) (hkind : scope.kind = .function)
    (hnames : ∀ y ∈ scope.names, y.2 = .local → scope.names.lookup y.1 = some .local) (hx : scope.names.lookup x = some .local)
    (h : wpAny (model prog w) A (eval iter env) (fun xv s₁ => wpAny (model prog w) A (pyIter xv) (fun it s₂ => ∃ I n P, it = .ref I ∧ n ≤ sizeLine ∧ SrcIt prog w A s s₂ I n P ∧ Body prog w A env scope cl x ifs elt n P p F s ∧
      (∀ n₀ D h' tk ys, s₂.heap.objs.size ≤ D → s.heap.get? D = none → h'.IsList D ys → Pair2 (fun i y => F n₀ i h' y) ((List.range n).filter p) ys.toList → Kp s.heap h' → D < n₀ → Q (.ref D) { s with heap := h', toks := tk })) E s₁) E s)
    (hs : ∀ x, foldedSetIterable iter env x = pure x := by intro _; rfl) :
    wpAny (model prog w) A (eval (.ListComp elt [⟨.Name x px, iter, ifs, 0⟩] scope pos) env) Q E s := by
  rw [eval_ListComp]
  refine wpAny_comprehension_free (use := none) rfl hs hclos hkind hnames (wpAny_mono h (fun xv s₁ h₁ => wpAny_mono h₁ (fun it s₂ h₂ => ?_) fun _ _ e => e) fun _ _ e => e)
  obtain ⟨I, n, P, rfl, hsz, S, B, hQ⟩ := h₂
  have hq := B.quiet S
  obtain ⟨fp, St, h₂, tk₂, W, st, hfp, rfl, k₂, hI⟩ := S
  have up : ∀ b, h₂.get? b = none → s.heap.get? b = none := fun b e => by
    cases q : s.heap.get? b with
    | none => rfl
    | some o => rw [k₂ _ _ q] at e; cases e
  refine comp_block (RR := fun acc C => compPost (model prog w) A E none Q acc C) W hsz p (F (h₂.objs.size + 2)) (fun i h h' y => hF _ i h h' y) hcell hkind hx st hfp hq ?_
  intro D C h' tk m' ys hge hD hC hDC hn hl hP hk hD2 hC2
  refine ⟨m', hn, fun h'' hs'' => hQ (h₂.objs.size + 2) D h'' tk ys hge (up D hD) (hl.extBut hs''.extBut hDC) (hP.mono fun i y f => hF _ i _ _ y f fun b o hb e => hs''.extBut b o (fun q => absurd (q ▸ hb) (Nat.not_le.mpr hC2)) e)
    (fun b o e => hs''.extBut b o (by rintro rfl; rw [up _ hC] at e; cases e) (hk b o (fun hm => by rw [List.mem_singleton.mp hm, hI] at e; cases e) (k₂ b o e))) hD2⟩

theorem compE {elt iter : Expr} {x : Str} {px : Pos} {ifs : List Expr} {scope : Scope} {cl : List (Str × Addr)} {pos : Pos} {Q : Value → Shared → Prop} (p : Nat → Bool) (F : Nat → Nat → Heap → Value → Prop) (hF : Stable F)
    (hclos : closureFor scope env = pure cl) (hcell : ∀ y ∈ scope.names, y.2 ≠ .cell) (hkind : scope.kind = .function)
    (hnames : ∀ y ∈ scope.names, y.2 = .local → scope.names.lookup y.1 = some .local) (hx : scope.names.lookup x = some .local)
    (h : wpAny (model prog w) A (eval iter env) (fun xv s₁ => wpAny (model prog w) A (pyIter xv) (fun it s₂ => ∃ I n P, it = .ref I ∧ n ≤ sizeLine ∧ SrcIt prog w A s s₂ I n P ∧ Body prog w A env scope cl x ifs elt n P p F s ∧
      (∀ n₀ D h' tk ys, s.heap.get? D = none → h'.IsList D ys → Pair2 (fun i y => F n₀ i h' y) ((List.range n).filter p) ys.toList → Kp s.heap h' → D < n₀ → Q (.ref D) { s with heap := h', toks := tk })) E s₁) E s)
    (hs : ∀ x, foldedSetIterable iter env x = pure x := by intro _; rfl) :
    wpAny (model prog w) A (eval (.ListComp elt [⟨.Name x px, iter, ifs, 0⟩] scope pos) env) Q E s :=
  compE2 p F hF hclos hcell hkind hnames hx (wpAny_mono h (fun _ _ h₁ => wpAny_mono h₁ (fun _ _ h₂ => by
    obtain ⟨I, n, P, e, hsz, S, B, hQ⟩ := h₂
    exact ⟨I, n, P, e, hsz, S, B, fun n₀ D h' tk ys _ => hQ n₀ D h' tk ys⟩) fun _ _ e => e) fun _ _ e => e) hs

theorem InCallC.kp {s₀ s : Shared} {L : Addr} {m cm : Str → Option Value} {cs : List (Str × Addr)} {h' : Heap} {tk : Nat} (x : InCallC s₀ L m cs cm s) (k : Kp s.heap h') : InCallC s₀ L m cs cm { s with heap := h', toks := tk } := by
  obtain ⟨h₁, tk₁, e⟩ := x.toInCall.same
  refine ⟨⟨⟨h', tk, ?_⟩, x.toInCall.ns.at' fun o e => k _ o e, fun b o e => k b o (x.toInCall.keep b o e), x.toInCall.fresh⟩, fun n c hc => (x.cell n c hc).keeps k, x.apart, x.above⟩
  subst e; rfl
theorem kp_of_keeps {s s' : Shared} (k : Keeps s s') : Kp s.heap s'.heap := by
  obtain ⟨h, tk, rfl, q⟩ := k
  exact q
end
section
variable {w : World} {A : Around} {E : Value → Shared → Prop} {s s₀ : Shared} {Q : Value → Shared → Prop} {env : Env} {m cm : Str → Option Value} {n : Str} {v : Value} {pos : Pos}
theorem nmL (x : InCallC s₀ env.locals m env.cells cm s) (hv : m n = some v) (h : Q v s) (hk : env.scope.kind = .function := by rfl) (hl : env.kindOf n = some .local := by rfl) (hd : (n == ("__debug__" : Str)) = false := by decide) :
    wpAny (model PW w) A (eval (.Name n pos) env) Q E s := NameLC x hk hl hv h hd
theorem nmC {c : Addr} (x : InCallC s₀ env.locals m env.cells cm s) (hc : env.cells.lookup n = some c) (hv : cm n = some v) (h : Q v s) (hk : env.scope.kind = .function := by rfl) (hl : env.kindOf n = some .cell := by rfl) (hd : (n == ("__debug__" : Str)) = false := by decide) :
    wpAny (model PW w) A (eval (.Name n pos) env) Q E s := NameCC x hk hl hc hv h hd
/-- a name of the top, whatever the frame -/
theorem nmGe (W : Wd w s.heap) (e : nsIn (hd.heap_39 w.params) mainGlobals n = some (some v)) (h : Q v s) (hk : env.scope.kind = .function := by rfl) (hx : env.kindOf n = some .globalImplicit := by rfl) (hg : env.globals = mainGlobals := by rfl) (hd : (n == ("__debug__" : Str)) = false := by decide) :
    wpAny (model PW w) A (eval (.Name n pos) env) Q E s := by
  obtain ⟨mg, mb, T⟩ := W.T
  exact Name_function_global hk hx (loadGlobal_global (env := env) (show s.heap.Ns env.globals mg from hg ▸ T.g) (mg_of W.X T.g e) h) hd
theorem nmBe (W : Wd w s.heap) (e : nsIn (hd.heap_39 w.params) mainGlobals n = some none) (hv : bootBuiltins n = some v) (h : Q v s) (hn : n ≠ "__name__" := by decide) (hk : env.scope.kind = .function := by rfl) (hx : env.kindOf n = some .globalImplicit := by rfl)
    (hg : env.globals = mainGlobals := by rfl) (hb : env.builtins = builtinsNs := by rfl) (hd : (n == ("__debug__" : Str)) = false := by decide) :
    wpAny (model PW w) A (eval (.Name n pos) env) Q E s := by
  obtain ⟨mg, mb, T⟩ := W.T
  exact Name_function_global hk hx (loadGlobal_builtin (env := env) (show s.heap.Ns env.globals mg from hg ▸ T.g) (mg_none_of W.X T.g e) (show s.heap.Ns env.builtins mb from hb ▸ T.b) ((T.builtins n hn).trans hv) h) hd
/-- a local of a comprehension's own frame -/
theorem nmX {C : Addr} {scope : Scope} {cl : List (Str × Addr)} (hn : s.heap.Ns C m) (hv : m n = some v) (h : Q v s) (hk : (compEnvC scope cl C env).scope.kind = .function := by rfl) (hl : (compEnvC scope cl C env).kindOf n = some .local := by rfl) (hd : (n == ("__debug__" : Str)) = false := by decide) :
    wpAny (model PW w) A (eval (.Name n pos) (compEnvC scope cl C env)) Q E s := wpAny_Name (wpAny_loadName_local hk hl hn hv h) hd
/-- a name that a comprehension takes from its function -/
theorem nmF {C c : Addr} {scope : Scope} {cl : List (Str × Addr)} (hc : cl.lookup n = some c) (hv : s.heap.IsCell c (some v)) (h : Q v s) (hk : (compEnvC scope cl C env).scope.kind = .function := by rfl) (hl : (compEnvC scope cl C env).kindOf n = some .cell := by rfl) (hd : (n == ("__debug__" : Str)) = false := by decide) :
    wpAny (model PW w) A (eval (.Name n pos) (compEnvC scope cl C env)) Q E s := wpAny_Name (wpAny_loadName_cell hk hl hc hv h) hd
/-- a def of the text's with cells of its own, called -/
theorem call_pureC {K : Frag} {f : Addr} {name qual : Str} {params : Arguments} {body : List Stmt} {scope : Scope} {dV kV doc pm cdv ct oc : Value} {an od : Option Addr} {osl : Array (Option Value)} {args : List Value} {binds : List (Str × Value)}
    (X : K.In s.heap) (hlim : s.heap.NoLimit) (hroom : A.depth < recursionLimit)
    (ho : K.lookup f = some ⟨oc, od, .func (fnOf name qual params body scope dV kV doc pm an cdv ct), osl⟩) (hcd : codeIn K cdv qual = true)
    (hbind : bindArgs (fnOf name qual params body scope dV kV doc pm an cdv ct) ⟨args, []⟩ = pure binds)
    (hkind : ∀ x ∈ binds, scope.names.lookup x.1 = some .local ∨ (scope.names.lookup x.1 = some .cell ∧ ((cellsFrom (s.heap.objs.size + 1) scope.names []).lookup x.1).isSome = true))
    (hco : scope.isCoroutine = false) (hgen : scope.isGenerator = false) (hk : scope.kind = .function)
    (h : ∀ s₁, InCallC s (envOfC qual scope s.heap.objs.size f cdv).locals (bindL (envOfC qual scope s.heap.objs.size f cdv).kindOf binds fun _ => none) (envOfC qual scope s.heap.objs.size f cdv).cells
        (bindC (envOfC qual scope s.heap.objs.size f cdv).kindOf binds fun _ => none) s₁ →
      wpAny (model PW w) (A.deeper (envOfC qual scope s.heap.objs.size f cdv)) (execs body (envOfC qual scope s.heap.objs.size f cdv))
        (fun fl s' => Q (match fl with | .ret v => v | _ => .none) s') (fun _ _ => False) s₁) :
    wpAny (model PW w) A (call (.ref f) args) Q E s := by
  refine wpAny_call ?_
  refine codeAny_call_cells (fd := fnOf name qual params body scope dV kV doc pm an cdv ct) (body := body) (binds := binds) hroom (X _ _ ho) rfl hlim (codeRec_of X hcd) rfl hbind rfl hkind (fun s₁ x => ?_) hco hgen hk
  exact wpAny_mono (h s₁ x) (fun fl s' hl => hl) (fun _ _ x => x.elim)
end
end Mine
end

section
open PySem PySem.W PySem.Calls PyProof.Rows PySem.Spec
set_option maxRecDepth 100000
namespace Mine
/-- every list and tuple stays as it stood -/
def Ks (h h' : Heap) : Prop := ∀ b o, h.get? b = some o → (∃ xs n, o.data = .seq xs n) → h'.get? b = some o
theorem Ks.of {h h' : Heap} (k : Kp h h') : Ks h h' := fun b o e _ => k b o e
theorem Ks.trans {a b c : Heap} (x : Ks a b) (y : Ks b c) : Ks a c := fun i o e d => y i o (x i o e d) d
theorem Ks.tup {h h' : Heap} {r : Addr} {its : Array Value} (k : Ks h h') (t : IsTup h r its) : IsTup h' r its := by
  obtain ⟨o, e, c, n, d⟩ := t
  exact ⟨o, k _ _ e ⟨_, _, d⟩, c, n, d⟩
theorem Ks.lst {h h' : Heap} {r : Addr} {its : Array Value} (k : Ks h h') (t : h.IsList r its) : h'.IsList r its := by
  obtain ⟨o, e, c, n, d⟩ := t
  exact ⟨o, k _ _ e ⟨_, _, d⟩, c, n, d⟩
theorem ne_ns {h : Heap} {L b : Addr} {m : Str → Option Value} {o : Obj} (x : h.Ns L m) (e : h.get? b = some o) (d : ∃ xs n, o.data = .seq xs n) : b ≠ L := by
  rintro rfl
  obtain ⟨o', es, ep, e', d', _⟩ := x
  rw [e] at e'
  cases e'
  obtain ⟨xs, n, d⟩ := d
  rw [d] at d'
  cases d'
theorem ne_cell {h : Heap} {c b : Addr} {v : Option Value} {o : Obj} (x : h.IsCell c v) (e : h.get? b = some o) (d : ∃ xs n, o.data = .seq xs n) : b ≠ c := by
  rintro rfl
  obtain ⟨o', e', d'⟩ := x
  rw [e] at e'
  cases e'
  obtain ⟨xs, n, d⟩ := d
  rw [d] at d'
  cases d'
section
variable {M : Model} {A : Around} {E : Value → Shared → Prop} {s s₀ : Shared} {env : Env} {m cm : Str → Option Value} {n : Str} {v : Value} {Q : Unit → Shared → Prop}
theorem stL (x : InCallC s₀ env.locals m env.cells cm s)
    (h : ∀ h' tk, InCallC s₀ env.locals (fun y => if y = n then some v else m y) env.cells cm { s with heap := h', toks := tk } → Ks s.heap h' → (∀ b o, b ≠ env.locals → s.heap.get? b = some o → h'.get? b = some o) → Q () { s with heap := h', toks := tk })
    (hk : env.scope.kind = .function := by rfl) (hl : env.kindOf n = some .local := by rfl) : wpAny M A (storeName env n v) Q E s := by
  refine wpAny_storeName_local hl x.toInCall.ns (fun h' hn' hs' => h h' _ ⟨⟨?_, hn', fun b o e => ?_, x.toInCall.fresh⟩, fun k c hc => ?_, x.apart, x.above⟩ (fun b o e d => hs'.extBut b o (ne_ns x.toInCall.ns e d) e) (fun b o hb e => hs'.extBut b o hb e)) (by rw [hk]; rfl)
  · obtain ⟨h₁, tk, rfl⟩ := x.toInCall.same
    exact ⟨h', _, rfl⟩
  · exact hs'.extBut b o (Nat.ne_of_lt (Nat.lt_of_lt_of_le (Heap.lt_size e) x.toInCall.fresh)) (x.toInCall.keep b o e)
  · exact (x.cell k c hc).sameBut hs' (Nat.ne_of_gt (x.above k c (mem_of_lookup hc)))
theorem stC {c : Addr} (x : InCallC s₀ env.locals m env.cells cm s) (hc : env.cells.lookup n = some c)
    (h : ∀ h' tk, InCallC s₀ env.locals m env.cells (fun y => if y = n then some v else cm y) { s with heap := h', toks := tk } → Ks s.heap h' → (∀ b o, b ≠ c → s.heap.get? b = some o → h'.get? b = some o) → Q () { s with heap := h', toks := tk })
    (hk : env.scope.kind = .function := by rfl) (hl : env.kindOf n = some .cell := by rfl) : wpAny M A (storeName env n v) Q E s := by
  have hLc := x.above n c (mem_of_lookup hc)
  refine wpAny_storeName_cell hk hl hc (x.cell n c hc) fun h' hc' hs' => h h' _ ⟨⟨?_, x.toInCall.ns.sameBut hs' (Nat.ne_of_lt hLc), fun b o e => ?_, x.toInCall.fresh⟩, fun k c' hk' => ?_, x.apart, x.above⟩ (fun b o e d => hs'.extBut b o (ne_cell (x.cell n c hc) e d) e) (fun b o hb e => hs'.extBut b o hb e)
  · obtain ⟨h₁, tk, rfl⟩ := x.toInCall.same
    exact ⟨h', _, rfl⟩
  · exact hs'.extBut b o (Nat.ne_of_lt (Nat.lt_trans (Nat.lt_of_lt_of_le (Heap.lt_size e) x.toInCall.fresh) hLc)) (x.toInCall.keep b o e)
  · by_cases hkn : k = n
    · subst hkn
      rw [hc] at hk'; cases hk'
      simpa using hc'
    · rw [if_neg hkn]
      exact (x.cell k c' hk').sameBut hs' fun e => hkn (name_of_addr x.apart (mem_of_lookup hk') (e ▸ mem_of_lookup hc))
end
section
variable {prog : Program} {w : World} {A : Around} {E : Value → Shared → Prop} {s s₀ T : Shared} {m cm : Str → Option Value} {L : Addr} {cs : List (Str × Addr)}
/-- the state, told anew by what is known of it -/
theorem gen_state {α : Type} {M : Model} {t : Sem α} {Q : α → Shared → Prop} (x : InCallC s₀ L m cs cm T) (h : ∀ s', InCallC s₀ L m cs cm s' → T.heap = s'.heap → wpAny M A t Q E s') : wpAny M A t Q E T := h T x rfl
theorem iter_range1 {n : Nat} {N : Int} {t : Tok} {Q : Value → Shared → Prop} (hh : A.handled = none) (hsm : Builtin.Range.small 0 N 1 = true) (hn : Builtin.Range.rangeSize 0 N 1 = (n : Int))
    (h : ∀ I s₂, SrcIt prog w A s s₂ I n (fun i v => ∃ t, v = .int (0 + (i : Int)) t) → Q (.ref I) s₂) :
    wpAny (model prog w) A (call (.type "range") [.int N t]) (fun xv s₁ => wpAny (model prog w) A (pyIter xv) Q E s₁) E s :=
  call_range_1 (src_range hh (Heap.get?_push_size _ rfl) hsm hn fun I s₂ S => h I s₂ (S.of rfl fun _ _ e => Heap.get?_push_of_some _ e))
theorem iter_range2 {n : Nat} {N a : Int} {t u : Tok} {Q : Value → Shared → Prop} (hh : A.handled = none) (hsm : Builtin.Range.small a N 1 = true) (hn : Builtin.Range.rangeSize a N 1 = (n : Int))
    (h : ∀ I s₂, SrcIt prog w A s s₂ I n (fun i v => ∃ t, v = .int (a + (i : Int)) t) → Q (.ref I) s₂) :
    wpAny (model prog w) A (call (.type "range") [.int a t, .int N u]) (fun xv s₁ => wpAny (model prog w) A (pyIter xv) Q E s₁) E s :=
  call_range_2 (src_range hh (Heap.get?_push_size _ rfl) hsm hn fun I s₂ S => h I s₂ (S.of rfl fun _ _ e => Heap.get?_push_of_some _ e))
theorem Keeps.self (s : Shared) : Keeps s s := ⟨s.heap, s.toks, rfl, fun _ _ e => e⟩
theorem Keeps.tok (s : Shared) (t : Nat) : Keeps s { s with toks := t } := ⟨s.heap, t, rfl, fun _ _ e => e⟩
end
end Mine
end

section
open PySem PySem.W PySem.Calls PyProof.Rows PySem.Spec
set_option maxRecDepth 100000
namespace Mine
section
variable {prog : Program} {w : World} {A : Around} {E : Value → Shared → Prop} {env : Env} {s : Shared}
theorem newEnv_cell {M : Model} {scope : Scope} {globals : Addr} {cl : List (Str × Addr)} {x : Str} {qual : Str} {Q : Env → Shared → Prop} (hone : ∀ n, cellsFrom n scope.names cl = (x, n) :: cl) (hpc : ∀ h, pushCells h scope.names = h.push { cls := .type "cell", data := .cell none })
    (hQ : Q (newEnv scope s.heap.objs.size globals ((x, s.heap.objs.size + 1) :: cl) qual none .none (some env) builtinsNs) { s with heap := (s.heap.push { cls := .type "dict", data := .dict #[] }).push { cls := .type "cell", data := .cell none } }) :
    wpAny M A (newFunctionEnv scope globals cl [] qual none .none (some env)) Q E s := by
  simp only [newFunctionEnv, Option.isSome_some, if_true]
  refine wpAny_bind (wpAny_alloc ?_)
  refine wpAny_bind (wpAny_layCells _ (fun name kind cells => by cases hkc : kind == NameKind.cell <;> simp [hkc]) _ _ _ _ ?_)
  rw [hone, hpc]
  have hz : (s.heap.push { cls := .type "dict", data := .dict #[] }).objs.size = s.heap.objs.size + 1 := Heap.size_push ..
  show wpAny M A (forIn ([] : List (Str × Value)) PUnit.unit _ >>= fun _ => pure _) Q E _
  refine wpAny_bind (wpAny_pure (wpAny_pure ?_))
  dsimp only
  rw [hz]
  exact hQ

theorem comp_blockC {elt iter : Expr} {x : Str} {px : Pos} {scope : Scope} {cl : List (Str × Addr)} {pos : Pos} {s₂ : Shared} {I : Addr} {fp wr : List Addr} {n : Nat} {P : Nat → Value → Prop}
    {St : Nat → Heap → Prop} (W : Walks prog w A I fp wr n P St) (hsz : n ≤ sizeLine) (F : Nat → Heap → Value → Prop) {RR : Value → Addr → Result → Shared → Prop}
    (hF : ∀ i h h' y, F i h y → (∀ b o, s₂.heap.objs.size + 3 ≤ b → h.get? b = some o → h'.get? b = some o) → F i h' y)
    (hone : ∀ n, cellsFrom n scope.names cl = (x, n) :: cl) (hpc : ∀ h, pushCells h scope.names = h.push { cls := .type "cell", data := .cell none })
    (hkind : scope.kind = .function) (hx : Env.kindOf (compEnvC scope cl 0 env) x = some .cell) (hst : St 0 s₂.heap) (hfp : ∀ b ∈ fp, b < s₂.heap.objs.size)
    (hq : ∀ C c i v s₃ E', i < n → P i v → s₃.heap.IsCell c (some v) → (∀ b o, b ∉ wr → s₂.heap.get? b = some o → s₃.heap.get? b = some o) → s₂.heap.objs.size + 3 ≤ s₃.heap.objs.size →
      wpAny (model prog w) A (eval elt (compEnvC scope ((x, c) :: cl) C env)) (fun y s₄ => F i s₄.heap y ∧ Keeps s₃ s₄) E' s₃)
    (hRR : ∀ D C h' tk m' ys, s₂.heap.get? D = none → s₂.heap.get? C = none → D ≠ C → h'.Ns C m' → h'.IsList D ys → Pair2 (fun i y => F i h' y) (List.range n) ys.toList →
      (∀ b o, b ∉ wr → s₂.heap.get? b = some o → h'.get? b = some o) → D < s₂.heap.objs.size + 3 → C < s₂.heap.objs.size + 3 → RR (.ref D) C (.ok .next) { s₂ with heap := h', toks := tk }) :
    wpAny (model prog w) A (newList []) (fun acc s₃ => wpAny (model prog w) A (newFunctionEnv scope env.globals cl [] env.qual none .none (some env)) (fun cenv s₄ =>
      codeAny (model prog w) A (.compStart (.ListComp elt [⟨.Name x px, iter, [], 0⟩] scope pos) 0 (.ref I) acc { cenv with scope := relabel scope env }) (RR acc cenv.locals) s₄) E s₃) E s₂ := by
  refine wpAny_newObj_type (newEnv_cell hone hpc ?_)
  dsimp only
  have fresh : ∀ a, s₂.heap.objs.size ≤ a → s₂.heap.get? a = none := fun a ha => by
    cases e : s₂.heap.get? a with
    | none => rfl
    | some o' => exact absurd (Heap.lt_size e) (Nat.not_lt.mpr ha)
  generalize hH2 : s₂.heap.push { cls := .type "list", dict := none, data := .seq ([] : List Value).toArray } = H2
  have hC : H2.objs.size = s₂.heap.objs.size + 1 := by rw [← hH2, Heap.size_push]
  generalize hH3 : (H2.push { cls := .type "dict", data := .dict #[] }).push { cls := .type "cell", data := .cell none } = H3
  have k2 : ∀ b o, s₂.heap.get? b = some o → H2.get? b = some o := fun b o e => hH2 ▸ Heap.get?_push_of_some _ e
  have k3 : ∀ b o, H2.get? b = some o → H3.get? b = some o := fun b o e => hH3 ▸ Heap.get?_push_of_some _ (Heap.get?_push_of_some _ e)
  have hz3 : H3.objs.size = s₂.heap.objs.size + 3 := by rw [← hH3, Heap.size_push, Heap.size_push, hC]
  have hacc : H3.IsList s₂.heap.objs.size #[] := ⟨_, k3 _ _ (hH2 ▸ Heap.get?_push_size _ rfl), rfl, 0, rfl⟩
  have hns : H3.Ns H2.objs.size (fun _ => none) := by
    have := (Heap.Ns.new H2 (.type "dict")).keeps (h' := H3) (fun b o e => hH3 ▸ Heap.get?_push_of_some _ e)
    exact this
  have hcl : H3.IsCell (H2.objs.size + 1) none := by
    refine ⟨{ cls := .type "cell", data := .cell none }, ?_, rfl⟩
    have := Heap.get?_push_size (H2.push { cls := .type "dict", data := .dict #[] }) (o := { cls := .type "cell", data := .cell none }) rfl
    rw [Heap.size_push] at this
    rw [← hH3]; exact this
  have hDC : s₂.heap.objs.size ≠ H2.objs.size := by omega
  have hDc : s₂.heap.objs.size ≠ H2.objs.size + 1 := by omega
  have hCc : H2.objs.size ≠ H2.objs.size + 1 := by omega
  have hDf : s₂.heap.objs.size ∉ fp := fun hm => Nat.lt_irrefl _ (hfp _ hm)
  have hCf : H2.objs.size ∉ fp := fun hm => by have q : (H2.objs.size : Nat) < s₂.heap.objs.size := hfp _ hm; omega
  have hcf : H2.objs.size + 1 ∉ fp := fun hm => by have q : (H2.objs.size + 1 : Nat) < s₂.heap.objs.size := hfp _ hm; omega
  have hDw : s₂.heap.objs.size ∉ wr := fun hm => hDf (W.sub _ hm)
  have hCw : H2.objs.size ∉ wr := fun hm => hCf (W.sub _ hm)
  have hcw : H2.objs.size + 1 ∉ wr := fun hm => hcf (W.sub _ hm)
  have hwr : ∀ b ∈ wr, b < s₂.heap.objs.size := fun b hb => hfp b (W.sub b hb)
  have below : ∀ b, b < s₂.heap.objs.size → b ≠ H2.objs.size ∧ b ≠ s₂.heap.objs.size ∧ b ≠ H2.objs.size + 1 := fun b hb => ⟨by omega, by omega, by omega⟩
  have apart : ∀ b, s₂.heap.objs.size + 3 ≤ b → b ≠ H2.objs.size ∧ b ≠ s₂.heap.objs.size ∧ b ≠ H2.objs.size + 1 ∧ b ∉ wr := fun b hb =>
    ⟨by omega, by omega, by omega, fun hm => by have q : Nat.lt b s₂.heap.objs.size := hwr b hm; exact absurd (Nat.lt_of_lt_of_le q (Nat.le_trans (Nat.le_add_right _ 3) hb)) (Nat.lt_irrefl _)⟩
  have loop : ∀ s₃ : Shared, s₃ = { s₂ with heap := H3 } →
      codeAny (model prog w) A (.compLoop (.ListComp elt [⟨.Name x px, iter, [], 0⟩] scope pos) 0 (.ref I) (.ref s₂.heap.objs.size) (compEnvC scope ((x, H2.objs.size + 1) :: cl) H2.objs.size env))
        (RR (.ref s₂.heap.objs.size) H2.objs.size) s₃ := by
    rintro s₃ rfl
    refine loop_walk (x := x) (px := px) (pp := iter.pos) (ifs := []) (inner := (do let _ ← call (.builtin "list.append") [.ref s₂.heap.objs.size, ← eval elt (compEnvC scope ((x, H2.objs.size + 1) :: cl) H2.objs.size env)])) (by rfl) rfl rfl rfl W
      (fun i s' => ∃ h' tk vv ys, s' = { s₂ with heap := h', toks := tk } ∧ i ≤ n ∧ St i h' ∧ h'.Ns H2.objs.size (fun _ => none) ∧ h'.IsCell (H2.objs.size + 1) vv ∧ h'.IsList s₂.heap.objs.size ys ∧ Pair2 (fun j y => F j h' y) (List.range i) ys.toList ∧
        (∀ b o, b ∉ wr → s₂.heap.get? b = some o → h'.get? b = some o) ∧ s₂.heap.objs.size + 3 ≤ h'.objs.size) ?_ ?_ ?_ ?_
    · rintro i s' ⟨h', tk, vv, ys, rfl, _, hst', _⟩
      exact hst'
    · rintro i v s' h₂ tk₂ E' hlt hP ⟨h', tk, vv, ys, rfl, _, _, hn', hc', hl', hp', hk', hz'⟩ hst₂ hk₂
      have hn₂ : h₂.Ns H2.objs.size (fun _ => none) := hn'.at' fun o e => hk₂ _ o hCw e
      have hc₂ : h₂.IsCell (H2.objs.size + 1) vv := by obtain ⟨o, e, d⟩ := hc'; exact ⟨o, hk₂ _ o hcw e, d⟩
      refine wpAny_assign_Name (wpAny_storeName_cell (c := H2.objs.size + 1) (by show scope.kind = _; exact hkind) hx (by simp [compEnvC]) hc₂ fun h₃ hc₃ hs₃ => ?_)
      have hn₃ : h₃.Ns H2.objs.size (fun _ => none) := hn₂.at' fun o e => hs₃.extBut _ o hCc e
      have hl₃ : h₃.IsList s₂.heap.objs.size ys := (hl'.at fun o e => hk₂ _ o hDw e).at fun o e => hs₃.extBut _ o hDc e
      have hk₃ : ∀ b o, b ∉ wr → s₂.heap.get? b = some o → h₃.get? b = some o := fun b o hb e => hs₃.extBut b o (below b (Heap.lt_size e)).2.2 (hk₂ b o hb (hk' b o hb e))
      have hz₃ : s₂.heap.objs.size + 3 ≤ h₃.objs.size := by
        obtain ⟨oC, eC, _⟩ := hc₃
        have q : (H2.objs.size + 1 : Nat) < h₃.objs.size := Heap.lt_size eC
        omega
      have hst₃ : St (i + 1) h₃ := W.frame _ _ _ hst₂ fun b hb o e => hs₃.extBut b o (fun q => hcf (by have q' : b = H2.objs.size + 1 := q; rw [← q']; exact hb)) e
      have hp₃ : Pair2 (fun j y => F j h₃ y) (List.range i) ys.toList := hp'.mono fun j y f => hF j _ _ y f fun b o hb e => hs₃.extBut b o (apart b hb).2.2.1 (hk₂ b o (apart b hb).2.2.2 e)
      refine wpAny_tests_nil ?_
      rw [if_pos rfl]
      refine wpAny_bind (wpAny_mono (hq H2.objs.size (H2.objs.size + 1) i v _ _ hlt hP hc₃ hk₃ hz₃) (fun y s₅ h₅ => ?_) fun _ _ z => z)
      obtain ⟨f₅, h₅, tk₅, rfl, kp₅⟩ := h₅
      refine wpAny_bind (wpAny_list_append (hl₃.at fun o e => kp₅ _ o e) (fun h₆ hl₆ hs₆ => wpAny_pure ?_) ?_)
      · have hst₅ : St (i + 1) h₅ := W.frame _ _ _ hst₃ fun b _ o e => kp₅ b o e
        refine ⟨h₆, _, _, ys.push y, rfl, hlt, W.frame _ _ _ hst₅ fun b hb o e => hs₆.extBut b o (fun q => hDf (by have q' : b = s₂.heap.objs.size := q; rw [← q']; exact hb)) e,
          (hn₃.at' fun o e => kp₅ _ o e).at' fun o e => hs₆.extBut _ o (Ne.symm hDC) e, (hc₃.keeps kp₅).sameBut hs₆ (Ne.symm hDc), hl₆, ?_, fun b o hb e => hs₆.extBut b o (below b (Heap.lt_size e)).2.1 (kp₅ b o (hk₃ b o hb e)), ?_⟩
        · rw [List.range_succ]
          simp only [Array.toList_push]
          refine Pair2.snoc (hp₃.mono fun j z f => hF j _ _ z f fun b o hb e => hs₆.extBut b o (apart b hb).2.1 (kp₅ b o e)) ?_
          exact hF i _ _ y f₅ fun b o hb e => hs₆.extBut b o (apart b hb).2.1 e
        · rw [hs₆.1]
          obtain ⟨oC, eC, _⟩ := hc₃
          have q : (H2.objs.size + 1 : Nat) < h₅.objs.size := Heap.lt_size (kp₅ _ _ eC)
          show (s₂.heap.objs.size : Nat) + 3 ≤ h₅.objs.size
          omega
      · have e1 := hp₃.len
        have : ys.size ≤ i := by rw [← Array.length_toList, ← e1, List.length_range]; exact Nat.le_refl _
        exact Nat.le_trans this (Nat.le_trans (Nat.le_of_lt hlt) hsz)
    · rintro s' h₂ tk₂ ⟨h', tk, vv, ys, rfl, _, hst', hn', hc', hl', hp', hk', hz'⟩ hk₂
      exact hRR _ _ h₂ tk₂ _ ys (fresh _ (Nat.le_refl _)) (fresh _ (by omega)) hDC (hn'.at' fun o e => hk₂ _ o hCw e) (hl'.at fun o e => hk₂ _ o hDw e)
        (hp'.mono fun j y f => hF j _ _ y f fun b o hb e => hk₂ b o (apart b hb).2.2.2 e) (fun b o hb e => hk₂ b o hb (hk' b o hb e)) (show (s₂.heap.objs.size : Nat) < s₂.heap.objs.size + 3 by omega) (show (H2.objs.size : Nat) < s₂.heap.objs.size + 3 by omega)
    · exact ⟨H3, _, _, #[], rfl, Nat.zero_le _, W.frame _ _ _ hst fun b _ o e => k3 _ _ (k2 b o e), hns, hcl, hacc, .nil, fun b o _ e => k3 _ _ (k2 b o e), Nat.le_of_eq hz3.symm⟩
  exact codeAny_compStart_list (loop _ rfl) (W.self 0 _ _ _ (W.frame _ _ _ hst fun b _ o e => k3 _ _ (k2 b o e)) (loop _ rfl))
/-- a comprehension whose variable is a cell -/
theorem compEC {E : Value → Shared → Prop} {elt iter : Expr} {x : Str} {px : Pos} {scope : Scope} {cl : List (Str × Addr)} {pos : Pos} {Q : Value → Shared → Prop} (F : Nat → Nat → Heap → Value → Prop) (hF : Stable F)
    (hclos : closureFor scope env = pure cl) (hone : ∀ n, cellsFrom n scope.names cl = (x, n) :: cl) (hpc : ∀ h, pushCells h scope.names = h.push { cls := .type "cell", data := .cell none }) (hkind : scope.kind = .function)
    (hnames : ∀ y ∈ scope.names, y.2 = .local → scope.names.lookup y.1 = some .local) (hx : Env.kindOf (compEnvC scope cl 0 env) x = some .cell)
    (h : wpAny (model prog w) A (eval iter env) (fun xv s₁ => wpAny (model prog w) A (pyIter xv) (fun it s₂ => ∃ I n P, it = .ref I ∧ n ≤ sizeLine ∧ SrcIt prog w A s s₂ I n P ∧
      (∀ C c i v s₃ E' n₀, i < n → P i v → s₃.heap.IsCell c (some v) → Kp s.heap s₃.heap → n₀ ≤ s₃.heap.objs.size → wpAny (model prog w) A (eval elt (compEnvC scope ((x, c) :: cl) C env)) (fun y s₄ => F n₀ i s₄.heap y ∧ Keeps s₃ s₄) E' s₃) ∧
      (∀ n₀ D h' tk ys, s.heap.get? D = none → h'.IsList D ys → Pair2 (fun i y => F n₀ i h' y) (List.range n) ys.toList → Kp s.heap h' → D < n₀ → Q (.ref D) { s with heap := h', toks := tk })) E s₁) E s)
    (hs : ∀ x, foldedSetIterable iter env x = pure x := by intro _; rfl) :
    wpAny (model prog w) A (eval (.ListComp elt [⟨.Name x px, iter, [], 0⟩] scope pos) env) Q E s := by
  rw [eval_ListComp]
  refine wpAny_comprehension_free (use := none) rfl hs hclos hkind hnames (wpAny_mono h (fun xv s₁ h₁ => wpAny_mono h₁ (fun it s₂ h₂ => ?_) fun _ _ e => e) fun _ _ e => e)
  obtain ⟨I, n, P, rfl, hsz, S, B, hQ⟩ := h₂
  obtain ⟨fp, St, h₂, tk₂, W, st, hfp, rfl, k₂, hI⟩ := S
  have up : ∀ b, h₂.get? b = none → s.heap.get? b = none := fun b e => by
    cases q : s.heap.get? b with
    | none => rfl
    | some o => rw [k₂ _ _ q] at e; cases e
  have hk : ∀ h' : Heap, (∀ b o, b ∉ [I] → h₂.get? b = some o → h'.get? b = some o) → Kp s.heap h' := fun h' q b o e => q b o (fun hm => by rw [List.mem_singleton.mp hm, hI] at e; cases e) (k₂ b o e)
  refine comp_blockC (RR := fun acc C => compPost (model prog w) A E none Q acc C) W hsz (F (h₂.objs.size + 3)) (fun i h h' y => hF _ i h h' y) hone hpc hkind hx st hfp (fun C c i v s₃ E' hi hp hc q hz => B C c i v s₃ E' _ hi hp hc (hk _ q) hz) ?_
  intro D C h' tk m' ys hD hC hDC hn hl hP hk' hD2 hC2
  refine ⟨m', hn, fun h'' hs'' => hQ (h₂.objs.size + 3) D h'' tk ys (up D hD) (hl.extBut hs''.extBut hDC) (hP.mono fun i y f => hF _ i _ _ y f fun b o hb e => hs''.extBut b o (fun q => absurd (q ▸ hb) (Nat.not_le.mpr hC2)) e)
    (fun b o e => hs''.extBut b o (by rintro rfl; rw [up _ hC] at e; cases e) (hk _ hk' b o e)) hD2⟩
end
end Mine
end

section
open PySem PySem.W PySem.Calls PyProof.Rows PySem.Spec
set_option maxRecDepth 100000
namespace Mine
theorem InCallC.but {s₀ s : Shared} {L C : Addr} {m cm : Str → Option Value} {cs : List (Str × Addr)} {h' : Heap} (x : InCallC s₀ L m cs cm s) (hs : Heap.SameBut C s.heap h') (hL : L ≠ C) (hC : s₀.heap.get? C = none) (hc : ∀ n c, cs.lookup n = some c → c ≠ C) :
    InCallC s₀ L m cs cm { s with heap := h' } := by
  obtain ⟨h₁, tk₁, e⟩ := x.toInCall.same
  refine ⟨⟨⟨h', tk₁, ?_⟩, x.toInCall.ns.sameBut hs hL, fun b o e => hs.extBut b o (by rintro rfl; rw [hC] at e; cases e) (x.toInCall.keep b o e), x.toInCall.fresh⟩, fun n c h => (x.cell n c h).sameBut hs (hc n c h), x.apart, x.above⟩
  subst e; rfl
section
variable {prog : Program} {w : World} {A : Around} {E : Value → Shared → Prop} {env : Env} {s : Shared}
/-- a comprehension stored into a local: the store comes ahead of the letting go -/
theorem compA {elt iter : Expr} {x y : Str} {px py : Pos} {ifs : List Expr} {scope : Scope} {cl : List (Str × Addr)} {pos apos : Pos} {Q : Flow → Shared → Prop} (p : Nat → Bool) (F : Nat → Nat → Heap → Value → Prop) (hF : Stable F)
    (hclos : closureFor scope env = pure cl) (hcell : ∀ y ∈ scope.names, y.2 ≠ .cell) (hkind : scope.kind = .function)
    (hnames : ∀ y ∈ scope.names, y.2 = .local → scope.names.lookup y.1 = some .local) (hx : scope.names.lookup x = some .local)
    (hsw : swapsWith (.ListComp elt [⟨.Name x px, iter, ifs, 0⟩] scope pos) (some (.Name y py)) apos.line env = pure true)
    (h : wpAny (model prog w) A (eval iter env) (fun xv s₁ => wpAny (model prog w) A (pyIter xv) (fun it s₂ => ∃ I n P, it = .ref I ∧ n ≤ sizeLine ∧ SrcIt prog w A s s₂ I n P ∧ Body prog w A env scope cl x ifs elt n P p F s ∧
      (∀ n₀ D C h' tk ys, s.heap.get? D = none → s.heap.get? C = none → D ≠ C → h'.IsList D ys → Pair2 (fun i y => F n₀ i h' y) ((List.range n).filter p) ys.toList → Kp s.heap h' → D < n₀ → C < n₀ →
        wpAny (model prog w) A (assign (.Name y py) env (.ref D)) (fun _ s'' => (∀ o, h'.get? C = some o → s''.heap.get? C = some o) ∧ ∀ h'', Heap.SameBut C s''.heap h'' → Q .next { s'' with heap := h'' }) E { s with heap := h', toks := tk })) E s₁) E s)
    (hs : ∀ x, foldedSetIterable iter env x = pure x := by intro _; rfl) :
    wpAny (model prog w) A (exec (.Assign [.Name y py] (.ListComp elt [⟨.Name x px, iter, ifs, 0⟩] scope pos) apos) env) Q E s := by
  rw [exec_Assign_Name_used _ _ _ _ hsw]
  refine wpAny_bind (wpAny_standAt (wpAny_bind ?_))
  show wpAny _ A (do let _ ← comprehension (.ListComp elt [⟨.Name x px, iter, ifs, 0⟩] scope pos) scope env _ (newList []) false (eval iter env) (some (assign (.Name y py) env))) _ _ s
  refine wpAny_bind (wpAny_mono (wpAny_comprehension_free (use := some (assign (.Name y py) env)) (Q := fun _ s' => Q .next s') rfl hs hclos hkind hnames
    (wpAny_mono h (fun xv s₁ h₁ => wpAny_mono h₁ (fun it s₂ h₂ => ?_) fun _ _ e => e) fun _ _ e => e)) (fun _ s' hq => wpAny_pure (wpAny_pure hq)) fun _ _ e => e)
  obtain ⟨I, n, P, rfl, hsz, S, B, hQ⟩ := h₂
  have hq := B.quiet S
  obtain ⟨fp, St, h₂, tk₂, W, st, hfp, rfl, k₂, hI⟩ := S
  have up : ∀ b, h₂.get? b = none → s.heap.get? b = none := fun b e => by
    cases q : s.heap.get? b with
    | none => rfl
    | some o => rw [k₂ _ _ q] at e; cases e
  refine comp_block (RR := fun acc C => compPost (model prog w) A E (some (assign (.Name y py) env)) (fun _ s' => Q .next s') acc C) W hsz p (F (h₂.objs.size + 2)) (fun i h h' y => hF _ i h h' y) hcell hkind hx st hfp hq ?_
  intro D C h' tk m' ys _ hD hC hDC hn hl hP hk hD2 hC2
  show wpAny _ A (assign (.Name y py) env (.ref D)) _ _ _
  refine wpAny_mono (hQ (h₂.objs.size + 2) D C h' tk ys (up D hD) (up C hC) hDC hl hP (fun b o e => hk b o (fun hm => by rw [List.mem_singleton.mp hm, hI] at e; cases e) (k₂ b o e)) hD2 hC2) (fun _ s'' hq => ?_) fun _ _ e => e
  exact ⟨m', hn.at' hq.1, hq.2⟩
end
end Mine
end

section
open PySem PySem.W PySem.Calls PyProof.Rows PySem.Spec
set_option maxRecDepth 100000
namespace Mine
/-- a letter of a word: great or not, the k-th -/
def letter (b : Bool) (k : Nat) : Str := Txt.item (if b then Str.ofString "RGB" else Str.ofString "rgb") (k : Int)
def wordOf (b : Nat → Bool) : Str := Txt.join (Str.ofString "") [letter (b 0) 0, letter (b 1) 1, letter (b 2) 2]
section
variable {w : World} {A : Around} {E : Value → Shared → Prop} {s : Shared} {Q : Value → Shared → Prop}
theorem div_named {a b : Int} {t u : Tok} {H : UInt64} (hA : A.handled = none) (hb : b ≠ 0) (hH : Float64.ofFrac (decide (a < 0) != decide (b < 0)) a.natAbs b.natAbs = H) (hi : Float64.isInf H = false)
    (h : Q (.float H s.toks) { s with toks := s.toks + 1 }) : wpAny (model PW w) A (binaryOp .Div (.int a t) (.int b u)) Q E s := by
  subst hH
  exact PySem.Flt.div_ii hA (fun e => absurd e hb) (fun _ e => nof hi e) (fun _ _ => h)
/-- an item of a tuple by a written place -/
theorem tup_item {value slice : Expr} {r : Addr} {l : List Value} {k : Int} {u : Tok} {j : Nat} {x : Value} (ht : IsTup s.heap r l.toArray)
    (hlo : -(2 ^ 63) ≤ k) (hhi : k < 2 ^ 63) (hj : seqIndex? k l.length = some j) (hx : l[j]? = some x) (h : Q x s)
    (hs : subscripted slice false (.ref r) (.int k u) = operate [.ref r, .int k u] (getItem (.ref r) (.int k u)) := by with_unfolding_all rfl) :
    wpAny (model PW w) A (subscriptTail value slice (.ref r) (.int k u)) Q E s := item_tupleT ht hlo hhi hj hx h hs
set_option maxHeartbeats 4000000 in
theorem word_call {c o : Int} {H S V x y z M mm : UInt64} {t1 t2 t3 t4 : Tok} {b : Nat → Bool} (W : Wd w s.heap) (hh : A.handled = none) (hroom : A.depth + 1 < recursionLimit)
    (hH : Float64.ofFrac (decide (48 + 8 * c + o < 0) != decide ((48 : Int) < 0)) (48 + 8 * c + o).natAbs (48 : Int).natAbs = H) (hHi : Float64.isInf H = false)
    (hv : hsvF H S V = some (x, y, z)) (hM : mx x y z = M) (hm : mn x y z = mm) (hok : hlsOk M mm = true)
    (b0 : (Float64.cmp x (Float64.div (Float64.add M mm) 4611686018427387904) == some .gt) = b 0) (b1 : (Float64.cmp y (Float64.div (Float64.add M mm) 4611686018427387904) == some .gt) = b 1) (b2 : (Float64.cmp z (Float64.div (Float64.add M mm) 4611686018427387904) == some .gt) = b 2)
    (h : ∀ h' tk' t, Kp s.heap h' → Q (.str (wordOf b) t) { s with heap := h', toks := tk' }) :
    wpAny (model PW w) A (call (.ref 226) [.int c t1, .int o t2, .float S t3, .float V t4]) Q E s := by
  refine' call_pureC (binds := [(Str.ofString "place", .int c t1), (Str.ofString "off", .int o t2), (Str.ofString "share", .float S t3), (Str.ofString "level", .float V t4)]) W.X W.lim (Nat.lt_of_succ_lt hroom) ?ho ?hcd ?hb ?hl ?c2 ?c3 ?c4 ?_
  case ho => k_dflt k_is
  case hcd => k_dflt k_is
  case hb => exact rfl
  case hl => exact kindsX rfl _
  case c2 => exact rfl
  case c3 => exact rfl
  case c4 => exact rfl
  intro s₁ X₁
  have W₁ : Wd w s₁.heap := W.kp X₁.toInCall.keep
  refine wpAny_execs_cons (wpAny_Assign_Name (Call_ (nmGe W₁ (by k_dflt k_is) (callWith_K W₁.X (by k_dflt k_is) (args_cons (wpAny_BinOp (wpAny_BinOp (wpAny_BinOp (wpAny_Constant_int (wpAny_BinOp (wpAny_Constant_int (nmL (X₁.tok _) rfl (PyProof.Rows.mul_int (PyProof.Rows.add_int (nmL (X₁.tok _) rfl (PyProof.Rows.add_int (wpAny_Constant_int (div_named hh (by decide) hH hHi ?_))))) (IntMulOk.of_left (by decide +kernel)))))))))))))))
  refine args_cons (nmL (X₁.tok _) rfl (args_cons (nmL (X₁.tok _) rfl (args_nil ⟨W₁.X, ?_⟩))))
  refine hsv_call W₁ hh hroom hv fun r h₂ tk₂ tx ty tz k₂ tup => ?_
  have X₂ := InCallC.kp (tk := tk₂) X₁ k₂
  refine stC X₂ rfl fun h₃ tk₃ X₃ q₃ _ => ?_
  have tup₃ := q₃.tup tup
  have W₃ : Wd w h₃ := W.kp X₃.toInCall.keep
  clear X₁ X₂ tup q₃ k₂
  refine gen_state X₃ fun s₃ Y₃ e₃ => ?_
  clear X₃
  have e₃ : h₃ = s₃.heap := e₃
  subst e₃
  refine wpAny_execs_cons (Assign_Tuple (Call_ (nmGe W₃ (by k_dflt k_is) (callWith_K W₃.X (by k_dflt k_is) (args_cons (Subscript_ (nmC Y₃ rfl rfl (wpAny_Constant_int (tup_item (l := [_, _, _]) (j := 0) tup₃ (by decide) (by decide) rfl rfl ?_)))))))))
  refine args_cons (Subscript_ (nmC (Y₃.tok _) rfl rfl (wpAny_Constant_int (tup_item (l := [_, _, _]) (j := 1) tup₃ (by decide) (by decide) rfl rfl ?_))))
  refine args_cons (Subscript_ (nmC (Y₃.tok _) rfl rfl (wpAny_Constant_int (tup_item (l := [_, _, _]) (j := 2) tup₃ (by decide) (by decide) rfl rfl ?_))))
  refine args_nil ⟨W₃.X, ?_⟩
  refine hls_call W₃ hh hroom hM hm hok fun r₄ h₄ tk₄ x₄ z₄ tx₄ ty₄ tz₄ k₄ tup₄ => ?_
  have X₄ := InCallC.kp (tk := tk₄) Y₃ k₄
  have tup₅ := (Ks.of k₄).tup tup₃
  clear Y₃ tup₃ W₃
  refine gen_state X₄ fun s₄ Y₄ e₄ => ?_
  clear X₄
  have e₄ : h₄ = s₄.heap := e₄
  subst e₄
  refine PyProof.Rows.assign_Tuple_tuple hh tup₄ rfl rfl fun h₅ e₅ => ?_
  have k₅ : Kp s₄.heap h₅ := fun b o e => e₅ b o (Nat.ne_of_lt (Heap.lt_size e)) e
  have X₅ := InCallC.kp (tk := s₄.toks) Y₄ k₅
  refine assignInOrder_cons (wpAny_assign_Name (stL X₅ fun h₆ tk₆ X₆ q₆ _ => assignInOrder_cons (wpAny_assign_Name (stC X₆ rfl fun h₇ tk₇ X₇ q₇ _ => assignInOrder_cons (wpAny_assign_Name (stL X₇ fun h₈ tk₈ X₈ q₈ _ => assignInOrder_nil ?_))))))
  have tup₈ := ((((Ks.of k₅).trans q₆).trans q₇).trans q₈).tup tup₅
  have W₈ : Wd w h₈ := W.kp X₈.toInCall.keep
  clear Y₄ X₅ X₆ X₇ tup₄ tup₅ k₄ k₅ e₅ q₆ q₇ q₈
  refine gen_state X₈ fun s₈ Y₈ e₈ => ?_
  clear X₈
  have e₈ : h₈ = s₈.heap := e₈
  subst e₈
  refine wpAny_execs_cons (wpAny_Return_some (MethodCall_ (wpAny_Constant_str (PySem.GM.join (PyProof.Rows.callWith_method1 (args_cons ?_))))))
  have hc1 : s₈.heap.IsCell _ (some (.ref r)) := Y₈.cell (Str.ofString "parts") _ rfl
  have hc2 : s₈.heap.IsCell _ (some (.float (Float64.div (Float64.add M mm) 4611686018427387904) ty₄)) := Y₈.cell (Str.ofString "light") _ rfl
  refine compE (fun _ => true) (fun _ i _ y => ∃ t, y = .str (letter (b i) i) t) (fun _ _ _ _ _ f _ => f) rfl (by decide) rfl (by decide) rfl (Call_ (nmBe W₈ (by k_dflt k_is) PyProof.Rows.boot_range (Pv.callWith_type1 (args_cons (wpAny_Constant_int (args_nil (iter_range1 (n := 3) hh (by decide) (by decide) fun I s₂ S => ⟨I, 3, _, rfl, by rw [sizeLine_eq]; decide, S.of rfl Kp.rfl, ?_, ?_⟩)))))))
  · refine ⟨fun C i v s₃ m₃ E' hi hP hn hm k => wpAny_tests_nil ⟨rfl, Keeps.self _⟩, fun C i v s₃ m₃ E' n₀ hi hP _ hn hm k hz => ?_⟩
    obtain ⟨t, rfl⟩ := hP
    have hi3 : i = 0 ∨ i = 1 ∨ i = 2 := by omega
    rcases hi3 with rfl | rfl | rfl
    · refine IfExp_ (wpAny_isTrue_Compare1 (Subscript_ (nmF (by rfl) (hc1.keeps k) (nmX hn hm (tup_item (l := [_, _, _]) (j := 0) ((Ks.of k).tup tup₈) (by decide) (by decide) rfl rfl (nmF (by rfl) (hc2.keeps k) (PySem.AutoFloatOps.gt_0 (wpAny_truthy_bool (ite_both (fun q => ?_) (fun q => ?_))))))))))
      · refine Subscript_ (wpAny_Constant_str (nmX (m := m₃) hn hm (PyProof.Rows.item_str (by decide) (by decide +kernel) (by decide +kernel) (fun _ => ⟨⟨_, congrArg (fun z => Value.str z _) ?_⟩, Keeps.tok _ _⟩))))
        rw [← b0, q]; rfl
      · refine Subscript_ (wpAny_Constant_str (nmX (m := m₃) hn hm (PyProof.Rows.item_str (by decide) (by decide +kernel) (by decide +kernel) (fun _ => ⟨⟨_, congrArg (fun z => Value.str z _) ?_⟩, Keeps.tok _ _⟩))))
        rw [← b0, q]; rfl
    · refine IfExp_ (wpAny_isTrue_Compare1 (Subscript_ (nmF (by rfl) (hc1.keeps k) (nmX hn hm (tup_item (l := [_, _, _]) (j := 1) ((Ks.of k).tup tup₈) (by decide) (by decide) rfl rfl (nmF (by rfl) (hc2.keeps k) (PySem.AutoFloatOps.gt_0 (wpAny_truthy_bool (ite_both (fun q => ?_) (fun q => ?_))))))))))
      · refine Subscript_ (wpAny_Constant_str (nmX (m := m₃) hn hm (PyProof.Rows.item_str (by decide) (by decide +kernel) (by decide +kernel) (fun _ => ⟨⟨_, congrArg (fun z => Value.str z _) ?_⟩, Keeps.tok _ _⟩))))
        rw [← b1, q]; rfl
      · refine Subscript_ (wpAny_Constant_str (nmX (m := m₃) hn hm (PyProof.Rows.item_str (by decide) (by decide +kernel) (by decide +kernel) (fun _ => ⟨⟨_, congrArg (fun z => Value.str z _) ?_⟩, Keeps.tok _ _⟩))))
        rw [← b1, q]; rfl
    · refine IfExp_ (wpAny_isTrue_Compare1 (Subscript_ (nmF (by rfl) (hc1.keeps k) (nmX hn hm (tup_item (l := [_, _, _]) (j := 2) ((Ks.of k).tup tup₈) (by decide) (by decide) rfl rfl (nmF (by rfl) (hc2.keeps k) (PySem.AutoFloatOps.gt_0 (wpAny_truthy_bool (ite_both (fun q => ?_) (fun q => ?_))))))))))
      · refine Subscript_ (wpAny_Constant_str (nmX (m := m₃) hn hm (PyProof.Rows.item_str (by decide) (by decide +kernel) (by decide +kernel) (fun _ => ⟨⟨_, congrArg (fun z => Value.str z _) ?_⟩, Keeps.tok _ _⟩))))
        rw [← b2, q]; rfl
      · refine Subscript_ (wpAny_Constant_str (nmX (m := m₃) hn hm (PyProof.Rows.item_str (by decide) (by decide +kernel) (by decide +kernel) (fun _ => ⟨⟨_, congrArg (fun z => Value.str z _) ?_⟩, Keeps.tok _ _⟩))))
        rw [← b2, q]; rfl
  · intro n₀ D h' tk ys hD hl hp k hDn
    obtain ⟨a0, a1, a2, hys⟩ : ∃ a0 a1 a2, ys.toList = [.str (letter (b 0) 0) a0, .str (letter (b 1) 1) a1, .str (letter (b 2) 2) a2] := by
      have e : (List.range 3).filter (fun _ => true) = [0, 1, 2] := by decide
      rw [e] at hp
      generalize ys.toList = l at hp
      cases hp with
      | cons h0 r0 => cases r0 with
        | cons h1 r1 => cases r1 with
          | cons h2 r2 => cases r2 with
            | nil =>
              obtain ⟨t0, rfl⟩ := h0
              obtain ⟨t1, rfl⟩ := h1
              obtain ⟨t2, rfl⟩ := h2
              exact ⟨t0, t1, t2, rfl⟩
    have hL : h'.IsList D (strValues [(letter (b 0) 0, a0), (letter (b 1) 1, a1), (letter (b 2) 2, a2)]).toArray := by
      have : ys = (strValues [(letter (b 0) 0, a0), (letter (b 1) 1, a1), (letter (b 2) 2, a2)]).toArray := by
        apply Array.ext'
        rw [hys]
        rfl
      rw [← this]; exact hl
    refine args_nil (PySem.SC.join (texts := [letter (b 0) 0, letter (b 1) 1, letter (b 2) 2]) hL rfl ?_ ?_)
    · cases b 0 <;> cases b 1 <;> cases b 2 <;> decide +kernel
    · intro t' k'
      obtain ⟨h₉, tk₉, rfl⟩ := Y₈.toInCall.same
      refine h h' k' t' (fun b o e => k b o (Y₈.toInCall.keep b o e))
end
end Mine
end

section
open PySem PySem.W PySem.Calls PyProof.Rows PySem.Spec
set_option maxRecDepth 100000
namespace Mine
def subC (x y : Str) : Int := if (x == y) = true then 0 else if (Txt.lower x == Txt.lower y) = true then 1 else 2
section
variable {w : World} {A : Around} {E : Value → Shared → Prop} {s : Shared} {Q : Value → Shared → Prop}
set_option maxHeartbeats 4000000 in
theorem sub_call {x y : Str} {t u : Tok} (W : Wd w s.heap) (hroom : A.depth < recursionLimit) (hx : x.length ≤ 1) (hy : y.length ≤ 1)
    (h : ∀ h' tk' t, Kp s.heap h' → Q (.int (subC x y) t) { s with heap := h', toks := tk' }) :
    wpAny (model PW w) A (call (.ref 207) [.str x t, .str y u]) Q E s := by
  refine' call_pure (binds := [(Str.ofString "ch_a", .str x t), (Str.ofString "ch_b", .str y u)]) W.X W.lim hroom ?ho ?hcd ?hb ?hl ?c1 ?c2 ?c3 ?c4 ?_
  case ho => k_dflt k_is
  case hcd => k_dflt k_is
  case hb => exact BindsTo.of_eq rfl
  case hl => exact locs rfl
  case c2 => exact rfl
  case c3 => exact rfl
  case c4 => exact rfl
  case c1 => decide
  intro h₁ F
  refine wpAny_execs_cons (wpAny_If (wpAny_isTrue_Compare1 (ld F rfl (ld F rfl (PyProof.Rows.eq_str (wpAny_truthy_bool (ite_both (fun q => ?_) (fun q => wpAny_execs_nil ?_))))))))
  · refine wpAny_execs_cons (wpAny_Return_some (wpAny_Constant_int ?_))
    have e : subC x y = 0 := by unfold subC; rw [if_pos q]
    rw [e] at h
    exact h _ _ _ F.keep
  · refine wpAny_execs_cons (wpAny_If (wpAny_isTrue_Compare1 (MethodCall_ (ld F rfl (PySem.GM.lower (PyProof.Rows.callWith_method0 (PyProof.Rows.SCL.lower (by omega) fun _ => MethodCall_ (ld F rfl (PySem.GM.lower (PyProof.Rows.callWith_method0 (PyProof.Rows.SCL.lower (by omega) fun _ => PyProof.Rows.eq_str (wpAny_truthy_bool (ite_both (fun q' => ?_) (fun q' => wpAny_execs_nil ?_)))))))))))))) 
    · refine wpAny_execs_cons (wpAny_Return_some (nmG F W (by k_dflt k_is) ?_))
      have e : subC x y = 1 := by unfold subC; rw [if_neg (by rw [q]; exact Bool.false_ne_true), if_pos q']
      rw [e] at h
      exact h _ _ _ F.keep
    · refine wpAny_execs_cons (wpAny_Return_some (nmG F W (by k_dflt k_is) ?_))
      have e : subC x y = 2 := by unfold subC; rw [if_neg (by rw [q]; exact Bool.false_ne_true), if_neg (by rw [q']; exact Bool.false_ne_true)]
      rw [e] at h
      exact h _ _ _ F.keep
end
end Mine
end

section
open PySem PySem.W PySem.Calls PyProof.Rows PySem.Spec
set_option maxRecDepth 100000
namespace Mine
/-- does the loop over the common head go on: none where a reading is not sure -/
def cndPre (a b : Str) (k : Int) : Option Bool :=
  if (Txt.slice a (some k) none).length = 0 then some false else if (Txt.slice b (some k) none).length = 0 then some false
  else if -(a.length : Int) ≤ k ∧ k < a.length ∧ -(b.length : Int) ≤ k ∧ k < b.length ∧ fitsSsize k = true then some (Txt.item a k == Txt.item b k) else none
def opt0 (k : Int) : Option Int := if k = 0 then none else some k
def cndPost (a b : Str) (k : Int) : Option Bool :=
  if (Txt.slice a none (opt0 k)).length = 0 then some false else if (Txt.slice b none (opt0 k)).length = 0 then some false
  else if -(a.length : Int) ≤ k - 1 ∧ k - 1 < a.length ∧ -(b.length : Int) ≤ k - 1 ∧ k - 1 < b.length ∧ fitsSsize (k - 1) = true then some (Txt.item a (k - 1) == Txt.item b (k - 1)) else none
def preStop (a b : Str) : Nat → Int → Option Int
  | 0, _ => none
  | f + 1, k => match cndPre a b k with
    | some true => preStop a b f (k + 1)
    | some false => some k
    | none => none
def postStop (a b : Str) : Nat → Int → Option Int
  | 0, _ => none
  | f + 1, k => match cndPost a b k with
    | some true => postStop a b f (k - 1)
    | some false => some k
    | none => none
section
variable {w : World} {A : Around} {E : Value → Shared → Prop} {s : Shared} {g : Heap} {L fa : Addr} {cn : Str} {cs : Scope} {cd : Value} {m : Str → Option Value}
theorem fitL {x : Str} (h : x.length ≤ 3) : x.length ≤ sizeLine := by rw [sizeLine_eq]; omega
theorem sl_from {Q : Value → Shared → Prop} {v i : Str} {p1 p2 p3 p4 : Pos} {X : Str} {tX ti : Tok} {k : Int} (F : Fr g L s.heap m) (hv : m v = some (.str X tX)) (hi : m i = some (.int k ti)) (lX : X.length ≤ 3)
    (h : ∀ h' t' k', Fr g L h' m → Q (.str (Txt.slice X (some k) none) t') { s with heap := h', toks := k' })
    (hk : cs.kind = .function) (hlv : (envOf cn cs L fa cd).kindOf v = some .local) (hli : (envOf cn cs L fa cd).kindOf i = some .local) (hdv : (v == ("__debug__" : Str)) = false) (hdi : (i == ("__debug__" : Str)) = false) :
    wpAny (model PW w) A (eval (.Subscript (.Name v p1) (.Slice (some (.Name i p2)) none none p3) p4) (envOf cn cs L fa cd)) Q E s :=
  Subscript_ (ld F hv (wpAny_Slice (evalPart_some_step (ld F hi (evalPart_none_step (evalPart_none_step (PyProof.Rows.slice_str_sn F h (hsz := fitL lX)))) hk hli hdi))) hk hlv hdv)
theorem sl_to {Q : Value → Shared → Prop} {v i : Str} {p1 p2 p3 p4 p5 p6 : Pos} {cz : Nat} {X : Str} {tX ti : Tok} {k : Int} (F : Fr g L s.heap m) (hv : m v = some (.str X tX)) (hi : m i = some (.int k ti)) (lX : X.length ≤ 3)
    (h : ∀ h' t' k', Fr g L h' m → Q (.str (Txt.slice X none (opt0 k)) t') { s with heap := h', toks := k' })
    (hk : cs.kind = .function) (hlv : (envOf cn cs L fa cd).kindOf v = some .local) (hli : (envOf cn cs L fa cd).kindOf i = some .local) (hdv : (v == ("__debug__" : Str)) = false) (hdi : (i == ("__debug__" : Str)) = false) :
    wpAny (model PW w) A (eval (.Subscript (.Name v p1) (.Slice none (some (.BoolOp .Or [.Name i p2, .Constant .none cz p5] p6)) none p3) p4) (envOf cn cs L fa cd)) Q E s := by
  refine Subscript_ (ld F hv (wpAny_Slice (evalPart_none_step (evalPart_some_step (PyProof.Rows.BoolOp_or (ld F hi (PyProof.Rows.truthy_int (ite_both (fun q => ?_) (fun q => ?_))) hk hli hdi))))) hk hlv hdv)
  · have e : opt0 k = some k := by unfold opt0; rw [if_neg (by simpa using q)]
    rw [e] at h
    exact evalPart_none_step (PyProof.Rows.slice_str_ns F h (hsz := fitL lX))
  · have e : opt0 k = none := by unfold opt0; rw [if_pos (by simpa using q)]
    rw [e] at h
    exact PyProof.Rows.BoolOp_one (PyProof.Rows.Constant_none (evalPart_none_step (PyProof.Rows.slice_str_nn F h (hsz := fitL lX))))
end
end Mine
end

section
open PySem PySem.W PySem.Calls PyProof.Rows PySem.Spec
set_option maxRecDepth 100000
namespace Mine
section
variable {w : World} {A : Around} {E : Value → Shared → Prop} {s : Shared} {g : Heap} {L fa : Addr} {cn : Str} {cs : Scope} {cd : Value} {m : Str → Option Value}
/-- the names that the head of lev reads -/
structure LvK (cn : Str) (cs : Scope) (L fa : Addr) (cd : Value) : Prop where
  k : cs.kind = .function
  a : (envOf cn cs L fa cd).kindOf "a" = some .local
  b : (envOf cn cs L fa cd).kindOf "b" = some .local
  pre : (envOf cn cs L fa cd).kindOf "pre" = some .local
  post : (envOf cn cs L fa cd).kindOf "post" = some .local
theorem len63 {x : Str} (h : x.length ≤ 3) : (x.length : Int) < 9223372036854775808 := by omega
theorem nz {x : Str} (h : ¬ x.length = 0) : ((x.length : Int) != 0) = true := by
  rw [bne_iff_ne]; omega
theorem zz {x : Str} (h : x.length = 0) : ((x.length : Int) != 0) = false := by
  rw [h]; rfl
variable {a b : Str} {ta tb tp : Tok} {k : Int} {whole : Sem Value} {Q : Bool → Shared → Prop}
theorem test_pre {c : Bool} {p1 p2 p3 p4 q1 q2 q3 q4 r1 r2 r3 r4 r5 r6 r7 r8 : Pos} (Kn : LvK cn cs L fa cd) (F : Fr g L s.heap m) (ha : m "a" = some (.str a ta)) (hb : m "b" = some (.str b tb)) (hp : m "pre" = some (.int k tp)) (la : a.length ≤ 3) (lb : b.length ≤ 3)
    (hc : cndPre a b k = some c) (h : ∀ h' tk', Fr g L h' m → Q c { s with heap := h', toks := tk' }) :
    wpAny (model PW w) A (isTrue (.BoolOp .And [.Subscript (.Name "a" p1) (.Slice (some (.Name "pre" p2)) none none p3) p4, .Subscript (.Name "b" q1) (.Slice (some (.Name "pre" q2)) none none q3) q4,
      .Compare (.Subscript (.Name "a" r1) (.Name "pre" r2) r3) [.Eq] [.Subscript (.Name "b" r4) (.Name "pre" r5) r6] r7] r8) (envOf cn cs L fa cd) whole) Q E s := by
  unfold cndPre at hc
  have ea := Txt.slice_le a (some k) none
  have eb := Txt.slice_le b (some k) none
  refine PyProof.Rows.isTrue_and (PyProof.Rows.isTrue_plain (sl_from F ha hp la (fun h₁ t₁ k₁ F₁ => PyProof.Rows.SBL.truthy (by omega) ?_) Kn.k Kn.a Kn.pre (by decide) (by decide)))
  by_cases za : (Txt.slice a (some k) none).length = 0
  · rw [if_pos za] at hc
    cases hc
    exact ite_negB (zz za) (h _ _ F₁)
  rw [if_neg za] at hc
  refine ite_posB (nz za) (PyProof.Rows.isTrue_and (PyProof.Rows.isTrue_plain (sl_from F₁ hb hp lb (fun h₂ t₂ k₂ F₂ => PyProof.Rows.SBL.truthy (by omega) ?_) Kn.k Kn.b Kn.pre (by decide) (by decide))))
  by_cases zb : (Txt.slice b (some k) none).length = 0
  · rw [if_pos zb] at hc
    cases hc
    exact ite_negB (zz zb) (h _ _ F₂)
  rw [if_neg zb] at hc
  split at hc
  case isFalse => cases hc
  case isTrue hg =>
  obtain ⟨g1, g2, g3, g4, g5⟩ := hg
  have hc := Option.some.inj hc
  refine ite_posB (nz zb) (PyProof.Rows.isTrue_and (wpAny_isTrue_Compare1 (Subscript_ (ld F₂ ha (ld F₂ hp (PyProof.Rows.item_str g5 g1 g2 fun _ => Subscript_ (ld F₂ hb (ld F₂ hp (PyProof.Rows.item_str g5 g3 g4 fun _ => PyProof.Rows.eq_str (wpAny_truthy_bool ?_)) Kn.k Kn.pre) Kn.k Kn.b)) Kn.k Kn.pre) Kn.k Kn.a))))
  refine ite_both (fun q => PyProof.Rows.isTrue_and_nil ?_) (fun q => ?_)
  · rw [q] at hc; rw [hc]; exact h _ _ F₂
  · rw [q] at hc; rw [hc]; exact h _ _ F₂
set_option maxHeartbeats 4000000 in
theorem test_post {c : Bool} {p1 p2 p3 p4 p5 p6 q1 q2 q3 q4 q5 q6 r1 r2 r3 r4 r5 r6 r7 r8 r9 u1 u2 u3 : Pos} {z1 z2 z3 z4 : Nat} (Kn : LvK cn cs L fa cd) (F : Fr g L s.heap m) (ha : m "a" = some (.str a ta)) (hb : m "b" = some (.str b tb)) (hp : m "post" = some (.int k tp)) (la : a.length ≤ 3) (lb : b.length ≤ 3)
    (hc : cndPost a b k = some c) (h : ∀ h' tk', Fr g L h' m → Q c { s with heap := h', toks := tk' }) :
    wpAny (model PW w) A (isTrue (.BoolOp .And [.Subscript (.Name "a" p1) (.Slice none (some (.BoolOp .Or [.Name "post" p2, .Constant .none z1 p5] p6)) none p3) p4, .Subscript (.Name "b" q1) (.Slice none (some (.BoolOp .Or [.Name "post" q2, .Constant .none z2 q5] q6)) none q3) q4,
      .Compare (.Subscript (.Name "a" r1) (.BinOp (.Name "post" r2) .Sub (.Constant (.int 1) z3 u1) u2) r3) [.Eq] [.Subscript (.Name "b" r4) (.BinOp (.Name "post" r5) .Sub (.Constant (.int 1) z4 r9) u3) r6] r7] r8) (envOf cn cs L fa cd) whole) Q E s := by
  unfold cndPost at hc
  have ea := Txt.slice_le a none (opt0 k)
  have eb := Txt.slice_le b none (opt0 k)
  refine PyProof.Rows.isTrue_and (PyProof.Rows.isTrue_plain (sl_to F ha hp la (fun h₁ t₁ k₁ F₁ => PyProof.Rows.SBL.truthy (by omega) ?_) Kn.k Kn.a Kn.post (by decide) (by decide)))
  by_cases za : (Txt.slice a none (opt0 k)).length = 0
  · rw [if_pos za] at hc
    cases hc
    exact ite_negB (zz za) (h _ _ F₁)
  rw [if_neg za] at hc
  refine ite_posB (nz za) (PyProof.Rows.isTrue_and (PyProof.Rows.isTrue_plain (sl_to F₁ hb hp lb (fun h₂ t₂ k₂ F₂ => PyProof.Rows.SBL.truthy (by omega) ?_) Kn.k Kn.b Kn.post (by decide) (by decide))))
  by_cases zb : (Txt.slice b none (opt0 k)).length = 0
  · rw [if_pos zb] at hc
    cases hc
    exact ite_negB (zz zb) (h _ _ F₂)
  rw [if_neg zb] at hc
  split at hc
  case isFalse => cases hc
  case isTrue hg =>
  obtain ⟨g1, g2, g3, g4, g5⟩ := hg
  have hc := Option.some.inj hc
  refine ite_posB (nz zb) (PyProof.Rows.isTrue_and (wpAny_isTrue_Compare1 (Subscript_ (ld F₂ ha (wpAny_BinOp (ld F₂ hp (wpAny_Constant_int (PyProof.Rows.sub_int (PyProof.Rows.item_str g5 g1 g2 fun _ => Subscript_ (ld F₂ hb (wpAny_BinOp (ld F₂ hp (wpAny_Constant_int (PyProof.Rows.sub_int (PyProof.Rows.item_str g5 g3 g4 fun _ => PyProof.Rows.eq_str (wpAny_truthy_bool ?_)))) Kn.k Kn.post)) Kn.k Kn.b)))) Kn.k Kn.post)) Kn.k Kn.a))))
  refine ite_both (fun q => PyProof.Rows.isTrue_and_nil ?_) (fun q => ?_)
  · rw [q] at hc; rw [hc]; exact h _ _ F₂
  · rw [q] at hc; rw [hc]; exact h _ _ F₂
end
end Mine
end

section
open PySem PySem.W PySem.Calls PyProof.Rows PySem.Spec
set_option maxRecDepth 100000
namespace Mine
abbrev upd (m : Str → Option Value) (x : Str) (v : Value) : Str → Option Value := fun y => if y = x then some v else m y
theorem upd_upd (m : Str → Option Value) (x : Str) (v v' : Value) : upd (upd m x v) x v' = upd m x v' := by
  funext y
  unfold upd
  by_cases h : y = x
  · rw [if_pos h, if_pos h]
  · rw [if_neg h, if_neg h, if_neg h]
theorem upd_self (m : Str → Option Value) (x : Str) (v : Value) : upd m x v x = some v := if_pos rfl
theorem upd_ne {m : Str → Option Value} {x y : Str} {v : Value} (h : y ≠ x) : upd m x v y = m y := if_neg h
theorem fr_upd {g h : Heap} {L : Addr} {m : Str → Option Value} {x : Str} {v v' : Value} (F : Fr g L h (fun y => if y = x then some v' else upd m x v y)) : Fr g L h (upd m x v') := by
  rw [← upd_upd m x v v']; exact F
section
variable {w : World} {A : Around} {s : Shared} {g : Heap} {L fa : Addr} {cn : Str} {cs : Scope} {cd : Value} {m : Str → Option Value}
variable {a b : Str} {ta tb : Tok} {Q : Flow → Shared → Prop}
abbrev NoE : Value → Shared → Prop := fun _ _ => False
theorem noE_passes {M : Model} {env : Env} : PassesOwn M A env NoE := fun _ _ h => h.elim
theorem while_pre {k' : Int} {p1 p2 p3 p4 q1 q2 q3 q4 r1 r2 r3 r4 r5 r6 r7 r8 x1 x2 x3 : Pos} {z : Nat} (Kn : LvK cn cs L fa cd) (ha : m "a" = some (.str a ta)) (hb : m "b" = some (.str b tb)) (la : a.length ≤ 3) (lb : b.length ≤ 3) :
    ∀ (f : Nat) (k : Int) (t : Tok) (s : Shared), Fr g L s.heap (upd m "pre" (.int k t)) → preStop a b f k = some k' → (∀ h' tk' t', Fr g L h' (upd m "pre" (.int k' t')) → Q .next { s with heap := h', toks := tk' }) →
      WhlRest PW w A NoE (envOf cn cs L fa cd) (.BoolOp .And [.Subscript (.Name "a" p1) (.Slice (some (.Name "pre" p2)) none none p3) p4, .Subscript (.Name "b" q1) (.Slice (some (.Name "pre" q2)) none none q3) q4,
        .Compare (.Subscript (.Name "a" r1) (.Name "pre" r2) r3) [.Eq] [.Subscript (.Name "b" r4) (.Name "pre" r5) r6] r7] r8) [.AugAssign (.Name "pre" x1) .Add (.Constant (.int 1) z x2) x3] [] Q f s
  | 0, _, _, _, _, h, _ => by cases h
  | f + 1, k, t, s, F, h, hQ => by
    unfold preStop at h
    refine whl_turn noE_passes ?_
    cases hc : cndPre a b k with
    | none => rw [hc] at h; cases h
    | some c =>
      rw [hc] at h
      refine test_pre Kn F ((upd_ne (by decide)).trans ha) ((upd_ne (by decide)).trans hb) (upd_self _ _ _) la lb hc fun h₁ tk₁ F₁ => ?_
      cases c with
      | false =>
        cases h
        exact WhlIf.no rfl (wpAny_execs_nil (hQ _ _ _ F₁))
      | true =>
        refine WhlIf.yes rfl (wpAny_execs_cons (wpAny_AugAssign_Name (ldn F₁ (upd_self _ _ _) (wpAny_Constant_int (PyProof.Rows.iadd_int (st F₁ (fun h₂ F₂ => wpAny_execs_nil ?_) Kn.k Kn.pre))) Kn.k Kn.pre)))
        have F₂ := fr_upd F₂
        exact while_pre Kn ha hb la lb f (k + 1) _ _ F₂ h hQ
theorem while_post {k' : Int} {p1 p2 p3 p4 p5 p6 q1 q2 q3 q4 q5 q6 r1 r2 r3 r4 r5 r6 r7 r8 r9 u1 u2 u3 x1 x2 x3 : Pos} {z z1 z2 z3 z4 : Nat} (Kn : LvK cn cs L fa cd) (ha : m "a" = some (.str a ta)) (hb : m "b" = some (.str b tb)) (la : a.length ≤ 3) (lb : b.length ≤ 3) :
    ∀ (f : Nat) (k : Int) (t : Tok) (s : Shared), Fr g L s.heap (upd m "post" (.int k t)) → postStop a b f k = some k' → (∀ h' tk' t', Fr g L h' (upd m "post" (.int k' t')) → Q .next { s with heap := h', toks := tk' }) →
      WhlRest PW w A NoE (envOf cn cs L fa cd) (.BoolOp .And [.Subscript (.Name "a" p1) (.Slice none (some (.BoolOp .Or [.Name "post" p2, .Constant .none z1 p5] p6)) none p3) p4, .Subscript (.Name "b" q1) (.Slice none (some (.BoolOp .Or [.Name "post" q2, .Constant .none z2 q5] q6)) none q3) q4,
      .Compare (.Subscript (.Name "a" r1) (.BinOp (.Name "post" r2) .Sub (.Constant (.int 1) z3 u1) u2) r3) [.Eq] [.Subscript (.Name "b" r4) (.BinOp (.Name "post" r5) .Sub (.Constant (.int 1) z4 r9) u3) r6] r7] r8) [.AugAssign (.Name "post" x1) .Sub (.Constant (.int 1) z x2) x3] [] Q f s
  | 0, _, _, _, _, h, _ => by cases h
  | f + 1, k, t, s, F, h, hQ => by
    unfold postStop at h
    refine whl_turn noE_passes ?_
    cases hc : cndPost a b k with
    | none => rw [hc] at h; cases h
    | some c =>
      rw [hc] at h
      refine test_post Kn F ((upd_ne (by decide)).trans ha) ((upd_ne (by decide)).trans hb) (upd_self _ _ _) la lb hc fun h₁ tk₁ F₁ => ?_
      cases c with
      | false =>
        cases h
        exact WhlIf.no rfl (wpAny_execs_nil (hQ _ _ _ F₁))
      | true =>
        refine WhlIf.yes rfl (wpAny_execs_cons (wpAny_AugAssign_Name (ldn F₁ (upd_self _ _ _) (wpAny_Constant_int (PyProof.Rows.isub_int (st F₁ (fun h₂ F₂ => wpAny_execs_nil ?_) Kn.k Kn.post))) Kn.k Kn.post)))
        have F₂ := fr_upd F₂
        exact while_post Kn ha hb la lb f (k - 1) _ _ F₂ h hQ
end
end Mine
end

section
open PySem PySem.W PySem.Calls PyProof.Rows PySem.Spec
set_option maxRecDepth 100000
namespace Mine
section
variable {prog : Program} {w : World} {A : Around} {E : Value → Shared → Prop} {s : Shared} {env : Env} {h₀ : Heap} {x : Str} {body : List Stmt} {Q : Flow → Shared → Prop}
theorem rr_of (J : Nat → (Str → Option Value) → List (Addr × Obj) → Prop) {n : Nat} {I : Addr} {a : Int}
    (turn : ∀ i m news t h tk, i < n → J i m news → Fr h₀ env.locals h (fun y => if y = x then some (.int (a + (i : Int)) t) else m y) → News h₀ env.locals h ((I, itR (a + ((i + 1 : Nat) : Int)) ((n : Int) - ((i + 1 : Nat) : Int))) :: news) →
      wpAny (model prog w) A (execs body env) (UnrPost h₀ env.locals { s with heap := h, toks := tk } I (itR (a + ((i + 1 : Nat) : Int)) ((n : Int) - ((i + 1 : Nat) : Int))) (J (i + 1)) Q) E { s with heap := h, toks := tk })
    (done : ∀ m news h tk, J n m news → Fr h₀ env.locals h m → News h₀ env.locals h news → Q .next { s with heap := h, toks := tk }) :
    ∀ k i m news, i + k = n → J i m news → RangeRest prog w A E h₀ env x body Q s I a n k i m news
  | 0, i, m, news, e, hJ => fun h tk F N => done m news h tk (by have q : i = n := (by omega); rw [← q]; exact hJ) F N
  | k + 1, i, m, news, e, hJ => fun t h tk F N => wpAny_mono (turn i m news t h tk (by omega) hJ F N) (fun f s₂ p => by
      have go : UnrEnd h₀ env.locals { s with heap := h, toks := tk } I (itR (a + ((i + 1 : Nat) : Int)) ((n : Int) - ((i + 1 : Nat) : Int))) (J (i + 1)) s₂ →
          UnrEnd h₀ env.locals { s with heap := h, toks := tk } I (itR (a + ((i + 1 : Nat) : Int)) ((n : Int) - ((i + 1 : Nat) : Int))) (RangeRest prog w A E h₀ env x body Q s I a n k (i + 1)) s₂ := by
        rintro ⟨h', tk', m', news', e', F', N', off, r⟩
        exact ⟨h', tk', m', news', e', F', N', off, rr_of J turn done k (i + 1) m' news' (by omega) r⟩
      cases f with
      | ret v => exact p
      | brk => exact p
      | next => exact go p
      | cont => exact go p) fun _ _ e => e
end
/-- a list's object -/
def LO (o : Obj) (vs : List Value) : Prop := o.cls = .type "list" ∧ ∃ n, o.data = .seq vs.toArray n
theorem IntsAre.set {vs : List Value} {ns : List Int} (h : IntsAre vs ns) (i : Nat) (k : Int) (t : Tok) : IntsAre (vs.set i (.int k t)) (ns.set i k) := by
  induction h generalizing i with
  | nil => exact .nil
  | cons n t' _ ih => cases i with
    | zero => exact .cons _ _ (by assumption)
    | succ i => exact .cons _ _ (ih i)
/-- the table's row, the number above left, the last result, the least so far -/
structure DP where
  row : List Int
  dist : Int
  res : Int
  mini : Int
def stepI (bc a : Str) (i : Nat) (d : DP) : DP :=
  let sub := d.dist + subC bc (Txt.item a (0 + (i : Int)))
  let up := d.row.getD i 0
  let ins := (if up < d.res then up else d.res) + 2
  let r := if sub < ins then sub else ins
  ⟨d.row.set i r, up, r, if r < d.mini then r else d.mini⟩
def innerN (bc a : Str) : Nat → DP → DP
  | 0, d => d
  | i + 1, d => stepI bc a i (innerN bc a i d)
def startO (j : Nat) (row : List Int) : DP := ⟨row, (0 + (j : Int)) * 2, (0 + (j : Int)) * 2, 9223372036854775807⟩
def outerN (a b : Str) (n : Nat) : Nat → Option (List Int × Int)
  | 0 => some (rangeInts 2 2 n, 0)
  | j + 1 => match outerN a b n j with
    | some (row, _) => if (innerN (Txt.item b (0 + (j : Int))) a n (startO j row)).mini ≤ 3 then some ((innerN (Txt.item b (0 + (j : Int))) a n (startO j row)).row, (innerN (Txt.item b (0 + (j : Int))) a n (startO j row)).res) else none
    | none => none
theorem innerN_len (bc a : Str) (d : DP) : ∀ i, (innerN bc a i d).row.length = d.row.length
  | 0 => rfl
  | i + 1 => by
    show ((innerN bc a i d).row.set i _).length = _
    rw [List.length_set]; exact innerN_len bc a d i
end Mine
end

section
open PySem PySem.W PySem.Calls PyProof.Rows PySem.Spec
set_option maxRecDepth 100000
namespace Mine
section
variable {w : World} {A : Around} {E : Value → Shared → Prop} {s : Shared} {Q : Value → Shared → Prop}
theorem lev_same {a : Str} {t1 t2 t3 : Tok} (W : Wd w s.heap) (hroom : A.depth < recursionLimit)
    (h : ∀ h' tk' t, Kp s.heap h' → Q (.int 0 t) { s with heap := h', toks := tk' }) :
    wpAny (model PW w) A (call (.ref 214) [.str a t1, .str a t2, .int 3 t3]) Q E s := by
  refine' call_pure (binds := [(Str.ofString "a", .str a t1), (Str.ofString "b", .str a t2), (Str.ofString "max_cost", .int 3 t3)]) W.X W.lim hroom ?ho ?hcd ?hb ?hl ?c1 ?c2 ?c3 ?c4 ?_
  case ho => k_dflt k_is
  case hcd => k_dflt k_is
  case hb => exact BindsTo.of_eq rfl
  case hl => exact locs rfl
  case c2 => exact rfl
  case c3 => exact rfl
  case c4 => exact rfl
  case c1 => decide
  intro h₁ F
  refine wpAny_execs_cons (wpAny_If (wpAny_isTrue_Compare1 (ld F rfl (ld F rfl (PyProof.Rows.eq_str (wpAny_truthy_bool (ite_posB (by exact beq_self_eq_true a) ?_)))))))
  exact wpAny_execs_cons (wpAny_Return_some (wpAny_Constant_int (h _ _ _ F.keep)))
end
end Mine
end

section
open PySem PySem.W PySem.Calls PyProof.Rows PySem.Spec
set_option maxRecDepth 100000
namespace Mine
theorem LO.at {h : Heap} {l : Addr} {o : Obj} {vs : List Value} (e : h.get? l = some o) (x : LO o vs) : h.IsList l vs.toArray := ⟨o, e, x.1, x.2⟩
theorem LO.of {h : Heap} {l : Addr} {vs : Array Value} (x : h.IsList l vs) : ∃ o, h.get? l = some o ∧ LO o vs.toList := by
  obtain ⟨o, e, c, n, d⟩ := x
  exact ⟨o, e, c, n, by simpa using d⟩
theorem outerN_some {a b : Str} {n : Nat} : ∀ {N : Nat} {r : List Int × Int}, outerN a b n N = some r → ∀ j, j ≤ N → ∃ r', outerN a b n j = some r'
  | 0, r, h, j, hj => by
    have : j = 0 := by omega
    subst this
    exact ⟨r, h⟩
  | N + 1, r, h, j, hj => by
    by_cases e : j = N + 1
    · subst e; exact ⟨r, h⟩
    · unfold outerN at h
      cases q : outerN a b n N with
      | none => rw [q] at h; cases h
      | some r' => exact outerN_some q j (by omega)
theorem set_iv {vs : List Value} {ns : List Int} (h : IntsAre vs ns) (i : Nat) (r : Int) (t : Tok) : IntsAre (vs.toArray.setIfInBounds ((0 : Int) + (i : Int)).toNat (.int r t)).toList (ns.set i r) := by
  have hni : ((0 : Int) + (i : Int)).toNat = i := by omega
  rw [hni]
  simpa using Mine.IntsAre.set h i r t
theorem mini_yes {x : Option Value} {r c : Int} {t : Tok} (h : x = some (.int r t)) (hc : decide (r < c) = true) : ∃ t, x = some (.int (if r < c then r else c) t) := ⟨t, by rw [if_pos (of_decide_eq_true hc)]; exact h⟩
theorem mini_no {x : Option Value} {r c : Int} {t : Tok} (h : x = some (.int c t)) (hc : decide (r < c) = false) : ∃ t, x = some (.int (if r < c then r else c) t) := ⟨t, by rw [if_neg (of_decide_eq_false hc)]; exact h⟩
/-- what the turn of the inner loop reads and turns -/
structure MI (a bc : Str) (l : Addr) (d : DP) (m : Str → Option Value) : Prop where
  a : ∃ t, m "a" = some (.str a t)
  bchar : ∃ t, m "bchar" = some (.str bc t)
  row : m "row" = some (.ref l)
  dist : ∃ t, m "distance" = some (.int d.dist t)
  res : ∃ t, m "result" = some (.int d.res t)
  mini : ∃ t, m "minimum" = some (.int d.mini t)
section
variable {w : World} {A : Around} {E : Value → Shared → Prop} {s : Shared} {Q : Flow → Shared → Prop} {g : Heap} {L fa : Addr} {cn : Str} {cs : Scope} {cd : Value} {m : Str → Option Value}
structure LvI (cn : Str) (cs : Scope) (L fa : Addr) (cd : Value) : Prop where
  k : cs.kind = .function
  a : (envOf cn cs L fa cd).kindOf "a" = some .local
  bchar : (envOf cn cs L fa cd).kindOf "bchar" = some .local
  row : (envOf cn cs L fa cd).kindOf "row" = some .local
  dist : (envOf cn cs L fa cd).kindOf "distance" = some .local
  res : (envOf cn cs L fa cd).kindOf "result" = some .local
  mini : (envOf cn cs L fa cd).kindOf "minimum" = some .local
  index : (envOf cn cs L fa cd).kindOf "index" = some .local
  sub : (envOf cn cs L fa cd).kindOf "substitute" = some .local
  ins : (envOf cn cs L fa cd).kindOf "insert_delete" = some .local
  sc : (envOf cn cs L fa cd).kindOf "_substitution_cost" = some .globalImplicit
  mv : (envOf cn cs L fa cd).kindOf "_MOVE_COST" = some .globalImplicit
  mn : (envOf cn cs L fa cd).kindOf "min" = some .globalImplicit
set_option maxHeartbeats 4000000 in
theorem turn_inner {a bc : Str} {l I : Addr} {d : DP} {i : Nat} {t : Tok} {o itI : Obj} {vs : List Value} {extra : List (Addr × Obj)} {keep : (Str → Option Value) → Prop}
    {p1 p2 p3 p4 p5 p6 p7 p8 p9 q1 q2 q3 q4 q5 q6 q7 q8 q9 r1 r2 r3 r4 r5 r6 r7 r8 r9 u1 u2 u3 u4 u5 u6 u7 u8 u9 v1 v2 v3 v4 v5 : Pos}
    (Kn : LvI cn cs L fa cd) (W : Wd w g) (hh : A.handled = none) (hroom : A.depth < recursionLimit)
    (hkeep : ∀ m x v, x ∈ [Str.ofString "index", Str.ofString "substitute", Str.ofString "distance", Str.ofString "insert_delete", Str.ofString "result", Str.ofString "minimum"] → keep m → keep (upd m x v))
    (F : Fr g L s.heap (upd m "index" (.int (0 + (i : Int)) t))) (N : News g L s.heap ((I, itI) :: (l, o) :: extra)) (hlI : l ≠ I) (hex : ∀ p ∈ extra, p.1 ≠ l ∧ p.1 ≠ I) (lo : LO o vs) (iv : IntsAre vs d.row)
    (hi : i < a.length) (hr : i < d.row.length) (la : a.length ≤ 3) (lbc : bc.length ≤ 1) (M : MI a bc l d m) (hk : keep m)
    (h : ∀ h' tk' m' o' vs', Fr g L h' m' → News g L h' ((I, itI) :: (l, o') :: extra) → LO o' vs' → IntsAre vs' (stepI bc a i d).row → MI a bc l (stepI bc a i d) m' → keep m' → Q .next { s with heap := h', toks := tk' }) :
    wpAny (model PW w) A (execs [
      .Assign [.Name "substitute" p1] (.BinOp (.Name "distance" p2) .Add (.Call (.Name "_substitution_cost" p3) [.Name "bchar" p4, .Subscript (.Name "a" p5) (.Name "index" p6) p7] [] p8) p9) q1,
      .Assign [.Name "distance" q2] (.Subscript (.Name "row" q3) (.Name "index" q4) q5) q6,
      .Assign [.Name "insert_delete" q7] (.BinOp (.Call (.Name "min" q8) [.Name "result" q9, .Name "distance" r1] [] r2) .Add (.Name "_MOVE_COST" r3) r4) r5,
      .Assign [.Name "result" r6] (.Call (.Name "min" r7) [.Name "insert_delete" r8, .Name "substitute" r9] [] u1) u2,
      .Assign [.Subscript (.Name "row" u3) (.Name "index" u4) u5] (.Name "result" u6) u7,
      .If (.Compare (.Name "result" u8) [.Lt] [.Name "minimum" u9] v1) [.Assign [.Name "minimum" v2] (.Name "result" v3) v4] [] v5] (envOf cn cs L fa cd)) Q E s := by
  obtain ⟨⟨_, ma⟩, ⟨_, mb⟩, mr, ⟨_, md⟩, ⟨_, me⟩, ⟨_, mm⟩⟩ := M
  have hi1 : -(a.length : Int) ≤ 0 + (i : Int) := by omega
  have hi2 : 0 + (i : Int) < a.length := by omega
  have hfit : fitsSsize (0 + (i : Int)) = true := by
    have : i = 0 ∨ i = 1 ∨ i = 2 := by omega
    rcases this with rfl | rfl | rfl <;> decide
  have W₀ : Wd w s.heap := W.kp F.keep
  refine wpAny_execs_cons (wpAny_Assign_Name (wpAny_BinOp (ld F md (Call_ (nmG F W (by k_dflt k_is) (callWith_K W₀.X (by k_dflt k_is) (args_cons (ld F mb (args_cons (Subscript_ (ld F ma (ld F (upd_self _ _ _) (PyProof.Rows.item_str hfit hi1 hi2 fun _ => args_nil ⟨W₀.X, ?_⟩) Kn.k Kn.index) Kn.k Kn.a))) Kn.k Kn.bchar))) Kn.k Kn.sc)) Kn.k Kn.dist)))
  refine sub_call W₀ hroom lbc (Nat.le_refl _) fun h₁ tk₁ t₁ k₁ => PyProof.Rows.add_int (stN (F.grownK k₁) (N.grown k₁) (fun h₂ F₂ N₂ => ?_) Kn.k Kn.sub)
  clear F N k₁ W₀
  have hL₂ := LO.at (N₂ _ (.tail _ (.head _))).1 lo
  have hu : d.row[i]? = some (d.row.getD i 0) := by rw [List.getD_eq_getElem?_getD, List.getElem?_eq_getElem hr]; rfl
  obtain ⟨tu, hvu⟩ := iv.get i _ hu
  have h0i : (0 : Int) ≤ 0 + (i : Int) := by omega
  have hf63 : 0 + (i : Int) < 2 ^ 63 := by omega
  have hni : (0 + (i : Int)).toNat = i := by omega
  have hxu : vs.toArray[(0 + (i : Int)).toNat]? = some (.int (d.row.getD i 0) tu) := by rw [hni, List.getElem?_toArray]; exact hvu
  refine wpAny_execs_cons (wpAny_Assign_Name (Subscript_ (ld F₂ mr (ld F₂ rfl (tail_any hL₂.typeIs slot_list_getitem.lookup (wpAny_getItem_list hL₂ h0i hf63 hxu ?_) rfl) Kn.k Kn.index) Kn.k Kn.row)))
  refine stN F₂ N₂ (fun h₃ F₃ N₃ => ?_) Kn.k Kn.dist
  clear F₂ N₂ hL₂
  refine wpAny_execs_cons (wpAny_Assign_Name (wpAny_BinOp (Call_ (nmB F₃ W (by k_dflt k_is) PyProof.Rows.boot_min (PyProof.Rows.callWith_builtin1 (args_cons (ld F₃ me (args_cons (ld F₃ rfl (args_nil ?_) Kn.k Kn.dist)) Kn.k Kn.res))) (by decide) Kn.k Kn.mn))))
  refine min_two_N hh F₃ N₃ fun h₄ tk₄ F₄ N₄ => ?_
  clear F₃ N₃
  refine nmG F₄ W (by k_dflt k_is) ?_ Kn.k Kn.mv
  refine PyProof.Rows.add_int (stN F₄ N₄ (fun h₅ F₅ N₅ => ?_) Kn.k Kn.ins)
  clear F₄ N₄
  refine wpAny_execs_cons (wpAny_Assign_Name (Call_ (nmB F₅ W (by k_dflt k_is) PyProof.Rows.boot_min (PyProof.Rows.callWith_builtin1 (args_cons (ld F₅ rfl (args_cons (ld F₅ rfl (args_nil ?_) Kn.k Kn.sub)) Kn.k Kn.ins))) (by decide) Kn.k Kn.mn)))
  refine min_two_N hh F₅ N₅ fun h₆ tk₆ F₆ N₆ => ?_
  clear F₅ N₅
  refine stN F₆ N₆ (fun h₇ F₇ N₇ => ?_) Kn.k Kn.res
  clear F₆ N₆
  have hL₇ := LO.at (N₇ _ (.tail _ (.head _))).1 lo
  have hsz : (0 + (i : Int)) < (vs.toArray.size : Int) := by
    have := iv.length
    simp
    omega
  refine wpAny_execs_cons (wpAny_Assign_Subscript (ld F₇ rfl (ld F₇ mr (ld F₇ rfl (wpAny_setItem_list hL₇ h0i hf63 hsz fun h₈ hl₈ hs₈ => ?_) Kn.k Kn.index) Kn.k Kn.row) Kn.k Kn.res))
  have F₈ := F₇.change hs₈ (N₇ _ (.tail _ (.head _))).2.1 (N₇ _ (.tail _ (.head _))).2.2
  obtain ⟨o', ho', lo'⟩ := LO.of hl₈
  have N₈ := N₇.setSecond hlI.symm (fun p hp => (hex p hp).1) hs₈ ho'
  clear F₇ N₇ hL₇ hl₈ hs₈
  refine wpAny_execs_cons (wpAny_If (wpAny_isTrue_Compare1 (ld F₈ rfl (ld F₈ mm (PyProof.Rows.lt_int (wpAny_truthy_bool (ite_both (fun hc => ?_) (fun hc => ?_)))) Kn.k Kn.mini) Kn.k Kn.res)))
  · refine wpAny_execs_cons (wpAny_Assign_Name (ld F₈ rfl (stN F₈ N₈ (fun h₉ F₉ N₉ => wpAny_execs_nil (wpAny_execs_nil ?_)) Kn.k Kn.mini) Kn.k Kn.res))
    refine h h₉ _ _ o' _ F₉ N₉ lo' (set_iv iv i _ _) ⟨⟨_, ma⟩, ⟨_, mb⟩, mr, ⟨_, rfl⟩, ⟨_, rfl⟩, mini_yes rfl hc⟩ ?_
    exact hkeep _ _ _ (by decide) (hkeep _ _ _ (by decide) (hkeep _ _ _ (by decide) (hkeep _ _ _ (by decide) (hkeep _ _ _ (by decide) (hkeep _ _ _ (by decide) hk)))))
  · refine wpAny_execs_nil (wpAny_execs_nil ?_)
    refine h h₈ _ _ o' _ F₈ N₈ lo' (set_iv iv i _ _) ⟨⟨_, ma⟩, ⟨_, mb⟩, mr, ⟨_, rfl⟩, ⟨_, rfl⟩, mini_no mm hc⟩ ?_
    exact hkeep _ _ _ (by decide) (hkeep _ _ _ (by decide) (hkeep _ _ _ (by decide) (hkeep _ _ _ (by decide) (hkeep _ _ _ (by decide) hk))))
end
end Mine
end

section
open PySem PySem.W PySem.Calls PyProof.Rows PySem.Spec
set_option maxRecDepth 100000
namespace Mine
/-- what the turn of the outer loop reads and turns -/
structure MO (a b : Str) (l : Addr) (res : Int) (m : Str → Option Value) : Prop where
  a : ∃ t, m "a" = some (.str a t)
  b : ∃ t, m "b" = some (.str b t)
  row : m "row" = some (.ref l)
  mc : ∃ t, m "max_cost" = some (.int 3 t)
  res : ∃ t, m "result" = some (.int res t)
structure LvO (cn : Str) (cs : Scope) (L fa : Addr) (cd : Value) : Prop where
  i : LvI cn cs L fa cd
  b : (envOf cn cs L fa cd).kindOf "b" = some .local
  bindex : (envOf cn cs L fa cd).kindOf "bindex" = some .local
  mc : (envOf cn cs L fa cd).kindOf "max_cost" = some .local
  len : (envOf cn cs L fa cd).kindOf "len" = some .globalImplicit
  range : (envOf cn cs L fa cd).kindOf "range" = some .globalImplicit
section
variable {w : World} {A : Around} {E : Value → Shared → Prop} {s : Shared} {g : Heap} {L fa : Addr} {cn : Str} {cs : Scope} {cd : Value} {m : Str → Option Value}
theorem lenS {Q : Value → Shared → Prop} {a : Str} {t : Tok} {x : Str} {p q r : Pos} (F : Fr g L s.heap m) (W : Wd w g) (hx : m x = some (.str a t)) (la : a.length ≤ 3)
    (h : Q (.int a.length (s.toks + 1)) { s with toks := s.toks + 1 + 1 }) (hk : cs.kind = .function := by rfl) (hl : (envOf cn cs L fa cd).kindOf x = some .local := by rfl) (hn : (envOf cn cs L fa cd).kindOf "len" = some .globalImplicit := by rfl) (hdb : (x == ("__debug__" : Str)) = false := by decide) :
    wpAny (model PW w) A (eval (.Call (.Name "len" p) [.Name x q] [] r) (envOf cn cs L fa cd)) Q E s :=
  Call_ (nmB F W (by k_dflt k_is) PySem.boot_len (PyProof.Rows.callWith_builtin1 (args_cons (ld F hx (args_nil (PyProof.Rows.SBL.len (len63 la) h)) hk hl hdb))) (by decide) hk hn)
theorem range_n {x : Str} {n : Nat} (e : x.length = n) (h : n ≤ 3) : Builtin.Range.rangeSize 0 (x.length : Int) 1 = (n : Int) ∧ Builtin.Range.small 0 (x.length : Int) 1 = true := by
  rw [e]
  have : n = 0 ∨ n = 1 ∨ n = 2 ∨ n = 3 := by omega
  rcases this with rfl | rfl | rfl | rfl <;> decide
theorem News.nil (g : Heap) (L : Addr) (h : Heap) : News g L h [] := fun _ hp => nomatch hp
set_option maxHeartbeats 4000000 in
theorem turn_outer {Q : Flow → Shared → Prop} {a b : Str} {l I : Addr} {n j : Nat} {row : List Int} {res : Int} {t : Tok} {o itI : Obj} {vs : List Value} {d : DP}
    {p1 p2 p3 p4 p5 p6 p7 p8 p9 q1 q2 q3 q4 q5 q6 q7 q8 q9 r1 r2 r3 r4 r5 r6 r7 r8 r9 u1 u2 u3 u4 u5 u6 u7 u8 u9 v1 v2 v3 v4 v5 v6 v7 w1 w2 w3 w4 w5 w6 w7 w8 w9 x1 x2 x3 x4 x5 x6 x7 x8 x9 y1 y2 y3 y4 y5 y6 y7 y8 y9 : Pos} {z1 z2 : Nat}
    (Kn : LvO cn cs L fa cd) (W : Wd w g) (hh : A.handled = none) (hroom : A.depth < recursionLimit) (hE : PassesOwn (model PW w) A (envOf cn cs L fa cd) E)
    (F : Fr g L s.heap (upd m "bindex" (.int (0 + (j : Int)) t))) (N : News g L s.heap ((I, itI) :: (l, o) :: [])) (hlI : l ≠ I) (lo : LO o vs) (iv : IntsAre vs row)
    (hr : row.length = n) (na : a.length = n) (hn : n ≤ 3) (hj : j < b.length) (lb : b.length ≤ 3) (M : MO a b l res m) (hd : innerN (Txt.item b (0 + (j : Int))) a n (startO j row) = d) (hm : d.mini ≤ 3)
    (h : ∀ h' tk' m' o' vs', Fr g L h' m' → News g L h' ((I, itI) :: (l, o') :: []) → LO o' vs' → IntsAre vs' d.row → MO a b l d.res m' → Q .next { s with heap := h', toks := tk' }) :
    wpAny (model PW w) A (execs [
      .Assign [.Name "bchar" p1] (.Subscript (.Name "b" p2) (.Name "bindex" p3) p4) p5,
      .Assign [.Name "distance" p6, .Name "result" p7] (.BinOp (.Name "bindex" p8) .Mult (.Name "_MOVE_COST" p9) w1) w2,
      .Assign [.Name "minimum" w3] (.Constant (.int 9223372036854775807) z1 w4) w5,
      .For (.Name "index" w6) (.Call (.Name "range" w7) [.Call (.Name "len" w8) [.Name "a" w9] [] x1] [] x2) [
      .Assign [.Name "substitute" x3] (.BinOp (.Name "distance" x4) .Add (.Call (.Name "_substitution_cost" x5) [.Name "bchar" x6, .Subscript (.Name "a" x7) (.Name "index" x8) x9] [] y1) y2) q1,
      .Assign [.Name "distance" q2] (.Subscript (.Name "row" q3) (.Name "index" q4) q5) q6,
      .Assign [.Name "insert_delete" q7] (.BinOp (.Call (.Name "min" q8) [.Name "result" q9, .Name "distance" r1] [] r2) .Add (.Name "_MOVE_COST" r3) r4) r5,
      .Assign [.Name "result" r6] (.Call (.Name "min" r7) [.Name "insert_delete" r8, .Name "substitute" r9] [] u1) u2,
      .Assign [.Subscript (.Name "row" u3) (.Name "index" u4) u5] (.Name "result" u6) u7,
      .If (.Compare (.Name "result" u8) [.Lt] [.Name "minimum" u9] v1) [.Assign [.Name "minimum" v2] (.Name "result" v3) v4] [] v5] [] y3,
      .If (.Compare (.Name "minimum" y4) [.Gt] [.Name "max_cost" y5] y6) [.Return (some (.BinOp (.Name "max_cost" y7) .Add (.Constant (.int 1) z2 y8) y9)) v6] [] v7] (envOf cn cs L fa cd)) Q E s := by
  obtain ⟨⟨_, ma⟩, ⟨_, mb⟩, mr, ⟨_, mc⟩, ⟨_, me⟩⟩ := M
  have hi1 : -(b.length : Int) ≤ 0 + (j : Int) := by omega
  have hi2 : 0 + (j : Int) < b.length := by omega
  have hfit : fitsSsize (0 + (j : Int)) = true := by
    have : j = 0 ∨ j = 1 ∨ j = 2 := by omega
    rcases this with rfl | rfl | rfl <;> decide
  have Ki := Kn.i
  refine wpAny_execs_cons (wpAny_Assign_Name (Subscript_ (ld F mb (ld F (upd_self _ _ _) (PyProof.Rows.item_str hfit hi1 hi2 fun hlb => stN F N (fun h₁ F₁ N₁ => ?_) Ki.k Ki.bchar) Ki.k Kn.bindex) Ki.k Kn.b)))
  clear F N
  refine wpAny_execs_cons (wpAny_Assign_two (wpAny_BinOp (ld F₁ rfl (nmG F₁ W (by k_dflt k_is) ?_ Ki.k Ki.mv) Ki.k Kn.bindex)))
  refine PyProof.Rows.mul_int (wpAny_assign_Name (stN F₁ N₁ (fun h₂ F₂ N₂ => wpAny_assign_Name (stN F₂ N₂ (fun h₃ F₃ N₃ => ?_) Ki.k Ki.res)) Ki.k Ki.dist)) (PySem.IntMulOk.of_right (b := 2) (by decide))
  clear F₁ N₁
  refine wpAny_execs_cons (wpAny_Assign_Name (wpAny_Constant_int (stN F₃ N₃ (fun h₄ F₄ N₄ => ?_) Ki.k Ki.mini)))
  have rn := range_n na hn
  have N₅ : News g L h₄ [(l, o), (I, itI)] := fun p hp => N₄ p (by simpa [or_comm] using hp)
  clear N₄
  have hkm : ∀ (m : Str → Option Value) (x : Str) (v : Value), x ∈ [Str.ofString "index", Str.ofString "substitute", Str.ofString "distance", Str.ofString "insert_delete", Str.ofString "result", Str.ofString "minimum"] →
      ((∃ t, m "b" = some (.str b t)) ∧ ∃ t, m "max_cost" = some (.int 3 t)) → ((∃ t, upd m x v "b" = some (.str b t)) ∧ ∃ t, upd m x v "max_cost" = some (.int 3 t)) := by
    intro m x v hx hm
    have e1 : (Str.ofString "b") ≠ x := by rintro rfl; exact absurd hx (by decide)
    have e2 : (Str.ofString "max_cost") ≠ x := by rintro rfl; exact absurd hx (by decide)
    obtain ⟨⟨t1, h1⟩, t2, h2⟩ := hm
    exact ⟨⟨t1, (upd_ne e1).trans h1⟩, t2, (upd_ne e2).trans h2⟩
  refine wpAny_execs_cons (For_invVF F₄ Ki.index (by show (cs.kind == _ || (cs.kind == _ && _)) = false; rw [Ki.k]; rfl) (Call_ (nmB F₄ W (by k_dflt k_is) PyProof.Rows.boot_range (Pv.callWith_type1 (args_cons (lenS F₄ W ma (by omega) (args_nil ?_) Ki.k Ki.a Kn.len))) (by decide) Ki.k Kn.range)) (fun _ => rfl) hE)
  refine call_range_1 (iter_rangeUnr hh (Heap.get?_push_size _ rfl) rn.2 rn.1 (F₄.push _) (N₅.grown fun b o e => Heap.get?_push_of_some _ e) fun I₁ hI₁ => ?_)
  refine rr_of (J := fun i m news => ∃ o' vs', news = [(l, o'), (I, itI)] ∧ LO o' vs' ∧ IntsAre vs' (innerN (Txt.item b (0 + (j : Int))) a i (startO j row)).row ∧ MI a (Txt.item b (0 + (j : Int))) l (innerN (Txt.item b (0 + (j : Int))) a i (startO j row)) m ∧ ((∃ t, m "b" = some (.str b t)) ∧ ∃ t, m "max_cost" = some (.int 3 t)))
    ?turn ?done n 0 _ _ (Nat.zero_add n) ⟨o, vs, rfl, lo, iv, ⟨⟨_, ma⟩, ⟨_, rfl⟩, mr, ⟨_, rfl⟩, ⟨_, rfl⟩, ⟨_, rfl⟩⟩, ⟨⟨_, mb⟩, ⟨_, mc⟩⟩⟩
  case turn =>
    rintro i m₁ _ t₁ h₅ tk₅ hi ⟨o', vs', rfl, lo', iv', MI', hk'⟩ F₅ N₆
    have hlen := innerN_len (Txt.item b (0 + (j : Int))) a (startO j row) i
    refine turn_inner (s := { s with heap := h₅, toks := tk₅ }) (m := m₁) (i := i) (t := t₁) Ki W hh hroom hkm F₅ N₆ ?_ ?_ lo' iv' ?_ ?_ ?_ hlb.2 MI' hk' ?_
    · exact Nat.ne_of_lt (hI₁ _ (.head _))
    · intro p hp
      rcases List.mem_cons.mp hp with rfl | hp
      · exact ⟨hlI.symm, Nat.ne_of_lt (hI₁ _ (.tail _ (.head _)))⟩
      · cases hp
    · omega
    · show i < _
      rw [hlen, show (startO j row).row = row from rfl]; omega
    · omega
    · intro h' tk' m' o'' vs'' F' N' lo'' iv'' M' k'
      have off : ∀ p ∈ [(l, o''), (I, itI)], p.1 ≠ I₁ := by
        intro p hp
        rcases List.mem_cons.mp hp with rfl | hp
        · exact Nat.ne_of_lt (hI₁ (l, o) (.head _))
        · rcases List.mem_cons.mp hp with rfl | hp
          · exact Nat.ne_of_lt (hI₁ _ (.tail _ (.head _)))
          · cases hp
      exact ⟨h', tk', m', _, rfl, F', N', off, o'', vs'', rfl, lo'', iv'', M', k'⟩
  case done =>
    rintro m₁ _ h₅ tk₅ ⟨o', vs', rfl, lo', iv', MI', hk'⟩ F₅ N₆
    rw [hd] at iv' MI'
    obtain ⟨⟨_, ma'⟩, ⟨_, mb'⟩, mr', ⟨_, md'⟩, ⟨_, me'⟩, ⟨_, mm'⟩⟩ := MI'
    obtain ⟨⟨_, mb''⟩, ⟨_, mc''⟩⟩ := hk'
    refine wpAny_execs_cons (wpAny_If (wpAny_isTrue_Compare1 (ld F₅ mm' (ld F₅ mc'' (PyProof.Rows.gt_int (wpAny_truthy_bool (ite_negB (decide_eq_false (by omega)) (wpAny_execs_nil (wpAny_execs_nil ?_))))) Ki.k Kn.mc) Ki.k Ki.mini)))
    exact h h₅ _ m₁ o' vs' F₅ (fun p hp => N₆ p (by simpa [or_comm] using hp)) lo' iv' ⟨⟨_, ma'⟩, ⟨_, mb''⟩, mr', ⟨_, mc''⟩, ⟨_, me'⟩⟩
end
end Mine
end

section
open PySem PySem.W PySem.Calls PyProof.Rows PySem.Spec
set_option maxRecDepth 100000
namespace Mine
theorem row_news {g h : Heap} {L D : Addr} {o : Obj} (ho : h.get? D = some o) (hDL : D ≠ L) (hn : g.get? D = none) : News g L h [(D, o)] := fun p hp => by
  rcases List.mem_cons.mp hp with rfl | hp
  · exact ⟨ho, hDL, hn⟩
  · cases hp
theorem ints_of {ys : List Value} {ns : List Int} (h : CarriedAll ys (ns.map .int)) : IntsAre ys ns := by simpa using CarriedAll.intsOf (f := fun a => a) h
theorem row_start {g h : Heap} {L D : Addr} {vs : List Value} {m : Str → Option Value} {P : Prop} (F : Fr g L h m) (hl : h.IsList D vs.toArray) (hn : g.get? D = none) (k : ∀ o, LO o vs → News g L h [(D, o)] → P) : P := by
  obtain ⟨o, ho, lo⟩ := LO.of hl
  exact k o lo (row_news ho (ne_ns F.ns ho (by obtain ⟨_, n', e⟩ := lo; exact ⟨_, n', e⟩)) hn)
section
variable {w : World} {A : Around} {E : Value → Shared → Prop} {s : Shared} {g : Heap} {L fa : Addr} {cn : Str} {cs : Scope} {cd : Value} {m : Str → Option Value}
set_option maxHeartbeats 4000000 in
theorem lev_end {Q : Flow → Shared → Prop} {a b : Str} {l : Addr} {n : Nat} {row : List Int} {d : Int} {o : Obj} {vs : List Value}
    {p1 p2 p3 p4 p5 p6 p7 p8 p9 q1 q2 q3 q4 q5 q6 q7 q8 q9 r1 r2 r3 r4 r5 r6 r7 r8 r9 u1 u2 u3 u4 u5 u6 u7 u8 u9 v1 v2 v3 v4 v5 v6 v7 w1 w2 w3 w4 w5 w6 w7 w8 w9 x1 x2 x3 x4 x5 x6 x7 x8 x9 y1 y2 y3 y4 y5 y6 y7 y8 y9 k1 k2 k3 k4 k5 k6 k7 k8 k9 : Pos} {z1 z2 : Nat}
    (Kn : LvO cn cs L fa cd) (W : Wd w g) (hh : A.handled = none) (hroom : A.depth < recursionLimit) (hE : PassesOwn (model PW w) A (envOf cn cs L fa cd) E)
    (F : Fr g L s.heap m) (N : News g L s.heap [(l, o)]) (lo : LO o vs) (iv : IntsAre vs (rangeInts 2 2 n))
    (na : a.length = n) (nb : b.length = n) (hn : n ≤ 3) (M : MO a b l 0 m) (hd : outerN a b n n = some (row, d))
    (h : ∀ h' tk' t, Kp g h' → Q (.ret (.int d t)) { s with heap := h', toks := tk' }) :
    wpAny (model PW w) A (execs [
      .For (.Name "bindex" k1) (.Call (.Name "range" k2) [.Call (.Name "len" k3) [.Name "b" k4] [] k5] [] k6) [
      .Assign [.Name "bchar" p1] (.Subscript (.Name "b" p2) (.Name "bindex" p3) p4) p5,
      .Assign [.Name "distance" p6, .Name "result" p7] (.BinOp (.Name "bindex" p8) .Mult (.Name "_MOVE_COST" p9) w1) w2,
      .Assign [.Name "minimum" w3] (.Constant (.int 9223372036854775807) z1 w4) w5,
      .For (.Name "index" w6) (.Call (.Name "range" w7) [.Call (.Name "len" w8) [.Name "a" w9] [] x1] [] x2) [
      .Assign [.Name "substitute" x3] (.BinOp (.Name "distance" x4) .Add (.Call (.Name "_substitution_cost" x5) [.Name "bchar" x6, .Subscript (.Name "a" x7) (.Name "index" x8) x9] [] y1) y2) q1,
      .Assign [.Name "distance" q2] (.Subscript (.Name "row" q3) (.Name "index" q4) q5) q6,
      .Assign [.Name "insert_delete" q7] (.BinOp (.Call (.Name "min" q8) [.Name "result" q9, .Name "distance" r1] [] r2) .Add (.Name "_MOVE_COST" r3) r4) r5,
      .Assign [.Name "result" r6] (.Call (.Name "min" r7) [.Name "insert_delete" r8, .Name "substitute" r9] [] u1) u2,
      .Assign [.Subscript (.Name "row" u3) (.Name "index" u4) u5] (.Name "result" u6) u7,
      .If (.Compare (.Name "result" u8) [.Lt] [.Name "minimum" u9] v1) [.Assign [.Name "minimum" v2] (.Name "result" v3) v4] [] v5] [] y3,
      .If (.Compare (.Name "minimum" y4) [.Gt] [.Name "max_cost" y5] y6) [.Return (some (.BinOp (.Name "max_cost" y7) .Add (.Constant (.int 1) z2 y8) y9)) v6] [] v7] [] k7,
      .Return (some (.Name "result" k8)) k9] (envOf cn cs L fa cd)) Q E s := by
  obtain ⟨⟨_, ma⟩, ⟨_, mb⟩, mr, ⟨_, mc⟩, ⟨_, me⟩⟩ := M
  have Ki := Kn.i
  have rn := range_n nb hn
  refine wpAny_execs_cons (For_invVF F Kn.bindex (by show (cs.kind == _ || (cs.kind == _ && _)) = false; rw [Ki.k]; rfl) (Call_ (nmB F W (by k_dflt k_is) PyProof.Rows.boot_range (Pv.callWith_type1 (args_cons (lenS F W mb (by omega) (args_nil ?_) Ki.k Kn.b Kn.len))) (by decide) Ki.k Kn.range)) (fun _ => rfl) hE)
  refine call_range_1 (iter_rangeUnr hh (Heap.get?_push_size _ rfl) rn.2 rn.1 (F.push _) (N.grown fun b o e => Heap.get?_push_of_some _ e) fun I hI => ?_)
  refine rr_of (J := fun j m news => ∃ o' vs' r, news = [(l, o')] ∧ LO o' vs' ∧ outerN a b n j = some r ∧ IntsAre vs' r.1 ∧ r.1.length = n ∧ MO a b l r.2 m)
    ?turn ?done n 0 _ _ (Nat.zero_add n) ⟨o, vs, _, rfl, lo, rfl, iv, by simp [rangeInts_length], ⟨⟨_, ma⟩, ⟨_, mb⟩, mr, ⟨_, mc⟩, ⟨_, me⟩⟩⟩
  case turn =>
    rintro j m₁ _ t₁ h₅ tk₅ hj ⟨o', vs', r, rfl, lo', hr, iv', hl, MO'⟩ F₅ N₆
    obtain ⟨r', hr'⟩ := outerN_some hd (j + 1) (by omega)
    have hlI : l ≠ I := Nat.ne_of_lt (hI (l, o) (.head _))
    have hr2 := hr'
    unfold outerN at hr2
    rw [hr] at hr2
    obtain ⟨row₁, res₁⟩ := r
    have hr2 : (if (innerN (Txt.item b (0 + (j : Int))) a n (startO j row₁)).mini ≤ 3 then some ((innerN (Txt.item b (0 + (j : Int))) a n (startO j row₁)).row, (innerN (Txt.item b (0 + (j : Int))) a n (startO j row₁)).res) else none) = some r' := hr2
    by_cases hm : (innerN (Txt.item b (0 + (j : Int))) a n (startO j row₁)).mini ≤ 3
    · rw [if_pos hm] at hr2
      have hr2 := Option.some.inj hr2
      refine turn_outer (s := { s with heap := h₅, toks := tk₅ }) (m := m₁) (j := j) (t := t₁) Kn W hh hroom hE F₅ N₆ hlI lo' iv' hl na hn (by omega) (by omega) MO' rfl hm ?_
      intro h' tk' m' o'' vs'' F' N' lo'' iv'' M'
      have off : ∀ p ∈ [(l, o'')], p.1 ≠ I := by
        intro p hp
        rcases List.mem_cons.mp hp with rfl | hp
        · exact hlI
        · cases hp
      refine ⟨h', tk', m', _, rfl, F', N', off, o'', vs'', r', rfl, lo'', hr', ?_, ?_, ?_⟩
      · rw [← hr2]; exact iv''
      · rw [← hr2]; exact (innerN_len _ _ _ _).trans hl
      · rw [← hr2]; exact M'
    · rw [if_neg hm] at hr2; cases hr2
  case done =>
    rintro m₁ _ h₅ tk₅ ⟨o', vs', r, rfl, lo', hr, iv', hl, MO'⟩ F₅ N₆
    rw [hd] at hr
    cases hr
    obtain ⟨⟨_, ma'⟩, ⟨_, mb'⟩, mr', ⟨_, md'⟩, ⟨_, me'⟩⟩ := MO'
    exact wpAny_execs_cons (wpAny_Return_some (ld F₅ me' (h _ _ _ F₅.keep) Ki.k Ki.res))
end
end Mine
end

section
open PySem PySem.W PySem.Calls PyProof.Rows PySem.Spec
set_option maxRecDepth 100000
namespace Mine
section
variable {w : World} {A : Around} {E : Value → Shared → Prop} {s : Shared} {Q : Value → Shared → Prop}
theorem range_row {x : Str} {n : Nat} (e : x.length = n) (h : n ≤ 3) : Builtin.Range.rangeSize 2 (2 * ((x.length : Int) + 1)) 2 = (n : Int) ∧ Builtin.Range.small 2 (2 * ((x.length : Int) + 1)) 2 = true := by
  rw [e]
  have : n = 0 ∨ n = 1 ∨ n = 2 ∨ n = 3 := by omega
  rcases this with rfl | rfl | rfl | rfl <;> decide
set_option maxHeartbeats 8000000 in
theorem lev_call {a b a₁ b₁ a₂ b₂ : Str} {k q d : Int} {n : Nat} {row : List Int} {t1 t2 t3 : Tok} (W : Wd w s.heap) (hh : A.handled = none) (hroom : A.depth + 1 < recursionLimit)
    (hab : (a == b) = false) (la : a.length ≤ 3) (lb : b.length ≤ 3) (hpre : preStop a b 4 0 = some k) (ea : Txt.slice a (some k) none = a₁) (eb : Txt.slice b (some k) none = b₁)
    (hpost : postStop a₁ b₁ 4 0 = some q) (ea₂ : Txt.slice a₁ none (opt0 q) = a₂) (eb₂ : Txt.slice b₁ none (opt0 q) = b₂)
    (na : a₂.length = n) (nb : b₂.length = n) (hn : 1 ≤ n) (hd : outerN a₂ b₂ n n = some (row, d))
    (h : ∀ h' tk' t, Kp s.heap h' → Q (.int d t) { s with heap := h', toks := tk' }) :
    wpAny (model PW w) A (call (.ref 214) [.str a t1, .str b t2, .int 3 t3]) Q E s := by
  have la₁ : a₁.length ≤ 3 := by have := Txt.slice_le a (some k) none; rw [ea] at this; omega
  have lb₁ : b₁.length ≤ 3 := by have := Txt.slice_le b (some k) none; rw [eb] at this; omega
  have la₂ : a₂.length ≤ 3 := by have := Txt.slice_le a₁ none (opt0 q); rw [ea₂] at this; omega
  have lb₂ : b₂.length ≤ 3 := by have := Txt.slice_le b₁ none (opt0 q); rw [eb₂] at this; omega
  subst ea eb ea₂ eb₂
  refine' call_pure (binds := [(Str.ofString "a", .str a t1), (Str.ofString "b", .str b t2), (Str.ofString "max_cost", .int 3 t3)]) W.X W.lim (Nat.lt_of_succ_lt hroom) ?ho ?hcd ?hb ?hl ?c1 ?c2 ?c3 ?c4 ?_
  case ho => k_dflt k_is
  case hcd => k_dflt k_is
  case hb => exact BindsTo.of_eq rfl
  case hl => exact locs rfl
  case c2 => exact rfl
  case c3 => exact rfl
  case c4 => exact rfl
  case c1 => decide
  intro h₁ F
  refine wpAny_execs_cons (wpAny_If (wpAny_isTrue_Compare1 (ld F rfl (ld F rfl (PyProof.Rows.eq_str (wpAny_truthy_bool (ite_negB hab (wpAny_execs_nil ?_))))))))
  refine wpAny_execs_cons (wpAny_Assign_Name (wpAny_Constant_int (st F fun h₂ F₂ => ?_)))
  refine wpAny_execs_cons (whl_start 4 (while_pre (k' := k) ⟨rfl, rfl, rfl, rfl, rfl⟩ rfl rfl la lb 4 0 _ _ F₂ hpre fun h₃ tk₃ t₃ F₃ => ?_))
  clear F F₂
  refine wpAny_execs_cons (wpAny_Assign_Name (sl_from F₃ rfl rfl la (fun h₄ t₄ k₄ F₄ => ?_) rfl rfl rfl (by decide) (by decide)))
  refine st F₄ fun h₅ F₅ => ?_
  clear F₃ F₄
  refine wpAny_execs_cons (wpAny_Assign_Name (sl_from F₅ rfl rfl lb (fun h₆ t₆ k₆ F₆ => ?_) rfl rfl rfl (by decide) (by decide)))
  refine st F₆ fun h₇ F₇ => ?_
  clear F₅ F₆
  refine wpAny_execs_cons (wpAny_Assign_Name (wpAny_Constant_int (st F₇ fun h₈ F₈ => ?_)))
  refine wpAny_execs_cons (whl_start 4 (while_post (k' := q) ⟨rfl, rfl, rfl, rfl, rfl⟩ rfl rfl la₁ lb₁ 4 0 _ _ F₈ hpost fun h₉ tk₉ t₉ F₉ => ?_))
  clear F₇ F₈
  refine wpAny_execs_cons (wpAny_Assign_Name (sl_to F₉ rfl rfl la₁ (fun h₄ t₄ k₄ F₄ => ?_) rfl rfl rfl (by decide) (by decide)))
  refine st F₄ fun h₅ F₅ => ?_
  clear F₉ F₄
  refine wpAny_execs_cons (wpAny_Assign_Name (sl_to F₅ rfl rfl lb₁ (fun h₆ t₆ k₆ F₆ => ?_) rfl rfl rfl (by decide) (by decide)))
  refine st F₆ fun h₇ F₇ => ?_
  clear F₅ F₆
  refine wpAny_execs_cons (wpAny_If (PyProof.Rows.isTrue_or (PyProof.Rows.isTrue_not (PyProof.Rows.isTrue_plain (ld F₇ rfl (PyProof.Rows.SBL.truthy (by omega) ?_))))))
  refine ite_negB (by rw [nz (by omega)]; rfl) (PyProof.Rows.isTrue_or (PyProof.Rows.isTrue_not (PyProof.Rows.isTrue_plain (ld F₇ rfl (PyProof.Rows.SBL.truthy (by omega) ?_)))))
  refine ite_negB (by rw [nz (by omega)]; rfl) (PyProof.Rows.isTrue_or_nil ?_)
  refine wpAny_execs_nil ?_
  refine wpAny_execs_cons (wpAny_If (PyProof.Rows.isTrue_or (wpAny_isTrue_Compare1 (lenS F₇ W rfl la₂ (nmG F₇ W (by k_dflt k_is) (PyProof.Rows.gt_int (wpAny_truthy_bool (ite_negB (decide_eq_false (by omega)) ?_))))))))
  refine PyProof.Rows.isTrue_or (wpAny_isTrue_Compare1 (lenS F₇ W rfl lb₂ (nmG F₇ W (by k_dflt k_is) (PyProof.Rows.gt_int (wpAny_truthy_bool (ite_negB (decide_eq_false (by omega)) (PyProof.Rows.isTrue_or_nil (wpAny_execs_nil ?_))))))))
  refine wpAny_execs_cons (wpAny_If (wpAny_isTrue_Compare1 (lenS F₇ W rfl lb₂ (lenS F₇ W rfl la₂ (PyProof.Rows.lt_int (wpAny_truthy_bool (ite_negB (decide_eq_false (by omega)) (wpAny_execs_nil ?_))))))))
  refine wpAny_execs_cons (wpAny_If (wpAny_isTrue_Compare1 (wpAny_BinOp (wpAny_BinOp (lenS F₇ W rfl lb₂ (lenS F₇ W rfl la₂ (PyProof.Rows.sub_int (nmG F₇ W (by k_dflt k_is) ?_))))))))
  refine PyProof.Rows.mul_int (ld F₇ rfl (PyProof.Rows.gt_int (wpAny_truthy_bool (ite_negB (decide_eq_false (by omega)) (wpAny_execs_nil ?_))))) (PySem.IntMulOk.of_right (b := 2) (by decide))
  refine wpAny_execs_cons (wpAny_Assign_Name (Call_ (nmB F₇ W (by k_dflt k_is) PySem.Pv.boot_list (Pv.callWith_type1 (args_cons (Call_ (nmB F₇ W (by k_dflt k_is) PyProof.Rows.boot_range (Pv.callWith_type1 (args_cons (nmG F₇ W (by k_dflt k_is) (args_cons (wpAny_BinOp (nmG F₇ W (by k_dflt k_is) (wpAny_BinOp (lenS F₇ W rfl la₂ (wpAny_Constant_int (PyProof.Rows.add_int ?_)))))))))))))))))
  refine PyProof.Rows.mul_int (args_cons (nmG F₇ W (by k_dflt k_is) (args_nil ?_))) (PySem.IntMulOk.of_left (a := 2) (by decide))
  refine PySem.call_range_3 (by decide) ?_ (Or.inl (PyProof.noPylong_small (by decide)))
  have rz : Builtin.Range.rangeSize 2 (2 * (((Txt.slice (Txt.slice a (some k) none) none (opt0 q)).length : Int) + 1)) 2 = (n : Int) ∧ Builtin.Range.small 2 (2 * (((Txt.slice (Txt.slice a (some k) none) none (opt0 q)).length : Int) + 1)) 2 = true := range_row na (by omega)
  have hgn : s.heap.get? s.heap.objs.size = none := by
    cases e : s.heap.get? s.heap.objs.size with
    | none => rfl
    | some o => exact absurd (Heap.lt_size e) (Nat.lt_irrefl _)
  refine args_nil ?_
  refine PyProof.Rows.list_rangeD hh (F₇.push _) (News.nil _ _ _) (Heap.get?_push_size _ rfl) rz.2 rz.1 (Nat.le_trans (show n ≤ 3 by omega) (by decide)) fun h₉ tk₉ ys F₉ N₉ k₉ hn₉ hl₉ _ hc₉ => ?_
  refine row_start F₉ hl₉ hn₉ fun o lo N₁₀ => stN F₉ N₁₀ fun h₁₀ F₁₀ N₁₁ => ?_
  refine wpAny_execs_cons (wpAny_Assign_Name (wpAny_Constant_int (stN F₁₀ N₁₁ fun h₁₁ F₁₁ N₁₂ => ?_)))
  clear F₁₀ N₁₁
  refine lev_end ⟨⟨rfl, rfl, rfl, rfl, rfl, rfl, rfl, rfl, rfl, rfl, rfl, rfl, rfl⟩, rfl, rfl, rfl, rfl, rfl⟩ W hh hroom noE_passes F₁₁ N₁₂ lo (ints_of hc₉) na nb (by omega) ⟨⟨_, rfl⟩, ⟨_, rfl⟩, rfl, ⟨_, rfl⟩, ⟨_, rfl⟩⟩ hd h
end
end Mine
end

section
open PySem PySem.W PySem.Calls PyProof.Rows PySem.Spec
set_option maxRecDepth 100000
namespace Mine
theorem slot_search : Slot "re.Pattern" "search" "re.Pattern.search" :=
  .of (owner := "re.Pattern") (n := "search") (by rw [typeLookup_type, builtinLookup_eq_fast]; kernel_rfl) (by decide +kernel) (by decide +kernel) (by decide +kernel)
    (by first | exact .inl (by decide +kernel) | exact .inr (by decide +kernel)) (by rw [isSubtype_type]; kernel_rfl)
theorem type_search : typeOf (.builtin "re.Pattern.search") = pure (.type "method_descriptor") := by show builtinType _ = _; rw [builtinType_eq_fast]; kernel_rfl
theorem entry_search : entryFor table "re.Pattern.search" = some Builtin.«re.Pattern.search» := entryFor_of_tree (by kernel_rfl)
theorem args_search (a b : Value) : argsOk "re.Pattern.search" ⟨[a, b], []⟩ := by unfold argsOk; kernel_rfl
theorem plainAttrs_pat : PlainAttrs "re.Pattern" :=
  ⟨⟨"object.__getattribute__", by rw [typeLookup_type, builtinLookup_eq_fast]; kernel_rfl, by decide +kernel⟩, by rw [typeLookup_type, builtinLookup_eq_fast]; kernel_rfl⟩
open PySem.Builtin.Re
/-- the machine ends without a match, in one turn -/
def quiet (code : Array Nat) (x : Str) : Bool :=
  match ((Sre.forSearch code x.cps 0 (min (0 : Int).toNat x.cps.size) (min (2 ^ 63 - 1 : Int).toNat x.cps.size) false).runFor reTurnSteps).outcome with
  | some .failed => true
  | _ => false
section
variable {prog : Program} {w : World} {A : Around} {E : Value → Shared → Prop} {s : Shared}
theorem drive_one {k : Nat} {m : Sre.M} {Q : Sre.M → Shared → Prop} (ho : (m.runFor reTurnSteps).outcome.isSome = true) (h : Q (m.runFor reTurnSteps) s) :
    wpAny (model prog w) A (reDrive (k + 1) m) Q E s := by
  unfold reDrive
  show wpAny _ _ (if (m.runFor reTurnSteps).outcome.isSome = true then pure (m.runFor reTurnSteps) else _) _ _ _
  rw [if_pos ho]
  exact wpAny_pure h
theorem rules_each {b : Nat → Bool} {f : Nat → String} {Q : PUnit → Shared → Prop} : ∀ (l : List Nat), Q PUnit.unit s →
    wpAny (model prog w) A (forIn l PUnit.unit (fun i _ => if b i = true then (do rule (f i); pure (ForInStep.yield PUnit.unit)) else pure (ForInStep.yield PUnit.unit))) Q E s
  | [], h => wpAny_pure h
  | i :: l, h => by
    rw [List.forIn_cons]
    refine wpAny_bind ?_
    by_cases hb : b i = true
    · rw [if_pos hb]
      exact wpAny_bind (wpAny_rule (wpAny_pure (rules_each l h)))
    · rw [if_neg hb]
      exact wpAny_pure (rules_each l h)
theorem run_quiet {m : Sre.M} {Q : Option Sre.M → Shared → Prop} (ho : (match (m.runFor reTurnSteps).outcome with | some .failed => true | _ => false) = true) (h : Q none s) :
    wpAny (model prog w) A (reRunToEnd m) Q E s := by
  unfold reRunToEnd
  have h64 : (2 ^ 64 : Nat) = 18446744073709551615 + 1 := by decide
  rw [h64]
  have hs : (m.runFor reTurnSteps).outcome = some .failed := by
    cases q : (m.runFor reTurnSteps).outcome with
    | none => rw [q] at ho; cases ho
    | some o => cases o with
      | failed => rfl
      | matched => rw [q] at ho; cases ho
      | stuck _ => rw [q] at ho; cases ho
  refine wpAny_bind (drive_one (by rw [hs]; rfl) ?_)
  refine wpAny_bind (rules_each _ ?_)
  rw [hs]
  exact wpAny_pure h
theorem search_none {P W : Addr} {oP oW : Obj} {fs its : Array Value} {n : Nat} {code : Array Nat} {x : Str} {t : Tok} {Q : Value → Shared → Prop} (hP : s.heap.get? P = some oP) (hc : oP.cls = .type "re.Pattern") (hd : oP.data = .fields fs)
    (h5 : fs.getD 5 .none = .ref W) (h6 : reRawNat (fs.getD 6 .none) = 0) (h2 : reRawNat (fs.getD 2 .none) = 0) (hW : s.heap.get? W = some oW) (hWd : oW.data = .seq its n) (hcode : (its.map reRawOf).map (·.toNat) = code)
    (hq : quiet code x = true) (h : Q .none s) : wpAny (model prog w) A (call (.builtin "re.Pattern.search") [.ref P, .str x t]) Q E s := by
  refine wpAny_call_entry slot_search ⟨oP, hP, hc⟩ entry_search ?_ (args_search _ _)
  unfold Builtin.«re.Pattern.search»
  refine wpAny_bind (m := reTarget "re.Pattern.search" "search" ⟨[.ref P, .str x t], []⟩) ?_
  have e1 : reNamed "re.Pattern.search" "search" ["string", "pos", "endpos"] 1 [.str x t] [] = pure [some (.str x t), none, none] := by rfl
  have e2 : reTextOf (.str x t) = pure (x.cps, 0) := by rfl
  unfold reTarget
  dsimp only
  rw [e1]
  refine wpAny_bind (wpAny_pure ?_)
  dsimp only
  refine wpAny_bind (wpAny_pure ?_)
  refine wpAny_bind (wpAny_pure ?_)
  refine wpAny_bind (wpAny_fieldsOf hP hd ?_)
  rw [e2]
  refine wpAny_bind (wpAny_pure ?_)
  dsimp only
  rw [h6, h5, h2, if_neg (by decide), if_neg (by decide)]
  refine wpAny_bind (wpAny_pure ?_)
  unfold reRawItems
  refine wpAny_bind (wpAny_bind (wpAny_seqItems hW hWd (wpAny_pure (wpAny_pure ?_))))
  show wpAny _ _ (reAnswer _ _) _ _ _
  unfold reAnswer
  refine wpAny_bind (run_quiet (by subst hcode; exact hq) ?_)
  exact wpAny_pure ⟨_, rfl, h⟩
def codeN : Array Nat := #[14, 10, 4, 1, 1, 22, 0, 31, 16, 127, 0, 13, 7, 22, 0, 31, 16, 127, 0, 1]
def codeV : Array Nat := #[14, 14, 4, 1, 1, 9, 4294966783, 0, 0, 2147483648, 0, 0, 0, 0, 0, 13, 11, 9, 4294966783, 0, 0, 2147483648, 0, 0, 0, 0, 0, 1]
example : quiet codeN "LID" = true := by decide +kernel
example : quiet codeV "rGb" = true := by decide +kernel
end
end Mine
end

section
open PySem PySem.W PySem.Calls PyProof.Rows PySem.Spec
set_option maxRecDepth 100000
namespace Mine
section
variable {w : World} {A : Around} {E : Value → Shared → Prop} {s : Shared} {Q : Value → Shared → Prop}
theorem conv_call {H : Addr} {x : Str} {t : Tok} {b : Bool} (W : Wd w s.heap) (hroom : A.depth < recursionLimit) (hq : quiet (if b = true then codeN else codeV) x = true)
    (h : ∀ h' tk' t, Kp s.heap h' → Q (.str x t) { s with heap := h', toks := tk' }) :
    wpAny (model PW w) A (call (.ref 83) [.ref H, .str x t] [(Str.ofString "name", .bool b)]) Q E s := by
  refine' call_pure (binds := [(Str.ofString "self", .ref H), (Str.ofString "value", .str x t), (Str.ofString "name", .bool b)]) W.X W.lim hroom ?ho ?hcd ?hb ?hl ?c1 ?c2 ?c3 ?c4 ?_
  case ho => k_dflt k_is
  case hcd => k_dflt k_is
  case hb => exact BindsTo.of_eq rfl
  case hl => exact locs rfl
  case c2 => exact rfl
  case c3 => exact rfl
  case c4 => exact rfl
  case c1 => decide
  intro h₁ F
  refine wpAny_execs_cons (wpAny_If (wpAny_isTrue_Compare1 (Call_ (nmB F W (by k_dflt k_is) PySem.Pv.boot_type (Pv.callWith_type1 (args_cons (ld F rfl (args_nil ?_))))))))
  refine call_type_of (Tx := "str") rfl (by decide +kernel) (nmB F W (by k_dflt k_is) PyProof.Rows.boot_str (wpAny_is_self (by rfl) (wpAny_truthy_bool (ite_posB rfl ?_))))
  cases b
  · refine wpAny_execs_cons (wpAny_Assign_Name (IfExp_ (isTrue_plain (ld F rfl (wpAny_truthy_bool (ite_negB rfl (nmG F W (by k_dflt k_is) (st F fun h₂ F₂ => ?_))))))))
    refine wpAny_execs_cons (wpAny_If (isTrue_plain (MethodCall_ (ld F₂ rfl (getMethod_builtin (T := "re.Pattern") ⟨_, F₂.keep _ _ (W.X 53 _ (by k_dflt k_is)), rfl⟩ plainAttrs_pat slot_search type_search (fun a e => by cases e; exact ⟨_, F₂.keep _ _ (W.X 53 _ (by k_dflt k_is)), rfl⟩) (PyProof.Rows.callWith_method1 (args_cons (ld F₂ rfl (args_nil ?_)))))))))
    refine search_none (code := codeV) (F₂.keep _ _ (W.X 53 _ (by k_dflt k_is))) rfl rfl rfl rfl rfl (F₂.keep _ _ (W.X 52 _ (by k_dflt k_is))) rfl (by decide +kernel) hq ?_
    refine PyProof.Rows.truthy_none (ite_negB rfl (wpAny_execs_nil ?_))
    exact wpAny_execs_cons (wpAny_Return_some (ld F₂ rfl (h _ _ _ F₂.keep)))
  · refine wpAny_execs_cons (wpAny_Assign_Name (IfExp_ (isTrue_plain (ld F rfl (wpAny_truthy_bool (ite_posB rfl (nmG F W (by k_dflt k_is) (st F fun h₂ F₂ => ?_))))))))
    refine wpAny_execs_cons (wpAny_If (isTrue_plain (MethodCall_ (ld F₂ rfl (getMethod_builtin (T := "re.Pattern") ⟨_, F₂.keep _ _ (W.X 48 _ (by k_dflt k_is)), rfl⟩ plainAttrs_pat slot_search type_search (fun a e => by cases e; exact ⟨_, F₂.keep _ _ (W.X 48 _ (by k_dflt k_is)), rfl⟩) (PyProof.Rows.callWith_method1 (args_cons (ld F₂ rfl (args_nil ?_)))))))))
    refine search_none (code := codeN) (F₂.keep _ _ (W.X 48 _ (by k_dflt k_is))) rfl rfl rfl rfl rfl (F₂.keep _ _ (W.X 47 _ (by k_dflt k_is))) rfl (by decide +kernel) hq ?_
    refine PyProof.Rows.truthy_none (ite_negB rfl (wpAny_execs_nil ?_))
    exact wpAny_execs_cons (wpAny_Return_some (ld F₂ rfl (h _ _ _ F₂.keep)))
end
end Mine
end

section
open PySem PySem.W PySem.Calls PyProof.Rows PySem.Spec
set_option maxRecDepth 100000
namespace Mine
section
variable {prog : Program} {w : World} {A : Around} {E : Value → Shared → Prop} {s : Shared} {env : Env}
/-- a for loop over any source, by an invariant -/
theorem for_walk {R : Result → Shared → Prop} {target : Expr} {body : List Stmt} {I : Addr} {fp wr : List Addr} {n : Nat} {P : Nat → Value → Prop} {St : Nat → Heap → Prop} (W : Walks prog w A I fp wr n P St)
    (ht : ∀ v, letOwnedTupleGo target (.ref I) v = pure ()) (J : Nat → Shared → Prop) (hSt : ∀ i s, J i s → St i s.heap)
    (turn : ∀ i v s h' tk E', i < n → P i v → J i s → St (i + 1) h' → (∀ b o, b ∉ wr → s.heap.get? b = some o → h'.get? b = some o) →
      wpAny (model prog w) A (assign target env v) (fun _ s₂ => wpAny (model prog w) A (execs body env) (fun f s₃ => match f with
        | .next | .cont => J (i + 1) s₃
        | .brk => R (.ok .next) s₃
        | .ret v => R (.ok (.ret v)) s₃) E' s₂) E' { s with heap := h', toks := tk })
    (done : ∀ s h' tk, J n s → (∀ b o, b ∉ wr → s.heap.get? b = some o → h'.get? b = some o) → R (.ok .next) { s with heap := h', toks := tk })
    (h : J 0 s) : codeAny (model prog w) A (.forLoop target (.ref I) body [] env) R s := by
  refine codeAny_forLoop (fun k s' => ∃ i, i ≤ n ∧ k = n + 1 - i ∧ J i s') (fun k s' hI => ?_) (n + 1) ⟨0, Nat.zero_le _, rfl, h⟩ ht
  obtain ⟨i, hi, rfl, hJ⟩ := hI
  by_cases hlt : i < n
  · refine W.item i _ _ _ hlt (hSt i s' hJ) fun v h' tk hP hst hk => ?_
    refine wpAny_mono (turn i v s' h' tk _ hlt hP hJ hst hk) (fun _ s₂ h₂ => wpAny_mono h₂ (fun f s₃ h₃ => ?_) fun _ _ z => z) fun _ _ z => z
    have hm : n + 1 - (i + 1) < n + 1 - i := by omega
    cases f with
    | next => exact ⟨_, hm, i + 1, hlt, rfl, h₃⟩
    | cont => exact ⟨_, hm, i + 1, hlt, rfl, h₃⟩
    | brk => exact h₃
    | ret v => exact h₃
  · obtain rfl : i = n := Nat.le_antisymm hi (Nat.not_lt.mp hlt)
    exact W.done _ _ _ (hSt i s' hJ) fun h' tk hk => wpAny_execs_nil (done s' h' tk hJ hk)
/-- a for loop over an empty source -/
theorem for_none {R : Result → Shared → Prop} {target : Expr} {body : List Stmt} {I : Addr} {fp wr : List Addr} {P : Nat → Value → Prop} {St : Nat → Heap → Prop} (W : Walks prog w A I fp wr 0 P St) (hSt : St 0 s.heap)
    (done : ∀ h' tk, (∀ b o, b ∉ wr → s.heap.get? b = some o → h'.get? b = some o) → R (.ok .next) { s with heap := h', toks := tk }) :
    codeAny (model prog w) A (.forLoop target (.ref I) body [] env) R s := by
  refine codeAny_forLoop_any (fun k s' => s' = s) (fun k s' hI => ?_) 0 rfl
  subst hI
  exact W.done _ _ _ hSt fun h' tk hk => wpAny_execs_nil (done h' tk hk)
end
section
variable {w : World} {A : Around} {E : Value → Shared → Prop} {s : Shared} {Q : Value → Shared → Prop}
theorem code_pure {prog : Program} {K : Frag} {R : Result → Shared → Prop} {f : Addr} {name qual : Str} {params : Arguments} {body : List Stmt} {scope : Scope} {dV kV doc pm cdv ct oc : Value} {an od : Option Addr} {osl : Array (Option Value)} {args : List Value} {kw : List (Str × Value)} {binds : List (Str × Value)}
    (X : K.In s.heap) (hlim : s.heap.NoLimit) (hroom : A.depth < recursionLimit)
    (ho : K.lookup f = some ⟨oc, od, .func (fnOf name qual params body scope dV kV doc pm an cdv ct), osl⟩) (hcd : codeIn K cdv qual = true)
    (hbind : BindsTo s (fnOf name qual params body scope dV kV doc pm an cdv ct) ⟨args, kw⟩ binds) (hloc : ∀ y ∈ binds, scope.names.lookup y.1 = some .local)
    (hcell : ∀ x ∈ scope.names, x.2 ≠ .cell) (hco : scope.isCoroutine = false) (hgen : scope.isGenerator = false) (hk : scope.kind = .function)
    (h : ∀ h₁, Fr s.heap s.heap.objs.size h₁ (fun y => binds.reverse.lookup y) →
      wpAny (model prog w) (A.deeper (envOf qual scope s.heap.objs.size f cdv)) (execs body (envOf qual scope s.heap.objs.size f cdv))
        (fun fl s' => R (.ok (.ret (match fl with | .ret v => v | _ => .none))) s') (fun _ _ => False)
        { s with heap := h₁, toks := s.toks + binds.length }) :
    codeAny (model prog w) A (.call (.ref f) ⟨args, kw⟩) R s := by
  refine codeAny_call_def (fd := fnOf name qual params body scope dV kV doc pm an cdv ct) (body := body) (binds := binds) hroom (X _ _ ho) rfl hlim (codeRec_of X hcd) rfl hbind hcell hloc (fun h₁ hns hk₁ => ?_) hco hgen hk
  exact wpAny_mono (h h₁ ⟨hns, hk₁, Nat.le_refl _⟩) (fun fl s' hl => hl) (fun _ _ x => x.elim)
end
end Mine
end

section
open PySem PySem.W PySem.Calls PyProof.Rows PySem.Spec
set_option maxRecDepth 100000
namespace Mine
/-- a list with nothing but its items -/
def Lst (h : Heap) (l : Addr) (items : Array Value) : Prop := ∃ n, h.get? l = some { cls := .type "list", data := .seq items n }
theorem Lst.is {h : Heap} {l : Addr} {items : Array Value} (x : Lst h l items) : h.IsList l items := by
  obtain ⟨n, e⟩ := x
  exact ⟨_, e, rfl, n, rfl⟩
/-- a Headers object at x, its list of pairs at l -/
structure Hdr (h : Heap) (x dx l : Addr) : Prop where
  ex : ∃ es n, InstAt h x (instObj 182 dx) 182 (some (dictOf es n)) ∧ getL "_headers" es = some (some (.ref l)) ∧ getL "_convert_string_type" es = some none ∧ getL "add_header" es = some none ∧ getL "get_all" es = some none
theorem Hdr.ks {h h' : Heap} {x dx l : Addr} (H : Hdr h x dx l) (hx : ∀ o, h.get? x = some o → h'.get? x = some o) (hd : ∀ o, h.get? dx = some o → h'.get? dx = some o) : Hdr h' x dx l := by
  obtain ⟨es, n, I, r⟩ := H
  exact ⟨es, n, ⟨hx _ I.at_, I.cls, I.no, hd _ I.dict⟩, r⟩
theorem none_ge {h : Heap} {a : Addr} (x : h.objs.size ≤ a) : h.get? a = none := by
  cases q : h.get? a with
  | none => rfl
  | some o => exact absurd (Heap.lt_size q) (Nat.not_lt.mpr x)
theorem list_none {prog : Program} {w : World} {A : Around} {E : Value → Shared → Prop} {s : Shared} {env : Env} {R : Result → Shared → Prop} {target : Expr} {body : List Stmt} {l : Addr} (hh : A.handled = none) (hl : s.heap.IsList l #[])
    (done : ∀ h' tk, Kp s.heap h' → R (.ok .next) { s with heap := h', toks := tk }) :
    wpAny (model prog w) A (pyIter (.ref l)) (fun it s₂ => codeAny (model prog w) A (.forLoop target it body [] env) R s₂) E s := by
  have hlt : l < s.heap.objs.size := by obtain ⟨_, e, _⟩ := hl; exact Heap.lt_size e
  have W : Walks prog w A s.heap.objs.size _ _ 0 _ _ := Walks.list hh s.heap.objs.size l (Nat.ne_of_lt hlt) #[]
  refine wpAny_pyIter_list hl (for_none W ⟨⟨_, Heap.get?_push_size _ rfl, rfl, rfl⟩, hl.push _⟩ fun h₅ tk₅ k₅ => ?_)
  exact done h₅ tk₅ fun b o e => k₅ b o (fun hm => by rw [List.mem_singleton.mp hm] at e; exact absurd (Heap.lt_size e) (Nat.lt_irrefl _)) (Heap.get?_push_of_some _ e)
section
variable {w : World} {A : Around} {E : Value → Shared → Prop} {s : Shared} {Q : Value → Shared → Prop}
set_option maxHeartbeats 4000000 in
theorem hdr_new (W : Wd w s.heap) (hh : A.handled = none) (hroom : A.depth + 1 < recursionLimit)
    (h : ∀ h' tk x dx l, Kp s.heap h' → Hdr h' x dx l → Lst h' l #[] → s.heap.get? x = none → s.heap.get? dx = none → s.heap.get? l = none → Q (.ref x) { s with heap := h', toks := tk }) :
    wpAny (model PW w) A (call (.ref 182) []) Q E s := by
  obtain ⟨hp, g, d, t, os⟩ := s
  have W : Wd w hp := W
  refine wpAny_call (make_core (init := .ref 76) (makes_of W.X (by k_dflt k_is)) (looks_findIn W.X (by k_dflt k_is)) (fun self => bind_fn W.X self (by k_dflt k_is)) (.inl rfl) ?_)
  have k0 : Kp hp ((hp.push emptyDict).push (instObj 182 hp.objs.size)) := fun b o e => Heap.get?_push_of_some _ (Heap.get?_push_of_some _ e)
  have W₁ : Wd w ((hp.push emptyDict).push (instObj 182 hp.objs.size)) := W.kp k0
  refine' code_pure (binds := [(Str.ofString "self", .ref (hp.objs.size + 1)), (Str.ofString "headers", .none)]) W₁.X W₁.lim hroom ?ho ?hcd ?hb ?hl ?c1 ?c2 ?c3 ?c4 ?_
  case ho => k_dflt k_is
  case hcd => k_dflt k_is
  case hb => exact binds_K W₁.X rfl (by k_dflt k_is) rfl rfl rfl
  case hl => exact locs rfl
  case c2 => exact rfl
  case c3 => exact rfl
  case c4 => exact rfl
  case c1 => decide
  intro h₁ F₀
  have hsz : ((hp.push emptyDict).push (instObj 182 hp.objs.size)).objs.size = hp.objs.size + 2 := by rw [Heap.size_push, Heap.size_push]
  have F : Fr hp ((hp.push emptyDict).push (instObj 182 hp.objs.size)).objs.size h₁ _ := ⟨F₀.ns, fun b o e => F₀.keep b o (k0 b o e), by rw [hsz]; omega⟩
  have N : News hp ((hp.push emptyDict).push (instObj 182 hp.objs.size)).objs.size h₁ [(hp.objs.size + 1, instObj 182 hp.objs.size), (hp.objs.size, dictOf [] 0)] := by
    intro p hp'
    rcases List.mem_cons.mp hp' with rfl | hp'
    · refine ⟨F₀.keep _ _ (by have := Heap.get?_push_size (hp.push emptyDict) (o := instObj 182 hp.objs.size) rfl; rwa [Heap.size_push] at this), by rw [hsz]; show hp.objs.size + 1 ≠ _; omega, none_ge (by show _ ≤ hp.objs.size + 1; omega)⟩
    · rcases List.mem_cons.mp hp' with rfl | hp'
      · exact ⟨F₀.keep _ _ (Heap.get?_push_of_some _ (Heap.get?_push_size hp rfl)), by rw [hsz]; show hp.objs.size ≠ _; omega, none_ge (Nat.le_refl _)⟩
      · cases hp'
  clear F₀
  refine wpAny_execs_cons (wpAny_Assign_Name (IfExp_ (wpAny_isTrue_Compare1 (ld F rfl (wpAny_Constant_none (wpAny_isNot_self (by rfl) (wpAny_truthy_bool (ite_negB rfl (List_ (args_nil (newList_N F N fun h₂ F₂ N₂ => ?_)))))))))))
  refine stN F₂ N₂ fun h₃ F₃ N₃ => ?_
  have hlt : hp.objs.size + 2 < h₁.objs.size := by have := F.ns.lt; rwa [hsz] at this
  clear F N F₂ N₂
  have I₃ : InstAt h₃ (hp.objs.size + 1) (instObj 182 hp.objs.size) 182 (some (dictOf [] 0)) := ⟨(N₃ _ (.tail _ (.head _))).1, rfl, rfl, (N₃ _ (.tail _ (.tail _ (.head _)))).1⟩
  refine wpAny_execs_cons (wpAny_If (wpAny_isTrue_Compare1 (Call_ (nmB F₃ W (by k_dflt k_is) PySem.Pv.boot_type (Pv.callWith_type1 (args_cons (ld F₃ rfl (args_nil ?_))))))))
  refine call_type_of (Tx := "list") ⟨_, (N₃ _ (.head _)).1, rfl⟩ (by decide +kernel) (nmB F₃ W (by k_dflt k_is) PySem.Pv.boot_list (wpAny_isNot_self (by rfl) (wpAny_truthy_bool (ite_negB rfl (wpAny_execs_nil ?_)))))
  refine wpAny_execs_cons (plainObj_wpAny_Assign_Attribute (ld F₃ rfl (ld F₃ rfl ?_)))
  refine set_dict F₃ W.X N₃ I₃ rfl (by k_dflt k_is) (by k_dflt k_is) (by k_dflt k_is) (by k_dflt k_is) rfl rfl (.tail ?_ (.tail ?_ (.head (fun _ h => nomatch h)))) (by show (1 : Nat) ≤ 1000; decide) fun h₄ F₄ N₄ => ?_
  · show h₁.objs.size ≠ hp.objs.size; omega
  · show hp.objs.size + 1 ≠ hp.objs.size; omega
  clear F₃ N₃ I₃
  refine wpAny_execs_cons (wpAny_If (isTrue_plain (wpAny_Constant_bool (wpAny_truthy_bool (ite_posB rfl ?_)))))
  have hl₄ : h₄.IsList h₁.objs.size #[] := ⟨_, (N₄ _ (.head _)).1, rfl, _, rfl⟩
  refine wpAny_execs_cons (wpAny_For (ld F₄ rfl (list_none hh hl₄ fun h₅ tk₅ k₄ => ?_)))
  refine wpAny_execs_nil (wpAny_execs_nil ⟨rfl, ?_⟩)
  exact h h₅ tk₅ (hp.objs.size + 1) hp.objs.size h₁.objs.size (fun b o e => k₄ b o (F₄.keep b o e)) ⟨_, _, ⟨k₄ _ _ (N₄ _ (.tail _ (.head _))).1, rfl, rfl, k₄ _ _ (N₄ _ (.tail _ (.tail _ (.head _)))).1⟩, rfl, rfl, rfl, rfl⟩
    ⟨_, k₄ _ _ (N₄ _ (.head _)).1⟩ (none_ge (by show hp.objs.size ≤ _; omega)) (none_ge (Nat.le_refl _)) (none_ge (by show hp.objs.size ≤ _; omega))
end
end Mine
end

section
open PySem PySem.W PySem.Calls PyProof.Rows PySem.Spec
set_option maxRecDepth 100000
namespace Mine
section
variable {prog : Program} {w : World} {A : Around} {E : Value → Shared → Prop} {s : Shared} {K : Frag} {Q : Value → Shared → Prop}
/-- a def whose arguments make an empty dict -/
theorem call_dict {f : Addr} {name qual : Str} {params : Arguments} {body : List Stmt} {scope : Scope} {dV kV doc pm cdv ct oc : Value} {an od : Option Addr} {osl : Array (Option Value)} {args : List Value} {kw : List (Str × Value)} {binds : Addr → List (Str × Value)}
    (X : K.In s.heap) (hlim : s.heap.NoLimit) (hroom : A.depth < recursionLimit)
    (ho : K.lookup f = some ⟨oc, od, .func (fnOf name qual params body scope dV kV doc pm an cdv ct), osl⟩) (hcd : codeIn K cdv qual = true)
    (hbind : ∀ (M : Model) (A : Around) (E : Value → Shared → Prop) (Q : List (Str × Value) → Shared → Prop) (s : Shared), Q (binds s.heap.objs.size) { s with heap := s.heap.push (dictOf [] 0) } → wpAny M A (bindArgs (fnOf name qual params body scope dV kV doc pm an cdv ct) ⟨args, kw⟩) Q E s)
    (hloc : ∀ D, ∀ y ∈ binds D, scope.names.lookup y.1 = some .local)
    (hcell : ∀ x ∈ scope.names, x.2 ≠ .cell) (hco : scope.isCoroutine = false) (hgen : scope.isGenerator = false) (hk : scope.kind = .function)
    (h : ∀ h₁ tk, Fr (s.heap.push (dictOf [] 0)) (s.heap.push (dictOf [] 0)).objs.size h₁ (fun y => (binds s.heap.objs.size).reverse.lookup y) →
      wpAny (model prog w) (A.deeper (envOf qual scope (s.heap.push (dictOf [] 0)).objs.size f cdv)) (execs body (envOf qual scope (s.heap.push (dictOf [] 0)).objs.size f cdv))
        (fun fl s' => Q (match fl with | .ret v => v | _ => .none) s') (fun _ _ => False)
        { s with heap := h₁, toks := tk }) :
    wpAny (model prog w) A (call (.ref f) args kw) Q E s := by
  refine wpAny_call (codeAny_call_function (fd := fnOf name qual params body scope dV kV doc pm an cdv ct) (body := body) hroom (X _ _ ho) rfl hco hgen rfl (codeRec_of X hcd) (hbind _ _ _ _ _ ?_))
  have hlim' : (s.heap.push (dictOf [] 0)).NoLimit := hlim.keeps fun b o e => Heap.get?_push_of_some _ e
  refine wpAny_newFunctionEnv hcell (hloc _) (fun h₀ hns₀ hsb₀ => ⟨hlim'.fresh _ hsb₀, codeAny_func ?_⟩) hk
  refine wpAny_mono (h h₀ _ ⟨hns₀, fun b o e => ?_, Nat.le_refl _⟩) (fun fl s' hl => hl) (fun _ _ x => x.elim)
  exact hsb₀.extBut b o (Nat.ne_of_lt (Heap.lt_size e)) (Heap.get?_push_of_some _ e)
end
section
variable {w : World} {A : Around} {E : Value → Shared → Prop} {s : Shared} {Q : Value → Shared → Prop}
variable {g : Heap} {L fa : Addr} {cn : Str} {cs : Scope} {cd : Value} {m : Str → Option Value}
theorem conv_eval {pl : Sem Bool} {x dx l : Addr} {v y : Str} {t : Tok} {b : Bool} {p1 p2 p3 p4 p5 p6 : Pos} {z : Nat} (F : Fr g L s.heap m) (W : Wd w g) (H : Hdr g x dx l) (hroom : A.depth < recursionLimit) (hs : m "self" = some (.ref x)) (hv : m v = some (.str y t)) (hq : quiet (if b = true then codeN else codeV) y = true)
    (h : ∀ h' tk' t, Kp s.heap h' → Q (.str y t) { s with heap := h', toks := tk' }) (hk : cs.kind = .function := by rfl) (hl : (envOf cn cs L fa cd).kindOf v = some .local := by rfl) (hsf : (envOf cn cs L fa cd).kindOf "self" = some .local := by rfl) (hdb : (v == ("__debug__" : Str)) = false := by decide)
    (he : eval (.Call (.Attribute (.Name "self" p1) "_convert_string_type" p2) [.Name v p3] [{ arg := some "name", value := .Constant (.bool b) z p4, pos := p5 }] p6) (envOf cn cs L fa cd) = (do
      let ov ← eval (.Name "self" p1) (envOf cn cs L fa cd)
      standAt p2.atName
      let (f, first) ← holding [ov] (getMethod ov "_convert_string_type" pl)
      callWith p6 f first (backTo p6 (starEach [.Name v p3] (envOf cn cs L fa cd))) (backToKw p6 (keywordEach [{ arg := some "name", value := .Constant (.bool b) z p4, pos := p5 }] (envOf cn cs L fa cd)))) := by rfl) :
    wpAny (model PW w) A (eval (.Call (.Attribute (.Name "self" p1) "_convert_string_type" p2) [.Name v p3] [{ arg := some "name", value := .Constant (.bool b) z p4, pos := p5 }] p6) (envOf cn cs L fa cd)) Q E s := by
  have W₀ := W.kp F.keep
  obtain ⟨es, n, I, e1, e2, e3, e4⟩ := H
  have I' : InstAt s.heap x (instObj 182 dx) 182 (some (dictOf es n)) := ⟨F.keep _ _ I.at_, I.cls, I.no, F.keep _ _ I.dict⟩
  refine methodCall_KW (ld F hs (method_fn W₀.X I' (by k_dflt k_is) (by k_dflt k_is) (f := 83) (by k_dflt k_is) (by k_dflt k_is) (by show (lookIn _ (dictOf es n)).map _ = _; rw [lookIn_dict, e2]; rfl) ?_) hk hsf) he
  refine callWith_KW W₀.X (by k_dflt k_is) rfl (args_cons (ld F hv (args_nil ?_) hk hl hdb))
  refine kwAll_cons (wpAny_Constant_bool (kwAll_nil ⟨W₀.X, ?_⟩))
  exact conv_call W₀ hroom hq h
theorem fr_keepBut {g h h' : Heap} {L : Addr} {m m' : Str → Option Value} (F : Fr g L h m) (hn : h'.Ns L m') (k : ∀ b o, b ≠ L → h.get? b = some o → h'.get? b = some o) : Fr g L h' m' :=
  ⟨hn, fun b o e => k b o (Nat.ne_of_lt (Nat.lt_of_lt_of_le (Heap.lt_size e) F.above)) (F.keep b o e), F.above⟩
theorem news_keepBut {g h h' : Heap} {L : Addr} {news : List (Addr × Obj)} (N : News g L h news) (k : ∀ b o, b ≠ L → h.get? b = some o → h'.get? b = some o) : News g L h' news :=
  fun p hp => ⟨k _ _ (N p hp).2.1 (N p hp).1, (N p hp).2⟩
theorem dict_empty {prog : Program} {w : World} {h : Heap} {D : Addr} (e : h.get? D = some (dictOf [] 0)) : h.DictAt (strKind prog w) D [] 0 :=
  ⟨_, #[], e, ⟨rfl, rfl, rfl⟩, rfl, fun _ he => (by cases he with | mk hm => cases hm), .nil, .nil⟩
set_option maxHeartbeats 4000000 in
theorem add_call {g : Heap} {x dx l : Addr} {items : Array Value} {nm wd : Str} {t1 t2 : Tok} (W : Wd w g) (kg : Kp g s.heap) (hlg : g.get? l = none) (hh : A.handled = none) (hroom : A.depth + 1 < recursionLimit)
    (H : Hdr s.heap x dx l) (hl : Lst s.heap l items) (hq : quiet codeN nm = true) (hq' : quiet codeV wd = true) (hw : wd.length ≤ 3) (hz : items.size ≤ 1000)
    (h : ∀ h' tk T t1' t2', (∀ b o, b ≠ l → s.heap.get? b = some o → h'.get? b = some o) → Lst h' l (items.push (.ref T)) → IsTup h' T #[.str nm t1', .str wd t2'] → s.heap.get? T = none → Q .none { s with heap := h', toks := tk }) :
    wpAny (model PW w) A (call (.ref 179) [.ref x, .str nm t1, .str wd t2]) Q E s := by
  have W₁ := W.kp kg
  refine' call_dict (binds := fun D => [(Str.ofString "self", .ref x), (Str.ofString "_name", .str nm t1), (Str.ofString "_value", .str wd t2), (Str.ofString "_params", .ref D)]) W₁.X W₁.lim (Nat.lt_of_succ_lt hroom) ?ho ?hcd ?hb ?hl ?c1 ?c2 ?c3 ?c4 ?_
  case ho => k_dflt k_is
  case hcd => k_dflt k_is
  case hb =>
    intro M A E Q s h
    exact nd_alloc (nd_pure h)
  case hl => exact fun D => locs rfl
  case c2 => exact rfl
  case c3 => exact rfl
  case c4 => exact rfl
  case c1 => decide
  intro h₁ tk F₀
  obtain ⟨n, ol⟩ := hl
  have hxl : x ≠ l := by
    rintro rfl
    obtain ⟨es, n', I, _⟩ := H
    have := I.at_; rw [ol] at this; cases this
  have hdl : dx ≠ l := by
    rintro rfl
    obtain ⟨es, n', I, _⟩ := H
    have : s.heap.get? dx = some (dictOf es n') := I.dict
    rw [ol] at this
    have q : Value.type "list" = Value.type "dict" := congrArg Obj.cls (Option.some.inj this)
    injection q with q
    exact absurd q (by decide)
  have kb : Kp g (hideAll s.heap [l]) := fun b o e => hideAll_get _ (kg b o e) (fun hm => by rw [List.mem_singleton.mp hm, hlg] at e; cases e)
  have Wb := W.kp kb
  have Hb : Hdr (hideAll s.heap [l]) x dx l := H.ks (fun o e => hideAll_get _ e (fun hm => hxl (List.mem_singleton.mp hm))) (fun o e => hideAll_get _ e (fun hm => hdl (List.mem_singleton.mp hm)))
  have hbs : (hideAll s.heap [l]).objs.size = s.heap.objs.size := hideAll_size _ _
  have F : Fr (hideAll s.heap [l]) (s.heap.push (dictOf [] 0)).objs.size h₁ _ := ⟨F₀.ns, fun b o e => F₀.keep b o (Heap.get?_push_of_some _ (of_hideAll _ e)), by rw [hbs, Heap.size_push]; exact Nat.le_succ _⟩
  have N : News (hideAll s.heap [l]) (s.heap.push (dictOf [] 0)).objs.size h₁ [(s.heap.objs.size, dictOf [] 0), (l, { cls := .type "list", data := .seq items n })] := by
    intro p hp
    rcases List.mem_cons.mp hp with rfl | hp
    · exact ⟨F₀.keep _ _ (Heap.get?_push_size _ rfl), by rw [Heap.size_push]; exact Nat.ne_of_lt (Nat.lt_succ_self _), none_ge (by rw [hbs]; exact Nat.le_refl _)⟩
    · rcases List.mem_cons.mp hp with rfl | hp
      · exact ⟨F₀.keep _ _ (Heap.get?_push_of_some _ ol), by rw [Heap.size_push]; exact Nat.ne_of_lt (Nat.lt_succ_of_lt (Heap.lt_size ol)), hideAll_none _ (.head _)⟩
      · cases hp
  have hlt1 := Heap.lt_size (N _ (.head _)).1
  have hlt2 := Heap.lt_size (N _ (.tail _ (.head _))).1
  have hdS : (s.heap.objs.size == sysModules) = false := beq_eq_false_iff_ne.mpr (Nat.ne_of_gt (modules_low W₁.lim))
  clear F₀
  refine wpAny_execs_cons (wpAny_Assign_Name (List_ (args_nil (newList_N F N fun h₂ F₂ N₂ => stN F₂ N₂ fun h₃ F₃ N₃ => ?_))))
  clear F N F₂ N₂
  refine wpAny_execs_cons (wpAny_If (wpAny_isTrue_Compare1 (ld F₃ rfl (wpAny_Constant_none (wpAny_isNot_other (by rfl) (fun q => by cases q) (wpAny_truthy_bool (ite_posB rfl ?_)))))))
  refine wpAny_execs_cons (wpAny_Assign_Name (conv_eval F₃ Wb Hb hroom rfl rfl hq' fun h₄ tk₄ t₄ k₄ => stN (F₃.grownK k₄) (N₃.grown k₄) fun h₅ F₅ N₅ => ?_))
  clear F₃ N₃
  refine wpAny_execs_cons (wpAny_Expr (MethodCall_ (ld F₅ rfl (listMethod_K N₅ (.head _) PySem.F.slot_list_append PySem.F.type_list_append (PyProof.Rows.callWith_method1 (args_cons (ld F₅ rfl (args_nil ?_)))))))) 
  refine append_K F₅ N₅ (.head ?_) (fun h₆ F₆ N₆ => wpAny_execs_nil ?_) (by decide)
  · intro p hp
    rcases List.mem_cons.mp hp with rfl | hp
    · exact Nat.ne_of_lt hlt1
    · rcases List.mem_cons.mp hp with rfl | hp
      · exact Nat.ne_of_lt hlt2
      · cases hp
  clear F₅ N₅
  refine wpAny_execs_cons (wpAny_For_items_locals (knd := strKind PW w) (kvs := []) (ep := 0) hh rfl rfl rfl (N₆ _ (.tail _ (.head _))).2.1 hdS (dict_empty (N₆ _ (.tail _ (.head _))).1) F₆.ns rfl rfl (fun Q' q => ld F₆ rfl q) (fun _ m' => m' = _) rfl (fun i k v key m₁ s₁ e => by cases e) (fun h₇ tk₇ m₇ hn₇ hm₇ k₇ => ?_) (fun _ => rfl) noE_passes)
  have F₇ := fr_keepBut F₆ hn₇ k₇
  have N₇ := news_keepBut N₆ k₇
  subst hm₇
  clear F₆ N₆
  have W₇ := Wb.kp F₇.keep
  obtain ⟨es, n', I, e1, e2, e3, e4⟩ := Hb
  have I₇ : InstAt h₇ x (instObj 182 dx) 182 (some (dictOf es n')) := ⟨F₇.keep _ _ I.at_, I.cls, I.no, F₇.keep _ _ I.dict⟩
  refine wpAny_execs_cons (wpAny_Expr (MethodCall_ (Attribute_name (ld F₇ rfl (get_own F₇ Wb.X I₇ (by k_dflt k_is) (by k_dflt k_is) (by k_dflt k_is) (by k_dflt k_is) e1 rfl ?_)))))
  refine listMethod_K N₇ (.tail _ (.tail _ (.head _))) PySem.F.slot_list_append PySem.F.type_list_append (PyProof.Rows.callWith_method1 (args_cons (Tuple_ (args_cons ?_))))
  refine conv_eval F₇ Wb ⟨es, n', I, e1, e2, e3, e4⟩ hroom rfl rfl hq fun h₈ tk₈ t₈ k₈ => ?_
  have F₈ := F₇.grownK k₈
  have N₈ := N₇.grown k₈
  clear F₇ N₇ I₇
  refine args_cons (MethodCall_ (wpAny_Constant_str (PySem.GM.join (PyProof.Rows.callWith_method1 (args_cons (ld F₈ rfl (args_nil ?_)))))))
  have hP : Heap.IsList h₈ _ (strValues [(wd, t₄)]).toArray := ⟨_, (N₈ _ (.head _)).1, rfl, _, rfl⟩
  refine PySem.SC.join (texts := [wd]) hP rfl ?_ fun t' k' => args_nil (newTuple_N F₈ N₈ fun h₉ F₉ N₉ => args_nil ?_)
  · exact joinOk_of_weight (by simp; omega) (by decide)
  have hP1 := Heap.lt_size (N₈ _ (.head _)).1
  have hl1 := Heap.lt_size (N₈ _ (.tail _ (.tail _ (.head _)))).1
  have ej : Txt.join (Str.ofString "; ") [wd] = wd := by rfl
  refine append_K F₉ N₉ (.tail (Ne.symm (Nat.ne_of_lt hl1)) (.tail (Ne.symm (Nat.ne_of_lt hlt2)) (.tail (Ne.symm (Nat.ne_of_lt (Heap.lt_size ol))) (.head (fun _ h => nomatch h))))) (fun h' F' N' => wpAny_execs_nil ?_) (by rw [sizeLine_eq]; omega)
  refine h h' _ _ _ _ (fun b o hb e => F'.keep b o (hideAll_get _ e (fun hm => hb (List.mem_singleton.mp hm)))) ⟨_, (N' _ (.tail _ (.tail _ (.tail _ (.head _))))).1⟩ ⟨_, (N' _ (.head _)).1, rfl, _, rfl⟩ (none_ge ?_)
  exact Nat.le_of_lt (Nat.lt_trans hlt1 hP1)
end
end Mine
end

section
open PySem PySem.W PySem.Calls PyProof.Rows PySem.Spec
set_option maxRecDepth 100000
namespace Mine
/-- the list's items are pairs of texts -/
structure Pairs2 (h : Heap) (its : Array Value) (rows : List (Str × Str)) : Prop where
  size : its.size = rows.length
  at_ : ∀ i, i < rows.length → ∃ T t1 t2, its[i]? = some (.ref T) ∧ IsTup h T #[.str (rows.getD i ("", "")).1 t1, .str (rows.getD i ("", "")).2 t2]
theorem Pairs2.ks {h h' : Heap} {its : Array Value} {rows : List (Str × Str)} (x : Pairs2 h its rows) (k : Ks h h') : Pairs2 h' its rows :=
  ⟨x.size, fun i hi => by obtain ⟨T, t1, t2, e, q⟩ := x.at_ i hi; exact ⟨T, t1, t2, e, k.tup q⟩⟩
theorem getD_mem {α : Type} {l : List α} {i : Nat} {d : α} (h : i < l.length) : l.getD i d ∈ l := by
  rw [List.getD_eq_getElem?_getD, List.getElem?_eq_getElem h]
  exact List.getElem_mem h
section
variable {w : World} {A : Around} {E : Value → Shared → Prop} {s : Shared} {Q : Value → Shared → Prop}
set_option maxHeartbeats 4000000 in
theorem all_call {x dx l : Addr} {items : Array Value} {rows : List (Str × Str)} {nm : Str} {t1 : Tok} (W : Wd w s.heap) (hh : A.handled = none) (hroom : A.depth + 1 < recursionLimit)
    (H : Hdr s.heap x dx l) (hl : s.heap.IsList l items) (hr : Pairs2 s.heap items rows) (hz : rows.length ≤ 1000) (hs : ∀ r ∈ rows, r.1.length ≤ 1000) (hn : nm.length ≤ 1000) (hq : quiet codeN (Txt.lower nm) = true)
    (h : ∀ h' tk D ys, s.heap.get? D = none → h'.IsList D ys → Pair2 (fun i y => ∃ t, y = .str (rows.getD i ("", "")).2 t) ((List.range rows.length).filter (fun i => Txt.lower (rows.getD i ("", "")).1 == Txt.lower nm)) ys.toList → Kp s.heap h' → Q (.ref D) { s with heap := h', toks := tk }) :
    wpAny (model PW w) A (call (.ref 121) [.ref x, .str nm t1]) Q E s := by
  refine' call_pureC (binds := [(Str.ofString "self", .ref x), (Str.ofString "name", .str nm t1)]) W.X W.lim (Nat.lt_of_succ_lt hroom) ?ho ?hcd ?hb ?hl ?c2 ?c3 ?c4 ?_
  case ho => k_dflt k_is
  case hcd => k_dflt k_is
  case hb => exact rfl
  case hl => exact kindsX rfl _
  case c2 => exact rfl
  case c3 => exact rfl
  case c4 => exact rfl
  intro s₁ X₁
  have W₁ : Wd w s₁.heap := W.kp X₁.toInCall.keep
  have H' := H
  obtain ⟨es, n, I, e1, e2, e3, e4⟩ := H
  have I₁ : InstAt s₁.heap x (instObj 182 dx) 182 (some (dictOf es n)) := ⟨X₁.toInCall.keep _ _ I.at_, I.cls, I.no, X₁.toInCall.keep _ _ I.dict⟩
  refine wpAny_execs_cons (wpAny_Assign_Name (methodCall_KW (nmL X₁ rfl (method_fn W₁.X I₁ (by k_dflt k_is) (by k_dflt k_is) (f := 83) (by k_dflt k_is) (by k_dflt k_is) (by show (lookIn _ (dictOf es n)).map _ = _; rw [lookIn_dict, e2]; rfl) ?_))))
  refine callWith_KW W₁.X (by k_dflt k_is) rfl (args_cons (MethodCall_ (nmC X₁ rfl rfl (PySem.GM.lower (PyProof.Rows.callWith_method0 (PyProof.Rows.SCL.lower (by omega) fun _ => args_nil ?_))))))
  refine kwAll_cons (wpAny_Constant_bool (kwAll_nil ⟨W₁.X, ?_⟩))
  refine conv_call W₁ hroom hq fun h₂ tk₂ t₂ k₂ => ?_
  have X₂ := InCallC.kp (tk := tk₂) X₁ k₂
  refine stC X₂ rfl fun h₃ tk₃ X₃ q₃ _ => ?_
  have W₃ : Wd w h₃ := W.kp X₃.toInCall.keep
  have I₃ : InstAt h₃ x (instObj 182 dx) 182 (some (dictOf es n)) := ⟨X₃.toInCall.keep _ _ I.at_, I.cls, I.no, X₃.toInCall.keep _ _ I.dict⟩
  have hl₃ : h₃.IsList l items := hl.at fun o e => X₃.toInCall.keep _ _ e
  have hr₃ := hr.ks (Ks.of X₃.toInCall.keep)
  clear X₁ X₂ q₃ k₂
  refine gen_state X₃ fun s₃ Y₃ e₃ => ?_
  clear X₃
  have e₃ : h₃ = s₃.heap := e₃
  subst e₃
  have hc1 : s₃.heap.IsCell _ (some (.str (Txt.lower nm) t₂)) := Y₃.cell (Str.ofString "name") _ rfl
  refine wpAny_execs_cons (wpAny_Return_some ?_)
  refine compE (fun i => Txt.lower (rows.getD i ("", "")).1 == Txt.lower nm) (fun _ i _ y => ∃ t, y = .str (rows.getD i ("", "")).2 t) (fun _ _ _ _ _ f _ => f) rfl (by decide) rfl (by decide) rfl (Attribute_name (nmL Y₃ rfl ?_))
  refine get_value W₃.X I₃ (plainGet_of (K := hd.heap_39 w.params) (C := 182) (name := "_headers") (by k_dflt k_is)).1 (findObj_own (by k_dflt k_is) (by k_dflt k_is) (by k_dflt k_is) e1) rfl ?_
  refine src_list hh hl₃ fun I' s₄ S => ⟨I', items.size, _, rfl, by rw [sizeLine_eq, hr.size]; omega, S.of rfl Kp.rfl, ?_, ?_⟩
  · refine ⟨fun C i v s₃ m₃ E' hi hP hn hm k => ?_, fun C i v s₃ m₃ E' n₀ hi hP _ hn hm k hz => ?_⟩
    · obtain ⟨T, u1, u2, eT, tT⟩ := hr₃.at_ i (by rw [← hr.size]; exact hi)
      have hP : items[i]? = some v := hP
      rw [eT] at hP
      cases hP
      have hlen : (rows.getD i ("", "")).1.length ≤ 1000 := hs _ (getD_mem (by rw [← hr.size]; exact hi))
      have tT := (Ks.of k).tup tT
      refine wpAny_tests_one (wpAny_isTrue_Compare1 (MethodCall_ (Subscript_ (nmX hn hm (wpAny_Constant_int (tup_item (l := [_, _]) (j := 0) tT (by decide) (by decide) rfl rfl ?_))))))
      refine PySem.GM.lower (PyProof.Rows.callWith_method0 (PyProof.Rows.SCL.lower (by omega) fun _ => nmF (by rfl) (hc1.keeps k) (PyProof.Rows.eq_str (wpAny_truthy_bool ⟨rfl, Keeps.tok _ _⟩))))
    · obtain ⟨T, u1, u2, eT, tT⟩ := hr₃.at_ i (by rw [← hr.size]; exact hi)
      have hP : items[i]? = some v := hP
      rw [eT] at hP
      cases hP
      have tT := (Ks.of k).tup tT
      exact Subscript_ (nmX hn hm (wpAny_Constant_int (tup_item (l := [_, _]) (j := 1) tT (by decide) (by decide) rfl rfl ⟨⟨_, rfl⟩, Keeps.self _⟩)))
  · intro n₀ D h' tk ys hD hl' hp k _
    obtain ⟨h₉, tk₉, rfl⟩ := Y₃.toInCall.same
    refine h h' tk D ys ?_ hl' (by rw [← hr.size]; exact hp) (fun b o e => k b o (Y₃.toInCall.keep b o e))
    cases q : s.heap.get? D with
    | none => rfl
    | some o => have := Y₃.toInCall.keep _ _ q; rw [hD] at this; cases this
end
end Mine
end

section
open PySem PySem.W PySem.Calls PyProof.Rows PySem.Spec
set_option maxRecDepth 100000
namespace Mine
def cA (N : Int) : Int := (N.fdiv 6).fmod 4
def cB (N : Int) : Int := 3 - (N.fdiv 24).fmod (cA N + 1)
def c0 (N : Int) : Int := N.fmod 6
def c1 (N : Int) : Int := (N + cA N).fmod 6
def c2 (N : Int) : Int := (N + cA N + cB N).fmod 6
theorem cA_nn (N : Int) : 0 ≤ cA N := Int.fmod_nonneg_of_pos _ (by decide)
theorem cA_lt (N : Int) : cA N < 4 := Int.fmod_lt_of_pos _ (by decide)
section
variable {w : World} {A : Around} {E : Value → Shared → Prop} {s : Shared} {Q : Value → Shared → Prop}
set_option maxHeartbeats 4000000 in
theorem corners_call {N : Int} {t : Tok} (W : Wd w s.heap) (hroom : A.depth < recursionLimit)
    (h : ∀ h' tk D t1 t2 t3, Kp s.heap h' → s.heap.objs.size ≤ D → Lst h' D #[.int (c0 N) t1, .int (c1 N) t2, .int (c2 N) t3] → Q (.ref D) { s with heap := h', toks := tk }) :
    wpAny (model PW w) A (call (.ref 221) [.int N t]) Q E s := by
  refine' call_pure (binds := [(Str.ofString "number", .int N t)]) W.X W.lim hroom ?ho ?hcd ?hb ?hl ?c1 ?c2 ?c3 ?c4 ?_
  case ho => k_dflt k_is
  case hcd => k_dflt k_is
  case hb => exact BindsTo.of_eq rfl
  case hl => exact locs rfl
  case c2 => exact rfl
  case c3 => exact rfl
  case c4 => exact rfl
  case c1 => decide
  intro h₁ F
  refine wpAny_execs_cons (wpAny_Assign_Name (wpAny_BinOp (wpAny_BinOp (ld F rfl (wpAny_Constant_int (PyProof.Rows.floordiv_int (by decide) ?_ (Or.inl (PyProof.noPylong_small (by decide)))))))))
  refine wpAny_Constant_int (PyProof.Rows.mod_int (by decide) (st F fun h₂ F₂ => ?_))
  clear F
  refine wpAny_execs_cons (wpAny_Assign_Name (wpAny_BinOp (wpAny_Constant_int (wpAny_BinOp (wpAny_BinOp (ld F₂ rfl (wpAny_Constant_int (PyProof.Rows.floordiv_int (by decide) ?_ (Or.inl (PyProof.noPylong_small (by decide)))))))))))
  refine wpAny_BinOp (ld F₂ rfl (wpAny_Constant_int (PyProof.Rows.add_int (PyProof.Rows.mod_int ?_ (PyProof.Rows.sub_int (st F₂ fun h₃ F₃ => ?_))))))
  · have := cA_nn N
    show cA N + 1 ≠ 0
    omega
  clear F₂
  refine wpAny_execs_cons (wpAny_Return_some (List_ (args_cons (wpAny_BinOp (ld F₃ rfl (wpAny_Constant_int (PyProof.Rows.mod_int (by decide) ?_)))))))
  refine args_cons (wpAny_BinOp (wpAny_BinOp (ld F₃ rfl (ld F₃ rfl (PyProof.Rows.add_int (wpAny_Constant_int (PyProof.Rows.mod_int (by decide) ?_)))))))
  refine args_cons (wpAny_BinOp (wpAny_BinOp (wpAny_BinOp (ld F₃ rfl (ld F₃ rfl (PyProof.Rows.add_int (ld F₃ rfl (PyProof.Rows.add_int (wpAny_Constant_int (PyProof.Rows.mod_int (by decide) (args_nil ?_)))))))))))
  refine newList_N F₃ (News.nil _ _ _) fun h₄ F₄ N₄ => ?_
  refine h h₄ _ _ _ _ _ F₄.keep (Nat.le_of_lt F₃.ns.lt) ⟨_, (N₄ _ (.head _)).1⟩
end
end Mine
end

section
open PySem PySem.W PySem.Calls PyProof.Rows PySem.Spec
set_option maxRecDepth 100000
namespace Mine
theorem ints3 {vs : List Value} {x y z : Int} (h : IntsAre vs [x, y, z]) : ∃ t u v, vs = [.int x t, .int y u, .int z v] := by
  cases h with
  | cons a t h => cases h with
    | cons b u h => cases h with
      | cons c v h => cases h; exact ⟨t, u, v, rfl⟩
def aroundB (x y z : Int) : Bool := decide (y - x ≤ 3) && (decide (z - y ≤ 3) && decide (x + 6 - z ≤ 3))
section
variable {w : World} {A : Around} {E : Value → Shared → Prop} {s : Shared} {Q : Value → Shared → Prop}
set_option maxHeartbeats 4000000 in
theorem around_call {l : Addr} {vs : List Value} {ns : List Int} {x y z : Int} (W : Wd w s.heap) (hh : A.handled = none) (hroom : A.depth < recursionLimit) (hl : s.heap.IsList l vs.toArray) (hi : IntsAre vs ns) (hs : sortI ns = [x, y, z])
    (h : ∀ h' tk, Kp s.heap h' → Q (.bool (aroundB x y z)) { s with heap := h', toks := tk }) :
    wpAny (model PW w) A (call (.ref 233) [.ref l]) Q E s := by
  have hlen : vs.length = 3 := by
    have := hi.length
    have h2 := congrArg List.length hs
    rw [(sortI_perm ns).length_eq] at h2
    simp at h2
    omega
  refine' call_pure (binds := [(Str.ofString "corners", .ref l)]) W.X W.lim hroom ?ho ?hcd ?hb ?hl ?c1 ?c2 ?c3 ?c4 ?_
  case ho => k_dflt k_is
  case hcd => k_dflt k_is
  case hb => exact BindsTo.of_eq rfl
  case hl => exact locs rfl
  case c2 => exact rfl
  case c3 => exact rfl
  case c4 => exact rfl
  case c1 => decide
  intro h₁ F
  refine wpAny_execs_cons (Assign_Tuple (Call_ (nmB F W (by k_dflt k_is) PyProof.Rows.boot_sorted (PyProof.Rows.callWith_builtin1 (args_cons (ld F rfl (args_nil ?_)))))))
  refine sorted_N F (News.nil _ _ _) (hl.at fun o e => F.keep _ _ e) hi (by omega) fun h₂ vs' ns' e F₂ N₂ hi' hp hs' => ?_
  have e3 : ns' = [x, y, z] := (eq_sortI hp hs').trans hs
  rw [e3] at hi'
  obtain ⟨t, u, v, rfl⟩ := ints3 hi'
  refine kun_list F₂ N₂ ⟨_, (N₂ _ (.head _)).1, rfl, _, rfl⟩ hh rfl rfl fun h₃ F₃ N₃ => ?_
  clear F₂ N₂
  refine assignInOrder_cons (wpAny_assign_Name (st F₃ fun h₄ F₄ => assignInOrder_cons (wpAny_assign_Name (st F₄ fun h₅ F₅ => assignInOrder_cons (wpAny_assign_Name (st F₅ fun h₆ F₆ => assignInOrder_nil ?_))))))
  clear F₃ F₄ F₅ N₃
  refine wpAny_execs_cons (wpAny_Return_some ?_)
  refine BoolOp_and (wpAny_Compare1 (wpAny_BinOp (ld F₆ rfl (ld F₆ rfl (PyProof.Rows.sub_int (wpAny_Constant_int (PyProof.Rows.le_int (wpAny_truthy_bool (ite_both (fun q1 => ?_) (fun q1 => ?_))))))))))
  · refine BoolOp_and (wpAny_Compare1 (wpAny_BinOp (ld F₆ rfl (ld F₆ rfl (PyProof.Rows.sub_int (wpAny_Constant_int (PyProof.Rows.le_int (wpAny_truthy_bool (ite_both (fun q2 => ?_) (fun q2 => ?_))))))))))
    · refine BoolOp_one (wpAny_Compare1 (wpAny_BinOp (wpAny_BinOp (ld F₆ rfl (wpAny_Constant_int (PyProof.Rows.add_int (ld F₆ rfl (PyProof.Rows.sub_int (wpAny_Constant_int (PyProof.Rows.le_int ?_))))))))))
      have e : aroundB x y z = decide (x + 6 - z ≤ 3) := by unfold aroundB; rw [q1, q2]; rfl
      rw [e] at h
      exact h _ _ F₆.keep
    · have e : aroundB x y z = decide (z - y ≤ 3) := by unfold aroundB; rw [q1, q2]; rfl
      rw [e] at h
      exact h _ _ F₆.keep
  · have e : aroundB x y z = decide (y - x ≤ 3) := by unfold aroundB; rw [q1]; rfl
    rw [e] at h
    exact h _ _ F₆.keep
end
end Mine
end

section
open PySem PySem.W PySem.Calls PyProof.Rows PySem.Spec
set_option maxRecDepth 100000
namespace Mine
/-- law's own statements and names, read from the given program -/
def lawDef : List Stmt × Scope := match PySem.Challenge.pw_pg0287_01.main.body.getLast? with
  | some (.FunctionDef _ _ b _ _ _ sc _ _ _) => (b, sc)
  | _ => ([], { kind := .function, names := [], isGenerator := false, isCoroutine := false })
def lk : List (Str × Value) → Str → Option Value
  | [] => fun _ => none
  | (n, v) :: r => fun y => if y = n then some v else lk r y
abbrev lawEnv (L : Addr) (cd : Value) : Env := envOfC "law" lawDef.2 L 238 cd
section
variable {w : World} {A : Around} {E : Value → Shared → Prop} {s s₀ : Shared} {L : Addr} {cd : Value} {cv lv : List (Str × Value)}
theorem ints_ex : ∀ {l : List Value}, (∀ v ∈ l, ∃ n t, v = .int n t) → ∃ ms, IntsAre l ms
  | [], _ => ⟨[], .nil⟩
  | v :: l, h => by
    obtain ⟨n, t, rfl⟩ := h v (.head _)
    obtain ⟨ms, q⟩ := ints_ex (l := l) fun v hv => h v (.tail _ hv)
    exact ⟨n :: ms, .cons n t q⟩
theorem ints_each {l : List Value} {ms : List Int} (h : IntsAre l ms) : ∀ v ∈ l, ∃ n t, v = .int n t := by
  induction h with
  | nil => intro v hv; cases hv
  | cons n t _ ih =>
    intro v hv
    rcases List.mem_cons.mp hv with rfl | hv
    · exact ⟨n, t, rfl⟩
    · exact ih v hv
theorem ints_pick {vs : List Value} {ns : List Int} (h : IntsAre vs ns) (lo hi st : Option Int) : ∃ ms, IntsAre (slicePick vs.toArray lo hi st).toList ms := by
  refine ints_ex fun v hv => ?_
  unfold slicePick at hv
  obtain ⟨i, _, e⟩ := List.mem_filterMap.mp (by simpa using hv)
  exact ints_each h v (by simpa using List.mem_of_getElem? e)
theorem sum_ints {Q : Value → Shared → Prop} {l : Addr} {vs : List Value} {ns : List Int} (hh : A.handled = none) (hl : s.heap.IsList l vs.toArray) (hi : IntsAre vs ns)
    (h : ∀ h' tk t' n, Kp s.heap h' → Q (.int n t') { s with heap := h', toks := tk }) : wpAny (model PW w) A (call (.builtin "sum") [.ref l]) Q E s := by
  obtain ⟨xs, hx⟩ := hi.allInts.items
  rw [hx] at hl
  exact sum_intListG hh hl fun h' tk t' hk => h h' tk t' _ hk
theorem newListX {M : Model} {A : Around} {E : Value → Shared → Prop} {s : Shared} {vs : List Value} {Q : Value → Shared → Prop} (h : ∀ h', Kp s.heap h' → Lst h' s.heap.objs.size vs.toArray → Q (.ref s.heap.objs.size) { s with heap := h' }) (hsz : vs.length ≤ sizeLine) : wpAny M A (newList vs) Q E s :=
  wpAny_newObj_type (h _ (fun b o e => Heap.get?_push_of_some _ e) ⟨_, Heap.get?_push_size _ rfl⟩) (by show vs.toArray.size ≤ sizeLine; rw [List.size_toArray]; exact hsz)
theorem pair3 {ys : Array Value} (h : Pair2 (fun _ y => ∃ n t, y = .int n t) ((List.range 3).filter (fun _ => true)) ys.toList) : ∃ n0 n1 n2 t0 t1 t2, ys = #[.int n0 t0, .int n1 t1, .int n2 t2] := by
  have e : (List.range 3).filter (fun _ => true) = [0, 1, 2] := by decide
  rw [e] at h
  obtain ⟨l⟩ := ys
  simp only at h
  cases h with
  | cons h0 r0 => cases r0 with
    | cons h1 r1 => cases r1 with
      | cons h2 r2 => cases r2 with
        | nil =>
          obtain ⟨a, t, rfl⟩ := h0
          obtain ⟨b, u, rfl⟩ := h1
          obtain ⟨c, v, rfl⟩ := h2
          exact ⟨a, b, c, t, u, v, rfl⟩
theorem ns_ne {h : Heap} {L C : Addr} {m : Str → Option Value} (x : h.Ns L m) (hC : h.get? C = none) : L ≠ C := by
  rintro rfl
  obtain ⟨o, _, _, ho, _⟩ := x
  rw [hC] at ho; cases ho
theorem cell_none {L C : Addr} {m cm : Str → Option Value} {cs : List (Str × Addr)} (X : InCallC s₀ L m cs cm s) (hC : s.heap.get? C = none) : s₀.heap.get? C = none := by
  cases q : s₀.heap.get? C with
  | none => rfl
  | some o => have := X.toInCall.keep _ _ q; rw [hC] at this; cases this
theorem cell_ne {L C : Addr} {m cm : Str → Option Value} {cs : List (Str × Addr)} {n : Str} {c : Addr} (X : InCallC s₀ L m cs cm s) (hC : s.heap.get? C = none) (hc : cs.lookup n = some c) : c ≠ C := by
  rintro rfl
  obtain ⟨o, e, _⟩ := X.cell n c hc
  rw [hC] at e; cases e
set_option maxHeartbeats 4000000 in
theorem st0 {Q : Flow → Shared → Prop} {l : Addr} {vs : List Value} {ns : List Int} (W₀ : Wd w s₀.heap) (hh : A.handled = none) (X : InCallC s₀ (lawEnv L cd).locals (lk []) (lawEnv L cd).cells (lk [("script", .ref l)]) s)
    (hl : s.heap.IsList l vs.toArray) (hi : IntsAre vs ns) (hz : vs.length ≤ 1000)
    (h : ∀ s' D n0 n1 n2 t0 t1 t2, InCallC s₀ (lawEnv L cd).locals (lk [("numbers", .ref D)]) (lawEnv L cd).cells (lk [("script", .ref l)]) s' → s'.heap.IsList D #[.int n0 t0, .int n1 t1, .int n2 t2] → wpAny (model PW w) A (execs (lawDef.1.drop 1) (lawEnv L cd)) Q E s') :
    wpAny (model PW w) A (execs lawDef.1 (lawEnv L cd)) Q E s := by
  have W : Wd w s.heap := W₀.kp X.toInCall.keep
  have hc1 : s.heap.IsCell _ (some (.ref l)) := X.cell (Str.ofString "script") _ rfl
  refine wpAny_execs_cons (compA (fun _ => true) (fun _ _ _ y => ∃ n t, y = .int n t) (fun _ _ _ _ _ f _ => f) rfl (by decide) rfl (by decide) rfl (by rfl) (Call_ (nmBe W (by k_dflt k_is) PyProof.Rows.boot_range (Pv.callWith_type1 (args_cons (wpAny_Constant_int (args_nil (iter_range1 (n := 3) hh (by decide) (by decide) fun I s₂ S => ⟨I, 3, _, rfl, by rw [sizeLine_eq]; decide, S.of rfl Kp.rfl, ?_, ?_⟩))))))))
  · refine ⟨fun C i v s₃ m₃ E' hi hP hn hm k => wpAny_tests_nil ⟨rfl, Keeps.self _⟩, fun C i v s₃ m₃ E' n₀ hi' hP _ hn hm k hz => ?_⟩
    obtain ⟨t, rfl⟩ := hP
    have k₃ := k
    have W₃ : Wd w s₃.heap := W.kp k
    have hl₃ : s₃.heap.IsList l vs.toArray := hl.at fun o e => k _ _ e
    refine wpAny_BinOp (Call_ (nmBe W₃ (by k_dflt k_is) PyProof.Rows.boot_sum (PyProof.Rows.callWith_builtin1 (args_cons (Subscript_ (nmF (by rfl) (hc1.keeps k) (wpAny_Slice (evalPart_some_step (nmX hn hm (evalPart_none_step (evalPart_some_step (wpAny_Constant_int ?_))))))))))))
    refine subscriptTail_ops (T := "list") (Heap.IsList.typeIs (s := { s₃ with heap := s₃.heap.push _ }) (hl₃.push _)) list_getitem_lookup (wpAny_getItem_list_slice (hl₃.push _) (Heap.IsSliceOf.new ..) (.int _ _) .none (.int _ _) (by decide) ?_ ?_) (by with_unfolding_all rfl) (by intro _; with_unfolding_all rfl)
    · obtain ⟨ms, hm'⟩ := ints_pick hi (some (0 + (i : Int))) none (some 3)
      refine args_nil (sum_ints hh ⟨_, Heap.get?_push_size _ rfl, rfl, _, rfl⟩ hm' fun h₅ tk₅ t₅ n₅ k₅ => ?_)
      have k₆ : Kp s₃.heap h₅ := fun b o e => k₅ b o (Heap.get?_push_of_some _ (Heap.get?_push_of_some _ e))
      refine Subscript_ (List_ (args_cons (wpAny_Constant_int (args_cons (wpAny_Constant_int (args_cons (wpAny_Constant_int (args_nil (newListX (fun h₇ k₇ L₇ => ?_) (by show 3 ≤ sizeLine; rw [sizeLine_eq]; decide))))))))))
      have k₈ : Kp s₃.heap h₇ := fun b o e => k₇ b o (k₆ b o e)
      refine nmX (m := m₃) (hn.at' fun o e => k₈ _ o e) hm ?_
      have hi3 : i = 0 ∨ i = 1 ∨ i = 2 := by omega
      rcases hi3 with rfl | rfl | rfl
      · exact tail_any L₇.is.typeIs slot_list_getitem.lookup (wpAny_getItem_list L₇.is (by decide) (by decide) rfl (PyProof.Rows.add_int ⟨⟨_, _, rfl⟩, _, _, rfl, k₈⟩)) rfl
      · exact tail_any L₇.is.typeIs slot_list_getitem.lookup (wpAny_getItem_list L₇.is (by decide) (by decide) rfl (PyProof.Rows.add_int ⟨⟨_, _, rfl⟩, _, _, rfl, k₈⟩)) rfl
      · exact tail_any L₇.is.typeIs slot_list_getitem.lookup (wpAny_getItem_list L₇.is (by decide) (by decide) rfl (PyProof.Rows.add_int ⟨⟨_, _, rfl⟩, _, _, rfl, k₈⟩)) rfl
    · rw [sizeLine_eq, List.size_toArray]; omega
  · intro n₀ D C h' tk ys hD hC hDC hl' hp k _ _
    obtain ⟨n0, n1, n2, t0, t1, t2, rfl⟩ := pair3 hp
    have X' := InCallC.kp (tk := tk) X k
    have hLC : (lawEnv L cd).locals ≠ C := ns_ne X.toInCall.ns hC
    have hLD : (lawEnv L cd).locals ≠ D := ns_ne X.toInCall.ns hD
    refine wpAny_assign_Name (stL X' fun h₂ tk₂ X₂ _ keep => ⟨fun o e => keep C o (Ne.symm hLC) e, fun h₃ hs₃ => ?_⟩)
    have X₃ := InCallC.but X₂ hs₃ hLC (cell_none X hC) (fun n c hc => cell_ne X hC hc)
    exact h _ D n0 n1 n2 t0 t1 t2 X₃ ((hl'.at fun o e => keep D o (Ne.symm hLD) e).extBut hs₃.extBut hDC)
end
end Mine
end

section
open PySem PySem.W PySem.Calls PyProof.Rows PySem.Spec
set_option maxRecDepth 100000
namespace Mine
theorem pair3g {F : Nat → Value → Prop} {ys : Array Value} (h : Pair2 F ((List.range 3).filter (fun _ => true)) ys.toList) : ∃ y0 y1 y2, ys = #[y0, y1, y2] ∧ F 0 y0 ∧ F 1 y1 ∧ F 2 y2 := by
  have e : (List.range 3).filter (fun _ => true) = [0, 1, 2] := by decide
  rw [e] at h
  obtain ⟨l⟩ := ys
  simp only at h
  cases h with
  | cons h0 r0 => cases r0 with
    | cons h1 r1 => cases r1 with
      | cons h2 r2 => cases r2 with
        | nil => exact ⟨_, _, _, rfl, h0, h1, h2⟩
theorem Lst.ks {h h' : Heap} {l : Addr} {items : Array Value} (x : Lst h l items) (k : Ks h h') : Lst h' l items := by
  obtain ⟨n, e⟩ := x
  exact ⟨n, k _ _ e ⟨_, _, rfl⟩⟩
theorem Lst.but {h h' : Heap} {l C : Addr} {items : Array Value} (x : Lst h l items) (hs : Heap.SameBut C h h') (hl : l ≠ C) : Lst h' l items := by
  obtain ⟨n, e⟩ := x
  exact ⟨n, hs.extBut _ _ hl e⟩
theorem Ks.but {h₀ h h' : Heap} {C : Addr} (k : Ks h₀ h) (hs : Heap.SameBut C h h') (hC : h₀.get? C = none) : Ks h₀ h' := fun b o e d => hs.extBut b o (by rintro rfl; rw [hC] at e; cases e) (k b o e d)
section
variable {w : World} {A : Around} {E : Value → Shared → Prop} {s s₀ : Shared} {L : Addr} {cd : Value} {cv lv : List (Str × Value)} {Q : Flow → Shared → Prop}
set_option maxHeartbeats 4000000 in
theorem st1 (X : InCallC s₀ (lawEnv L cd).locals (lk lv) (lawEnv L cd).cells (lk cv) s)
    (h : ∀ s' D t0 t1 t2, InCallC s₀ (lawEnv L cd).locals (lk (("names", .ref D) :: lv)) (lawEnv L cd).cells (lk cv) s' → Ks s.heap s'.heap → s'.heap.IsList D #[.str "lid" t0, .str "rim" t1, .str "hub" t2] → wpAny (model PW w) A (execs (lawDef.1.drop 2) (lawEnv L cd)) Q E s') :
    wpAny (model PW w) A (execs (lawDef.1.drop 1) (lawEnv L cd)) Q E s := by
  refine wpAny_execs_cons (wpAny_Assign_Name ?_)
  refine List_ (args_cons (wpAny_Constant_str (args_cons (wpAny_Constant_str (args_cons (wpAny_Constant_str (args_nil (newListX (fun h₁ k₁ L₁ => ?_) (by show 3 ≤ sizeLine; rw [sizeLine_eq]; decide)))))))))
  exact stL (InCallC.kp (tk := _) (X.tok _) k₁) fun h₂ tk₂ X₂ ks _ => h _ _ _ _ _ X₂ ((Ks.of k₁).trans ks) (ks.lst L₁.is)
set_option maxHeartbeats 4000000 in
theorem st2 {D0 : Addr} {n0 n1 n2 : Int} {t0 t1 t2 : Tok} (W₀ : Wd w s₀.heap) (hh : A.handled = none) (hroom : A.depth < recursionLimit) (X : InCallC s₀ (lawEnv L cd).locals (lk lv) (lawEnv L cd).cells (lk cv) s) (hn : lk lv "numbers" = some (.ref D0)) (hl : s.heap.IsList D0 #[.int n0 t0, .int n1 t1, .int n2 t2])
    (h : ∀ s' D a0 a1 a2, InCallC s₀ (lawEnv L cd).locals (lk (("corners", .ref D) :: lv)) (lawEnv L cd).cells (lk cv) s' → Ks s.heap s'.heap → s'.heap.IsList D #[.ref a0, .ref a1, .ref a2] →
      (∃ u0 u1 u2, Lst s'.heap a0 #[.int (c0 n0) u0, .int (c1 n0) u1, .int (c2 n0) u2]) → (∃ u0 u1 u2, Lst s'.heap a1 #[.int (c0 n1) u0, .int (c1 n1) u1, .int (c2 n1) u2]) → (∃ u0 u1 u2, Lst s'.heap a2 #[.int (c0 n2) u0, .int (c1 n2) u1, .int (c2 n2) u2]) →
      wpAny (model PW w) A (execs (lawDef.1.drop 3) (lawEnv L cd)) Q E s') :
    wpAny (model PW w) A (execs (lawDef.1.drop 2) (lawEnv L cd)) Q E s := by
  have W : Wd w s.heap := W₀.kp X.toInCall.keep
  refine wpAny_execs_cons (compA (fun _ => true) (fun n₀ i h y => ∃ D u0 u1 u2, y = .ref D ∧ n₀ ≤ D ∧ Lst h D #[.int (c0 ([n0, n1, n2].getD i 0)) u0, .int (c1 ([n0, n1, n2].getD i 0)) u1, .int (c2 ([n0, n1, n2].getD i 0)) u2]) ?hF rfl (by decide) rfl (by decide) rfl (by rfl) (nmL X hn (src_list hh hl fun I s₂ S => ⟨I, 3, _, rfl, by rw [sizeLine_eq]; decide, S, ?_, ?_⟩)))
  case hF =>
    rintro m₀ i h h' y ⟨D, u0, u1, u2, e, hm, n, q⟩ k
    exact ⟨D, u0, u1, u2, e, hm, n, k D _ hm q⟩
  · refine ⟨fun C i v s₃ m₃ E' hi hP hn hm k => wpAny_tests_nil ⟨rfl, Keeps.self _⟩, fun C i v s₃ m₃ E' n₀ hi hP _ hn hm k hz => ?_⟩
    have W₃ : Wd w s₃.heap := W.kp k
    have hv : ∃ t, v = .int ([n0, n1, n2].getD i 0) t := by
      have hP : (#[Value.int n0 t0, .int n1 t1, .int n2 t2])[i]? = some v := hP
      have hi3 : i = 0 ∨ i = 1 ∨ i = 2 := by omega
      rcases hi3 with rfl | rfl | rfl <;> (cases hP; exact ⟨_, rfl⟩)
    obtain ⟨t, rfl⟩ := hv
    exact Call_ (nmGe W₃ (by k_dflt k_is) (callWith_K W₃.X (by k_dflt k_is) (args_cons (nmX hn hm (args_nil ⟨W₃.X, corners_call W₃ hroom fun h' tk D t1 t2 t3 k' hD hL => ⟨⟨D, t1, t2, t3, rfl, Nat.le_trans hz hD, hL⟩, _, _, rfl, k'⟩⟩)))))
  · intro n₀ D C h' tk ys hD hC hDC hl' hp k _ hCn
    obtain ⟨y0, y1, y2, rfl, ⟨d0, a0, b0, e0, rfl, m0, L0⟩, ⟨d1, a1, b1, e1, rfl, m1, L1⟩, ⟨d2, a2, b2, e2, rfl, m2, L2⟩⟩ := pair3g hp
    have X' := InCallC.kp (tk := tk) X k
    have hLC : (lawEnv L cd).locals ≠ C := ns_ne X.toInCall.ns hC
    have hLD : (lawEnv L cd).locals ≠ D := ns_ne X.toInCall.ns hD
    refine wpAny_assign_Name (stL X' fun h₂ tk₂ X₂ ks keep => ⟨fun o e => keep C o (Ne.symm hLC) e, fun h₃ hs₃ => ?_⟩)
    have X₃ := InCallC.but X₂ hs₃ hLC (cell_none X hC) (fun n c hc => cell_ne X hC hc)
    have far : ∀ d, n₀ ≤ d → d ≠ C := fun d hd q => absurd (Nat.lt_of_lt_of_le hCn hd) (by rw [q]; exact Nat.lt_irrefl _)
    exact h _ D d0 d1 d2 X₃ (((Ks.of k).trans ks).but hs₃ hC) ((hl'.at fun o e => keep D o (Ne.symm hLD) e).extBut hs₃.extBut hDC)
      ⟨_, _, _, (L0.ks ks).but hs₃ (far _ m0)⟩ ⟨_, _, _, (L1.ks ks).but hs₃ (far _ m1)⟩ ⟨_, _, _, (L2.ks ks).but hs₃ (far _ m2)⟩
end
end Mine
end

section
open PySem PySem.W PySem.Calls PyProof.Rows PySem.Spec
set_option maxRecDepth 100000
namespace Mine
/-- an address that is neither the frame's table nor one of its cells -/
structure Out (env : Env) (a : Addr) : Prop where
  l : a ≠ env.locals
  c : ∀ n c, env.cells.lookup n = some c → a ≠ c
section
variable {w : World} {A : Around} {E : Value → Shared → Prop} {s s₀ : Shared} {L : Addr} {cd : Value} {cv lv : List (Str × Value)} {Q : Flow → Shared → Prop}
theorem out_of {env : Env} {m cm : Str → Option Value} {a : Addr} (X : InCallC s₀ env.locals m env.cells cm s) (ha : s.heap.get? a = none) : Out env a :=
  ⟨Ne.symm (ns_ne X.toInCall.ns ha), fun _ _ hc => Ne.symm (cell_ne X ha hc)⟩
set_option maxHeartbeats 4000000 in
theorem st3 (W₀ : Wd w s₀.heap) (hh : A.handled = none) (hroom : A.depth + 1 < recursionLimit) (X : InCallC s₀ (lawEnv L cd).locals (lk lv) (lawEnv L cd).cells (lk cv) s)
    (h : ∀ s' x dx l, InCallC s₀ (lawEnv L cd).locals (lk (("table", .ref x) :: lv)) (lawEnv L cd).cells (lk cv) s' → Ks s.heap s'.heap → Hdr s'.heap x dx l → Lst s'.heap l #[] → Out (lawEnv L cd) x → Out (lawEnv L cd) dx → Out (lawEnv L cd) l → s₀.heap.get? l = none →
      wpAny (model PW w) A (execs (lawDef.1.drop 4) (lawEnv L cd)) Q E s') :
    wpAny (model PW w) A (execs (lawDef.1.drop 3) (lawEnv L cd)) Q E s := by
  have W : Wd w s.heap := W₀.kp X.toInCall.keep
  refine wpAny_execs_cons (wpAny_Assign_Name (Call_ (nmGe W (by k_dflt k_is) (callWith_K0 W.X (by k_dflt k_is) ?_))))
  refine hdr_new W hh hroom fun h₁ tk₁ x dx l k₁ H L₁ hx hdx hl => ?_
  have ox := out_of X hx
  have odx := out_of X hdx
  exact stL (InCallC.kp (tk := tk₁) X k₁) fun h₂ tk₂ X₂ ks keep => h _ x dx l X₂ ((Ks.of k₁).trans ks) (H.ks (fun o e => keep _ o ox.l e) (fun o e => keep _ o odx.l e)) (L₁.ks ks) ox odx (out_of X hl) (cell_none X hl)
end
end Mine
end

section
open PySem PySem.W PySem.Calls PyProof.Rows PySem.Spec
set_option maxRecDepth 100000
namespace Mine
/-- all stays but the frame's table and its cells -/
def Kx (env : Env) (h h' : Heap) : Prop := ∀ b o, Out env b → h.get? b = some o → h'.get? b = some o
theorem Kx.trans {env : Env} {a b c : Heap} (x : Kx env a b) (y : Kx env b c) : Kx env a c := fun i o p e => y i o p (x i o p e)
theorem Kx.of {env : Env} {h h' : Heap} (k : Kp h h') : Kx env h h' := fun b o _ e => k b o e
theorem Hdr.kx {env : Env} {h h' : Heap} {x dx l : Addr} (H : Hdr h x dx l) (k : Kx env h h') (ox : Out env x) (odx : Out env dx) : Hdr h' x dx l := H.ks (fun o e => k _ o ox e) (fun o e => k _ o odx e)
section
variable {w : World} {A : Around} {E : Value → Shared → Prop} {s s₀ : Shared} {L : Addr} {cd : Value} {cv lv : List (Str × Value)} {Q : Flow → Shared → Prop}
set_option maxHeartbeats 4000000 in
theorem st5 (X : InCallC s₀ (lawEnv L cd).locals (lk lv) (lawEnv L cd).cells (lk cv) s)
    (h : ∀ s' D, InCallC s₀ (lawEnv L cd).locals (lk lv) (lawEnv L cd).cells (lk (("words", .ref D) :: cv)) s' → Ks s.heap s'.heap → Kx (lawEnv L cd) s.heap s'.heap → Lst s'.heap D #[] → Out (lawEnv L cd) D → s.heap.get? D = none →
      wpAny (model PW w) A (execs (lawDef.1.drop 6) (lawEnv L cd)) Q E s') :
    wpAny (model PW w) A (execs (lawDef.1.drop 5) (lawEnv L cd)) Q E s := by
  refine wpAny_execs_cons (wpAny_Assign_Name (List_ (args_nil (newListX (fun h₁ k₁ L₁ => ?_) (Nat.zero_le _)))))
  have hD : s.heap.get? s.heap.objs.size = none := none_size _
  exact stC (InCallC.kp (tk := _) X k₁) rfl fun h₂ tk₂ X₂ ks keep => h _ _ X₂ ((Ks.of k₁).trans ks) ((Kx.of k₁).trans fun b o ob e => keep b o (ob.c (Str.ofString "words") _ rfl) e) (L₁.ks ks) (out_of X hD) hD
end
end Mine
end

section
open PySem PySem.W PySem.Calls PyProof.Rows PySem.Spec
set_option maxRecDepth 100000
namespace Mine
open PySem.F in
theorem typeCall_zip_3 (a b c : Value) : checkTypeCall "zip" ⟨[a, b, c], []⟩ = pure () := by kernel_rfl
theorem newCall_zip_3 (a b c : Value) : checkBuiltinCall "zip.__new__" ⟨[.type "zip", a, b, c], []⟩ = pure () := by kernel_rfl
theorem args_object_init_4 (a b c d : Value) : argsOk "object.__init__" ⟨[a, b, c, d], []⟩ := by
  unfold argsOk; rw [signature?_of (id := "object.__init__") (n := ['_', '_', 't', 'i', 'n', 'i', '_', '_']) (o := ['t', 'c', 'e', 'j', 'b', 'o']) (by kernel_rfl) PySem.F.owner_object]; kernel_rfl
abbrev itO (l : Addr) : Obj := { cls := .type "list_iterator", data := .fields #[.ref l, .int 0 0] }
abbrev tup3 (a b c : Value) : Obj := { cls := .type "tuple", data := .seq #[a, b, c] }
abbrev zipO (n : Nat) (f0 : Value) : Obj := { cls := .type "zip", dict := none, data := .fields #[f0, .bool false, .bool false, .ref (n + 3), .ref (n + 4)], slots := #[] }
abbrev z3 (h : Heap) (l1 l2 l3 : Addr) : Heap := ((h.push (itO l1)).push (itO l2)).push (itO l3)
abbrev z6 (h : Heap) (l1 l2 l3 : Addr) : Heap := (((z3 h l1 l2 l3).push (tup3 (.ref h.objs.size) (.ref (h.push (itO l1)).objs.size) (.ref ((h.push (itO l1)).push (itO l2)).objs.size))).push (tup3 .none .none .none)).push
  { cls := .type "zip", data := .fields #[.none, .bool false, .bool false, .ref (z3 h l1 l2 l3).objs.size, .ref ((z3 h l1 l2 l3).push (tup3 (.ref h.objs.size) (.ref (h.push (itO l1)).objs.size) (.ref ((h.push (itO l1)).push (itO l2)).objs.size))).objs.size] }
set_option maxHeartbeats 4000000 in
theorem meets_zip_new3 (l1 l2 l3 : Addr) (xs ys zs : Array Value) :
    Meets (Builtin.«zip.__new__» ⟨[.type "zip", .ref l1, .ref l2, .ref l3], []⟩) (fun _ R s => s.heap.IsList l1 xs ∧ s.heap.IsList l2 ys ∧ s.heap.IsList l3 zs ∧
      R (.ok (.ret (.ref (s.heap.objs.size + 5)))) { s with heap := z6 s.heap l1 l2 l3 }) :=
  .of_wp fun prog w A R s h => by
    obtain ⟨hp, g, d, tk, os⟩ := s; obtain ⟨hl1, hl2, hl3, h⟩ := h
    have hsub := sub_zip
    have hL1 : Heap.IsList (Shared.heap ⟨hp, g, d, tk, os⟩) l1 xs := hl1
    have hL2 : Heap.IsList (Shared.heap ⟨hp.push (itO l1), g, d, tk, os⟩) l2 ys := Heap.IsList.push hl2 _
    have hL3 : Heap.IsList (Shared.heap ⟨(hp.push (itO l1)).push (itO l2), g, d, tk, os⟩) l3 zs := Heap.IsList.push (Heap.IsList.push hl3 _) _
    wp_walk using wpAny_pyIter_list hL1, wpAny_pyIter_list hL2, wpAny_pyIter_list hL3
    refine ⟨_, rfl, ?_⟩
    simp only [z6, z3, Heap.size_push] at h ⊢
    exact h
end Mine
end

section
open PySem PySem.W PySem.Calls PyProof.Rows PySem.Spec
set_option maxRecDepth 100000
namespace Mine
/-- a zip object over three lists, k turns on -/
structure ZSt (n l1 l2 l3 : Nat) (xs ys zs : Array Value) (f0 : Value) (k : Nat) (h : Heap) : Prop where
  z : h.get? (n + 5) = some (zipO n f0)
  ti : h.get? (n + 3) = some (tup3 (.ref n) (.ref (n + 1)) (.ref (n + 2)))
  to : ∃ a b c, h.get? (n + 4) = some (tup3 a b c)
  i1 : h.IsListIter n l1 k
  i2 : h.IsListIter (n + 1) l2 k
  i3 : h.IsListIter (n + 2) l3 k
  a1 : h.IsList l1 xs
  a2 : h.IsList l2 ys
  a3 : h.IsList l3 zs
section
variable {prog : Program} {w : World} {A : Around} {E : Value → Shared → Prop} {s : Shared}
theorem call_zip_3 {l1 l2 l3 : Addr} {xs ys zs : Array Value} {Q : Value → Shared → Prop} (hl1 : s.heap.IsList l1 xs) (hl2 : s.heap.IsList l2 ys) (hl3 : s.heap.IsList l3 zs)
    (h : ∀ h', ZSt s.heap.objs.size l1 l2 l3 xs ys zs .none 0 h' → Kp s.heap h' → Q (.ref (s.heap.objs.size + 5)) { s with heap := h' }) :
    wpAny (model prog w) A (call (.type "zip") [.ref l1, .ref l2, .ref l3]) Q E s := by
  refine callType_new PySem.F.called_zip (by decide) (typeCall_zip_3 _ _ _) (newCall_zip_3 _ _ _) (fun obj => args_object_init_4 obj _ _ _) PySem.F.entry_zip_new
    (meets_zip_new3 l1 l2 l3 xs ys zs) ⟨hl1, hl2, hl3, ?_⟩
  obtain ⟨hp, g, d, tk, os⟩ := s
  have K : Kp hp (z6 hp l1 l2 l3) := fun c o x => Heap.get?_push_of_some _ (Heap.get?_push_of_some _ (Heap.get?_push_of_some _ (Heap.get?_push_of_some _ (Heap.get?_push_of_some _ (Heap.get?_push_of_some _ x)))))
  have s1 : (hp.push (itO l1)).objs.size = hp.objs.size + 1 := Heap.size_push ..
  have s2 : ((hp.push (itO l1)).push (itO l2)).objs.size = hp.objs.size + 2 := by rw [Heap.size_push, s1]
  have s3 : (z3 hp l1 l2 l3).objs.size = hp.objs.size + 3 := by rw [Heap.size_push, s2]
  have g1 : (z6 hp l1 l2 l3).get? hp.objs.size = some (itO l1) := Heap.get?_push_of_some _ (Heap.get?_push_of_some _ (Heap.get?_push_of_some _ (Heap.get?_push_of_some _ (Heap.get?_push_of_some _ (Heap.get?_push_size _ rfl)))))
  have g2 : (z6 hp l1 l2 l3).get? (hp.push (itO l1)).objs.size = some (itO l2) := Heap.get?_push_of_some _ (Heap.get?_push_of_some _ (Heap.get?_push_of_some _ (Heap.get?_push_of_some _ (Heap.get?_push_size _ rfl))))
  have g3 : (z6 hp l1 l2 l3).get? ((hp.push (itO l1)).push (itO l2)).objs.size = some (itO l3) := Heap.get?_push_of_some _ (Heap.get?_push_of_some _ (Heap.get?_push_of_some _ (Heap.get?_push_size _ rfl)))
  have g4 : (z6 hp l1 l2 l3).get? (z3 hp l1 l2 l3).objs.size = some _ := Heap.get?_push_of_some _ (Heap.get?_push_of_some _ (Heap.get?_push_size _ rfl))
  have g5 : (z6 hp l1 l2 l3).get? ((z3 hp l1 l2 l3).push (tup3 (.ref hp.objs.size) (.ref (hp.push (itO l1)).objs.size) (.ref ((hp.push (itO l1)).push (itO l2)).objs.size))).objs.size = some _ := Heap.get?_push_of_some _ (Heap.get?_push_size _ rfl)
  have g6 : (z6 hp l1 l2 l3).get? (((z3 hp l1 l2 l3).push (tup3 (.ref hp.objs.size) (.ref (hp.push (itO l1)).objs.size) (.ref ((hp.push (itO l1)).push (itO l2)).objs.size))).push (tup3 .none .none .none)).objs.size = some _ := Heap.get?_push_size _ rfl
  have s4 : ((z3 hp l1 l2 l3).push (tup3 (.ref hp.objs.size) (.ref (hp.push (itO l1)).objs.size) (.ref ((hp.push (itO l1)).push (itO l2)).objs.size))).objs.size = hp.objs.size + 4 := by rw [Heap.size_push, s3]
  have s5 : (((z3 hp l1 l2 l3).push (tup3 (.ref hp.objs.size) (.ref (hp.push (itO l1)).objs.size) (.ref ((hp.push (itO l1)).push (itO l2)).objs.size))).push (tup3 .none .none .none)).objs.size = hp.objs.size + 5 := by rw [Heap.size_push, s4]
  rw [s5, s4, s3] at g6
  rw [s4] at g5
  rw [s3, s1, s2] at g4
  rw [s2] at g3
  rw [s1] at g2
  refine ⟨⟨_, g6, rfl⟩, h _ ⟨g6, g4, ⟨_, _, _, g5⟩, ⟨_, g1, rfl, rfl⟩, ⟨_, g2, rfl, rfl⟩, ⟨_, g3, rfl, rfl⟩, hl1.at fun o e => K _ o e, hl2.at fun o e => K _ o e, hl3.at fun o e => K _ o e⟩ K⟩
end
end Mine
end

section
open PySem PySem.W PySem.Calls PyProof.Rows PySem.Spec
set_option maxRecDepth 100000
namespace Mine
section
variable {prog : Program} {w : World} {A : Around} {E : Value → Shared → Prop} {s : Shared}
theorem upd3 {T : Addr} {a b c x : Value} {k : Nat} {Q : Unit → Shared → Prop} (hT : s.heap.get? T = some (tup3 a b c))
    (h : ∀ h', h'.get? T = some { cls := .type "tuple", data := .seq ((#[a, b, c] : Array Value).setIfInBounds k x) } → Heap.SameBut T s.heap h' → Q () { s with heap := h' }) :
    wpAny (model prog w) A (updateSeq T (·.setIfInBounds k x)) Q E s := by
  refine wpAny_updateSeq hT rfl (h _ ?_ (Heap.SameBut.update ..))
  rw [Heap.get?_update_self _ hT rfl]
  simp [Obj.mapSeq]
theorem ZSt.at {n l1 l2 l3 : Nat} {xs ys zs : Array Value} {f0 : Value} {k : Nat} {h h' : Heap} (S : ZSt n l1 l2 l3 xs ys zs f0 k h) (hl : l1 < n ∧ l2 < n ∧ l3 < n) (q : ∀ b o, b ≤ n + 5 → h.get? b = some o → h'.get? b = some o) : ZSt n l1 l2 l3 xs ys zs f0 k h' :=
  ⟨q _ _ (Nat.le_refl _) S.z, q _ _ (by omega) S.ti, by obtain ⟨a, b, c, e⟩ := S.to; exact ⟨a, b, c, q _ _ (by omega) e⟩, S.i1.at fun o e => q _ o (by omega) e, S.i2.at fun o e => q _ o (by omega) e, S.i3.at fun o e => q _ o (by omega) e,
    S.a1.at fun o e => q _ o (by omega) e, S.a2.at fun o e => q _ o (by omega) e, S.a3.at fun o e => q _ o (by omega) e⟩
set_option maxHeartbeats 2000000 in
theorem z_item {n l1 l2 l3 : Nat} {xs ys zs : Array Value} {k : Nat} {x y v : Value} {Q : Value → Shared → Prop} (hl : l1 < n ∧ l2 < n ∧ l3 < n) (S : ZSt n l1 l2 l3 xs ys zs .none k s.heap) (hx : xs[k]? = some x) (hy : ys[k]? = some y) (hv : zs[k]? = some v)
    (hQ : ∀ h', ZSt n l1 l2 l3 xs ys zs (rawInt s.heap.objs.size) (k + 1) h' → h'.get? s.heap.objs.size = some (tup3 x y v) → (∀ c o, c ≠ n + 5 → c ≠ n + 4 → c ≠ n → c ≠ n + 1 → c ≠ n + 2 → s.heap.get? c = some o → h'.get? c = some o) → Q (.ref s.heap.objs.size) { s with heap := h' }) :
    wpAny (model prog w) A (Builtin.«zip.__next__» ⟨[.ref (n + 5)], []⟩) (fun fin s' => ∃ v, fin = .done (.ret v) ∧ Q v s') E s := by
  obtain ⟨a, b, c, hTO⟩ := S.to
  obtain ⟨hl1, hl2, hl3⟩ := hl
  have n1 : (n : Nat) ≠ n + 5 := by omega
  have n2 : (n + 1 : Nat) ≠ n + 5 := by omega
  have n3 : (n + 2 : Nat) ≠ n + 5 := by omega
  have n4 : (n + 4 : Nat) ≠ n + 5 := by omega
  have m1 : (n : Nat) ≠ n + 4 := by omega
  have m2 : (n + 1 : Nat) ≠ n + 4 := by omega
  have m3 : (n + 2 : Nat) ≠ n + 4 := by omega
  have i12 : (n : Nat) ≠ n + 1 := by omega
  have i13 : (n : Nat) ≠ n + 2 := by omega
  have i23 : (n + 1 : Nat) ≠ n + 2 := by omega
  have a5 : ∀ l : Nat, l < n → l ≠ n + 5 := fun l h => by omega
  have a4 : ∀ l : Nat, l < n → l ≠ n + 4 := fun l h => by omega
  have a1 : ∀ l : Nat, l < n → l ≠ n + 1 := fun l h => by omega
  have a2 : ∀ l : Nat, l < n → l ≠ n + 2 := fun l h => by omega
  have a0 : ∀ l : Nat, l < n → l ≠ n := fun l h => by omega
  show wpAny _ _ (field (.ref (n + 5)) 2 >>= _) _ _ _
  refine wpAny_bind (wpAny_field S.z rfl (x := .bool false) rfl ?_)
  show wpAny _ _ (field (.ref (n + 5)) 3 >>= _) _ _ _
  refine wpAny_bind (wpAny_field S.z rfl (x := .ref (n + 3)) rfl ?_)
  refine wpAny_bind (wpAny_seqItems S.ti rfl ?_)
  show wpAny _ _ (Builtin.SmallTypes.ownedTupleIsFree (.ref (n + 5)) >>= _) _ _ _
  refine wpAny_bind ?_
  unfold Builtin.SmallTypes.ownedTupleIsFree
  refine wpAny_bind (wpAny_field S.z rfl (x := .none) rfl (wpAny_pure ?_))
  simp only [if_true]
  refine wpAny_bind (wpAny_rule ?_)
  refine wpAny_bind (wpAny_field S.z rfl (x := .ref (n + 4)) rfl ?_)
  refine wpAny_bind (wpAny_setField_rec S.z (by simp) fun h₁ hz₁ hs₁ => ?_)
  replace hz₁ : h₁.get? (n + 5) = some (zipO n .ellipsis) := hz₁
  refine wpAny_bind ?_
  simp only [List.zipIdx_cons, List.zipIdx_nil, List.forIn_cons, List.forIn_nil]
  refine wpAny_bind (wpAny_bind (wpAny_onRaise ?_))
  show wpAny _ _ (Builtin.SmallTypes.nextOf (.ref n) >>= _) _ _ _
  refine wpAny_bind (wpAny_nextOf_list_item (S.i1.extBut hs₁.extBut n1) (S.a1.extBut hs₁.extBut (a5 _ hl1)) hx fun h₂ h1₂ hs₂ => wpAny_pure ?_)
  have hTO₂ : h₂.get? (n + 4) = some (tup3 a b c) := hs₂.extBut _ _ m1.symm (hs₁.extBut _ _ n4 hTO)
  refine wpAny_bind (wpAny_seqItems hTO₂ rfl ?_)
  refine wpAny_bind (upd3 hTO₂ fun h₃ hTO₃ hs₃ => ?_)
  replace hTO₃ : h₃.get? (n + 4) = some (tup3 x b c) := hTO₃
  refine wpAny_bind (wpAny_letGo (wpAny_pure ?_))
  refine wpAny_bind (wpAny_bind (wpAny_onRaise ?_))
  show wpAny _ _ (Builtin.SmallTypes.nextOf (.ref (n + 1)) >>= _) _ _ _
  refine wpAny_bind (wpAny_nextOf_list_item (((S.i2.extBut hs₁.extBut n2).extBut hs₂.extBut i12.symm).extBut hs₃.extBut m2)
    (((S.a2.extBut hs₁.extBut (a5 _ hl2)).extBut hs₂.extBut (a0 _ hl2)).extBut hs₃.extBut (a4 _ hl2)) hy fun h₄ h2₄ hs₄ => wpAny_pure ?_)
  have hTO₄ : h₄.get? (n + 4) = some (tup3 x b c) := hs₄.extBut _ _ m2.symm hTO₃
  refine wpAny_bind (wpAny_seqItems hTO₄ rfl ?_)
  refine wpAny_bind (upd3 hTO₄ fun h₅ hTO₅ hs₅ => ?_)
  replace hTO₅ : h₅.get? (n + 4) = some (tup3 x y c) := hTO₅
  refine wpAny_bind (wpAny_letGo (wpAny_pure ?_))
  refine wpAny_bind (wpAny_bind (wpAny_onRaise ?_))
  show wpAny _ _ (Builtin.SmallTypes.nextOf (.ref (n + 2)) >>= _) _ _ _
  refine wpAny_bind (wpAny_nextOf_list_item (((((S.i3.extBut hs₁.extBut n3).extBut hs₂.extBut i13.symm).extBut hs₃.extBut m3).extBut hs₄.extBut i23.symm).extBut hs₅.extBut m3)
    (((((S.a3.extBut hs₁.extBut (a5 _ hl3)).extBut hs₂.extBut (a0 _ hl3)).extBut hs₃.extBut (a4 _ hl3)).extBut hs₄.extBut (a1 _ hl3)).extBut hs₅.extBut (a4 _ hl3)) hv fun h₆ h3₆ hs₆ => wpAny_pure ?_)
  have hTO₆ : h₆.get? (n + 4) = some (tup3 x y c) := hs₆.extBut _ _ m3.symm hTO₅
  refine wpAny_bind (wpAny_seqItems hTO₆ rfl ?_)
  refine wpAny_bind (upd3 hTO₆ fun h₇ hTO₇ hs₇ => ?_)
  replace hTO₇ : h₇.get? (n + 4) = some (tup3 x y v) := hTO₇
  refine wpAny_bind (wpAny_letGo (wpAny_pure (wpAny_pure ?_)))
  refine wpAny_bind (wpAny_seqItems hTO₇ rfl ?_)
  refine wpAny_bind (wpAny_newTuple ?_)
  have hsz : h₇.objs.size = s.heap.objs.size := by rw [hs₇.1, hs₆.1, hs₅.1, hs₄.1, hs₃.1, hs₂.1, hs₁.1]
  have keep : ∀ c o, c ≠ n + 5 → c ≠ n + 4 → c ≠ n → c ≠ n + 1 → c ≠ n + 2 → s.heap.get? c = some o → h₇.get? c = some o := fun c o c1 c2 c3 c4 c5 e =>
    hs₇.extBut _ _ c2 (hs₆.extBut _ _ c5 (hs₅.extBut _ _ c2 (hs₄.extBut _ _ c4 (hs₃.extBut _ _ c2 (hs₂.extBut _ _ c3 (hs₁.extBut _ _ c1 e))))))
  have hz₇ : h₇.get? (n + 5) = some (zipO n .ellipsis) := hs₇.extBut _ _ n4.symm (hs₆.extBut _ _ n3.symm (hs₅.extBut _ _ n4.symm (hs₄.extBut _ _ n2.symm (hs₃.extBut _ _ n4.symm (hs₂.extBut _ _ n1.symm hz₁)))))
  have h1₇ : h₇.IsListIter n l1 (k + 1) := ((((h1₂.extBut hs₃.extBut m1).extBut hs₄.extBut i12).extBut hs₅.extBut m1).extBut hs₆.extBut i13).extBut hs₇.extBut m1
  have h2₇ : h₇.IsListIter (n + 1) l2 (k + 1) := ((h2₄.extBut hs₅.extBut m2).extBut hs₆.extBut i23).extBut hs₇.extBut m2
  have h3₇ : h₇.IsListIter (n + 2) l3 (k + 1) := h3₆.extBut hs₇.extBut m3
  have hzlt : n + 5 < h₇.objs.size := Heap.lt_size hz₇
  show wpAny _ _ (Builtin.SmallTypes.ownedTupleHandOut (.ref (n + 5)) (.ref h₇.objs.size) >>= _) _ _ _
  refine wpAny_bind ?_
  unfold Builtin.SmallTypes.ownedTupleHandOut
  have hz₈ : (h₇.push (tup3 x y v)).get? (n + 5) = some (zipO n .ellipsis) := Heap.get?_push_of_some _ hz₇
  refine wpAny_bind (wpAny_setField_rec hz₈ (by simp) fun h₈ hz₉ hs₈ => ?_)
  replace hz₉ : h₈.get? (n + 5) = some (zipO n (rawInt h₇.objs.size)) := hz₉
  refine wpAny_setField_rec hz₉ (by simp) fun h₉ hz₁₀ hs₉ => ?_
  replace hz₁₀ : h₉.get? (n + 5) = some (zipO n (rawInt h₇.objs.size)) := hz₁₀
  have up : ∀ c o, c ≠ n + 5 → h₇.get? c = some o → h₉.get? c = some o := fun c o c1 e => hs₉.extBut _ _ c1 (hs₈.extBut _ _ c1 (Heap.get?_push_of_some _ e))
  have hT : h₉.get? h₇.objs.size = some (tup3 x y v) := hs₉.extBut _ _ (Nat.ne_of_gt hzlt) (hs₈.extBut _ _ (Nat.ne_of_gt hzlt) (Heap.get?_push_size _ rfl))
  rw [hsz] at hz₁₀ hT
  refine wpAny_pure ⟨_, rfl, ?_⟩
  show Q (.ref h₇.objs.size) _
  rw [hsz]
  have a3 : ∀ l : Nat, l < n → l ≠ n + 3 := fun l h => by omega
  exact hQ h₉ ⟨hz₁₀, up _ _ (by show (n + 3 : Nat) ≠ n + 5; omega) (keep _ _ (by show (n + 3 : Nat) ≠ n + 5; omega) (by show (n + 3 : Nat) ≠ n + 4; omega) (by show (n + 3 : Nat) ≠ n; omega) (by show (n + 3 : Nat) ≠ n + 1; omega) (by show (n + 3 : Nat) ≠ n + 2; omega) S.ti),
    ⟨_, _, _, up _ _ n4 hTO₇⟩, h1₇.at fun o e => up _ o n1 e, h2₇.at fun o e => up _ o n2 e, h3₇.at fun o e => up _ o n3 e,
    S.a1.at fun o e => up _ o (a5 _ hl1) (keep _ o (a5 _ hl1) (a4 _ hl1) (a0 _ hl1) (a1 _ hl1) (a2 _ hl1) e), S.a2.at fun o e => up _ o (a5 _ hl2) (keep _ o (a5 _ hl2) (a4 _ hl2) (a0 _ hl2) (a1 _ hl2) (a2 _ hl2) e), S.a3.at fun o e => up _ o (a5 _ hl3) (keep _ o (a5 _ hl3) (a4 _ hl3) (a0 _ hl3) (a1 _ hl3) (a2 _ hl3) e)⟩ hT
    fun c o c1 c2 c3 c4 c5 e => up c o c1 (keep c o c1 c2 c3 c4 c5 e)
end
end Mine
end

section
open PySem PySem.W PySem.Calls PyProof.Rows PySem.Spec
set_option maxRecDepth 100000
namespace Mine
section
variable {prog : Program} {w : World} {A : Around} {E : Value → Shared → Prop} {s : Shared}
set_option maxHeartbeats 2000000 in
theorem z_end {n l1 l2 l3 : Nat} {xs ys zs : Array Value} {k : Nat} {Q : Fin → Shared → Prop} (hh : A.handled = none) (hl : l1 < n ∧ l2 < n ∧ l3 < n) (S : ZSt n l1 l2 l3 xs ys zs .none k s.heap) (hx : xs[k]? = none)
    (hE : ∀ h' e, (∀ c o, c ≠ n + 5 → c ≠ n → s.heap.get? c = some o → h'.get? c = some o) → (∃ o, h'.get? e = some o ∧ o.cls = .type "StopIteration") → E (.ref e) { s with heap := h' }) :
    wpAny (model prog w) A (Builtin.«zip.__next__» ⟨[.ref (n + 5)], []⟩) Q E s := by
  obtain ⟨hl1, hl2, hl3⟩ := hl
  have n1 : (n : Nat) ≠ n + 5 := by omega
  have a5 : ∀ l : Nat, l < n → l ≠ n + 5 := fun l h => by omega
  show wpAny _ _ (field (.ref (n + 5)) 2 >>= _) _ _ _
  refine wpAny_bind (wpAny_field S.z rfl (x := .bool false) rfl ?_)
  show wpAny _ _ (field (.ref (n + 5)) 3 >>= _) _ _ _
  refine wpAny_bind (wpAny_field S.z rfl (x := .ref (n + 3)) rfl ?_)
  refine wpAny_bind (wpAny_seqItems S.ti rfl ?_)
  show wpAny _ _ (Builtin.SmallTypes.ownedTupleIsFree (.ref (n + 5)) >>= _) _ _ _
  refine wpAny_bind ?_
  unfold Builtin.SmallTypes.ownedTupleIsFree
  refine wpAny_bind (wpAny_field S.z rfl (x := .none) rfl (wpAny_pure ?_))
  simp only [if_true]
  refine wpAny_bind (wpAny_rule ?_)
  refine wpAny_bind (wpAny_field S.z rfl (x := .ref (n + 4)) rfl ?_)
  refine wpAny_bind (wpAny_setField_rec S.z (by simp) fun h₁ hz₁ hs₁ => ?_)
  replace hz₁ : h₁.get? (n + 5) = some (zipO n .ellipsis) := hz₁
  refine wpAny_bind ?_
  simp only [List.zipIdx_cons, List.zipIdx_nil, List.forIn_cons, List.forIn_nil]
  refine wpAny_bind (wpAny_bind (wpAny_onRaise ?_))
  show wpAny _ _ (Builtin.SmallTypes.nextOf (.ref n) >>= _) _ _ _
  refine wpAny_bind (wpAny_nextOf_list_end hh (S.i1.extBut hs₁.extBut n1) (S.a1.extBut hs₁.extBut (a5 _ hl1)) hx fun h₂ e hs₂ he => ?_)
  obtain ⟨oe, hoe, hce⟩ := he
  have hz₂ : h₂.get? (n + 5) = some (zipO n .ellipsis) := hs₂ _ _ n1.symm hz₁
  have hez : e ≠ n + 5 := fun x => by subst x; rw [hz₂] at hoe; cases hoe; simp at hce
  exact wpAny_setField_rec hz₂ (by simp) fun h₃ _ hs₃ => hE h₃ e (fun c o c1 c3 x => hs₃.extBut _ _ c1 (hs₂ _ _ c3 (hs₁.extBut _ _ c1 x))) ⟨oe, hs₃.extBut _ _ hez hoe, hce⟩
theorem z_next {n l1 l2 l3 : Nat} {xs ys zs : Array Value} {k : Nat} {x y v : Value} {Q : Option Value → Shared → Prop} (hl : l1 < n ∧ l2 < n ∧ l3 < n) (S : ZSt n l1 l2 l3 xs ys zs .none k s.heap) (hx : xs[k]? = some x) (hy : ys[k]? = some y) (hv : zs[k]? = some v)
    (hQ : ∀ h', ZSt n l1 l2 l3 xs ys zs (rawInt s.heap.objs.size) (k + 1) h' → h'.get? s.heap.objs.size = some (tup3 x y v) → (∀ c o, c ≠ n + 5 → c ≠ n + 4 → c ≠ n → c ≠ n + 1 → c ≠ n + 2 → s.heap.get? c = some o → h'.get? c = some o) → Q (some (.ref s.heap.objs.size)) { s with heap := h' }) :
    wpAny (model prog w) A (pyNext (.ref (n + 5))) Q E s := by
  have hT : s.TypeIs (.ref (n + 5)) "zip" := ⟨_, S.z, rfl⟩
  unfold pyNext
  exact wpAny_bind (wpAny_attempt (wpAny_callSpecial?_slot (name := Str.ofString "__next__") hT PySem.F.slot_zip_next
    (wpAny_call_entry PySem.F.slot_zip_next hT PySem.F.entry_zip_next (z_item hl S hx hy hv fun h' a b c => wpAny_pure (hQ h' a b c)) (PySem.F.args_zip_next_1 _))))
theorem z_stop {n l1 l2 l3 : Nat} {xs ys zs : Array Value} {k : Nat} {Q : Option Value → Shared → Prop} (hh : A.handled = none) (hl : l1 < n ∧ l2 < n ∧ l3 < n) (S : ZSt n l1 l2 l3 xs ys zs .none k s.heap) (hx : xs[k]? = none)
    (hQ : ∀ h', (∀ c o, c ≠ n + 5 → c ≠ n → s.heap.get? c = some o → h'.get? c = some o) → Q none { s with heap := h' }) : wpAny (model prog w) A (pyNext (.ref (n + 5))) Q E s := by
  have hT : s.TypeIs (.ref (n + 5)) "zip" := ⟨_, S.z, rfl⟩
  unfold pyNext
  refine wpAny_bind (wpAny_attempt (wpAny_callSpecial?_slot (name := Str.ofString "__next__") hT PySem.F.slot_zip_next
    (wpAny_call_entry PySem.F.slot_zip_next hT PySem.F.entry_zip_next (z_end hh hl S hx fun h' e hk he => ?_) (PySem.F.args_zip_next_1 _))))
  obtain ⟨o, ho, hc⟩ := he
  refine wpAny_bind (wpAny_isInstance (T := "StopIteration") (b := true) ⟨o, ho, hc⟩ isSubtype_stop ?_)
  exact wpAny_pure (hQ _ hk)
theorem z_go {n l1 l2 l3 : Nat} {xs ys zs : Array Value} {k T : Nat} {elts : List Expr} {x1} {pos : Pos} {Q : Unit → Shared → Prop} (hl : l1 < n ∧ l2 < n ∧ l3 < n) (S : ZSt n l1 l2 l3 xs ys zs (rawInt T) k s.heap)
    (hQ : ∀ h', ZSt n l1 l2 l3 xs ys zs .none k h' → Heap.SameBut (n + 5) s.heap h' → Q () { s with heap := h' }) :
    wpAny (model prog w) A (letOwnedTupleGo (.Tuple elts x1 pos) (.ref (n + 5)) (.ref T)) Q E s := by
  have a5 : ∀ l : Nat, l < n + 5 → l ≠ n + 5 := fun l h => by omega
  unfold letOwnedTupleGo
  refine wpAny_bind (wpAny_load S.z ?_)
  show wpAny _ _ (if (["enumerate", "zip", "dict_itemiterator", "dict_reverseitemiterator", "odict_iterator", "itertools.zip_longest", "itertools.pairwise"].contains "zip" &&
      (#[rawInt T, .bool false, .bool false, .ref (n + 3), .ref (n + 4)] : Array Value)[0]? == some (rawInt T)) = true then _ else _) Q E s
  rw [if_pos (by simp)]
  refine wpAny_bind (wpAny_rule ?_)
  show wpAny _ _ (setField (.ref (n + 5)) 0 .none) Q E s
  obtain ⟨hl1, hl2, hl3⟩ := hl
  refine wpAny_setField_rec S.z (by simp) fun h' hz' hs' => hQ h' ⟨hz', hs'.extBut _ _ (a5 _ (by show (n + 3 : Nat) < n + 5; omega)) S.ti, ?_, S.i1.extBut hs'.extBut (a5 _ (by show (n : Nat) < n + 5; omega)), S.i2.extBut hs'.extBut (a5 _ (by show (n + 1 : Nat) < n + 5; omega)), S.i3.extBut hs'.extBut (a5 _ (by show (n + 2 : Nat) < n + 5; omega)),
    S.a1.extBut hs'.extBut (a5 _ (by omega)), S.a2.extBut hs'.extBut (a5 _ (by omega)), S.a3.extBut hs'.extBut (a5 _ (by omega))⟩ hs'
  obtain ⟨a, b, c, e⟩ := S.to
  exact ⟨a, b, c, hs'.extBut _ _ (a5 _ (by show (n + 4 : Nat) < n + 5; omega)) e⟩
end
end Mine
end

section
open PySem PySem.W PySem.Calls PyProof.Rows PySem.Spec
set_option maxRecDepth 100000
namespace Mine
section
variable {prog : Program} {w : World} {A : Around} {E : Value → Shared → Prop} {s : Shared} {env : Env}
/-- a for loop over three lists zipped, by an invariant -/
theorem for_zip {R : Result → Shared → Prop} {elts : List Expr} {x1} {pos : Pos} {body : List Stmt} {n l1 l2 l3 N : Nat} {xs ys zs : Array Value} (hh : A.handled = none) (hl : l1 < n ∧ l2 < n ∧ l3 < n) (hx : xs.size = N) (hy : ys.size = N) (hz : zs.size = N)
    (J : Nat → Shared → Prop) (hSt : ∀ i s, J i s → ZSt n l1 l2 l3 xs ys zs .none i s.heap)
    (turn : ∀ i s h' (T : Nat) x y v E', i < N → xs[i]? = some x → ys[i]? = some y → zs[i]? = some v → J i s → ZSt n l1 l2 l3 xs ys zs .none (i + 1) h' → IsTup h' T #[x, y, v] → s.heap.objs.size ≤ T →
      (∀ c o, c ≠ n + 5 → c ≠ n + 4 → c ≠ n → c ≠ n + 1 → c ≠ n + 2 → s.heap.get? c = some o → h'.get? c = some o) →
      wpAny (model prog w) A (assign (.Tuple elts x1 pos) env (.ref T)) (fun _ s₂ => wpAny (model prog w) A (execs body env) (fun f s₃ => match f with
        | .next | .cont => J (i + 1) s₃
        | .brk => R (.ok .next) s₃
        | .ret v => R (.ok (.ret v)) s₃) E' s₂) E' { s with heap := h' })
    (done : ∀ s h', J N s → (∀ c o, c ≠ n + 5 → c ≠ n → s.heap.get? c = some o → h'.get? c = some o) → R (.ok .next) { s with heap := h' })
    (h : J 0 s) : codeAny (model prog w) A (.forLoop (.Tuple elts x1 pos) (.ref (n + 5)) body [] env) R s := by
  refine codeAny_forLoop_any (fun k s' => ∃ i, i ≤ N ∧ k = N + 1 - i ∧ J i s') (fun k s' hI => ?_) (N + 1) ⟨0, Nat.zero_le _, rfl, h⟩
  obtain ⟨i, hi, rfl, hJ⟩ := hI
  by_cases hlt : i < N
  · have ex : xs[i]? = some xs[i] := Array.getElem?_eq_getElem (by omega)
    have ey : ys[i]? = some ys[i] := Array.getElem?_eq_getElem (by omega)
    have ez : zs[i]? = some zs[i] := Array.getElem?_eq_getElem (by omega)
    refine z_next hl (hSt i s' hJ) ex ey ez fun h₁ S₁ hT₁ k₁ => ?_
    refine z_go hl S₁ fun h₂ S₂ hs₂ => ?_
    have hzlt : n + 5 < s'.heap.objs.size := Heap.lt_size (hSt i s' hJ).z
    have hT₂ : IsTup h₂ s'.heap.objs.size #[xs[i], ys[i], zs[i]] := ⟨_, hs₂.extBut _ _ (Nat.ne_of_gt hzlt) hT₁, rfl, _, rfl⟩
    refine wpAny_mono (turn i s' h₂ s'.heap.objs.size _ _ _ _ hlt ex ey ez hJ S₂ hT₂ (Nat.le_refl _) fun c o c1 c2 c3 c4 c5 e => hs₂.extBut _ _ c1 (k₁ c o c1 c2 c3 c4 c5 e)) (fun _ s₂ h₂ => wpAny_mono h₂ (fun f s₃ h₃ => ?_) fun _ _ z => z) fun _ _ z => z
    have hm : N + 1 - (i + 1) < N + 1 - i := by omega
    cases f with
    | next => exact ⟨_, hm, i + 1, hlt, rfl, h₃⟩
    | cont => exact ⟨_, hm, i + 1, hlt, rfl, h₃⟩
    | brk => exact h₃
    | ret v => exact h₃
  · obtain rfl : i = N := Nat.le_antisymm hi (Nat.not_lt.mp hlt)
    exact z_stop hh hl (hSt _ s' hJ) (Array.getElem?_eq_none (by omega)) fun h' hk => wpAny_execs_nil (done s' h' hJ hk)
theorem zip_iter {n l1 l2 l3 : Nat} {xs ys zs : Array Value} {k : Nat} {Q : Value → Shared → Prop} (S : ZSt n l1 l2 l3 xs ys zs .none k s.heap) (h : Q (.ref (n + 5)) s) : wpAny (model prog w) A (pyIter (.ref (n + 5))) Q E s := by
  have hT : s.TypeIs (.ref (n + 5)) "zip" := ⟨_, S.z, rfl⟩
  refine wpAny_pyIter_slot hT PySem.F.slot_zip_iter (wpAny_call_entry PySem.F.slot_zip_iter hT PySem.F.entry_zip_iter ?_ (PySem.F.args_zip_iter_1 _))
  show wpAny _ _ (ret (.ref (n + 5))) _ _ s
  exact wpAny_pure ⟨_, rfl, "zip", _, hT, PySem.F.slot_zip_next.lookup, h⟩
end
end Mine
end

section
open PySem PySem.W PySem.Calls PyProof.Rows PySem.Spec
set_option maxRecDepth 100000
namespace Mine
/-- is the part great: r, g, b of the corner p -/
def great (p : Nat) : List Bool := [[true, false, false], [true, true, false], [false, true, false], [false, true, true], [false, false, true], [true, false, true]].getD p []
def fracQ (a b : Nat) : UInt64 := Float64.ofFrac false a b
def wordCk (p : Nat) (H S V : UInt64) : Bool :=
  !Float64.isInf H && !Float64.isInf S && !Float64.isInf V && match hsvF H S V with
    | none => false
    | some (x, y, z) => 
      let M := mx x y z
      let m := mn x y z
      hlsOk M m && (let l := Float64.div (Float64.add M m) 4611686018427387904
        [Float64.cmp x l == some .gt, Float64.cmp y l == some .gt, Float64.cmp z l == some .gt] == great p)
def wordAll (p : Nat) : Bool := (List.range 7).all fun o => (List.range 4).all fun k => (List.range 4).all fun l => wordCk p (fracQ (45 + 8 * p + o) 48) (fracQ (k + 1) 4) (fracQ (l + 1) 4)
theorem w0 : wordAll 0 = true := by decide +kernel
theorem w1 : wordAll 1 = true := by decide +kernel
theorem w2 : wordAll 2 = true := by decide +kernel
theorem w3 : wordAll 3 = true := by decide +kernel
theorem w4 : wordAll 4 = true := by decide +kernel
theorem w5 : wordAll 5 = true := by decide +kernel
theorem wordCk_of {p o k l : Nat} (hp : p < 6) (ho : o < 7) (hk : k < 4) (hl : l < 4) : wordCk p (fracQ (45 + 8 * p + o) 48) (fracQ (k + 1) 4) (fracQ (l + 1) 4) = true := by
  have h : wordAll p = true := by
    have : p = 0 ∨ p = 1 ∨ p = 2 ∨ p = 3 ∨ p = 4 ∨ p = 5 := by omega
    rcases this with rfl | rfl | rfl | rfl | rfl | rfl
    · exact w0
    · exact w1
    · exact w2
    · exact w3
    · exact w4
    · exact w5
  unfold wordAll at h
  exact List.all_eq_true.mp (List.all_eq_true.mp (List.all_eq_true.mp h o (List.mem_range.mpr ho)) k (List.mem_range.mpr hk)) l (List.mem_range.mpr hl)
/-- the word of a corner -/
def wordP (p : Nat) : Str := wordOf fun i => (great p).getD i false
end Mine
end

section
open PySem PySem.W PySem.Calls PyProof.Rows PySem.Spec
set_option maxRecDepth 100000
namespace Mine
theorem ck_get {p : Nat} {H S V : UInt64} (h : wordCk p H S V = true) : Float64.isInf H = false ∧ ∃ x y z, hsvF H S V = some (x, y, z) ∧ hlsOk (mx x y z) (mn x y z) = true ∧
    [Float64.cmp x (Float64.div (Float64.add (mx x y z) (mn x y z)) 4611686018427387904) == some .gt, Float64.cmp y (Float64.div (Float64.add (mx x y z) (mn x y z)) 4611686018427387904) == some .gt, Float64.cmp z (Float64.div (Float64.add (mx x y z) (mn x y z)) 4611686018427387904) == some .gt] = great p := by
  unfold wordCk at h
  cases e : hsvF H S V with
  | none => rw [e] at h; simp at h
  | some r =>
    obtain ⟨x, y, z⟩ := r
    rw [e] at h
    simp only [Bool.and_eq_true, beq_iff_eq, Bool.not_eq_true'] at h
    exact ⟨h.1.1.1, x, y, z, rfl, h.2.1, h.2.2⟩
section
variable {w : World} {A : Around} {E : Value → Shared → Prop} {s : Shared} {Q : Value → Shared → Prop}
theorem word_place {p o k l : Nat} {c d : Int} {S V : UInt64} {t1 t2 t3 t4 : Tok} (W : Wd w s.heap) (hh : A.handled = none) (hroom : A.depth + 1 < recursionLimit) (hp : p < 6) (ho : o < 7) (hk : k < 4) (hl : l < 4)
    (hc : c = p) (hd : d = (o : Int) - 3) (hS : S = fracQ (k + 1) 4) (hV : V = fracQ (l + 1) 4)
    (h : ∀ h' tk' t, Kp s.heap h' → Q (.str (wordP p) t) { s with heap := h', toks := tk' }) :
    wpAny (model PW w) A (call (.ref 226) [.int c t1, .int d t2, .float S t3, .float V t4]) Q E s := by
  subst hc hd hS hV
  obtain ⟨hi, x, y, z, hv, hok, hb⟩ := ck_get (wordCk_of hp ho hk hl)
  have hH : Float64.ofFrac (decide (48 + 8 * (p : Int) + ((o : Int) - 3) < 0) != decide ((48 : Int) < 0)) (48 + 8 * (p : Int) + ((o : Int) - 3)).natAbs (48 : Int).natAbs = fracQ (45 + 8 * p + o) 48 := by
    have e1 : decide (48 + 8 * (p : Int) + ((o : Int) - 3) < 0) = false := decide_eq_false (by omega)
    have e2 : (48 + 8 * (p : Int) + ((o : Int) - 3)).natAbs = 45 + 8 * p + o := by omega
    rw [e1, e2]
    rfl
  refine word_call (b := fun i => (great p).getD i false) W hh hroom hH hi hv rfl rfl hok ?_ ?_ ?_ h
  · rw [← hb]; rfl
  · rw [← hb]; rfl
  · rw [← hb]; rfl
end
end Mine
end

section
open PySem PySem.W PySem.Calls PyProof.Rows PySem.Spec
set_option maxRecDepth 100000
namespace Mine
def innerBody : List Stmt := match lawDef.1.drop 4 with
  | .For _ _ (.For _ _ b _ _ :: _) _ _ :: _ => b
  | _ => []
theorem wordP_quiet {p : Nat} (hp : p < 6) : quiet codeV (wordP p) = true ∧ (wordP p).length ≤ 3 := by
  have : p = 0 ∨ p = 1 ∨ p = 2 ∨ p = 3 ∨ p = 4 ∨ p = 5 := by omega
  rcases this with rfl | rfl | rfl | rfl | rfl | rfl <;> decide +kernel
theorem quarter {q : Int} (h0 : 0 ≤ q) (h4 : q < 4) : Float64.ofFrac (decide (1 + q < 0) != decide ((4 : Int) < 0)) (1 + q).natAbs (4 : Int).natAbs = fracQ (q.toNat + 1) 4 ∧ Float64.isInf (fracQ (q.toNat + 1) 4) = false := by
  have : q = 0 ∨ q = 1 ∨ q = 2 ∨ q = 3 := by omega
  rcases this with rfl | rfl | rfl | rfl <;> decide +kernel
theorem fm4 (z : Int) : 0 ≤ z.fmod 4 ∧ z.fmod 4 < 4 := ⟨Int.fmod_nonneg_of_pos _ (by decide), Int.fmod_lt_of_pos _ (by decide)⟩
/-- all stays but the list l, the frame's table and its cells; lists and tuples stay anyhow -/
def Kl (env : Env) (l : Addr) (h h' : Heap) : Prop := ∀ b o, b ≠ l → (Out env b ∨ ∃ xs n, o.data = .seq xs n) → h.get? b = some o → h'.get? b = some o
theorem Kl.trans {env : Env} {l : Addr} {a b c : Heap} (x : Kl env l a b) (y : Kl env l b c) : Kl env l a c := fun i o p d e => y i o p d (x i o p d e)
theorem Kl.tup {env : Env} {l : Addr} {h h' : Heap} {r : Addr} {its : Array Value} (k : Kl env l h h') (hr : r ≠ l) (t : IsTup h r its) : IsTup h' r its := by
  obtain ⟨o, e, c, n, d⟩ := t
  exact ⟨o, k _ _ hr (.inr ⟨_, _, d⟩) e, c, n, d⟩
theorem Kl.lst {env : Env} {l : Addr} {h h' : Heap} {r : Addr} {its : Array Value} (k : Kl env l h h') (hr : r ≠ l) (t : h.IsList r its) : h'.IsList r its := by
  obtain ⟨o, e, c, n, d⟩ := t
  exact ⟨o, k _ _ hr (.inr ⟨_, _, d⟩) e, c, n, d⟩
theorem tup_ne {h : Heap} {l r : Addr} {its its' : Array Value} (L : Lst h l its) (t : IsTup h r its') : r ≠ l := by
  rintro rfl
  obtain ⟨n, e⟩ := L
  obtain ⟨o, e', c, _⟩ := t
  rw [e] at e'; cases e'
  have c : Value.type "list" = Value.type "tuple" := c
  injection c with c
  exact absurd c (by decide)
theorem lst_ne_ns {h : Heap} {l L : Addr} {its : Array Value} {m : Str → Option Value} (x : Lst h l its) (n : h.Ns L m) : l ≠ L := by
  obtain ⟨k, e⟩ := x
  exact ne_ns n e ⟨_, _, rfl⟩
theorem lst_ne_cell {h : Heap} {l c : Addr} {its : Array Value} {v : Option Value} (x : Lst h l its) (n : h.IsCell c v) : l ≠ c := by
  obtain ⟨k, e⟩ := x
  exact ne_cell n e ⟨_, _, rfl⟩
theorem InCallC.kb {s₀ s : Shared} {L l : Addr} {m cm : Str → Option Value} {cs : List (Str × Addr)} {h' : Heap} {tk : Nat} {its : Array Value} (x : InCallC s₀ L m cs cm s) (hl : Lst s.heap l its) (hl0 : s₀.heap.get? l = none) (k : ∀ b o, b ≠ l → s.heap.get? b = some o → h'.get? b = some o) :
    InCallC s₀ L m cs cm { s with heap := h', toks := tk } := by
  obtain ⟨h₁, tk₁, e⟩ := x.toInCall.same
  refine ⟨⟨⟨h', tk, ?_⟩, x.toInCall.ns.at' fun o e => k _ o (Ne.symm (lst_ne_ns hl x.toInCall.ns)) e, fun b o e => k b o (by rintro rfl; rw [hl0] at e; cases e) (x.toInCall.keep b o e), x.toInCall.fresh⟩, fun n c hc => ?_, x.apart, x.above⟩
  · subst e; rfl
  · have y := x.cell n c hc
    have q := lst_ne_cell hl y
    obtain ⟨o, e, d⟩ := y
    exact ⟨o, k c o (Ne.symm q) e, d⟩
section
variable {w : World} {A : Around} {E : Value → Shared → Prop} {s s₀ : Shared} {L : Addr} {cd : Value} {Q : Flow → Shared → Prop} {m cm : Str → Option Value}
set_option maxHeartbeats 4000000 in
theorem body4 {N p : Int} {τ : Nat} {nm : Str} {a x dx l : Addr} {items row : Array Value} {t1 t2 t3 t4 : Tok} (W₀ : Wd w s₀.heap) (hl0 : s₀.heap.get? l = none) (hh : A.handled = none) (hroom : A.depth + 1 < recursionLimit)
    (X : InCallC s₀ (lawEnv L cd).locals m (lawEnv L cd).cells cm s) (m1 : m "turn" = some (.int (τ : Int) t1)) (m2 : m "number" = some (.int N t2)) (m3 : m "row" = some (.ref a)) (m4 : m "name" = some (.str nm t3)) (m5 : m "table" = some (.ref x))
    (hrow : s.heap.IsList a row) (hrp : row[τ]? = some (.int p t4)) (hτ : τ < 3) {pn : Nat} (hpn : p = (pn : Int)) (hp6 : pn < 6) (H : Hdr s.heap x dx l) (ox : Out (lawEnv L cd) x) (odx : Out (lawEnv L cd) dx) (hl : Lst s.heap l items) (hz : items.size ≤ 1000) (hq1 : quiet codeN nm = true) (hq2 : quiet codeN (Txt.upper nm) = true) (hnm : nm.length ≤ 1000)
    (hQ : ∀ s' m' T nm' u1 u2, InCallC s₀ (lawEnv L cd).locals m' (lawEnv L cd).cells cm s' → (∀ y, y ≠ Str.ofString "off" → y ≠ Str.ofString "word" → m' y = m y) → Kl (lawEnv L cd) l s.heap s'.heap → Lst s'.heap l (items.push (.ref T)) → IsTup s'.heap T #[.str nm' u1, .str (wordP pn) u2] →
      nm' = (if (N + (τ : Int)).fmod 2 = 0 then nm else Txt.upper nm) → Q .next s') :
    wpAny (model PW w) A (execs innerBody (lawEnv L cd)) Q E s := by
  have W : Wd w s.heap := W₀.kp X.toInCall.keep
  refine wpAny_execs_cons (wpAny_Assign_Name (wpAny_BinOp (wpAny_BinOp (wpAny_BinOp (wpAny_BinOp (nmL X m2 (wpAny_Constant_int (PyProof.Rows.floordiv_int (by decide) ?_ (Or.inl (PyProof.noPylong_small (by decide)))))))))))
  refine nmL (X.tok _) m1 (PyProof.Rows.add_int (wpAny_Constant_int (PyProof.Rows.mod_int (by decide) (wpAny_Constant_int (PyProof.Rows.sub_int ?_)))))
  refine stL (X.tok _) fun h₁ tk₁ X₁ ks₁ keep₁ => ?_
  have W₁ : Wd w h₁ := W₀.kp X₁.toInCall.keep
  have hrow₁ : h₁.IsList a row := ks₁.lst hrow
  have h0 : (0 : Int) ≤ (τ : Int) := by omega
  have hfit : (τ : Int) < 2 ^ 63 := by omega
  have hx : row[(τ : Int).toNat]? = some (.int p t4) := hrp
  refine wpAny_execs_cons (wpAny_Assign_Name (Call_ (nmGe W₁ (by k_dflt k_is) (callWith_K W₁.X (by k_dflt k_is) (args_cons (Subscript_ (nmL X₁ m3 (nmL X₁ m1 (tail_any hrow₁.typeIs slot_list_getitem.lookup (wpAny_getItem_list hrow₁ h0 hfit hx ?_) rfl)))))))))
  refine args_cons (nmL X₁ rfl (args_cons (wpAny_BinOp (wpAny_BinOp (wpAny_Constant_int (wpAny_BinOp (wpAny_BinOp (nmL (X₁.tok _) m2 (wpAny_Constant_int (PyProof.Rows.floordiv_int (by decide) ?_ (Or.inl (PyProof.noPylong_small (by decide)))))))))))))
  have qa := quarter (fm4 (N.fdiv 672)).1 (fm4 (N.fdiv 672)).2
  have qb := quarter (fm4 (N.fdiv 2688)).1 (fm4 (N.fdiv 2688)).2
  refine wpAny_Constant_int (PyProof.Rows.mod_int (by decide) (PyProof.Rows.add_int (wpAny_Constant_int (div_named hh (by decide) qa.1 qa.2 (args_cons ?_)))))
  refine wpAny_BinOp (wpAny_BinOp (wpAny_Constant_int (wpAny_BinOp (wpAny_BinOp (nmL (X₁.tok _) m2 (wpAny_Constant_int (PyProof.Rows.floordiv_int (by decide) ?_ (Or.inl (PyProof.noPylong_small (by decide))))))))))
  refine wpAny_Constant_int (PyProof.Rows.mod_int (by decide) (PyProof.Rows.add_int (wpAny_Constant_int (div_named hh (by decide) qb.1 qb.2 (args_nil ⟨W₁.X, ?_⟩)))))
  have f7 : 0 ≤ (N.fdiv 96 + (τ : Int)).fmod 7 ∧ (N.fdiv 96 + (τ : Int)).fmod 7 < 7 := ⟨Int.fmod_nonneg_of_pos _ (by decide), Int.fmod_lt_of_pos _ (by decide)⟩
  have qa4 := fm4 (N.fdiv 672)
  have qb4 := fm4 (N.fdiv 2688)
  refine word_place (p := pn) (o := ((N.fdiv 96 + (τ : Int)).fmod 7).toNat) (k := ((N.fdiv 672).fmod 4).toNat) (l := ((N.fdiv 2688).fmod 4).toNat) W₁ hh hroom hp6 (by omega) (by omega) (by omega) hpn (by omega) rfl rfl fun h₂ tk₂ tw k₂ => ?_
  refine stL (InCallC.kp (tk := tk₂) (X₁.tok _) k₂) fun h₃ tk₃ X₃ ks₃ keep₃ => ?_
  have kx : Kx (lawEnv L cd) s.heap h₃ := fun b o ob e => keep₃ b o ob.l (k₂ b o (keep₁ b o ob.l e))
  have H₃ := H.kx kx ox odx
  have hl₃ : Lst h₃ l items := (((hl.ks ks₁).ks (Ks.of k₂)).ks ks₃)
  have W₃ : Wd w h₃ := W₀.kp X₃.toInCall.keep
  have kl₃ : Kl (lawEnv L cd) l s.heap h₃ := fun b o _ d e => by
    rcases d with ob | d
    · exact kx b o ob e
    · exact ks₃ b o (k₂ b o (ks₁ b o e d)) d
  obtain ⟨es, n', I, e1, e2, e3, e4⟩ := H₃
  refine wpAny_execs_cons (wpAny_Expr (MethodCall_ (nmL X₃ m5 (method_fn W₃.X I (by k_dflt k_is) (by k_dflt k_is) (f := 179) (by k_dflt k_is) (by k_dflt k_is) (by show (lookIn _ (dictOf es n')).map _ = _; rw [lookIn_dict, e3]; rfl) ?_))))
  refine callWith_K W₃.X (by k_dflt k_is) (args_cons (IfExp_ (isTrue_plain (wpAny_BinOp (wpAny_BinOp (nmL X₃ m2 (nmL X₃ m1 (PyProof.Rows.add_int (wpAny_Constant_int (PyProof.Rows.mod_int (by decide) (PyProof.Rows.truthy_int (ite_both (fun q => ?_) (fun q => ?_)))))))))))))
  · refine MethodCall_ (nmL (X₃.tok _) m4 (PySem.GM.upper (PyProof.Rows.callWith_method0 (PyProof.Rows.SCL.upper (by omega) fun _ => args_cons (nmL (X₃.tok _) rfl (args_nil ⟨W₃.X, ?_⟩))))))
    refine add_call W₀ X₃.toInCall.keep hl0 hh hroom ⟨es, n', I, e1, e2, e3, e4⟩ hl₃ hq2 (wordP_quiet hp6).1 (wordP_quiet hp6).2 hz fun h' tk T t1' t2' k' L' T' _ => wpAny_execs_nil ?_
    refine hQ _ _ T _ _ _ (InCallC.kb (tk := tk) (X₃.tok _) hl₃ hl0 k') (fun y y1 y2 => by rw [if_neg y2, if_neg y1]) (kl₃.trans fun b o hb _ e => k' b o hb e) L' T' ?_
    rw [if_neg]
    exact fun e => by rw [e] at q; exact absurd q (by decide)
  · refine nmL (X₃.tok _) m4 (args_cons (nmL (X₃.tok _) rfl (args_nil ⟨W₃.X, ?_⟩)))
    refine add_call W₀ X₃.toInCall.keep hl0 hh hroom ⟨es, n', I, e1, e2, e3, e4⟩ hl₃ hq1 (wordP_quiet hp6).1 (wordP_quiet hp6).2 hz fun h' tk T t1' t2' k' L' T' _ => wpAny_execs_nil ?_
    refine hQ _ _ T _ _ _ (InCallC.kb (tk := tk) (X₃.tok _) hl₃ hl0 k') (fun y y1 y2 => by rw [if_neg y2, if_neg y1]) (kl₃.trans fun b o hb _ e => k' b o hb e) L' T' ?_
    rw [if_pos]
    exact Decidable.byContradiction fun e => by simp_all
end
end Mine
end

section
open PySem PySem.W PySem.Calls PyProof.Rows PySem.Spec
set_option maxRecDepth 100000
namespace Mine
def base (i : Nat) : Str := if i = 0 then Str.ofString "lid" else if i = 1 then Str.ofString "rim" else Str.ofString "hub"
def cn (N : Int) (τ : Nat) : Int := if τ = 0 then c0 N else if τ = 1 then c1 N else c2 N
theorem cn_lt (N : Int) (τ : Nat) : 0 ≤ cn N τ ∧ cn N τ < 6 := by
  unfold cn c0 c1 c2
  split
  · exact ⟨Int.fmod_nonneg_of_pos _ (by decide), Int.fmod_lt_of_pos _ (by decide)⟩
  · split <;> exact ⟨Int.fmod_nonneg_of_pos _ (by decide), Int.fmod_lt_of_pos _ (by decide)⟩
/-- the k-th pair that goes into the table -/
def nameK (n : Nat → Int) (k : Nat) : Str := if (n (k % 3) + ((k / 3 : Nat) : Int)).fmod 2 = 0 then base (k % 3) else Txt.upper (base (k % 3))
def entry (n : Nat → Int) (k : Nat) : Str × Str := (nameK n k, wordP (cn (n (k % 3)) (k / 3)).toNat)
structure PairsF (h : Heap) (its : Array Value) (K : Nat) (f : Nat → Str × Str) : Prop where
  size : its.size = K
  at_ : ∀ i, i < K → ∃ T t1 t2, its[i]? = some (.ref T) ∧ IsTup h T #[.str (f i).1 t1, .str (f i).2 t2]
theorem PairsF.mono {h h' : Heap} {its : Array Value} {K : Nat} {f : Nat → Str × Str} (x : PairsF h its K f) (k : ∀ T p q, IsTup h T #[p, q] → IsTup h' T #[p, q]) : PairsF h' its K f :=
  ⟨x.size, fun i hi => by obtain ⟨T, t1, t2, e, q⟩ := x.at_ i hi; exact ⟨T, t1, t2, e, k _ _ _ q⟩⟩
theorem PairsF.push {h : Heap} {its : Array Value} {K : Nat} {f : Nat → Str × Str} {T : Addr} {t1 t2 : Tok} {a b : Str} (x : PairsF h its K f) (q : IsTup h T #[.str a t1, .str b t2]) (ha : a = (f K).1) (hb : b = (f K).2) : PairsF h (its.push (.ref T)) (K + 1) f := by
  subst ha hb
  refine ⟨by rw [Array.size_push, x.size], fun i hi => ?_⟩
  by_cases e : i = K
  · subst e
    exact ⟨T, t1, t2, by rw [← x.size]; exact Array.getElem?_push_size, q⟩
  · obtain ⟨T', u1, u2, e', q'⟩ := x.at_ i (by omega)
    exact ⟨T', u1, u2, by rw [Array.getElem?_push, if_neg (by rw [x.size]; exact e)]; exact e', q'⟩
/-- the state while the table is filled -/
structure Tb (s₀ : Shared) (L : Addr) (cd : Value) (cm : Str → Option Value) (DN D0 DC x l : Addr) (n : Nat → Int) (hz : Heap) (K : Nat) (m : Str → Option Value) (s : Shared) : Prop where
  X : InCallC s₀ (lawEnv L cd).locals m (lawEnv L cd).cells cm s
  m1 : m "names" = some (.ref DN)
  m2 : m "numbers" = some (.ref D0)
  m3 : m "corners" = some (.ref DC)
  m4 : m "table" = some (.ref x)
  kl : Kl (lawEnv L cd) l hz s.heap
  ps : ∃ items, Lst s.heap l items ∧ PairsF s.heap items K (entry n)
theorem ZSt.kl {env : Env} {l : Addr} {h h' : Heap} {n l1 l2 l3 : Nat} {xs ys zs : Array Value} {f0 : Value} {k : Nat} (S : ZSt n l1 l2 l3 xs ys zs f0 k h) (q : Kl env l h h') (hn : ∀ i : Nat, i ≤ 5 → (n + i : Nat) ≠ l ∧ Out env (n + i : Nat)) (d1 : l1 ≠ l) (d2 : l2 ≠ l) (d3 : l3 ≠ l) : ZSt n l1 l2 l3 xs ys zs f0 k h' := by
  have up : ∀ (i : Nat) o, i ≤ 5 → h.get? (n + i : Nat) = some o → h'.get? (n + i : Nat) = some o := fun i o hi e => q _ o (hn i hi).1 (.inl (hn i hi).2) e
  exact ⟨up 5 _ (by omega) S.z, up 3 _ (by omega) S.ti, by obtain ⟨a, b, c, e⟩ := S.to; exact ⟨a, b, c, up 4 _ (by omega) e⟩, S.i1.at fun o e => up 0 o (by omega) e, S.i2.at fun o e => up 1 o (by omega) e, S.i3.at fun o e => up 2 o (by omega) e,
    q.lst d1 S.a1, q.lst d2 S.a2, q.lst d3 S.a3⟩
theorem type_ne {h : Heap} {a b : Addr} {o o' : Obj} (e : h.get? a = some o) (e' : h.get? b = some o') (d : o.cls ≠ o'.cls) : a ≠ b := by
  rintro rfl
  rw [e] at e'; cases e'
  exact d rfl
theorem ZSt.pair_ne {n l1 l2 l3 : Nat} {xs ys zs : Array Value} {f0 : Value} {k : Nat} {h : Heap} {T : Nat} {p q : Value} (S : ZSt n l1 l2 l3 xs ys zs f0 k h) (t : IsTup h T #[p, q]) : T ≠ n + 5 ∧ T ≠ n + 4 ∧ T ≠ n ∧ T ≠ n + 1 ∧ T ≠ n + 2 := by
  obtain ⟨o, e, c, m, d⟩ := t
  have it : ∀ a j l', h.IsListIter a l' j → T ≠ a := by
    rintro a j l' ⟨o', e', c', _⟩
    refine type_ne e e' ?_
    rw [c, c']
    intro q; injection q with q; exact absurd q (by decide)
  refine ⟨type_ne e S.z ?_, ?_, it _ _ _ S.i1, it _ _ _ S.i2, it _ _ _ S.i3⟩
  · rw [c]
    intro q
    have q : Value.type "tuple" = Value.type "zip" := q
    injection q with q; exact absurd q (by decide)
  · rintro rfl
    obtain ⟨a, b, c', e'⟩ := S.to
    rw [e] at e'
    cases e'
    have d : (Data.seq #[a, b, c'] _) = Data.seq #[p, q] m := d
    injection d with d
    have := congrArg Array.size d
    exact absurd this (by show (3 : Nat) ≠ 2; decide)
theorem InCallC.kg {s₀ s : Shared} {L : Addr} {m cm : Str → Option Value} {cs : List (Str × Addr)} {h' : Heap} {tk : Nat} (x : InCallC s₀ L m cs cm s) (k0 : ∀ b o, s₀.heap.get? b = some o → s.heap.get? b = some o → h'.get? b = some o) (kL : ∀ o, s.heap.get? L = some o → h'.get? L = some o)
    (kc : ∀ n c o, cs.lookup n = some c → s.heap.get? c = some o → h'.get? c = some o) : InCallC s₀ L m cs cm { s with heap := h', toks := tk } := by
  obtain ⟨h₁, tk₁, e⟩ := x.toInCall.same
  refine ⟨⟨⟨h', tk, ?_⟩, x.toInCall.ns.at' fun o e => kL o e, fun b o e => k0 b o e (x.toInCall.keep b o e), x.toInCall.fresh⟩, fun n c hc => ?_, x.apart, x.above⟩
  · subst e; rfl
  · obtain ⟨o, e, d⟩ := x.cell n c hc
    exact ⟨o, kc n c o hc e, d⟩
theorem quiet_base {i : Nat} : quiet codeN (base i) = true ∧ quiet codeN (Txt.upper (base i)) = true ∧ (base i).length ≤ 1000 := by
  unfold base
  split
  · decide +kernel
  · split <;> decide +kernel
section
variable {w : World} {A : Around} {E : Value → Shared → Prop} {s s₀ : Shared} {L : Addr} {cd : Value} {m cm : Str → Option Value}
set_option maxHeartbeats 4000000 in
theorem inner4 {R : Result → Shared → Prop} {p1 p2 p3 p4 : Pos} {n : Nat → Int} {a : Nat → Addr} {DN D0 DC x dx l nz : Nat} {xs ys zs : Array Value} {hz : Heap} {τ : Nat} {tt : Tok} (W₀ : Wd w s₀.heap) (hl0 : s₀.heap.get? l = none) (hh : A.handled = none) (hroom : A.depth + 1 < recursionLimit) (hτ : τ < 3)
    (hb : ∀ b o, hz.get? b = some o → b < nz) (hs0 : ∀ b o, s₀.heap.get? b = some o → b < nz) (hL : (lawEnv L cd).locals < nz) (hc : ∀ n c, (lawEnv L cd).cells.lookup n = some c → c < nz)
    (hx : ∀ i, i < 3 → ∃ t, xs[i]? = some (.str (base i) t)) (hy : ∀ i, i < 3 → ∃ t, ys[i]? = some (.int (n i) t)) (hz' : ∀ i, i < 3 → zs[i]? = some (.ref (a i))) (sx : xs.size = 3) (sy : ys.size = 3) (sz : zs.size = 3)
    (hr : ∀ i, i < 3 → a i ≠ l ∧ ∃ row, hz.IsList (a i) row ∧ ∀ τ, τ < 3 → ∃ t, row[τ]? = some (.int (cn (n i) τ) t))
    (H : Hdr hz x dx l) (ox : Out (lawEnv L cd) x) (odx : Out (lawEnv L cd) dx) (xl : x ≠ l) (dxl : dx ≠ l) (d1 : DN ≠ l) (d2 : D0 ≠ l) (d3 : DC ≠ l) (b1 : DN < nz) (b2 : D0 < nz) (b3 : DC < nz) (ln : l < nz)
    (hJ : ∃ m, Tb s₀ L cd cm DN D0 DC x l n hz (3 * τ) m s ∧ m "turn" = some (.int (τ : Int) tt)) (S : ZSt nz DN D0 DC xs ys zs .none 0 s.heap)
    (done : ∀ s' m, Tb s₀ L cd cm DN D0 DC x l n hz (3 * τ + 3) m s' → R (.ok .next) s') :
    codeAny (model PW w) A (.forLoop (.Tuple [.Name (Str.ofString "name") p1, .Name (Str.ofString "number") p2, .Name (Str.ofString "row") p3] 0 p4) (.ref (nz + 5)) innerBody [] (lawEnv L cd)) R s := by
  have hn : ∀ i : Nat, i ≤ 5 → (nz + i : Nat) ≠ l ∧ Out (lawEnv L cd) (nz + i : Nat) := fun i _ => ⟨by omega, ⟨by exact Nat.ne_of_gt (Nat.lt_of_lt_of_le (show ((lawEnv L cd).locals : Nat) < nz from hL) (Nat.le_add_right _ _)), fun k c e => by exact Nat.ne_of_gt (Nat.lt_of_lt_of_le (show (c : Nat) < nz from hc k c e) (Nat.le_add_right _ _))⟩⟩
  have low : ∀ b : Nat, b < nz → b ≠ nz + 5 ∧ b ≠ nz + 4 ∧ b ≠ nz ∧ b ≠ nz + 1 ∧ b ≠ nz + 2 := fun b h => ⟨by omega, by omega, by omega, by omega, by omega⟩
  refine for_zip hh ⟨b1, b2, b3⟩ sx sy sz (fun i s' => (∃ m, Tb s₀ L cd cm DN D0 DC x l n hz (3 * τ + i) m s' ∧ m "turn" = some (.int (τ : Int) tt)) ∧ ZSt nz DN D0 DC xs ys zs .none i s'.heap) (fun i s' h => h.2) ?_ ?_ ⟨hJ, S⟩
  · rintro i s' h' T vx vy vz E' hi ex ey ez ⟨⟨m, J, mt⟩, S₀⟩ S₁ hT hTs k
    obtain ⟨tx, ex'⟩ := hx i hi
    obtain ⟨ty, ey'⟩ := hy i hi
    rw [ex'] at ex; cases ex
    rw [ey'] at ey; cases ey
    rw [hz' i hi] at ez; cases ez
    obtain ⟨items, hl, hp⟩ := J.ps
    have klow : ∀ b o, b < nz → s'.heap.get? b = some o → h'.get? b = some o := fun b o hb e => by obtain ⟨q1, q2, q3, q4, q5⟩ := low b hb; exact k b o q1 q2 q3 q4 q5 e
    have X₁ : InCallC s₀ (lawEnv L cd).locals m (lawEnv L cd).cells cm { s' with heap := h', toks := s'.toks } := InCallC.kg J.X (fun b o e0 e => klow b o (hs0 b o e0) e) (fun o e => klow _ o hL e) (fun k c o hk e => klow c o (hc k c hk) e)
    refine PyProof.Rows.assign_Tuple_tuple hh hT rfl rfl fun h₂ e₂ => ?_
    have k₂ : Kp h' h₂ := fun b o e => e₂ b o (Nat.ne_of_lt (Heap.lt_size e)) e
    have X₂ := InCallC.kp (tk := s'.toks) X₁ k₂
    refine assignInOrder_cons (wpAny_assign_Name (stL X₂ fun h₃ tk₃ X₃ q₃ g₃ => assignInOrder_cons (wpAny_assign_Name (stL X₃ fun h₄ tk₄ X₄ q₄ g₄ => assignInOrder_cons (wpAny_assign_Name (stL X₄ fun h₅ tk₅ X₅ q₅ g₅ => assignInOrder_nil ?_))))))
    have ksx : Ks h' h₅ := (Ks.of k₂).trans (q₃.trans (q₄.trans q₅))
    have klx : Kl (lawEnv L cd) l h' h₅ := fun b o _ d e => by
      rcases d with ob | d
      · exact g₅ b o ob.l (g₄ b o ob.l (g₃ b o ob.l (k₂ b o e)))
      · exact ksx b o e d
    have klz : Kl (lawEnv L cd) l hz h₅ := fun b o hbl d e => klx b o hbl d (klow b o (hb b o e) (J.kl b o hbl d e))
    have hl₅ : Lst h₅ l items := by
      obtain ⟨u, e⟩ := hl
      exact Lst.ks ⟨u, klow l _ ln e⟩ ksx
    have hp₅ : PairsF h₅ items (3 * τ + i) (entry n) := hp.mono fun T p q t => by
      obtain ⟨q1, q2, q3, q4, q5⟩ := S₀.pair_ne t
      obtain ⟨o, e, r⟩ := t
      exact ksx.tup ⟨o, k T o q1 q2 q3 q4 q5 e, r⟩
    have S₅ : ZSt nz DN D0 DC xs ys zs .none (i + 1) h₅ := S₁.kl klx hn d1 d2 d3
    have H₅ : Hdr h₅ x dx l := H.ks (fun o e => klz x o xl (.inl ox) e) (fun o e => klz dx o dxl (.inl odx) e)
    obtain ⟨ha, row, hrow, hrv⟩ := hr i hi
    obtain ⟨tr, hrt⟩ := hrv τ hτ
    have hrow₅ : h₅.IsList (a i) row := klz.lst ha hrow
    have e1 : (3 * τ + i) % 3 = i := by omega
    have e2 : (3 * τ + i) / 3 = τ := by omega
    have hcn := cn_lt (n i) τ
    refine body4 (pn := (cn (n i) τ).toNat) W₀ hl0 hh hroom X₅ mt rfl rfl rfl J.m4 hrow₅ hrt hτ (by omega) (by omega) H₅ ox odx hl₅ (by rw [hp.size]; omega) quiet_base.1 quiet_base.2.1 quiet_base.2.2 fun s₆ m₆ T₆ nm₆ u1 u2 X₆ hm₆ kl₆ L₆ T₆' hnm => ?_
    refine ⟨⟨m₆, ⟨X₆, ?_, ?_, ?_, ?_, klz.trans kl₆, items.push (.ref T₆), L₆, ?_⟩, ?_⟩, S₅.kl kl₆ hn d1 d2 d3⟩
    · rw [hm₆ _ (by decide) (by decide)]; exact J.m1
    · rw [hm₆ _ (by decide) (by decide)]; exact J.m2
    · rw [hm₆ _ (by decide) (by decide)]; exact J.m3
    · rw [hm₆ _ (by decide) (by decide)]; exact J.m4
    · refine (hp₅.mono fun T p q t => kl₆.tup (tup_ne hl₅ t) t).push T₆' ?_ ?_
      · rw [hnm]; unfold entry nameK; rw [e1, e2]
      · unfold entry; rw [e1, e2]
    · rw [hm₆ _ (by decide) (by decide)]; exact mt
  · rintro s' h' ⟨⟨m, J, mt⟩, S₀⟩ k
    refine done _ m ⟨?_, J.m1, J.m2, J.m3, J.m4, ?_, ?_⟩
    · have := InCallC.kg J.X (h' := h') (tk := s'.toks) (fun b o e0 e => k b o (low b (hs0 b o e0)).1 (low b (hs0 b o e0)).2.2.1 e) (fun o e => k _ o (low _ hL).1 (low _ hL).2.2.1 e) (fun i c o hk e => k c o (low c (hc i c hk)).1 (low c (hc i c hk)).2.2.1 e)
      exact this
    · exact fun b o hbl d e => k b o (low b (hb b o e)).1 (low b (hb b o e)).2.2.1 (J.kl b o hbl d e)
    · obtain ⟨items, ⟨u, hl⟩, hp⟩ := J.ps
      refine ⟨items, ⟨u, k l _ (low l ln).1 (low l ln).2.2.1 hl⟩, hp.mono fun T p q t => ?_⟩
      obtain ⟨q1, q2, q3, q4, q5⟩ := S₀.pair_ne t
      obtain ⟨o, e, r⟩ := t
      exact ⟨o, k T o q1 q3 e, r⟩
end
end Mine
end

section
open PySem PySem.W PySem.Calls PyProof.Rows PySem.Spec
set_option maxRecDepth 100000
namespace Mine
section
variable {prog : Program} {w : World} {A : Around} {E : Value → Shared → Prop} {s : Shared}
theorem range1W {n : Nat} {N : Int} {t : Tok} {Q : Value → Shared → Prop} (hh : A.handled = none) (hsm : Builtin.Range.small 0 N 1 = true) (hn : Builtin.Range.rangeSize 0 N 1 = (n : Int))
    (h : ∀ I h' tk St, Walks prog w A I [I] [I] n (fun i v => ∃ t, v = .int (0 + (i : Int)) t) St → St 0 h' → Kp s.heap h' → s.heap.get? I = none → (∀ i h, St i h → ∃ o, h.get? I = some o ∧ o.cls = .type "range_iterator") → Q (.ref I) { s with heap := h', toks := tk }) :
    wpAny (model prog w) A (call (.type "range") [.int N t]) (fun xv s₁ => wpAny (model prog w) A (pyIter xv) Q E s₁) E s := by
  refine call_range_1 ?_
  refine wpAny_pyIter_range (r := s.heap.objs.size) (a := 0) (b := N) (c := 1) (t := s.toks) (u := t) (v := s.toks + 1) ?hr hsm (h _ _ _ _ (LCg.range_walks hh 0 n) ?_ (fun b o e => Heap.get?_push_of_some _ (Heap.get?_push_of_some _ e)) (none_ge ?_) fun i h st => ⟨_, st, rfl⟩)
  case hr => exact Heap.get?_push_size _ rfl
  · show IsRangeIter _ _ _ _ _
    rw [hn, show (n : Int) - ((0 : Nat) : Int) = n by omega]
    exact Heap.get?_push_size _ rfl
  · show s.heap.objs.size ≤ (s.heap.push _).objs.size
    rw [Heap.size_push]; exact Nat.le_succ _
end
section
variable {w : World} {A : Around} {E : Value → Shared → Prop} {s s₀ : Shared} {L : Addr} {cd : Value} {m cm : Str → Option Value} {Q : Flow → Shared → Prop}
theorem cell_lt {L : Addr} {m cm : Str → Option Value} {cs : List (Str × Addr)} (X : InCallC s₀ L m cs cm s) {n : Str} {c : Addr} (hc : cs.lookup n = some c) : c < s.heap.objs.size := by
  obtain ⟨o, e, _⟩ := X.cell n c hc
  exact Heap.lt_size e
set_option maxHeartbeats 4000000 in
theorem st4 {n : Nat → Int} {a : Nat → Addr} {DN D0 DC x dx l : Nat} {xs ys zs : Array Value} (W₀ : Wd w s₀.heap) (hl0 : s₀.heap.get? l = none) (hh : A.handled = none) (hroom : A.depth + 1 < recursionLimit)
    (X : InCallC s₀ (lawEnv L cd).locals m (lawEnv L cd).cells cm s) (m1 : m "names" = some (.ref DN)) (m2 : m "numbers" = some (.ref D0)) (m3 : m "corners" = some (.ref DC)) (m4 : m "table" = some (.ref x))
    (hx : ∀ i, i < 3 → ∃ t, xs[i]? = some (.str (base i) t)) (hy : ∀ i, i < 3 → ∃ t, ys[i]? = some (.int (n i) t)) (hz' : ∀ i, i < 3 → zs[i]? = some (.ref (a i))) (sx : xs.size = 3) (sy : ys.size = 3) (sz : zs.size = 3)
    (l1 : s.heap.IsList DN xs) (l2 : s.heap.IsList D0 ys) (l3 : s.heap.IsList DC zs)
    (hr : ∀ i, i < 3 → a i ≠ l ∧ ∃ row, s.heap.IsList (a i) row ∧ ∀ τ, τ < 3 → ∃ t, row[τ]? = some (.int (cn (n i) τ) t))
    (H : Hdr s.heap x dx l) (hl : Lst s.heap l #[]) (ox : Out (lawEnv L cd) x) (odx : Out (lawEnv L cd) dx) (xl : x ≠ l) (dxl : dx ≠ l) (d1 : DN ≠ l) (d2 : D0 ≠ l) (d3 : DC ≠ l)
    (h : ∀ s' m', Tb s₀ L cd cm DN D0 DC x l n s.heap 9 m' s' → wpAny (model PW w) A (execs (lawDef.1.drop 5) (lawEnv L cd)) Q E s') :
    wpAny (model PW w) A (execs (lawDef.1.drop 4) (lawEnv L cd)) Q E s := by
  have W : Wd w s.heap := W₀.kp X.toInCall.keep
  refine wpAny_execs_cons (wpAny_For (Call_ (nmBe W (by k_dflt k_is) PyProof.Rows.boot_range (Pv.callWith_type1 (args_cons (wpAny_Constant_int (args_nil (range1W (n := 3) hh (by decide) (by decide) fun I h₁ tk₁ St Wk st k₁ hI hIt => ?_))))))))
  have hI : s.heap.get? I = none := hI
  have hi0 : s₀.heap.get? I = none := cell_none X hI
  have oI : Out (lawEnv L cd) I := out_of X hI
  have hIl : I ≠ l := by
    rintro rfl
    obtain ⟨u, e⟩ := hl
    rw [hI] at e; cases e
  have X₁ : InCallC s₀ (lawEnv L cd).locals m (lawEnv L cd).cells cm { s with heap := h₁, toks := tk₁ } := InCallC.kp X k₁
  refine for_walk Wk (fun _ => rfl) (fun τ s' => (∃ m, Tb s₀ L cd cm DN D0 DC x l n s.heap (3 * τ) m s') ∧ St τ s'.heap) (fun _ _ h => h.2) ?_ ?_ ⟨⟨m, X₁, m1, m2, m3, m4, fun b o _ _ e => k₁ b o e, #[], ⟨_, k₁ _ _ hl.choose_spec⟩, ⟨rfl, fun i hi => by omega⟩⟩, st⟩
  · rintro τ v s' h' tk E' hτ ⟨t, rfl⟩ ⟨⟨m, J⟩, st'⟩ st₂ k
    have k : ∀ b o, b ≠ I → s'.heap.get? b = some o → h'.get? b = some o := fun b o hb e => k b o (fun hm => hb (List.mem_singleton.mp hm)) e
    have X₂ : InCallC s₀ (lawEnv L cd).locals m (lawEnv L cd).cells cm { s' with heap := h', toks := tk } := InCallC.kg J.X (fun b o e0 e => k b o (by rintro rfl; rw [hi0] at e0; cases e0) e) (fun o e => k _ o (Ne.symm oI.l) e) (fun i c o hk e => k c o (Ne.symm (oI.c i c hk)) e)
    refine wpAny_assign_Name (stL X₂ fun h₂ tk₂ X₃ q₂ g₂ => ?_)
    have kl₂ : Kl (lawEnv L cd) l s.heap h₂ := fun b o hb d e => by
      have e' := k b o (by rintro rfl; rw [hI] at e; cases e) (J.kl b o hb d e)
      rcases d with ob | d
      · exact g₂ b o ob.l e'
      · exact q₂ b o e' d
    have W₂ : Wd w h₂ := W₀.kp X₃.toInCall.keep
    have st₃ : St (τ + 1) h₂ := Wk.frame _ _ _ st₂ fun b hb o e => by rw [List.mem_singleton.mp hb] at e ⊢; exact g₂ I o oI.l e
    have l1' := kl₂.lst d1 l1
    have l2' := kl₂.lst d2 l2
    have l3' := kl₂.lst d3 l3
    obtain ⟨items, hl', hp⟩ := J.ps
    have hl₂ : Lst h₂ l items := by
      obtain ⟨u, e⟩ := hl'
      exact Lst.ks ⟨u, k l _ (Ne.symm hIl) e⟩ q₂
    have hp₂ : PairsF h₂ items (3 * τ) (entry n) := hp.mono fun T p q t => by
      refine q₂.tup ?_
      obtain ⟨o, e, c, r⟩ := t
      refine ⟨o, k T o ?_ e, c, r⟩
      rintro rfl
      obtain ⟨o', e', c'⟩ := hIt _ _ st'
      rw [e] at e'; cases e'
      rw [c] at c'
      injection c' with c'
      exact absurd c' (by decide)
    refine wpAny_execs_cons (wpAny_For (Call_ (nmBe W₂ (by k_dflt k_is) PyProof.Rows.boot_zip (Pv.callWith_type1 (args_cons (nmL X₃ J.m1 (args_cons (nmL X₃ J.m2 (args_cons (nmL X₃ J.m3 (args_nil (call_zip_3 l1' l2' l3' fun h₃ S k₃ => zip_iter S ?_))))))))))))
    have k₃ : Kp h₂ h₃ := k₃
    have X₄ := InCallC.kp (tk := tk₂) X₃ k₃
    refine inner4 (nz := h₂.objs.size) (hz := h₂) (τ := τ) (tt := t) W₀ hl0 hh hroom hτ (fun b o e => Heap.lt_size e) (fun b o e => Heap.lt_size (X₃.toInCall.keep b o e)) X₃.toInCall.ns.lt (fun i c hc => cell_lt X₃ hc) hx hy hz' sx sy sz (fun i hi => ?_) (H.ks (fun o e => kl₂ x o xl (.inl ox) e) (fun o e => kl₂ dx o dxl (.inl odx) e)) ox odx xl dxl d1 d2 d3
      (Heap.lt_size l1'.choose_spec.1) (Heap.lt_size l2'.choose_spec.1) (Heap.lt_size l3'.choose_spec.1) (Heap.lt_size hl₂.choose_spec) ⟨_, ⟨X₄, J.m1, J.m2, J.m3, J.m4, fun b o _ _ e => k₃ b o e, items, hl₂.ks (Ks.of k₃), hp₂.mono fun T p q t => (Ks.of k₃).tup t⟩, ?_⟩ S fun s'' m'' J'' => ?_
    · obtain ⟨q, row, r1, r2⟩ := hr i hi
      exact ⟨q, row, kl₂.lst q r1, r2⟩
    · show some (Value.int (0 + (τ : Int)) t) = some (.int (τ : Int) t)
      rw [Int.zero_add]
    · refine wpAny_execs_nil ⟨⟨m'', J''.X, J''.m1, J''.m2, J''.m3, J''.m4, kl₂.trans J''.kl, J''.ps⟩, Wk.frame _ _ _ st₃ fun b hb o e => ?_⟩
      rw [List.mem_singleton.mp hb] at e ⊢
      exact J''.kl I o hIl (.inl oI) e
  · rintro s' h' tk ⟨⟨m, J⟩, st'⟩ k
    have k : ∀ b o, b ≠ I → s'.heap.get? b = some o → h'.get? b = some o := fun b o hb e => k b o (fun hm => hb (List.mem_singleton.mp hm)) e
    have X₂ : InCallC s₀ (lawEnv L cd).locals m (lawEnv L cd).cells cm { s' with heap := h', toks := tk } := InCallC.kg J.X (fun b o e0 e => k b o (by rintro rfl; rw [hi0] at e0; cases e0) e) (fun o e => k _ o (Ne.symm oI.l) e) (fun i c o hk e => k c o (Ne.symm (oI.c i c hk)) e)
    obtain ⟨items, ⟨u, hl'⟩, hp⟩ := J.ps
    refine h _ m ⟨X₂, J.m1, J.m2, J.m3, J.m4, fun b o hb d e => k b o (by rintro rfl; rw [hI] at e; cases e) (J.kl b o hb d e), items, ⟨u, k l _ (Ne.symm hIl) hl'⟩, hp.mono fun T p q t => ?_⟩
    obtain ⟨o, e, c, r⟩ := t
    refine ⟨o, k T o ?_ e, c, r⟩
    rintro rfl
    obtain ⟨o', e', c'⟩ := hIt _ _ st'
    rw [e] at e'; cases e'
    rw [c] at c'
    injection c' with c'
    exact absurd c' (by decide)
end
end Mine
end

section
open PySem PySem.W PySem.Calls PyProof.Rows PySem.Spec
set_option maxRecDepth 8000
namespace Mine
set_option maxHeartbeats 4000000 in
theorem ext_gen (l : Addr) (items : Array Value) (n : Nat) (b : Addr) (items2 : Array Value) (n2 : Nat) (d : Option Addr) (sl : Array (Option Value)) (hc0 : ¬(!items.isEmpty && Builtin.List.listTooLong (items.size + items2.size)) = true) (hc1 : items.size ≤ sizeLine) (hs2 : items.size + items2.size ≤ sizeLine + 1) :
    Meets (Builtin.«list.extend» ⟨[.ref l, .ref b], []⟩) (fun _ R s => s.heap.get? l = some { cls := .type "list", dict := none, data := .seq items n, slots := #[] } ∧ s.heap.get? b = some { cls := .type "list", dict := d, data := .seq items2 n2, slots := sl } ∧ R (.ok (.ret Value.none)) { s with heap := s.heap.update l (Obj.mapSeq fun x => x ++ items2), toks := s.toks }) :=
  .of_wp fun prog w A R s h => by
    obtain ⟨hp, g, dd, tk, os⟩ := s; obtain ⟨hl, hb, h⟩ := h; have f1 := PySem.AutoSeq1.idx_int; have f2 := PySem.AutoSeq1.sub_tuple_tuple; have f3 := PySem.AutoSeq1.sub_list_list; have f4 := PySem.AutoSeq1.sub_tuple_list; have f5 := PySem.AutoSeq1.sub_list_tuple;
    have hz' : (items ++ items2).size ≤ sizeLine + 1 := by rw [Array.size_append]; exact hs2
    wp_walk using (wpAny_updateSeq hl rfl (hz := hc1) (_hz' := hz')), PySem.AutoSeq1.wpAny_loadPart' hl, PySem.AutoSeq1.wpAny_loadPart' hb; exact ⟨_, rfl, h⟩
section
variable {prog : Program} {w : World} {A : Around} {E : Value → Shared → Prop} {s : Shared}
theorem list_extend {D b : Addr} {its its2 : Array Value} {Q : Value → Shared → Prop} (hl : Lst s.heap D its) (hb : s.heap.IsList b its2) (hsz : its.size + its2.size ≤ 1000)
    (h : ∀ h', Heap.SameBut D s.heap h' → Lst h' D (its ++ its2) → Q .none { s with heap := h' }) : wpAny (model prog w) A (call (.builtin "list.extend") [.ref D, .ref b]) Q E s := by
  obtain ⟨n, e⟩ := hl
  obtain ⟨⟨c, d, dt, sl⟩, e2, rfl, n2, rfl⟩ := hb
  have hsz' : its.size + its2.size ≤ sizeLine := by rw [sizeLine_eq]; omega
  refine call_meets PySem.F.slot_list_extend ⟨_, e, rfl⟩ PySem.F.entry_list_extend (PySem.F.args_list_extend_2 _ _) (ext_gen D its n b its2 n2 d sl (PyProof.Rows.extend_door hsz') (Nat.le_trans (Nat.le_add_right _ _) hsz') (Nat.le_succ_of_le hsz')) ⟨e, e2, ?_⟩
  refine h _ (Heap.SameBut.update ..) ?_
  refine ⟨if (its ++ its2).size == its.size then n else n + 1, ?_⟩
  rw [Heap.get?_update_self _ e (by rw [PyProof.Rows.mapSeq_app]; rfl), PyProof.Rows.mapSeq_app]
theorem list_method {name : Str} {id : String} {pl : Sem Bool} {D : Addr} {its : Array Value} {Q : Value × List Value → Shared → Prop} (hl : Lst s.heap D its) (slot : Slot "list" name id) (hty : typeOf (.builtin id) = pure (.type "method_descriptor"))
    (h : Q (.builtin id, [.ref D]) s) : wpAny (model prog w) A (getMethod (.ref D) name pl) Q E s := by
  obtain ⟨n, e⟩ := hl
  exact getMethod_builtin ⟨_, e, rfl⟩ PySem.F.plainAttrs_list slot hty (fun a q => by cases q; exact ⟨_, e, rfl⟩) h
end
end Mine
end

section
open PySem PySem.W PySem.Calls PyProof.Rows PySem.Spec
set_option maxRecDepth 100000
namespace Mine
section
variable {prog : Program} {w : World} {A : Around} {E : Value → Shared → Prop} {s : Shared}
theorem listW {l : Addr} {its : Array Value} {Q : Value → Shared → Prop} (hh : A.handled = none) (hl : s.heap.IsList l its)
    (h : ∀ I h' St, Walks prog w A I [I, l] [I] its.size (fun i v => its[i]? = some v) St → St 0 h' → Kp s.heap h' → s.heap.get? I = none → Q (.ref I) { s with heap := h' }) : wpAny (model prog w) A (pyIter (.ref l)) Q E s := by
  have hlt : l < s.heap.objs.size := by obtain ⟨_, e, _⟩ := hl; exact Heap.lt_size e
  exact wpAny_pyIter_list hl (h _ _ _ (Walks.list hh s.heap.objs.size l (Nat.ne_of_lt hlt) its) ⟨⟨_, Heap.get?_push_size _ rfl, rfl, rfl⟩, hl.push _⟩ (fun b o e => Heap.get?_push_of_some _ e) (none_size _))
theorem slice_sn_kp {value slice : Expr} {x : Str} {t ui : Tok} {i : Int} {Q : Value → Shared → Prop} (h : ∀ h' t' k, Kp s.heap h' → Q (.str (Txt.slice x (some i) none) t') { s with heap := h', toks := k }) (hsz : x.length ≤ sizeLine)
    (hs : subscripted slice false (.str x t) (.ref s.heap.objs.size) = operate [.ref s.heap.objs.size, .str x t] (getItem (.str x t) (.ref s.heap.objs.size)) := by with_unfolding_all rfl)
    (ht : ∀ r, letTemporaryGo value (.str x t) r = pure () := by intro _; with_unfolding_all rfl) :
    wpAny (model prog w) A (subscriptTail value slice (.str x t) (.ref s.heap.objs.size)) Q E { s with heap := s.heap.push { cls := .type "slice", data := .fields #[.int i ui, .none, .none] } } :=
  PyProof.Rows.tail_of_ItemOn (SBH.sliceItem_sn (P := fun h' => Kp s.heap h') (fun h ob k b o e => Heap.get?_push_of_some _ (k b o e)) Kp.rfl h hsz) hs ht
end
/-- texts at their places -/
structure StrsF (ws : Array Value) (K : Nat) (f : Nat → Str) : Prop where
  size : ws.size = K
  at_ : ∀ i, i < K → ∃ t, ws[i]? = some (.str (f i) t)
def pl (n : Nat → Int) (k : Nat) : Nat := (cn (n (k / 3)) (k % 3)).toNat
theorem pl_lt (n : Nat → Int) (k : Nat) : pl n k < 6 := by
  have := cn_lt (n (k / 3)) (k % 3)
  unfold pl
  omega
def cap (i : Nat) : Str := Txt.upper (Txt.item (base i) 0) ++ Txt.slice (base i) (some 1) none
theorem base3 {P : Str → Prop} {i : Nat} (h0 : P (Str.ofString "lid")) (h1 : P (Str.ofString "rim")) (h2 : P (Str.ofString "hub")) : P (base i) := by
  unfold base
  split
  · exact h0
  · split
    · exact h1
    · exact h2
theorem base_len {i : Nat} : (base i).length = 3 := base3 (P := fun x => x.length = 3) (by decide +kernel) (by decide +kernel) (by decide +kernel)
theorem base_low {i : Nat} : Txt.lower (base i) = base i ∧ Txt.lower (Txt.upper (base i)) = base i ∧ Txt.lower (cap i) = base i ∧ (cap i).length ≤ 1000 := by
  unfold cap
  exact base3 (P := fun x => Txt.lower x = x ∧ Txt.lower (Txt.upper x) = x ∧ Txt.lower (Txt.upper (Txt.item x 0) ++ Txt.slice x (some 1) none) = x ∧ (Txt.upper (Txt.item x 0) ++ Txt.slice x (some 1) none).length ≤ 1000) (by decide +kernel) (by decide +kernel) (by decide +kernel)
theorem base_cap {i : Nat} : (Txt.upper (Txt.item (base i) 0)).length + (Txt.slice (base i) (some 1) none).length ≤ 6 := base3 (P := fun x => (Txt.upper (Txt.item x 0)).length + (Txt.slice x (some 1) none).length ≤ 6) (by decide +kernel) (by decide +kernel) (by decide +kernel)
theorem base_inj {i j : Nat} (hi : i < 3) (hj : j < 3) : (base i == base j) = decide (i = j) := by
  have h : ∀ i : Fin 3, ∀ j : Fin 3, (base i == base j) = decide (i.val = j.val) := by decide +kernel
  exact h ⟨i, hi⟩ ⟨j, hj⟩
theorem name_low (n : Nat → Int) (k : Nat) : Txt.lower (nameK n k) = base (k % 3) := by
  unfold nameK
  split
  · exact base_low.1
  · exact base_low.2.1
theorem upper_len {i : Nat} : (Txt.upper (base i)).length ≤ 1000 := base3 (P := fun x => (Txt.upper x).length ≤ 1000) (by decide +kernel) (by decide +kernel) (by decide +kernel)
theorem name_len (n : Nat → Int) (k : Nat) : (nameK n k).length ≤ 1000 := by
  unfold nameK
  split
  · rw [base_len]; decide
  · exact upper_len
def rowsOf (n : Nat → Int) : List (Str × Str) := (List.range 9).map (entry n)
theorem rows_getD (n : Nat → Int) {k : Nat} (hk : k < 9) : (rowsOf n).getD k ("", "") = entry n k := by
  unfold rowsOf
  rw [List.getD_eq_getElem?_getD, List.getElem?_map, List.getElem?_range hk]
  rfl
theorem pairs_of {h : Heap} {its : Array Value} {n : Nat → Int} (x : PairsF h its 9 (entry n)) : Pairs2 h its (rowsOf n) := by
  have e : (rowsOf n).length = 9 := by unfold rowsOf; rw [List.length_map, List.length_range]
  refine ⟨by rw [x.size, e], fun i hi => ?_⟩
  rw [e] at hi
  obtain ⟨T, t1, t2, q1, q2⟩ := x.at_ i hi
  exact ⟨T, t1, t2, q1, by rw [rows_getD n hi]; exact q2⟩
theorem pick3 (n : Nat → Int) {i : Nat} (hi : i < 3) : (List.range (rowsOf n).length).filter (fun k => Txt.lower ((rowsOf n).getD k ("", "")).1 == Txt.lower (cap i)) = [i, i + 3, i + 6] := by
  have e : (rowsOf n).length = 9 := by unfold rowsOf; rw [List.length_map, List.length_range]
  rw [e, base_low.2.2.1]
  have q : ∀ k ∈ List.range 9, (Txt.lower ((rowsOf n).getD k ("", "")).1 == base i) = decide (k % 3 = i) := fun k hk => by
    have hk := List.mem_range.mp hk
    rw [rows_getD n hk]
    show (Txt.lower (nameK n k) == base i) = _
    rw [name_low]
    exact base_inj (Nat.mod_lt _ (by decide)) hi
  rw [List.filter_congr q]
  have hi3 : i = 0 ∨ i = 1 ∨ i = 2 := by omega
  rcases hi3 with rfl | rfl | rfl <;> decide
end Mine
end

section
open PySem PySem.W PySem.Calls PyProof.Rows PySem.Spec
set_option maxRecDepth 100000
namespace Mine
theorem pairL3 {F : Nat → Value → Prop} {ys : Array Value} {a b c : Nat} (h : Pair2 F [a, b, c] ys.toList) : ∃ y0 y1 y2, ys = #[y0, y1, y2] ∧ F a y0 ∧ F b y1 ∧ F c y2 := by
  obtain ⟨l⟩ := ys
  simp only at h
  cases h with
  | cons h0 r0 => cases r0 with
    | cons h1 r1 => cases r1 with
      | cons h2 r2 => cases r2 with
        | nil => exact ⟨_, _, _, rfl, h0, h1, h2⟩
theorem StrsF.app3 {ws : Array Value} {K : Nat} {f : Nat → Str} {u0 u1 u2 : Tok} {a b c : Str} (x : StrsF ws K f) (ha : a = f K) (hb : b = f (K + 1)) (hc : c = f (K + 2)) : StrsF (ws ++ #[.str a u0, .str b u1, .str c u2]) (K + 3) f := by
  subst ha hb hc
  refine ⟨by rw [Array.size_append, x.size]; rfl, fun i hi => ?_⟩
  by_cases q : i < K
  · obtain ⟨t, e⟩ := x.at_ i q
    exact ⟨t, by rw [Array.getElem?_append_left (by rw [x.size]; exact q)]; exact e⟩
  · rw [Array.getElem?_append_right (by rw [x.size]; omega), x.size]
    have : i = K ∨ i = K + 1 ∨ i = K + 2 := by omega
    rcases this with rfl | rfl | rfl
    · exact ⟨u0, by rw [Nat.sub_self]; rfl⟩
    · exact ⟨u1, by rw [show K + 1 - K = 1 by omega]; rfl⟩
    · exact ⟨u2, by rw [show K + 2 - K = 2 by omega]; rfl⟩
section
variable {w : World} {A : Around} {E : Value → Shared → Prop} {s s₀ : Shared} {L : Addr} {cd : Value} {m cm : Str → Option Value} {Q : Flow → Shared → Prop}
set_option maxHeartbeats 4000000 in
theorem st5g (X : InCallC s₀ (lawEnv L cd).locals m (lawEnv L cd).cells cm s)
    (h : ∀ s' D, InCallC s₀ (lawEnv L cd).locals m (lawEnv L cd).cells (fun y => if y = Str.ofString "words" then some (.ref D) else cm y) s' → Ks s.heap s'.heap → Kx (lawEnv L cd) s.heap s'.heap → Lst s'.heap D #[] → Out (lawEnv L cd) D → s.heap.get? D = none →
      wpAny (model PW w) A (execs (lawDef.1.drop 6) (lawEnv L cd)) Q E s') :
    wpAny (model PW w) A (execs (lawDef.1.drop 5) (lawEnv L cd)) Q E s := by
  refine wpAny_execs_cons (wpAny_Assign_Name (List_ (args_nil (newListX (fun h₁ k₁ L₁ => ?_) (Nat.zero_le _)))))
  have hD : s.heap.get? s.heap.objs.size = none := none_size _
  exact stC (InCallC.kp (tk := _) X k₁) rfl fun h₂ tk₂ X₂ ks keep => h _ _ X₂ ((Ks.of k₁).trans ks) ((Kx.of k₁).trans fun b o ob e => keep b o (ob.c (Str.ofString "words") _ rfl) e) (L₁.ks ks) (out_of X hD) hD
set_option maxHeartbeats 4000000 in
theorem st6 {n : Nat → Int} {DN x dx l D : Nat} {xs items : Array Value} (W₀ : Wd w s₀.heap) (hh : A.handled = none) (hroom : A.depth + 1 < recursionLimit)
    (X : InCallC s₀ (lawEnv L cd).locals m (lawEnv L cd).cells cm s) (m1 : m "names" = some (.ref DN)) (m4 : m "table" = some (.ref x)) (hc : cm "words" = some (.ref D))
    (hx : ∀ i, i < 3 → ∃ t, xs[i]? = some (.str (base i) t)) (sx : xs.size = 3) (l1 : s.heap.IsList DN xs)
    (H : Hdr s.heap x dx l) (hl : Lst s.heap l items) (hp : PairsF s.heap items 9 (entry n)) (hD : Lst s.heap D #[]) (hD0 : s₀.heap.get? D = none)
    (ox : Out (lawEnv L cd) x) (odx : Out (lawEnv L cd) dx) (xD : x ≠ D) (dxD : dx ≠ D) (dD : DN ≠ D) (lD : l ≠ D)
    (h : ∀ s' m' ws, InCallC s₀ (lawEnv L cd).locals m' (lawEnv L cd).cells cm s' → (∀ y, y ≠ Str.ofString "name" → y ≠ Str.ofString "told" → m' y = m y) → Kl (lawEnv L cd) D s.heap s'.heap → Lst s'.heap D ws → StrsF ws 9 (fun k => wordP (pl n k)) →
      wpAny (model PW w) A (execs (lawDef.1.drop 7) (lawEnv L cd)) Q E s') :
    wpAny (model PW w) A (execs (lawDef.1.drop 6) (lawEnv L cd)) Q E s := by
  refine wpAny_execs_cons (wpAny_For (nmL X m1 (listW hh l1 fun I h₁ St Wk st k₁ hI => ?_)))
  have Wk := sx ▸ Wk
  have hi0 : s₀.heap.get? I = none := cell_none X hI
  have oI : Out (lawEnv L cd) I := out_of X hI
  have hIl : I ≠ D := by
    rintro rfl
    obtain ⟨u, e⟩ := hD
    rw [hI] at e; cases e
  have X₁ : InCallC s₀ (lawEnv L cd).locals m (lawEnv L cd).cells cm { s with heap := h₁, toks := s.toks } := InCallC.kp X k₁
  refine for_walk Wk (fun _ => rfl) (fun i s' => (∃ m', InCallC s₀ (lawEnv L cd).locals m' (lawEnv L cd).cells cm s' ∧ (∀ y, y ≠ Str.ofString "name" → y ≠ Str.ofString "told" → m' y = m y) ∧ Kl (lawEnv L cd) D s.heap s'.heap ∧ ∃ ws, Lst s'.heap D ws ∧ StrsF ws (3 * i) (fun k => wordP (pl n k))) ∧ St i s'.heap)
    (fun _ _ h => h.2) ?_ ?_ ⟨⟨m, X₁, fun _ _ _ => rfl, fun b o _ _ e => k₁ b o e, #[], ⟨_, k₁ _ _ hD.choose_spec⟩, ⟨rfl, fun i hi => by omega⟩⟩, st⟩
  · rintro i v s' h' tk E' hi hP ⟨⟨m', X', hm', kl, ws, hws, hS⟩, st'⟩ st₂ k
    obtain ⟨tv, ev⟩ := hx i hi
    have hP : xs[i]? = some v := hP
    rw [ev] at hP; cases hP
    have k : ∀ b o, b ≠ I → s'.heap.get? b = some o → h'.get? b = some o := fun b o hb e => k b o (fun hm => hb (List.mem_singleton.mp hm)) e
    have X₂ : InCallC s₀ (lawEnv L cd).locals m' (lawEnv L cd).cells cm { s' with heap := h', toks := tk } := InCallC.kg X' (fun b o e0 e => k b o (by rintro rfl; rw [hi0] at e0; cases e0) e) (fun o e => k _ o (Ne.symm oI.l) e) (fun i c o hk e => k c o (Ne.symm (oI.c i c hk)) e)
    refine wpAny_assign_Name (stL X₂ fun h₂ tk₂ X₃ q₂ g₂ => ?_)
    have kl₂ : Kl (lawEnv L cd) D s.heap h₂ := fun b o hb d e => by
      have e' := k b o (by rintro rfl; rw [hI] at e; cases e) (kl b o hb d e)
      rcases d with ob | d
      · exact g₂ b o ob.l e'
      · exact q₂ b o e' d
    have W₂ : Wd w h₂ := W₀.kp X₃.toInCall.keep
    have H₂ : Hdr h₂ x dx l := H.ks (fun o e => kl₂ x o xD (.inl ox) e) (fun o e => kl₂ dx o dxD (.inl odx) e)
    have hl₂ : h₂.IsList l items := kl₂.lst lD hl.is
    have hp₂ : PairsF h₂ items 9 (entry n) := hp.mono fun T p q t => kl₂.tup (tup_ne hD t) t
    have hD₂ : Lst h₂ D ws := by
      obtain ⟨u, e⟩ := hws
      exact Lst.ks ⟨u, k D _ (Ne.symm hIl) e⟩ q₂
    have H₂' := H₂
    obtain ⟨es, n', I', e1, e2, e3, e4⟩ := H₂'
    have m4' : m' "table" = some (.ref x) := (hm' _ (by decide) (by decide)).trans m4
    refine wpAny_execs_cons (wpAny_Assign_Name (MethodCall_ (nmL X₃ m4' (method_fn W₂.X I' (by k_dflt k_is) (by k_dflt k_is) (f := 121) (by k_dflt k_is) (by k_dflt k_is) (by show (lookIn _ (dictOf es n')).map _ = _; rw [lookIn_dict, e4]; rfl) ?_))))
    refine callWith_K W₂.X (by k_dflt k_is) (args_cons (wpAny_BinOp (MethodCall_ (Subscript_ (nmL X₃ rfl (wpAny_Constant_int (PyProof.Rows.item_str (by decide) (by rw [base_len]; decide) (by rw [base_len]; decide) (fun hlen => ?_))))))))
    refine PySem.GM.upper (PyProof.Rows.callWith_method0 (PyProof.Rows.SCL.upper (by omega) fun _ => ?_))
    refine Subscript_ (nmL (X₃.tok _) rfl (wpAny_Slice (evalPart_some_step (wpAny_Constant_int (evalPart_none_step (evalPart_none_step (slice_sn_kp (fun h₄ t₄ tk₄ k₄ => ?_) (by rw [base_len, sizeLine_eq]; decide))))))))
    refine PyProof.Rows.add_str (fun t₅ tk₅ => args_nil ⟨W₂.X.keeps k₄, ?_⟩) (by have := base_cap (i := i); rw [sizeLine_eq]; omega)
    have X₄ := InCallC.kp (tk := tk₅) X₃ k₄
    have rl : (rowsOf n).length ≤ 1000 := by unfold rowsOf; rw [List.length_map, List.length_range]; decide
    have rs : ∀ r ∈ rowsOf n, r.1.length ≤ 1000 := fun r hr => by
      unfold rowsOf at hr
      obtain ⟨k, _, rfl⟩ := List.mem_map.mp hr
      exact name_len n k
    have hq : quiet codeN (Txt.lower (cap i)) = true := by rw [base_low.2.2.1]; exact quiet_base.1
    refine all_call (W₀.kp X₄.toInCall.keep) hh hroom (H₂.ks (fun o e => k₄ _ o e) (fun o e => k₄ _ o e)) (hl₂.at fun o e => k₄ _ o e) ((pairs_of hp₂).ks (Ks.of k₄)) rl rs (base_low (i := i)).2.2.2 hq fun h₆ tk₆ Dt ys hDt hys hpair k₆ => ?_
    have q3 := pick3 n hi
    unfold cap at q3
    rw [q3] at hpair
    obtain ⟨y0, y1, y2, rfl, ⟨u0, rfl⟩, ⟨u1, rfl⟩, ⟨u2, rfl⟩⟩ := pairL3 hpair
    refine stL (InCallC.kp (tk := tk₆) X₄ k₆) fun h₇ tk₇ X₇ q₇ g₇ => ?_
    have W₇ : Wd w h₇ := W₀.kp X₇.toInCall.keep
    have hys₇ := q₇.lst hys
    have hD₇ : Lst h₇ D ws := ((hD₂.ks (Ks.of k₄)).ks (Ks.of k₆)).ks q₇
    refine wpAny_execs_cons (wpAny_If (wpAny_isTrue_Compare1 (Call_ (nmBe W₇ (by k_dflt k_is) PySem.boot_len (PyProof.Rows.callWith_builtin1 (args_cons (nmL X₇ rfl (args_nil (PyProof.Rows.len_list hys₇ (by show ((3 : Nat) : Int) < _; decide) (wpAny_Constant_int (PyProof.Rows.ne_int (wpAny_truthy_bool (ite_negB (by rfl) (wpAny_execs_nil ?_))))))))))))))
    refine wpAny_execs_cons (wpAny_Expr (MethodCall_ (nmC (X₇.tok _) rfl hc (list_method hD₇ PySem.F.slot_list_extend PySem.F.type_list_extend (PyProof.Rows.callWith_method1 (args_cons (nmL (X₇.tok _) rfl (args_nil (list_extend hD₇ hys₇ ?_ fun h₈ sb hD₈ => wpAny_execs_nil ?_)))))))))
    · rw [hS.size]; show 3 * i + 3 ≤ 1000; omega
    have hk8 : ∀ b o, b ≠ D → h₇.get? b = some o → h₈.get? b = some o := fun b o hb e => sb.extBut b o hb e
    refine ⟨⟨_, InCallC.kb (X₇.tok _) hD₇ hD0 hk8, fun y y1 y2 => ?_, ?_, _, hD₈, ?_⟩, ?_⟩
    · rw [if_neg y2, if_neg y1]
      exact hm' y y1 y2
    · refine kl₂.trans fun b o hb d e => hk8 b o hb ?_
      rcases d with ob | d
      · exact g₇ b o ob.l (k₆ b o (k₄ b o e))
      · exact q₇ b o (k₆ b o (k₄ b o e)) d
    · have f : ∀ j, j < 3 → ((rowsOf n).getD (i + 3 * j) ("", "")).2 = wordP (pl n (3 * i + j)) := fun j hj => by
        rw [rows_getD n (by omega)]
        unfold entry pl
        rw [show (i + 3 * j) % 3 = i by omega, show (i + 3 * j) / 3 = j by omega, show (3 * i + j) / 3 = i by omega, show (3 * i + j) % 3 = j by omega]
      exact hS.app3 (f 0 (by decide)) (f 1 (by decide)) (f 2 (by decide))
    · refine Wk.frame _ _ _ st₂ fun b hb o e => ?_
      rcases List.mem_cons.mp hb with rfl | hb
      · exact hk8 b o hIl (g₇ b o oI.l (k₆ b o (k₄ b o (g₂ b o oI.l e))))
      · rw [List.mem_singleton.mp hb] at e ⊢
        obtain ⟨o₀, e₀, c₀, z, d₀⟩ := l1
        have e' := k DN o₀ (by rintro rfl; rw [hI] at e₀; cases e₀) (kl DN o₀ dD (.inr ⟨_, _, d₀⟩) e₀)
        have e : h'.get? DN = some o := e
        rw [e] at e'; cases e'
        exact hk8 DN o dD (q₇ DN o (k₆ DN o (k₄ DN o (q₂ DN o e ⟨_, _, d₀⟩))) ⟨_, _, d₀⟩)
  · rintro s' h' tk ⟨⟨m', X', hm', kl, ws, hws, hS⟩, st'⟩ k
    have k : ∀ b o, b ≠ I → s'.heap.get? b = some o → h'.get? b = some o := fun b o hb e => k b o (fun hm => hb (List.mem_singleton.mp hm)) e
    have X₂ : InCallC s₀ (lawEnv L cd).locals m' (lawEnv L cd).cells cm { s' with heap := h', toks := tk } := InCallC.kg X' (fun b o e0 e => k b o (by rintro rfl; rw [hi0] at e0; cases e0) e) (fun o e => k _ o (Ne.symm oI.l) e) (fun i c o hk e => k c o (Ne.symm (oI.c i c hk)) e)
    obtain ⟨u, hws⟩ := hws
    exact h _ m' ws X₂ hm' (fun b o hb d e => k b o (by rintro rfl; rw [hI] at e; cases e) (kl b o hb d e)) ⟨u, k D _ (Ne.symm hIl) hws⟩ hS
end
end Mine
end

section
open PySem PySem.W PySem.Calls PyProof.Rows PySem.Spec
set_option maxRecDepth 100000
namespace Mine
/-- in how many parts two corners differ -/
def wd (p q : Nat) : Nat := ((List.range 3).filter fun i => (great p).getD i false != (great q).getD i false).length
def levOk (a b : Str) (d : Int) : Bool := match preStop a b 4 0 with
  | none => false
  | some k => match postStop (Txt.slice a (some k) none) (Txt.slice b (some k) none) 4 0 with
    | none => false
    | some q =>
      let a₂ := Txt.slice (Txt.slice a (some k) none) none (opt0 q)
      let b₂ := Txt.slice (Txt.slice b (some k) none) none (opt0 q)
      decide (a₂.length = b₂.length ∧ 1 ≤ a₂.length) && (match outerN a₂ b₂ a₂.length a₂.length with
        | some (_, e) => e == d
        | none => false)
def levAll (p : Nat) : Bool := (List.range 6).all fun q => p == q || (!(wordP p == wordP q) && levOk (wordP p) (wordP q) (wd p q))
theorem v0 : levAll 0 = true := by decide +kernel
theorem v1 : levAll 1 = true := by decide +kernel
theorem v2 : levAll 2 = true := by decide +kernel
theorem v3 : levAll 3 = true := by decide +kernel
theorem v4 : levAll 4 = true := by decide +kernel
theorem v5 : levAll 5 = true := by decide +kernel
theorem lev_of {p q : Nat} (hp : p < 6) (hq : q < 6) (ne : p ≠ q) : (wordP p == wordP q) = false ∧ levOk (wordP p) (wordP q) (wd p q) = true := by
  have h : levAll p = true := by
    have : p = 0 ∨ p = 1 ∨ p = 2 ∨ p = 3 ∨ p = 4 ∨ p = 5 := by omega
    rcases this with rfl | rfl | rfl | rfl | rfl | rfl
    · exact v0
    · exact v1
    · exact v2
    · exact v3
    · exact v4
    · exact v5
  have h := List.all_eq_true.mp h q (List.mem_range.mpr hq)
  rw [Bool.or_eq_true, Bool.and_eq_true] at h
  rcases h with h | h
  · exact absurd (by simpa using h) ne
  · exact ⟨by simpa using h.1, h.2⟩
theorem wd_self {p : Nat} : wd p p = 0 := by simp [wd]
theorem word_len {p : Nat} (hp : p < 6) : (wordP p).length ≤ 3 := by
  have : p = 0 ∨ p = 1 ∨ p = 2 ∨ p = 3 ∨ p = 4 ∨ p = 5 := by omega
  rcases this with rfl | rfl | rfl | rfl | rfl | rfl <;> decide +kernel
section
variable {w : World} {A : Around} {E : Value → Shared → Prop} {s : Shared} {Q : Value → Shared → Prop}
theorem lev_word {p q : Nat} {t1 t2 t3 : Tok} (W : Wd w s.heap) (hh : A.handled = none) (hroom : A.depth + 1 < recursionLimit) (hp : p < 6) (hq : q < 6)
    (h : ∀ h' tk' t, Kp s.heap h' → Q (.int (wd p q) t) { s with heap := h', toks := tk' }) :
    wpAny (model PW w) A (call (.ref 214) [.str (wordP p) t1, .str (wordP q) t2, .int 3 t3]) Q E s := by
  by_cases e : p = q
  · subst e
    rw [wd_self] at h
    exact lev_same W (Nat.lt_of_succ_lt hroom) h
  · obtain ⟨hab, hl⟩ := lev_of hp hq e
    unfold levOk at hl
    split at hl
    · cases hl
    · rename_i k hk
      split at hl
      · cases hl
      · rename_i r hr
        simp only [Bool.and_eq_true, decide_eq_true_eq] at hl
        obtain ⟨⟨l1, l2⟩, l3⟩ := hl
        split at l3
        · rename_i row d ho
          have ed : d = (wd p q : Int) := by simpa using l3
          subst ed
          exact lev_call W hh hroom hab (word_len hp) (word_len hq) hk rfl rfl hr rfl rfl rfl l1.symm l2 ho h
        · cases l3
end
end Mine
end

section
open PySem PySem.W PySem.Calls PyProof.Rows PySem.Spec
set_option maxRecDepth 100000
namespace Mine
theorem Pair2.get {F : Nat → Value → Prop} : ∀ {l₁ : List Nat} {l₂ : List Value}, Pair2 F l₁ l₂ → ∀ (i a : Nat), l₁[i]? = some a → ∃ b, l₂[i]? = some b ∧ F a b
  | _, _, .nil, i, a, e => by simp at e
  | _, _, .cons h₁ t, 0, a, e => by
    simp at e
    subst e
    exact ⟨_, rfl, h₁⟩
  | _, _, .cons h₁ t, i + 1, a, e => by
    simp at e
    obtain ⟨b, q, r⟩ := Pair2.get t i a e
    exact ⟨b, by simpa using q, r⟩
theorem pair_at {F : Nat → Value → Prop} {n i : Nat} {ys : Array Value} (h : Pair2 F (List.range n) ys.toList) (hi : i < n) : ∃ y, ys[i]? = some y ∧ F i y := by
  obtain ⟨b, q, r⟩ := h.get i i (List.getElem?_range hi)
  exact ⟨b, by simpa using q, r⟩
theorem pair_size {F : Nat → Value → Prop} {n : Nat} {ys : Array Value} (h : Pair2 F (List.range n) ys.toList) : ys.size = n := by
  have := h.len
  rw [List.length_range, Array.length_toList] at this
  exact this.symm
theorem filter_true (n : Nat) : (List.range n).filter (fun _ => true) = List.range n := List.filter_eq_self.mpr fun _ _ => rfl
section
variable {prog : Program} {w : World} {A : Around} {E : Value → Shared → Prop} {s : Shared}
theorem iter_range1S {n : Nat} {N : Int} {t : Tok} {Q : Value → Shared → Prop} (hh : A.handled = none) (hsm : Builtin.Range.small 0 N 1 = true) (hn : Builtin.Range.rangeSize 0 N 1 = (n : Int))
    (h : ∀ I s₂, SrcIt prog w A s s₂ I n (fun i v => ∃ t, v = .int (0 + (i : Int)) t) → s.heap.objs.size ≤ s₂.heap.objs.size → Q (.ref I) s₂) :
    wpAny (model prog w) A (call (.type "range") [.int N t]) (fun xv s₁ => wpAny (model prog w) A (pyIter xv) Q E s₁) E s := by
  refine call_range_1 ?_
  refine wpAny_pyIter_range (r := s.heap.objs.size) (a := 0) (b := N) (c := 1) (t := s.toks) (u := t) (v := s.toks + 1) ?hr hsm (h _ _ ⟨[(s.heap.push _).objs.size], _, _, _, LCg.range_walks hh 0 n, ?_, ?_, rfl, fun b o e => Heap.get?_push_of_some _ (Heap.get?_push_of_some _ e), none_ge ?_⟩ ?_)
  case hr => exact Heap.get?_push_size _ rfl
  · show IsRangeIter _ _ _ _ _
    rw [hn, show (n : Int) - ((0 : Nat) : Int) = n by omega]
    exact Heap.get?_push_size _ rfl
  · intro b hb
    rw [List.mem_singleton.mp hb]
    show (s.heap.push _).objs.size < ((s.heap.push _).push _).objs.size
    rw [Heap.size_push (s.heap.push _)]; exact Nat.lt_succ_self _
  · show s.heap.objs.size ≤ (s.heap.push _).objs.size
    rw [Heap.size_push]; exact Nat.le_succ _
  · show s.heap.objs.size ≤ ((s.heap.push _).push _).objs.size
    rw [Heap.size_push, Heap.size_push]; omega
end
def dst (f : Nat → Nat) (j k : Nat) : Int := if j / 3 < k / 3 then (wd (f j) (f k) : Int) else 0
def RowF (h : Heap) (R : Addr) (f : Nat → Nat) (j : Nat) : Prop := ∃ row, h.IsList R row ∧ row.size = 9 ∧ ∀ k, k < 9 → ∃ t, row[k]? = some (.int (dst f j k) t)
def FarF (h : Heap) (vs : Array Value) (f : Nat → Nat) : Prop := vs.size = 6 ∧ ∀ j, j < 6 → ∃ R, vs[j]? = some (.ref R) ∧ RowF h R f j
theorem fdiv3 (j : Nat) : ((0 : Int) + (j : Int)).fdiv 3 = ((j / 3 : Nat) : Int) := by
  rw [Int.fdiv_eq_ediv_of_nonneg _ (by decide)]; omega
section
variable {w : World} {A : Around} {E : Value → Shared → Prop} {s s₀ : Shared} {L : Addr} {cd : Value} {m cm : Str → Option Value} {Q : Flow → Shared → Prop}
set_option maxHeartbeats 4000000 in
theorem st7 {D : Addr} {ws : Array Value} {f : Nat → Nat} (hf : ∀ k, f k < 6) (W₀ : Wd w s₀.heap) (hh : A.handled = none) (hroom : A.depth + 1 < recursionLimit)
    (X : InCallC s₀ (lawEnv L cd).locals m (lawEnv L cd).cells cm s) (hc : cm "words" = some (.ref D)) (hD : s.heap.IsList D ws) (hS : StrsF ws 9 (fun k => wordP (f k)))
    (h : ∀ s' G vs, InCallC s₀ (lawEnv L cd).locals m (lawEnv L cd).cells (fun y => if y = Str.ofString "far" then some (.ref G) else cm y) s' → Ks s.heap s'.heap → s'.heap.IsList G vs → FarF s'.heap vs f →
      wpAny (model PW w) A (execs (lawDef.1.drop 8) (lawEnv L cd)) Q E s') :
    wpAny (model PW w) A (execs (lawDef.1.drop 7) (lawEnv L cd)) Q E s := by
  have W : Wd w s.heap := W₀.kp X.toInCall.keep
  have hcw : s.heap.IsCell _ (some (.ref D)) := hc ▸ X.cell (Str.ofString "words") _ rfl
  refine wpAny_execs_cons (wpAny_Assign_Name (compEC (fun n₀ j h y => ∃ R, y = .ref R ∧ n₀ ≤ R ∧ RowF h R f j) ?hF rfl (by intro n; rfl) (by intro h; rfl) rfl (by decide) (by rfl) (Call_ (nmBe W (by k_dflt k_is) PyProof.Rows.boot_range (Pv.callWith_type1 (args_cons (wpAny_Constant_int (args_nil (iter_range1 (n := 6) hh (by decide) (by decide) fun I s₂ S => ⟨I, 6, _, rfl, by rw [sizeLine_eq]; decide, S.of rfl Kp.rfl, ?_, ?_⟩)))))))))
  case hF =>
    rintro n₀ j h h' y ⟨R, e, hn, row, hr, r1, r2⟩ k
    exact ⟨R, e, hn, row, hr.at fun o q => k R o hn q, r1, r2⟩
  · rintro C c j v s₃ E' n₀ hj ⟨tj, rfl⟩ hcj k hz
    have W₃ : Wd w s₃.heap := W.kp k
    refine compE2 (fun _ => true) (fun _ i _ y => ∃ t, y = .int (dst f j i) t) (fun _ _ _ _ _ f _ => f) rfl (by decide) rfl (by decide) rfl (Call_ (nmBe W₃ (by k_dflt k_is) PyProof.Rows.boot_range (Pv.callWith_type1 (args_cons (wpAny_Constant_int (args_nil (iter_range1S (n := 9) hh (by decide) (by decide) fun I s₄ S hge => ⟨I, 9, _, rfl, by rw [sizeLine_eq]; decide, S.of rfl Kp.rfl, ?_, ?_⟩)))))))
    · refine ⟨fun C i v s₅ m₅ E' hi hP hn hm k => wpAny_tests_nil ⟨rfl, Keeps.self _⟩, ?_⟩
      rintro C₂ i v s₅ m₅ E'' n₁ hi ⟨ti, rfl⟩ _ hn hm k₂ hz₂
      have k₀ : Kp s.heap s₅.heap := fun b o e => k₂ b o (k b o e)
      have W₅ : Wd w s₅.heap := W.kp k₀
      have hcj₅ := hcj.keeps k₂
      have hcw₅ := hcw.keeps k₀
      have hD₅ : s₅.heap.IsList D ws := hD.at fun o e => k₀ _ o e
      refine IfExp_ (wpAny_isTrue_Compare1 (wpAny_BinOp (nmF (by rfl) hcj₅ (wpAny_Constant_int (PyProof.Rows.floordiv_int (by decide) ?_ (Or.inl (PyProof.noPylong_small (by decide))))))))
      refine wpAny_BinOp (nmX (m := m₅) hn hm (wpAny_Constant_int (PyProof.Rows.floordiv_int (by decide) ?_ (Or.inl (PyProof.noPylong_small (by decide))))))
      refine PyProof.Rows.lt_int (wpAny_truthy_bool (ite_both (fun q => ?_) (fun q => ?_)))
      · rw [fdiv3, fdiv3, decide_eq_true_eq] at q
        have q : j / 3 < i / 3 := by omega
        obtain ⟨u1, w1⟩ := hS.at_ j (by omega)
        obtain ⟨u2, w2⟩ := hS.at_ i hi
        have x1 : ws[((0 : Int) + (j : Int)).toNat]? = some (.str (wordP (f j)) u1) := by rw [show ((0 : Int) + (j : Int)).toNat = j by omega]; exact w1
        have x2 : ws[((0 : Int) + (i : Int)).toNat]? = some (.str (wordP (f i)) u2) := by rw [show ((0 : Int) + (i : Int)).toNat = i by omega]; exact w2
        refine Call_ (nmGe W₅ (by k_dflt k_is) (callWith_K W₅.X (by k_dflt k_is) (args_cons (Subscript_ (nmF (by rfl) hcw₅ (nmF (by rfl) hcj₅ (tail_any hD₅.typeIs slot_list_getitem.lookup (wpAny_getItem_list hD₅ (by omega) (by omega) x1 ?_) rfl)))))))
        refine args_cons (Subscript_ (nmF (by rfl) hcw₅ (nmX (m := m₅) hn hm (tail_any hD₅.typeIs slot_list_getitem.lookup (wpAny_getItem_list hD₅ (by omega) (by omega) x2 ?_) rfl))))
        refine args_cons (wpAny_Constant_int (args_nil ⟨W₅.X, ?_⟩))
        refine lev_word (p := f j) (q := f i) W₅ hh hroom (hf j) (hf i) fun h' tk' t k' => ⟨⟨t, congrArg (fun z => Value.int z _) ?_⟩, _, _, rfl, k'⟩
        unfold dst
        rw [if_pos q]
      · rw [fdiv3, fdiv3, decide_eq_false_iff_not] at q
        have q : ¬ (j / 3 < i / 3) := by omega
        refine wpAny_Constant_int ⟨⟨_, congrArg (fun z => Value.int z _) ?_⟩, Keeps.tok _ _⟩
        unfold dst
        rw [if_neg q]
    · intro n₁ R h' tk ys hge' hR hys hp k' hRn
      rw [filter_true] at hp
      refine ⟨⟨R, rfl, Nat.le_trans hz (Nat.le_trans hge hge'), ys, hys, pair_size hp, fun i hi => ?_⟩, _, _, rfl, k'⟩
      obtain ⟨y, q1, t, q2⟩ := pair_at hp hi
      exact ⟨t, q2 ▸ q1⟩
  · intro n₀ G h' tk ys hG hys hp k _
    refine stC (InCallC.kp (tk := tk) X k) rfl fun h₂ tk₂ X₂ ks keep => h _ G ys X₂ ((Ks.of k).trans ks) (ks.lst hys) ⟨pair_size hp, fun j hj => ?_⟩
    obtain ⟨y, q1, R, rfl, _, row, r1, r2, r3⟩ := pair_at hp hj
    exact ⟨R, q1, row, ks.lst r1, r2, r3⟩
end
end Mine
end

section
open PySem PySem.W PySem.Calls PyProof.Rows PySem.Spec
set_option maxRecDepth 100000
namespace Mine
abbrev T3 := Nat × Nat × Nat
/-- the triples found so far: by the last place, by the last two, by all -/
def tri3 (ok : Nat → Nat → Nat → Bool) (j k : Nat) : Nat → List T3
  | 0 => []
  | i + 1 => tri3 ok j k i ++ if ok j (3 + k) (6 + i) then [(j, 3 + k, 6 + i)] else []
def tri2 (ok : Nat → Nat → Nat → Bool) (j : Nat) : Nat → List T3
  | 0 => []
  | i + 1 => tri2 ok j i ++ tri3 ok j i 3
def tri1 (ok : Nat → Nat → Nat → Bool) : Nat → List T3
  | 0 => []
  | i + 1 => tri1 ok i ++ tri2 ok i 3
/-- a list of lists of three numbers -/
structure Trips (D : Addr) (h : Heap) (ys : Array Value) (ts : List T3) : Prop where
  size : ys.size = ts.length
  at_ : ∀ (i : Nat) (t : T3), ts[i]? = some t → ∃ D' t1 t2 t3, ys[i]? = some (.ref D') ∧ D' ≠ D ∧ h.IsList D' #[.int t.1 t1, .int t.2.1 t2, .int t.2.2 t3]
theorem Trips.mono {D : Addr} {h h' : Heap} {ys : Array Value} {ts : List T3} (x : Trips D h ys ts) (k : ∀ D' its, D' ≠ D → h.IsList D' its → h'.IsList D' its) : Trips D h' ys ts :=
  ⟨x.size, fun i t e => by obtain ⟨D', t1, t2, t3, a, b, c⟩ := x.at_ i t e; exact ⟨D', t1, t2, t3, a, b, k _ _ b c⟩⟩
theorem Trips.push {D D' : Addr} {h : Heap} {ys : Array Value} {ts : List T3} {t : T3} {t1 t2 t3 : Tok} (x : Trips D h ys ts) (hn : D' ≠ D) (l : h.IsList D' #[.int t.1 t1, .int t.2.1 t2, .int t.2.2 t3]) : Trips D h (ys.push (.ref D')) (ts ++ [t]) := by
  refine ⟨by rw [Array.size_push, x.size, List.length_append]; rfl, fun i u e => ?_⟩
  by_cases q : i < ts.length
  · rw [List.getElem?_append_left q] at e
    obtain ⟨D'', u1, u2, u3, a, b, c⟩ := x.at_ i u e
    exact ⟨D'', u1, u2, u3, by rw [Array.getElem?_push, if_neg (by rw [x.size]; omega)]; exact a, b, c⟩
  · rw [List.getElem?_append_right (by omega)] at e
    have hi : i - ts.length = 0 := by
      cases hq : i - ts.length with
      | zero => rfl
      | succ z => rw [hq] at e; simp at e
    rw [hi] at e
    have : i = ys.size := by rw [x.size]; omega
    subst this
    obtain rfl : t = u := by simpa using e
    exact ⟨D', t1, t2, t3, Array.getElem?_push_size, hn, l⟩
/-- what stands while the loops run -/
structure Cb (g : Heap) (D C : Addr) (h : Heap) (m : Str → Option Value) (ys : Array Value) (ts : List T3) : Prop where
  ns : h.Ns C m
  l : h.IsList D ys
  tr : Trips D h ys ts
  kp : Kp g h
theorem Cb.grow {g : Heap} {D C : Addr} {h h' : Heap} {m : Str → Option Value} {ys : Array Value} {ts : List T3} (x : Cb g D C h m ys ts) (k : Kp h h') : Cb g D C h' m ys ts :=
  ⟨x.ns.at' fun o e => k _ o e, x.l.at fun o e => k _ o e, x.tr.mono fun D' its _ q => q.at fun o e => k _ o e, fun b o e => k b o (x.kp b o e)⟩
theorem Cb.step {g : Heap} {D C I : Addr} {h h' : Heap} {m : Str → Option Value} {ys : Array Value} {ts : List T3} (x : Cb g D C h m ys ts) (hI : ∃ o, h.get? I = some o ∧ o.cls = .type "range_iterator") (hg : g.get? I = none) (hC : C ≠ I) (k : ∀ b o, b ≠ I → h.get? b = some o → h'.get? b = some o) : Cb g D C h' m ys ts := by
  have ln : ∀ a its, h.IsList a its → a ≠ I := by
    rintro a its ⟨o, e, c, _⟩ rfl
    obtain ⟨o', e', c'⟩ := hI
    rw [e] at e'; cases e'
    rw [c] at c'
    injection c' with c'
    exact absurd c' (by decide)
  exact ⟨x.ns.at' fun o e => k _ o hC e, x.l.at fun o e => k _ o (ln _ _ x.l) e, x.tr.mono fun D' its _ q => q.at fun o e => k _ o (ln _ _ q) e, fun b o e => k b o (by rintro rfl; rw [hg] at e; cases e) (x.kp b o e)⟩
theorem lst_ns {h : Heap} {a C : Addr} {its : Array Value} {m : Str → Option Value} (q : h.IsList a its) (n : h.Ns C m) : a ≠ C := by
  obtain ⟨o, e, c, z, d⟩ := q
  exact ne_ns n e ⟨_, _, d⟩
theorem Cb.store {g : Heap} {D C : Addr} {h h' : Heap} {m m' : Str → Option Value} {ys : Array Value} {ts : List T3} (x : Cb g D C h m ys ts) (hg : g.get? C = none) (hn : h'.Ns C m') (hs : Heap.SameBut C h h') : Cb g D C h' m' ys ts :=
  ⟨hn, x.l.extBut hs.extBut (lst_ns x.l x.ns), x.tr.mono fun D' its _ q => q.extBut hs.extBut (lst_ns q x.ns), fun b o e => hs.extBut b o (by rintro rfl; rw [hg] at e; cases e) (x.kp b o e)⟩
theorem Cb.app {g : Heap} {D C D' : Addr} {h h' : Heap} {m : Str → Option Value} {ys : Array Value} {ts : List T3} {t : T3} {t1 t2 t3 : Tok} (x : Cb g D C h m ys ts) (hg : g.get? D = none) (hn : D' ≠ D) (l : h.IsList D' #[.int t.1 t1, .int t.2.1 t2, .int t.2.2 t3]) (hl : h'.IsList D (ys.push (.ref D'))) (hs : Heap.SameBut D h h') : Cb g D C h' m (ys.push (.ref D')) (ts ++ [t]) :=
  ⟨x.ns.sameBut hs (Ne.symm (lst_ns x.l x.ns)), hl, (x.tr.push hn l).mono fun D'' its hd q => q.extBut hs.extBut hd, fun b o e => hs.extBut b o (by rintro rfl; rw [hg] at e; cases e) (x.kp b o e)⟩
section
variable {prog : Program} {w : World} {A : Around} {E : Value → Shared → Prop} {R : Result → Shared → Prop} {s : Shared} {env : Env}
/-- a comprehension's loop, begun at any depth -/
theorem start_at {d : Nat} {elt target iter : Expr} {gens : List Comprehension} {ifs : List Expr} {scope : Scope} {pos : Pos} {it acc : Value} (hg : gens[d]? = some ⟨target, iter, ifs, 0⟩)
    (h0 : codeAny (model prog w) A (.compLoop (.ListComp elt gens scope pos) d it acc env) R s)
    (h : wpAny (model prog w) A (pyIter it) (fun it' s' => codeAny (model prog w) A (.compLoop (.ListComp elt gens scope pos) d it' acc env) R s')
      (notedBy (model prog w) A env fun x s' => R (.error x) s') s) :
    codeAny (model prog w) A (.compStart (.ListComp elt gens scope pos) d it acc env) R s := by
  refine codeAny_of_tree ?_
  show wpAny _ _ ((compStart (.ListComp elt gens scope pos) d it acc env).onRaise (fun x => do noteFrame x env; standAt theWindowsPlace)) _ _ s
  refine wpAny_notedAt ?_
  unfold compStart
  have hc : (clausesOf (.ListComp elt gens scope pos))[d]? = some ⟨target, iter, ifs, 0⟩ := hg
  rw [hc]
  show wpAny _ _ (ask >>= _) _ _ s
  refine wpAny_bind (wpAny_askSetting (wpAny_ite ?_))
  split
  · first
      | exact wpAny_bind (wpAny_pure (wpAny_pure (And.intro rfl h0)))
      | exact wpAny_pure (And.intro rfl h0)
  · first
      | exact wpAny_bind (wpAny_rule (wpAny_bind (wpAny_standAt (wpAny_bind (wpAny_mono h (fun it' s' h' => wpAny_pure (And.intro rfl h')) fun _ _ x => x)))))
      | (refine wpAny_bind (wpAny_rule ?_); show wpAny _ _ (standAt iter.pos >>= _) _ _ s; exact wpAny_bind (wpAny_standAt (wpAny_bind (wpAny_mono h (fun it' s' h' => wpAny_pure (And.intro rfl h')) fun _ _ x => x))))
/-- a clause's inner run -/
def innerRun (e : Expr) (d : Nat) (iter : Expr) (acc : Value) (env : Env) : Sem Unit := do
  let x ← eval iter env
  standAt iter.pos
  let x ← foldedSetIterable iter env x
  let _ ← runOwn (.compStart e d (← holding [x] (pyIter x)) acc env) env
theorem inner_run {e : Expr} {d : Nat} {iter : Expr} {acc : Value} {Q : Unit → Shared → Prop}
    (h : wpAny (model prog w) A (eval iter env) (fun xv s₁ => wpAny (model prog w) A (pyIter xv) (fun it s₂ => codeAny (model prog w) A (.compStart e d it acc env) (fun r s' => match r with | .ok _ => Q () s' | .error x => cameBackBy (model prog w) A env E x s') s₂) E s₁) E s)
    (hs : ∀ x, foldedSetIterable iter env x = pure x := by intro _; rfl) : wpAny (model prog w) A (innerRun e d iter acc env) Q E s := by
  unfold innerRun
  refine wpAny_bind (wpAny_mono h (fun x s₁ h₁ => wpAny_bind (wpAny_standAt (wpAny_bind (wpAny_of_eq (hs x) ?_)))) fun _ _ e => e)
  refine wpAny_bind (wpAny_holding (wpAny_mono h₁ (fun it s₂ h₂ => ?_) fun _ _ e => e))
  refine wpAny_bind (wpAny_runOwn ?_)
  refine codeAny_mono h₂ fun r s' hr => ?_
  cases r with
  | ok f => exact wpAny_pure hr
  | error x => exact hr
end
end Mine
end

section
open PySem PySem.W PySem.Calls PyProof.Rows PySem.Spec
set_option maxRecDepth 100000
namespace Mine
theorem tri3_len (ok : Nat → Nat → Nat → Bool) (j k : Nat) : ∀ i, (tri3 ok j k i).length ≤ i
  | 0 => Nat.le_refl _
  | i + 1 => by
    unfold tri3
    rw [List.length_append]
    have := tri3_len ok j k i
    split <;> simp <;> omega
theorem tri2_len (ok : Nat → Nat → Nat → Bool) (j : Nat) : ∀ i, (tri2 ok j i).length ≤ 3 * i
  | 0 => Nat.le_refl _
  | i + 1 => by
    unfold tri2
    rw [List.length_append]
    have := tri2_len ok j i
    have := tri3_len ok j i 3
    omega
theorem tri1_len (ok : Nat → Nat → Nat → Bool) : ∀ i, (tri1 ok i).length ≤ 9 * i
  | 0 => Nat.le_refl _
  | i + 1 => by
    unfold tri1
    rw [List.length_append]
    have := tri1_len ok i
    have := tri2_len ok i 3
    omega
section
variable {prog : Program} {w : World} {A : Around} {E : Value → Shared → Prop} {R : Result → Shared → Prop} {s : Shared} {env : Env}
variable {elt i1 i2 i3 : Expr} {x1 x2 x3 : Str} {p1 p2 p3 pos : Pos} {ifs : List Expr} {scope : Scope} {cl : List (Str × Addr)} {g : Heap} {D C : Addr} {ok : Nat → Nat → Nat → Bool}
def IsIt (I : Addr) (St : Nat → Heap → Prop) : Prop := ∀ i h, St i h → ∃ o, h.get? I = some o ∧ o.cls = .type "range_iterator"
/-- the tests of the last clause -/
def Tests3 (prog : Program) (w : World) (A : Around) (env : Env) (scope : Scope) (cl : List (Str × Addr)) (C : Addr) (x1 x2 x3 : Str) (ifs : List Expr) (ok : Nat → Nat → Nat → Bool) (g : Heap) : Prop :=
  ∀ j k i s₃ m₃ E' t1 t2 t3, j < 3 → k < 3 → i < 3 → s₃.heap.Ns C m₃ → m₃ x1 = some (.int (0 + ((j : Nat) : Int)) t1) → m₃ x2 = some (.int (3 + ((k : Nat) : Int)) t2) → m₃ x3 = some (.int (6 + ((i : Nat) : Int)) t3) → Kp g s₃.heap →
    wpAny (model prog w) A (forIn ifs true fun c r => if r = true then do let ok ← isTrue c (compEnvC scope cl C env) (eval c (compEnvC scope cl C env)); pure (ForInStep.yield ok) else pure (ForInStep.yield r))
      (fun b s₄ => b = ok j (3 + k) (6 + i) ∧ Keeps s₃ s₄) E' s₃
def Elt3 (prog : Program) (w : World) (A : Around) (env : Env) (scope : Scope) (cl : List (Str × Addr)) (C : Addr) (x1 x2 x3 : Str) (elt : Expr) (g : Heap) : Prop :=
  ∀ j k i s₃ m₃ E' t1 t2 t3, j < 3 → k < 3 → i < 3 → s₃.heap.Ns C m₃ → m₃ x1 = some (.int (0 + ((j : Nat) : Int)) t1) → m₃ x2 = some (.int (3 + ((k : Nat) : Int)) t2) → m₃ x3 = some (.int (6 + ((i : Nat) : Int)) t3) → Kp g s₃.heap →
    wpAny (model prog w) A (eval elt (compEnvC scope cl C env)) (fun y s₄ => (∃ D' u1 u2 u3, y = .ref D' ∧ s₃.heap.get? D' = none ∧ s₄.heap.IsList D' #[.int ((j : Nat) : Int) u1, .int ((3 + k : Nat) : Int) u2, .int ((6 + i : Nat) : Int) u3]) ∧ Keeps s₃ s₄) E' s₃
/-- an inner clause's source: three numbers from a on -/
def Src3 (prog : Program) (w : World) (A : Around) (a : Int) (iter : Expr) (env : Env) (g : Heap) : Prop :=
  ∀ s' E Q, Kp g s'.heap → (∀ I h' tk St, Walks prog w A I [I] [I] 3 (fun i v => ∃ t, v = .int (a + ((i : Nat) : Int)) t) St → St 0 h' → Kp s'.heap h' → s'.heap.get? I = none → IsIt I St → Q (.ref I) { s' with heap := h', toks := tk }) →
    wpAny (model prog w) A (eval iter env) (fun xv s₁ => wpAny (model prog w) A (pyIter xv) Q E s₁) E s'
set_option maxHeartbeats 4000000 in
theorem loop3 {I : Addr} {fr : List Addr} {j k : Nat} {m : Str → Option Value} {ys : Array Value} {ts : List T3} {t1 t2 : Tok} {St : Nat → Heap → Prop} (hj : j < 3) (hk3 : k < 3) (hkind : scope.kind = .function) (hx : scope.names.lookup x3 = some .local) (h31 : x1 ≠ x3) (h32 : x2 ≠ x3)
    (W : Walks prog w A I [I] [I] 3 (fun i v => ∃ t, v = .int (6 + ((i : Nat) : Int)) t) St) (st : St 0 s.heap) (hIt : IsIt I St) (hg : g.get? I = none) (hD0 : g.get? D = none) (hC0 : g.get? C = none) (hC : C ≠ I) (hD : D ≠ I) (hfr : ∀ b ∈ fr, b ≠ I ∧ b ≠ C ∧ b ≠ D)
    (B : Cb g D C s.heap m ys ts) (m1 : m x1 = some (.int (0 + (j : Int)) t1)) (m2 : m x2 = some (.int (3 + (k : Int)) t2)) (T : Tests3 prog w A env scope cl C x1 x2 x3 ifs ok g) (L : Elt3 prog w A env scope cl C x1 x2 x3 elt g) (hz : ts.length ≤ 1000)
    (h : ∀ h' tk m' ys', Cb g D C h' m' ys' (ts ++ tri3 ok j k 3) → m' x1 = m x1 → m' x2 = m x2 → (∀ b ∈ fr, ∀ o, s.heap.get? b = some o → h'.get? b = some o) → R (.ok .next) { s with heap := h', toks := tk }) :
    codeAny (model prog w) A (.compLoop (.ListComp elt [⟨.Name x1 p1, i1, [], 0⟩, ⟨.Name x2 p2, i2, [], 0⟩, ⟨.Name x3 p3, i3, ifs, 0⟩] scope pos) 2 (.ref I) (.ref D) (compEnvC scope cl C env)) R s := by
  refine loop_walk (x := x3) (px := p3) (pp := i3.pos) (ifs := ifs) (inner := (do let _ ← call (.builtin "list.append") [.ref D, ← eval elt (compEnvC scope cl C env)])) (by rfl) rfl rfl rfl W
    (fun i s' => ∃ h' tk m' ys', s' = { s with heap := h', toks := tk } ∧ i ≤ 3 ∧ St i h' ∧ Cb g D C h' m' ys' (ts ++ tri3 ok j k i) ∧ m' x1 = m x1 ∧ m' x2 = m x2 ∧ ∀ b ∈ fr, ∀ o, s.heap.get? b = some o → h'.get? b = some o) ?_ ?_ ?_ ?_
  · rintro i s' ⟨h', tk, m', ys', rfl, _, hst', _⟩
    exact hst'
  · rintro i v s' h₂ tk₂ E' hlt ⟨t, rfl⟩ ⟨h', tk, m', ys', rfl, _, hst', B', e1, e2, kf⟩ hst₂ hk₂
    have hk₂ : ∀ b o, b ≠ I → h'.get? b = some o → h₂.get? b = some o := fun b o hb e => hk₂ b o (fun hm => hb (List.mem_singleton.mp hm)) e
    have B₂ := B'.step (hIt _ _ hst') hg hC hk₂
    refine wpAny_assign_Name (wpAny_storeName_local (lookup_relabel_local hx) B₂.ns (fun h₃ hn₃ hs₃ => ?_) (by simp [compEnvC, relabel, hkind]))
    have B₃ := B₂.store hC0 hn₃ hs₃
    have hst₃ : St (i + 1) h₃ := W.frame _ _ _ hst₂ fun b hb o e => hs₃.extBut b o (by rw [List.mem_singleton.mp hb]; exact Ne.symm hC) e
    have a1 : (if x1 = x3 then some (Value.int (6 + (i : Int)) t) else m' x1) = some (.int (0 + (j : Int)) t1) := by rw [if_neg h31, e1, m1]
    have a2 : (if x2 = x3 then some (Value.int (6 + (i : Int)) t) else m' x2) = some (.int (3 + (k : Int)) t2) := by rw [if_neg h32, e2, m2]
    have a3 : (if x3 = x3 then some (Value.int (6 + (i : Int)) t) else m' x3) = some (.int (6 + (i : Int)) t) := if_pos rfl
    refine wpAny_mono (T j k i _ _ _ _ _ _ hj hk3 hlt hn₃ a1 a2 a3 B₃.kp) (fun b s₄ h₄ => ?_) fun _ _ z => z
    obtain ⟨rfl, h₄, tk₄, rfl, kp₄⟩ := h₄
    have B₄ := B₃.grow kp₄
    have hst₄ : St (i + 1) h₄ := W.frame _ _ _ hst₃ fun b _ o e => kp₄ b o e
    have kf₄ : ∀ b ∈ fr, ∀ o, s.heap.get? b = some o → h₄.get? b = some o := fun b hb o e => kp₄ b o (hs₃.extBut b o (hfr b hb).2.1 (hk₂ b o (hfr b hb).1 (kf b hb o e)))
    cases hpi : ok j (3 + k) (6 + i) with
    | false =>
      rw [if_neg Bool.false_ne_true]
      refine ⟨h₄, tk₄, fun y => if y = x3 then some (Value.int (6 + (i : Int)) t) else m' y, ys', rfl, hlt, hst₄, ?_, (if_neg h31).trans e1, (if_neg h32).trans e2, kf₄⟩
      unfold tri3
      rw [hpi, if_neg Bool.false_ne_true, List.append_nil]
      exact B₄
    | true =>
      rw [if_pos rfl]
      refine wpAny_bind (wpAny_mono (L j k i _ _ _ _ _ _ hj hk3 hlt B₄.ns a1 a2 a3 B₄.kp) (fun y s₅ h₅ => ?_) fun _ _ z => z)
      obtain ⟨⟨D', u1, u2, u3, rfl, hD', hl'⟩, h₅, tk₅, rfl, kp₅⟩ := h₅
      have B₅ := B₄.grow kp₅
      have hn : D' ≠ D := by
        rintro rfl
        obtain ⟨o, e, _⟩ := B₄.l
        have hD' : h₄.get? D' = none := hD'
        rw [hD'] at e; cases e
      have hst₅ : St (i + 1) h₅ := W.frame _ _ _ hst₄ fun b _ o e => kp₅ b o e
      have z := tri3_len ok j k i
      refine wpAny_bind (wpAny_list_append B₅.l (fun h₆ hl₆ hs₆ => wpAny_pure ?_) (by rw [B₅.tr.size, List.length_append, sizeLine_eq]; omega))
      refine ⟨h₆, _, fun y => if y = x3 then some (Value.int (6 + (i : Int)) t) else m' y, ys'.push (.ref D'), rfl, hlt, W.frame _ _ _ hst₅ fun b hb o e => hs₆.extBut b o (by rw [List.mem_singleton.mp hb]; exact Ne.symm hD) e, ?_, (if_neg h31).trans e1, (if_neg h32).trans e2, fun b hb o e => hs₆.extBut b o (hfr b hb).2.2 (kp₅ b o (kf₄ b hb o e))⟩
      unfold tri3
      rw [hpi, if_pos rfl, ← List.append_assoc]
      exact B₅.app (t := (j, 3 + k, 6 + i)) hD0 hn hl' hl₆ hs₆
  · rintro s' h₂ tk₂ ⟨h', tk, m', ys', rfl, _, hst', B', e1, e2, kf⟩ hk₂
    have hk₂ : ∀ b o, b ≠ I → h'.get? b = some o → h₂.get? b = some o := fun b o hb e => hk₂ b o (fun hm => hb (List.mem_singleton.mp hm)) e
    exact h h₂ tk₂ m' ys' (B'.step (hIt _ _ hst') hg hC hk₂) e1 e2 fun b hb o e => hk₂ b o (hfr b hb).1 (kf b hb o e)
  · exact ⟨s.heap, s.toks, m, ys, rfl, Nat.zero_le _, st, by unfold tri3; rw [List.append_nil]; exact B, rfl, rfl, fun b _ o e => e⟩
end
end Mine
end

section
open PySem PySem.W PySem.Calls PyProof.Rows PySem.Spec
set_option maxRecDepth 100000
namespace Mine
section
variable {prog : Program} {w : World} {A : Around} {E : Value → Shared → Prop} {R : Result → Shared → Prop} {s : Shared} {env : Env}
variable {elt i1 i2 i3 : Expr} {x1 x2 x3 : Str} {p1 p2 p3 pos : Pos} {ifs : List Expr} {scope : Scope} {cl : List (Str × Addr)} {g : Heap} {D C : Addr} {ok : Nat → Nat → Nat → Bool}
/-- a comprehension's loop with another clause inside -/
theorem loop_walkN {e i' : Expr} {d : Nat} {acc : Value} {x : Str} {px : Pos} {pp : Pos} {I : Addr} {fp wr : List Addr} {n : Nat} {P : Nat → Value → Prop} {St : Nat → Heap → Prop}
    (hT : compTurn e d (.ref I) acc env = (do
      standAt pp
      match ← pyNext (.ref I) with
      | none => pure (.done .next)
      | some v =>
        letOwnedTupleGo (.Name x px) (.ref I) v
        assign (.Name x px) env v
        let mut ok := true
        for c in ([] : List Expr) do
          if ok then ok ← isTrue c env (eval c env)
        if ok then
          let x ← eval i' env
          standAt i'.pos
          let x ← foldedSetIterable i' env x
          let _ ← runOwn (.compStart e (d + 1) (← holding [x] (pyIter x)) acc env) env
        again (.compLoop e d (.ref I) acc env)))
    (hq : (Code.compLoop e d (.ref I) acc env).quiet = true) (hfr : (Code.compLoop e d (.ref I) acc env).isFrame = false) (hun : A.under (Code.compLoop e d (.ref I) acc env) = A) (hs : ∀ x, foldedSetIterable i' env x = pure x)
    (W : Walks prog w A I fp wr n P St) (J : Nat → Shared → Prop) (hSt : ∀ i s, J i s → St i s.heap)
    (turn : ∀ i v s h' tk E', i < n → P i v → J i s → St (i + 1) h' → (∀ b o, b ∉ wr → s.heap.get? b = some o → h'.get? b = some o) →
      wpAny (model prog w) A (assign (.Name x px) env v) (fun _ s₂ =>
        wpAny (model prog w) A (eval i' env) (fun xv s₁ => wpAny (model prog w) A (pyIter xv) (fun it s₂ => codeAny (model prog w) A (.compStart e (d + 1) it acc env) (fun r s' => match r with | .ok _ => J (i + 1) s' | .error x => cameBackBy (model prog w) A env E' x s') s₂) E' s₁) E' s₂) E' { s with heap := h', toks := tk })
    (done : ∀ s h' tk, J n s → (∀ b o, b ∉ wr → s.heap.get? b = some o → h'.get? b = some o) → R (.ok .next) { s with heap := h', toks := tk })
    (h : J 0 s) : codeAny (model prog w) A (.compLoop e d (.ref I) acc env) R s := by
  refine codeAny_loop hq (fun k s' => ∃ i, i ≤ n ∧ k = n + 1 - i ∧ J i s') (fun k s' hI => ?_) (n + 1) ⟨0, Nat.zero_le _, rfl, h⟩
  obtain ⟨i, hi, rfl, hJ⟩ := hI
  rw [hun]
  have hden : denote table (Code.compLoop e d (.ref I) acc env) = (compTurn e d (.ref I) acc env).onRaise (fun x => do noteFrame x env; theTreesLotGoes x) := by
    show (if (Code.compLoop e d (.ref I) acc env).isFrame = true then _ else _) = _
    rw [hfr]; rfl
  show wpAny _ A (denote table (Code.compLoop e d (.ref I) acc env)) _ _ s'
  rw [hden]
  refine wpAny_noted ?_
  rw [hT]
  refine wpAny_bind (wpAny_standAt (wpAny_bind ?_))
  by_cases hlt : i < n
  · refine W.item i _ _ _ hlt (hSt i s' hJ) fun v h' tk hP hst hk => ?_
    refine wpAny_bind (wpAny_of_eq (show letOwnedTupleGo (.Name x px) (.ref I) v = pure () from rfl) ?_)
    refine wpAny_bind (wpAny_mono (turn i v s' h' tk _ hlt hP hJ hst hk) (fun _ s₂ h₂ => wpAny_bind (wpAny_tests_nil ?_)) fun _ _ z => z)
    have hm : n + 1 - (i + 1) < n + 1 - i := by omega
    refine wpAny_bind (wpAny_mono h₂ (fun x s₁ h₁ => wpAny_bind (wpAny_standAt (wpAny_bind (wpAny_of_eq (hs x) ?_)))) fun _ _ e => e)
    refine wpAny_bind (wpAny_holding (wpAny_mono h₁ (fun it s₂ h₂ => ?_) fun _ _ e => e))
    refine wpAny_bind (wpAny_runOwn ?_)
    refine codeAny_mono h₂ fun r s' hr => ?_
    cases r with
    | ok f => exact wpAny_pure ⟨rfl, _, hm, i + 1, hlt, rfl, hr⟩
    | error x => exact hr
  · obtain rfl : i = n := Nat.le_antisymm hi (Nat.not_lt.mp hlt)
    exact W.done _ _ _ (hSt i s' hJ) fun h' tk hk => wpAny_pure (done s' h' tk hJ hk)
theorem up_none {g h : Heap} {I : Addr} (k : Kp g h) (e : h.get? I = none) : g.get? I = none := by
  cases q : g.get? I with
  | none => rfl
  | some o => rw [k _ _ q] at e; cases e
theorem some_ne {h : Heap} {I b : Addr} (e : h.get? I = none) (x : ∃ o, h.get? b = some o) : b ≠ I := by
  rintro rfl
  obtain ⟨o, q⟩ := x
  rw [e] at q; cases q
theorem Cb.some {h : Heap} {m : Str → Option Value} {ys : Array Value} {ts : List T3} (B : Cb g D C h m ys ts) : (∃ o, h.get? C = some o) ∧ ∃ o, h.get? D = some o := by
  obtain ⟨o, _, _, e, _⟩ := B.ns
  obtain ⟨o', e', _⟩ := B.l
  exact ⟨⟨o, e⟩, o', e'⟩
set_option maxHeartbeats 4000000 in
theorem loop2 {I : Addr} {fr : List Addr} {j : Nat} {m : Str → Option Value} {ys : Array Value} {ts : List T3} {t1 : Tok} {St : Nat → Heap → Prop} (hj : j < 3) (hkind : scope.kind = .function) (hx3 : scope.names.lookup x3 = some .local) (hx2 : scope.names.lookup x2 = some .local) (h21 : x1 ≠ x2) (h31 : x1 ≠ x3) (h32 : x2 ≠ x3)
    (W : Walks prog w A I [I] [I] 3 (fun i v => ∃ t, v = .int (3 + ((i : Nat) : Int)) t) St) (st : St 0 s.heap) (hIt : IsIt I St) (hg : g.get? I = none) (hD0 : g.get? D = none) (hC0 : g.get? C = none) (hC : C ≠ I) (hD : D ≠ I) (hfr : ∀ b ∈ fr, b ≠ I ∧ b ≠ C ∧ b ≠ D) (hfe : ∀ b ∈ fr, ∃ o, s.heap.get? b = some o)
    (hs3 : ∀ x, foldedSetIterable i3 (compEnvC scope cl C env) x = pure x) (B : Cb g D C s.heap m ys ts) (m1 : m x1 = some (.int (0 + (j : Int)) t1)) (S3 : Src3 prog w A 6 i3 (compEnvC scope cl C env) g) (T : Tests3 prog w A env scope cl C x1 x2 x3 ifs ok g) (L : Elt3 prog w A env scope cl C x1 x2 x3 elt g) (hz : ts.length ≤ 900)
    (h : ∀ h' tk m' ys', Cb g D C h' m' ys' (ts ++ tri2 ok j 3) → m' x1 = m x1 → (∀ b ∈ fr, ∀ o, s.heap.get? b = some o → h'.get? b = some o) → R (.ok .next) { s with heap := h', toks := tk }) :
    codeAny (model prog w) A (.compLoop (.ListComp elt [⟨.Name x1 p1, i1, [], 0⟩, ⟨.Name x2 p2, i2, [], 0⟩, ⟨.Name x3 p3, i3, ifs, 0⟩] scope pos) 1 (.ref I) (.ref D) (compEnvC scope cl C env)) R s := by
  refine loop_walkN (x := x2) (px := p2) (pp := i2.pos) (i' := i3) (d := 1) (by rfl) rfl rfl rfl hs3 W
    (fun i s' => ∃ h' tk m' ys', s' = { s with heap := h', toks := tk } ∧ i ≤ 3 ∧ St i h' ∧ Cb g D C h' m' ys' (ts ++ tri2 ok j i) ∧ m' x1 = m x1 ∧ ∀ b ∈ fr, ∀ o, s.heap.get? b = some o → h'.get? b = some o) ?_ ?_ ?_ ?_
  · rintro i s' ⟨h', tk, m', ys', rfl, _, hst', _⟩
    exact hst'
  · rintro i v s' h₂ tk₂ E' hlt ⟨t, rfl⟩ ⟨h', tk, m', ys', rfl, _, hst', B', e1, kf⟩ hst₂ hk₂
    have hk₂ : ∀ b o, b ≠ I → h'.get? b = some o → h₂.get? b = some o := fun b o hb e => hk₂ b o (fun hm => hb (List.mem_singleton.mp hm)) e
    have B₂ := B'.step (hIt _ _ hst') hg hC hk₂
    refine wpAny_assign_Name (wpAny_storeName_local (lookup_relabel_local hx2) B₂.ns (fun h₃ hn₃ hs₃ => ?_) (by simp [compEnvC, relabel, hkind]))
    have B₃ := B₂.store hC0 hn₃ hs₃
    have hst₃ : St (i + 1) h₃ := W.frame _ _ _ hst₂ fun b hb o e => hs₃.extBut b o (by rw [List.mem_singleton.mp hb]; exact Ne.symm hC) e
    have a1 : (if x1 = x2 then some (Value.int (3 + (i : Int)) t) else m' x1) = some (.int (0 + (j : Int)) t1) := by rw [if_neg h21, e1, m1]
    have a2 : (if x2 = x2 then some (Value.int (3 + (i : Int)) t) else m' x2) = some (.int (3 + (i : Int)) t) := if_pos rfl
    have kf₃ : ∀ b ∈ fr, ∀ o, s.heap.get? b = some o → h₃.get? b = some o := fun b hb o e => hs₃.extBut b o (hfr b hb).2.1 (hk₂ b o (hfr b hb).1 (kf b hb o e))
    refine S3 _ _ _ B₃.kp fun I' h₄ tk₄ St' W' st' k₄ hI' hIt' => ?_
    have hI' : h₃.get? I' = none := hI'
    have B₄ := B₃.grow k₄
    have hst₄ : St (i + 1) h₄ := W.frame _ _ _ hst₃ fun b _ o e => k₄ b o e
    have z := tri2_len ok j i
    have lp := fun R hR => loop3 (prog := prog) (w := w) (A := A) (R := R) (s := { s with heap := h₄, toks := tk₄ }) (env := env) (elt := elt) (i1 := i1) (i2 := i2) (i3 := i3) (p1 := p1) (p2 := p2) (p3 := p3) (pos := pos) (cl := cl) (fr := I :: fr) hj hlt hkind hx3 h31 h32 W' st' hIt' (up_none B₃.kp hI') hD0 hC0 (some_ne hI' B₃.some.1) (some_ne hI' B₃.some.2)
      (fun b hb => by
        rcases List.mem_cons.mp hb with rfl | hb
        · obtain ⟨o, e, _⟩ := hIt _ _ hst₃
          exact ⟨some_ne hI' ⟨o, e⟩, Ne.symm hC, Ne.symm hD⟩
        · obtain ⟨o, e⟩ := hfe b hb
          exact ⟨some_ne hI' ⟨o, kf₃ b hb o e⟩, (hfr b hb).2.1, (hfr b hb).2.2⟩)
      B₄ a1 a2 T L (by rw [List.length_append]; omega) hR
    refine start_at rfl (lp _ ?_) (W'.self 0 _ _ _ st' (lp _ ?_))
    all_goals
      intro h₅ tk₅ m₅ ys₅ B₅ q1 q2 kf₅
      refine ⟨h₅, tk₅, m₅, ys₅, rfl, hlt, W.frame _ _ _ hst₄ fun b hb o e => by rw [List.mem_singleton.mp hb] at e ⊢; exact kf₅ I (.head _) o e, ?_, q1.trans ((if_neg h21).trans e1), fun b hb o e => kf₅ b (.tail _ hb) o (k₄ b o (kf₃ b hb o e))⟩
      unfold tri2
      rw [← List.append_assoc]
      exact B₅
  · rintro s' h₂ tk₂ ⟨h', tk, m', ys', rfl, _, hst', B', e1, kf⟩ hk₂
    have hk₂ : ∀ b o, b ≠ I → h'.get? b = some o → h₂.get? b = some o := fun b o hb e => hk₂ b o (fun hm => hb (List.mem_singleton.mp hm)) e
    exact h h₂ tk₂ m' ys' (B'.step (hIt _ _ hst') hg hC hk₂) e1 fun b hb o e => hk₂ b o (hfr b hb).1 (kf b hb o e)
  · exact ⟨s.heap, s.toks, m, ys, rfl, Nat.zero_le _, st, by unfold tri2; rw [List.append_nil]; exact B, rfl, fun b _ o e => e⟩
end
end Mine
end

section
open PySem PySem.W PySem.Calls PyProof.Rows PySem.Spec
set_option maxRecDepth 100000
namespace Mine
section
variable {prog : Program} {w : World} {A : Around} {E : Value → Shared → Prop} {R : Result → Shared → Prop} {s : Shared} {env : Env}
variable {elt i1 i2 i3 : Expr} {x1 x2 x3 : Str} {p1 p2 p3 pos : Pos} {ifs : List Expr} {scope : Scope} {cl : List (Str × Addr)} {g : Heap} {D C : Addr} {ok : Nat → Nat → Nat → Bool}
set_option maxHeartbeats 4000000 in
theorem loop1 {I : Addr} {m : Str → Option Value} {ys : Array Value} {St : Nat → Heap → Prop} (hkind : scope.kind = .function) (hx3 : scope.names.lookup x3 = some .local) (hx2 : scope.names.lookup x2 = some .local) (hx1 : scope.names.lookup x1 = some .local) (h21 : x1 ≠ x2) (h31 : x1 ≠ x3) (h32 : x2 ≠ x3)
    (W : Walks prog w A I [I] [I] 3 (fun i v => ∃ t, v = .int (0 + ((i : Nat) : Int)) t) St) (st : St 0 s.heap) (hIt : IsIt I St) (hg : g.get? I = none) (hD0 : g.get? D = none) (hC0 : g.get? C = none) (hC : C ≠ I) (hD : D ≠ I)
    (hs2 : ∀ x, foldedSetIterable i2 (compEnvC scope cl C env) x = pure x) (hs3 : ∀ x, foldedSetIterable i3 (compEnvC scope cl C env) x = pure x) (B : Cb g D C s.heap m ys []) (S2 : Src3 prog w A 3 i2 (compEnvC scope cl C env) g) (S3 : Src3 prog w A 6 i3 (compEnvC scope cl C env) g) (T : Tests3 prog w A env scope cl C x1 x2 x3 ifs ok g) (L : Elt3 prog w A env scope cl C x1 x2 x3 elt g)
    (h : ∀ h' tk m' ys', Cb g D C h' m' ys' (tri1 ok 3) → R (.ok .next) { s with heap := h', toks := tk }) :
    codeAny (model prog w) A (.compLoop (.ListComp elt [⟨.Name x1 p1, i1, [], 0⟩, ⟨.Name x2 p2, i2, [], 0⟩, ⟨.Name x3 p3, i3, ifs, 0⟩] scope pos) 0 (.ref I) (.ref D) (compEnvC scope cl C env)) R s := by
  refine loop_walkN (x := x1) (px := p1) (pp := i1.pos) (i' := i2) (d := 0) (by rfl) rfl rfl rfl hs2 W
    (fun i s' => ∃ h' tk m' ys', s' = { s with heap := h', toks := tk } ∧ i ≤ 3 ∧ St i h' ∧ Cb g D C h' m' ys' (tri1 ok i)) ?_ ?_ ?_ ?_
  · rintro i s' ⟨h', tk, m', ys', rfl, _, hst', _⟩
    exact hst'
  · rintro i v s' h₂ tk₂ E' hlt ⟨t, rfl⟩ ⟨h', tk, m', ys', rfl, _, hst', B'⟩ hst₂ hk₂
    have hk₂ : ∀ b o, b ≠ I → h'.get? b = some o → h₂.get? b = some o := fun b o hb e => hk₂ b o (fun hm => hb (List.mem_singleton.mp hm)) e
    have B₂ := B'.step (hIt _ _ hst') hg hC hk₂
    refine wpAny_assign_Name (wpAny_storeName_local (lookup_relabel_local hx1) B₂.ns (fun h₃ hn₃ hs₃ => ?_) (by simp [compEnvC, relabel, hkind]))
    have B₃ := B₂.store hC0 hn₃ hs₃
    have hst₃ : St (i + 1) h₃ := W.frame _ _ _ hst₂ fun b hb o e => hs₃.extBut b o (by rw [List.mem_singleton.mp hb]; exact Ne.symm hC) e
    have a1 : (if x1 = x1 then some (Value.int (0 + (i : Int)) t) else m' x1) = some (.int (0 + (i : Int)) t) := if_pos rfl
    refine S2 _ _ _ B₃.kp fun I' h₄ tk₄ St' W' st' k₄ hI' hIt' => ?_
    have hI' : h₃.get? I' = none := hI'
    have B₄ := B₃.grow k₄
    have hst₄ : St (i + 1) h₄ := W.frame _ _ _ hst₃ fun b _ o e => k₄ b o e
    have z := tri1_len ok i
    have ei : ∃ o, h₄.get? I = some o := by
      obtain ⟨o, e, _⟩ := hIt _ _ hst₄
      exact ⟨o, e⟩
    have lp := fun R hR => loop2 (prog := prog) (w := w) (A := A) (R := R) (s := { s with heap := h₄, toks := tk₄ }) (env := env) (elt := elt) (i1 := i1) (i2 := i2) (i3 := i3) (p1 := p1) (p2 := p2) (p3 := p3) (pos := pos) (cl := cl) (fr := [I]) hlt hkind hx3 hx2 h21 h31 h32 W' st' hIt' (up_none B₃.kp hI') hD0 hC0 (some_ne hI' B₃.some.1) (some_ne hI' B₃.some.2)
      (fun b hb => by
        rw [List.mem_singleton.mp hb]
        obtain ⟨o, e, _⟩ := hIt _ _ hst₃
        exact ⟨some_ne hI' ⟨o, e⟩, Ne.symm hC, Ne.symm hD⟩)
      (fun b hb => by rw [List.mem_singleton.mp hb]; exact ei) hs3 B₄ a1 S3 T L (by omega) hR
    refine start_at rfl (lp _ ?_) (W'.self 0 _ _ _ st' (lp _ ?_))
    all_goals
      intro h₅ tk₅ m₅ ys₅ B₅ q1 kf₅
      exact ⟨h₅, tk₅, m₅, ys₅, rfl, hlt, W.frame _ _ _ hst₄ fun b hb o e => by rw [List.mem_singleton.mp hb] at e ⊢; exact kf₅ I (.head _) o e, B₅⟩
  · rintro s' h₂ tk₂ ⟨h', tk, m', ys', rfl, _, hst', B'⟩ hk₂
    have hk₂ : ∀ b o, b ≠ I → h'.get? b = some o → h₂.get? b = some o := fun b o hb e => hk₂ b o (fun hm => hb (List.mem_singleton.mp hm)) e
    exact h h₂ tk₂ m' ys' (B'.step (hIt _ _ hst') hg hC hk₂)
  · exact ⟨s.heap, s.toks, m, ys, rfl, Nat.zero_le _, st, B⟩
set_option maxHeartbeats 4000000 in
/-- a comprehension of three clauses over ranges -/
theorem comp3 {Q : Value → Shared → Prop} (ok : Nat → Nat → Nat → Bool) (hclos : closureFor scope env = pure cl) (hcell : ∀ y ∈ scope.names, y.2 ≠ .cell) (hkind : scope.kind = .function) (hnames : ∀ y ∈ scope.names, y.2 = .local → scope.names.lookup y.1 = some .local)
    (hx3 : scope.names.lookup x3 = some .local) (hx2 : scope.names.lookup x2 = some .local) (hx1 : scope.names.lookup x1 = some .local) (h21 : x1 ≠ x2) (h31 : x1 ≠ x3) (h32 : x2 ≠ x3)
    (hs1 : ∀ x, foldedSetIterable i1 env x = pure x) (hs2 : ∀ C x, foldedSetIterable i2 (compEnvC scope cl C env) x = pure x) (hs3 : ∀ C x, foldedSetIterable i3 (compEnvC scope cl C env) x = pure x)
    (S1 : Src3 prog w A 0 i1 env s.heap) (S2 : ∀ C, Src3 prog w A 3 i2 (compEnvC scope cl C env) s.heap) (S3 : ∀ C, Src3 prog w A 6 i3 (compEnvC scope cl C env) s.heap) (T : ∀ C, Tests3 prog w A env scope cl C x1 x2 x3 ifs ok s.heap) (L : ∀ C, Elt3 prog w A env scope cl C x1 x2 x3 elt s.heap)
    (hQ : ∀ D h' tk ys, s.heap.get? D = none → h'.IsList D ys → Trips D h' ys (tri1 ok 3) → Kp s.heap h' → Q (.ref D) { s with heap := h', toks := tk }) :
    wpAny (model prog w) A (eval (.ListComp elt [⟨.Name x1 p1, i1, [], 0⟩, ⟨.Name x2 p2, i2, [], 0⟩, ⟨.Name x3 p3, i3, ifs, 0⟩] scope pos) env) Q E s := by
  rw [eval_ListComp]
  refine wpAny_comprehension_free (use := none) rfl hs1 hclos hkind hnames (S1 s E _ Kp.rfl fun I h₁ tk₁ St W st k₁ hI hIt => ?_)
  refine wpAny_newObj_type (wpAny_newFunctionEnv hcell (by intro y hy; simp at hy) (fun h₂ hns₁ hsb₁ => ?_) hkind)
  dsimp only at hns₁ hsb₁ ⊢
  generalize hH2 : h₁.push { cls := .type "list", dict := none, data := .seq ([] : List Value).toArray } = H2 at hns₁ hsb₁ ⊢
  have hC : H2.objs.size = h₁.objs.size + 1 := by rw [← hH2, Heap.size_push]
  have hDC : h₁.objs.size ≠ H2.objs.size := by rw [hC]; exact Nat.ne_of_lt (Nat.lt_succ_self _)
  have below : ∀ b, b < h₁.objs.size → b ≠ H2.objs.size ∧ b ≠ h₁.objs.size := fun b hb => ⟨by rw [hC]; exact Nat.ne_of_lt (Nat.lt_succ_of_lt hb), Nat.ne_of_lt hb⟩
  have old : Kp h₁ h₂ := fun b o e => hsb₁.extBut b o (below b (Heap.lt_size e)).1 (Heap.get?_push_of_some _ (hH2 ▸ Heap.get?_push_of_some _ e))
  have hacc : h₂.IsList h₁.objs.size #[] := ⟨_, hsb₁.extBut _ _ hDC (Heap.get?_push_of_some _ (hH2 ▸ Heap.get?_push_size _ rfl)), rfl, 0, rfl⟩
  have hst₂ : St 0 h₂ := W.frame _ _ _ st fun b _ o e => old b o e
  have hD0 : s.heap.get? h₁.objs.size = none := up_none k₁ (none_size _)
  have hC0 : s.heap.get? H2.objs.size = none := up_none k₁ (none_ge (by rw [hC]; exact Nat.le_succ _))
  have hIe : I < h₁.objs.size := by
    obtain ⟨o, e, _⟩ := hIt _ _ st
    exact Heap.lt_size e
  have B : Cb s.heap h₁.objs.size H2.objs.size h₂ _ #[] [] := ⟨hns₁, hacc, ⟨rfl, fun i t e => by simp at e⟩, fun b o e => old b o (k₁ b o e)⟩
  have lp := fun (s₃ : Shared) (e : s₃.heap = h₂) R hR => loop1 (prog := prog) (w := w) (A := A) (R := R) (s := s₃) (env := env) (elt := elt) (i1 := i1) (i2 := i2) (i3 := i3) (p1 := p1) (p2 := p2) (p3 := p3) (pos := pos) (cl := cl) hkind hx3 hx2 hx1 h21 h31 h32 W (e ▸ hst₂) hIt hI hD0 hC0 (Ne.symm (below I hIe).1) (Ne.symm (below I hIe).2)
    (hs2 _) (hs3 _) (e ▸ B) (S2 _) (S3 _) (T _) (L _) hR
  refine codeAny_compStart_list (lp _ rfl _ ?_) (W.self 0 _ _ _ hst₂ (lp _ rfl _ ?_))
  all_goals
    intro h₃ tk₃ m₃ ys₃ B₃
    refine ⟨m₃, B₃.ns, fun h₄ hs₄ => hQ _ h₄ tk₃ ys₃ hD0 (B₃.l.extBut hs₄.extBut hDC) (B₃.tr.mono fun D' its _ q => q.extBut hs₄.extBut (lst_ns q B₃.ns)) fun b o e => hs₄.extBut b o (some_ne hC0 ⟨o, e⟩) (B₃.kp b o e)⟩
end
end Mine
end

section
open PySem PySem.W PySem.Calls PyProof.Rows PySem.Spec
set_option maxRecDepth 100000
namespace Mine
section
variable {prog : Program} {w : World} {A : Around} {E : Value → Shared → Prop} {s : Shared}
theorem range2W {n : Nat} {a N : Int} {t u : Tok} {Q : Value → Shared → Prop} (hh : A.handled = none) (hsm : Builtin.Range.small a N 1 = true) (hn : Builtin.Range.rangeSize a N 1 = (n : Int))
    (h : ∀ I h' tk St, Walks prog w A I [I] [I] n (fun i v => ∃ t, v = .int (a + ((i : Nat) : Int)) t) St → St 0 h' → Kp s.heap h' → s.heap.get? I = none → IsIt I St → Q (.ref I) { s with heap := h', toks := tk }) :
    wpAny (model prog w) A (call (.type "range") [.int a t, .int N u]) (fun xv s₁ => wpAny (model prog w) A (pyIter xv) Q E s₁) E s := by
  refine call_range_2 ?_
  refine wpAny_pyIter_range (r := s.heap.objs.size) (a := a) (b := N) (c := 1) (t := t) (u := u) (v := s.toks) ?hr hsm (h _ _ _ _ (LCg.range_walks hh a n) ?_ (fun b o e => Heap.get?_push_of_some _ (Heap.get?_push_of_some _ e)) (none_ge ?_) fun i h st => ⟨_, st, rfl⟩)
  case hr => exact Heap.get?_push_size _ rfl
  · show IsRangeIter _ _ _ _ _
    rw [hn, show (n : Int) - ((0 : Nat) : Int) = n by omega, show a + ((0 : Nat) : Int) * 1 = a by omega]
    exact Heap.get?_push_size _ rfl
  · show s.heap.objs.size ≤ (s.heap.push _).objs.size
    rw [Heap.size_push]; exact Nat.le_succ _
end
def okF (f : Nat → Nat) (j k m : Nat) : Bool := dst f j k + dst f j m + dst f k m == 6
section
variable {w : World} {A : Around} {E : Value → Shared → Prop} {s s₀ : Shared} {L : Addr} {cd : Value} {m cm : Str → Option Value} {Q : Flow → Shared → Prop}
theorem nat0 (j : Nat) : (0 : Int) + (j : Int) = ((j : Nat) : Int) := Int.zero_add _
theorem nat3 (j : Nat) : (3 : Int) + (j : Int) = ((3 + j : Nat) : Int) := by omega
theorem nat6 (j : Nat) : (6 : Int) + (j : Int) = ((6 + j : Nat) : Int) := by omega
set_option maxHeartbeats 4000000 in
theorem st8 {G : Addr} {vs : Array Value} {f : Nat → Nat} (W₀ : Wd w s₀.heap) (hh : A.handled = none)
    (X : InCallC s₀ (lawEnv L cd).locals m (lawEnv L cd).cells cm s) (hc : cm "far" = some (.ref G)) (hG : s.heap.IsList G vs) (hF : FarF s.heap vs f)
    (h : ∀ s' D ys, InCallC s₀ (lawEnv L cd).locals m (lawEnv L cd).cells (fun y => if y = Str.ofString "around" then some (.ref D) else cm y) s' → Ks s.heap s'.heap → s'.heap.IsList D ys → Trips D s'.heap ys (tri1 (okF f) 3) →
      wpAny (model PW w) A (execs (lawDef.1.drop 9) (lawEnv L cd)) Q E s') :
    wpAny (model PW w) A (execs (lawDef.1.drop 8) (lawEnv L cd)) Q E s := by
  have W : Wd w s.heap := W₀.kp X.toInCall.keep
  have hcw : s.heap.IsCell _ (some (.ref G)) := hc ▸ X.cell (Str.ofString "far") _ rfl
  refine wpAny_execs_cons (wpAny_Assign_Name (comp3 (okF f) rfl (by decide) rfl (by decide) rfl rfl rfl (by decide) (by decide) (by decide) (by intro _; rfl) (by intro _ _; rfl) (by intro _ _; rfl) ?_ (fun C => ?_) (fun C => ?_) (fun C => ?_) (fun C => ?_) ?_))
  · intro s' E Q k h
    have W' : Wd w s'.heap := W.kp k
    exact Call_ (nmBe W' (by k_dflt k_is) PyProof.Rows.boot_range (Pv.callWith_type1 (args_cons (wpAny_Constant_int (args_nil (range1W (n := 3) hh (by decide) (by decide) fun I h₁ tk₁ St Wk st k₁ hI hIt => h I h₁ tk₁ St Wk st k₁ hI hIt))))))
  · intro s' E Q k h
    have W' : Wd w s'.heap := W.kp k
    exact Call_ (nmBe W' (by k_dflt k_is) PyProof.Rows.boot_range (Pv.callWith_type1 (args_cons (wpAny_Constant_int (args_cons (wpAny_Constant_int (args_nil (range2W (n := 3) hh (by decide) (by decide) fun I h₁ tk₁ St Wk st k₁ hI hIt => h I h₁ tk₁ St Wk st k₁ hI hIt))))))))
  · intro s' E Q k h
    have W' : Wd w s'.heap := W.kp k
    exact Call_ (nmBe W' (by k_dflt k_is) PyProof.Rows.boot_range (Pv.callWith_type1 (args_cons (wpAny_Constant_int (args_cons (wpAny_Constant_int (args_nil (range2W (n := 3) hh (by decide) (by decide) fun I h₁ tk₁ St Wk st k₁ hI hIt => h I h₁ tk₁ St Wk st k₁ hI hIt))))))))
  · intro j k i s₃ m₃ E' t1 t2 t3 hj hk hi hn a1 a2 a3 k₃
    have hcw₃ := hcw.keeps k₃
    have hG₃ : s₃.heap.IsList G vs := hG.at fun o e => k₃ _ o e
    have row : ∀ j, j < 6 → ∃ R row, vs[j]? = some (.ref R) ∧ s₃.heap.IsList R row ∧ ∀ k, k < 9 → ∃ t, row[k]? = some (.int (dst f j k) t) := fun j hj => by
      obtain ⟨R, q1, row, q2, _, q3⟩ := hF.2 j hj
      exact ⟨R, row, q1, q2.at fun o e => k₃ _ o e, q3⟩
    obtain ⟨R1, r1, e1, l1, v1⟩ := row j (by omega)
    obtain ⟨R2, r2, e2, l2, v2⟩ := row (3 + k) (by omega)
    obtain ⟨u1, w1⟩ := v1 (3 + k) (by omega)
    obtain ⟨u2, w2⟩ := v1 (6 + i) (by omega)
    obtain ⟨u3, w3⟩ := v2 (6 + i) (by omega)
    rw [nat0] at a1
    rw [nat3] at a2
    rw [nat6] at a3
    have nn : ∀ z : Nat, (0 : Int) ≤ (z : Int) := fun z => Int.natCast_nonneg z
    refine wpAny_tests_one (wpAny_isTrue_Compare1 (wpAny_BinOp (wpAny_BinOp (Subscript_ (Subscript_ (nmF (by rfl) hcw₃ (nmX (m := m₃) hn a1 (tail_any hG₃.typeIs slot_list_getitem.lookup (wpAny_getItem_list hG₃ (nn _) (by omega) e1 ?_) rfl))))))))
    refine nmX (m := m₃) hn a2 (tail_any l1.typeIs slot_list_getitem.lookup (wpAny_getItem_list l1 (nn _) (by omega) w1 ?_) rfl)
    refine Subscript_ (Subscript_ (nmF (by rfl) hcw₃ (nmX (m := m₃) hn a1 (tail_any hG₃.typeIs slot_list_getitem.lookup (wpAny_getItem_list hG₃ (nn _) (by omega) e1 ?_) rfl))))
    refine nmX (m := m₃) hn a3 (tail_any l1.typeIs slot_list_getitem.lookup (wpAny_getItem_list l1 (nn _) (by omega) w2 ?_) rfl)
    refine PyProof.Rows.add_int (Subscript_ (Subscript_ (nmF (by rfl) hcw₃ (nmX (m := m₃) hn a2 (tail_any hG₃.typeIs slot_list_getitem.lookup (wpAny_getItem_list hG₃ (nn _) (by omega) e2 ?_) rfl)))))
    refine nmX (m := m₃) hn a3 (tail_any l2.typeIs slot_list_getitem.lookup (wpAny_getItem_list l2 (nn _) (by omega) w3 ?_) rfl)
    exact PyProof.Rows.add_int (wpAny_Constant_int (PyProof.Rows.eq_int (wpAny_truthy_bool ⟨rfl, Keeps.tok _ _⟩)))
  · intro j k i s₃ m₃ E' t1 t2 t3 hj hk hi hn a1 a2 a3 k₃
    rw [nat0] at a1
    rw [nat3] at a2
    rw [nat6] at a3
    exact List_ (args_cons (nmX (m := m₃) hn a1 (args_cons (nmX (m := m₃) hn a2 (args_cons (nmX (m := m₃) hn a3 (args_nil (newListX (fun h₁ k₁ L₁ => ⟨⟨_, t1, t2, t3, rfl, none_size _, L₁.is⟩, _, _, rfl, k₁⟩) (by show 3 ≤ sizeLine; rw [sizeLine_eq]; decide)))))))))
  · intro D h' tk ys hD hl ht k
    exact stC (InCallC.kp (tk := tk) X k) rfl fun h₂ tk₂ X₂ ks keep => h _ D ys X₂ ((Ks.of k).trans ks) (ks.lst hl) (ht.mono fun D' its _ q => ks.lst q)
end
end Mine
end

section
open PySem PySem.W PySem.Calls PyProof.Rows PySem.Spec
set_option maxRecDepth 100000
namespace Mine
section
variable {prog : Program} {w : World} {A : Around} {E : Value → Shared → Prop} {s : Shared}
theorem list_add {l b : Addr} {its its2 : Array Value} {Q : Value → Shared → Prop} (hl : s.heap.IsList l its) (hb : s.heap.IsList b its2) (hsz : its.size + its2.size ≤ 1000)
    (h : ∀ h', Kp s.heap h' → h'.IsList s.heap.objs.size (its ++ its2) → Q (.ref s.heap.objs.size) { s with heap := h' }) : wpAny (model prog w) A (binaryOp .Add (.ref l) (.ref b)) Q E s := by
  obtain ⟨⟨c, d, dt, sl⟩, e, rfl, n, rfl⟩ := hl
  obtain ⟨⟨c2, d2, dt2, sl2⟩, e2, rfl, n2, rfl⟩ := hb
  refine concat_meets ⟨_, e, rfl⟩ ⟨_, e2, rfl⟩ noFill_list_add seq_list_add PySem.F.slot_list_add PySem.F.entry_list_add (PySem.F.args_list_add_2 _ _) (PyProof.Rows.list_addW l b its its2 n n2 d d2 sl sl2 (by rw [sizeLine_eq]; omega)) ⟨e, e2, ?_⟩
  exact h _ (fun b o e => Heap.get?_push_of_some _ e) ⟨_, Heap.get?_push_size _ rfl, rfl, _, rfl⟩
theorem truth_bools {its : Array Value} {tr : Nat → Bool} (hb : ∀ i, i < its.size → its[i]? = some (.bool (tr i))) : TruthOf prog w A (fun i v => its[i]? = some v) tr := by
  intro i v s Q E hP hQ
  have hi : i < its.size := by
    rcases Nat.lt_or_ge i its.size with q | q
    · exact q
    · rw [Array.getElem?_eq_none q] at hP; cases hP
  rw [hb i hi] at hP
  cases hP
  exact wpAny_truthy_bool hQ
theorem all_bools {l : Addr} {its : Array Value} {tr : Nat → Bool} {Q : Value → Shared → Prop} (hh : A.handled = none) (hl : s.heap.IsList l its) (hb : ∀ i, i < its.size → its[i]? = some (.bool (tr i)))
    (h : ∀ h' tk, Kp s.heap h' → Q (.bool ((List.range its.size).all tr)) { s with heap := h', toks := tk }) : wpAny (model prog w) A (call (.builtin "all") [.ref l]) Q E s := by
  refine call_all_walk (listW (A := A.in1) hh hl fun I h' St W st k hI => ⟨I, _, _, _, _, St, tr, rfl, W, st, truth_bools hb, fun h'' tk k' => h h'' tk fun b o e => k' b o (fun hm => ?_) (k b o e)⟩)
  rw [List.mem_singleton.mp hm, hI] at e; cases e
theorem any_bools {l : Addr} {its : Array Value} {tr : Nat → Bool} {Q : Value → Shared → Prop} (hh : A.handled = none) (hl : s.heap.IsList l its) (hb : ∀ i, i < its.size → its[i]? = some (.bool (tr i)))
    (h : ∀ h' tk, Kp s.heap h' → Q (.bool ((List.range its.size).any tr)) { s with heap := h', toks := tk }) : wpAny (model prog w) A (call (.builtin "any") [.ref l]) Q E s := by
  refine call_any_walk (listW (A := A.in1) hh hl fun I h' St W st k hI => ⟨I, _, _, _, _, St, tr, rfl, W, st, truth_bools hb, fun h'' tk k' => h h'' tk fun b o e => k' b o (fun hm => ?_) (k b o e)⟩)
  rw [List.mem_singleton.mp hm, hI] at e; cases e
end
section
variable {w : World} {A : Around} {E : Value → Shared → Prop} {s s₀ : Shared} {L : Addr} {cd : Value} {m cm : Str → Option Value} {Q : Flow → Shared → Prop}
set_option maxHeartbeats 4000000 in
theorem st9 {DC a0 a1 a2 : Addr} {v0 v1 v2 : Array Value} (X : InCallC s₀ (lawEnv L cd).locals m (lawEnv L cd).cells cm s) (hm : m "corners" = some (.ref DC)) (hl : s.heap.IsList DC #[.ref a0, .ref a1, .ref a2])
    (r0 : s.heap.IsList a0 v0) (r1 : s.heap.IsList a1 v1) (r2 : s.heap.IsList a2 v2) (z0 : v0.size = 3) (z1 : v1.size = 3) (z2 : v2.size = 3)
    (h : ∀ s' P, InCallC s₀ (lawEnv L cd).locals m (lawEnv L cd).cells (fun y => if y = Str.ofString "places" then some (.ref P) else cm y) s' → Ks s.heap s'.heap → s'.heap.IsList P (v0 ++ v1 ++ v2) →
      wpAny (model PW w) A (execs (lawDef.1.drop 10) (lawEnv L cd)) Q E s') :
    wpAny (model PW w) A (execs (lawDef.1.drop 9) (lawEnv L cd)) Q E s := by
  refine wpAny_execs_cons (wpAny_Assign_Name (wpAny_BinOp (wpAny_BinOp (Subscript_ (nmL X hm (wpAny_Constant_int (tail_any hl.typeIs slot_list_getitem.lookup (wpAny_getItem_list hl (by decide) (by decide) rfl ?_) rfl)))))))
  refine Subscript_ (nmL (X.tok _) hm (wpAny_Constant_int (tail_any hl.typeIs slot_list_getitem.lookup (wpAny_getItem_list hl (by decide) (by decide) rfl ?_) rfl)))
  refine list_add r0 r1 (by omega) fun h₁ k₁ l₁ => ?_
  have k₁ : Kp s.heap h₁ := k₁
  have hl₁ : h₁.IsList DC #[.ref a0, .ref a1, .ref a2] := hl.at fun o e => k₁ _ o e
  have r2₁ : h₁.IsList a2 v2 := r2.at fun o e => k₁ _ o e
  refine Subscript_ (nmL (InCallC.kp (s := s) X k₁) hm (wpAny_Constant_int (tail_any hl₁.typeIs slot_list_getitem.lookup (wpAny_getItem_list hl₁ (by decide) (by decide) rfl ?_) rfl)))
  refine list_add l₁ r2₁ (by rw [Array.size_append]; omega) fun h₂ k₂ l₂ => ?_
  have k₂ : Kp h₁ h₂ := k₂
  have kk : Kp s.heap h₂ := fun b o e => k₂ b o (k₁ b o e)
  exact stC (InCallC.kp (s := s) X kk) rfl fun h₃ tk₃ X₃ ks keep => h _ _ X₃ ((Ks.of kk).trans ks) (ks.lst l₂)
/-- are the three around the middle -/
def arB (ns : List Int) : Bool := match sortI ns with
  | [x, y, z] => aroundB x y z
  | _ => false
theorem sort3 (a b c : Int) : ∃ x y z, sortI [a, b, c] = [x, y, z] := by
  have h := (sortI_perm [a, b, c]).length_eq
  generalize sortI [a, b, c] = l at h
  match l, h with
  | [x, y, z], _ => exact ⟨x, y, z, rfl⟩
set_option maxHeartbeats 4000000 in
theorem st10 {Da P : Addr} {ys vs : Array Value} {ts : List T3} {f : Nat → Nat} (W₀ : Wd w s₀.heap) (hh : A.handled = none) (hroom : A.depth < recursionLimit) (X : InCallC s₀ (lawEnv L cd).locals m (lawEnv L cd).cells cm s) (hc : cm "around" = some (.ref Da)) (hp : cm "places" = some (.ref P))
    (hl : s.heap.IsList Da ys) (ht : Trips Da s.heap ys ts) (hz : ts.length ≤ 1000) (hP : s.heap.IsList P vs) (hv : ∀ k, k < 9 → ∃ t, vs[k]? = some (.int (f k : Int) t)) (hr : ∀ t ∈ ts, t.1 < 9 ∧ t.2.1 < 9 ∧ t.2.2 < 9)
    (hok : ∀ t ∈ ts, arB [(f t.1 : Int), (f t.2.1 : Int), (f t.2.2 : Int)] = true)
    (h : ∀ s', InCallC s₀ (lawEnv L cd).locals m (lawEnv L cd).cells cm s' → Kp s.heap s'.heap → wpAny (model PW w) A (execs (lawDef.1.drop 11) (lawEnv L cd)) Q E s') :
    wpAny (model PW w) A (execs (lawDef.1.drop 10) (lawEnv L cd)) Q E s := by
  have W : Wd w s.heap := W₀.kp X.toInCall.keep
  have hca : s.heap.IsCell _ (some (.ref Da)) := hc ▸ X.cell (Str.ofString "around") _ rfl
  have hcp : s.heap.IsCell _ (some (.ref P)) := hp ▸ X.cell (Str.ofString "places") _ rfl
  refine wpAny_execs_cons (wpAny_If (wpAny_isTrue_Not (isTrue_plain (Call_ (nmBe W (by k_dflt k_is) PyProof.Rows.boot_all (PyProof.Rows.callWith_builtin1 (args_cons ?_)))))))
  refine compE (fun _ => true) (fun _ _ _ y => y = .bool true) (fun _ _ _ _ _ f _ => f) rfl (by decide) rfl (by decide) rfl (nmC X rfl hc (src_list hh hl fun I s₂ S => ⟨I, ys.size, _, rfl, by rw [sizeLine_eq, ht.size]; omega, S, ?_, ?_⟩))
  · refine ⟨fun C i v s₃ m₃ E' hi hP' hn hm k => wpAny_tests_nil ⟨rfl, Keeps.self _⟩, fun C i v s₃ m₃ E' n₀ hi hP' _ hn hm k hz' => ?_⟩
    have hP' : ys[i]? = some v := hP'
    obtain ⟨t, et⟩ : ∃ t, ts[i]? = some t := ⟨_, List.getElem?_eq_getElem (by rw [← ht.size]; exact hi)⟩
    have hmem : t ∈ ts := List.mem_of_getElem? et
    obtain ⟨D', u1, u2, u3, ev, _, hD'⟩ := ht.at_ i t et
    rw [ev] at hP'; cases hP'
    have W₃ : Wd w s₃.heap := W.kp k
    have hD₃ : s₃.heap.IsList D' #[.int t.1 u1, .int t.2.1 u2, .int t.2.2 u3] := hD'.at fun o e => k _ o e
    refine Call_ (nmGe W₃ (by k_dflt k_is) (callWith_K W₃.X (by k_dflt k_is) (args_cons ?_)))
    refine compE (fun _ => true) (fun _ i _ y => ∃ u, y = .int (f ([t.1, t.2.1, t.2.2].getD i 0) : Int) u) (fun _ _ _ _ _ f _ => f) rfl (by decide) rfl (by decide) rfl (nmX (m := m₃) hn hm (src_list hh hD₃ fun I s₄ S => ⟨I, 3, _, rfl, by rw [sizeLine_eq]; decide, S, ?_, ?_⟩))
    · refine ⟨fun C i v s₃ m₃ E' hi hP hn hm k => wpAny_tests_nil ⟨rfl, Keeps.self _⟩, fun C₂ q v s₅ m₅ E'' n₁ hq hP₅ _ hn₅ hm₅ k₅ hz₅ => ?_⟩
      have k₀ : Kp s.heap s₅.heap := fun b o e => k₅ b o (k b o e)
      have hP₆ : s₅.heap.IsList P vs := hP.at fun o e => k₀ _ o e
      obtain ⟨h1, h2, h3⟩ := hr t hmem
      have hq3 : ∃ u, v = .int (([t.1, t.2.1, t.2.2].getD q 0 : Nat) : Int) u ∧ [t.1, t.2.1, t.2.2].getD q 0 < 9 := by
        have hP₅ : (#[Value.int t.1 u1, .int t.2.1 u2, .int t.2.2 u3])[q]? = some v := hP₅
        have : q = 0 ∨ q = 1 ∨ q = 2 := by omega
        rcases this with rfl | rfl | rfl
        · cases hP₅; exact ⟨_, rfl, h1⟩
        · cases hP₅; exact ⟨_, rfl, h2⟩
        · cases hP₅; exact ⟨_, rfl, h3⟩
      obtain ⟨u, rfl, hlt⟩ := hq3
      obtain ⟨u', ex⟩ := hv _ hlt
      exact Subscript_ (nmF (by rfl) (hcp.keeps k₀) (nmX (m := m₅) hn₅ hm₅ (tail_any hP₆.typeIs slot_list_getitem.lookup (wpAny_getItem_list hP₆ (Int.natCast_nonneg _) (by omega) ex ⟨⟨u', rfl⟩, Keeps.self _⟩) rfl)))
    · intro n₁ D₂ h' tk zs hD₂ hl₂ hp₂ k₂ _
      obtain ⟨y0, y1, y2, rfl, ⟨w0, rfl⟩, ⟨w1, rfl⟩, ⟨w2, rfl⟩⟩ := pair3g hp₂
      obtain ⟨x, y, z, hs⟩ := sort3 (f t.1 : Int) (f t.2.1 : Int) (f t.2.2 : Int)
      refine args_nil ⟨W₃.X.keeps k₂, ?_⟩
      refine around_call (vs := [_, _, _]) (ns := [(f t.1 : Int), (f t.2.1 : Int), (f t.2.2 : Int)]) (W₃.kp k₂) hh hroom hl₂ (.cons _ _ (.cons _ _ (.cons _ _ .nil))) hs fun h₃ tk₃ k₃ => ⟨?_, _, _, rfl, fun b o e => k₃ b o (k₂ b o e)⟩
      have q := hok t hmem
      unfold arB at q
      rw [hs] at q
      exact congrArg Value.bool q
  · intro n₀ D h' tk zs hD hl' hp' k _
    refine args_nil ?_
    rw [filter_true] at hp'
    refine all_bools (tr := fun _ => true) hh hl' (fun i hi => ?_) fun h₂ tk₂ k₂ => ?_
    · obtain ⟨y, q, rfl⟩ := pair_at hp' (by rw [← pair_size hp']; exact hi)
      exact q
    · refine wpAny_truthy_bool ?_
      have e : ((List.range zs.size).all fun _ => true) = true := List.all_eq_true.mpr fun _ _ => rfl
      rw [e]
      exact wpAny_execs_nil (h _ (InCallC.kp (tk := tk₂) (InCallC.kp (tk := tk) X k) k₂) (fun b o e => k₂ b o (k b o e)))
end
end Mine
end

section
open PySem PySem.W PySem.Calls PyProof.Rows PySem.Spec
set_option maxRecDepth 100000
namespace Mine
/-- is the number among the three -/
def inT (k : Int) (t : T3) : Bool := ([(t.1 : Int), (t.2.1 : Int), (t.2.2 : Int)] : List Int).any (· == k)
section
variable {w : World} {A : Around} {E : Value → Shared → Prop} {s s₀ : Shared} {L : Addr} {cd : Value} {m cm : Str → Option Value} {Q : Flow → Shared → Prop}
set_option maxHeartbeats 4000000 in
theorem st11 {Da : Addr} {ys : Array Value} {ts : List T3} (W₀ : Wd w s₀.heap) (hh : A.handled = none) (X : InCallC s₀ (lawEnv L cd).locals m (lawEnv L cd).cells cm s) (hc : cm "around" = some (.ref Da))
    (hl : s.heap.IsList Da ys) (ht : Trips Da s.heap ys ts) (hz : ts.length ≤ 1000) (hin : ∀ k : Nat, k < 9 → ∃ t ∈ ts, inT (0 + (k : Int)) t = true)
    (h : ∀ h' tk, Kp s.heap h' → Q (.ret (.bool true)) { s with heap := h', toks := tk }) :
    wpAny (model PW w) A (execs (lawDef.1.drop 11) (lawEnv L cd)) Q E s := by
  have W : Wd w s.heap := W₀.kp X.toInCall.keep
  have hca : s.heap.IsCell _ (some (.ref Da)) := hc ▸ X.cell (Str.ofString "around") _ rfl
  refine wpAny_execs_cons (wpAny_Return_some (Call_ (nmBe W (by k_dflt k_is) PyProof.Rows.boot_all (PyProof.Rows.callWith_builtin1 (args_cons ?_)))))
  refine compEC (fun _ _ _ y => y = .bool true) (fun _ _ _ _ _ f _ => f) rfl (by intro n; rfl) (by intro h; rfl) rfl (by decide) (by rfl) (Call_ (nmBe W (by k_dflt k_is) PyProof.Rows.boot_range (Pv.callWith_type1 (args_cons (wpAny_Constant_int (args_nil (iter_range1 (n := 9) hh (by decide) (by decide) fun I s₂ S => ⟨I, 9, _, rfl, by rw [sizeLine_eq]; decide, S.of rfl Kp.rfl, ?_, ?_⟩)))))))
  · rintro C c k v s₃ E' n₀ hk ⟨tk, rfl⟩ hck kp hz'
    have kp : Kp s.heap s₃.heap := kp
    have W₃ : Wd w s₃.heap := W.kp kp
    have hl₃ : s₃.heap.IsList Da ys := hl.at fun o e => kp _ o e
    have ht₃ := ht.mono (h' := s₃.heap) fun D' its _ q => q.at fun o e => kp _ o e
    refine Call_ (nmBe W₃ (by k_dflt k_is) PyProof.Rows.boot_any (PyProof.Rows.callWith_builtin1 (args_cons ?_)))
    refine compE (fun _ => true) (fun _ i _ y => y = .bool (inT (0 + (k : Int)) (ts.getD i (0, 0, 0)))) (fun _ _ _ _ _ f _ => f) rfl (by decide) rfl (by decide) rfl (nmF (by rfl) (hca.keeps kp) (src_list hh hl₃ fun I s₂ S => ⟨I, ys.size, _, rfl, by rw [sizeLine_eq, ht.size]; omega, S, ?_, ?_⟩))
    · refine ⟨fun C i v s₃ m₃ E' hi hP' hn hm k => wpAny_tests_nil ⟨rfl, Keeps.self _⟩, fun C₂ i v s₅ m₅ E'' n₁ hi hP' _ hn hm k₅ hz₅ => ?_⟩
      have hP' : ys[i]? = some v := hP'
      have hi' : i < ts.length := by rw [← ht.size]; exact hi
      have et : ts[i]? = some (ts.getD i (0, 0, 0)) := by rw [List.getD_eq_getElem?_getD, List.getElem?_eq_getElem hi']; rfl
      obtain ⟨D', u1, u2, u3, ev, _, hD'⟩ := ht₃.at_ i _ et
      rw [ev] at hP'; cases hP'
      have hD₅ : s₅.heap.IsList D' ([.int _ u1, .int _ u2, .int _ u3] : List Value).toArray := hD'.at fun o e => k₅ _ o e
      exact wpAny_Compare1 (nmF (by rfl) (hck.keeps k₅) (nmX (m := m₅) hn hm (PyProof.Rows.in_list_ints hD₅ (.cons _ _ (.cons _ _ (.cons _ _ .nil))) ⟨rfl, Keeps.self _⟩)))
    · intro n₁ D h' tk' zs hD hl' hp' k' _
      rw [filter_true] at hp'
      refine args_nil (any_bools (tr := fun i => inT (0 + (k : Int)) (ts.getD i (0, 0, 0))) hh hl' (fun i hi => ?_) fun h₂ tk₂ k₂ => ⟨?_, _, _, rfl, fun b o e => k₂ b o (k' b o e)⟩)
      · obtain ⟨y, q, rfl⟩ := pair_at hp' (by rw [← pair_size hp']; exact hi)
        exact q
      · refine congrArg Value.bool (List.any_eq_true.mpr ?_)
        obtain ⟨t, hm, q⟩ := hin k hk
        obtain ⟨i, hi, e⟩ := List.getElem_of_mem hm
        refine ⟨i, List.mem_range.mpr (by rw [pair_size hp', ht.size]; exact hi), ?_⟩
        rw [List.getD_eq_getElem?_getD, List.getElem?_eq_getElem hi]
        exact e ▸ q
  · intro n₀ D h' tk zs hD hl' hp' k _
    refine args_nil (all_bools (tr := fun _ => true) hh hl' (fun i hi => ?_) fun h₂ tk₂ k₂ => ?_)
    · obtain ⟨y, q, rfl⟩ := pair_at hp' (by rw [← pair_size hp']; exact hi)
      exact q
    · have e : ((List.range zs.size).all fun _ => true) = true := List.all_eq_true.mpr fun _ _ => rfl
      rw [e]
      exact h h₂ tk₂ fun b o e => k₂ b o (k b o e)
end
end Mine
end

section
open PySem PySem.W PySem.Calls PyProof.Rows PySem.Spec
set_option maxRecDepth 100000
namespace Mine
theorem mem_tri3 {ok : Nat → Nat → Nat → Bool} {j k : Nat} {t : T3} : ∀ {n : Nat}, t ∈ tri3 ok j k n ↔ ∃ i, i < n ∧ ok j (3 + k) (6 + i) = true ∧ t = (j, 3 + k, 6 + i)
  | 0 => by simp [tri3]
  | n + 1 => by
    unfold tri3
    rw [List.mem_append, mem_tri3]
    constructor
    · rintro (⟨i, h, a, b⟩ | h)
      · exact ⟨i, by omega, a, b⟩
      · split at h
        · rename_i q
          exact ⟨n, by omega, q, by simpa using h⟩
        · simp at h
    · rintro ⟨i, h, a, b⟩
      by_cases e : i = n
      · subst e
        exact .inr (by rw [if_pos a]; simpa using b)
      · exact .inl ⟨i, by omega, a, b⟩
theorem mem_tri2 {ok : Nat → Nat → Nat → Bool} {j : Nat} {t : T3} : ∀ {n : Nat}, t ∈ tri2 ok j n ↔ ∃ k i, k < n ∧ i < 3 ∧ ok j (3 + k) (6 + i) = true ∧ t = (j, 3 + k, 6 + i)
  | 0 => by simp [tri2]
  | n + 1 => by
    unfold tri2
    rw [List.mem_append, mem_tri2, mem_tri3]
    constructor
    · rintro (⟨k, i, h, r⟩ | ⟨i, r⟩)
      · exact ⟨k, i, by omega, r⟩
      · exact ⟨n, i, by omega, r⟩
    · rintro ⟨k, i, h, r⟩
      by_cases e : k = n
      · subst e
        exact .inr ⟨i, r⟩
      · exact .inl ⟨k, i, by omega, r⟩
theorem mem_tri1 {ok : Nat → Nat → Nat → Bool} {t : T3} : ∀ {n : Nat}, t ∈ tri1 ok n ↔ ∃ j k i, j < n ∧ k < 3 ∧ i < 3 ∧ ok j (3 + k) (6 + i) = true ∧ t = (j, 3 + k, 6 + i)
  | 0 => by simp [tri1]
  | n + 1 => by
    unfold tri1
    rw [List.mem_append, mem_tri1, mem_tri2]
    constructor
    · rintro (⟨j, k, i, h, r⟩ | ⟨k, i, r⟩)
      · exact ⟨j, k, i, by omega, r⟩
      · exact ⟨n, k, i, by omega, r⟩
    · rintro ⟨j, k, i, h, r⟩
      by_cases e : j = n
      · subst e
        exact .inr ⟨k, i, r⟩
      · exact .inl ⟨j, k, i, by omega, r⟩
theorem okF_eq (f : Nat → Nat) {j k i : Nat} (hj : j < 3) (hk : k < 3) (hi : i < 3) : okF f j (3 + k) (6 + i) = decide (wd (f j) (f (3 + k)) + wd (f j) (f (6 + i)) + wd (f (3 + k)) (f (6 + i)) = 6) := by
  unfold okF dst
  rw [if_pos (by omega), if_pos (by omega), if_pos (by omega)]
  generalize wd (f j) (f (3 + k)) = a
  generalize wd (f j) (f (6 + i)) = b
  generalize wd (f (3 + k)) (f (6 + i)) = c
  rw [Bool.eq_iff_iff, beq_iff_eq, decide_eq_true_eq]
  omega
theorem ar_all : ∀ p : Fin 6, ∀ q : Fin 6, ∀ r : Fin 6, wd p q + wd p r + wd q r = 6 → arB [((p : Nat) : Int), ((q : Nat) : Int), ((r : Nat) : Int)] = true := by decide +kernel
/-- three corners with the middle within hold one of these -/
def core (i : Nat) : List Nat := [[0, 3], [1, 4], [2, 5], [0, 2, 4], [1, 3, 5]].getD i []
theorem row_core : ∀ u : Fin 6, ∀ a : Fin 4, ∀ b : Fin 4, 3 ≤ a.val + b.val → ∃ i : Fin 5, ∀ x ∈ core i.val, x ∈ [u.val, (u.val + a.val) % 6, (u.val + a.val + b.val) % 6] := by decide +kernel
theorem three_core : ∀ p : Fin 6, ∀ i : Fin 5, ∀ j : Fin 5, ∃ q ∈ core i.val, ∃ r ∈ core j.val, wd p q + wd p r + wd q r = 6 ∧ wd q p + wd q r + wd p r = 6 ∧ wd q r + wd q p + wd r p = 6 := by decide +kernel
theorem cn_mod (N : Int) : ∃ u a b : Nat, u < 6 ∧ a < 4 ∧ b < 4 ∧ 3 ≤ a + b ∧ (cn N 0).toNat = u ∧ (cn N 1).toNat = (u + a) % 6 ∧ (cn N 2).toNat = (u + a + b) % 6 := by
  have ha := cA_nn N
  have ha' := cA_lt N
  have hz : 0 ≤ (N.fdiv 24).fmod (cA N + 1) := Int.fmod_nonneg_of_pos _ (by omega)
  have hz' : (N.fdiv 24).fmod (cA N + 1) < cA N + 1 := Int.fmod_lt_of_pos _ (by omega)
  have hb : cB N = 3 - (N.fdiv 24).fmod (cA N + 1) := rfl
  have e6 : ∀ z : Int, z.fmod 6 = z % 6 := fun z => Int.fmod_eq_emod_of_nonneg _ (by decide)
  refine ⟨(N % 6).toNat, (cA N).toNat, (cB N).toNat, by omega, by omega, by omega, by omega, ?_, ?_, ?_⟩
  · show (N.fmod 6).toNat = _
    rw [e6]
  · show ((N + cA N).fmod 6).toNat = _
    rw [e6]; omega
  · show ((N + cA N + cB N).fmod 6).toNat = _
    rw [e6]; omega
theorem pl_row (n : Nat → Int) {i : Nat} : ∃ c : Fin 5, ∀ x ∈ core c.val, ∃ τ, τ < 3 ∧ pl n (3 * i + τ) = x := by
  obtain ⟨u, a, b, h1, h2, h3, h4, e0, e1, e2⟩ := cn_mod (n i)
  obtain ⟨c, hc⟩ := row_core ⟨u, h1⟩ ⟨a, h2⟩ ⟨b, h3⟩ h4
  have f : ∀ τ, τ < 3 → pl n (3 * i + τ) = (cn (n i) τ).toNat := fun τ hτ => by
    unfold pl
    rw [show (3 * i + τ) / 3 = i by omega, show (3 * i + τ) % 3 = τ by omega]
  refine ⟨c, fun x hx => ?_⟩
  have := hc x hx
  simp only [List.mem_cons, List.not_mem_nil, or_false] at this
  rcases this with rfl | rfl | rfl
  · exact ⟨0, by decide, (f 0 (by decide)).trans e0⟩
  · exact ⟨1, by decide, (f 1 (by decide)).trans e1⟩
  · exact ⟨2, by decide, (f 2 (by decide)).trans e2⟩
theorem law_in (n : Nat → Int) (k : Nat) (hk : k < 9) : ∃ t ∈ tri1 (okF (pl n)) 3, inT (0 + (k : Int)) t = true := by
  obtain ⟨c0, r0⟩ := pl_row n (i := 0)
  obtain ⟨c1, r1⟩ := pl_row n (i := 1)
  obtain ⟨c2, r2⟩ := pl_row n (i := 2)
  have put : ∀ j k' i, j < 3 → k' < 3 → i < 3 → wd (pl n (3 * 0 + j)) (pl n (3 * 1 + k')) + wd (pl n (3 * 0 + j)) (pl n (3 * 2 + i)) + wd (pl n (3 * 1 + k')) (pl n (3 * 2 + i)) = 6 → (j, 3 + k', 6 + i) ∈ tri1 (okF (pl n)) 3 := fun j k' i hj hk' hi h => by
    refine mem_tri1.mpr ⟨j, k', i, hj, hk', hi, ?_, rfl⟩
    rw [okF_eq _ hj hk' hi, decide_eq_true_eq]
    simpa using h
  have hp := pl_lt n k
  have : k / 3 = 0 ∨ k / 3 = 1 ∨ k / 3 = 2 := by omega
  rcases this with e | e | e
  · obtain ⟨q, hq, r, hr, g, _, _⟩ := three_core ⟨pl n k, hp⟩ c1 c2
    obtain ⟨k', hk', rfl⟩ := r1 q hq
    obtain ⟨i, hi, rfl⟩ := r2 r hr
    refine ⟨_, put k k' i (by omega) hk' hi (by simpa using g), ?_⟩
    unfold inT
    simp
  · obtain ⟨q, hq, r, hr, _, g, _⟩ := three_core ⟨pl n k, hp⟩ c0 c2
    obtain ⟨j, hj, rfl⟩ := r0 q hq
    obtain ⟨i, hi, rfl⟩ := r2 r hr
    refine ⟨_, put j (k - 3) i hj (by omega) hi ?_, ?_⟩
    · rw [show 3 * 1 + (k - 3) = k by omega]
      omega
    · unfold inT
      simp
      omega
  · obtain ⟨q, hq, r, hr, _, _, g⟩ := three_core ⟨pl n k, hp⟩ c0 c1
    obtain ⟨j, hj, rfl⟩ := r0 q hq
    obtain ⟨k', hk', rfl⟩ := r1 r hr
    refine ⟨_, put j k' (k - 6) hj hk' (by omega) ?_, ?_⟩
    · rw [show 3 * 2 + (k - 6) = k by omega]
      exact g
    · unfold inT
      simp
      omega
theorem law_ok (n : Nat → Int) : ∀ t ∈ tri1 (okF (pl n)) 3, arB [(pl n t.1 : Int), (pl n t.2.1 : Int), (pl n t.2.2 : Int)] = true := by
  intro t ht
  obtain ⟨j, k, i, hj, hk, hi, h, rfl⟩ := mem_tri1.mp ht
  rw [okF_eq _ hj hk hi, decide_eq_true_eq] at h
  exact ar_all ⟨_, pl_lt n j⟩ ⟨_, pl_lt n (3 + k)⟩ ⟨_, pl_lt n (6 + i)⟩ h
theorem law_rng (f : Nat → Nat) : ∀ t ∈ tri1 (okF f) 3, t.1 < 9 ∧ t.2.1 < 9 ∧ t.2.2 < 9 := by
  intro t ht
  obtain ⟨j, k, i, hj, hk, hi, h, rfl⟩ := mem_tri1.mp ht
  refine ⟨?_, ?_, ?_⟩ <;> simp <;> omega
end Mine
end

section
open PySem PySem.W PySem.Calls PyProof.Rows PySem.Spec
set_option maxRecDepth 100000
namespace Mine
theorem hdr_ne {h : Heap} {x dx l l' : Addr} {its : Array Value} (H : Hdr h x dx l) (L : Lst h l' its) : x ≠ l' ∧ dx ≠ l' := by
  obtain ⟨n, ol⟩ := L
  obtain ⟨es, n', I, _⟩ := H
  constructor
  · rintro rfl
    have := I.at_
    rw [ol] at this; cases this
  · rintro rfl
    have : h.get? dx = some (dictOf es n') := I.dict
    rw [ol] at this
    have q : Value.type "list" = Value.type "dict" := congrArg Obj.cls (Option.some.inj this)
    injection q with q
    exact absurd q (by decide)
theorem list_ne {h : Heap} {a b : Addr} {its its' : Array Value} (x : h.IsList a its) (L : Lst h b its') (z : its.size ≠ its'.size) : a ≠ b := by
  rintro rfl
  obtain ⟨n, e'⟩ := L
  obtain ⟨o, e, c, m, d⟩ := x
  rw [e'] at e; cases e
  have d : (Data.seq its' n) = Data.seq its m := d
  injection d with d
  exact z (congrArg Array.size d).symm
section
variable {w : World} {A : Around} {E : Value → Shared → Prop} {s s₀ : Shared} {L : Addr} {cd : Value} {Q : Flow → Shared → Prop}
set_option maxHeartbeats 8000000 in
theorem law_body {l₀ : Addr} {vs : List Value} {ns : List Int} (W₀ : Wd w s₀.heap) (hh : A.handled = none) (hroom : A.depth + 1 < recursionLimit) (X₀ : InCallC s₀ (lawEnv L cd).locals (lk []) (lawEnv L cd).cells (lk [("script", .ref l₀)]) s)
    (hl : s.heap.IsList l₀ vs.toArray) (hi : IntsAre vs ns) (hz : vs.length ≤ 1000)
    (h : ∀ h' tk, Kp s₀.heap h' → Q (.ret (.bool true)) { s₀ with heap := h', toks := tk }) :
    wpAny (model PW w) A (execs lawDef.1 (lawEnv L cd)) Q E s := by
  refine st0 W₀ hh X₀ hl hi hz fun s₁ D0 n0 n1 n2 t0 t1 t2 X₁ lD0 => ?_
  refine st1 X₁ fun s₂ DN v0 v1 v2 X₂ k₂ lDN => ?_
  have lD0₂ := k₂.lst lD0
  refine st2 W₀ hh (Nat.lt_of_succ_lt hroom) X₂ (by rfl) lD0₂ fun s₃ DC a0 a1 a2 X₃ k₃ lDC r0 r1 r2 => ?_
  obtain ⟨p0, p1, p2, r0⟩ := r0
  obtain ⟨p3, p4, p5, r1⟩ := r1
  obtain ⟨p6, p7, p8, r2⟩ := r2
  have lDN₃ := k₃.lst lDN
  have lD0₃ := k₃.lst lD0₂
  refine st3 W₀ hh hroom X₃ fun s₄ x dx l X₄ k₄ H l₄ ox odx ol hl0 => ?_
  have lDN₄ := k₄.lst lDN₃
  have lD0₄ := k₄.lst lD0₃
  have lDC₄ := k₄.lst lDC
  have r0₄ := k₄.lst r0.is
  have r1₄ := k₄.lst r1.is
  have r2₄ := k₄.lst r2.is
  obtain ⟨xl, dxl⟩ := hdr_ne H l₄
  have n30 : (3 : Nat) ≠ 0 := by decide
  have three : ∀ {P : Nat → Prop}, P 0 → P 1 → P 2 → ∀ i, i < 3 → P i := fun h0 h1 h2 i hi => by
    have : i = 0 ∨ i = 1 ∨ i = 2 := by omega
    rcases this with rfl | rfl | rfl
    · exact h0
    · exact h1
    · exact h2
  refine st4 (n := fun i => [n0, n1, n2].getD i 0) (a := fun i => [a0, a1, a2].getD i 0) W₀ hl0 hh hroom X₄ (by rfl) (by rfl) (by rfl) (by rfl) (three ⟨v0, rfl⟩ ⟨v1, rfl⟩ ⟨v2, rfl⟩) (three ⟨t0, rfl⟩ ⟨t1, rfl⟩ ⟨t2, rfl⟩) (three rfl rfl rfl) rfl rfl rfl lDN₄ lD0₄ lDC₄
    (three ⟨list_ne r0₄ l₄ n30, _, r0₄, three ⟨p0, rfl⟩ ⟨p1, rfl⟩ ⟨p2, rfl⟩⟩ ⟨list_ne r1₄ l₄ n30, _, r1₄, three ⟨p3, rfl⟩ ⟨p4, rfl⟩ ⟨p5, rfl⟩⟩ ⟨list_ne r2₄ l₄ n30, _, r2₄, three ⟨p6, rfl⟩ ⟨p7, rfl⟩ ⟨p8, rfl⟩⟩)
    H l₄ ox odx xl dxl (list_ne lDN₄ l₄ n30) (list_ne lD0₄ l₄ n30) (list_ne lDC₄ l₄ n30) fun s₅ m₅ T => ?_
  obtain ⟨items, l₅, ps⟩ := T.ps
  have q5 : ∀ {a : Addr} {v : Array Value}, s₄.heap.IsList a v → v.size = 3 → s₅.heap.IsList a v := fun x z => T.kl.lst (list_ne x l₄ (by rw [z]; exact n30)) x
  have lDN₅ := q5 lDN₄ rfl
  have lDC₅ := q5 lDC₄ rfl
  have r0₅ := q5 r0₄ rfl
  have r1₅ := q5 r1₄ rfl
  have r2₅ := q5 r2₄ rfl
  have H₅ : Hdr s₅.heap x dx l := H.ks (fun o e => T.kl x o xl (.inl ox) e) (fun o e => T.kl dx o dxl (.inl odx) e)
  refine st5g T.X fun s₆ D X₆ k₆ kx₆ lD oD hD => ?_
  have hD0 : s₀.heap.get? D = none := cell_none T.X hD
  have H₆ := H₅.kx kx₆ ox odx
  obtain ⟨xD, dxD⟩ := hdr_ne H₆ lD
  have l₆ := l₅.ks k₆
  have lDN₆ := k₆.lst lDN₅
  refine st6 (n := fun i => [n0, n1, n2].getD i 0) W₀ hh hroom X₆ T.m1 T.m4 (by rfl) (three ⟨v0, rfl⟩ ⟨v1, rfl⟩ ⟨v2, rfl⟩) rfl lDN₆ H₆ l₆ (ps.mono fun T p q t => k₆.tup t) lD hD0 ox odx xD dxD (list_ne lDN₆ lD n30) (list_ne l₆.is lD (by rw [ps.size]; show (9 : Nat) ≠ 0; decide)) fun s₇ m₇ ws X₇ hm₇ kl₇ lD₇ hS => ?_
  have q7 : ∀ {a : Addr} {v : Array Value}, s₅.heap.IsList a v → v.size = 3 → s₇.heap.IsList a v := fun x z => kl₇.lst (list_ne (k₆.lst x) lD (by rw [z]; exact n30)) (k₆.lst x)
  have lDC₇ := q7 lDC₅ rfl
  have r0₇ := q7 r0₅ rfl
  have r1₇ := q7 r1₅ rfl
  have r2₇ := q7 r2₅ rfl
  refine st7 (f := pl fun i => [n0, n1, n2].getD i 0) (pl_lt _) W₀ hh hroom X₇ (by rfl) lD₇.is hS fun s₈ G vs₈ X₈ k₈ lG hF => ?_
  refine st8 (f := pl fun i => [n0, n1, n2].getD i 0) W₀ hh X₈ (by rfl) lG hF fun s₉ Da ys X₉ k₉ lDa tr => ?_
  have q9 : ∀ {a : Addr} {v : Array Value}, s₇.heap.IsList a v → s₉.heap.IsList a v := fun x => k₉.lst (k₈.lst x)
  refine st9 X₉ ((hm₇ _ (by decide) (by decide)).trans T.m3) (q9 lDC₇) (q9 r0₇) (q9 r1₇) (q9 r2₇) rfl rfl rfl fun s₁₀ P X₁₀ k₁₀ lP => ?_
  have lDa₁₀ := k₁₀.lst lDa
  have tr₁₀ := tr.mono (h' := s₁₀.heap) fun D' its _ q => k₁₀.lst q
  have hlen : (tri1 (okF (pl fun i => [n0, n1, n2].getD i 0)) 3).length ≤ 1000 := Nat.le_trans (tri1_len _ _) (by decide)
  refine st10 (f := pl fun i => [n0, n1, n2].getD i 0) W₀ hh (Nat.lt_of_succ_lt hroom) X₁₀ (by rfl) (by rfl) lDa₁₀ tr₁₀ hlen lP ?_ (law_rng _) (law_ok _) fun s₁₁ X₁₁ k₁₁ => ?_
  · have cs : ∀ (N : Int) (τ : Nat), ((cn N τ).toNat : Int) = cn N τ := fun N τ => by have := cn_lt N τ; omega
    intro k hk
    have e : ∀ k, ((pl (fun i => [n0, n1, n2].getD i 0) k : Nat) : Int) = cn ([n0, n1, n2].getD (k / 3) 0) (k % 3) := fun k => cs _ _
    rw [e]
    have : k = 0 ∨ k = 1 ∨ k = 2 ∨ k = 3 ∨ k = 4 ∨ k = 5 ∨ k = 6 ∨ k = 7 ∨ k = 8 := by omega
    rcases this with rfl | rfl | rfl | rfl | rfl | rfl | rfl | rfl | rfl
    · exact ⟨p0, rfl⟩
    · exact ⟨p1, rfl⟩
    · exact ⟨p2, rfl⟩
    · exact ⟨p3, rfl⟩
    · exact ⟨p4, rfl⟩
    · exact ⟨p5, rfl⟩
    · exact ⟨p6, rfl⟩
    · exact ⟨p7, rfl⟩
    · exact ⟨p8, rfl⟩
  · refine st11 W₀ hh X₁₁ (by rfl) (lDa₁₀.at fun o e => k₁₁ _ o e) (tr₁₀.mono fun D' its _ q => q.at fun o e => k₁₁ _ o e) hlen (law_in _) fun h' tk k' => ?_
    obtain ⟨h₁, tk₁, rfl⟩ := X₁₁.toInCall.same
    exact h h' tk fun b o e => k' b o (X₁₁.toInCall.keep b o e)
set_option maxHeartbeats 4000000 in
theorem law_call {Q : Value → Shared → Prop} {l₀ : Addr} {vs : List Value} {ns : List Int} (W : Wd w s.heap) (hh : A.handled = none) (hroom : A.depth + 2 < recursionLimit)
    (hl : s.heap.IsList l₀ vs.toArray) (hi : IntsAre vs ns) (hz : vs.length ≤ 1000)
    (h : ∀ h' tk, Kp s.heap h' → Q (.bool true) { s with heap := h', toks := tk }) :
    wpAny (model PW w) A (call (.ref 238) [.ref l₀]) Q E s := by
  refine' call_pureC (binds := [(Str.ofString "script", .ref l₀)]) W.X W.lim (by omega) ?ho ?hcd ?hb ?hl ?c2 ?c3 ?c4 ?_
  case ho => k_dflt k_is
  case hcd => k_dflt k_is
  case hb => exact rfl
  case hl => exact kindsX rfl _
  case c2 => exact rfl
  case c3 => exact rfl
  case c4 => exact rfl
  intro s₁ X₁
  exact law_body W hh (show A.depth + 1 + 1 < _ by omega) X₁ (hl.at fun o e => X₁.toInCall.keep _ o e) hi hz h
end
end Mine
end

section
open PySem PySem.W PySem.Calls PyProof.Rows PySem.Spec
set_option maxRecDepth 100000
namespace Mine
theorem goodR {c : ClaimW} {cl : Str → Option Addr} {mean : ExcName → Option Value} {args : List WData} {s₁ : Shared} {h' : Heap} {tk : Nat} (h1 : ∀ cls, c.raises args cls = false) (h2 : c.post args (.bool true) args = true) (k : Kp s₁.heap h') (g : s₁.gens = #[]) :
    GoodWG c cl mean args s₁ (.ok (.ret (.bool true))) { s₁ with heap := h', toks := tk } :=
  GoodW.toG ⟨.inl ⟨.bool true, .bool true, [], rfl, h1, by constructor, h2, fun _ => ⟨List.nodup_nil, fun _ h => nomatch h⟩⟩, k, rfl, g⟩
theorem post_true (args : List WData) : PySem.Challenge.rw_pg0287_01.row.toRowW.claim.post args (.bool true) args = true := by
  show (WShape.has [] (.bool true) .bool && WTm.holds [] (.eq .res (.lit (.bool true))) { args := args, res := some (.bool true), after := args }) = true
  have e : (WTm.eq .res (.lit (.bool true))).value [] { args := args, res := some (.bool true), after := args } = some (.bool (true == true)) := w_eq_bool (w_res rfl) w_lit
  have a : WShape.has [] (.bool true) .bool = true := by simp [WShape.has, WShape.arms]
  rw [a, Bool.true_and]
  unfold WTm.holds
  rw [e]
  decide
set_option maxHeartbeats 8000000 in
theorem law_true : PySem.Challenge.rw_pg0287_01.Holds := Mine.hd (by
  k_fill
  intro w s₀ s₁ mg mb G Y fa o pm cd doc dV kV ho hd hcd hD hmg hg args vals as hpre hlay hrd hwl hlo
  have KX := kIn_of Y
  refine Ground.open G ?_
  intro T B D TE TW
  have W : Wd w s₁.heap := ⟨KX, mg, mb, topRead_of T⟩
  have e238 : mg (Str.ofString "law") = some (.ref 238) := mg_of KX T.g (by k_dflt k_is)
  have hmg' : mg (Str.ofString "law") = some (.ref fa) := hmg
  rw [e238] at hmg'
  obtain rfl : 238 = fa := by injection hmg' with q; injection q
  clear ho hd hcd hD hmg hmg' T B D TE TW
  wrow_args hpre hlay hrd hwl hlo
  rename_i ns _ _ _ _ _ _ _ l vs _ hl _ _ _ hi _ hlen _
  refine law_call (s := s₁) W rfl (by decide) hl hi ?_ fun h' tk k => goodR ?_ ?_ k hg
  · have q := hi.length
    omega
  · exact fun _ => rfl
  · exact post_true _)
end Mine
end

theorem PySem.Challenge.cw_pg0287_01_holds : PySem.Challenge.rw_pg0287_01.Holds :=
  Mine.law_true
