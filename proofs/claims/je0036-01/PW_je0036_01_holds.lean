import PyProof.Rows.All
import Wide.All
import OpenK.AllK
import Wide.FinOn
import PySem.Challenge.RW_je0036_01
open PySem PySem.W PyProof.Rows
set_option Elab.async false
namespace Mine
set_option maxRecDepth 100000 in
set_option maxHeartbeats 8000000 in
open_top hd for PySem.Challenge.rw_je0036_01
section
open PySem PySem.W PySem.Calls PyProof.Rows

abbrev prg : Program := PySem.Challenge.rw_je0036_01.row.prog

/-- a call's end: the heap has only grown, and what comes back is told -/
def Done (s₀ : Shared) (P : Value → Heap → Prop) (v : Value) (s' : Shared) : Prop :=
  ∃ h' tk, s' = { s₀ with heap := h', toks := tk } ∧ (∀ b o, s₀.heap.get? b = some o → h'.get? b = some o) ∧ P v h'

theorem Done.intro {s₀ : Shared} {P : Value → Heap → Prop} {v : Value} {L' : Addr} {m' : Str → Option Value} {h' : Heap} {tk : Nat}
    (F : Fr s₀.heap L' h' m') (p : P v h') : Done s₀ P v { s₀ with heap := h', toks := tk } :=
  ⟨h', tk, rfl, F.keep, p⟩

/-- what a call of f upon vs does, at a frame of the depth dp -/
def Spec (dp un : Nat) (w : World) (f : Addr) (vs : List Value) (pre : Heap → Prop) (P : Value → Heap → Prop) : Prop :=
  ∀ (mean : ExcName → Option Value) (mg mb : Str → Option Value) (cn : Str) (cs : Scope) (a : Addr) (ccd : Value) (cl : List (Str × Addr)) (outer : List Env) (A₀ : Around) (base h₀ : Heap) (L : Addr) (m : Str → Option Value) (s : Shared) (Q E : Value → Shared → Prop),
    Below A₀ base outer h₀ → Fr h₀ L s.heap m → (hd.heap_39 w.params).In h₀ → Top hd.view_39 (looseW hd.view_39 [Str.ofString "Effector"]) mean mg mb h₀ → cs.kind = .function → pre s.heap →
    (∀ v h' tk, (∀ b o, s.heap.get? b = some o → h'.get? b = some o) → P v h' → Q v { s with heap := h', toks := tk }) →
    wpAny (model PySem.Challenge.rw_je0036_01.row.prog w) (ktrTop dp un (some []) cn cs L a ccd cl outer) (call (.ref f) vs) Q E s

theorem Fr.grow {h₀ h h' : Heap} {L : Addr} {m : Str → Option Value} (F : Fr h₀ L h m) (k : ∀ b o, h.get? b = some o → h'.get? b = some o) : Fr h₀ L h' m := F.keeps k

theorem spec_of {dp un : Nat} {w : World} {f : Addr} {vs : List Value} {pre : Heap → Prop} {P : Value → Heap → Prop}
    {name qual : Str} {params : Arguments} {body : List Stmt} {scope : Scope} {dV kV doc pm cdv ct oc : Value} {an od : Option Addr} {osl : Array (Option Value)} {binds : List (Str × Value)}
    (ho : (hd.heap_39 w.params).lookup f = some ⟨oc, od, .func (fnOf name qual params body scope dV kV doc pm an cdv ct), osl⟩) (hcd : codeIn (hd.heap_39 w.params) cdv qual = true)
    (hroom : dp < recursionLimit)
    (hbind : ∀ s, BindsTo s (fnOf name qual params body scope dV kV doc pm an cdv ct) ⟨vs, []⟩ binds) (hloc : ∀ y ∈ binds, scope.names.lookup y.1 = some .local)
    (hco : scope.isCoroutine = false) (hgen : scope.isGenerator = false) (hk : scope.kind = .function) (hcell : ∀ x ∈ scope.names, x.2 ≠ .cell)
    (h : ∀ (mean : ExcName → Option Value) (mg mb : Str → Option Value) (cn : Str) (cs : Scope) (a : Addr) (ccd : Value) (cl : List (Str × Addr)) (outer : List Env) (base : Heap) (L₀ : Addr) (s : Shared) (E : Value → Shared → Prop) (L : Addr) (h₁ : Heap),
      Below (ktrTop dp un (some []) cn cs L₀ a ccd cl outer) base (envX cn cs L₀ a ccd cl :: outer) s.heap → Fr s.heap L h₁ (fun y => binds.reverse.lookup y) → News s.heap L h₁ [] → (hd.heap_39 w.params).In s.heap →
      Top hd.view_39 (looseW hd.view_39 [Str.ofString "Effector"]) mean mg mb s.heap → pre s.heap →
      wpAny (model PySem.Challenge.rw_je0036_01.row.prog w) ((ktrTop dp un (some []) cn cs L₀ a ccd cl outer).deeper (envOf qual scope L f cdv)) (execs body (envOf qual scope L f cdv))
        (fun fl s' => Done s P (match fl with | .ret v => v | _ => .none) s')
        (fun e s' => wpAny (model PySem.Challenge.rw_je0036_01.row.prog w) ((ktrTop dp un (some []) cn cs L₀ a ccd cl outer).deeper (envOf qual scope L f cdv)) (leaving (envOf qual scope L f cdv) e) (fun _ s'' => E e s'') (fun e' s'' => E e' s'') s')
        { s with heap := h₁, toks := s.toks + binds.length }) : Spec dp un w f vs pre P := by
  intro mean mg mb cn cs a ccd cl outer A₀ base h₀ L m s Q E B F X T hcs hp hret
  refine wpAny_call ?_
  obtain ⟨FG, BG, st, lv⟩ := groundX (R := fun r s' => match r with | .ok (.ret v) => Q v s' | .ok _ => False | .error e => E e s') (A := ktrTop dp un (some []) cn cs L a ccd cl outer) (env := envX cn cs L a ccd cl) B F (News.nil (L := L)) rfl rfl hcs
  have X' := X.keeps F.keep
  have T' := T.keeps F.keep
  refine codeAny_call_def (fd := fnOf name qual params body scope dV kV doc pm an cdv ct) (body := body) (binds := binds) hroom (X' _ _ ho) rfl T'.nolimit (codeRec_of X' hcd) rfl (hbind _) hcell hloc (fun h₁ hns hk₁ => ?_) hco hgen hk
  refine wpAny_mono (h mean mg mb cn cs a ccd cl outer base L s E s.heap.objs.size h₁ BG ⟨hns, hk₁, Nat.le_refl _⟩ News.nil X' T' hp) (fun fl s' hd => ?_) fun _ _ y => y
  obtain ⟨h', tk, rfl, hk', hP⟩ := hd
  exact hret _ _ _ hk' hP

/-- all is kept but the slots of the frames of the list -/
def KeptBut (fs : List Addr) (h h' : Heap) : Prop :=
  (∀ b o, h.get? b = some o → b ∉ fs → h'.get? b = some o) ∧ ∀ b o, h.get? b = some o → b ∈ fs → ∃ sl, h'.get? b = some { o with slots := sl }
theorem KeptBut.of_turn {fs : List Addr} {g g' h' : Heap} (T : KtsTurn fs g g') (k : ∀ b o, g'.get? b = some o → h'.get? b = some o) : KeptBut fs g h' :=
  ⟨fun b o e n => k _ _ (T.other b o e n), fun b o e m => by obtain ⟨sl, hs⟩ := T.frame b o e m; exact ⟨sl, k _ _ hs⟩⟩
theorem KeptBut.fr {h₀ h h' : Heap} {L : Addr} {m : Str → Option Value} (k : KeptBut [L] h h') (F : Fr h₀ L h m) : Fr h₀ L h' m := by
  obtain ⟨oL, es, ep, hL, hd, r⟩ := F.ns
  obtain ⟨sl, hs⟩ := k.2 L oL hL (List.mem_singleton.mpr rfl)
  refine ⟨⟨_, es, ep, hs, hd, r⟩, fun b o e => k.1 b o (F.keep b o e) fun q => ?_, F.above⟩
  rw [List.mem_singleton.mp q, kts_self F] at e
  cases e
theorem KeptBut.news {h₀ h h' : Heap} {L : Addr} {news : List (Addr × Obj)} (k : KeptBut [L] h h') (N : News h₀ L h news) : News h₀ L h' news :=
  fun p hp => ⟨k.1 _ _ (N p hp).1 fun q => (N p hp).2.1 (List.mem_singleton.mp q), (N p hp).2⟩

def DoneR (L : Addr) (s₀ : Shared) (P : Value → Heap → Prop) (v : Value) (s' : Shared) : Prop :=
  ∃ h' tk, s' = { s₀ with heap := h', toks := tk } ∧ KeptBut [L] s₀.heap h' ∧ P v h'
theorem DoneR.introT {s₀ : Shared} {P : Value → Heap → Prop} {v : Value} {g' : Heap} {L L' : Addr} {m' : Str → Option Value} {h' : Heap} {tk : Nat}
    (F : Fr g' L' h' m') (T : KtsTurn [L] s₀.heap g') (p : P v h') : DoneR L s₀ P v { s₀ with heap := h', toks := tk } :=
  ⟨h', tk, rfl, KeptBut.of_turn T F.keep, p⟩

/-- what a call of f upon vs does, from the law's own frame; an exception may fly within it -/
def SpecR (dp un : Nat) (w : World) (f : Addr) (vs : List Value) (P : Value → Heap → Prop) : Prop :=
  ∀ (mean : ExcName → Option Value) (mg mb : Str → Option Value) (cn : Str) (cs : Scope) (a : Addr) (ccd : Value) (A₀ : Around) (base h₀ : Heap) (L : Addr) (m : Str → Option Value) (s : Shared) (Q E : Value → Shared → Prop),
    Below A₀ base [] h₀ → Fr h₀ L s.heap m → (hd.heap_39 w.params).In base → Top hd.view_39 (looseW hd.view_39 [Str.ofString "Effector"]) mean mg mb base → cs.kind = .function →
    (∀ v h' tk, KeptBut [L] s.heap h' → P v h' → Q v { s with heap := h', toks := tk }) →
    wpAny (model PySem.Challenge.rw_je0036_01.row.prog w) (ktrTop dp un (some []) cn cs L a ccd [] []) (call (.ref f) vs) Q E s

theorem specR_of {dp un : Nat} {w : World} {f : Addr} {vs : List Value} {P : Value → Heap → Prop}
    {name qual : Str} {params : Arguments} {body : List Stmt} {scope : Scope} {dV kV doc pm cdv ct oc : Value} {an od : Option Addr} {osl : Array (Option Value)} {binds : List (Str × Value)}
    (ho : (hd.heap_39 w.params).lookup f = some ⟨oc, od, .func (fnOf name qual params body scope dV kV doc pm an cdv ct), osl⟩) (hcd : codeIn (hd.heap_39 w.params) cdv qual = true)
    (hroom : dp < recursionLimit)
    (hbind : ∀ s, BindsTo s (fnOf name qual params body scope dV kV doc pm an cdv ct) ⟨vs, []⟩ binds) (hloc : ∀ y ∈ binds, scope.names.lookup y.1 = some .local)
    (hco : scope.isCoroutine = false) (hgen : scope.isGenerator = false) (hk : scope.kind = .function) (hcell : ∀ x ∈ scope.names, x.2 ≠ .cell)
    (h : ∀ (mean : ExcName → Option Value) (mg mb : Str → Option Value) (cn : Str) (cs : Scope) (a : Addr) (ccd : Value) (base : Heap) (L₀ : Addr) (s : Shared) (E : Value → Shared → Prop) (L : Addr) (h₁ : Heap),
      (hd.heap_39 w.params).In base → Top hd.view_39 (looseW hd.view_39 [Str.ofString "Effector"]) mean mg mb base →
      Below (ktrTop dp un (some []) cn cs L₀ a ccd [] []) base [envOf cn cs L₀ a ccd] s.heap → KtsDicts ([envOf cn cs L₀ a ccd].filterMap (·.frame)) s.heap → Fr s.heap L h₁ (fun y => binds.reverse.lookup y) → News s.heap L h₁ [] → (hd.heap_39 w.params).In s.heap →
      Top hd.view_39 (looseW hd.view_39 [Str.ofString "Effector"]) mean mg mb s.heap →
      wpAny (model PySem.Challenge.rw_je0036_01.row.prog w) ((ktrTop dp un (some []) cn cs L₀ a ccd [] []).deeper (envOf qual scope L f cdv)) (execs body (envOf qual scope L f cdv))
        (fun fl s' => DoneR L₀ s P (match fl with | .ret v => v | _ => .none) s')
        (fun e s' => wpAny (model PySem.Challenge.rw_je0036_01.row.prog w) ((ktrTop dp un (some []) cn cs L₀ a ccd [] []).deeper (envOf qual scope L f cdv)) (leaving (envOf qual scope L f cdv) e) (fun _ s'' => E e s'') (fun e' s'' => E e' s'') s')
        { s with heap := h₁, toks := s.toks + binds.length }) : SpecR dp un w f vs P := by
  intro mean mg mb cn cs a ccd A₀ base h₀ L m s Q E B F XB TB hcs hret
  refine wpAny_call ?_
  have X' : (hd.heap_39 w.params).In s.heap := (XB.keeps B.stays).keeps F.keep
  have T' := (TB.keeps B.stays).keeps F.keep
  obtain ⟨oL, es, ep, hLg, hLd, hN, hNs, st, B₂⟩ := kts_enter (A := ktrTop dp un (some []) cn cs L a ccd [] []) B F (News.nil (L := L)) rfl hcs
  refine codeAny_call_def (fd := fnOf name qual params body scope dV kV doc pm an cdv ct) (body := body) (binds := binds) hroom (X' _ _ ho) rfl T'.nolimit (codeRec_of X' hcd) rfl (hbind _) hcell hloc (fun h₁ hns hk₁ => ?_) hco hgen hk
  refine wpAny_mono (h mean mg mb cn cs a ccd base L s E s.heap.objs.size h₁ XB TB B₂ (fun b hb => ?_) ⟨hns, hk₁, Nat.le_refl _⟩ News.nil X' T') (fun fl s' hd => ?_) fun _ _ y => y
  · rcases kts_mem hb with rfl | z
    · exact ⟨oL, es, ep, hLg, hLd⟩
    · simp at z
  · obtain ⟨h', tk, rfl, hk', hP⟩ := hd
    exact hret _ _ _ hk' hP
end
section
open PySem PySem.W PySem.Calls PyProof.Rows
theorem specC_of {dp un : Nat} {w : World} {f : Addr} {vs : List Value} {pre : Heap → Prop} {P : Value → Heap → Prop}
    {name qual : Str} {params : Arguments} {body : List Stmt} {scope : Scope} {dV kV doc pm cdv ct oc : Value} {an od : Option Addr} {osl : Array (Option Value)} {binds : List (Str × Value)}
    (ho : (hd.heap_39 w.params).lookup f = some ⟨oc, od, .func (fnOf name qual params body scope dV kV doc pm an cdv ct), osl⟩) (hcd : codeIn (hd.heap_39 w.params) cdv qual = true)
    (hroom : dp < recursionLimit)
    (hbind : ∀ s, BindsTo s (fnOf name qual params body scope dV kV doc pm an cdv ct) ⟨vs, []⟩ binds) (hkind : (binds.all fun y => scope.names.lookup y.1 == some .local || scope.names.lookup y.1 == some .cell) = true)
    (hnd : ((cellsFrom 0 scope.names []).map (·.1)).Nodup)
    (hco : scope.isCoroutine = false) (hgen : scope.isGenerator = false) (hk : scope.kind = .function)
    (h : ∀ (mean : ExcName → Option Value) (mg mb : Str → Option Value) (cn : Str) (cs : Scope) (a : Addr) (ccd : Value) (cl : List (Str × Addr)) (outer : List Env) (base : Heap) (L₀ : Addr) (s : Shared) (E : Value → Shared → Prop) (L : Addr) (h₁ : Heap) (tk : Nat) (cells : List (Addr × Obj)),
      Below (ktrTop dp un (some []) cn cs L₀ a ccd cl outer) base (envX cn cs L₀ a ccd cl :: outer) s.heap → Fr s.heap L h₁ (bindL (envOfC qual scope L f cdv).kindOf binds fun _ => none) → News s.heap L h₁ cells →
      CellsAre (bindC (envOfC qual scope L f cdv).kindOf binds fun _ => none) (cellsFrom (L + 1) scope.names []) cells → (hd.heap_39 w.params).In s.heap →
      Top hd.view_39 (looseW hd.view_39 [Str.ofString "Effector"]) mean mg mb s.heap → pre s.heap →
      wpAny (model PySem.Challenge.rw_je0036_01.row.prog w) ((ktrTop dp un (some []) cn cs L₀ a ccd cl outer).deeper (envOfC qual scope L f cdv)) (execs body (envOfC qual scope L f cdv))
        (fun fl s' => Done s P (match fl with | .ret v => v | _ => .none) s')
        (fun e s' => wpAny (model PySem.Challenge.rw_je0036_01.row.prog w) ((ktrTop dp un (some []) cn cs L₀ a ccd cl outer).deeper (envOfC qual scope L f cdv)) (leaving (envOfC qual scope L f cdv) e) (fun _ s'' => E e s'') (fun e' s'' => E e' s'') s')
        { s with heap := h₁, toks := tk }) : Spec dp un w f vs pre P := by
  intro mean mg mb cn cs a ccd cl outer A₀ base h₀ L m s Q E B F X T hcs hp hret
  refine wpAny_call ?_
  obtain ⟨FG, BG, st, lv⟩ := groundX (R := fun r s' => match r with | .ok (.ret v) => Q v s' | .ok _ => False | .error e => E e s') (A := ktrTop dp un (some []) cn cs L a ccd cl outer) (env := envX cn cs L a ccd cl) B F (News.nil (L := L)) rfl rfl hcs
  have X' := X.keeps F.keep
  have T' := T.keeps F.keep
  refine codeAny_call_function (fd := fnOf name qual params body scope dV kV doc pm an cdv ct) hroom (X' _ _ ho) rfl hco hgen rfl (codeRec_of X' hcd) (hbind _ _ _ _ _ ?_)
  refine wpAny_newFunctionEnv_cells hk (kindsX hkind _) fun env' he s' x => ?_
  subst he
  refine ⟨T'.nolimit.keeps x.toInCall.keep, codeAny_func ?_⟩
  obtain ⟨h₁, tk, rfl, _⟩ := x.done
  have hk₁ := x.toInCall.keep
  obtain ⟨cells, NC, Y⟩ := Cl.news (h₀ := s.heap) (Nat.le_refl _) fun n c hm => ⟨x.cell n c (lookup_of_mem_nodup (cellsFrom_names scope.names 0 (s.heap.objs.size + 1) [] [] rfl ▸ hnd) hm), x.above n c hm⟩
  refine wpAny_mono (h mean mg mb cn cs a ccd cl outer base L s E s.heap.objs.size h₁ tk cells BG ⟨x.toInCall.ns, hk₁, Nat.le_refl _⟩ NC Y X' T' hp) (fun fl s' hd => ?_) fun _ _ y => y
  obtain ⟨h', tk, rfl, hk', hP⟩ := hd
  exact hret _ _ _ hk' hP
end
section
open PySem PySem.W PySem.Calls PyProof.Rows
open PyProof
theorem neStr {x : Str} {y : String} (h : x.length ≠ (Str.ofString y).length) : (x == Str.ofString y) = false := by
  cases e : x == Str.ofString y with
  | false => rfl
  | true => exact absurd (congrArg Str.length (eq_of_beq e)) h
theorem cut_lo {x : Str} {q : Int} {n : Nat} (hn : x.length = n) (hp : 0 < n) : (Txt.slice x none (some (q.fmod ↑n))).length = (q.fmod ↑n).toNat := by
  have h0 := Int.fmod_nonneg_of_pos q (b := (n : Int)) (by omega)
  have h1 := Int.fmod_lt_of_pos q (b := (n : Int)) (by omega)
  have := (fact_slice_ns x (q.fmod ↑n)).1 h0 (by rw [hn]; omega)
  omega
theorem cut_hi {x : Str} {k : Int} {n : Nat} (hn : x.length = n) (h0 : 0 ≤ k) (h1 : k ≤ n) : (Txt.slice x (some k) none).length = n - k.toNat := by
  have := (fact_slice_sn x k).1 h0 (by rw [hn]; omega)
  rw [hn] at this
  omega
/-- the five texts that get_effector knows -/
def five : List String := ["some(where (p_eft == allow))", "!some(where (p_eft == deny))", "some(where (p_eft == allow)) && !some(where (p_eft == deny))", "priority(p_eft) || deny", "subjectPriority(p_eft) || deny"]
def Unk (x : Str) : Prop := ∀ y ∈ five, (x == Str.ofString y) = false
/-- the length of a known text -/
def Txt5 (x : Str) : Prop := ∀ y ∈ five, x.length - 1 ≠ (Str.ofString y).length ∧ x.length + 1 ≠ (Str.ofString y).length
theorem txt5 : ∀ y ∈ five, 0 < (Str.ofString y).length ∧ (Str.ofString y).length ≤ 60 ∧ ∀ z ∈ five, (Str.ofString y).length - 1 ≠ (Str.ofString z).length ∧ (Str.ofString y).length + 1 ≠ (Str.ofString z).length := by decide +kernel
theorem near1 {x : Str} {q : Int} (h : Txt5 x) (hp : 0 < x.length) :
    Unk (Txt.slice x none (some (q.fmod ↑x.length)) ++ Txt.slice x (some (q.fmod ↑x.length + 1)) none) := by
  intro y hy
  have h := (h y hy).1
  have h0 := Int.fmod_nonneg_of_pos q (b := (x.length : Int)) (by omega)
  have h1 := Int.fmod_lt_of_pos q (b := (x.length : Int)) (by omega)
  refine neStr ?_
  rw [Str.length_append, cut_lo rfl hp, cut_hi rfl (by omega) (by omega)]
  omega
theorem near2 {x z : Str} {q : Int} (h : Txt5 x) (hp : 0 < x.length) (hz : z.length = 1) :
    Unk (Txt.slice x none (some (q.fmod ↑x.length)) ++ z ++ Txt.slice x (some (q.fmod ↑x.length)) none) := by
  intro y hy
  have h := (h y hy).2
  have h0 := Int.fmod_nonneg_of_pos q (b := (x.length : Int)) (by omega)
  have h1 := Int.fmod_lt_of_pos q (b := (x.length : Int)) (by omega)
  refine neStr ?_
  rw [Str.length_append, Str.length_append, cut_lo rfl hp, cut_hi rfl (by omega) (by omega), hz]
  omega
theorem near3 {x z : Str} (h : Txt5 x) (hz : z.length = 1) : Unk (x ++ z) := by
  intro y hy
  refine neStr ?_
  rw [Str.length_append, hz]
  exact (h y hy).2
theorem near4 {x : Str} (h : ∀ y ∈ five, (x == Str.ofString y) = false) : Unk x := h
theorem pick_text {prog : Program} {w : World} {A : Around} {E : Value → Shared → Prop} {s : Shared} {value slice : Expr} {l : Addr} {vs : List Value} {k : Int} {u : Tok} {Q : Value → Shared → Prop} (hl : s.heap.IsList l vs.toArray) (hi : StrsAre vs (five.map Str.ofString))
    (h : ∀ x t, Txt5 x → 0 < x.length → x.length ≤ 60 → Q (.str x t) s)
    (hs : subscripted slice false (.ref l) (.int (k.fmod 5) u) = operate [.ref l, .int (k.fmod 5) u] (getItem (.ref l) (.int (k.fmod 5) u)) := by with_unfolding_all rfl) :
    wpAny (model prog w) A (subscriptTail value slice (.ref l) (.int (k.fmod 5) u)) Q E s := by
  have h0 := Int.fmod_nonneg_of_pos k (b := 5) (by decide)
  have h1 := Int.fmod_lt_of_pos k (b := 5) (by decide)
  have hlen : (five.map Str.ofString).length = 5 := rfl
  have hlt : (k.fmod 5).toNat < (five.map Str.ofString).length := by omega
  refine item_strsR hl hi h0 (by omega) (by omega) (fun t => ?_) hs
  obtain ⟨y, hy, e⟩ : ∃ y ∈ five, (five.map Str.ofString).getD (k.fmod 5).toNat Str.empty = Str.ofString y := by
    rw [List.getD_eq_getElem?_getD, List.getElem?_eq_getElem hlt, List.getElem_map]
    exact ⟨_, List.getElem_mem _, rfl⟩
  rw [e]
  have q := txt5 y hy
  exact h _ _ q.2.2 q.1 q.2.1
end
section
open PySem PySem.W PySem.Calls PyProof.Rows
open PySem.F
set_option maxRecDepth 100000

theorem entry_set_iter : entryFor table "set.__iter__" = some Builtin.«frozenset.__iter__» :=
  entryFor_alias (id' := "frozenset.__iter__") (by kernel_rfl) rfl (by decide +kernel) (by kernel_rfl)
theorem owner_set_iterator : Manifest.owners.lookup (String.ofList ['r', 'o', 't', 'a', 'r', 'e', 't', 'i', '_', 't', 'e', 's'].reverse) = some Manifest.sig_set_iterator := by kernel_rfl
theorem slot_set_iterator_next : Slot "set_iterator" "__next__" "set_iterator.__next__" :=
  .of (owner := "set_iterator") (n := "__next__") (by rw [typeLookup_type, builtinLookup_eq_fast]; kernel_rfl) (by decide +kernel) (by decide +kernel) (by decide +kernel)
    (by first | exact .inl (by decide +kernel) | exact .inr (by decide +kernel)) (by rw [isSubtype_type]; kernel_rfl)
theorem entry_set_iterator_next : entryFor table "set_iterator.__next__" = some Builtin.«set_iterator.__next__» := entryFor_of_tree (by kernel_rfl)
theorem args_set_iterator_next_1 (a : Value) : argsOk "set_iterator.__next__" ⟨[a], []⟩ := by
  unfold argsOk; rw [signature?_of (id := "set_iterator.__next__") (n := ['_', '_', 't', 'x', 'e', 'n', '_', '_']) (o := ['r', 'o', 't', 'a', 'r', 'e', 't', 'i', '_', 't', 'e', 's']) (by kernel_rfl) owner_set_iterator]; kernel_rfl
theorem slot_set_iterator_iter : Slot "set_iterator" "__iter__" "set_iterator.__iter__" :=
  .of (owner := "set_iterator") (n := "__iter__") (by rw [typeLookup_type, builtinLookup_eq_fast]; kernel_rfl) (by decide +kernel) (by decide +kernel) (by decide +kernel)
    (by first | exact .inl (by decide +kernel) | exact .inr (by decide +kernel)) (by rw [isSubtype_type]; kernel_rfl)
theorem entry_set_iterator_iter : entryFor table "set_iterator.__iter__" = some Builtin.«dict_keyiterator.__iter__» :=
  entryFor_alias (id' := "dict_keyiterator.__iter__") (by kernel_rfl) (by first | rfl | decide +kernel | (unfold String.splitOn; simp +decide [String.splitOnAux])) (by decide +kernel) (by kernel_rfl)
theorem args_set_iterator_iter_1 (a : Value) : argsOk "set_iterator.__iter__" ⟨[a], []⟩ := by
  unfold argsOk; rw [signature?_of (id := "set_iterator.__iter__") (n := ['_', '_', 'r', 'e', 't', 'i', '_', '_']) (o := ['r', 'o', 't', 'a', 'r', 'e', 't', 'i', '_', 't', 'e', 's']) (by kernel_rfl) owner_set_iterator]; kernel_rfl

/-- a set's elements: the int and its token -/
abbrev Its := List (Nat × Tok)
abbrev esOf (it : Its) : Array (Int × Value) := (it.map fun p => ((p.1 : Int), Value.int p.1 p.2)).toArray
abbrev setT (led : Bool) (it : Its) : SetTable := { mask := 7, place := (it.map (·.1)).toArray, dummies := #[], finger := 0, led := led, moves := 0, plain := true }
abbrev setO (led : Bool) (ep : Nat) (it : Its) : Obj := { cls := .type "set", dict := none, data := .set (esOf it) ep (setT led it) }
/-- rising, and of 0, 1, 2 alone -/
def Keys3 (it : Its) : Prop := it.map (·.1) ∈ ([[], [0], [1], [2], [0, 1], [0, 2], [1, 2], [0, 1, 2]] : List (List Nat))
/-- the world's own way: a text's order, or the table's -/
def byText (w : World) : Bool := w.params.followText "set-order"

theorem map0 {it : Its} (h : it.map (·.1) = []) : it = [] := List.map_eq_nil_iff.mp h
theorem mapC {it : Its} {k : Nat} {ks : List Nat} (h : it.map (·.1) = k :: ks) : ∃ a r, it = (k, a) :: r ∧ r.map (·.1) = ks := by
  obtain ⟨p, r, e, h1, h2⟩ := List.map_eq_cons_iff.mp h
  obtain ⟨p1, p2⟩ := p
  subst h1
  exact ⟨p2, r, e, h2⟩
theorem map1 {it : Its} {k : Nat} (h : it.map (·.1) = [k]) : ∃ a, it = [(k, a)] := by
  obtain ⟨a, r, e, h⟩ := mapC h
  exact ⟨a, map0 h ▸ e⟩
theorem map2 {it : Its} {k j : Nat} (h : it.map (·.1) = [k, j]) : ∃ a b, it = [(k, a), (j, b)] := by
  obtain ⟨a, r, e, h⟩ := mapC h
  obtain ⟨b, e'⟩ := map1 h
  exact ⟨a, b, e' ▸ e⟩
theorem map3 {it : Its} {k j i : Nat} (h : it.map (·.1) = [k, j, i]) : ∃ a b c, it = [(k, a), (j, b), (i, c)] := by
  obtain ⟨a, r, e, h⟩ := mapC h
  obtain ⟨b, c, e'⟩ := map2 h
  exact ⟨a, b, c, e' ▸ e⟩
theorem keys3_cases {it : Its} (h : Keys3 it) : it = [] ∨ (∃ a, it = [(0, a)]) ∨ (∃ a, it = [(1, a)]) ∨ (∃ a, it = [(2, a)]) ∨ (∃ a b, it = [(0, a), (1, b)]) ∨ (∃ a b, it = [(0, a), (2, b)]) ∨ (∃ a b, it = [(1, a), (2, b)]) ∨ ∃ a b c, it = [(0, a), (1, b), (2, c)] := by
  have key : ∀ {ks : List Nat} {kss : List (List Nat)} {P Q : Prop}, (it.map (·.1) = ks → P) → (it.map (·.1) ∈ kss → Q) → it.map (·.1) ∈ ks :: kss → P ∨ Q := fun f g h => (List.mem_cons.mp h).elim (fun e => .inl (f e)) fun m => .inr (g m)
  exact key map0 (key map1 (key map1 (key map1 (key map2 (key map2 (key map2 fun m => map3 (List.mem_singleton.mp m))))))) h

theorem setO_of {prog : Program} {w : World} {led : Bool} {ep : Nat} {it : Its} (h : Keys3 it) : (setO led ep it).SetObjOf (intKind prog w) (fun k => it.any fun p => decide ((p.1 : Int) = k)) it.length := by
  have h0 : (intKind prog w).hash 0 = 0 := by kernel_rfl
  have h1 : (intKind prog w).hash 1 = 1 := by kernel_rfl
  have h2 : (intKind prog w).hash 2 = 2 := by kernel_rfl
  refine ⟨⟨rfl, rfl, rfl⟩, _, _, _, rfl, ?_, ?_, by simp, ?_⟩
  · intro e he
    simp only [List.mem_map] at he
    obtain ⟨p, hp, rfl⟩ := he
    refine ⟨⟨(p.1 : Int), intKind_is _ _ _ _, ?_⟩, rfl⟩
    rcases keys3_cases h with rfl | ⟨a, rfl⟩ | ⟨a, rfl⟩ | ⟨a, rfl⟩ | ⟨a, b, rfl⟩ | ⟨a, b, rfl⟩ | ⟨a, b, rfl⟩ | ⟨a, b, c, rfl⟩ <;> simp at hp
    all_goals first | (subst hp; first | exact h0.symm | exact h1.symm | exact h2.symm) | (rcases hp with rfl | rfl <;> first | exact h0.symm | exact h1.symm | exact h2.symm) | (rcases hp with rfl | rfl | rfl <;> first | exact h0.symm | exact h1.symm | exact h2.symm)
  · intro k
    simp only [List.any_eq_true, decide_eq_true_eq, List.mem_map]
    constructor
    · rintro ⟨p, hp, e⟩
      exact ⟨_, ⟨p, hp, rfl⟩, by rw [← e]; exact intKind_is _ _ _ _⟩
    · rintro ⟨e, ⟨p, hp, rfl⟩, hk⟩
      exact ⟨p, hp, (intKind prog w).inj _ _ _ (intKind_is _ _ _ _) hk⟩
  · rcases keys3_cases h with rfl | ⟨a, rfl⟩ | ⟨a, rfl⟩ | ⟨a, rfl⟩ | ⟨a, b, rfl⟩ | ⟨a, b, rfl⟩ | ⟨a, b, rfl⟩ | ⟨a, b, c, rfl⟩ <;> rfl
end
section
open PySem PySem.W PySem.Calls PyProof.Rows
set_option maxRecDepth 100000
section
variable {prog : Program} {w : World} {A : Around} {E : Value → Shared → Prop} {s : Shared}

theorem code_set_led {Q₁ : Value → Shared → Prop}
    (h : Q₁ (.ref s.heap.objs.size) { s with heap := s.heap.push (setO (!byText w) 0 []) }) :
    codeAny (model prog w) A (.call (.builtin "set.__new__") ⟨[.type "set"], []⟩) (wants Q₁ E) s := by
  refine codeAny_of_tree ?_
  show wpAny _ A.in1 (do checkBuiltinCall "set.__new__" ⟨[.type "set"], []⟩; again (.builtin "set.__new__" ⟨[.type "set"], []⟩)) _ _ s
  refine wpAny_bind (wpAny_of_eq F.newCall_set_0 (wpAny_pure ⟨plainId_quiet F.plain_set_new _, codeAny_builtin F.entry_set_new ?_⟩))
  rw [Around.under_plainId F.plain_set_new _]
  unfold Builtin.«set.__new__» Builtin.Frozenset.newClass
  have hsub := sub_set_self
  obtain ⟨hp, g, d, tk, os⟩ := s
  dsimp only
  wp_walk
  refine wpAny_askSetting (wpAny_pure ?_)
  dsimp only
  simp only [newObj]
  refine wpAny_bind (wpAny_alloc (wpAny_pure ?_))
  exact wpAny_pure h

set_option maxHeartbeats 1000000 in
theorem call_set_led {Q : Value → Shared → Prop}
    (h : Q (.ref s.heap.objs.size) { s with heap := s.heap.push (setO (!byText w) 0 []) }) :
    wpAny (model prog w) A (call (.type "set") []) Q E s := by
  obtain ⟨c, tl, hmro⟩ := F.called_set.mro
  have hmade := F.called_set.made
  have hsub := F.called_set.sub
  refine wpAny_call (codeAny_of_tree ?_)
  show wpAny _ _ (callAny (.type "set") _) _ _ _
  refine wpAny_pure ⟨Code.quiet_builtin _ (by decide +kernel), codeAny_builtin F.entry_type_call ?_⟩
  rw [Around.under_plain (weight_type_call_type "set" [] []) rfl]
  have h1 := F.called_set.notType
  have h2 := F.called_set.canCreate
  have hct := F.typeCall_set_0
  repeat (any_goals (first | assumption | wp_step))
  refine codeAny_mono (code_set_led (E := E) (Q₁ := fun obj s₁ => obj = .ref s.heap.objs.size ∧ s₁ = { s with heap := s.heap.push (setO (!byText w) 0 []) }) ⟨rfl, rfl⟩) fun r s₁ hr => ?_
  cases r with
  | error e => exact hr
  | ok fl =>
    cases fl with
    | ret obj =>
      obtain ⟨rfl, rfl⟩ := hr
      have hS : (s.heap.push (setO (!byText w) 0 [])).get? s.heap.objs.size = some (setO (!byText w) 0 []) := Heap.get?_push_size _ rfl
      have hT : Shared.TypeIs { s with heap := s.heap.push (setO (!byText w) 0 []) } (.ref s.heap.objs.size) "set" := ⟨_, hS, rfl⟩
      have hli := F.called_set.init.lookup
      have hbi := F.called_set.init.bind (.ref s.heap.objs.size)
      repeat (any_goals (first | assumption | wp_step))
      refine codeAny_mono (codeAny_call_builtin (R := wants (fun r s₂ => r = .none ∧ Q (.ref s.heap.objs.size) s₂) E) F.called_set.init.plain F.entry_set_init (check_set_init hT ?_)) fun r₂ s₂ hr₂ => ?_
      · unfold Builtin.«set.__init__» noKeywords
        wp_walk
        exact ⟨rfl, h⟩
      · cases r₂ with
        | error e => exact hr₂
        | ok fl₂ =>
          cases fl₂ with
          | ret r =>
            obtain ⟨rfl, hq⟩ := hr₂
            repeat (any_goals (first | assumption | wp_step))
          | _ => exact hr₂.elim
    | _ => exact hr.elim

/-- the items with k put in -/
def put3 (it : Its) (k : Nat) (t : Tok) : Its :=
  if it.any (·.1 == k) then it else (it.filter (·.1 < k)) ++ (k, t) :: it.filter (fun p => !(decide (p.1 < k)))
def putK (ks : List Nat) (k : Nat) : List Nat := if ks.any (· == k) then ks else ks.filter (· < k) ++ k :: ks.filter (fun j => !(decide (j < k)))
theorem putK_all : ∀ ks ∈ ([[], [0], [1], [2], [0, 1], [0, 2], [1, 2], [0, 1, 2]] : List (List Nat)), ∀ k ∈ [0, 1, 2], putK ks k ∈ ([[], [0], [1], [2], [0, 1], [0, 2], [1, 2], [0, 1, 2]] : List (List Nat)) := by decide +kernel
theorem put3_map {it : Its} {k : Nat} {t : Tok} : (put3 it k t).map (·.1) = putK (it.map (·.1)) k := by
  have e : (it.map (·.1)).any (· == k) = it.any (·.1 == k) := List.any_map
  unfold put3 putK
  rw [e]
  split
  · rfl
  · rw [List.map_append, List.map_cons, List.filter_map, List.filter_map]; rfl
theorem put3_keys {it : Its} {k : Nat} {t : Tok} (h : Keys3 it) (hk : k < 3) : Keys3 (put3 it k t) := by
  unfold Keys3
  rw [put3_map]
  exact putK_all _ h _ (by match k, hk with | 0, _ => exact .head _ | 1, _ => exact .tail _ (.head _) | 2, _ => exact .tail _ (.tail _ (.head _)))
theorem put3_mem {it : Its} {k : Nat} {t : Tok} (_h : Keys3 it) (_hk : k < 3) (j : Nat) : (put3 it k t).any (fun p => decide (p.1 = j)) = (it.any (fun p => decide (p.1 = j)) || decide (j = k)) := by
  unfold put3
  by_cases hq : it.any (·.1 == k) = true
  · rw [if_pos hq]
    by_cases hj : j = k
    · subst hj
      obtain ⟨p, hp, e⟩ := List.any_eq_true.mp hq
      have : it.any (fun p => decide (p.1 = j)) = true := List.any_eq_true.mpr ⟨p, hp, by simpa using e⟩
      rw [this]; rfl
    · simp [hj]
  · rw [if_neg hq, Bool.eq_iff_iff]
    simp only [List.any_eq_true, List.mem_append, List.mem_cons, List.mem_filter, Bool.or_eq_true, decide_eq_true_eq, Bool.not_eq_true', decide_eq_false_iff_not]
    constructor
    · rintro ⟨p, ⟨h1, _⟩ | rfl | ⟨h1, _⟩, e⟩
      · exact .inl ⟨p, h1, e⟩
      · exact .inr e.symm
      · exact .inl ⟨p, h1, e⟩
    · rintro (⟨p, h1, e⟩ | e)
      · by_cases h2 : p.1 < k
        · exact ⟨p, .inl ⟨h1, h2⟩, e⟩
        · exact ⟨p, .inr (.inr ⟨h1, h2⟩), e⟩
      · exact ⟨(k, t), .inr (.inl rfl), e.symm⟩
theorem lay3 {it : Its} {k : Nat} {t : Tok} {led : Bool} (h : Keys3 it) (hk : k < 3) (hn : it.any (·.1 == k) = false) :
    layNew (setT led it) (esOf it) (hashInt k) (.int k t) = (esOf (put3 it k t), setT led (put3 it k t), false, false) := by
  rcases keys3_cases h with rfl | ⟨a, rfl⟩ | ⟨a, rfl⟩ | ⟨a, rfl⟩ | ⟨a, b, rfl⟩ | ⟨a, b, rfl⟩ | ⟨a, b, rfl⟩ | ⟨a, b, c, rfl⟩ <;>
    (have : k = 0 ∨ k = 1 ∨ k = 2 := by omega) <;> rcases this with rfl | rfl | rfl <;> first | (simp at hn; done) | kernel_rfl

theorem setO_fits {led : Bool} {it : Its} : (setT led it).fits (esOf it).size = true ∨ ¬ Keys3 it := by
  by_cases h : Keys3 it
  · left
    rcases keys3_cases h with rfl | ⟨a, rfl⟩ | ⟨a, rfl⟩ | ⟨a, rfl⟩ | ⟨a, b, rfl⟩ | ⟨a, b, rfl⟩ | ⟨a, b, rfl⟩ | ⟨a, b, c, rfl⟩ <;> rfl
  · exact .inr h
theorem fits3 {led : Bool} {it : Its} (h : Keys3 it) : (setT led it).fits (esOf it).size = true := (setO_fits (led := led)).resolve_right (not_not_intro h)
theorem size3 {it : Its} (h : Keys3 it) : it.length ≤ 3 := by
  rcases keys3_cases h with rfl | ⟨a, rfl⟩ | ⟨a, rfl⟩ | ⟨a, rfl⟩ | ⟨a, b, rfl⟩ | ⟨a, b, rfl⟩ | ⟨a, b, rfl⟩ | ⟨a, b, c, rfl⟩ <;> simp
theorem notFull3 {led : Bool} {it : Its} (h : Keys3 it) : (setT led it).tooFull = false := by
  rcases keys3_cases h with rfl | ⟨a, rfl⟩ | ⟨a, rfl⟩ | ⟨a, rfl⟩ | ⟨a, b, rfl⟩ | ⟨a, b, rfl⟩ | ⟨a, b, rfl⟩ | ⟨a, b, c, rfl⟩ <;> rfl
theorem find3 {it : Its} {k : Nat} : (it.any (·.1 == k) = false → (esOf it).toList.findIdx? (fun e => (intKind prog w).is (k : Int) e.2) = none) ∧
    (it.any (·.1 == k) = true → ∃ j, (esOf it).toList.findIdx? (fun e => (intKind prog w).is (k : Int) e.2) = some j) := by
  have hp : ∀ p : Nat × Tok, (intKind prog w).is (k : Int) (Value.int p.1 p.2) = (p.1 == k) := fun p => by
    show Value.isInt (k : Int) (Value.int p.1 p.2) = _
    rw [Bool.eq_iff_iff]
    simp only [Value.isInt, beq_iff_eq, decide_eq_true_eq]
    omega
  constructor
  · intro h
    rw [List.findIdx?_eq_none_iff]
    intro e he
    simp only [List.mem_map] at he
    obtain ⟨p, hp', rfl⟩ := he
    rw [hp]
    have := List.any_eq_false.mp h p hp'
    simpa using this
  · intro h
    obtain ⟨p, hp', e⟩ := List.any_eq_true.mp h
    cases hr : (esOf it).toList.findIdx? (fun e => (intKind prog w).is (k : Int) e.2) with
    | some j => exact ⟨j, rfl⟩
    | none =>
      have := List.findIdx?_eq_none_iff.mp hr ((p.1 : Int), Value.int p.1 p.2) (by simp only [List.mem_map]; exact ⟨p, hp', rfl⟩)
      rw [hp, e] at this
      cases this

theorem add3 {led : Bool} {ep : Nat} {it : Its} {sa : Addr} {k : Nat} {t : Tok} {Q : Bool → Shared → Prop} (h : Keys3 it) (hk : k < 3) (ho : s.heap.get? sa = some (setO led ep it))
    (hQ : ∀ b h' ep', Heap.SameBut sa s.heap h' → h'.get? sa = some (setO led ep' (put3 it k t)) → Q b { s with heap := h' }) :
    wpAny (model prog w) A (setAddHashed sa (.int k t) (hashInt k)) Q E s := by
  have hel : ElemsOf (intKind prog w) (esOf it).toList := by
    obtain ⟨_, es, _, _, hd, hel, _⟩ := setO_of (prog := prog) (w := w) (led := led) (ep := ep) h
    cases hd; exact hel
  have hf := fits3 (led := led) h
  have hb : (esOf it).size < scanBound := by have := size3 h; unfold scanBound; simp; omega
  unfold setAddHashed setAddHashedIn
  refine wpAny_holding (wpAny_bind (wpAny_setState_of ho rfl hf ?_))
  dsimp only
  rw [byScan_of rfl hb hel]
  simp only [↓reduceIte]
  unfold setAddByScan
  refine wpAny_bind ?_
  refine wpAny_bind (wpAny_rule ?_)
  refine wpAny_bind (wpAny_setScan_of (knd := intKind prog w) (k := (k : Int)) (intKind_is _ _ _ _) ho rfl hf hel ?_)
  cases hn : it.any (·.1 == k) with
  | true =>
    obtain ⟨j, hj⟩ := (find3 (prog := prog) (w := w)).2 hn
    rw [hj]
    dsimp only
    refine wpAny_pure (wpAny_pure ?_)
    have e : put3 it k t = it := by unfold put3; rw [if_pos hn]
    have := hQ false s.heap ep (Heap.SameBut.refl sa s.heap) (by rw [e]; exact ho)
    exact this
  | false =>
    rw [(find3 (prog := prog) (w := w)).1 hn]
    dsimp only
    have h' := put3_keys (t := t) h hk
    have hl := lay3 (t := t) (led := led) h hk hn
    show wpAny _ _ (match layNew (setT led it) (esOf it) (hashInt k) (.int k t) with | (es, t', wasDummy, gave) => _) _ _ _
    rw [hl]
    refine wpAny_bind (wpAny_pure ?_)
    refine wpAny_bind ?_
    show wpAny _ _ (hashByValue 8 (.int k t)) _ _ _
    rw [hashByValue_scannable 8 rfl]
    refine wpAny_pure ?_
    refine wpAny_bind (wpAny_storeSet_of ho rfl ?_ (by have := size3 h'; rw [sizeLine_eq]; simp; omega))
    have hfull := notFull3 (led := led) h'
    show wpAny _ _ (if (!false && (setT led (put3 it k t)).tooFull) = true then _ else _) _ _ _
    rw [hfull]
    refine wpAny_pure (wpAny_pure ?_)
    refine hQ true _ (ep + 1) (Heap.SameBut.update s.heap sa _) ?_
    have hg := Heap.get?_update_self (Obj.putSet (esOf (put3 it k t)) (setT led (put3 it k t))) ho (by rw [putSet_of _ _ rfl]; rfl)
    rw [putSet_of _ _ rfl] at hg
    exact hg

theorem call_add3 {led : Bool} {ep : Nat} {it : Its} {sa : Addr} {k : Nat} {t : Tok} {Q : Value → Shared → Prop} (h : Keys3 it) (hk : k < 3) (ho : s.heap.get? sa = some (setO led ep it))
    (hQ : ∀ h' ep', Heap.SameBut sa s.heap h' → h'.get? sa = some (setO led ep' (put3 it k t)) → Q .none { s with heap := h', toks := s.toks + 1 }) :
    wpAny (model prog w) A (call (.builtin "set.add") [.ref sa, .int k t]) Q E s := by
  have hS : s.heap.SetOf (intKind prog w) sa _ it.length := (setO_of (prog := prog) (w := w) (led := led) (ep := ep) h).setOf ho (by have := size3 h; unfold scanBound; omega)
  refine wpAny_call_entry F.slot_set_add hS.typeIs F.entry_set_add ?_ (F.args_set_add_2 _ _)
  unfold Builtin.«set.add» Builtin.Frozenset.oneOther
  simp only [List.isEmpty_nil, bind_assoc]
  unfold Builtin.Frozenset.addrOf setAdd
  refine wpAny_bind (wpAny_pure ?_)
  try dsimp only
  refine wpAny_bind (wpAny_pure ?_)
  try dsimp only
  refine wpAny_bind ?_
  refine wpAny_holding ?_
  refine wpAny_bind ((intKind prog w).pyHash (k := (k : Int)) (intKind_is _ _ _ _) ?_)
  refine add3 (s := { s with toks := s.toks + 1 }) h hk ho fun b h' ep' hsb hg => ?_
  show wpAny _ _ (ret Value.none) _ _ _
  exact wpAny_pure ⟨_, rfl, hQ h' ep' hsb hg⟩
end
end
section
open PySem PySem.W PySem.Calls PyProof.Rows
set_option maxRecDepth 100000

theorem eraseIdx_perm {α : Type} : ∀ (l : List α) (i : Nat) (h : i < l.length), List.Perm (l[i] :: l.eraseIdx i) l
  | a :: l, 0, _ => by simp
  | a :: l, i + 1, h => by
    have := eraseIdx_perm l i (by simpa using h)
    simp only [List.getElem_cons_succ, List.eraseIdx_cons_succ]
    exact (List.Perm.swap a _ _).trans (this.cons a)
theorem pick_go {α : Type} (f : Nat → Nat) : ∀ (n k : Nat) (l : List α) (out : Array α), l.length = n → List.Perm (pickOrder.go f n k l out).toList (out.toList ++ l)
  | 0, k, l, out, h => by
    have : l = [] := List.length_eq_zero_iff.mp h
    subst this; simp [pickOrder.go]
  | n + 1, k, l, out, h => by
    have hlt : f k % l.length < l.length := Nat.mod_lt _ (by omega)
    unfold pickOrder.go
    rw [List.getElem?_eq_getElem hlt]
    dsimp only
    have ih := pick_go f n (k + 1) (l.eraseIdx (f k % l.length)) (out.push l[f k % l.length]) (by rw [List.length_eraseIdx_of_lt hlt]; omega)
    refine ih.trans ?_
    rw [Array.toList_push, List.append_assoc]
    exact List.Perm.append_left _ (eraseIdx_perm l _ hlt)
theorem pick_perm {α : Type} (f : Nat → Nat) (xs : Array α) : List.Perm (pickOrder f xs).toList xs.toList := by
  unfold pickOrder
  have := pick_go f xs.size 0 xs.toList #[] (by simp)
  simpa using this

/-- the order in which the world shows the set -/
def ordOf (w : World) (sa : Addr) (ep : Nat) (it : Its) : Array (Int × Value) :=
  if byText w then pickOrder (w.params.setOrder sa ep) (esOf it) else esOf it
theorem ord_perm {w : World} {sa : Addr} {ep : Nat} {it : Its} : List.Perm (ordOf w sa ep it).toList (esOf it).toList := by
  unfold ordOf
  split
  · exact pick_perm _ _
  · exact List.Perm.refl _
theorem ord_size {w : World} {sa : Addr} {ep : Nat} {it : Its} : (ordOf w sa ep it).size = it.length := by
  have := (ord_perm (w := w) (sa := sa) (ep := ep) (it := it)).length_eq
  simpa using this
def slotOf (w : World) (it : Its) (i : Nat) : Nat := if byText w then 0 else if i = 0 then 0 else ((it.map (·.1)).getD (i - 1) 0) + 1
abbrev itO (w : World) (sa : Addr) (ep : Nat) (it : Its) (i : Nat) : Obj :=
  { cls := .type "set_iterator", data := .fields #[rawInt (slotOf w it i), rawInt i, .ref sa, rawInt it.length, rawInt ep] }
theorem below3_all : ∀ ks ∈ ([[], [0], [1], [2], [0, 1], [0, 2], [1, 2], [0, 1, 2]] : List (List Nat)), ∀ i ∈ List.range (ks.length + 1),
    SetTable.below ks.toArray (if i = 0 then 0 else (ks.getD (i - 1) 0) + 1) = i := by decide +kernel
theorem below3 {it : Its} (h : Keys3 it) {i : Nat} (hi : i ≤ it.length) : SetTable.below (it.map (·.1)).toArray (if i = 0 then 0 else ((it.map (·.1)).getD (i - 1) 0) + 1) = i :=
  below3_all _ h i (List.mem_range.mpr (by rw [List.length_map]; omega))

section
variable {prog : Program} {w : World} {A : Around} {E : Value → Shared → Prop} {s : Shared}

theorem wpAny_setDrawn3 {sa : Addr} {ep : Nat} {it : Its} {Q : Bool → Shared → Prop} (h : Keys3 it) (ho : s.heap.get? sa = some (setO (!byText w) ep it)) (hQ : Q false s) : wpAny (model prog w) A (setDrawn sa) Q E s := by
  unfold setDrawn setsByText
  refine wpAny_bind (wpAny_setState_of ho rfl (fits3 h) ?_)
  refine wpAny_bind (wpAny_bind (wpAny_askSetting (wpAny_pure ?_)))
  refine wpAny_pure ?_
  have e : (!w.params.followText "set-order" && (!true && decide ((esOf it).size > 1))) = false := by simp
  exact e ▸ hQ

theorem wpAny_setWalk3 {sa : Addr} {ep : Nat} {it : Its} {Q : Array (Int × Value) → Shared → Prop} (h : Keys3 it) (hb : byText w = true) (ho : s.heap.get? sa = some (setO (!byText w) ep it)) (hQ : Q (ordOf w sa ep it) s) : wpAny (model prog w) A (setWalk sa) Q E s := by
  unfold setWalk setsByText
  refine wpAny_bind (wpAny_setState_of ho rfl (fits3 h) ?_)
  refine wpAny_bind (wpAny_bind (wpAny_askSetting (wpAny_pure ?_)))
  have hb' : w.params.followText "set-order" = true := hb
  show wpAny _ _ (if w.params.followText "set-order" = true then _ else _) _ _ _
  rw [if_pos hb']
  refine wpAny_bind (wpAny_askSetting (wpAny_pure ?_))
  unfold ordOf at hQ
  rw [if_pos hb] at hQ
  exact hQ

theorem wpAny_setNext3 {sa : Addr} {ep : Nat} {it : Its} {i : Nat} {Q : Option (Value × Nat) → Shared → Prop} (h : Keys3 it) (hi : i ≤ it.length) (ho : s.heap.get? sa = some (setO (!byText w) ep it))
    (hQ : Q (((ordOf w sa ep it)[i]?).map fun e => (e.2, slotOf w it (i + 1))) s) : wpAny (model prog w) A (setNext sa (slotOf w it i) i ep) Q E s := by
  unfold setNext setsByText
  refine wpAny_bind (wpAny_setState_of ho rfl (fits3 h) ?_)
  refine wpAny_bind (wpAny_bind (wpAny_askSetting (wpAny_pure ?_)))
  show wpAny _ _ (if w.params.followText "set-order" = true then _ else _) _ _ _
  cases hb : byText w with
  | true =>
    have hb' : w.params.followText "set-order" = true := hb
    rw [if_pos hb']
    simp only [bne_self_eq_false, Bool.false_eq_true, if_false]
    refine wpAny_bind (wpAny_setWalk3 h hb ho ?_)
    refine wpAny_pure ?_
    have e1 : slotOf w it i = 0 := by unfold slotOf; rw [if_pos hb]
    have e2 : slotOf w it (i + 1) = 0 := by unfold slotOf; rw [if_pos hb]
    rw [e1]; rw [e2] at hQ; exact hQ
  | false =>
    have hb' : ¬ w.params.followText "set-order" = true := by
      have : w.params.followText "set-order" = false := hb
      rw [this]; exact Bool.false_ne_true
    rw [if_neg hb']
    have e1 : slotOf w it i = if i = 0 then 0 else ((it.map (·.1)).getD (i - 1) 0) + 1 := by unfold slotOf; rw [hb]; rfl
    have e2 : slotOf w it (i + 1) = ((it.map (·.1)).getD i 0) + 1 := by unfold slotOf; rw [hb]; simp
    have e3 : ordOf w sa ep it = esOf it := by unfold ordOf; rw [hb]; rfl
    have hbel := below3 h hi
    rw [e2, e3] at hQ
    rw [e1]
    refine wpAny_bind (m := _) (wpAny_of_eq (a := ()) (by rfl) ?_)
    show wpAny _ _ (pure (match (esOf it)[SetTable.below (it.map (·.1)).toArray (if i = 0 then 0 else ((it.map (·.1)).getD (i - 1) 0) + 1)]?, ((it.map (·.1)).toArray)[SetTable.below (it.map (·.1)).toArray (if i = 0 then 0 else ((it.map (·.1)).getD (i - 1) 0) + 1)]? with | some (_, x), some j => some (x, j + 1) | _, _ => none)) _ _ _
    rw [hbel]
    refine wpAny_pure ?_
    by_cases hlt : i < it.length
    · simpa [hlt] using hQ
    · have hge : it.length ≤ i := Nat.not_lt.mp hlt
      simpa [hge] using hQ

theorem it_next {I sa : Addr} {ep : Nat} {it : Its} {i : Nat} (h : Keys3 it) (hi : i < it.length) (hI : s.heap.get? I = some (itO w sa ep it i)) (ho : s.heap.get? sa = some (setO (!byText w) ep it))
    {Q : Option Value → Shared → Prop} {x : Value} {hx : Int} (he : (ordOf w sa ep it)[i]? = some (hx, x))
    (hQ : ∀ h', h'.get? I = some (itO w sa ep it (i + 1)) → Heap.SameBut I s.heap h' → Q (some x) { s with heap := h' }) :
    wpAny (model prog w) A (pyNext (.ref I)) Q E s := by
  have hT : s.TypeIs (.ref I) "set_iterator" := ⟨_, hI, rfl⟩
  unfold pyNext
  refine wpAny_bind (wpAny_attempt (wpAny_callSpecial?_slot (name := Str.ofString "__next__") hT slot_set_iterator_next
    (wpAny_call_entry slot_set_iterator_next hT entry_set_iterator_next ?_ (args_set_iterator_next_1 _))))
  unfold Builtin.«set_iterator.__next__»
  refine wpAny_bind (m := slotArgs "__next__" 0 _) (wpAny_pure ?_)
  dsimp only
  refine wpAny_bind (wpAny_fieldsOf hI rfl ?_)
  dsimp only [rawInt]
  refine wpAny_bind (wpAny_setEntries_of ho rfl (fits3 h) ?_)
  have hsz : (((esOf it).size : Nat) : Int) = (it.length : Int) := by simp
  rw [if_neg (by rw [hsz]; simp)]
  refine wpAny_bind (wpAny_setNext3 (ep := ep) (i := i) h (Nat.le_of_lt hi) ho ?_)
  rw [he]
  dsimp only [Option.map]
  refine wpAny_bind (wpAny_setField hI rfl (by simp) ?_)
  have h1 := Heap.get?_update_self (Obj.mapFields (·.setIfInBounds 0 (rawInt (slotOf w it (i + 1))))) hI (Obj.isFreed_of_fields (Obj.data_mapFields rfl _))
  refine wpAny_bind (wpAny_setField h1 (Obj.data_mapFields rfl _) (by simp) ?_)
  have h2 := Heap.get?_update_self (Obj.mapFields (·.setIfInBounds 1 (rawInt ((i : Int) + 1)))) h1 (Obj.isFreed_of_fields (Obj.data_mapFields (Obj.data_mapFields rfl _) _))
  refine wpAny_pure ⟨x, rfl, wpAny_pure (hQ _ ?_ ((Heap.SameBut.update ..).trans (Heap.SameBut.update ..)))⟩
  exact h2
theorem it_end {I sa : Addr} {ep : Nat} {it : Its} (hh : A.handled = none) (h : Keys3 it) (hI : s.heap.get? I = some (itO w sa ep it it.length)) (ho : s.heap.get? sa = some (setO (!byText w) ep it))
    {Q : Option Value → Shared → Prop} (hQ : ∀ h', Heap.ExtBut I s.heap h' → Q none { s with heap := h' }) :
    wpAny (model prog w) A (pyNext (.ref I)) Q E s := by
  have hT : s.TypeIs (.ref I) "set_iterator" := ⟨_, hI, rfl⟩
  unfold pyNext
  refine wpAny_bind (wpAny_attempt (wpAny_callSpecial?_slot (name := Str.ofString "__next__") hT slot_set_iterator_next
    (wpAny_call_entry slot_set_iterator_next hT entry_set_iterator_next ?_ (args_set_iterator_next_1 _))))
  unfold Builtin.«set_iterator.__next__»
  refine wpAny_bind (m := slotArgs "__next__" 0 _) (wpAny_pure ?_)
  dsimp only
  refine wpAny_bind (wpAny_fieldsOf hI rfl ?_)
  dsimp only [rawInt]
  refine wpAny_bind (wpAny_setEntries_of ho rfl (fits3 h) ?_)
  have hsz : (((esOf it).size : Nat) : Int) = (it.length : Int) := by simp
  rw [if_neg (by rw [hsz]; simp)]
  refine wpAny_bind (wpAny_setNext3 (ep := ep) (i := it.length) h (Nat.le_refl _) ho ?_)
  have he : (ordOf w sa ep it)[it.length]? = none := by
    rw [Array.getElem?_eq_none_iff, ord_size]; exact Nat.le_refl _
  rw [he]
  dsimp only [Option.map]
  refine wpAny_bind (wpAny_setField hI rfl (by simp) ?_)
  show wpAny _ _ (newExc (.type "StopIteration") [] >>= _) _ _ _
  refine wpAny_bind ?_
  simp only [newExc, newTuple]
  refine wpAny_bind (wpAny_newObj_type ?_ (by size_fits))
  refine wpAny_bind (m := firstArgMember _ _) (wpAny_of_eq (a := Value.none) (by first | rfl | (simp only [firstArgMember]; rfl)) ?_)
  refine wpAny_newObj_type ?_ (by size_fits)
  simp only [raiseNew]
  refine wpAny_bind (wpAny_handled ?_)
  rw [show A.in1.handled = none from hh]
  refine wpAny_bind (wpAny_pure (wpAny_throw ?_))
  refine wpAny_bind (wpAny_isInstance (T := "StopIteration") (b := true) ⟨_, Heap.get?_push_size _ rfl, rfl⟩ isSubtype_stop ?_)
  exact wpAny_pure (hQ _ (((Heap.SameBut.update ..).extBut.push _).push _))

theorem Walks.set3 (hh : A.handled = none) (I sa : Addr) (hne : sa ≠ I) (ep : Nat) (it : Its) (h : Keys3 it) :
    Walks prog w A I [I, sa] [I] it.length (fun i v => ∃ hx, (ordOf w sa ep it)[i]? = some (hx, v)) (fun i g => g.get? I = some (itO w sa ep it i) ∧ g.get? sa = some (setO (!byText w) ep it)) where
  sub := fun b hb => by simp at hb; simp [hb]
  frame := fun _ _ _ st hk => ⟨hk I (by simp) _ st.1, hk sa (by simp) _ st.2⟩
  item := fun i s Q E hi st hQ => by
    have hlt : i < (ordOf w sa ep it).size := by rw [ord_size]; exact hi
    refine it_next h hi st.1 st.2 (x := ((ordOf w sa ep it)[i]).2) (hx := ((ordOf w sa ep it)[i]).1) (by rw [Array.getElem?_eq_getElem hlt]) fun h' hit' hs' => ?_
    exact hQ _ h' s.toks ⟨((ordOf w sa ep it)[i]).1, by rw [Array.getElem?_eq_getElem hlt]⟩ ⟨hit', hs'.extBut sa _ hne st.2⟩ fun b o hb e => hs'.extBut b o (fun h => hb (by simp [h])) e
  done := fun s Q E st hQ => it_end hh h st.1 st.2 fun h' he' => hQ h' s.toks fun b o hb e => he' b o (fun h => hb (by simp [h])) e
  self := fun i s Q E st hQ => by
    have hT : s.TypeIs (.ref I) "set_iterator" := ⟨_, st.1, rfl⟩
    refine wpAny_pyIter_slot hT slot_set_iterator_iter (wpAny_call_entry slot_set_iterator_iter hT entry_set_iterator_iter ?_ (args_set_iterator_iter_1 _))
    show wpAny _ _ (ret (.ref I)) _ _ s
    exact wpAny_pure ⟨_, rfl, "set_iterator", _, hT, slot_set_iterator_next.lookup, hQ⟩

theorem pyIter_set3 {sa : Addr} {ep : Nat} {it : Its} {Q : Value → Shared → Prop} (h : Keys3 it) (ho : s.heap.get? sa = some (setO (!byText w) ep it))
    (hQ : Q (.ref s.heap.objs.size) { s with heap := s.heap.push (itO w sa ep it 0) }) : wpAny (model prog w) A (pyIter (.ref sa)) Q E s := by
  have hT : s.TypeIs (.ref sa) "set" := ⟨_, ho, rfl⟩
  refine wpAny_pyIter_slot hT F.slot_set_iter (wpAny_call_entry F.slot_set_iter hT entry_set_iter ?_ (F.args_set_iter_1 _))
  unfold Builtin.«frozenset.__iter__» Builtin.Frozenset.slot0 Builtin.Frozenset.sizeOf
  refine wpAny_bind (wpAny_bind (m := slotArgs "__iter__" 0 _) (wpAny_pure ?_))
  refine wpAny_pure ?_
  refine wpAny_bind (wpAny_bind (wpAny_setEntries_of ho rfl (fits3 h) (wpAny_pure ?_)))
  refine wpAny_bind (wpAny_setDrawn3 h ho ?_)
  simp only [Bool.false_eq_true, if_false]
  refine wpAny_bind (wpAny_pure ?_)
  refine wpAny_bind (wpAny_setEpoch_of ho rfl (fits3 h) ?_)
  refine wpAny_bind (wpAny_newObj_type (wpAny_pure ⟨_, rfl, "set_iterator", _, ⟨_, Heap.get?_push_size _ rfl, rfl⟩, slot_set_iterator_next.lookup, ?_⟩))
  have e0 : slotOf w it 0 = 0 := by unfold slotOf; split <;> rfl
  have e : itO w sa ep it 0 = { cls := .type "set_iterator", data := .fields #[rawInt 0, rawInt 0, .ref sa, rawInt ((esOf it).size : Nat), rawInt ep] } := by
    show ({ cls := _, data := .fields #[rawInt (slotOf w it 0), _, _, _, _] } : Obj) = _
    rw [e0]; simp
  rw [e] at hQ
  exact hQ
end
end
section
open PySem PySem.W PySem.Calls PyProof.Rows PySem.Spec
open LCg LCt
section
variable {prog : Program} {w : World} {A : Around} {E : Value → Shared → Prop} {s : Shared} {h₀ : Heap} {L : Addr} {m : Str → Option Value} {env : Env}

theorem CompEnd.imp {s₁ s₂ : Shared} {I C D : Addr} {oI oC oD : Obj} {S : List (Addr × Obj) → Prop} {r r' : Value → List (Addr × Obj) → Prop} {y : Value}
    (h : CompEnd h₀ L m s₁ I oI C oC D oD S r y s₂) (k : ∀ y n, r y n → r' y n) : CompEnd h₀ L m s₁ I oI C oC D oD S r' y s₂ := by
  obtain ⟨h', tk, n', e, F, N, o, hs, hr⟩ := h
  exact ⟨h', tk, n', e, F, N, o, hs, k _ _ hr⟩

theorem compRest_inv {elt : Expr} {x : Str} {scope : Scope} {cl : List (Str × Addr)} {S : List (Addr × Obj) → Prop} {P : Nat → Value → Prop} {Fin : List Value → List (Addr × Obj) → Prop} {n : Nat} {news : List (Addr × Obj)}
    (Inv : Nat → List Value → Prop) (h0 : Inv 0 []) (hfin : ∀ ys, Inv n ys → Fin ys news)
    (step : ∀ i ys v I oI C oC D m₂ h tk (E' : Value → Shared → Prop), i < n → Inv i ys → P i v → NsObj oC m₂ → m₂ x = some v → Fr h₀ L h m → News h₀ L h ((I, oI) :: (C, oC) :: (D, lst ys) :: news) → Off3 I C D news → ((@Ne Nat I C) ∧ (@Ne Nat I D) ∧ (@Ne Nat C D)) →
      wpAny (model prog w) A (eval elt (compEnvC scope cl C env)) (CompEnd h₀ L m { s with heap := h, toks := tk } I oI C oC D (lst ys) S (fun y news' => news' = news ∧ Inv (i + 1) (ys ++ [y]))) E' { s with heap := h, toks := tk }) :
    CompRest prog w A h₀ L m env elt x scope cl s S P Fin n 0 [] news := by
  have key : ∀ k i ys, k + i = n → Inv i ys → CompRest prog w A h₀ L m env elt x scope cl s S P Fin k i ys news := by
    intro k
    induction k with
    | zero =>
      intro i ys e hi
      refine CompRest.zero (hfin ys ?_)
      rw [show n = i by omega]; exact hi
    | succ k ih =>
      intro i ys e hi
      refine CompRest.succ fun v I oI C oC D m₂ h tk E' hP hC hx F N off ne => ?_
      refine wpAny_mono (step i ys v I oI C oC D m₂ h tk E' (by omega) hi hP hC hx F N off ne) (fun y s' hq => CompEnd.imp hq fun y n' hr => ?_) fun _ _ e => e
      obtain ⟨rfl, hI⟩ := hr
      exact ih (i + 1) _ (by omega) hI
  exact key n 0 [] (by omega) h0

theorem compRestT_inv {ct elt : Expr} {x : Str} {scope : Scope} {cl : List (Str × Addr)} {S : List (Addr × Obj) → Prop} {P : Nat → Value → Prop} {Fin : List Value → List (Addr × Obj) → Prop} {n : Nat} {news : List (Addr × Obj)}
    (Inv : Nat → List Value → Prop) (h0 : Inv 0 []) (hfin : ∀ ys, Inv n ys → Fin ys news)
    (step : ∀ i ys v I oI C oC D m₂ h tk (E' : Value → Shared → Prop), i < n → Inv i ys → P i v → NsObj oC m₂ → m₂ x = some v → Fr h₀ L h m → News h₀ L h ((I, oI) :: (C, oC) :: (D, lst ys) :: news) → Off3 I C D news → ((@Ne Nat I C) ∧ (@Ne Nat I D) ∧ (@Ne Nat C D)) →
      wpAny (model prog w) A (isTrue ct (compEnvC scope cl C env) (eval ct (compEnvC scope cl C env))) (fun ok s' => if ok = true then
        wpAny (model prog w) A (eval elt (compEnvC scope cl C env)) (CompEnd h₀ L m { s with heap := h, toks := tk } I oI C oC D (lst ys) S (fun y news' => news' = news ∧ Inv (i + 1) (ys ++ [y]))) E' s'
        else CompEnd h₀ L m { s with heap := h, toks := tk } I oI C oC D (lst ys) S (fun _ news' => news' = news ∧ Inv (i + 1) ys) Value.none s') E' { s with heap := h, toks := tk }) :
    CompRestT prog w A h₀ L m env ct elt x scope cl s S P Fin n 0 [] news := by
  have key : ∀ k i ys, k + i = n → Inv i ys → CompRestT prog w A h₀ L m env ct elt x scope cl s S P Fin k i ys news := by
    intro k
    induction k with
    | zero =>
      intro i ys e hi
      refine CompRestT.zero (hfin ys ?_)
      rw [show n = i by omega]; exact hi
    | succ k ih =>
      intro i ys e hi
      refine CompRestT.succ fun v I oI C oC D m₂ h tk E' hP hC hx F N off ne => ?_
      refine wpAny_mono (step i ys v I oI C oC D m₂ h tk E' (by omega) hi hP hC hx F N off ne) (fun ok s' hq => ?_) fun _ _ e => e
      cases ok with
      | true =>
        simp only [if_true] at hq ⊢
        refine wpAny_mono hq (fun y s'' hq => CompEnd.imp hq fun y n' hr => ?_) fun _ _ e => e
        obtain ⟨rfl, hI⟩ := hr
        exact ih (i + 1) _ (by omega) hI
      | false =>
        simp only [Bool.false_eq_true, if_false] at hq ⊢
        refine CompEnd.imp hq fun y n' hr => ?_
        obtain ⟨rfl, hI⟩ := hr
        exact ih (i + 1) _ (by omega) hI
  exact key n 0 [] (by omega) h0

/-- the source of a comprehension: a set of 0, 1, 2 on the ledger -/
def SrcSet (prog : Program) (w : World) (A : Around) (h₀ : Heap) (L : Addr) (m : Str → Option Value) (env : Env) (ct elt : Expr) (x : Str) (scope : Scope) (cl : List (Str × Addr)) (Q : Value → Shared → Prop) (xv : Value) (s₁ : Shared) : Prop :=
  ∃ sa ep it news, xv = .ref sa ∧ A.handled = none ∧ Fr h₀ L s₁.heap m ∧ News h₀ L s₁.heap news ∧ (sa, setO (!byText w) ep it) ∈ news ∧ Keys3 it ∧
    ∀ s₂ : Shared, (∃ h, s₂ = { s₁ with heap := h }) → CompRestT prog w A h₀ L m env ct elt x scope cl s₂ (fun nw => (sa, setO (!byText w) ep it) ∈ nw) (fun i v => ∃ hx, (ordOf w sa ep it)[i]? = some (hx, v)) (FinE h₀ L m s₂ Q) it.length 0 [] news

theorem ListComp_set {ct elt iter : Expr} {x : Str} {px : Pos} {scope : Scope} {cl : List (Str × Addr)} {pos : Pos} {Q : Value → Shared → Prop} (_F₀ : Fr h₀ L s.heap m)
    (hclos : closureFor scope env = pure cl) (hcell : ∀ y ∈ scope.names, y.2 ≠ .cell) (hkind : scope.kind = .function)
    (hnames : ∀ y ∈ scope.names, y.2 = .local → scope.names.lookup y.1 = some .local) (hx : scope.names.lookup x = some .local)
    (h : wpAny (model prog w) A (eval iter env) (SrcSet prog w A h₀ L m env ct elt x scope cl Q) E s)
    (hs : ∀ x, foldedSetIterable iter env x = pure x := by intro _; rfl) :
    wpAny (model prog w) A (eval (.ListComp elt [⟨.Name x px, iter, [ct], 0⟩] scope pos) env) Q E s := by
  rw [eval_ListComp]
  refine wpAny_comprehension_free (use := none) rfl hs hclos hkind hnames (wpAny_mono h (fun xv s₁ h₁ => ?_) fun _ _ e => e)
  obtain ⟨sa, ep, it, news, rfl, hh, F, N, hm, hK, R⟩ := h₁
  have hg : s₁.heap.get? sa = some (setO (!byText w) ep it) := (N _ hm).1
  have hlt : sa < s₁.heap.objs.size := Heap.lt_size hg
  refine pyIter_set3 hK hg ?_
  have up : ∀ b o, s₁.heap.get? b = some o → (s₁.heap.push (itO w sa ep it 0)).get? b = some o := fun b o e => Heap.get?_push_of_some _ e
  refine block_T (S := fun nw => (sa, setO (!byText w) ep it) ∈ nw) (Walks.set3 hh s₁.heap.objs.size sa (Nat.ne_of_lt hlt) ep it hK) (by have := size3 hK; rw [sizeLine_eq]; omega) (fun i h st => ⟨_, st.1⟩) (fun i h h' o nw st e e' _ N' hS => ⟨by rw [e', ← e]; exact st.1, (N' _ hS).1⟩) hcell hkind hx ⟨Heap.get?_push_size _ rfl, up _ _ hg⟩ (fun b hb => ?_)
    (F.keeps up) (N.grown up) (Nat.ne_of_lt F.ns.lt) (next_is_new F) (fun p hp => Nat.ne_of_lt (Heap.lt_size (N p hp).1)) hm (R _ ⟨_, rfl⟩) ?_
  · show b < (s₁.heap.push _).objs.size
    rw [Heap.size_push]
    rcases List.mem_cons.mp hb with rfl | hb
    · exact Nat.lt_succ_self _
    · rw [List.mem_singleton.mp hb]; exact Nat.lt_succ_of_lt hlt
  · intro D C h tk m' ys news' F' N' o1 hn hC₀ hD₀ hCL hDL hCD offC fin
    refine ⟨m', hn, fun h'' hs'' => fin D h'' tk (F'.change hs'' hCL hC₀) (fun p hp => ?_) o1⟩
    refine ⟨hs''.extBut _ _ ?_ (N' p hp).1, (N' p hp).2⟩
    rcases List.mem_cons.mp hp with rfl | hp
    · exact Ne.symm hCD
    · exact offC p hp
end
end
section
open PySem PySem.W PySem.Calls PyProof.Rows
local macro_rules | `(tactic| walk_at "DoneR") => `(tactic| first | (refine DoneR.introT (by assumption) (by assumption) ?_) | (refine DoneR.introT (by assumption) KtsTurn.refl ?_))
local macro_rules | `(tactic| walk_at "Done") => `(tactic| (refine Done.intro (by assumption) ?_))

set_option maxRecDepth 100000 in
set_option maxHeartbeats 8000000 in
theorem unknown_spec (w : World) (x : Str) (t : Tok) (hU : Unk x) : SpecR 302 7 w 186 [.str x t] (fun v _ => v = .bool true) := by
  w_top off
  have h1 := hU _ (.head _)
  have h2 := hU _ (.tail _ (.head _))
  have h3 := hU _ (.tail _ (.tail _ (.head _)))
  have h4 := hU _ (.tail _ (.tail _ (.tail _ (.head _))))
  have h5 := hU _ (.tail _ (.tail _ (.tail _ (.tail _ (.head _)))))
  clear hU
  have kf : (PySem.Challenge.rw_je0036_01.row.prog = PySem.Challenge.rw_je0036_01.row.prog ∧ hd.heap_39 = hd.heap_39) := by
    k_fill
    exact ⟨rfl, rfl⟩
  clear kf
  refine' specR_of ?ho ?hcd ?hroom ?hbind ?hloc ?c1 ?c2 ?c3 ?c4 ?h
  (case ho => k_is)
  (case hcd => k_is)
  (case hroom => decide)
  (case hbind => intro s; exact BindsTo.of_eq rfl)
  (case hloc => exact locs rfl)
  (case c1 => exact rfl)
  (case c2 => exact rfl); (case c3 => exact rfl); (case c4 => decide)
  intro mean mg mb cn cs a ccd base L s E L h₁ XB TB B D F N X T
  k_steps
  all_goals first | rfl | (simp_all; done) | skip
end
section
open PySem PySem.W PySem.Calls PyProof.Rows
def boolOf (k : Int) : Value := if k = 0 then .bool true else if k = 2 then .bool false else .none
local macro_rules | `(tactic| walk_at "DoneR") => `(tactic| first | (refine DoneR.introT (by assumption) (by assumption) ?_) | (refine DoneR.introT (by assumption) KtsTurn.refl ?_))
set_option maxRecDepth 100000 in
set_option maxHeartbeats 8000000 in
theorem bool_spec (w : World) (k : Int) (t : Tok) (hk : k = 0 ∨ k = 2 ∨ k = 1) : SpecR 302 7 w 179 [.int k t] (fun v _ => v = boolOf k) := by
  w_top off
  have kf : (PySem.Challenge.rw_je0036_01.row.prog = PySem.Challenge.rw_je0036_01.row.prog ∧ hd.heap_39 = hd.heap_39) := by
    k_fill
    exact ⟨rfl, rfl⟩
  clear kf
  refine' specR_of ?ho ?hcd ?hroom ?hbind ?hloc ?c1 ?c2 ?c3 ?c4 ?h
  (case ho => k_is)
  (case hcd => k_is)
  (case hroom => decide)
  (case hbind => intro s; exact BindsTo.of_eq rfl)
  (case hloc => exact locs rfl)
  (case c1 => exact rfl)
  (case c2 => exact rfl); (case c3 => exact rfl); (case c4 => decide)
  intro mean mg mb cn cs a ccd base L s E L h₁ XB TB B D F N X T
  rcases hk with rfl | rfl | rfl
  all_goals k_steps
  all_goals first | rfl | (simp_all; done) | skip
end
section
open PySem PySem.W PySem.Calls PyProof.Rows
def RowOk (ns : List Int) : Prop := ns.length ≤ 1000 ∧ ∀ n ∈ ns, 0 ≤ n ∧ n ≤ 2
def wordOf (n : Int) : Str := if n = 0 then Str.ofString "allow" else if n = 1 then Str.ofString "deny" else Str.ofString "none"
theorem strsAre_snoc {ys : List Value} {xs : List Str} {x : Str} {t : Tok} (h : StrsAre ys xs) : StrsAre (ys ++ [.str x t]) (xs ++ [x]) := by
  induction h with
  | nil => exact .cons _ _ .nil
  | cons y u _ ih => exact .cons y u ih
theorem strsAre_length {ys : List Value} {xs : List Str} (h : StrsAre ys xs) : ys.length = xs.length := by
  induction h with
  | nil => rfl
  | cons y u _ ih => simp [ih]
def WordsInv (ns : List Int) (i : Nat) (ys : List Value) : Prop := StrsAre ys ((ns.take i).map wordOf)
theorem wordsInv_next {ns : List Int} {i : Nat} {ys : List Value} {n : Int} {x : Str} {t : Tok} (h : WordsInv ns i ys) (hn : ns[i]? = some n) (e : wordOf n = x) : WordsInv ns (i + 1) (ys ++ [.str x t]) := by
  unfold WordsInv at *
  rw [List.take_add_one, hn, List.map_append]
  subst e
  exact strsAre_snoc h
/-- the rule of the text: does the row say allow -/
def dueB (which : Int) (ns : List Int) : Bool :=
  if which = 0 then decide (0 ∈ ns) else if which = 1 then !decide (1 ∈ ns) else if which = 2 then decide (0 ∈ ns) && !decide (1 ∈ ns)
  else ns.find? (fun n => n != 2) == some 0
theorem any_allow {ns : List Int} (h : ∀ n ∈ ns, 0 ≤ n ∧ n ≤ 2) : (ns.map wordOf).any (· == Str.ofString "allow") = decide (0 ∈ ns) := by
  induction ns with
  | nil => rfl
  | cons n r ih =>
    have hn := h n (by simp)
    have ih := ih fun k hk => h k (by simp [hk])
    have h3 : n = 0 ∨ n = 1 ∨ n = 2 := by omega
    rw [List.map_cons, List.any_cons, ih]
    rcases h3 with rfl | rfl | rfl
    · rw [show (wordOf 0 == Str.ofString "allow") = true by decide]; simp
    · rw [show (wordOf 1 == Str.ofString "allow") = false by decide]; simp
    · rw [show (wordOf 2 == Str.ofString "allow") = false by decide]; simp
theorem any_deny {ns : List Int} (h : ∀ n ∈ ns, 0 ≤ n ∧ n ≤ 2) : (ns.map wordOf).any (· == Str.ofString "deny") = decide (1 ∈ ns) := by
  induction ns with
  | nil => rfl
  | cons n r ih =>
    have hn := h n (by simp)
    have ih := ih fun k hk => h k (by simp [hk])
    have h3 : n = 0 ∨ n = 1 ∨ n = 2 := by omega
    rw [List.map_cons, List.any_cons, ih]
    rcases h3 with rfl | rfl | rfl
    · rw [show (wordOf 0 == Str.ofString "deny") = false by decide]; simp
    · rw [show (wordOf 1 == Str.ofString "deny") = true by decide]; simp
    · rw [show (wordOf 2 == Str.ofString "deny") = false by decide]; simp
abbrev notNone (x : Str) : Bool := !(x == Str.ofString "none")
theorem first_word {ns : List Int} (h : ∀ n ∈ ns, 0 ≤ n ∧ n ≤ 2) : ∃ x r, ((ns.map wordOf) ++ [Str.ofString "deny"]).filter notNone = x :: r ∧ (x == Str.ofString "allow") = (ns.find? (fun n => n != 2) == some 0) := by
  induction ns with
  | nil => exact ⟨Str.ofString "deny", [], by decide, by decide⟩
  | cons n r ih =>
    have hn := h n (by simp)
    obtain ⟨x, q, e1, e2⟩ := ih fun k hk => h k (by simp [hk])
    have h3 : n = 0 ∨ n = 1 ∨ n = 2 := by omega
    rcases h3 with rfl | rfl | rfl
    · refine ⟨Str.ofString "allow", _, by rw [List.map_cons, List.cons_append, List.filter_cons, if_pos (by decide)]; rfl, ?_⟩
      rw [List.find?_cons]; simp
    · refine ⟨Str.ofString "deny", _, by rw [List.map_cons, List.cons_append, List.filter_cons, if_pos (by decide)]; rfl, ?_⟩
      rw [List.find?_cons]; simp; decide
    · refine ⟨x, q, by rw [List.map_cons, List.cons_append, List.filter_cons, if_neg (by decide)]; exact e1, ?_⟩
      rw [List.find?_cons]; simpa using e2
theorem word_of3 {ns : List Int} (h : ∀ n ∈ ns, 0 ≤ n ∧ n ≤ 2) {i : Nat} {x : Str} (e : ((ns.map wordOf) ++ [Str.ofString "deny"])[i]? = some x) : x = Str.ofString "allow" ∨ x = Str.ofString "deny" ∨ x = Str.ofString "none" := by
  have := List.mem_of_getElem? e
  rcases List.mem_append.mp this with hm | hm
  · obtain ⟨n, hn, rfl⟩ := List.mem_map.mp hm
    have hn := h n hn
    have h3 : n = 0 ∨ n = 1 ∨ n = 2 := by omega
    rcases h3 with rfl | rfl | rfl
    · exact .inl rfl
    · exact .inr (.inl rfl)
    · exact .inr (.inr rfl)
  · exact .inr (.inl (by simpa using hm))
theorem strsAre_append {vs ws : List Value} {xs ys : List Str} (h : StrsAre vs xs) (h' : StrsAre ws ys) : StrsAre (vs ++ ws) (xs ++ ys) := by
  induction h with
  | nil => exact h'
  | cons y u _ ih => exact .cons y u ih
theorem strsAre_get {vs : List Value} {xs : List Str} (h : StrsAre vs xs) {i : Nat} {v : Value} (e : vs[i]? = some v) : ∃ x t, xs[i]? = some x ∧ v = .str x t := by
  induction h generalizing i with
  | nil => simp at e
  | cons y u _ ih =>
    cases i with
    | zero => simp at e; exact ⟨y, u, rfl, e.symm⟩
    | succ i => exact ih (by simpa using e)
theorem add_strs {prog : Program} {w : World} {A : Around} {h₀ : Heap} {L a b : Addr} {m : Str → Option Value} {s : Shared} {Q E : Value → Shared → Prop} {news : List (Addr × Obj)} {vs : List Value} {ns : List Int} {y : Str} {t : Tok}
    (F : Fr h₀ L s.heap m) (N : News h₀ L s.heap news) (ha : s.heap.IsList a vs.toArray) (hb : s.heap.IsList b [Value.str y t].toArray) (hx : StrsAre vs (ns.map wordOf)) (hr : RowOk ns)
    (h : ∀ D us h', Fr h₀ L h' m → News h₀ L h' ((D, listOf (List.toArray us) 0) :: news) → (∀ p ∈ news, p.1 < D) → StrsAre us (ns.map wordOf ++ [y]) → Q (.ref D) { s with heap := h' }) :
    wpAny (model prog w) A (binaryOp .Add (.ref a) (.ref b)) Q E s :=
  kmk_add_lit F N ha hb rfl (fun D h' F' N' l1 => h D _ h' F' N' l1 (by simpa using strsAre_append hx (.cons _ _ .nil))) (by have h1 := strsAre_length hx; have h2 := hr.1; rw [sizeLine_eq]; simp at h1 ⊢; omega)
def FiltInv (xs : List Str) (i : Nat) (ys : List Value) : Prop := StrsAre ys ((xs.take i).filter notNone)
theorem filt_first {xs : List Str} {n : Nat} {ys : List Value} {x0 : Str} {r0 : List Str} (h : FiltInv xs n ys) (hn : xs.length = n) (e : xs.filter notNone = x0 :: r0) : ∃ t0 r1, ys = .str x0 t0 :: r1 := by
  unfold FiltInv at h
  rw [← hn, List.take_length, e] at h
  cases h with
  | cons y u r => exact ⟨u, _, rfl⟩
theorem filt_keep {xs : List Str} {i : Nat} {ys : List Value} {x : Str} {t : Tok} (h : FiltInv xs i ys) (hn : xs[i]? = some x) (e : notNone x = true) : FiltInv xs (i + 1) (ys ++ [.str x t]) := by
  unfold FiltInv at *
  rw [List.take_add_one, hn, List.filter_append, show List.filter notNone (some x).toList = [x] by simp [e]]
  exact strsAre_snoc h
theorem filt_drop {xs : List Str} {i : Nat} {ys : List Value} {x : Str} (h : FiltInv xs i ys) (hn : xs[i]? = some x) (e : notNone x = false) : FiltInv xs (i + 1) ys := by
  unfold FiltInv at *
  rw [List.take_add_one, hn, List.filter_append, show List.filter notNone (some x).toList = [] by simp [e], List.append_nil]
  exact h
local macro_rules | `(tactic| walk_at "binaryOp Add ref ref") => `(tactic| (k_dflt (refine add_strs (by k_asm) (by k_asm) (by kmk_list) (by kmk_list) (by assumption) (by assumption) ?_); intro _ _ _ _ _ l1 _; (try k_lt l1); (try k_sweep); (try dsimp only)))
local macro_rules | `(tactic| walk_at "eval ListComp") => `(tactic| (k_dflt (refine LCt.ListComp_T (F₀ := by k_asm) (by with_unfolding_all rfl) (by decide) (by rfl) (by decide) (by rfl) ?_)))
local macro_rules | `(tactic| walk_at "CompEnd") => `(tactic| k_dflt (refine LCg.CompEnd.intro (by assumption) (by assumption) _ (by intro p hp; first | exact hp | exact List.mem_cons_of_mem _ hp | exact List.mem_cons_of_mem _ (List.mem_cons_of_mem _ hp)) (by assumption) (by first | exact .inl (by assumption) | exact .inr ⟨_, by k_mem, rfl, _, rfl⟩) ⟨rfl, ?_⟩))
local macro_rules | `(tactic| walk_at "Done") => `(tactic| (refine Done.intro (by assumption) ?_))
set_option maxRecDepth 100000 in
set_option maxHeartbeats 4000000 in
theorem due_spec (w : World) (which : Int) (tw : Tok) (l : Addr) (vs : List Value) (ns : List Int) (hi : IntsAre vs ns) (hr : RowOk ns) (hw : which = 0 ∨ which = 1 ∨ which = 2 ∨ which = 3 ∨ which = 4) : Spec 303 10 w 172 [.int which tw, .ref l] (fun h => h.IsList l vs.toArray) (fun v _ => v = .bool (dueB which ns)) := by
  w_top off
  have kf : (PySem.Challenge.rw_je0036_01.row.prog = PySem.Challenge.rw_je0036_01.row.prog ∧ hd.heap_39 = hd.heap_39) := by
    k_fill
    exact ⟨rfl, rfl⟩
  clear kf
  refine' spec_of ?ho ?hcd ?hroom ?hbind ?hloc ?c1 ?c2 ?c3 ?c4 ?h
  (case ho => k_is)
  (case hcd => k_is)
  (case hroom => decide)
  (case hbind => intro s; exact BindsTo.of_eq rfl)
  (case hloc => exact locs rfl)
  (case c1 => exact rfl)
  (case c2 => exact rfl); (case c3 => exact rfl); (case c4 => decide)
  intro mean mg mb cn cs a ccd cl outer base L₀ s E L h₁ B F N X T hp
  have hlen := IntsAre.length hi
  try dsimp only
  refine wpAny_execs_cons ?_
  refine LCg.Assign_ListComp_U (F₀ := F) (by rfl) (by with_unfolding_all rfl) (by with_unfolding_all rfl) (by decide) (by rfl) (by decide) (by rfl) (by rfl) (by rfl) ?_
  walk1
  refine LCg.CompSrc.base (by rfl) F N hp (by rw [sizeLine_eq]; have := hr.1; simp; omega) ?_
  intro g
  refine compRest_inv (WordsInv ns) .nil ?_ ?_
  · intro ys hys D h tk F' N' off
    clear F N off
    have hsz : vs.toArray.size = ns.length := by simp [hlen]
    have hS : StrsAre ys (ns.map wordOf) := by
      have := hys
      unfold WordsInv at this
      rwa [hsz, List.take_length] at this
    clear hys
    try dsimp only
    have hr1 : ns.length ≤ 1000 := hr.1
    rcases hw with rfl | rfl | rfl | rfl | rfl
    · k_steps
      show Value.bool _ = _
      rw [any_allow hr.2]; rfl
    · k_steps
      show Value.bool _ = _
      rw [any_deny hr.2]; rfl
    · k_steps
      all_goals (show Value.bool _ = _)
      all_goals (simp only [any_allow hr.2, any_deny hr.2] at *; simp_all [dueB])
    · k_steps
      rename StrsAre _ (_ ++ _) => hU
      have hq := strsAre_length hU
      refine' LCt.CompSrcT.ledger ?zh ?zF ?zN ?zm ?zs ?_
      (case zh => rfl)
      (case zF => k_asm)
      (case zN => k_asm)
      (case zm => k_mem)
      (case zs => rw [sizeLine_eq]; simp at hq ⊢; omega)
      intro g2
      have hall : ∀ {i : Nat} {x : Str}, ((ns.map wordOf) ++ [Str.ofString "deny"])[i]? = some x → x = Str.ofString "allow" ∨ x = Str.ofString "deny" ∨ x = Str.ofString "none" := word_of3 hr.2
      refine compRestT_inv (FiltInv (ns.map wordOf ++ [Str.ofString "deny"])) .nil ?_ ?_
      · intro ys2 hys2 D2 h2 tk2 F2 N2 off2
        clear off2
        obtain ⟨x0, r0, e0, e1⟩ := first_word hr.2
        obtain ⟨t0, r1, rfl⟩ := filt_first hys2 (by simpa using hq.symm) e0
        clear hys2
        try dsimp only
        k_steps
        all_goals (show Value.bool _ = _)
        all_goals (rw [e1]; rfl)
      · intro i ys v I oI C oC D m₂ h tk E' hlt hI hv hC hx F' N' off ne
        obtain ⟨x, t, hn, rfl⟩ := strsAre_get hU (i := i) (v := v) (by simpa using hv)
        rcases hall hn with rfl | rfl | rfl
        all_goals k_steps
        all_goals first | exact filt_keep hI hn (by decide) | exact filt_drop hI hn (by decide)
    · k_steps
      rename StrsAre _ (_ ++ _) => hU
      have hq := strsAre_length hU
      refine' LCt.CompSrcT.ledger ?zh ?zF ?zN ?zm ?zs ?_
      (case zh => rfl)
      (case zF => k_asm)
      (case zN => k_asm)
      (case zm => k_mem)
      (case zs => rw [sizeLine_eq]; simp at hq ⊢; omega)
      intro g2
      have hall : ∀ {i : Nat} {x : Str}, ((ns.map wordOf) ++ [Str.ofString "deny"])[i]? = some x → x = Str.ofString "allow" ∨ x = Str.ofString "deny" ∨ x = Str.ofString "none" := word_of3 hr.2
      refine compRestT_inv (FiltInv (ns.map wordOf ++ [Str.ofString "deny"])) .nil ?_ ?_
      · intro ys2 hys2 D2 h2 tk2 F2 N2 off2
        clear off2
        obtain ⟨x0, r0, e0, e1⟩ := first_word hr.2
        obtain ⟨t0, r1, rfl⟩ := filt_first hys2 (by simpa using hq.symm) e0
        clear hys2
        try dsimp only
        k_steps
        all_goals (show Value.bool _ = _)
        all_goals (rw [e1]; rfl)
      · intro i ys v I oI C oC D m₂ h tk E' hlt hI hv hC hx F' N' off ne
        obtain ⟨x, t, hn, rfl⟩ := strsAre_get hU (i := i) (v := v) (by simpa using hv)
        rcases hall hn with rfl | rfl | rfl
        all_goals k_steps
        all_goals first | exact filt_keep hI hn (by decide) | exact filt_drop hI hn (by decide)
  · intro i ys v I oI C oC D m₂ h tk E' hlt hI hv hC hx F' N' off ne
    clear F N
    obtain ⟨t, n, hn, rfl⟩ : ∃ t n, ns[i]? = some n ∧ v = .int n t := by
      have hv' : vs[i]? = some v := by simpa using hv
      obtain ⟨t, e⟩ := IntsAre.int_at hi i v hv'
      have hlt' : i < ns.length := by have := hlt; simp at this; omega
      refine ⟨t, ns[i], List.getElem?_eq_getElem hlt', ?_⟩
      rw [e, List.getD_eq_getElem?_getD, List.getElem?_eq_getElem hlt']; rfl
    have hn2 := hr.2 n (List.mem_of_getElem? hn)
    have h3 : n = 0 ∨ n = 1 ∨ n = 2 := by omega
    rcases h3 with rfl | rfl | rfl
    all_goals k_steps
    all_goals exact wordsInv_next hI hn (by decide)
end
section
open PySem PySem.W PySem.Calls PyProof.Rows
def finB (which : Int) (b0 b2 : Bool) : Bool := if which = 0 then b0 else if which = 1 then !b2 else if which = 2 then !b2 && b0 else b0
def Und (which : Int) (b0 b2 : Bool) : Prop := if which = 0 then b0 = false else if which = 1 then b2 = false else if which = 2 then b2 = false else b0 = false ∧ b2 = false
def PInv (which : Int) (ns : List Int) (i : Nat) (b0 b2 : Bool) : Prop := b0 = decide (0 ∈ ns.take i) ∧ b2 = decide (1 ∈ ns.take i) ∧ Und which b0 b2
def GInv (which : Int) (ns : List Int) (b0 b2 : Bool) : Prop := finB which b0 b2 = dueB which ns
theorem pinv_start {which : Int} {ns : List Int} : PInv which ns 0 false false := by
  refine ⟨by simp, by simp, ?_⟩
  unfold Und; split <;> (try split) <;> (try split) <;> simp
theorem mem_take_succ {ns : List Int} {i : Nat} {n : Int} (h : ns[i]? = some n) (k : Int) : k ∈ ns.take (i + 1) ↔ k ∈ ns.take i ∨ k = n := by
  rw [List.take_add_one, h]; simp
theorem pinv_2 {which : Int} {ns : List Int} {i : Nat} {b0 b2 : Bool} (h : PInv which ns i b0 b2) (hn : ns[i]? = some 2) : PInv which ns (i + 1) b0 b2 := by
  obtain ⟨h0, h1, h2⟩ := h
  refine ⟨?_, ?_, h2⟩
  · rw [h0]; simp [mem_take_succ hn]
  · rw [h1]; simp [mem_take_succ hn]
theorem pinv_0 {which : Int} {ns : List Int} {i : Nat} {b0 b2 : Bool} (h : PInv which ns i b0 b2) (hn : ns[i]? = some 0) (hw : which = 1 ∨ which = 2) : PInv which ns (i + 1) true b2 := by
  obtain ⟨h0, h1, h2⟩ := h
  refine ⟨?_, ?_, ?_⟩
  · simp [mem_take_succ hn]
  · rw [h1]; simp [mem_take_succ hn]
  · rcases hw with rfl | rfl <;> simpa [Und] using h2
theorem pinv_1 {which : Int} {ns : List Int} {i : Nat} {b0 b2 : Bool} (h : PInv which ns i b0 b2) (hn : ns[i]? = some 1) (hw : which = 0) : PInv which ns (i + 1) b0 true := by
  obtain ⟨h0, h1, h2⟩ := h
  refine ⟨?_, ?_, ?_⟩
  · rw [h0]; simp [mem_take_succ hn]
  · simp [mem_take_succ hn]
  · subst hw; simpa [Und] using h2
theorem find_first {ns : List Int} (hr : ∀ n ∈ ns, 0 ≤ n ∧ n ≤ 2) {i : Nat} {n : Int} (h0 : 0 ∉ ns.take i) (h1 : 1 ∉ ns.take i) (hn : ns[i]? = some n) (h2 : n ≠ 2) : ns.find? (fun n => n != 2) = some n := by
  induction ns generalizing i with
  | nil => simp at hn
  | cons a r ih =>
    have ha := hr a (by simp)
    cases i with
    | zero =>
      simp at hn; subst hn
      simp [List.find?_cons, h2]
    | succ i =>
      rw [List.take_succ_cons] at h0 h1
      simp only [List.mem_cons, not_or] at h0 h1
      have ha2 : a = 2 := by have := h0.1; have := h1.1; omega
      subst ha2
      rw [List.find?_cons]
      simpa using ih (fun n hn => hr n (by simp [hn])) h0.2 h1.2 (by simpa using hn)
theorem find_none {ns : List Int} (hr : ∀ n ∈ ns, 0 ≤ n ∧ n ≤ 2) (h0 : 0 ∉ ns) (h1 : 1 ∉ ns) : ns.find? (fun n => n != 2) = none := by
  rw [List.find?_eq_none]
  intro n hn
  have := hr n hn
  have hne0 : n ≠ 0 := fun e => h0 (e ▸ hn)
  have hne1 : n ≠ 1 := fun e => h1 (e ▸ hn)
  have : n = 2 := by omega
  simp [this]
theorem ginv_end {which : Int} {ns : List Int} {b0 b2 : Bool} (hr : ∀ n ∈ ns, 0 ≤ n ∧ n ≤ 2) (hw : which = 0 ∨ which = 1 ∨ which = 2 ∨ which = 3 ∨ which = 4) (h : PInv which ns ns.length b0 b2) : GInv which ns b0 b2 := by
  obtain ⟨h0, h1, h2⟩ := h
  rw [List.take_length] at h0 h1
  unfold GInv
  have f34 : b0 = false → b2 = false → ns.find? (fun n => n != 2) = none := fun e0 e2 => find_none hr (by rw [e0] at h0; simpa using h0.symm) (by rw [e2] at h1; simpa using h1.symm)
  rcases hw with rfl | rfl | rfl | rfl | rfl
  · simpa [finB, dueB] using h0
  · simp [finB, dueB, h1]
  · simp [finB, dueB, h0, h1, Bool.and_comm]
  · obtain ⟨e0, e2⟩ : b0 = false ∧ b2 = false := by simpa [Und] using h2
    simp [finB, dueB, f34 e0 e2, e0]
  · obtain ⟨e0, e2⟩ : b0 = false ∧ b2 = false := by simpa [Und] using h2
    simp [finB, dueB, f34 e0 e2, e0]
theorem mem_of_take {ns : List Int} {i : Nat} {n : Int} (hn : ns[i]? = some n) : n ∈ ns := List.mem_of_getElem? hn
theorem ginv_0 {which : Int} {ns : List Int} {i : Nat} {b0 b2 : Bool} (hr : ∀ n ∈ ns, 0 ≤ n ∧ n ≤ 2) (h : PInv which ns i b0 b2) (hn : ns[i]? = some 0) (hw : which = 0 ∨ which = 3 ∨ which = 4) : GInv which ns true b2 := by
  obtain ⟨h0, h1, h2⟩ := h
  unfold GInv
  have f34 : b0 = false → b2 = false → ns.find? (fun n => n != 2) = some 0 := fun e0 e2 => find_first hr (by rw [e0] at h0; simpa using h0.symm) (by rw [e2] at h1; simpa using h1.symm) hn (by decide)
  rcases hw with rfl | rfl | rfl
  · simp [finB, dueB, mem_of_take hn]
  · obtain ⟨e0, e2⟩ : b0 = false ∧ b2 = false := by simpa [Und] using h2
    simp [finB, dueB, f34 e0 e2]
  · obtain ⟨e0, e2⟩ : b0 = false ∧ b2 = false := by simpa [Und] using h2
    simp [finB, dueB, f34 e0 e2]
theorem ginv_1 {which : Int} {ns : List Int} {i : Nat} {b0 b2 : Bool} (hr : ∀ n ∈ ns, 0 ≤ n ∧ n ≤ 2) (h : PInv which ns i b0 b2) (hn : ns[i]? = some 1) (hw : which = 1 ∨ which = 2 ∨ which = 3 ∨ which = 4) : GInv which ns b0 true := by
  obtain ⟨h0, h1, h2⟩ := h
  unfold GInv
  have f34 : b0 = false → b2 = false → ns.find? (fun n => n != 2) = some 1 := fun e0 e2 => find_first hr (by rw [e0] at h0; simpa using h0.symm) (by rw [e2] at h1; simpa using h1.symm) hn (by decide)
  rcases hw with rfl | rfl | rfl | rfl
  · simp [finB, dueB, mem_of_take hn]
  · simp [finB, dueB, mem_of_take hn]
  · obtain ⟨e0, e2⟩ : b0 = false ∧ b2 = false := by simpa [Und] using h2
    simp [finB, dueB, f34 e0 e2, e0]
  · obtain ⟨e0, e2⟩ : b0 = false ∧ b2 = false := by simpa [Und] using h2
    simp [finB, dueB, f34 e0 e2, e0]

/-- is k in the set -/
def mem3 (it : Its) (k : Nat) : Bool := it.any fun p => decide (p.1 = k)
section
variable {prog : Program} {w : World} {A : Around} {E : Value → Shared → Prop} {s : Shared} {h₀ : Heap} {L sa : Addr} {m : Str → Option Value} {news : List (Addr × Obj)}
theorem newset_N {Q : Value → Shared → Prop} (F : Fr h₀ L s.heap m) (N : News h₀ L s.heap news)
    (h : ∀ D h', Fr h₀ L h' m → News h₀ L h' ((D, setO (!byText w) 0 []) :: news) → (∀ p ∈ news, p.1 < D) → Q (.ref D) { s with heap := h' }) :
    wpAny (model prog w) A (call (.type "set") []) Q E s :=
  call_set_led (h _ _ (F.push _) (N.push F _) fun p hp => Heap.lt_size (N p hp).1)

theorem set_in {led : Bool} {ep : Nat} {it : Its} {kn : Nat} {k : Int} {t : Tok} {b : Bool} {Q : Value → Shared → Prop} (N : News h₀ L s.heap news) (hm : (sa, setO led ep it) ∈ news) (hK : Keys3 it) (hk : k = (kn : Int)) (hb : mem3 it kn = b)
    (h : Q (.bool b) { s with toks := s.toks + 1 }) : wpAny (model prog w) A (compareOp .In (.int k t) (.ref sa)) Q E s := by
  have hS : s.heap.SetOf (intKind prog w) sa _ it.length := (setO_of (prog := prog) (w := w) (led := led) (ep := ep) hK).setOf (N _ hm).1 (by have := size3 hK; unfold scanBound; omega)
  refine wpAny_inSet_of (knd := intKind prog w) (k := k) (intKind_is _ _ _ _) rfl hS ?_
  have e : (it.any fun p => decide ((p.1 : Int) = k)) = b := by
    rw [← hb, hk]; unfold mem3; exact congrArg (fun f => it.any f) (funext fun p => decide_eq_decide.mpr (by omega))
  exact e ▸ h
theorem set_notin {led : Bool} {ep : Nat} {it : Its} {kn : Nat} {k : Int} {t : Tok} {b : Bool} {Q : Value → Shared → Prop} (N : News h₀ L s.heap news) (hm : (sa, setO led ep it) ∈ news) (hK : Keys3 it) (hk : k = (kn : Int)) (hb : mem3 it kn = b)
    (h : Q (.bool (!b)) { s with toks := s.toks + 1 }) : wpAny (model prog w) A (compareOp .NotIn (.int k t) (.ref sa)) Q E s := by
  have hS : s.heap.SetOf (intKind prog w) sa _ it.length := (setO_of (prog := prog) (w := w) (led := led) (ep := ep) hK).setOf (N _ hm).1 (by have := size3 hK; unfold scanBound; omega)
  refine wpAny_notInSet_of (knd := intKind prog w) (k := k) (intKind_is _ _ _ _) rfl hS ?_
  have e : (it.any fun p => decide ((p.1 : Int) = k)) = b := by
    rw [← hb, hk]; unfold mem3; exact congrArg (fun f => it.any f) (funext fun p => decide_eq_decide.mpr (by omega))
  exact e ▸ h
theorem set_method {led : Bool} {ep : Nat} {it : Its} {pl : Sem Bool} {Q : Value × List Value → Shared → Prop} (N : News h₀ L s.heap news) (hm : (sa, setO led ep it) ∈ news) (hK : Keys3 it) (h : Q (.builtin "set.add", [.ref sa]) s) :
    wpAny (model prog w) A (getMethod (.ref sa) "add" pl) Q E s := by
  have hS : s.heap.SetOf (intKind prog w) sa _ it.length := (setO_of (prog := prog) (w := w) (led := led) (ep := ep) hK).setOf (N _ hm).1 (by have := size3 hK; unfold scanBound; omega)
  exact getMethod_set_add hS h
theorem set_add {led : Bool} {ep : Nat} {it : Its} {kn : Nat} {k : Int} {t : Tok} {b0 b2 : Bool} {g : Obj → List (Addr × Obj)} {Q : Value → Shared → Prop} (F : Fr h₀ L s.heap m) (N : News h₀ L s.heap news) (U : UpdF sa (setO led ep it) news g) (hK : Keys3 it) (hk : k = (kn : Int)) (hlt : kn < 3)
    (hb0 : mem3 it 0 = b0) (hb2 : mem3 it 2 = b2)
    (h : ∀ h' ep' it', Fr h₀ L h' m → News h₀ L h' (g (setO led ep' it')) → Keys3 it' → mem3 it' 0 = (b0 || decide (0 = kn)) → mem3 it' 2 = (b2 || decide (2 = kn)) → Q .none { s with heap := h', toks := s.toks + 1 }) :
    wpAny (model prog w) A (call (.builtin "set.add") [.ref sa, .int k t]) Q E s := by
  obtain ⟨pre, post, rfl, hg, h1, h2⟩ := U.split
  have hm := N _ (List.mem_append_right _ (.head _))
  subst hk
  refine call_add3 hK hlt hm.1 fun h' ep' hsb hget => ?_
  refine h h' ep' (put3 it kn t) (F.change hsb hm.2.1 hm.2.2) (hg _ ▸ N.setIn h1 h2 hsb hget) (put3_keys hK hlt) ?_ ?_
  · unfold mem3 at *; rw [put3_mem hK hlt, hb0]
  · unfold mem3 at *; rw [put3_mem hK hlt, hb2]
end
end
section
open PySem PySem.W PySem.Calls PyProof.Rows PySem.Spec
open LCg LCt
section
variable {prog : Program} {w : World} {A : Around} {E : Value → Shared → Prop} {s : Shared} {h₀ : Heap} {L sa : Addr} {m : Str → Option Value} {env : Env} {news : List (Addr × Obj)}
theorem src_set_here {ct elt : Expr} {x : Str} {scope : Scope} {cl : List (Str × Addr)} {Q : Value → Shared → Prop} {ep : Nat} {it : Its}
    (hh : A.handled = none) (F : Fr h₀ L s.heap m) (N : News h₀ L s.heap news) (hm : (sa, setO (!byText w) ep it) ∈ news) (hK : Keys3 it) (hb : mem3 it 0 = true ∨ mem3 it 2 = true)
    (keep : ∀ (k : Int), k = 0 ∨ k = 2 → ∀ t g ys I oI C oC D m₂ h tk (E' : Value → Shared → Prop), NsObj oC m₂ → m₂ x = some (.int k t) → Fr h₀ L h m → News h₀ L h ((I, oI) :: (C, oC) :: (D, lst ys) :: news) → Off3 I C D news → ((@Ne Nat I C) ∧ (@Ne Nat I D) ∧ (@Ne Nat C D)) →
      wpAny (model prog w) A (isTrue ct (compEnvC scope cl C env) (eval ct (compEnvC scope cl C env))) (fun ok s' => if ok = true then
        wpAny (model prog w) A (eval elt (compEnvC scope cl C env)) (CompEnd h₀ L m { heap := h, gens := s.gens, drawn := s.drawn, toks := tk, os := s.os } I oI C oC D (lst ys) (fun nw => (sa, setO (!byText w) ep it) ∈ nw) (fun _ news' => news' = news ∧ (g : Heap) = g)) E' s'
        else False) E' { heap := h, gens := s.gens, drawn := s.drawn, toks := tk, os := s.os })
    (drop : ∀ t (g : Heap) ys I oI C oC D m₂ h tk (E' : Value → Shared → Prop), NsObj oC m₂ → m₂ x = some (.int 1 t) → Fr h₀ L h m → News h₀ L h ((I, oI) :: (C, oC) :: (D, lst ys) :: news) → Off3 I C D news → ((@Ne Nat I C) ∧ (@Ne Nat I D) ∧ (@Ne Nat C D)) →
      wpAny (model prog w) A (isTrue ct (compEnvC scope cl C env) (eval ct (compEnvC scope cl C env))) (fun ok s' => if ok = true then False
        else CompEnd h₀ L m { heap := h, gens := s.gens, drawn := s.drawn, toks := tk, os := s.os } I oI C oC D (lst ys) (fun nw => (sa, setO (!byText w) ep it) ∈ nw) (fun _ news' => news' = news ∧ g = g) Value.none s') E' { heap := h, gens := s.gens, drawn := s.drawn, toks := tk, os := s.os })
    (fin : ∀ y0 r D h tk, (r = [] ∨ (∃ y1, r = [y1]) ∨ ∃ y1 y2, r = [y1, y2]) → Fr h₀ L h m → News h₀ L h ((D, lst (y0 :: r)) :: news) → Off1 D news → Q (.ref D) { heap := h, gens := s.gens, drawn := s.drawn, toks := tk, os := s.os }) : SrcSet prog w A h₀ L m env ct elt x scope cl Q (.ref sa) s := by
  have hmem : ∀ {i : Nat} {e : Int × Value}, (ordOf w sa ep it)[i]? = some e → ∃ p ∈ it, e = ((p.1 : Int), Value.int p.1 p.2) := by
    intro i e he
    have h1 : e ∈ (ordOf w sa ep it).toList := by rw [← Array.getElem?_toList] at he; exact List.mem_of_getElem? he
    have h2 := (ord_perm (w := w) (sa := sa) (ep := ep) (it := it)).mem_iff.mp h1
    simp only [List.mem_map] at h2
    obtain ⟨p, hp, rfl⟩ := h2
    exact ⟨p, hp, rfl⟩
  have hlt3 : ∀ p ∈ it, p.1 = 0 ∨ p.1 = 1 ∨ p.1 = 2 := by
    intro p hp
    rcases keys3_cases hK with rfl | ⟨a, rfl⟩ | ⟨a, rfl⟩ | ⟨a, rfl⟩ | ⟨a, b, rfl⟩ | ⟨a, b, rfl⟩ | ⟨a, b, rfl⟩ | ⟨a, b, c, rfl⟩ <;> simp at hp
    all_goals first | (subst hp; simp) | (rcases hp with rfl | rfl <;> simp) | (rcases hp with rfl | rfl | rfl <;> simp)
  refine ⟨sa, ep, it, news, rfl, hh, F, N, hm, hK, ?_⟩
  rintro _ ⟨g, rfl⟩
  refine compRestT_inv (fun i ys => ys.length ≤ i ∧ ((∃ j, j < i ∧ ∃ hx k t, (ordOf w sa ep it)[j]? = some (hx, .int k t) ∧ k ≠ 1) → ys ≠ [])) ⟨Nat.le_refl _, (fun ⟨j, hj, _⟩ => absurd hj (Nat.not_lt_zero _))⟩ ?_ ?_
  · intro ys ⟨hle, hys⟩ D h tk F' N' off
    have hne : ys ≠ [] := by
      refine hys ?_
      have hp : ∃ p ∈ it, p.1 ≠ 1 := by
        rcases hb with hb | hb <;> (unfold mem3 at hb; obtain ⟨p, hp, e⟩ := List.any_eq_true.mp hb; have e := of_decide_eq_true e; exact ⟨p, hp, by omega⟩)
      obtain ⟨p, hp, hp1⟩ := hp
      have h1 : ((p.1 : Int), Value.int p.1 p.2) ∈ (ordOf w sa ep it).toList := (ord_perm (w := w) (sa := sa) (ep := ep) (it := it)).mem_iff.mpr (by simp only [List.mem_map]; exact ⟨p, hp, rfl⟩)
      obtain ⟨j, hj, e⟩ := List.mem_iff_getElem.mp h1
      refine ⟨j, by rw [← ord_size (w := w) (sa := sa) (ep := ep)]; simpa using hj, _, _, _, by rw [← Array.getElem?_toList, List.getElem?_eq_getElem hj, e], by omega⟩
    cases ys with
    | nil => exact absurd rfl hne
    | cons y0 r =>
      have h3 := size3 hK
      simp only [List.length_cons] at hle
      refine fin y0 r D h tk ?_ F' N' off
      match r, hle with
      | [], _ => exact .inl rfl
      | [a], _ => exact .inr (.inl ⟨a, rfl⟩)
      | [a, b], _ => exact .inr (.inr ⟨a, b, rfl⟩)
      | a :: b :: c :: r, h => simp only [List.length_cons] at h; omega
  · rintro i ys v I oI C oC D m₂ h tk E' hlt hI ⟨hx, hv⟩ hC hxv F' N' off ne
    obtain ⟨p, hp, e⟩ := hmem hv
    cases e
    have cases3 := hlt3 p hp
    obtain ⟨k, t⟩ := p
    dsimp only at *
    rcases cases3 with rfl | rfl | rfl
    · refine wpAny_mono (keep 0 (.inl rfl) t g ys I oI C oC D m₂ h tk E' hC hxv F' N' off ne) (fun ok s' hq => ?_) fun _ _ e => e
      cases ok with
      | true =>
        simp only [if_true] at hq ⊢
        exact wpAny_mono hq (fun y s'' hq => CompEnd.imp hq fun y n' hr => ⟨hr.1, by have := hI.1; simp; omega, fun _ => by simp⟩) fun _ _ e => e
      | false => simp at hq
    · refine wpAny_mono (drop t g ys I oI C oC D m₂ h tk E' hC hxv F' N' off ne) (fun ok s' hq => ?_) fun _ _ e => e
      cases ok with
      | true => simp at hq
      | false =>
        simp only [Bool.false_eq_true, if_false] at hq ⊢
        refine CompEnd.imp hq fun y n' hr => ⟨hr.1, by have := hI.1; omega, ?_⟩
        rintro ⟨j, hj, hx', k', t', e', hk'⟩
        refine hI.2 ⟨j, ?_, hx', k', t', e', hk'⟩
        rcases Nat.lt_succ_iff_lt_or_eq.mp hj with h' | rfl
        · exact h'
        · rw [hv] at e'; simp at e'; omega
    · refine wpAny_mono (keep 2 (.inr rfl) t g ys I oI C oC D m₂ h tk E' hC hxv F' N' off ne) (fun ok s' hq => ?_) fun _ _ e => e
      cases ok with
      | true =>
        simp only [if_true] at hq ⊢
        exact wpAny_mono hq (fun y s'' hq => CompEnd.imp hq fun y n' hr => ⟨hr.1, by have := hI.1; simp; omega, fun _ => by simp⟩) fun _ _ e => e
      | false => simp at hq

/-- a turn's end: the set as it is now -/
def TEnd (w : World) (h₀ : Heap) (L : Addr) (m₀ : Str → Option Value) (x y : Str) (g : Obj → List (Addr × Obj)) (R : Bool → Bool → Prop) (own : List (Addr × Obj)) (s₁ s₂ : Shared) : Prop :=
  ∃ h' tk m' it ep, s₂ = { s₁ with heap := h', toks := tk } ∧ Fr h₀ L h' m' ∧ News h₀ L h' (g (setO (!byText w) ep it) ++ own) ∧ Keys3 it ∧ R (mem3 it 0) (mem3 it 2) ∧ ∀ z, z ≠ x → z ≠ y → m' z = m₀ z
theorem TEnd.intro {m₀ m' : Str → Option Value} {x y : Str} {g : Obj → List (Addr × Obj)} {R : Bool → Bool → Prop} {own all : List (Addr × Obj)} {s₁ : Shared} {h' : Heap} {tk : Nat} {it : Its} {ep : Nat} {b0 b2 : Bool}
    (F : Fr h₀ L h' m') (N : News h₀ L h' all) (hs : SubL (g (setO (!byText w) ep it)) all) (hK : Keys3 it) (ho : ∀ p ∈ own, p ∈ all) (h0 : mem3 it 0 = b0) (h2 : mem3 it 2 = b2) (r : R b0 b2) (hm : ∀ z, z ≠ x → z ≠ y → m' z = m₀ z) :
    TEnd w h₀ L m₀ x y g R own s₁ { s₁ with heap := h', toks := tk } := by
  subst h0; subst h2
  exact ⟨h', tk, m', it, ep, rfl, F, fun p hp => N p ((List.mem_append.mp hp).elim (hs.mem p) (ho p)), hK, r, hm⟩
def TPost (w : World) (h₀ : Heap) (L : Addr) (m₀ : Str → Option Value) (x y : Str) (g : Obj → List (Addr × Obj)) (R G : Bool → Bool → Prop) (own : List (Addr × Obj)) (s₁ : Shared) (f : Flow) (s₂ : Shared) : Prop :=
  match f with
  | .ret _ => False
  | .brk => TEnd w h₀ L m₀ x y g G own s₁ s₂
  | _ => TEnd w h₀ L m₀ x y g R own s₁ s₂

theorem iter_right {x y : Str} {body : List Stmt} {Q : Flow → Shared → Prop} {l : Addr} {vs : List Value} {ns : List Int} {m₀ : Str → Option Value} {ep₀ : Nat} {it₀ : Its} {g : Obj → List (Addr × Obj)} (P : Nat → Bool → Bool → Prop) (G : Bool → Bool → Prop)
    (hh : A.handled = none) (hl : h₀.IsList l vs.toArray) (hi : IntsAre vs ns) (F : Fr h₀ env.locals s.heap m₀) (N : News h₀ env.locals s.heap news) (U : UpdF sa (setO (!byText w) ep₀ it₀) news g) (hK : Keys3 it₀) (hP : P 0 (mem3 it₀ 0) (mem3 it₀ 2))
    (hend : ∀ b0 b2, P ns.length b0 b2 → G b0 b2)
    (turn : ∀ i n t (u : Str → Option Value) h tk own it ep b0 b2, ns[i]? = some n → P i b0 b2 → Keys3 it → mem3 it 0 = b0 → mem3 it 2 = b2 → OwnOff own (news.map (·.1)) → Fr h₀ env.locals h (fun z => if z = x then some (.int n t) else if z = y then u z else m₀ z) → News h₀ env.locals h (g (setO (!byText w) ep it) ++ own) →
      wpAny (model prog w) A (execs body env) (TPost w h₀ env.locals m₀ x y g (P (i + 1)) G own { heap := h, gens := s.gens, drawn := s.drawn, toks := tk, os := s.os }) E { heap := h, gens := s.gens, drawn := s.drawn, toks := tk, os := s.os })
    (done : ∀ (u : Str → Option Value) h tk it ep b0 b2, Keys3 it → mem3 it 0 = b0 → mem3 it 2 = b2 → G b0 b2 → Fr h₀ env.locals h (fun z => if z = x then u z else if z = y then u z else m₀ z) → News h₀ env.locals h (g (setO (!byText w) ep it)) → Q .next { heap := h, gens := s.gens, drawn := s.drawn, toks := tk, os := s.os }) :
    wpAny (model prog w) A (pyIter (.ref l)) (fun it s₂ => LoopAtV prog w A h₀ env x body Q E it s₂) E s := by
  obtain ⟨pre, post, rfl, hg, h1, h2⟩ := U.split
  have hadr : ∀ o, (g o).map (·.1) = (pre ++ (sa, setO (!byText w) ep₀ it₀) :: post).map (·.1) := fun o => by rw [hg]; simp
  have hmap : ∀ (m₁ : Str → Option Value), (∀ z, z ≠ x → z ≠ y → m₁ z = m₀ z) → (fun z => if z = x then m₁ z else if z = y then m₁ z else m₀ z) = m₁ := fun m₁ hm => by
    funext z
    by_cases e1 : z = x
    · simp [e1]
    · by_cases e2 : z = y
      · simp [e1, e2]
      · simp only [if_neg e1, if_neg e2]; exact (hm z e1 e2).symm
  have hdone : ∀ m₁ h tk it ep, Keys3 it → G (mem3 it 0) (mem3 it 2) → (∀ z, z ≠ x → z ≠ y → m₁ z = m₀ z) → Fr h₀ env.locals h m₁ → News h₀ env.locals h (g (setO (!byText w) ep it)) → Q .next { heap := h, gens := s.gens, drawn := s.drawn, toks := tk, os := s.os } :=
    fun m₁ h tk it ep hK hG hm F₁ N₁ => done m₁ h tk it ep _ _ hK rfl rfl hG (by rw [hmap m₁ hm]; exact F₁) N₁
  refine iter_invN (fun i m nx => ∃ it ep, nx = g (setO (!byText w) ep it) ∧ Keys3 it ∧ P i (mem3 it 0) (mem3 it 2) ∧ ∀ z, z ≠ x → z ≠ y → m z = m₀ z) hh hl hi F N ⟨it₀, ep₀, (hg _).symm, hK, hP, fun _ _ _ => rfl⟩ ?_ ?_
  · rintro i n t m₁ nx h tk own hn _ hsep ⟨it, ep, rfl, hK1, hP1, hm⟩ F₁ N₁
    have F₂ : Fr h₀ env.locals h (fun z => if z = x then some (.int n t) else if z = y then m₁ z else m₀ z) := by
      have e : (fun z => if z = x then some (Value.int n t) else if z = y then m₁ z else m₀ z) = fun z => if z = x then some (Value.int n t) else m₁ z := by
        funext z
        by_cases e1 : z = x
        · simp [e1]
        · by_cases e2 : z = y
          · simp [e1, e2]
          · simp only [if_neg e1, if_neg e2]; exact (hm z e1 e2).symm
      rw [e]; exact F₁
    refine wpAny_mono (turn i n t m₁ h tk own it ep _ _ hn hP1 hK1 rfl rfl hsep F₂ N₁) (fun f s₂ hq => ?_) fun _ _ e => e
    have fin : ∀ R, TEnd w h₀ env.locals m₀ x y g R own { heap := h, gens := s.gens, drawn := s.drawn, toks := tk, os := s.os } s₂ → ∃ h' tk' m' it ep, s₂ = { heap := h', gens := s.gens, drawn := s.drawn, toks := tk', os := s.os } ∧ Fr h₀ env.locals h' m' ∧ News h₀ env.locals h' (g (setO (!byText w) ep it) ++ own) ∧ Keys3 it ∧ R (mem3 it 0) (mem3 it 2) ∧ ∀ z, z ≠ x → z ≠ y → m' z = m₀ z := fun R h => h
    have next : TEnd w h₀ env.locals m₀ x y g (P (i + 1)) own { heap := h, gens := s.gens, drawn := s.drawn, toks := tk, os := s.os } s₂ →
        InvEndN h₀ env.locals (fun m nx => ∃ it ep, nx = g (setO (!byText w) ep it) ∧ Keys3 it ∧ P (i + 1) (mem3 it 0) (mem3 it 2) ∧ ∀ z, z ≠ x → z ≠ y → m z = m₀ z) own ((pre ++ (sa, setO (!byText w) ep₀ it₀) :: post).map (·.1)) { s with heap := h, toks := tk } s₂ := fun hq => by
      obtain ⟨h', tk', m', it', ep', rfl, F', N', hK', hR, hm'⟩ := fin _ hq
      exact ⟨h', tk', m', _, g (setO (!byText w) ep' it'), rfl, F', N', fun p hp => List.mem_append_left _ hp, fun p hp => List.mem_append_right _ hp, hadr _, it', ep', rfl, hK', hR, hm'⟩
    cases f with
    | ret v => exact hq.elim
    | brk =>
      obtain ⟨h', tk', m', it', ep', rfl, F', N', hK', hR, hm'⟩ := fin _ hq
      exact hdone m' h' tk' it' ep' hK' hR hm' F' fun p hp => N' p (List.mem_append_left _ hp)
    | next => exact next hq
    | cont => exact next hq
  · rintro m₁ nx h tk ⟨it, ep, rfl, hK1, hP1, hm⟩ F₁ N₁
    exact hdone m₁ h tk it ep hK1 (hend _ _ hP1) hm F₁ N₁
end
end
section
open PySem PySem.W PySem.Calls PyProof.Rows PySem.Spec
open LCg LCt
def RCtx (which : Int) (ns : List Int) (vs : List Value) : Prop := IntsAre vs ns ∧ RowOk ns ∧ (which = 0 ∨ which = 1 ∨ which = 2 ∨ which = 3 ∨ which = 4)
theorem keys3_nil : Keys3 [] := by simp [Keys3]
def kindI (n : Int) : Int := if n = 0 then 0 else if n = 1 then 2 else 1
theorem intsAre_snoc {ys : List Value} {xs : List Int} {x : Int} {t : Tok} (h : IntsAre ys xs) : IntsAre (ys ++ [.int x t]) (xs ++ [x]) := by
  induction h with
  | nil => exact .cons _ _ .nil
  | cons y u _ ih => exact .cons y u ih
def KindInv (ns : List Int) (i : Nat) (ys : List Value) : Prop := IntsAre ys ((ns.take i).map kindI)
theorem kindInv_next {ns : List Int} {i : Nat} {ys : List Value} {n x : Int} {t : Tok} (h : KindInv ns i ys) (hn : ns[i]? = some n) (e : kindI n = x) : KindInv ns (i + 1) (ys ++ [.int x t]) := by
  unfold KindInv at *
  rw [List.take_add_one, hn, List.map_append]
  subst e
  exact intsAre_snoc h
section
variable {prog : Program} {w : World} {A : Around} {E : Value → Shared → Prop} {s : Shared} {h₀ : Heap} {L sa : Addr} {m : Str → Option Value} {env : Env} {news : List (Addr × Obj)}
theorem iter_right2 {which : Int} {x y : Str} {body : List Stmt} {Q : Flow → Shared → Prop} {l : Addr} {vs : List Value} {ns : List Int} {m₀ : Str → Option Value} {g : Obj → List (Addr × Obj)} (sn : Str) (pk : RCtx which ns vs)
    (hh : A.handled = none) (hl : h₀.IsList l vs.toArray) (F : Fr h₀ env.locals s.heap m₀) (N : News h₀ env.locals s.heap news) (_hsn : m₀ sn = some (.ref sa)) (U : UpdF sa (setO (!byText w) 0 []) news g)
    (turn : ∀ i n t (u : Str → Option Value) h tk own it ep b0 b2, ns[i]? = some n → (n = 0 ∨ n = 1 ∨ n = 2) → PInv which ns i b0 b2 → Keys3 it → mem3 it 0 = b0 → mem3 it 2 = b2 → OwnOff own (news.map (·.1)) → Fr h₀ env.locals h (fun z => if z = x then some (.int n t) else if z = y then u z else m₀ z) → News h₀ env.locals h (g (setO (!byText w) ep it) ++ own) →
      wpAny (model prog w) A (execs body env) (TPost w h₀ env.locals m₀ x y g (PInv which ns (i + 1)) (GInv which ns) own { heap := h, gens := s.gens, drawn := s.drawn, toks := tk, os := s.os }) E { heap := h, gens := s.gens, drawn := s.drawn, toks := tk, os := s.os })
    (done : ∀ (u : Str → Option Value) h tk it ep b0 b2, Keys3 it → mem3 it 0 = b0 → mem3 it 2 = b2 → dueB which ns = finB which b0 b2 → Fr h₀ env.locals h (fun z => if z = x then u z else if z = y then u z else m₀ z) → News h₀ env.locals h (g (setO (!byText w) ep it)) → Q .next { heap := h, gens := s.gens, drawn := s.drawn, toks := tk, os := s.os }) :
    wpAny (model prog w) A (pyIter (.ref l)) (fun it s₂ => LoopAtV prog w A h₀ env x body Q E it s₂) E s := by
  refine iter_right (y := y) (PInv which ns) (GInv which ns) hh hl pk.1 F N U keys3_nil pinv_start (fun b0 b2 h => ginv_end pk.2.1.2 pk.2.2 h) ?_ ?_
  · intro i n t u h tk own it ep b0 b2 hn hP hK hb0 hb2 hoff F' N'
    have hr := pk.2.1.2 n (List.mem_of_getElem? hn)
    exact turn i n t u h tk own it ep b0 b2 hn (by omega) hP hK hb0 hb2 hoff F' N'
  · intro u h tk it ep b0 b2 hK hb0 hb2 hG F' N'
    exact done u h tk it ep b0 b2 hK hb0 hb2 hG.symm F' N'

/-- a set of whatever make: are 0 and 2 in it -/
def SetHas (prog : Program) (w : World) (o : Obj) (b0 b2 : Bool) : Prop := ∃ S n, o.SetObjOf (intKind prog w) S n ∧ n < scanBound ∧ S 0 = b0 ∧ S 2 = b2
theorem setHas_of {led : Bool} {ep : Nat} {it : Its} {b0 b2 : Bool} (hK : Keys3 it) (h0 : mem3 it 0 = b0) (h2 : mem3 it 2 = b2) : SetHas prog w (setO led ep it) b0 b2 := by
  have e : ∀ (k : Int) (n : Nat), k = (n : Int) → (it.any fun p => decide ((p.1 : Int) = k)) = mem3 it n := fun k n hk => by
    unfold mem3; exact congrArg (fun f => it.any f) (funext fun p => decide_eq_decide.mpr (by omega))
  exact ⟨_, _, setO_of hK, Nat.lt_of_le_of_lt (size3 hK) (by decide), (e 0 0 rfl).trans h0, (e 2 2 rfl).trans h2⟩
theorem set_put {led : Bool} {ep : Nat} {it : Its} {k : Int} {t : Tok} {b0 b2 : Bool} {g : Obj → List (Addr × Obj)} {Q : Value → Shared → Prop} (F : Fr h₀ L s.heap m) (N : News h₀ L s.heap news) (U : UpdF sa (setO led ep it) news g) (hK : Keys3 it)
    (hb0 : mem3 it 0 = b0) (hb2 : mem3 it 2 = b2) (hk : 0 ≤ k ∧ k < 3)
    (h : ∀ h' ep' it', Fr h₀ L h' m → News h₀ L h' (g (setO led ep' it')) → Keys3 it' → mem3 it' 0 = (b0 || decide (k = 0)) → mem3 it' 2 = (b2 || decide (k = 2)) → Q .none { s with heap := h', toks := s.toks + 1 }) :
    wpAny (model prog w) A (call (.builtin "set.add") [.ref sa, .int k t]) Q E s := by
  obtain ⟨n, rfl⟩ : ∃ n : Nat, k = n := ⟨k.toNat, by omega⟩
  refine set_add F N U hK rfl (by omega) hb0 hb2 fun h' ep' it' F' N' K' e0 e2 => h h' ep' it' F' N' K' ?_ ?_
  · rw [e0]; exact congrArg _ (decide_eq_decide.mpr (by omega))
  · rw [e2]; exact congrArg _ (decide_eq_decide.mpr (by omega))
theorem has_in0 {o : Obj} {t : Tok} {b0 b2 : Bool} {Q : Value → Shared → Prop} (N : News h₀ L s.heap news) (hm : (sa, o) ∈ news) (hs : SetHas prog w o b0 b2)
    (h : Q (.bool b0) { s with toks := s.toks + 1 }) : wpAny (model prog w) A (compareOp .In (.int 0 t) (.ref sa)) Q E s := by
  obtain ⟨S, n, hS, hn, e0, e2⟩ := hs
  refine wpAny_inSet_of (knd := intKind prog w) (k := 0) (intKind_is _ _ _ _) rfl (hS.setOf (N _ hm).1 hn) ?_
  rw [e0]; exact h
theorem has_in2 {o : Obj} {t : Tok} {b0 b2 : Bool} {Q : Value → Shared → Prop} (N : News h₀ L s.heap news) (hm : (sa, o) ∈ news) (hs : SetHas prog w o b0 b2)
    (h : Q (.bool b2) { s with toks := s.toks + 1 }) : wpAny (model prog w) A (compareOp .In (.int 2 t) (.ref sa)) Q E s := by
  obtain ⟨S, n, hS, hn, e0, e2⟩ := hs
  refine wpAny_inSet_of (knd := intKind prog w) (k := 2) (intKind_is _ _ _ _) rfl (hS.setOf (N _ hm).1 hn) ?_
  rw [e2]; exact h
theorem has_notin0 {o : Obj} {t : Tok} {b0 b2 : Bool} {Q : Value → Shared → Prop} (N : News h₀ L s.heap news) (hm : (sa, o) ∈ news) (hs : SetHas prog w o b0 b2)
    (h : Q (.bool (!b0)) { s with toks := s.toks + 1 }) : wpAny (model prog w) A (compareOp .NotIn (.int 0 t) (.ref sa)) Q E s := by
  obtain ⟨S, n, hS, hn, e0, e2⟩ := hs
  refine wpAny_notInSet_of (knd := intKind prog w) (k := 0) (intKind_is _ _ _ _) rfl (hS.setOf (N _ hm).1 hn) ?_
  rw [e0]; exact h
theorem kind_any {ns : List Int} (hr : ∀ n ∈ ns, 0 ≤ n ∧ n ≤ 2) : (ns.map kindI).any (· == 0) = decide (0 ∈ ns) ∧ (ns.map kindI).any (· == 2) = decide (1 ∈ ns) := by
  induction ns with
  | nil => simp
  | cons n r ih =>
    have hn := hr n (by simp)
    obtain ⟨i1, i2⟩ := ih fun k hk => hr k (by simp [hk])
    have h3 : n = 0 ∨ n = 1 ∨ n = 2 := by omega
    rw [List.map_cons, List.any_cons, List.any_cons, i1, i2]
    rcases h3 with rfl | rfl | rfl <;> simp [kindI]
theorem range_getD {l : List Int} : (List.range l.length).map (fun i => l.getD i 0) = l := by
  apply List.ext_getElem
  · simp
  · intro i h1 h2
    simp at h1 ⊢
    rw [List.getElem?_eq_getElem h1]; rfl
theorem set_list_N {which : Int} {l : Addr} {vs ys : List Value} {ns : List Int} {v : Bool} {Q : Value → Shared → Prop} (pk : RCtx which ns vs) (hw : which = 0 ∨ which = 1 ∨ which = 2) (F : Fr h₀ L s.heap m) (N : News h₀ L s.heap news)
    (hh : A.handled = none) (hl : s.heap.IsList l ys.toArray) (hi : IntsAre ys (ns.map kindI)) (hv : dueB which ns = v)
    (h : ∀ D o h' tk b0 b2, Fr h₀ L h' m → News h₀ L h' ((D, o) :: news) → SetHas prog w o b0 b2 → v = finB which b0 b2 → Q (.ref D) { s with heap := h', toks := tk }) :
    wpAny (model prog w) A (call (.type "set") [.ref l]) Q E s := by
  have hlen := IntsAre.length hi
  have hb : ns.length ≤ 1000 := pk.2.1.1
  refine PySem.call_set_list (items := ys.toArray) (ns := ns.map kindI) hh hl (by simpa using hi) (by unfold scanBound; simp [hlen]; omega) fun h' tk hS hk => ?_
  obtain ⟨o, ho, hso⟩ := hS.objOf
  obtain ⟨oL, _, _, hL, _⟩ := F.ns
  have hLlt : L < s.heap.objs.size := Heap.lt_size hL
  have hsz : ys.toArray.size = (ns.map kindI).length := by rw [List.size_toArray, hlen]
  obtain ⟨k0, k2⟩ := kind_any pk.2.1.2
  have hany : ∀ k : Int, (firstMet (fun i => (ns.map kindI).getD i 0) ys.toArray.size).any (· == k) = (ns.map kindI).any (· == k) := fun k => by
    rw [firstMet_any, hsz, range_getD]
  refine h _ o h' tk (decide (0 ∈ ns)) (decide (1 ∈ ns)) ⟨F.ns.at' fun o' e => hk L o' hLlt e, fun b o' e => hk b o' (Heap.lt_size (F.keep b o' e)) (F.keep b o' e), F.above⟩ (fun p hp => ?_) ⟨_, _, hso, ?_, ?_, ?_⟩ ?_
  · rcases List.mem_cons.mp hp with rfl | hp
    · refine ⟨ho, Nat.ne_of_gt hLlt, ?_⟩
      cases hq : h₀.get? s.heap.objs.size with
      | none => rfl
      | some o' => exact absurd (Heap.lt_size (F.keep _ _ hq)) (Nat.lt_irrefl _)
    · exact ⟨hk _ _ (Heap.lt_size (N p hp).1) (N p hp).1, (N p hp).2.1, (N p hp).2.2⟩
  · have := firstMet_length_le (fun i => (ns.map kindI).getD i 0) ys.toArray.size
    rw [hsz, List.length_map] at this
    unfold scanBound; rw [hsz, List.length_map]; omega
  · show (firstMet _ _).any (· == 0) = _
    rw [hany, k0]
  · show (firstMet _ _).any (· == 2) = _
    rw [hany, k2]
  · rw [← hv]; rcases hw with rfl | rfl | rfl
    · rfl
    · rfl
    · exact Bool.and_comm _ _
end
end
section
open PySem PySem.W PySem.Calls PyProof.Rows
theorem use_due {w : World} {A A₀ : Around} {base h₀ : Heap} {outer : List Env} {L : Addr} {m mg mb : Str → Option Value} {mean : ExcName → Option Value} {cn : Str} {cs : Scope} {a : Addr} {ccd : Value} {cl : List (Str × Addr)} {s : Shared} {Q E : Value → Shared → Prop}
    {news : List (Addr × Obj)} {which : Int} {t : Tok} {l : Addr} {vs : List Value} {ns : List Int} (pk : RCtx which ns vs)
    (hA : A = ktrTop 303 10 (some []) cn cs L a ccd cl outer) (F : Fr h₀ L s.heap m) (B : Below A₀ base outer h₀) (N : News h₀ L s.heap news) (X : (hd.heap_39 w.params).In h₀) (T : Top hd.view_39 (looseW hd.view_39 [Str.ofString "Effector"]) mean mg mb h₀)
    (hcs : cs.kind = .function) (hl : s.heap.IsList l vs.toArray)
    (h : ∀ h' tk, Fr h₀ L h' m → News h₀ L h' news → Q (.bool (dueB which ns)) { s with heap := h', toks := tk }) :
    wpAny (model PySem.Challenge.rw_je0036_01.row.prog w) A (call (.ref 172) [.int which t, .ref l]) Q E s := by
  subst hA
  refine due_spec w which t l vs ns pk.1 pk.2.1 pk.2.2 mean mg mb cn cs a ccd cl outer A₀ base h₀ L m s Q E B F X T hcs hl fun v h' tk k e => ?_
  subst e
  exact h h' tk (F.keeps k) (N.grown k)
local macro_rules | `(tactic| walk_at "Done") => `(tactic| (refine Done.intro (by assumption) ?_))
local macro_rules | `(tactic| walk_at "call ref") => `(tactic| ((with_reducible show wpAny _ _ (call (Value.ref 172) _) _ _ _); k_dflt (refine use_due (by assumption) (by exact rfl) (by k_asm) (by k_asm) (by k_asm) (by k_asm) (by k_asm) (by exact rfl) (by is_list) ?_); intro _ _ _ _; (try k_sweep); (try dsimp only)))
local macro_rules | `(tactic| walk_at "call type:set nil nil") => `(tactic| (k_dflt (refine newset_N (by k_asm) (by k_asm) ?_); intro d' h' F' N' l1; (try k_lt l1); (try k_sweep); (try dsimp only)))
local macro_rules | `(tactic| walk_at "exec For Name Name cons nil") => `(tactic| ((with_reducible show wpAny _ _ (exec (Stmt.For (Expr.Name (Str.ofString "one") _) _ _ _ _) _) _ _ _); (with_unfolding_all refine For_invVF (by k_asm) (by exact rfl) (by exact rfl) ?_)))
local macro_rules | `(tactic| walk_at "eval ListComp") => `(tactic| k_dflt (refine LCg.ListComp_U (F₀ := by k_asm) (by with_unfolding_all rfl) (by decide) (by rfl) (by decide) (by rfl) ?_))
theorem fin0 {v b0 b2 : Bool} (h : v = finB 0 b0 b2) : b0 = v := by rw [h]; rfl
theorem fin1 {v b0 b2 : Bool} (h : v = finB 1 b0 b2) : b2 = !v := by rw [h]; cases b2 <;> rfl
theorem row_size {which : Int} {ns : List Int} {vs : List Value} (h : RCtx which ns vs) : vs.toArray.size ≤ sizeLine := by
  have := IntsAre.length h.1; have := h.2.1.1; rw [sizeLine_eq]; simp; omega
theorem kind_fin {which : Int} {ns : List Int} {vs ys : List Value} (h : RCtx which ns vs) (k : KindInv ns vs.toArray.size ys) : IntsAre ys (ns.map kindI) := by
  have := IntsAre.length h.1
  have hsz : vs.toArray.size = ns.length := by simp [this]
  unfold KindInv at k
  rwa [hsz, List.take_length] at k
theorem row_at {which : Int} {ns : List Int} {vs : List Value} {i : Nat} {v : Value} (h : RCtx which ns vs) (hv : vs.toArray[i]? = some v) : ∃ t n, ns[i]? = some n ∧ v = .int n t ∧ (n = 0 ∨ n = 1 ∨ n = 2) := by
  have hv' : vs[i]? = some v := by simpa using hv
  obtain ⟨t, e⟩ := IntsAre.int_at h.1 i v hv'
  have hlt : i < vs.length := (List.getElem?_eq_some_iff.mp hv').1
  have hl := IntsAre.length h.1
  have hlt' : i < ns.length := by omega
  have hn : ns[i]? = some ns[i] := List.getElem?_eq_getElem hlt'
  have hr := h.2.1.2 _ (List.mem_of_getElem? hn)
  refine ⟨t, ns[i], hn, ?_, by omega⟩
  rw [e, List.getD_eq_getElem?_getD, hn]; rfl
local macro_rules | `(tactic| walk_at "call type:set cons nil") => `(tactic| (k_dflt ((refine set_list_N (by assumption) (by decide) (by k_asm) (by k_asm) (by exact rfl) (by is_list) (kind_fin (by assumption) (by assumption)) (by assumption) ?_); intro _ _ _ _ b0 b2 _ _ _ hq; first | cases fin0 hq | cases fin1 hq | (cases b2; cases b0; all_goals cases hq)); (all_goals (try k_sweep)); (all_goals (try dsimp only))))
theorem row_of {which : Int} {ns : List Int} {vs : List Value} (h : RCtx which ns vs) : ∀ n ∈ ns, 0 ≤ n ∧ n ≤ 2 := h.2.1.2
theorem und_of {which : Int} {ns : List Int} {i : Nat} {b0 b2 : Bool} (h : PInv which ns i b0 b2) : Und which b0 b2 := h.2.2
local macro_rules | `(tactic| walk_at "getMethod ref") => `(tactic| ((with_reducible show wpAny _ _ (getMethod _ (Str.ofString "add") _) _ _ _); k_dflt (refine set_method (by k_asm) (by k_mem) (by assumption) ?_)))
local macro_rules | `(tactic| walk_at "call builtin:set.add") => `(tactic| (k_dflt (refine set_put (by k_asm) (by k_asm) (by k_updF) (by assumption) (by assumption) (by assumption) (by decide) ?_); intro _ _ _ _ N _ h0 h2; (simp +decide only [decide_true, decide_false, Bool.or_true, Bool.or_false, Bool.true_or, Bool.false_or] at h0 h2); (try dsimp only at N); (try k_sweep); (try dsimp only)))
local macro_rules | `(tactic| walk_at "S") => `(tactic| first | assumption | exact setHas_of (by assumption) (by assumption) (by assumption))
local macro_rules | `(tactic| walk_at "compareOp In int ref") => `(tactic| (k_dflt (first | ((with_reducible show wpAny _ _ (compareOp _ (Value.int 0 _) _) _ _ _); refine has_in0 (by k_asm) (by k_mem) (by walk_at "S") ?_) | refine has_in2 (by k_asm) (by k_mem) (by walk_at "S") ?_); (try dsimp only)))
local macro_rules | `(tactic| walk_at "compareOp NotIn int ref") => `(tactic| (k_dflt (refine has_notin0 (by k_asm) (by k_mem) (by walk_at "S") ?_); (try simp only [Bool.not_true, Bool.not_false]); (try dsimp only)))
local macro_rules | `(tactic| walk_at "eval ListComp") => `(tactic| ((with_reducible show wpAny _ _ (eval (Expr.ListComp (Expr.Name (Str.ofString "other") _) _ _ _) _) _ _ _); k_dflt (refine ListComp_set (by k_asm) (by with_unfolding_all rfl) (by decide) (by rfl) (by decide) (by rfl) ?_)))
local macro_rules | `(tactic| walk_at "CompEnd") => `(tactic| (k_dflt (refine LCg.CompEnd.intro (by assumption) (by assumption) _ (by intro p hp; first | exact hp | exact List.mem_cons_of_mem _ hp) (by assumption) (by first | k_mem | exact .inl (by assumption)) ⟨rfl, ?_⟩); (try exact rfl)))
local macro_rules | `(tactic| walk_at "TPost") => `(tactic| dsimp only [TPost])
local macro_rules | `(tactic| walk_at "TEnd") => `(tactic| k_dflt (refine TEnd.intro (by k_asm) (by k_asm) (by (try dsimp only); k_subL) (by assumption) (by intro p hp; repeat (first | exact hp | refine List.mem_cons_of_mem _ ?_)) (by assumption) (by assumption) (by first | exact pinv_2 (by assumption) (by assumption) | exact pinv_0 (by assumption) (by assumption) (by decide) | exact pinv_1 (by assumption) (by assumption) (by decide) | exact ginv_0 (row_of (by assumption)) (by assumption) (by assumption) (by decide) | exact ginv_1 (row_of (by assumption)) (by assumption) (by assumption) (by decide)) (fun z h1 h2 => by first | rfl | simp [h1, h2])))
set_option maxRecDepth 100000 in
set_option maxHeartbeats 4000000 in
theorem right_spec0 (w : World) (tw : Tok) (l : Addr) (vs : List Value) (ns : List Int) (pk : RCtx 0 ns vs) : Spec 302 7 w 191 [.int 0 tw, .ref l] (fun h => h.IsList l vs.toArray) (fun v _ => v = .bool true) := by
  w_top off
  have kf : (PySem.Challenge.rw_je0036_01.row.prog = PySem.Challenge.rw_je0036_01.row.prog ∧ hd.heap_39 = hd.heap_39) := by
    k_fill
    exact ⟨rfl, rfl⟩
  clear kf
  refine' specC_of ?ho ?hcd ?hroom ?hbind ?hkind ?hnd ?c1 ?c2 ?c3 ?h
  (case ho => k_is)
  (case hcd => k_is)
  (case hroom => decide)
  (case hbind => intro s; exact BindsTo.of_eq rfl)
  (case hkind => exact rfl)
  (case hnd => decide +kernel)
  (case c1 => exact rfl)
  (case c2 => exact rfl); (case c3 => exact rfl)
  intro mean mg mb cn cs a ccd cl outer base L₀ s E L h₁ tk cells B F N Y X T hp
  k_cells Y
  (try simp only [List.cons_append, List.nil_append] at N)
  try dsimp only
  k_steps
  (rename Fr _ _ _ _ => lF'); (rename News _ _ _ _ => lN'); (rename RCtx _ _ _ => pk')
  k_dflt (refine' iter_right2 (y := Str.ofString "told") (Str.ofString "seen") pk' ?zhh ?zhl lF' lN' ?zsn ?zU ?zturn ?zdone)
  (case zhh => exact rfl)
  (case zhl => assumption)
  (case zsn => exact rfl)
  (case zU => k_updF)
  case zturn =>
    intro i' n' t' u' h' tk' own' it' ep' b0' b2' hn' h3' hP' hK' hb0' hb2' hoff' F' N'
    clear lF' lN'
    have hu' := und_of hP'
    simp +decide only [Und, if_true, if_false] at hu'
    (try simp only [List.nil_append, List.cons_append, List.append_nil] at N'); (try dsimp only)
    rcases h3' with rfl | rfl | rfl
    all_goals first | (obtain ⟨hu1', hu2'⟩ := hu'; subst hu1'; subst hu2') | subst hu'
    all_goals (try k_fold)
    all_goals k_steps
    all_goals
      (refine' src_set_here ?zh ?zF ?zN ?zm ?zK ?zb ?zkeep ?zdrop ?zfin
       (case zh => exact rfl)
       (case zF => k_asm)
       (case zN => k_asm)
       (case zm => k_mem)
       (case zK => assumption)
       (case zb => first | exact Or.inl (by assumption) | exact Or.inr (by assumption))
       (case zkeep =>
         intro k' hk' t' g' ys' I' oI' C' oC' D' m' h' tk' E' hC' hx' F' N' off' ne'
         rcases hk' with rfl | rfl
         all_goals k_steps)
       (case zdrop =>
         intro t' g' ys' I' oI' C' oC' D' m' h' tk' E' hC' hx' F' N' off' ne'
         k_steps)
       (case zfin =>
         intro y' r' D' h' tk' hr' F' N' off'
         rcases hr' with rfl | ⟨y1', rfl⟩ | ⟨y1', y2', rfl⟩
         all_goals k_steps))
  case zdone =>
    intro u' h' tk' it' ep' b0' b2' hK' hb0' hb2' hd' F' N'
    clear lF' lN'
    (try dsimp only at N'); (try dsimp only)
    cases b0'
    all_goals (simp +decide only [finB, if_true, if_false, Bool.not_true, Bool.not_false, Bool.and_true, Bool.and_false, Bool.true_and, Bool.false_and] at hd')
    all_goals (try (rw [hd'] at F'))
    all_goals (try k_fold)
    all_goals k_steps
    all_goals (try dsimp only)
    all_goals
      (rename RCtx _ _ _ => pk'
       refine' LCg.CompSrc.base ?zh ?zF ?zN ?zl ?zs ?_
       (case zh => exact rfl)
       (case zF => k_asm)
       (case zN => k_asm)
       (case zl => assumption)
       (case zs => exact row_size pk')
       intro g'
       refine' compRest_inv (KindInv ns) .nil ?_ ?_
       · intro ys' hys' D' h' tk' F' N' off'
         (try dsimp only)
         k_steps
       · intro i' ys' v' I' oI' C' oC' D' m' h' tk' E' hlt' hI' hv' hC' hx' F' N' off' ne'
         obtain ⟨t', n', hn', rfl, h3'⟩ := row_at (by assumption) hv'
         rcases h3' with rfl | rfl | rfl
         all_goals (try dsimp only)
         all_goals k_steps
         all_goals exact kindInv_next hI' hn' (by decide))
set_option maxRecDepth 100000 in
set_option maxHeartbeats 4000000 in
theorem right_spec1 (w : World) (tw : Tok) (l : Addr) (vs : List Value) (ns : List Int) (pk : RCtx 1 ns vs) : Spec 302 7 w 191 [.int 1 tw, .ref l] (fun h => h.IsList l vs.toArray) (fun v _ => v = .bool true) := by
  w_top off
  have kf : (PySem.Challenge.rw_je0036_01.row.prog = PySem.Challenge.rw_je0036_01.row.prog ∧ hd.heap_39 = hd.heap_39) := by
    k_fill
    exact ⟨rfl, rfl⟩
  clear kf
  refine' specC_of ?ho ?hcd ?hroom ?hbind ?hkind ?hnd ?c1 ?c2 ?c3 ?h
  (case ho => k_is)
  (case hcd => k_is)
  (case hroom => decide)
  (case hbind => intro s; exact BindsTo.of_eq rfl)
  (case hkind => exact rfl)
  (case hnd => decide +kernel)
  (case c1 => exact rfl)
  (case c2 => exact rfl); (case c3 => exact rfl)
  intro mean mg mb cn cs a ccd cl outer base L₀ s E L h₁ tk cells B F N Y X T hp
  k_cells Y
  (try simp only [List.cons_append, List.nil_append] at N)
  try dsimp only
  k_steps
  (rename Fr _ _ _ _ => lF'); (rename News _ _ _ _ => lN'); (rename RCtx _ _ _ => pk')
  k_dflt (refine' iter_right2 (y := Str.ofString "told") (Str.ofString "seen") pk' ?zhh ?zhl lF' lN' ?zsn ?zU ?zturn ?zdone)
  (case zhh => exact rfl)
  (case zhl => assumption)
  (case zsn => exact rfl)
  (case zU => k_updF)
  case zturn =>
    intro i' n' t' u' h' tk' own' it' ep' b0' b2' hn' h3' hP' hK' hb0' hb2' hoff' F' N'
    clear lF' lN'
    have hu' := und_of hP'
    simp +decide only [Und, if_true, if_false] at hu'
    (try simp only [List.nil_append, List.cons_append, List.append_nil] at N'); (try dsimp only)
    rcases h3' with rfl | rfl | rfl
    all_goals first | (obtain ⟨hu1', hu2'⟩ := hu'; subst hu1'; subst hu2') | subst hu'
    all_goals (try k_fold)
    all_goals k_steps
    all_goals
      (refine' src_set_here ?zh ?zF ?zN ?zm ?zK ?zb ?zkeep ?zdrop ?zfin
       (case zh => exact rfl)
       (case zF => k_asm)
       (case zN => k_asm)
       (case zm => k_mem)
       (case zK => assumption)
       (case zb => first | exact Or.inl (by assumption) | exact Or.inr (by assumption))
       (case zkeep =>
         intro k' hk' t' g' ys' I' oI' C' oC' D' m' h' tk' E' hC' hx' F' N' off' ne'
         rcases hk' with rfl | rfl
         all_goals k_steps)
       (case zdrop =>
         intro t' g' ys' I' oI' C' oC' D' m' h' tk' E' hC' hx' F' N' off' ne'
         k_steps)
       (case zfin =>
         intro y' r' D' h' tk' hr' F' N' off'
         rcases hr' with rfl | ⟨y1', rfl⟩ | ⟨y1', y2', rfl⟩
         all_goals k_steps))
  case zdone =>
    intro u' h' tk' it' ep' b0' b2' hK' hb0' hb2' hd' F' N'
    clear lF' lN'
    (try dsimp only at N'); (try dsimp only)
    cases b2'
    all_goals (simp +decide only [finB, if_true, if_false, Bool.not_true, Bool.not_false, Bool.and_true, Bool.and_false, Bool.true_and, Bool.false_and] at hd')
    all_goals (try (rw [hd'] at F'))
    all_goals (try k_fold)
    all_goals k_steps
    all_goals (try dsimp only)
    all_goals
      (rename RCtx _ _ _ => pk'
       refine' LCg.CompSrc.base ?zh ?zF ?zN ?zl ?zs ?_
       (case zh => exact rfl)
       (case zF => k_asm)
       (case zN => k_asm)
       (case zl => assumption)
       (case zs => exact row_size pk')
       intro g'
       refine' compRest_inv (KindInv ns) .nil ?_ ?_
       · intro ys' hys' D' h' tk' F' N' off'
         (try dsimp only)
         k_steps
       · intro i' ys' v' I' oI' C' oC' D' m' h' tk' E' hlt' hI' hv' hC' hx' F' N' off' ne'
         obtain ⟨t', n', hn', rfl, h3'⟩ := row_at (by assumption) hv'
         rcases h3' with rfl | rfl | rfl
         all_goals (try dsimp only)
         all_goals k_steps
         all_goals exact kindInv_next hI' hn' (by decide))
set_option maxRecDepth 100000 in
set_option maxHeartbeats 4000000 in
theorem right_spec2 (w : World) (tw : Tok) (l : Addr) (vs : List Value) (ns : List Int) (pk : RCtx 2 ns vs) : Spec 302 7 w 191 [.int 2 tw, .ref l] (fun h => h.IsList l vs.toArray) (fun v _ => v = .bool true) := by
  w_top off
  have kf : (PySem.Challenge.rw_je0036_01.row.prog = PySem.Challenge.rw_je0036_01.row.prog ∧ hd.heap_39 = hd.heap_39) := by
    k_fill
    exact ⟨rfl, rfl⟩
  clear kf
  refine' specC_of ?ho ?hcd ?hroom ?hbind ?hkind ?hnd ?c1 ?c2 ?c3 ?h
  (case ho => k_is)
  (case hcd => k_is)
  (case hroom => decide)
  (case hbind => intro s; exact BindsTo.of_eq rfl)
  (case hkind => exact rfl)
  (case hnd => decide +kernel)
  (case c1 => exact rfl)
  (case c2 => exact rfl); (case c3 => exact rfl)
  intro mean mg mb cn cs a ccd cl outer base L₀ s E L h₁ tk cells B F N Y X T hp
  k_cells Y
  (try simp only [List.cons_append, List.nil_append] at N)
  try dsimp only
  k_steps
  (rename Fr _ _ _ _ => lF'); (rename News _ _ _ _ => lN'); (rename RCtx _ _ _ => pk')
  k_dflt (refine' iter_right2 (y := Str.ofString "told") (Str.ofString "seen") pk' ?zhh ?zhl lF' lN' ?zsn ?zU ?zturn ?zdone)
  (case zhh => exact rfl)
  (case zhl => assumption)
  (case zsn => exact rfl)
  (case zU => k_updF)
  case zturn =>
    intro i' n' t' u' h' tk' own' it' ep' b0' b2' hn' h3' hP' hK' hb0' hb2' hoff' F' N'
    clear lF' lN'
    have hu' := und_of hP'
    simp +decide only [Und, if_true, if_false] at hu'
    (try simp only [List.nil_append, List.cons_append, List.append_nil] at N'); (try dsimp only)
    rcases h3' with rfl | rfl | rfl
    all_goals first | (obtain ⟨hu1', hu2'⟩ := hu'; subst hu1'; subst hu2') | subst hu'
    all_goals (try k_fold)
    all_goals k_steps
    all_goals
      (refine' src_set_here ?zh ?zF ?zN ?zm ?zK ?zb ?zkeep ?zdrop ?zfin
       (case zh => exact rfl)
       (case zF => k_asm)
       (case zN => k_asm)
       (case zm => k_mem)
       (case zK => assumption)
       (case zb => first | exact Or.inl (by assumption) | exact Or.inr (by assumption))
       (case zkeep =>
         intro k' hk' t' g' ys' I' oI' C' oC' D' m' h' tk' E' hC' hx' F' N' off' ne'
         rcases hk' with rfl | rfl
         all_goals k_steps)
       (case zdrop =>
         intro t' g' ys' I' oI' C' oC' D' m' h' tk' E' hC' hx' F' N' off' ne'
         k_steps)
       (case zfin =>
         intro y' r' D' h' tk' hr' F' N' off'
         rcases hr' with rfl | ⟨y1', rfl⟩ | ⟨y1', y2', rfl⟩
         all_goals k_steps))
  case zdone =>
    intro u' h' tk' it' ep' b0' b2' hK' hb0' hb2' hd' F' N'
    clear lF' lN'
    (try dsimp only at N'); (try dsimp only)
    cases b2'
    cases b0'
    all_goals (simp +decide only [finB, if_true, if_false, Bool.not_true, Bool.not_false, Bool.and_true, Bool.and_false, Bool.true_and, Bool.false_and] at hd')
    all_goals (try (rw [hd'] at F'))
    all_goals (try k_fold)
    all_goals k_steps
    all_goals (try dsimp only)
    all_goals
      (rename RCtx _ _ _ => pk'
       refine' LCg.CompSrc.base ?zh ?zF ?zN ?zl ?zs ?_
       (case zh => exact rfl)
       (case zF => k_asm)
       (case zN => k_asm)
       (case zl => assumption)
       (case zs => exact row_size pk')
       intro g'
       refine' compRest_inv (KindInv ns) .nil ?_ ?_
       · intro ys' hys' D' h' tk' F' N' off'
         (try dsimp only)
         k_steps
       · intro i' ys' v' I' oI' C' oC' D' m' h' tk' E' hlt' hI' hv' hC' hx' F' N' off' ne'
         obtain ⟨t', n', hn', rfl, h3'⟩ := row_at (by assumption) hv'
         rcases h3' with rfl | rfl | rfl
         all_goals (try dsimp only)
         all_goals k_steps
         all_goals exact kindInv_next hI' hn' (by decide))
set_option maxRecDepth 100000 in
set_option maxHeartbeats 4000000 in
theorem right_spec3 (w : World) (tw : Tok) (l : Addr) (vs : List Value) (ns : List Int) (pk : RCtx 3 ns vs) : Spec 302 7 w 191 [.int 3 tw, .ref l] (fun h => h.IsList l vs.toArray) (fun v _ => v = .bool true) := by
  w_top off
  have kf : (PySem.Challenge.rw_je0036_01.row.prog = PySem.Challenge.rw_je0036_01.row.prog ∧ hd.heap_39 = hd.heap_39) := by
    k_fill
    exact ⟨rfl, rfl⟩
  clear kf
  refine' specC_of ?ho ?hcd ?hroom ?hbind ?hkind ?hnd ?c1 ?c2 ?c3 ?h
  (case ho => k_is)
  (case hcd => k_is)
  (case hroom => decide)
  (case hbind => intro s; exact BindsTo.of_eq rfl)
  (case hkind => exact rfl)
  (case hnd => decide +kernel)
  (case c1 => exact rfl)
  (case c2 => exact rfl); (case c3 => exact rfl)
  intro mean mg mb cn cs a ccd cl outer base L₀ s E L h₁ tk cells B F N Y X T hp
  k_cells Y
  (try simp only [List.cons_append, List.nil_append] at N)
  try dsimp only
  k_steps
  (rename Fr _ _ _ _ => lF'); (rename News _ _ _ _ => lN'); (rename RCtx _ _ _ => pk')
  k_dflt (refine' iter_right2 (y := Str.ofString "told") (Str.ofString "seen") pk' ?zhh ?zhl lF' lN' ?zsn ?zU ?zturn ?zdone)
  (case zhh => exact rfl)
  (case zhl => assumption)
  (case zsn => exact rfl)
  (case zU => k_updF)
  case zturn =>
    intro i' n' t' u' h' tk' own' it' ep' b0' b2' hn' h3' hP' hK' hb0' hb2' hoff' F' N'
    clear lF' lN'
    have hu' := und_of hP'
    simp +decide only [Und, if_true, if_false] at hu'
    (try simp only [List.nil_append, List.cons_append, List.append_nil] at N'); (try dsimp only)
    rcases h3' with rfl | rfl | rfl
    all_goals first | (obtain ⟨hu1', hu2'⟩ := hu'; subst hu1'; subst hu2') | subst hu'
    all_goals (try k_fold)
    all_goals k_steps
    all_goals
      (refine' src_set_here ?zh ?zF ?zN ?zm ?zK ?zb ?zkeep ?zdrop ?zfin
       (case zh => exact rfl)
       (case zF => k_asm)
       (case zN => k_asm)
       (case zm => k_mem)
       (case zK => assumption)
       (case zb => first | exact Or.inl (by assumption) | exact Or.inr (by assumption))
       (case zkeep =>
         intro k' hk' t' g' ys' I' oI' C' oC' D' m' h' tk' E' hC' hx' F' N' off' ne'
         rcases hk' with rfl | rfl
         all_goals k_steps)
       (case zdrop =>
         intro t' g' ys' I' oI' C' oC' D' m' h' tk' E' hC' hx' F' N' off' ne'
         k_steps)
       (case zfin =>
         intro y' r' D' h' tk' hr' F' N' off'
         rcases hr' with rfl | ⟨y1', rfl⟩ | ⟨y1', y2', rfl⟩
         all_goals k_steps))
  case zdone =>
    intro u' h' tk' it' ep' b0' b2' hK' hb0' hb2' hd' F' N'
    clear lF' lN'
    (try dsimp only at N'); (try dsimp only)
    cases b0'
    cases b2'
    all_goals (simp +decide only [finB, if_true, if_false, Bool.not_true, Bool.not_false, Bool.and_true, Bool.and_false, Bool.true_and, Bool.false_and] at hd')
    all_goals (try (rw [hd'] at F'))
    all_goals (try k_fold)
    all_goals k_steps
    all_goals (try dsimp only)
    all_goals
      (rename RCtx _ _ _ => pk'
       refine' LCg.CompSrc.base ?zh ?zF ?zN ?zl ?zs ?_
       (case zh => exact rfl)
       (case zF => k_asm)
       (case zN => k_asm)
       (case zl => assumption)
       (case zs => exact row_size pk')
       intro g'
       refine' compRest_inv (KindInv ns) .nil ?_ ?_
       · intro ys' hys' D' h' tk' F' N' off'
         (try dsimp only)
         k_steps
       · intro i' ys' v' I' oI' C' oC' D' m' h' tk' E' hlt' hI' hv' hC' hx' F' N' off' ne'
         obtain ⟨t', n', hn', rfl, h3'⟩ := row_at (by assumption) hv'
         rcases h3' with rfl | rfl | rfl
         all_goals (try dsimp only)
         all_goals k_steps
         all_goals exact kindInv_next hI' hn' (by decide))
set_option maxRecDepth 100000 in
set_option maxHeartbeats 4000000 in
theorem right_spec4 (w : World) (tw : Tok) (l : Addr) (vs : List Value) (ns : List Int) (pk : RCtx 4 ns vs) : Spec 302 7 w 191 [.int 4 tw, .ref l] (fun h => h.IsList l vs.toArray) (fun v _ => v = .bool true) := by
  w_top off
  have kf : (PySem.Challenge.rw_je0036_01.row.prog = PySem.Challenge.rw_je0036_01.row.prog ∧ hd.heap_39 = hd.heap_39) := by
    k_fill
    exact ⟨rfl, rfl⟩
  clear kf
  refine' specC_of ?ho ?hcd ?hroom ?hbind ?hkind ?hnd ?c1 ?c2 ?c3 ?h
  (case ho => k_is)
  (case hcd => k_is)
  (case hroom => decide)
  (case hbind => intro s; exact BindsTo.of_eq rfl)
  (case hkind => exact rfl)
  (case hnd => decide +kernel)
  (case c1 => exact rfl)
  (case c2 => exact rfl); (case c3 => exact rfl)
  intro mean mg mb cn cs a ccd cl outer base L₀ s E L h₁ tk cells B F N Y X T hp
  k_cells Y
  (try simp only [List.cons_append, List.nil_append] at N)
  try dsimp only
  k_steps
  (rename Fr _ _ _ _ => lF'); (rename News _ _ _ _ => lN'); (rename RCtx _ _ _ => pk')
  k_dflt (refine' iter_right2 (y := Str.ofString "told") (Str.ofString "seen") pk' ?zhh ?zhl lF' lN' ?zsn ?zU ?zturn ?zdone)
  (case zhh => exact rfl)
  (case zhl => assumption)
  (case zsn => exact rfl)
  (case zU => k_updF)
  case zturn =>
    intro i' n' t' u' h' tk' own' it' ep' b0' b2' hn' h3' hP' hK' hb0' hb2' hoff' F' N'
    clear lF' lN'
    have hu' := und_of hP'
    simp +decide only [Und, if_true, if_false] at hu'
    (try simp only [List.nil_append, List.cons_append, List.append_nil] at N'); (try dsimp only)
    rcases h3' with rfl | rfl | rfl
    all_goals first | (obtain ⟨hu1', hu2'⟩ := hu'; subst hu1'; subst hu2') | subst hu'
    all_goals (try k_fold)
    all_goals k_steps
    all_goals
      (refine' src_set_here ?zh ?zF ?zN ?zm ?zK ?zb ?zkeep ?zdrop ?zfin
       (case zh => exact rfl)
       (case zF => k_asm)
       (case zN => k_asm)
       (case zm => k_mem)
       (case zK => assumption)
       (case zb => first | exact Or.inl (by assumption) | exact Or.inr (by assumption))
       (case zkeep =>
         intro k' hk' t' g' ys' I' oI' C' oC' D' m' h' tk' E' hC' hx' F' N' off' ne'
         rcases hk' with rfl | rfl
         all_goals k_steps)
       (case zdrop =>
         intro t' g' ys' I' oI' C' oC' D' m' h' tk' E' hC' hx' F' N' off' ne'
         k_steps)
       (case zfin =>
         intro y' r' D' h' tk' hr' F' N' off'
         rcases hr' with rfl | ⟨y1', rfl⟩ | ⟨y1', y2', rfl⟩
         all_goals k_steps))
  case zdone =>
    intro u' h' tk' it' ep' b0' b2' hK' hb0' hb2' hd' F' N'
    clear lF' lN'
    (try dsimp only at N'); (try dsimp only)
    cases b0'
    cases b2'
    all_goals (simp +decide only [finB, if_true, if_false, Bool.not_true, Bool.not_false, Bool.and_true, Bool.and_false, Bool.true_and, Bool.false_and] at hd')
    all_goals (try (rw [hd'] at F'))
    all_goals (try k_fold)
    all_goals k_steps
    all_goals (try dsimp only)
    all_goals
      (rename RCtx _ _ _ => pk'
       refine' LCg.CompSrc.base ?zh ?zF ?zN ?zl ?zs ?_
       (case zh => exact rfl)
       (case zF => k_asm)
       (case zN => k_asm)
       (case zl => assumption)
       (case zs => exact row_size pk')
       intro g'
       refine' compRest_inv (KindInv ns) .nil ?_ ?_
       · intro ys' hys' D' h' tk' F' N' off'
         (try dsimp only)
         k_steps
       · intro i' ys' v' I' oI' C' oC' D' m' h' tk' E' hlt' hI' hv' hC' hx' F' N' off' ne'
         obtain ⟨t', n', hn', rfl, h3'⟩ := row_at (by assumption) hv'
         rcases h3' with rfl | rfl | rfl
         all_goals (try dsimp only)
         all_goals k_steps
         all_goals exact kindInv_next hI' hn' (by decide))
theorem right_spec (w : World) (which : Int) (t : Tok) (l : Addr) (vs : List Value) (ns : List Int) (h0 : 0 ≤ which) (h4 : which ≤ 4) (hi : IntsAre vs ns) (hr : RowOk ns) :
    Spec 302 7 w 191 [.int which t, .ref l] (fun h => h.IsList l vs.toArray) (fun v _ => v = .bool true) := by
  have hw : which = 0 ∨ which = 1 ∨ which = 2 ∨ which = 3 ∨ which = 4 := by omega
  rcases hw with rfl | rfl | rfl | rfl | rfl
  · exact right_spec0 w t l vs ns ⟨hi, hr, .inl rfl⟩
  · exact right_spec1 w t l vs ns ⟨hi, hr, .inr (.inl rfl)⟩
  · exact right_spec2 w t l vs ns ⟨hi, hr, .inr (.inr (.inl rfl))⟩
  · exact right_spec3 w t l vs ns ⟨hi, hr, .inr (.inr (.inr (.inl rfl)))⟩
  · exact right_spec4 w t l vs ns ⟨hi, hr, .inr (.inr (.inr (.inr rfl)))⟩
end
section
open PySem PySem.W PySem.Calls PyProof.Rows
def CutI (s : Shared) (v : Value) (s' : Shared) : Prop := ∃ x t tk, v = .int x t ∧ (0 : Int) ≤ x ∧ s' = { s with toks := tk }
theorem CutI.intro {s : Shared} {x : Int} {t : Tok} {tk : Nat} (h : 0 ≤ x) : CutI s (.int x t) { s with toks := tk } := ⟨x, t, tk, rfl, h, rfl⟩
theorem cutInt {M : Model} {A : Around} {c : Sem Value} {Q : Value → Shared → Prop} {E : Value → Shared → Prop} {s : Shared}
    (h1 : wpAny M A c (CutI s) E s) (h2 : ∀ x t tk, 0 ≤ x → Q (.int x t) { s with toks := tk }) : wpAny M A c Q E s :=
  wpAny_mono h1 (fun v s' ⟨x, t, tk, e1, e2, e3⟩ => by subst e1; subst e3; exact h2 x t tk e2) fun _ _ h => h
theorem use_right {w : World} {A A₀ : Around} {base h₀ : Heap} {outer : List Env} {L : Addr} {m mg mb : Str → Option Value} {mean : ExcName → Option Value} {cn : Str} {cs : Scope} {a : Addr} {ccd : Value} {cl : List (Str × Addr)} {s : Shared} {Q E : Value → Shared → Prop}
    {news : List (Addr × Obj)} {which : Int} {t : Tok} {l : Addr} {vs : List Value} {ns : List Int}
    (hA : A = ktrTop 302 7 (some []) cn cs L a ccd cl outer) (F : Fr h₀ L s.heap m) (B : Below A₀ base outer h₀) (N : News h₀ L s.heap news) (X : (hd.heap_39 w.params).In h₀) (T : Top hd.view_39 (looseW hd.view_39 [Str.ofString "Effector"]) mean mg mb h₀)
    (hcs : cs.kind = .function) (hl : s.heap.IsList l vs.toArray) (hi : IntsAre vs ns) (h04 : 0 ≤ which ∧ which ≤ 4) (hr : RowOk ns)
    (h : ∀ h' tk, Fr h₀ L h' m → News h₀ L h' news → Q (.bool true) { s with heap := h', toks := tk }) :
    wpAny (model PySem.Challenge.rw_je0036_01.row.prog w) A (call (.ref 191) [.int which t, .ref l]) Q E s := by
  subst hA
  refine right_spec w which t l vs ns h04.1 h04.2 hi hr mean mg mb cn cs a ccd cl outer A₀ base h₀ L m s Q E B F X T hcs hl fun v h' tk k e => ?_
  subst e
  exact h h' tk (F.keeps k) (N.grown k)
theorem use_unknown {w : World} {A A₀ : Around} {h₀ : Heap} {L : Addr} {m mg mb : Str → Option Value} {mean : ExcName → Option Value} {cn : Str} {cs : Scope} {a : Addr} {ccd : Value} {s : Shared} {Q E : Value → Shared → Prop}
    {news : List (Addr × Obj)} {x : Str} {t : Tok}
    (hA : A = ktrTop 302 7 (some []) cn cs L a ccd [] []) (F : Fr h₀ L s.heap m) (B : Below A₀ h₀ [] h₀) (N : News h₀ L s.heap news) (X : (hd.heap_39 w.params).In h₀) (T : Top hd.view_39 (looseW hd.view_39 [Str.ofString "Effector"]) mean mg mb h₀)
    (hcs : cs.kind = .function) (hU : Unk x)
    (h : ∀ h' tk, Fr h₀ L h' m → News h₀ L h' news → Q (.bool true) { s with heap := h', toks := tk }) :
    wpAny (model PySem.Challenge.rw_je0036_01.row.prog w) A (call (.ref 186) [.str x t]) Q E s := by
  subst hA
  refine unknown_spec w x t hU mean mg mb cn cs a ccd A₀ h₀ h₀ L m s Q E B F X T hcs fun v h' tk k e => ?_
  subst e
  exact h h' tk (k.fr F) (k.news N)

theorem rowOk_fmod {f : Int → Int} {l : List Int} (h : l.length ≤ 1000) : RowOk (l.map fun k => (f k).fmod 3) := by
  refine ⟨by simpa using h, fun n hn => ?_⟩
  obtain ⟨k, _, rfl⟩ := List.mem_map.mp hn
  have := Int.fmod_nonneg_of_pos (f k) (b := 3) (by decide)
  have := Int.fmod_lt_of_pos (f k) (b := 3) (by decide)
  omega
theorem rowOk_append {l r : List Int} (h1 : RowOk l) (h2 : RowOk r) (h : l.length + r.length ≤ 1000) : RowOk (l ++ r) :=
  ⟨by simpa using h, fun n hn => (List.mem_append.mp hn).elim (h1.2 n) (h2.2 n)⟩
theorem rowOk_rep {k : Nat} (h : k ≤ 1000) : RowOk (List.replicate k [2]).flatten := by
  refine ⟨?_, fun n hn => ?_⟩
  · simp [List.length_flatten, h]
  · obtain ⟨l, hl, hn⟩ := List.mem_flatten.mp hn
    rw [(List.mem_replicate.mp hl).2] at hn
    simp at hn; omega
theorem add_late {w : World} {prog : Program} {A : Around} {h₀ : Heap} {L a b : Addr} {m : Str → Option Value} {s : Shared} {Q E : Value → Shared → Prop} {news : List (Addr × Obj)} {vs ws : List Value} {l : List Int} {f : Int → Int} {q : Int}
    (F : Fr h₀ L s.heap m) (N : News h₀ L s.heap news) (ha : s.heap.IsList a vs.toArray) (hb : s.heap.IsList b ws.toArray) (hi : IntsAre vs (List.replicate ((q.fmod 7).toNat) [2]).flatten)
    (hc : CarriedAll ws ((l.filter fun _ => true).map fun k => PyData.int ((f k).fmod 3))) (hl : l.length ≤ 100)
    (h : ∀ D us rs h', Fr h₀ L h' m → News h₀ L h' ((D, listOf (List.toArray us) 0) :: news) → (∀ p ∈ news, p.1 < D) → IntsAre us rs → RowOk rs → Q (.ref D) { s with heap := h' }) :
    wpAny (model prog w) A (binaryOp .Add (.ref a) (.ref b)) Q E s := by
  have hj : IntsAre ws (l.map fun k => (f k).fmod 3) := by
    have := CarriedAll.intsOf (f := fun k => (f k).fmod 3) hc
    rwa [show (fun (_ : Int) => true) = (fun _ => true) from rfl, List.filter_eq_self.mpr (fun _ _ => rfl)] at this
  have hr2 := rowOk_fmod (f := f) (l := l) (by omega)
  have hq := Int.fmod_lt_of_pos q (b := 7) (by decide)
  have hk : (q.fmod 7).toNat ≤ 7 := by omega
  have h1 : RowOk (List.replicate ((q.fmod 7).toNat) [2]).flatten := rowOk_rep (by omega)
  have hn : (List.replicate ((q.fmod 7).toNat) [(2 : Int)]).flatten.length = (q.fmod 7).toNat := by simp
  have hlen : (List.replicate ((q.fmod 7).toNat) [(2 : Int)]).flatten.length + (l.map fun k => (f k).fmod 3).length ≤ 1000 := by rw [List.length_map, hn]; omega
  refine kmk_add_ints F N ha hb hi hj (fun D us h' F' N' l1 hI => h D us _ h' F' N' l1 hI (rowOk_append h1 hr2 hlen)) ?_
  rw [sizeLine_eq]; omega
local macro_rules | `(tactic| walk_at "LEN") => `(tactic| (simp only [List.length_take, List.length_drop, List.length_map]; omega))
local macro_rules | `(tactic| walk_at "binaryOp Add ref ref") => `(tactic| (k_dflt (refine add_late (by k_asm) (by k_asm) (by kmk_list) (by kmk_list) (by l_ints) (by assumption) ?_ ?_); walk_at "LEN"; intro _ _ _ _ _ _ l1 _ _; (try k_lt l1); (try k_sweep); (try (rename NewPlain _ _ _ _ => n; clear n)); (try (rename CarriedAll _ _ => n; clear n)); (try dsimp only)))
theorem iter_which {prog : Program} {w : World} {A : Around} {E : Value → Shared → Prop} {s : Shared} {env : Env} {h₀ : Heap} {x y : Str} {body : List Stmt} {Q : Flow → Shared → Prop}
    {r : Addr} {a₀ b₀ : Int} {t₀ u₀ v₀ : Tok} {n : Nat} {m₀ : Str → Option Value} {news : List (Addr × Obj)}
    (hh : A.handled = none) (hr : IsRange s.heap r a₀ b₀ 1 t₀ u₀ v₀) (hsmall : Builtin.Range.small a₀ b₀ 1 = true) (hn : Builtin.Range.rangeSize a₀ b₀ 1 = (n : Int)) (F : Fr h₀ env.locals s.heap m₀) (N : News h₀ env.locals s.heap news)
    (turn : ∀ k t (u : Str → Option Value) h tk own, a₀ ≤ k → k < a₀ + (n : Int) → OwnOff own (news.map (·.1)) → Fr h₀ env.locals h (fun z => if z = x then some (.int k t) else if z = y then u z else m₀ z) → News h₀ env.locals h (news ++ own) →
      wpAny (model prog w) A (execs body env) (InvPostN h₀ env.locals (fun m' nx => nx = news ∧ ∀ z, z ≠ x → z ≠ y → m' z = m₀ z) own (news.map (·.1)) { s with heap := h, toks := tk } Q) E { s with heap := h, toks := tk })
    (done : ∀ (u : Str → Option Value) h tk, Fr h₀ env.locals h (fun z => if z = x then u z else if z = y then u z else m₀ z) → News h₀ env.locals h news → Q .next { s with heap := h, toks := tk }) :
    wpAny (model prog w) A (pyIter (.ref r)) (fun it s₂ => LoopAtV prog w A h₀ env x body Q E it s₂) E s := by
  refine iter_rangeS (σ := Unit) (fun _ m nx => nx = news ∧ ∀ z, z ≠ x → z ≠ y → m z = m₀ z) (fun _ _ => ()) () hh hr hsmall hn F N ⟨rfl, fun _ _ _ => rfl⟩ ?_ ?_
  · rintro k t _ m₁ nx h tk own hk hsep ⟨rfl, hm⟩ F₁ N₁
    refine turn k t m₁ h tk own (mem_rangeKs hk).1 (mem_rangeKs hk).2 hsep ?_ N₁
    have e : (fun z => if z = x then some (Value.int k t) else if z = y then m₁ z else m₀ z) = fun z => if z = x then some (Value.int k t) else m₁ z := by
      funext z
      by_cases h1 : z = x
      · simp [h1]
      · by_cases h2 : z = y
        · simp [h1, h2]
        · simp only [if_neg h1, if_neg h2]; exact (hm z h1 h2).symm
    rw [e]; exact F₁
  · rintro m₁ nx h tk ⟨rfl, hm⟩ F₁ N₁
    refine done m₁ h tk ?_ N₁
    have e : (fun z => if z = x then m₁ z else if z = y then m₁ z else m₀ z) = m₁ := by
      funext z
      by_cases h1 : z = x
      · simp [h1]
      · by_cases h2 : z = y
        · simp [h1, h2]
        · simp only [if_neg h1, if_neg h2]; exact (hm z h1 h2).symm
    rw [e]; exact F₁
local macro_rules | `(tactic| walk_at "execs cons") => `(tactic| ((with_reducible show wpAny _ _ (execs (Stmt.For _ _ _ _ _ :: _) _) _ _ _); (with_reducible ((try k_gentoks); refine wpAny_execs_cons ?_))))
local macro_rules | `(tactic| walk_at "exec For Name Call cons nil") => `(tactic| ((with_reducible show wpAny _ _ (exec (Stmt.For (Expr.Name (Str.ofString "which") _) _ _ _ _) _) _ _ _); (with_unfolding_all refine For_invVF (by k_asm) (by exact rfl) (by exact rfl) ?_)))
local macro_rules | `(tactic| walk_at "pyIter ref") => `(tactic| ((with_reducible show wpAny _ _ (pyIter _) (fun it s₂ => LoopAtV _ _ _ _ _ (Str.ofString "which") _ _ _ it s₂) _ _); (rename Fr _ _ _ _ => f); (rename News _ _ _ _ => n); (rename IsRange _ _ _ _ _ _ _ _ => r); (with_unfolding_all refine iter_which (n := 5) (y := Str.ofString "other") (by rfl) (by exact r) (by decide) (by rfl) f n (fun _ _ _ _ _ _ _ _ _ _ N => ?_) (fun _ _ _ _ N => ?_)); (all_goals ((try clear f n); (try simp only [List.nil_append, List.cons_append, List.append_nil] at N); (try dsimp only); (try k_fold)))))
local macro_rules | `(tactic| walk_at "InvEndN") => `(tactic| (refine InvEndN.intro (by assumption) (by assumption) ⟨rfl, fun z h1 h2 => by first | rfl | simp [h1, h2]⟩ (by rfl) (by (with_unfolding_all ((try simp only [List.nil_append, List.cons_append]); k_allIn))) (by (intro p hp; k_ownIn))))
local macro_rules | `(tactic| walk_at "CutI") => `(tactic| (refine CutI.intro ?_; first | omega | (split <;> omega)))
local macro_rules | `(tactic| walk_at "call ref") => `(tactic| ((with_reducible show wpAny _ _ (call (Value.ref 191) _) _ _ _); k_dflt (refine use_right (by exact rfl) (by k_asm) (by k_asm) (by k_asm) (by k_asm) (by k_asm) (by exact rfl) (by is_list) (by first | l_ints | l_intsC) ?_ ?_ ?_); omega; (first | assumption | (refine rowOk_fmod ?_; first | walk_at "LEN" | (refine Nat.le_trans (List.length_filter_le _ _) ?_; walk_at "LEN"))); intro _ _ _ _; (try dsimp only)))
theorem use_bool {w : World} {A A₀ : Around} {h₀ : Heap} {L : Addr} {m mg mb : Str → Option Value} {mean : ExcName → Option Value} {cn : Str} {cs : Scope} {a : Addr} {ccd : Value} {s : Shared} {Q E : Value → Shared → Prop}
    {news : List (Addr × Obj)} {k : Int} {t : Tok} {r : Value}
    (hA : A = ktrTop 302 7 (some []) cn cs L a ccd [] []) (F : Fr h₀ L s.heap m) (B : Below A₀ h₀ [] h₀) (N : News h₀ L s.heap news) (X : (hd.heap_39 w.params).In h₀) (T : Top hd.view_39 (looseW hd.view_39 [Str.ofString "Effector"]) mean mg mb h₀)
    (hcs : cs.kind = .function) (hk : (k = 0 ∧ r = .bool true) ∨ (k = 2 ∧ r = .bool false) ∨ (k = 1 ∧ r = .none))
    (h : ∀ h' tk, Fr h₀ L h' m → News h₀ L h' news → Q r { s with heap := h', toks := tk }) :
    wpAny (model PySem.Challenge.rw_je0036_01.row.prog w) A (call (.ref 179) [.int k t]) Q E s := by
  subst hA
  refine bool_spec w k t (by omega) mean mg mb cn cs a ccd A₀ h₀ h₀ L m s Q E B F X T hcs fun v h' tk kk e => ?_
  have e2 : boolOf k = r := by rcases hk with ⟨rfl, rfl⟩ | ⟨rfl, rfl⟩ | ⟨rfl, rfl⟩ <;> rfl
  subst e
  rw [e2]
  exact h h' tk (kk.fr F) (kk.news N)
local macro_rules | `(tactic| walk_at "call ref") => `(tactic| ((with_reducible show wpAny _ _ (call (Value.ref 179) _) _ _ _); k_dflt (refine use_bool (by exact rfl) (by k_asm) (by k_asm) (by k_asm) (by k_asm) (by k_asm) (by exact rfl) (by first | exact .inl ⟨rfl, rfl⟩ | exact .inr (.inl ⟨rfl, rfl⟩) | exact .inr (.inr ⟨rfl, rfl⟩)) ?_); intro _ _ _ _; (try dsimp only)))
theorem dropNews {P : Prop} {h₀ h : Heap} {L : Addr} {news : List (Addr × Obj)} (_N : News h₀ L h news) (k : News h₀ L h [] → P) : P := k News.nil
local macro_rules | `(tactic| walk_at "execs cons") => `(tactic| ((first | (with_reducible show wpAny _ _ (execs (Stmt.Assign [Expr.Name (Str.ofString "text") _] _ _ :: _) _) _ _ _) | (with_reducible show wpAny _ _ (execs (Stmt.Return (some (Expr.Compare (Expr.ListComp _ _ _ _) _ _ _)) _ :: _) _) _ _ _)); (rename News _ _ _ _ => n); (refine dropNews n ?_); (clear n); intro _; (with_reducible ((try k_gentoks); refine wpAny_execs_cons ?_))))
local macro_rules | `(tactic| walk_at "NEAR") => `(tactic| first | exact near1 (by assumption) (by assumption) | exact near2 (by assumption) (by assumption) (by decide +kernel) | exact near3 (by assumption) (by decide +kernel) | exact near4 (by decide +kernel))
local macro_rules | `(tactic| walk_at "subscriptTail") => `(tactic| ((with_reducible show wpAny _ _ (subscriptTail _ _ (Value.ref _) (Value.int (Int.fmod _ 5) _)) _ _ _); k_dflt (refine pick_text (by is_list) (.cons _ _ (.cons _ _ (.cons _ _ (.cons _ _ (.cons _ _ .nil))))) ?_); intro _ _ _ _ _; (try dsimp only)))
local macro_rules | `(tactic| walk_at "call ref") => `(tactic| ((with_reducible show wpAny _ _ (call (Value.ref 186) _) _ _ _); k_dflt (refine use_unknown (by exact rfl) (by k_asm) (by k_asm) (by k_asm) (by k_asm) (by k_asm) (by exact rfl) ?_ ?_); walk_at "NEAR"; intro _ _ _ _; (try dsimp only)))
set_option maxRecDepth 100000 in
set_option maxHeartbeats 40000000 in
theorem tt : PySem.Challenge.rw_je0036_01.Holds := hd (by
  w_strict k_go0
  refine wpAny_execs_cons (wpAny_Assign_Name (cutInt ?_ ?_))
  · (try k_fold)
    k_steps
  · intro x t tk hx
    (try k_fold)
    k_steps)
end
end Mine
set_option maxRecDepth 100000 in
set_option maxHeartbeats 8000000 in
theorem PySem.Challenge.cw_je0036_01_holds : PySem.Challenge.rw_je0036_01.Holds := by
  exact Mine.tt
