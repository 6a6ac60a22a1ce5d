import PyProof.Rows.All
import Wide.All
import OpenK.AllK
import Wide.FinOn
import Lean
import PySem.Challenge.RW_jv0038_01
open PySem PySem.W PyProof.Rows PySem.Calls PySem.Spec
set_option Elab.async false
set_option maxRecDepth 100000
set_option maxHeartbeats 8000000
set_option linter.unusedVariables false
namespace Mine
open_top hd for PySem.Challenge.rw_jv0038_01
theorem fresh01 : True := by
  w_top off
  trivial
open PySem.Builtin.Int (intBits)
section
variable {prog : Program} {w : World} {A : Around} {E : Value → Shared → Prop} {s : Shared}
/-- the octets of x, k of them, the greatest first -/
def octs (k : Nat) (x : Int) : List Int := (KTBy.little k x).reverse
theorem octs_len (k : Nat) (x : Int) : (octs k x).length = k := by unfold octs; rw [List.length_reverse, KTBy.little_length]
theorem octs_make {x : Int} {n : Nat} (h0 : 0 ≤ x) (h1 : x < 256 ^ n) : KBw.bInts (KTBy.low x n).reverse.toArray = octs n x := by
  show (KTBy.low x n).reverse.map (fun c : UInt8 => ((c.toNat : Nat) : Int)) = octs n x
  rw [List.map_reverse, KTBy.low_ints h0 h1, ← KTBy.little_eq]
  rfl
theorem any_not {α : Type} {M : Model} {c : Bool} {a b : Sem α} {Q : α → Shared → Prop} (h : wpAny M A b Q E s) (hc : c = false) : wpAny M A (if c = true then a else b) Q E s := by
  rw [hc]
  exact h
/-- x.to_bytes(k, 'big'), the length not written -/
theorem to_bytes_any {x k : Int} {t u v : Tok} {Q : Value → Shared → Prop} (hk0 : 0 ≤ k) (hk : k ≤ 100) (h0 : 0 ≤ x) (h1 : x < 256 ^ k.toNat)
    (h : ∀ (b : Array UInt8) t' k' ks, KBw.bInts b = ks → (ks.length : Int) = k → ks = octs k.toNat x → Q (.bytes b t') { s with toks := k' }) :
    wpAny (model prog w) A (call (.builtin "int.to_bytes") [.int x t, .int k u, .str (PySem.Str.ofString "big") v]) Q E s := by
  obtain ⟨n, rfl⟩ := Int.eq_ofNat_of_zero_le hk0
  rw [Int.toNat_natCast] at h1 h
  have hn : n ≤ 100 := by omega
  have hbits : intBits x ≤ 8 * n := by
    refine intBits_le_iff.mpr ?_
    rw [Nat.pow_mul, show (2 : Nat) ^ 8 = 256 from rfl]
    rw [KTBy.p256] at h1
    omega
  refine wpAny_call_entry KTBy.slot (typeIs_int s x t) KTBy.entry ?_ (KTBy.args _ _ _)
  show wpAny _ _ (Builtin.Int.intOfSelf (.int x t) >>= fun y => _) _ _ s
  refine wpAny_bind (wpAny_of_eq (a := x) rfl ?_)
  show wpAny _ _ (Builtin.Int.intBindNamed "to_bytes" ["length", "byteorder", "signed"] 0 2 [.int (n : Int) u, .str (PySem.Str.ofString "big") v] [] >>= fun l => _) _ _ s
  refine wpAny_bind (wpAny_of_eq (a := [some (.int (n : Int) u), some (.str (PySem.Str.ofString "big") v), none]) (by kernel_rfl) ?_)
  show wpAny _ _ (Builtin.Int.intIndex "int.to_bytes" (.int (n : Int) u) >>= fun n => _) _ _ s
  refine wpAny_bind (wpAny_of_eq (a := (n : Int)) rfl (any_not ?_ ?_))
  rotate_left
  · rw [Bool.or_eq_false_iff]
    exact ⟨decide_eq_false (by omega), decide_eq_false (by omega)⟩
  refine wpAny_bind (wpAny_of_eq (a := PySem.Str.ofString "big") (by kernel_rfl) ?_)
  refine wpAny_bind (wpAny_of_eq (a := false) rfl ?_)
  refine wpAny_bind (wpAny_of_eq (a := false) (by kernel_rfl) ?_)
  refine wpAny_ite_false (decide_eq_false (show ¬ ((n : Int) < 0) by omega)) ?_
  refine wpAny_ite_false (decide_eq_false (show ¬ ((n : Int) > 2 ^ 63 - 1 - 33) by omega)) ?_
  refine wpAny_ite_false (decide_eq_false (show ¬ ((n : Int) > (sizeLine : Int)) by rw [sizeLine_eq]; omega)) ?_
  refine any_not ?_ (by rw [decide_eq_false (show ¬ x < 0 by omega)]; rfl)
  refine any_not ?_ (by rw [if_neg Bool.false_ne_true, decide_eq_false (show ¬ ((intBits x : Int) > 8 * (n : Int)) by omega), Bool.and_false])
  refine wpAny_bind (wpAny_mkBytes (wpAny_pure ⟨_, rfl, h _ _ _ _ (octs_make h0 h1) (by rw [octs_len, Int.toNat_natCast]) rfl⟩) ?_)
  show (List.reverse (KTBy.low x n)).length ≤ sizeLine
  rw [List.length_reverse, KTBy.low_length, sizeLine_eq]
  omega
/-- the number that octets tell -/
def numOf (ks : List Int) : Int := ks.foldl (fun a k => a * 256 + k) 0
theorem grown_any {n : Nat} {Q : Value → Shared → Prop} (hn : n < 2 ^ 192) (h : Q (.int (n : Int) s.toks) { s with toks := s.toks + 1 }) {M : Model} : wpAny M A (mkIntGrown (n : Int)) Q E s := by
  unfold mkIntGrown
  rw [if_neg]
  · exact wpAny_mkInt h
  · rw [Int.natAbs_natCast, show bitsLine = 134217728 from rfl]
    by_cases hz : n = 0
    · subst hz; decide
    · have h1 := (Nat.log2_lt hz).mpr hn
      omega
theorem from_tree {M : Model} {b : Array UInt8} {t u : Tok} {P : Fin → Shared → Prop} (hl : b.size ≤ 24) (h : P (.done (.ret (.int (numOf (KBw.bInts b)) s.toks))) { s with toks := s.toks + 1 }) :
    wpAny M A (Builtin.«int.from_bytes» ⟨[.type "int", .bytes b t, .str (PySem.Str.ofString "big") u], []⟩) P E s := by
  have hv : ((b.toList.foldl (fun (acc : Nat) (b : UInt8) => acc * 256 + b.toNat) 0 : Nat) : Int) = numOf (KBw.bInts b) := KFB.fold_cast b.toList 0
  have hn : b.toList.foldl (fun (acc : Nat) (b : UInt8) => acc * 256 + b.toNat) 0 < 2 ^ 192 := by
    have h1 := KFB.fold_lt b.toList 0
    rw [Nat.zero_add, Nat.one_mul, Array.length_toList] at h1
    have h2 : 256 ^ b.size ≤ 256 ^ 24 := Nat.pow_le_pow_right (by decide) hl
    rw [show (2 : Nat) ^ 192 = 256 ^ 24 from rfl]
    exact Nat.lt_of_lt_of_le h1 h2
  unfold Builtin.«int.from_bytes»
  refine wpAny_bind (wpAny_of_eq (a := true) KFB.type_int (any_not ?_ rfl))
  refine wpAny_bind (wpAny_of_eq (a := true) F.conv_sub_int (any_not ?_ rfl))
  refine wpAny_bind (wpAny_of_eq (a := [some (.bytes b t), some (.str (PySem.Str.ofString "big") u), none]) (by kernel_rfl) ?_)
  refine wpAny_bind (wpAny_of_eq (a := PySem.Str.ofString "big") (by kernel_rfl) ?_)
  refine wpAny_bind (wpAny_of_eq (a := false) rfl ?_)
  refine wpAny_bind (wpAny_of_eq (a := false) (by kernel_rfl) ?_)
  refine wpAny_bind (wpAny_of_eq (a := b) rfl ?_)
  show wpAny _ _ (mkIntGrown (b.toList.foldl (fun (acc : Int) (b : UInt8) => acc * 256 + (b.toNat : Int)) ((0 : Nat) : Int)) >>= fun v => _) _ _ _
  rw [KFB.foldI_eq]
  refine wpAny_bind (grown_any hn ?_)
  rw [hv]
  refine KFB.if_so (by decide +kernel) ?_
  exact wpAny_bind (wpAny_pure (wpAny_pure h))
/-- int.from_bytes(b, 'big') of up to 24 octets -/
theorem from_bytes_any {h₀ : Heap} {L : Addr} {news : List (Addr × Obj)} {x : Addr} {b : Array UInt8} {t u : Tok} {ks : List Int} {Q : Value → Shared → Prop} (N : News h₀ L s.heap news) (hm : (x, KFB.bound) ∈ news) (hb : KBw.bInts b = ks) (hl : ks.length ≤ 24)
    (h : ∀ y t' k, y = numOf ks → Q (.int y t') { s with toks := k }) : wpAny (model prog w) A (call (.ref x) [.bytes b t, .str (PySem.Str.ofString "big") u]) Q E s := by
  subst hb
  exact KFB.call_of (KFB.at_of N hm) (fun z => from_tree (by rw [← KBw.ints_length]; exact hl) z) (h _ _ _ rfl)
end
theorem fresh02 : True := by
  w_top off
  trivial
/-- a goal kept for the hand -/
structure Held (P : Prop) : Prop where
  out : P
theorem held {P : Prop} (h : Held P) : P := h.out
section
variable {prog : Program} {w : World} {A₀ A : Around} {s : Shared} {base h₀ : Heap} {env : Env} {L : Addr} {m : Str → Option Value} {news : List (Addr × Obj)} {K : Frag} {p : Program} {loose : List Str} {mean : ExcName → Option Value} {mg mb : Str → Option Value}
    {R : Result → Shared → Prop} {name qual : Str} {params : Arguments} {body : List Stmt} {scope : Scope} {dV kV doc pm cdv ct oc : Value} {an od : Option Addr} {osl : Array (Option Value)} {f : Addr} {args : Args} {binds : List (Str × Value)}
theorem one_frame {b : Addr} (hf : env.frame = some L) (hb : b ∈ [env].filterMap (·.frame)) : b = L := by
  obtain ⟨e, he, hf'⟩ := List.mem_filterMap.mp hb
  rw [List.mem_singleton.mp he, hf] at hf'
  exact (Option.some.inj hf').symm
/-- a def that catches, called from the lowest frame, whatever cells that frame has -/
theorem code_try (B : Below A₀ base [] h₀) (F : Fr h₀ L s.heap m) (X₀ : K.In h₀) (N : News h₀ L s.heap news) (T : Top p loose mean mg mb h₀) (hA : A.frames = some [env]) (hf : env.frame = some L) (hke : env.scope.kind = .function)
    (ho : K.lookup f = some ⟨oc, od, .func (fnOf name qual params body scope dV kV doc pm an cdv ct), osl⟩) (hcd : codeIn K cdv qual = true) (hroom : A.depth < recursionLimit)
    (hbind : BindsTo s (fnOf name qual params body scope dV kV doc pm an cdv ct) args binds) (hloc : ∀ y ∈ binds, scope.names.lookup y.1 = some .local)
    (h : ∀ g L' h₁, Fr h₀ L g m → Fr g L' h₁ (fun y => binds.reverse.lookup y) → News g L' h₁ news → Below A base [env] g → K.In g → Top p loose mean mg mb g → KtsDicts ([env].filterMap (·.frame)) g →
      wpAny (model prog w) (A.deeper (envOf qual scope L' f cdv)) (execs body (envOf qual scope L' f cdv))
        (fun fl s' => LeaveS0 ([env].filterMap (·.frame)) h₀ L m g R (match fl with | .ret v => v | _ => .none) s')
        (fun e s' => wpAny (model prog w) (A.deeper (envOf qual scope L' f cdv)) (leaving (envOf qual scope L' f cdv) e) (fun _ s'' => R (.error e) s'') (fun e' s'' => R (.error e') s'') s')
        { s with heap := h₁, toks := s.toks + binds.length })
    (hco : scope.isCoroutine = false) (hgen : scope.isGenerator = false) (hk : scope.kind = .function)
    (hcell : ∀ x ∈ scope.names, x.2 ≠ .cell) : codeAny (model prog w) A (.call (.ref f) args) R s := by
  have X := X₀.keeps F.keep
  obtain ⟨FG, BG, st, _⟩ := groundX (R := R) B F N hA hf hke
  obtain ⟨oL, es, ep, hLg, hLd, hLk, hLf⟩ := FG.ns
  refine codeAny_call_def (fd := fnOf name qual params body scope dV kV doc pm an cdv ct) (body := body) (binds := binds) hroom (X _ _ ho) rfl (T.nolimit.keeps F.keep) (codeRec_of X hcd) rfl hbind hcell hloc (fun h₁ hns hk₁ => ?_) hco hgen hk
  have D : KtsDicts ([env].filterMap (·.frame)) (hideAll s.heap (news.map (·.1))) := fun b hb => by
    rw [one_frame hf hb]
    exact ⟨oL, es, ep, hLg, hLd⟩
  have F₁ : Fr (hideAll s.heap (news.map (·.1))) s.heap.objs.size h₁ (fun y => binds.reverse.lookup y) := ⟨hns, fun b o e => hk₁ b o (of_hideAll _ e), Nat.le_of_eq (hideAll_size _ _)⟩
  have N₁ : News (hideAll s.heap (news.map (·.1))) s.heap.objs.size h₁ news := fun q hq => ⟨hk₁ _ _ (N q hq).1, Nat.ne_of_lt (Heap.lt_size (N q hq).1), hideAll_none _ (List.mem_map_of_mem hq)⟩
  refine wpAny_mono (h _ s.heap.objs.size h₁ FG F₁ N₁ BG (X₀.keeps st) (T.keeps st) D) (fun fl s' hl => ?_) fun _ _ y => y
  obtain ⟨g', L', m', news', TT, F', N', k⟩ := hl
  have nL : h₀.get? L = none := kts_self F
  obtain ⟨sl, hs⟩ := TT.up hLg
  have F2 : Fr h₀ L s'.heap m := by
    refine ⟨⟨_, es, ep, F'.keep _ _ hs, hLd, hLk, hLf⟩, fun b o e => F'.keep b o (TT.other b o (st b o e) fun q => ?_), F.above⟩
    rw [one_frame hf q, nL] at e
    cases e
  refine k F2 fun q hq => ⟨(N' q hq).1, fun e => ?_, ?_⟩
  · have z := (N' q hq).2.2
    rw [e, hs] at z
    cases z
  · cases z : h₀.get? q.1 with
    | none => rfl
    | some o =>
      obtain ⟨sl', hs'⟩ := TT.up (st _ _ z)
      have y := (N' q hq).2.2
      rw [hs'] at y
      cases y
end
section
variable {prog : Program} {w : World} {A : Around} {E : Value → Shared → Prop} {s : Shared}
/-- type(b) of octets -/
theorem type_of_bytes {b : Array UInt8} {t : Tok} {Q : Value → Shared → Prop} (h : Q (.type "bytes") s) : wpAny (model prog w) A (call (.type "type") [.bytes b t]) Q E s :=
  call_type_of (typeIs_bytes s b t) (by decide +kernel) h
end

section
open PyProof.V
variable {prog : Program} {w : World} {A : Around} {E : Value → Shared → Prop} {s : Shared} {env : Env} {h₀ : Heap} {x : PySem.Str} {body : List Stmt} {Q : Flow → Shared → Prop}
theorem fr_same {h : Heap} {L : Addr} {m m' : PySem.Str → Option Value} (F : Fr h₀ L h m) (e : ∀ y, m' y = m y) : Fr h₀ L h m' := by
  rw [show m' = m from funext e]
  exact F
/-- a loop over a made list of ints that turns one name's int -/
theorem iterList_acc1 {l : Addr} {vs : List Value} {ns : List Int} {nn : Nat} {m₀ : PySem.Str → Option Value} {news : List (Addr × Obj)} {y : PySem.Str} {c₀ : Int} {tc : Tok} (g : Int → Int → Int)
    (hh : A.handled = none) (hl : (l, W.listOf vs.toArray nn) ∈ news) (hi : IntsAre vs ns) (F : Fr h₀ env.locals s.heap m₀) (N : News h₀ env.locals s.heap news) (hy : m₀ y = some (.int c₀ tc))
    (turn : ∀ k t a ta h tk own, Fr h₀ env.locals h (fun z => if z = x then some (.int k t) else if z = y then some (.int a ta) else m₀ z) → News h₀ env.locals h (news ++ own) →
      wpAny (model prog w) A (execs body env) (InvPostN h₀ env.locals (fun m' nx => nx = news ∧ (∃ t', m' y = some (.int (g a k) t')) ∧ ∀ z, z ≠ x → z ≠ y → m' z = m₀ z) own (news.map (·.1)) { s with heap := h, toks := tk } Q) E { s with heap := h, toks := tk })
    (done : ∀ (u : PySem.Str → Option Value) t h tk, Fr h₀ env.locals h (fun z => if z = x then u z else if z = y then some (.int (ns.foldl g c₀) t) else m₀ z) → News h₀ env.locals h news → Q .next { s with heap := h, toks := tk }) :
    wpAny (model prog w) A (pyIter (.ref l)) (fun it s₂ => LoopAtV prog w A h₀ env x body Q E it s₂) E s := by
  refine iter_invNL (fun i m nx => nx = news ∧ (∃ t, m y = some (.int ((ns.take i).foldl g c₀) t)) ∧ ∀ z, z ≠ x → z ≠ y → m z = m₀ z) hh hl hi F N ⟨rfl, ⟨tc, hy⟩, fun _ _ _ => rfl⟩ ?_ ?_
  · rintro i k t m₁ nx h tk own hk _ _ hin ⟨rfl, ⟨ta, ha⟩, hm⟩ F₁ N₁
    refine wpAny_mono (turn k t ((ns.take i).foldl g c₀) ta h tk own (fr_same F₁ fun z => ?_) N₁) (fun f s₂ p => ?_) fun _ _ e => e
    · by_cases h1 : z = x
      · simp [h1]
      · by_cases h2 : z = y
        · simp [h1, h2, ha]
        · simp [h1, h2, hm z h1 h2]
    · have fin : InvEndN h₀ env.locals (fun m' nx' => nx' = nx ∧ (∃ t', m' y = some (.int (g ((ns.take i).foldl g c₀) k) t')) ∧ ∀ z, z ≠ x → z ≠ y → m' z = m₀ z) own (nx.map (·.1)) { s with heap := h, toks := tk } s₂ →
          InvEndN h₀ env.locals (fun m' nx' => (l, W.listOf vs.toArray nn) ∈ nx' ∧ nx' = nx ∧ (∃ t, m' y = some (.int ((ns.take (i + 1)).foldl g c₀) t)) ∧ ∀ z, z ≠ x → z ≠ y → m' z = m₀ z) own (nx.map (·.1)) { s with heap := h, toks := tk } s₂ := by
        rintro ⟨h', tk', m', news', nx', e, F', N', hn, ho, ha', rfl, ⟨t', ht⟩, hm'⟩
        refine ⟨h', tk', m', news', _, e, F', N', hn, ho, ha', hin, rfl, ⟨t', ?_⟩, hm'⟩
        rw [ht, List.take_add_one, hk, Option.toList_some, List.foldl_append, List.foldl_cons, List.foldl_nil]
      cases f with
      | ret v => exact p
      | brk => exact p
      | next => exact fin p
      | cont => exact fin p
  · rintro m₁ nx h tk _ ⟨rfl, ⟨t, ha⟩, hm⟩ F₁ N₁
    rw [List.take_length] at ha
    refine done m₁ t h tk (fr_same F₁ fun z => ?_) N₁
    by_cases h1 : z = x
    · simp [h1]
    · by_cases h2 : z = y
      · simp [h1, h2, ha]
      · simp [h1, h2, hm z h1 h2]
end
theorem ints_of_get : ∀ (vs : List Value) (ns : List Int), vs.length = ns.length → (∀ (j : Nat) (v : Value), vs[j]? = some v → ∃ (n : Int) (t : Tok), ns[j]? = some n ∧ v = Value.int n t) → IntsAre vs ns
  | [], [], _, _ => .nil
  | [], _ :: _, h, _ => by simp at h
  | _ :: _, [], h, _ => by simp at h
  | v :: vs, n :: ns, h, k => by
    obtain ⟨n', t, e1, e2⟩ := k 0 v rfl
    have e3 : n = n' := by simpa using e1
    rw [e2, ← e3]
    exact .cons n t (ints_of_get vs ns (by simpa using h) fun j v hv => k (j + 1) v (by simpa using hv))
section
variable {prog : Program} {w : World} {A : Around} {E : Value → Shared → Prop} {s : Shared}
abbrev OctetAt (b : Array UInt8) (i : Nat) (v : Value) : Prop := ∃ c u, b[i]? = some c ∧ v = .int (c.toNat : Int) u
/-- a list is filled out of octets -/
theorem extend_bytes {R : Result → Shared → Prop} (hh : A.handled = none) (b : Array UInt8) (t : Tok) (S : Addr) (res : Value) (c₀ : Nat) (hS : s.heap.get? S = some { cls := .type "list", data := .seq #[] c₀ })
    (hR : ∀ h' tk acc' c', (∀ a o, a ≠ S → s.heap.get? a = some o → h'.get? a = some o) → h'.get? S = some { cls := .type "list", dict := none, data := .seq acc' c', slots := #[] } →
      ItemsOf (OctetAt b) acc' b.size → R (.ok (.ret res)) { s with heap := h', toks := tk }) (hn : b.size ≤ sizeLine) :
    wpAny (model prog w) A.in1 (Builtin.List.listExtendWith (.ref S) (.bytes b t) res)
      (fun fin s' => match fin with | .done f => R (.ok f) s' | .again c' => c'.quiet = true ∧ codeAny (model prog w) A c' R s') (fun e s' => R (.error e) s') s := by
  have hSI : S ≠ s.heap.objs.size := Nat.ne_of_lt (Heap.lt_size hS)
  have hSf : S ∉ [s.heap.objs.size] := fun hm => hSI (List.mem_singleton.mp hm)
  unfold Builtin.List.listExtendWith
  refine wpAny_bind (wpAny_typeOf (T := "bytes") (v := .bytes b t) rfl ?_)
  have h1 : Builtin.List.listSameRef (.ref S) (.bytes b t) = false := rfl
  have h2 : (Value.type "bytes" == Value.type "list") = false := by decide
  have h3 : (Value.type "bytes" == Value.type "tuple") = false := by decide
  simp only [h1, h2, h3, Bool.or_false, Bool.false_eq_true, if_false]
  refine wpAny_bind (KBw.pyIter_bytes ?_)
  refine wpAny_bind (wpAny_holding ?_)
  unfold Builtin.List.listLengthHint
  refine wpAny_bind (wpAny_specialOf (T := "bytes") (v := .bytes b t) rfl FB.slot_bytes_len.lookup ?_)
  wp_delta
  refine wpAny_bind (wpAny_isInstance (T := "bytes") (v := .bytes b t) (b := true) rfl (by rw [isSubtype_type]; kernel_rfl) ?_)
  show wpAny _ _ (typeOf (Value.bytes b t) >>= _) _ _ _
  refine wpAny_bind (wpAny_typeOf (T := "bytes") (v := .bytes b t) rfl ?_)
  refine wpAny_pure ?_
  rw [if_neg (by decide)]
  have W := KBw.walks (prog := prog) (w := w) (A := A.in1) hh s.heap.objs.size b t
  refine wpAny_pure ⟨plainId_quiet F.plain_extend_loop _, codeAny_extend_loopS W.toS hn _ hSf _ b.size 0 _ _ _ rfl (Nat.zero_le _) ⟨_, Heap.get?_push_size _ rfl, rfl, rfl⟩ (Heap.get?_push_of_some _ hS) (ItemsOf.nil _) fun s' acc' c' hm hS' hacc => ?_⟩
  rw [Moved.eq_with hm]
  refine hR s'.heap s'.toks acc' c' (fun a ob ha e => hm.heap a ob (fun hmem => ?_) (Heap.get?_push_of_some _ e)) hS' hacc
  rcases List.mem_cons.mp hmem with e' | hmem
  · exact ha e'
  · exact absurd (Heap.lt_size e) (by rw [List.mem_singleton.mp hmem]; exact Nat.lt_irrefl _)
theorem list_init_bytes {R : Result → Shared → Prop} (hh : A.handled = none) (b : Array UInt8) (t : Tok) (S : Addr) (hS : s.heap.get? S = some { cls := .type "list", data := .seq #[] })
    (hR : ∀ h' tk acc' c', (∀ a o, a ≠ S → s.heap.get? a = some o → h'.get? a = some o) → h'.get? S = some { cls := .type "list", dict := none, data := .seq acc' c', slots := #[] } →
      ItemsOf (OctetAt b) acc' b.size → R (.ok (.ret .none)) { s with heap := h', toks := tk }) (hn : b.size ≤ sizeLine) :
    wpAny (model prog w) A.in1 (Builtin.«list.__init__» ⟨[.ref S, .bytes b t], []⟩)
      (fun fin s' => match fin with | .done f => R (.ok f) s' | .again c' => c'.quiet = true ∧ codeAny (model prog w) A c' R s') (fun e s' => R (.error e) s') s := by
  show wpAny _ _ (do let old ← Builtin.List.listItems (.ref S); Builtin.List.listUpdate (.ref S) (fun _ => #[]); letGo old.toList.reverse; Builtin.List.listExtendWith (.ref S) (.bytes b t) .none) _ _ s
  refine wpAny_bind ?_
  unfold Builtin.List.listItems
  refine wpAny_bind (wpAny_seqItems hS rfl (wpAny_pure ?_))
  show wpAny _ _ (updateSeq S (fun _ => #[]) >>= fun _ => letGo (#[] : Array Value).toList.reverse >>= fun _ => Builtin.List.listExtendWith (.ref S) (.bytes b t) .none) _ _ s
  refine wpAny_bind (wpAny_updateSeq hS rfl (wpAny_bind (wpAny_letGo ?_)))
  have hS₂ := Heap.get?_update_self (Obj.mapSeq (fun _ => (#[] : Array Value))) hS rfl
  refine extend_bytes hh b t S .none _ hS₂ (fun h' tk acc' c' hk hS' hacc => ?_) hn
  exact hR h' tk acc' c' (fun a o ha e => hk a o ha ((Heap.get?_update_other _ _ (Ne.symm ha)).trans e)) hS' hacc
theorem call_list_bytes {Q : Value → Shared → Prop} (hh : A.handled = none) (b : Array UInt8) (t : Tok)
    (hQ : ∀ h' tk acc' c', (∀ a o, s.heap.get? a = some o → h'.get? a = some o) →
      h'.get? s.heap.objs.size = some { cls := .type "list", dict := none, data := .seq acc' c', slots := #[] } → ItemsOf (OctetAt b) acc' b.size → Q (.ref s.heap.objs.size) { s with heap := h', toks := tk }) (hn : b.size ≤ sizeLine) :
    wpAny (model prog w) A (call (.type "list") [.bytes b t]) Q E s := by
  refine callType_codes (Q₁ := fun obj s₁ => obj = .ref s.heap.objs.size ∧ s₁ = { s with heap := s.heap.push { cls := .type "list", data := .seq #[] } }) F.called_list (F.typeCall_list_1 _) F.entry_list_init
    (code_list_new _ ⟨rfl, rfl⟩) fun obj s₁ h₁ => ?_
  obtain ⟨rfl, rfl⟩ := h₁
  have hS : (s.heap.push { cls := .type "list", data := .seq #[] }).get? s.heap.objs.size = some { cls := .type "list", data := .seq #[] } := Heap.get?_push_size _ rfl
  refine ⟨⟨_, hS, rfl⟩, F.args_list_init_2 _ _, list_init_bytes (A := A.in1) hh b t _ hS (fun h' tk acc' c' hk hS' hacc => ?_) hn⟩
  exact ⟨rfl, hQ h' tk acc' c' (fun a o e => hk a o (Nat.ne_of_lt (Heap.lt_size e)) (Heap.get?_push_of_some _ e)) hS' hacc⟩
theorem list_bytes_N {h₀ : Heap} {L : Addr} {m : PySem.Str → Option Value} {news : List (Addr × Obj)} {b : Array UInt8} {t : Tok} {ks : List Int} {Q : Value → Shared → Prop} (hh : A.handled = none) (Fh : Fr h₀ L s.heap m) (N : News h₀ L s.heap news) (hb : KBw.bInts b = ks) (hn : ks.length ≤ 16777216)
    (hQ : ∀ l vs n h' tk, Fr h₀ L h' m → News h₀ L h' ((l, W.listOf vs.toArray n) :: news) → (∀ p ∈ news, p.1 < l) → IntsAre vs ks → Q (.ref l) { s with heap := h', toks := tk }) :
    wpAny (model prog w) A (call (.type "list") [.bytes b t]) Q E s := by
  subst hb
  refine call_list_bytes hh b t (fun h' tk acc' c' hk hS' hacc => ?_) (by rw [← KBw.ints_length, sizeLine_eq]; exact hn)
  refine hQ _ acc'.toList c' h' tk (Fh.keeps hk) (fun p hp => ?_) (fun p hp => Heap.lt_size (N p hp).1) ?_
  · rcases List.mem_cons.mp hp with rfl | hp
    · refine ⟨by simpa using hS', Nat.ne_of_gt Fh.ns.lt, ?_⟩
      cases e : h₀.get? s.heap.objs.size with
      | none => rfl
      | some o => exact absurd (Heap.lt_size (Fh.keep _ _ e)) (Nat.lt_irrefl _)
    · exact ⟨hk _ _ (N p hp).1, (N p hp).2⟩
  · refine ints_of_get _ _ (by rw [KBw.ints_length, ← hacc.1, Array.length_toList]) fun j v hv => ?_
    obtain ⟨c, u, hc, e⟩ := hacc.2 j v (by simpa using hv)
    exact ⟨_, u, KBw.ints_get hc, e⟩
end
theorem fresh03 : True := by
  w_top off
  trivial
theorem lt_room {n a b c lim : Nat} (h : n + a < lim) (hab : b + c ≤ a) : n + b + c < lim := by omega
set_option hygiene false in
local macro_rules | `(tactic| k_mem) => `(tactic| ((with_reducible show List.Mem _ _); assumption))
abbrev PG : Program := PySem.Challenge.pw_jv0038_01
/-- what a call of the written def `f` with `vs` gives back: `Ret K` says every answer, `K r h' news'` the rest -/
def Ctr (w : World) (f : Addr) (news : List (Addr × Obj)) (vs : List Value) (dn un9 : Nat) (Ret : (Value → Heap → List (Addr × Obj) → Prop) → Prop) : Prop :=
  ∀ (loose : List Str) (mean : ExcName → Option Value) (mg mb : Str → Option Value) (dp un : Nat) (gd : Option (List Code)) (cn : Str) (cs : Scope) (a : Addr) (ccd : Value) (cl : List (Str × Addr)) (outer : List Env) (A₀ : Around) (base h₀ : Heap) (L : Addr) (m : Str → Option Value) (s : Shared) (Q E : Value → Shared → Prop),
    Below A₀ base outer h₀ → Fr h₀ L s.heap m → (hd.heap_39 w.params).In h₀ → News h₀ L s.heap news → Top topProg loose mean mg mb h₀ → cs.kind = .function → dp + dn < recursionLimit → un + un9 < cLine →
    Ret (fun r h' news' => ∀ tk', Fr h₀ L h' m → News h₀ L h' news' → Q r { s with heap := h', toks := tk' }) →
    wpAny (model PG w) (ktrTop dp un gd cn cs L a ccd cl outer) (call (.ref f) vs) Q E s
theorem ctr_use {w : World} {f : Addr} {news : List (Addr × Obj)} {vs : List Value} {dn un9 : Nat} {Ret : (Value → Heap → List (Addr × Obj) → Prop) → Prop} {loose : List Str} {mean : ExcName → Option Value} {mg mb : Str → Option Value} {dp un : Nat} {gd : Option (List Code)} {cn : Str} {cs : Scope} {a : Addr} {ccd : Value} {cl : List (Str × Addr)} {outer : List Env} {A₀ : Around} {base h₀ : Heap} {L : Addr} {m : Str → Option Value} {s : Shared} {Q E : Value → Shared → Prop}
    (B : Below A₀ base outer h₀) (F : Fr h₀ L s.heap m) (X : (hd.heap_39 w.params).In h₀) (N : News h₀ L s.heap news) (T : Top topProg loose mean mg mb h₀) (hk : cs.kind = .function)
    (C : Ctr w f news vs dn un9 Ret) (hd : dp + dn < recursionLimit) (hu : un + un9 < cLine)
    (ret : Ret (fun r h' news' => ∀ tk', Fr h₀ L h' m → News h₀ L h' news' → Q r { s with heap := h', toks := tk' })) :
    wpAny (model PG w) (ktrTop dp un gd cn cs L a ccd cl outer) (call (.ref f) vs) Q E s :=
  C _ _ _ _ _ _ _ _ _ _ _ _ _ _ _ _ _ _ _ _ _ B F X N T hk hd hu ret

abbrev RetI (news : List (Addr × Obj)) (P : Int → Prop) : (Value → Heap → List (Addr × Obj) → Prop) → Prop := fun K => ∀ y t h', P y → K (.int y t) h' news

/-- the digits of a number, one at the least -/
def lb (x : Int) : Int := if (PySem.Builtin.Int.intBits x : Int) = 0 then 1 else (PySem.Builtin.Int.intBits x : Int)

theorem size_bits_c (w : World) (news : List (Addr × Obj)) (x : Int) (tk : Tok) : Ctr w 21 news [.int x tk] 1 8 (RetI news fun y => y = lb x) := by
  intro loose mean mg mb dp un gd cn cs a ccd cl outer A₀ base h₀ L m s Q E B F X N T hk hd hu hret
  refine wpAny_call ?_
  k_dflt cell_enter
  k_steps
  · rename_i h1 _ _ _ _
    exact hret _ _ _ (if_neg h1).symm _ (by k_asm) (by k_asm)
  · rename_i h1 _ _ _ _
    exact hret _ _ _ (if_pos h1).symm _ (by k_asm) (by k_asm)
set_option hygiene false in
local macro_rules | `(tactic| walk_at "e9") => `(tactic| ((try dsimp only); (try k_fold)))
set_option hygiene false in
local macro_rules | `(tactic| walk_at "c5") => `(tactic| ((case k1 | k2 | k3 | k4 | k5 => k_asm); (case kK => first | exact rfl | assumption)))
set_option hygiene false in
local macro_rules | `(tactic| walk_at "cdu") => `(tactic| ((case kd => first | exact lt_room (b := 1) hd (by decide) | exact lt_room (b := 2) hd (by decide) | ktr_room); (case ku => first | exact lt_room (b := 3) hu (by decide) | exact lt_room (b := 6) hu (by decide) | ktr_units)))
set_option hygiene false in
local macro_rules | `(tactic| walk_at "call ref") => `(tactic| (k_here; (with_reducible show wpAny _ _ (call (Value.ref 21) _) _ _ _); k_dflt (refine' ctr_use ?k1 ?k2 ?k3 ?k4 ?k5 ?kK (size_bits_c _ _ _ _) ?kd ?ku ?_; walk_at "c5"; walk_at "cdu"); intro bits tb9 hb9 ebits tkb9 Fb9 Nb9; walk_at "e9"))

theorem size_bytes_c (w : World) (news : List (Addr × Obj)) (x : Int) (tk : Tok) (h0 : 0 ≤ lb x) (h1 : lb x ≤ 100) : Ctr w 28 news [.int x tk] 2 16 (RetI news fun y => y = (lb x + 7) / 8) := by
  intro loose mean mg mb dp un gd cn cs a ccd cl outer A₀ base h₀ L m s Q E B F X N T hk hd hu hret
  refine wpAny_call ?_
  k_dflt cell_enter
  k_steps
  subst bits
  exact hret _ _ _ (Int.fdiv_eq_ediv_of_nonneg _ (by decide)) _ (by k_asm) (by k_asm)
set_option hygiene false in
local macro_rules | `(tactic| walk_at "call ref") => `(tactic| (k_here; (with_reducible show wpAny _ _ (call (Value.ref 28) _) _ _ _); k_dflt (refine' ctr_use ?k1 ?k2 ?k3 ?k4 ?k5 ?kK (size_bytes_c _ _ _ _ ?ka ?kb) ?kd ?ku ?_; walk_at "c5"; (case ka | kb => omega); walk_at "cdu"); intro nby tn9 hn9 enby tkn9 Fn9 Nn9; walk_at "e9"))

theorem mask_bd {k : Int} (h0 : 0 ≤ k) (h1 : k < 8) : 0 ≤ 1 * (2 : Int) ^ k.toNat - 1 ∧ 1 * (2 : Int) ^ k.toNat - 1 ≤ 255 := by
  have e : k = 0 ∨ k = 1 ∨ k = 2 ∨ k = 3 ∨ k = 4 ∨ k = 5 ∨ k = 6 ∨ k = 7 := by omega
  rcases e with e | e | e | e | e | e | e | e <;> subst e <;> decide
/-- the greatest first octet -/
def tm (b : Int) : Int := if Int.fmod b 8 = 0 then 255 else 1 * 2 ^ (Int.fmod b 8).toNat - 1
theorem tm_bd (b : Int) : 0 ≤ tm b ∧ tm b ≤ 255 := by
  have h : Int.fmod b 8 = b % 8 := Int.fmod_eq_emod_of_nonneg _ (by decide)
  unfold tm
  split
  · decide
  · exact mask_bd (by omega) (by omega)
theorem generate_mask_c (w : World) (news : List (Addr × Obj)) (x : Int) (tk : Tok) (h0 : 0 ≤ lb x) (h1 : lb x ≤ 100) : Ctr w 49 news [.int x tk] 3 24 (fun K => ∀ a y z t1 t2 h', (∀ p ∈ news, p.1 < a) → y = tm (lb x) → z = (lb x + 7) / 8 → 0 ≤ y → y ≤ 255 → K (.ref a) h' ((a, { cls := .type "tuple", data := .seq #[.int y t1, .int z t2] }) :: news)) := by
  intro loose mean mg mb dp un gd cn cs a ccd cl outer A₀ base h₀ L m s Q E B F X N T hk hd hu hret
  refine wpAny_call ?_
  k_dflt cell_enter
  k_steps
  all_goals first
    | (exfalso; have hb := mask_bd (k := Int.fmod bits 8) (by assumption) (by assumption); omega)
    | (subst bits; exact hret _ _ _ _ _ _ (by assumption) (if_neg (by assumption)).symm (by assumption) (by omega) (by omega) _ (by k_asm) (by k_asm))
    | (subst bits; exact hret _ _ _ _ _ _ (by assumption) (if_pos (by assumption)).symm (by assumption) (by decide) (by decide) _ (by k_asm) (by k_asm))
set_option hygiene false in
local macro_rules | `(tactic| walk_at "call ref") => `(tactic| (k_here; (with_reducible show wpAny _ _ (call (Value.ref 49) [Value.int _ _]) _ _ _); k_dflt (refine' ctr_use ?k1 ?k2 ?k3 ?k4 ?k5 ?kK (generate_mask_c _ _ _ _ ?ka ?kb) ?kd ?ku ?_; walk_at "c5"; (case ka | kb => omega); walk_at "cdu"); intro aGm mGm cGm t1Gm t2Gm hGm l1 emGm ecGm m0Gm m1Gm tkGm FGm NGm; (try k_lt l1); walk_at "e9"))
theorem fresh04 : True := by
  w_top off
  trivial
set_option hygiene false in
local macro_rules | `(tactic| walk_at "call builtin:int.to_bytes") => `(tactic| (k_here; (refine' to_bytes_any ?ka ?kb ?kc ?kd ?_; (case ka | kb | kc => omega); (case kd => first | assumption | (subst enby; exact fits_lb (by assumption) (by assumption) (by omega) (by omega)))); intro bs9 tb9 kb9 ks9 hks9 lks9 eks9))
set_option hygiene false in
local macro_rules | `(tactic| walk_at "exec Raise some none") => `(tactic| (k_here; (with_reducible show wpAny _ _ (exec (Stmt.Raise (some (Expr.Name ("ValueError" : Str) _)) none _) _) _ _ _); (with_reducible rename Fr _ _ _ _ => kF); k_dflt (refine' Raise_classB rfl excClass_ValueError ?hy ?hx ?_; (case hy => (rw [isSubtype_type]; kernel_rfl)); (case hx => (refine' name_B kF ?k1 ?k2 ?k3 ?k4 ?k5 ?_; (case k1 | k2 => k_asm); (case k3 => k_is); (case k4 => boot_by_name); (case k5 => decide); exact ⟨rfl, rfl⟩))); intro _ _ _))
set_option hygiene false in
local macro_rules | `(tactic| walk_at "exec Raise some none") => `(tactic| (k_here; (with_reducible show wpAny _ _ (exec (Stmt.Raise (some (Expr.Name ("TypeError" : Str) _)) none _) _) _ _ _); (with_reducible rename Fr _ _ _ _ => kF); k_dflt (refine' Raise_classB rfl excClass_TypeError ?hy ?hx ?_; (case hy => (rw [isSubtype_type]; kernel_rfl)); (case hx => (refine' name_B kF ?k1 ?k2 ?k3 ?k4 ?k5 ?_; (case k1 | k2 => k_asm); (case k3 => k_is); (case k4 => boot_by_name); (case k5 => decide); exact ⟨rfl, rfl⟩))); intro _ _ _))
set_option hygiene false in
local macro_rules | `(tactic| walk_at "call type:type") => `(tactic| (k_here; (with_reducible show wpAny _ _ (call (Value.type "type") [Value.bytes _ _]) _ _ _); refine type_of_bytes ?_))
theorem lt_lb {x : Int} (h : 0 ≤ x) : x < 2 ^ (lb x).toNat := by
  have h1 := intBits_le_iff.mp (Nat.le_refl (PySem.Builtin.Int.intBits x))
  have h2 : x = (x.natAbs : Int) := by omega
  have h3 : PySem.Builtin.Int.intBits x ≤ (lb x).toNat := by unfold lb; split <;> omega
  have h4 := Nat.lt_of_lt_of_le h1 (Nat.pow_le_pow_right (by decide : 0 < 2) h3)
  rw [h2]
  rw [h2, ← h2]
  exact_mod_cast h2 ▸ h4
theorem lb_pos (x : Int) : 1 ≤ lb x := by unfold lb; split <;> omega
theorem fits_lb {n x : Int} (h0 : 0 ≤ n) (hx : 0 ≤ x) (h : n ≤ x) (_h : lb x ≤ 100) : n < 256 ^ ((lb x + 7) / 8).toNat := by
  have h1 := lt_lb hx
  have h2 : ((2 : Int) ^ (lb x).toNat) ≤ 2 ^ (8 * ((lb x + 7) / 8).toNat) := by
    have := lb_pos x
    exact_mod_cast Nat.pow_le_pow_right (by decide : 0 < 2) (show (lb x).toNat ≤ 8 * ((lb x + 7) / 8).toNat by omega)
  rw [Int.pow_mul] at h2
  exact Int.lt_of_lt_of_le (Int.lt_of_le_of_lt h h1) h2
theorem lb_le {x b : Int} (h1 : 1 ≤ b) (h : x < 2 ^ b.toNat) (h0 : 0 ≤ x) : lb x ≤ b := by
  have h2 : x.natAbs < 2 ^ b.toNat := by
    have : ((x.natAbs : Nat) : Int) < ((2 ^ b.toNat : Nat) : Int) := by
      rw [Int.natCast_pow]
      exact (show ((x.natAbs : Nat) : Int) = x by omega) ▸ h
    exact_mod_cast this
  have h3 := intBits_le_iff.mpr h2
  unfold lb
  split <;> omega
theorem lt_lb_of {x b : Int} (h1 : 1 ≤ b) (h : 2 ^ b.toNat ≤ x) (h0 : 0 ≤ x) : b < lb x := by
  have h2 := lt_lb h0
  have h3 := lb_pos x
  by_cases hc : b < lb x
  · exact hc
  · exfalso
    have h4 : ((2 : Int) ^ (lb x).toNat) ≤ 2 ^ b.toNat := by
      exact_mod_cast Nat.pow_le_pow_right (by decide : 0 < 2) (show (lb x).toNat ≤ b.toNat by omega)
    omega
theorem lb_100 {x : Int} (h : x < 2 ^ 100) (h0 : 0 ≤ x) : lb x ≤ 100 := lb_le (by decide) h h0
theorem fresh05 : True := by
  w_top off
  trivial
theorem numOf_eq (ks : List Int) : ks.foldl (fun a k => 256 * a + k) 0 = numOf ks := by
  unfold numOf
  congr 1
  funext a k
  omega
section Private
set_option hygiene false in
local macro_rules | `(tactic| walk_at "pyIter bytes") => `(tactic| (k_here; (rename Fr _ _ _ _ => lF'); (rename News _ _ _ _ => lN'); (with_unfolding_all refine' KBw.iterBytes_acc1 (y := PySem.Str.ofString "number") (fun a k => 256 * a + k) (by kba_ints) (by rfl) lF' lN' (by rfl) (fun k' t' a' ta' h' tk' own' hmem' hlo' hhi' hoff' F' N' => ?_) (fun u' t' h' tk' F' N' => ?_)); (all_goals (try clear lF' lN')); (all_goals (try k_fold))))
set_option hygiene false in
local macro_rules | `(tactic| walk_at "InvEndN") => `(tactic| (refine InvEndN.intro (by assumption) (by assumption) ⟨rfl, ⟨_, rfl⟩, by kba_same⟩ (by rfl) (fun p hp => List.mem_append.mpr (.inl hp)) (fun p hp => List.mem_append.mpr (.inr hp))))
theorem law_number_bytes_c (w : World) (news : List (Addr × Obj)) (b : Array UInt8) (tk : Tok) (ks : List Int) (hb : KBw.bInts b = ks) (hl : ks.length ≤ 24) : Ctr w 91 news [.bytes b tk] 1 60 (RetI news fun y => y = numOf ks) := by
  intro loose mean mg mb dp un gd cn cs a ccd cl outer A₀ base h₀ L m s Q E B F X N T hk hd hu hret
  refine wpAny_call ?_
  k_dflt cell_enter
  k_steps
  exact hret _ _ _ (numOf_eq ks) _ (by k_asm) (by k_asm)
set_option hygiene false in
local macro_rules | `(tactic| walk_at "exec For Name Name cons nil") => `(tactic| (k_here; (rename Fr _ _ _ _ => lF'); (with_unfolding_all refine' For_invVF lF' ?k1 ?k2 ?_; (case k1 | k2 => exact rfl); k_whole)))
set_option hygiene false in
local macro_rules | `(tactic| walk_at "pyIter ref") => `(tactic| (k_here; (with_reducible show wpAny _ _ (pyIter (Value.ref _)) (fun it s₂ => LoopAtV _ _ _ _ _ _ _ _ _ it s₂) _ _); (rename Fr _ _ _ _ => lF'); (rename News _ _ _ _ => lN'); (with_unfolding_all refine' iterList_acc1 (y := PySem.Str.ofString "number") (fun a k => 256 * a + k) rfl (by assumption) (by assumption) lF' lN' (by rfl) (fun k' t' a' ta' h' tk' own' F' N' => ?_) (fun u' t' h' tk' F' N' => ?_)); (all_goals (try clear lF' lN')); (all_goals (try k_fold))))
theorem law_number_list_c (w : World) (news : List (Addr × Obj)) (l : Addr) (vs : List Value) (n : Nat) (ks : List Int) (hin : (l, W.listOf vs.toArray n) ∈ news) (hi : IntsAre vs ks) : Ctr w 91 news [.ref l] 1 60 (RetI news fun y => y = numOf ks) := by
  intro loose mean mg mb dp un gd cn cs a ccd cl outer A₀ base h₀ L m s Q E B F X N T hk hd hu hret
  refine wpAny_call ?_
  k_dflt cell_enter
  k_steps
  exact hret _ _ _ (numOf_eq ks) _ (by k_asm) (by k_asm)
end Private
set_option hygiene false in
local macro_rules | `(tactic| walk_at "call ref") => `(tactic| (k_here; (with_reducible show wpAny _ _ (call (Value.ref 91) [Value.bytes _ _]) _ _ _); k_dflt (refine' ctr_use ?k1 ?k2 ?k3 ?k4 ?k5 ?kK (law_number_bytes_c _ _ _ _ _ ?ka ?kb) ?kd ?ku ?_; walk_at "c5"; (case ka => assumption); (case kb => omega); walk_at "cdu"); intro ynum tq9 hq9 eynum tkq9 Fq9 Nq9; walk_at "e9"))
set_option hygiene false in
local macro_rules | `(tactic| walk_at "call ref") => `(tactic| (k_here; (with_reducible show wpAny _ _ (call (Value.ref 91) [Value.ref _]) _ _ _); k_dflt (refine' ctr_use ?k1 ?k2 ?k3 ?k4 ?k5 ?kK (law_number_list_c _ _ _ _ _ _ ?ka ?kb) ?kd ?ku ?_; walk_at "c5"; (case ka => k_mem); (case kb => first | assumption | l_ints); walk_at "cdu"); intro ynum tq9 hq9 eynum tkq9 Fq9 Nq9; walk_at "e9"))
theorem law_bits_c (w : World) (news : List (Addr × Obj)) (x : Int) (tk : Tok) (h0 : 0 ≤ x) (h1 : lb x ≤ 100) : Ctr w 98 news [.int x tk] 1 60 (RetI news fun y => y = lb x) := by
  intro loose mean mg mb dp un gd cn cs a ccd cl outer A₀ base h₀ L m s Q E B F X N T hk hd hu hret
  have hp := lb_pos x
  refine wpAny_call ?_
  k_dflt cell_enter
  k_with "exec While Compare cons nil" => k_while (fun _ bits => 1 ≤ bits ∧ bits ≤ lb x) (fun _ bits => (lb x - bits).toNat) "bits"
  k_steps
  · have hlt := lt_lb_of (x := x) (by assumption) (by assumption) h0
    ksw_close
  · exact hret _ _ _ (by have hle := lb_le (x := x) (by assumption) (Int.not_le.mp (by assumption)) h0; omega) _ (by k_asm) (by k_asm)
set_option hygiene false in
local macro_rules | `(tactic| walk_at "call ref") => `(tactic| (k_here; (with_reducible show wpAny _ _ (call (Value.ref 98) _) _ _ _); k_dflt (refine' ctr_use ?k1 ?k2 ?k3 ?k4 ?k5 ?kK (law_bits_c _ _ _ _ ?ka ?kb) ?kd ?ku ?_; walk_at "c5"; (case ka | kb => omega); walk_at "cdu"); intro ylb tl9 hl9 eylb tkl9 Fl9 Nl9; walk_at "e9"))
theorem fresh06 : True := by
  w_top off
  trivial
set_option hygiene false in
local macro_rules | `(tactic| walk_at "call ref") => `(tactic| (k_here; (with_reducible show wpAny _ _ (call (Value.ref _) [Value.bytes _ _, Value.str _ _]) _ _ _); kfb_any; k_dflt (refine from_bytes_any (by k_asm) (by k_mem) (by kba_ints2) (by first | assumption | omega) ?_); intro yfb tfb kfb eyfb))
theorem news_drop {h₀ h : Heap} {L : Addr} {q : Addr × Obj} {news : List (Addr × Obj)} (N : News h₀ L h (q :: news)) : News h₀ L h news := fun p hp => N p (List.mem_cons_of_mem _ hp)
theorem bytes_to_number_c (w : World) (news : List (Addr × Obj)) (b : Array UInt8) (tk : Tok) (ks : List Int) (hb : KBw.bInts b = ks) (hl : ks.length ≤ 24) : Ctr w 42 news [.bytes b tk] 1 60 (RetI news fun y => y = numOf ks) := by
  intro loose mean mg mb dp un gd cn cs a ccd cl outer A₀ base h₀ L m s Q E B F X N T hk hd hu hret
  refine wpAny_call ?_
  k_dflt cell_enter
  k_steps
  exact hret _ _ _ (by assumption) _ (by k_asm) (news_drop (by k_asm))
set_option hygiene false in
local macro_rules | `(tactic| walk_at "call ref") => `(tactic| (k_here; (with_reducible show wpAny _ _ (call (Value.ref 42) [Value.bytes _ _]) _ _ _); k_dflt (refine' ctr_use ?k1 ?k2 ?k3 ?k4 ?k5 ?kK (bytes_to_number_c _ _ _ _ _ ?ka ?kb) ?kd ?ku ?_; walk_at "c5"; (case ka => assumption); (case kb => omega); walk_at "cdu"); intro ybn tbn hbn eybn tkbn Fbn Nbn; walk_at "e9"))
theorem list_to_number_c (w : World) (news : List (Addr × Obj)) (l : Addr) (vs : List Value) (n : Nat) (ks : List Int) (hin : (l, W.listOf vs.toArray n) ∈ news) (hi : IntsAre vs ks) (hr : KBa.In ks) (hl : ks.length ≤ 24) : Ctr w 70 news [.ref l] 1 60 (RetI news fun y => y = numOf ks) := by
  intro loose mean mg mb dp un gd cn cs a ccd cl outer A₀ base h₀ L m s Q E B F X N T hk hd hu hret
  refine wpAny_call ?_
  k_dflt cell_enter
  k_steps
  exact hret _ _ _ (by assumption) _ (by k_asm) (news_drop (by k_asm))
set_option hygiene false in
local macro_rules | `(tactic| walk_at "call ref") => `(tactic| (k_here; (with_reducible show wpAny _ _ (call (Value.ref 70) [Value.ref _]) _ _ _); k_dflt (refine' ctr_use ?k1 ?k2 ?k3 ?k4 ?k5 ?kK (list_to_number_c _ _ _ _ _ _ ?ka ?kb ?kc ?ke) ?kd ?ku ?_; walk_at "c5"; (case ka => k_mem); (case kb | kc => assumption); (case ke => omega); walk_at "cdu"); intro yln tln hln eyln tkln Fln Nln; walk_at "e9"))
/-- the octets with the first one cut by the mask -/
def masked (x : Int) (ks : List Int) : List Int := [Builtin.bitAnd x (ks.getD (Int.toNat 0) 0)] ++ ks.drop 1
theorem masked_len {x : Int} {ks : List Int} (h : 0 < ks.length) : (masked x ks).length = ks.length := by
  unfold masked
  rw [List.length_append, List.length_drop]
  simp only [List.length_cons, List.length_nil]
  omega
theorem masked_in {x : Int} {ks : List Int} (h : KBa.In ks) (h0 : 0 < ks.length) (hx0 : 0 ≤ x) (hx1 : x ≤ 255) : KBa.In (masked x ks) := by
  intro k hk
  rcases List.mem_append.mp hk with hk | hk
  · rw [List.mem_singleton.mp hk]
    have h1 : 0 ≤ ks.getD (Int.toNat 0) 0 ∧ ks.getD (Int.toNat 0) 0 < 256 := by
      have e : ks.getD (Int.toNat 0) 0 = ks[0] := by
        show ks.getD 0 0 = ks[0]
        rw [List.getD_eq_getElem?_getD, List.getElem?_eq_getElem h0]; rfl
      rw [e]
      exact h _ (List.getElem_mem h0)
    have h2 := bitAnd_range x h1.1
    exact ⟨h2.1, Int.lt_of_le_of_lt h2.2 h1.2⟩
  · exact h k (List.mem_of_mem_drop hk)
theorem news_last {h₀ h : Heap} {L : Addr} {q q1 q2 : Addr × Obj} {news : List (Addr × Obj)} (N : News h₀ L h (q :: q1 :: q2 :: news)) : News h₀ L h (q :: news) := fun p hp => N p (by
  rcases List.mem_cons.mp hp with rfl | hp
  · exact List.mem_cons_self ..
  · exact List.mem_cons_of_mem _ (List.mem_cons_of_mem _ (List.mem_cons_of_mem _ hp)))
theorem mask_list_c (w : World) (news : List (Addr × Obj)) (x : Int) (tk : Tok) (l : Addr) (vs : List Value) (n : Nat) (ks : List Int) (hin : (l, W.listOf vs.toArray n) ∈ news) (hi : IntsAre vs ks) (hr : KBa.In ks) (hl : ks.length ≤ 24) (h0 : 0 < ks.length) (hx0 : 0 ≤ x) (hx1 : x ≤ 255) : Ctr w 63 news [.int x tk, .ref l] 1 60 (fun K => ∀ a vs' n' ms h', (∀ p ∈ news, p.1 < a) → IntsAre vs' ms → ms = masked x ks → KBa.In ms → ms.length = ks.length → K (.ref a) h' ((a, W.listOf vs'.toArray n') :: news)) := by
  intro loose mean mg mb dp un gd cn cs a ccd cl outer A₀ base h₀ L m s Q E B F X N T hk hd hu hret
  refine wpAny_call ?_
  k_dflt cell_enter
  k_steps
  rename_i hI' l1 _ _ _ _
  exact hret _ _ _ _ _ (ktn_ltOf l1.2.2) hI' rfl (masked_in hr h0 hx0 hx1) (masked_len h0) _ (by k_asm) (news_last (by k_asm))
set_option hygiene false in
local macro_rules | `(tactic| walk_at "call ref") => `(tactic| (k_here; (with_reducible show wpAny _ _ (call (Value.ref 63) [Value.int _ _, Value.ref _]) _ _ _); k_dflt (refine' ctr_use ?k1 ?k2 ?k3 ?k4 ?k5 ?kK (mask_list_c _ _ _ _ _ _ _ _ ?ka ?kb ?kc ?ke ?kf ?kg ?kh) ?kd ?ku ?_; walk_at "c5"; (case ka => k_mem); (case kb | kc => assumption); (case ke | kf | kg | kh => omega); walk_at "cdu"); intro aml vml nml mml hml l1 hIml eml hRml hLml tkml Fml Nml; (try k_lt l1); walk_at "e9"))
theorem fresh07 : True := by
  w_top off
  trivial
theorem all_ne_of_lt {n d : Nat} {news : List (Addr × Obj)} (h : ∀ p ∈ news, p.1 < n) (hd : n ≤ d) : ∀ p ∈ news, p.1 ≠ d := fun p hp => Nat.ne_of_lt (Nat.lt_of_lt_of_le (h p hp) hd)
set_option hygiene false in
local macro_rules | `(tactic| k_all) => `(tactic| first | assumption | exact all_ne_of_lt (by assumption) (by (try dsimp only); omega))
set_option hygiene false in
local macro_rules | `(tactic| kn_triples) => `(tactic| assumption)
set_option hygiene false in
local macro_rules | `(tactic| kn_hit) => `(tactic| exact hcode _ rfl rfl)
/-- as `Ctr`, for the defs that make the closure: the code's table lies in the ledger -/
def CtrS (w : World) (f : Addr) (news : List (Addr × Obj)) (vs : List Value) (dn un9 : Nat) (Ret : (Value → Heap → List (Addr × Obj) → Prop) → Prop) : Prop :=
  ∀ (loose : List Str) (mean : ExcName → Option Value) (mg mb : Str → Option Value) (dp un : Nat) (gd : Option (List Code)) (cn : Str) (cs : Scope) (a : Addr) (ccd : Value) (cl : List (Str × Addr)) (outer : List Env) (A₀ : Around) (base h₀ : Heap) (L : Addr) (m : Str → Option Value) (s : Shared) (Q E : Value → Shared → Prop),
    Below A₀ base outer h₀ → Fr h₀ L s.heap m → (hd.heap_39 w.params).In h₀ → News h₀ L s.heap news → Top topProg loose mean mg mb h₀ → cs.kind = .function → CodeHd base 104 100 → dp + dn < recursionLimit → un + un9 < cLine →
    Ret (fun r h' news' => ∀ tk', Fr h₀ L h' m → News h₀ L h' news' → Q r { s with heap := h', toks := tk' }) →
    wpAny (model PG w) (ktrTop dp un gd cn cs L a ccd cl outer) (call (.ref f) vs) Q E s
theorem ctrS_use {w : World} {f : Addr} {news : List (Addr × Obj)} {vs : List Value} {dn un9 : Nat} {Ret : (Value → Heap → List (Addr × Obj) → Prop) → Prop} {loose : List Str} {mean : ExcName → Option Value} {mg mb : Str → Option Value} {dp un : Nat} {gd : Option (List Code)} {cn : Str} {cs : Scope} {a : Addr} {ccd : Value} {cl : List (Str × Addr)} {outer : List Env} {A₀ : Around} {base h₀ : Heap} {L : Addr} {m : Str → Option Value} {s : Shared} {Q E : Value → Shared → Prop}
    (B : Below A₀ base outer h₀) (F : Fr h₀ L s.heap m) (X : (hd.heap_39 w.params).In h₀) (N : News h₀ L s.heap news) (T : Top topProg loose mean mg mb h₀) (hk : cs.kind = .function) (hC : CodeHd base 104 100)
    (C : CtrS w f news vs dn un9 Ret) (hd : dp + dn < recursionLimit) (hu : un + un9 < cLine)
    (ret : Ret (fun r h' news' => ∀ tk', Fr h₀ L h' m → News h₀ L h' news' → Q r { s with heap := h', toks := tk' })) :
    wpAny (model PG w) (ktrTop dp un gd cn cs L a ccd cl outer) (call (.ref f) vs) Q E s :=
  C _ _ _ _ _ _ _ _ _ _ _ _ _ _ _ _ _ _ _ _ _ B F X N T hk hC hd hu ret
def defBody : Stmt → List Stmt
  | .FunctionDef _ _ b _ _ _ _ _ _ _ => b
  | _ => []
def defArgs : Stmt → Arguments
  | .FunctionDef _ a _ _ _ _ _ _ _ _ => a
  | _ => default
def defScope : Stmt → Scope
  | .FunctionDef _ _ _ _ _ _ s _ _ _ => s
  | _ => default
/-- the def within the stream's def, as the text has it -/
def giveStmt : Stmt := (defBody (PG.main.body.getD 14 default)).getD 1 default
abbrev giveQual : PySem.Str := PySem.Str.ofString "_law_stream.<locals>.give"
abbrev GiveIs (F : Obj) (c1 c2 c3 c' : Addr) : Prop := ∃ doc pm ctv, F = fnMade (PySem.Str.ofString "give") giveQual (defArgs giveStmt) (defBody giveStmt) (defScope giveStmt) [(PySem.Str.ofString "octets", c1), (PySem.Str.ofString "more", c2), (PySem.Str.ofString "asked", c3)] doc pm c' ctv
abbrev CodeIs (oc : Obj) : Prop := ∃ cvs qt, oc.data = .fields cvs ∧ cvs[1]? = some (.str giveQual qt)
/-- the code's table holds give's code -/
abbrev TabIs (ps : Array Value) (c' : Addr) : Prop := TriplesOk ps.toList ∧ ∀ pos : Pos, pos.line = 60 → pos.col = 4 → codeAmong pos ps.toList = some (.ref c')
theorem law_stream_c (w : World) (news : List (Addr × Obj)) (o : Addr) (more : Int) (tk : Tok) (ps : Array Value) (c' : Addr) (hT : (100, tabObj ps) ∈ news) (hps' : TabIs ps c') :
    CtrS w 105 news [.ref o, .int more tk] 1 60 (fun K => ∀ T f d c1 c2 c3 o1 o2 o3 F t0 h', (∀ p ∈ news, p.1 < c1) → @LT.lt Nat _ c1 c2 → @LT.lt Nat _ c2 c3 → @LT.lt Nat _ c3 d → @LT.lt Nat _ d f → @LT.lt Nat _ f T →
      o1.data = .cell (some (.ref o)) → o2.data = .cell (some (.int more tk)) → o3.data = .cell (some (.ref d)) → GiveIs F c1 c2 c3 c' →
      K (.ref T) h' ((T, { cls := .type "tuple", data := .seq #[.ref f, .ref d] }) :: (f, F) :: (d, W.listOf #[.int 0 t0] 0) :: (c3, o3) :: (c2, o2) :: (c1, o1) :: news)) := by
  intro loose mean mg mb dp un gd cn cs a ccd cl outer A₀ base h₀ L m s Q E B F X N T hk hC hd hu hret
  obtain ⟨hps, hcode⟩ := hps'
  refine wpAny_call ?_
  k_dflt (refine' code_defC ?k1 ?k2 ?k3 ?k4 ?k5 ?kA ?kF ?kK ?k6 ?k7 ?k8 ?k9 ?kB ?kD ?_ ?c2 ?c3 ?c4; (case kA => exact rfl); (case kF => exact rfl); (case kK => first | exact rfl | assumption); (case k1 => k_asm); (case k2 => k_asm); (case k3 => k_asm); (case k4 => k_asm); (case k5 => k_asm); (case k6 => k_is); (case k7 => k_is); (case k8 => ktr_room); (case k9 => exact BindsTo.of_eq rfl); (case kB => exact rfl); (case kD => decide +kernel); (case c2 => exact rfl); (case c3 => exact rfl); (case c4 => exact rfl); k_whole; intro g' L' h' tk' cells' FG' F' N' Y' B' X' T' l1; (try k_lt l1); k_cells Y'; (try simp only [List.cons_append, List.nil_append] at N'); (try dsimp only); (try k_lift B'); (try k_fold))
  k_steps
  refine hret _ _ _ _ _ _ _ _ _ _ _ _ ?za ?zb ?zc ?zd ?ze ?zf ?zg ?zh ?zi ?zj _ (by k_asm) (by k_asm)
  case za => exact fun p hp => Nat.lt_succ_of_lt ((by assumption : ∀ p ∈ news, p.1 < L') p hp)
  case zb => omega
  case zc => omega
  case zd => omega
  case ze => omega
  case zf => omega
  case zg => assumption
  case zh => assumption
  case zi => assumption
  case zj => exact ⟨_, _, _, rfl⟩
set_option hygiene false in
local macro_rules | `(tactic| walk_at "call ref") => `(tactic| (k_here; (with_reducible show wpAny _ _ (call (Value.ref 105) [Value.ref _, Value.int _ _]) _ _ _); k_dflt (refine' ctrS_use ?k1 ?k2 ?k3 ?k4 ?k5 ?kK ?kC (law_stream_c _ _ _ _ _ _ _ ?ka ?kb) ?kd ?ku ?_; walk_at "c5"; (case kC => assumption); (case ka => k_mem); (case kb => assumption); walk_at "cdu"); intro tSt fSt dSt c1St c2St c3St o1St o2St o3St FSt t0St hSt l1 l2St l3St l4St l5St l6St d1St d2St d3St gSt tkSt FhSt NhSt; (try k_lt l1); walk_at "e9"))
theorem fresh08 : True := by
  w_top off
  trivial
/-- what the closure needs in the ledger -/
def Stream (rest : List (Addr × Obj)) (f d o : Addr) (more : Int) : Prop :=
  ∃ c1 c2 c3 c' o1 o2 o3 F oc tk, (f, F) ∈ rest ∧ GiveIs F c1 c2 c3 c' ∧ (c1, o1) ∈ rest ∧ o1.data = .cell (some (.ref o)) ∧ (c2, o2) ∈ rest ∧ o2.data = .cell (some (.int more tk)) ∧ (c3, o3) ∈ rest ∧ o3.data = .cell (some (.ref d)) ∧ (c', oc) ∈ rest ∧ CodeIs oc
/-- the octets that a call of the closure takes: `count` of them from place `p`, noughts behind the end -/
def rowAt (oks : List Int) (p count : Nat) : List Int := (List.range count).map fun i => oks.getD (p + i) 0
theorem rowAt_len (oks : List Int) (p count : Nat) : (rowAt oks p count).length = count := by simp [rowAt]
theorem getD_in {oks : List Int} (h : KBa.In oks) (i : Nat) : 0 ≤ oks.getD i 0 ∧ oks.getD i 0 < 256 := by
  rw [List.getD_eq_getElem?_getD]
  cases hq : oks[i]? with
  | none => simp
  | some k => exact h k (List.mem_of_getElem? hq)
theorem flat_zeros (k : Nat) : (List.replicate k [(0 : Int)]).flatten = List.replicate k 0 := by
  induction k with
  | zero => rfl
  | succ k ih => rw [List.replicate_succ, List.flatten_cons, ih]; rfl
abbrev cutAt (oks : List Int) (p count : Int) : List Int := (oks.drop p.toNat).take (min (p + count).toNat oks.length - p.toNat)
abbrev padAt (oks : List Int) (p count more : Int) : List Int := (cutAt oks p count ++ (List.replicate (count - ((cutAt oks p count).length : Int) + 1).toNat [0]).flatten).take (count + more).toNat
theorem cut_len {oks : List Int} {p count : Int} (h0 : 0 ≤ p) (h1 : 0 ≤ count) : (cutAt oks p count).length = min count.toNat (oks.length - p.toNat) := by
  rw [List.length_take, List.length_drop]
  omega
theorem pad_len {oks : List Int} {p count more : Int} (h0 : 0 ≤ p) (h1 : 1 ≤ count) (hm0 : -1 ≤ more) (hm1 : more ≤ 1) : ((padAt oks p count more).length : Int) = count + more := by
  have hc := cut_len (oks := oks) h0 (show 0 ≤ count by omega)
  rw [List.length_take, List.length_append, flat_zeros, List.length_replicate]
  omega
theorem pad_in {oks : List Int} {p count more : Int} (hr : KBa.In oks) : KBa.In (padAt oks p count more) := by
  intro k hk
  rcases List.mem_append.mp (List.mem_of_mem_take hk) with hk | hk
  · exact hr k (List.mem_of_mem_drop (List.mem_of_mem_take hk))
  · rw [flat_zeros] at hk
    rw [(List.mem_replicate.mp hk).2]
    decide
theorem pad_row {oks : List Int} {p count : Int} (h0 : 0 ≤ p) (h1 : 1 ≤ count) : padAt oks p count 0 = rowAt oks p.toNat count.toNat := by
  have hc := cut_len (oks := oks) h0 (show 0 ≤ count by omega)
  have hl := pad_len (oks := oks) h0 h1 (show -1 ≤ (0 : Int) by decide) (by decide)
  refine List.ext_getElem? fun i => ?_
  by_cases hi : i < count.toNat
  · have hR : (rowAt oks p.toNat count.toNat)[i]? = some (oks.getD (p.toNat + i) 0) := by
      unfold rowAt
      rw [List.getElem?_map, List.getElem?_range hi]
      rfl
    rw [hR, List.getElem?_take_of_lt (by omega)]
    by_cases hA : i < (cutAt oks p count).length
    · rw [List.getElem?_append_left hA, List.getElem?_take_of_lt (by omega), List.getElem?_drop, List.getD_eq_getElem?_getD, List.getElem?_eq_getElem (by omega)]
      rfl
    · rw [List.getElem?_append_right (by omega), flat_zeros, List.getElem?_replicate, if_pos (by omega), List.getD_eq_getElem?_getD, List.getElem?_eq_none (by omega)]
      rfl
  · rw [List.getElem?_eq_none (by omega), List.getElem?_eq_none (by rw [rowAt_len]; omega)]
theorem item0_K {prog : Program} {w : World} {A : Around} {E : Value → Shared → Prop} {s : Shared} {value slice : PySem.Expr} {h₀ : Heap} {L d : Addr} {news : List (Addr × Obj)} {p : Int} {tp u : Tok} {n : Nat} {Q : Value → Shared → Prop}
    (N : News h₀ L s.heap news) (hm : (d, W.listOf #[.int p tp] n) ∈ news) (h : Q (.int p tp) s)
    (hs : subscripted slice false (.ref d) (.int 0 u) = operate [.ref d, .int 0 u] (getItem (.ref d) (.int 0 u)) := by with_unfolding_all rfl) :
    wpAny (model prog w) A (subscriptTail value slice (.ref d) (.int 0 u)) Q E s :=
  have hl : s.heap.IsList d #[.int p tp] := News.isList N hm
  tail_any hl.typeIs slot_list_getitem.lookup (wpAny_getItem_list hl (by decide) (by decide) rfl h) hs
set_option hygiene false in
local macro_rules | `(tactic| walk_at "subscriptTail Name Constant ref int") => `(tactic| (k_here; (with_reducible show wpAny _ _ (subscriptTail _ _ (Value.ref _) (Value.int 0 _)) _ _ _); (with_unfolding_all refine' item0_K ?kn ?km ?_ ?ks; (case kn => k_asm); (case km => k_mem); (case ks => with_unfolding_all rfl); k_whole)))
theorem give_c (w : World) (rest : List (Addr × Obj)) (f d o : Addr) (more p count : Int) (tk tp : Tok) (n no : Nat) (vs : List Value) (oks : List Int) (hS : Stream rest f d o more) (hne : ∀ q ∈ rest, q.1 ≠ d) (ho : (o, W.listOf vs.toArray no) ∈ rest) (hi : IntsAre vs oks) (hr : KBa.In oks) (hl : oks.length ≤ 1000)
    (hp0 : 0 ≤ p) (hp1 : p ≤ 1000000) (hc0 : 1 ≤ count) (hc1 : count ≤ 24) (hm0 : -1 ≤ more) (hm1 : more ≤ 1) :
    CtrS w f ((d, W.listOf #[.int p tp] n) :: rest) [.int count tk] 1 60 (fun K => ∀ b t ks t' n' h', KBw.bInts b = ks → (ks.length : Int) = count + more → KBa.In ks → (more = 0 → ks = rowAt oks p.toNat count.toNat) → K (.bytes b t) h' ((d, W.listOf #[.int (p + count) t'] n') :: rest)) := by
  intro loose mean mg mb dp un gd cn cs a ccd cl outer A₀ base h₀ L m s Q E B F X N T hk hC hd hu hret
  obtain ⟨c1, c2, c3, c', o1, o2, o3, Fo, oc, tkm, hf, ⟨doc, pm, ctv, hF⟩, hc1m, d1, hc2m, d2, hc3m, d3, hcm, ⟨cvs, qt, hoc, hvs⟩⟩ := hS
  subst hF
  generalize hG : giveStmt = G at *
  conv at hG => lhs; whnf
  subst hG
  simp only [defBody, defArgs, defScope] at hf
  refine wpAny_call ?_
  k_dflt (refine' code_nest ?k1 ?k2 ?k3 ?k4 ?k5 ?kA ?kF ?kK ?k6 ?k7 ?k8 ?k9 ?kB ?_ ?c2 ?c3 ?c4 ?c5; (case kA => exact rfl); (case kF => exact rfl); (case kK => first | exact rfl | assumption); (case k1 => k_asm); (case k2 => k_asm); (case k3 => k_asm); (case k4 => k_asm); (case k5 => k_asm); (case k6 => exact List.mem_cons_of_mem _ hf); (case k7 => exact codeRec_news (by k_asm) (List.mem_cons_of_mem _ hcm) (by assumption) (by assumption)); (case k8 => ktr_room); (case k9 => exact BindsTo.of_eq rfl); (case c5 => decide); (case kB => exact locs rfl); (case c2 => exact rfl); (case c3 => exact rfl); (case c4 => exact rfl); k_whole; intro g' L' h' FG' F' N' B' X' T'; (try dsimp only); (try k_lift B'); (try k_fold))
  k_steps
  k_dflt (refine' KBa.make_K (ns := padAt oks p count more) ?zF ?zN ?zh ?zl ?zi ?zr ?zn ?_)
  case zF => k_asm
  case zN => k_asm
  case zh => rfl
  case zl => exact News.isList (by k_asm) (by k_mem)
  case zi => assumption
  case zr => exact pad_in hr
  case zn => have hq := pad_len (oks := oks) hp0 hc0 hm0 hm1; omega
  intro hz tz kz Fz Nz _
  k_steps
  refine hret _ _ _ _ _ _ (KBa.ints_make (pad_in hr)) (pad_len hp0 hc0 hm0 hm1) (pad_in hr) (fun e => by subst e; exact pad_row hp0 hc0) _ (by k_asm) (news_drop (news_drop (news_drop (news_drop (news_drop (by k_asm))))))
set_option hygiene false in
local macro_rules | `(tactic| walk_at "call ref") => `(tactic| (k_here; (with_reducible show wpAny _ _ (call (Value.ref _) [Value.int _ _]) _ _ _); k_dflt (refine' ctrS_use ?k1 ?k2 ?k3 ?k4 ?k5 ?kK ?kC (give_c _ _ _ _ _ _ _ _ _ _ _ _ _ _ ?ka ?kb ?kc ?ke ?kf ?kg ?kh ?ki ?kj ?kl ?km ?kn) ?kd ?ku ?_; (case ka => assumption); walk_at "c5"; (case kC | kb => assumption); (case kc => first | assumption | k_mem); (case ke | kf => assumption); (case kg | kh | ki | kj | kl | km | kn => omega); walk_at "cdu"); intro bGv tGv ksGv tGv2 nGv hGv hbGv hlGv hrGv heGv tkGv FGv NGv; walk_at "e9"))
theorem fresh09 : True := by
  w_top off
  trivial
set_option hygiene false in
local macro_rules | `(tactic| walk_at "call type:list") => `(tactic| (k_here; (with_reducible show wpAny _ _ (call (Value.type "list") [Value.bytes _ _]) _ _ _); k_dflt (refine' list_bytes_N rfl ?kF ?kN ?kb ?kn ?_; (case kF | kN => k_asm); (case kb => assumption); (case kn => omega)); intro lLb vLb nLb hLb tkLb FLb NLb l1 hILb; (try k_lt l1); walk_at "e9"))
theorem stream_fn {rest : List (Addr × Obj)} {f d o : Addr} {more : Int} {h₀ h : Heap} {L : Addr} {q : Addr × Obj} (S : Stream rest f d o more) (N : News h₀ L h (q :: rest)) : FnAt f h := by
  obtain ⟨c1, c2, c3, c', o1, o2, o3, Fo, oc, tkm, hf, ⟨doc, pm, ctv, hF⟩, _⟩ := S
  subst hF
  exact FnAt.of N (List.mem_cons_of_mem _ hf)
set_option hygiene false in
local macro_rules | `(tactic| walk_at "callWith ref") => `(tactic| (k_here; (with_reducible show wpAny _ _ (callWith _ (Value.ref _) _ (backTo _ (starEach (_ :: _) _)) []) _ _ _); k_dflt (refine' callWith_F ?k1 ?_; (case k1 => exact stream_fn (by assumption) (by k_asm)); k_whole)))
set_option hygiene false in
local macro_rules | `(tactic| walk_at "And") => `(tactic| ((with_reducible show FnAt _ _ ∧ _); k_dflt (refine ⟨stream_fn (by assumption) (by k_asm), ?_⟩); (try dsimp only [List.nil_append, List.cons_append])))
set_option hygiene false in
local macro_rules | `(tactic| walk_at "FnAt") => `(tactic| k_dflt (exact stream_fn (by assumption) (by k_asm)))
theorem random_list_c (w : World) (rest : List (Addr × Obj)) (f d o : Addr) (more p count : Int) (tk tp : Tok) (n no : Nat) (vs : List Value) (oks : List Int) (hS : Stream rest f d o more) (hne : ∀ q ∈ rest, q.1 ≠ d) (ho : (o, W.listOf vs.toArray no) ∈ rest) (hi : IntsAre vs oks) (hr : KBa.In oks) (hl : oks.length ≤ 1000)
    (hp0 : 0 ≤ p) (hp1 : p ≤ 1000000) (hc0 : 1 ≤ count) (hc1 : count ≤ 24) (hm0 : -1 ≤ more) (hm1 : more ≤ 1) :
    CtrS w 56 ((d, W.listOf #[.int p tp] n) :: rest) [.int count tk, .ref f] 2 120 (fun K => ∀ l vs' n' ks t' n'' h', @LT.lt Nat _ d l → (∀ q ∈ rest, q.1 < l) → IntsAre vs' ks → (ks.length : Int) = count + more → KBa.In ks → (more = 0 → ks = rowAt oks p.toNat count.toNat) → K (.ref l) h' ((l, W.listOf vs'.toArray n') :: (d, W.listOf #[.int (p + count) t'] n'') :: rest)) := by
  intro loose mean mg mb dp un gd cn cs a ccd cl outer A₀ base h₀ L m s Q E B F X N T hk hC hd hu hret
  refine wpAny_call ?_
  k_dflt cell_enter
  k_steps
  exact hret _ _ _ _ _ _ _ l1.1 (ktn_ltOf l1.2) hILb hlGv hrGv heGv _ (by k_asm) (by k_asm)
set_option hygiene false in
local macro_rules | `(tactic| walk_at "call ref") => `(tactic| (k_here; (with_reducible show wpAny _ _ (call (Value.ref 56) [Value.int _ _, Value.ref _]) _ _ _); k_dflt (refine' ctrS_use ?k1 ?k2 ?k3 ?k4 ?k5 ?kK ?kC (random_list_c _ _ _ _ _ _ _ _ _ _ _ _ _ _ ?ka ?kb ?kc ?ke ?kf ?kg ?kh ?ki ?kj ?kl ?km ?kn) ?kd ?ku ?_; (case ka => assumption); walk_at "c5"; (case kC | kb => assumption); (case kc => first | assumption | k_mem); (case ke | kf => assumption); (case kg | kh | ki | kj | kl | km | kn => omega); walk_at "cdu"); intro aRl vRl nRl ksRl tRl nRl2 hRl l1Rl l1 hIRl hlRl hrRl heRl tkRl FRl NRl; (try k_lt l1); walk_at "e9"))
theorem fresh10 : True := by
  w_top off
  trivial
theorem numOf_from (ks : List Int) : ∀ a : Int, ks.foldl (fun a k => a * 256 + k) a = a * 256 ^ ks.length + numOf ks := by
  induction ks with
  | nil => intro a; simp [numOf]
  | cons k r ih =>
    intro a
    show r.foldl (fun a k => a * 256 + k) (a * 256 + k) = a * 256 ^ (r.length + 1) + r.foldl (fun a k => a * 256 + k) (0 * 256 + k)
    rw [ih, ih (0 * 256 + k), Int.pow_succ, Int.add_mul, Int.add_mul, Int.mul_assoc, Int.mul_comm 256, Int.zero_mul, Int.zero_mul]
    omega
theorem numOf_cons (k : Int) (r : List Int) : numOf (k :: r) = k * 256 ^ r.length + numOf r := by
  show r.foldl (fun a k => a * 256 + k) (0 * 256 + k) = _
  rw [numOf_from, Int.zero_mul, Int.zero_add]
theorem numOf_lt : ∀ (ks : List Int), KBa.In ks → 0 ≤ numOf ks ∧ numOf ks < 256 ^ ks.length
  | [], _ => by simp [numOf]
  | k :: r, h => by
    have hk := h k (List.mem_cons_self ..)
    have hr := numOf_lt r fun x hx => h x (List.mem_cons_of_mem _ hx)
    rw [numOf_cons, List.length_cons, Int.pow_succ]
    have hp : (0 : Int) < 256 ^ r.length := Int.pow_pos (by decide)
    have h1 : k * 256 ^ r.length ≤ 255 * 256 ^ r.length := Int.mul_le_mul_of_nonneg_right (by omega) (by omega)
    have h2 : 0 ≤ k * 256 ^ r.length := Int.mul_nonneg hk.1 (by omega)
    omega
theorem tm_and {b k : Int} (hb : 0 ≤ b) (hk0 : 0 ≤ k) (hk1 : k < 256) : ∃ j : Nat, (j : Int) = b - 8 * ((b + 7) / 8 - 1) ∧ Builtin.bitAnd (tm b) k = k % 2 ^ j ∨ b = 0 := by
  refine ⟨(b - 8 * ((b + 7) / 8 - 1)).toNat, ?_⟩
  by_cases h0 : b = 0
  · exact .inr h0
  left
  refine ⟨by omega, ?_⟩
  have hm : Int.fmod b 8 = b % 8 := Int.fmod_eq_emod_of_nonneg _ (by decide)
  unfold tm
  rw [hm]
  have e : b % 8 = 0 ∨ b % 8 = 1 ∨ b % 8 = 2 ∨ b % 8 = 3 ∨ b % 8 = 4 ∨ b % 8 = 5 ∨ b % 8 = 6 ∨ b % 8 = 7 := by omega
  rcases e with e | e | e | e | e | e | e | e
  · rw [e, if_pos rfl, show (b - 8 * ((b + 7) / 8 - 1)).toNat = 8 by omega, bitAnd_m8']; rfl
  · rw [e, if_neg (by decide), show (b - 8 * ((b + 7) / 8 - 1)).toNat = 1 by omega]; exact bitAnd_m1' k
  · rw [e, if_neg (by decide), show (b - 8 * ((b + 7) / 8 - 1)).toNat = 2 by omega]; exact bitAnd_m2' k
  · rw [e, if_neg (by decide), show (b - 8 * ((b + 7) / 8 - 1)).toNat = 3 by omega]; exact bitAnd_m3' k
  · rw [e, if_neg (by decide), show (b - 8 * ((b + 7) / 8 - 1)).toNat = 4 by omega]; exact bitAnd_m4' k
  · rw [e, if_neg (by decide), show (b - 8 * ((b + 7) / 8 - 1)).toNat = 5 by omega]; exact bitAnd_m5' k
  · rw [e, if_neg (by decide), show (b - 8 * ((b + 7) / 8 - 1)).toNat = 6 by omega]; exact bitAnd_m6' k
  · rw [e, if_neg (by decide), show (b - 8 * ((b + 7) / 8 - 1)).toNat = 7 by omega]; exact bitAnd_m7' k
theorem mod_top (k r P J : Int) (h0 : 0 ≤ r) (h1 : r < P) (hJ : 0 < J) : (k * P + r) % (J * P) = (k % J) * P + r := by
  have hP : 0 < P := by omega
  have e : k * P + r = ((k % J) * P + r) + (J * P) * (k / J) := by
    have h := Int.emod_add_mul_ediv k J
    have h2 : k * P = (k % J + J * (k / J)) * P := by rw [h]
    rw [h2, Int.add_mul, Int.mul_assoc J, Int.mul_comm (k / J) P, Int.mul_assoc J P]
    omega
  have hk0 := Int.emod_nonneg k (show J ≠ 0 by omega)
  have hk1 := Int.emod_lt_of_pos k hJ
  have a1 : 0 ≤ (k % J) * P := Int.mul_nonneg hk0 (by omega)
  have a2 : (k % J) * P ≤ (J - 1) * P := Int.mul_le_mul_of_nonneg_right (by omega) (by omega)
  rw [Int.sub_mul, Int.one_mul] at a2
  rw [e, Int.add_mul_emod_self_left, Int.emod_eq_of_lt (by omega) (by omega)]
theorem masked_num {b : Int} {ks : List Int} (hb : 1 ≤ b) (hr : KBa.In ks) (hl : (ks.length : Int) = (b + 7) / 8) : numOf (masked (tm b) ks) = numOf ks % 2 ^ b.toNat := by
  cases ks with
  | nil => simp at hl; omega
  | cons k r =>
    have hk := hr k (List.mem_cons_self ..)
    have hR := numOf_lt r fun x hx => hr x (List.mem_cons_of_mem _ hx)
    obtain ⟨j, h | h⟩ := tm_and (b := b) (by omega) hk.1 hk.2
    · rw [List.length_cons] at hl
      have e : masked (tm b) (k :: r) = Builtin.bitAnd (tm b) k :: r := rfl
      have e2 : (2 : Int) ^ b.toNat = 2 ^ j * 256 ^ r.length := by
        rw [show b.toNat = j + 8 * r.length by omega, Int.pow_add, Int.pow_mul]
        rfl
      rw [e, numOf_cons, numOf_cons, h.2, e2, mod_top _ _ _ _ hR.1 hR.2 (Int.pow_pos (by decide))]
    · omega
/-- the number that the law reads at place p -/
def cand (oks : List Int) (bits count p : Nat) : Int := numOf (rowAt oks p count) % 2 ^ bits
theorem rowAt_in {oks : List Int} (h : KBa.In oks) (p count : Nat) : KBa.In (rowAt oks p count) := by
  intro k hk
  obtain ⟨i, _, rfl⟩ := List.mem_map.mp hk
  exact getD_in h _
theorem cand_end {oks : List Int} {bits count p : Nat} (h : oks.length ≤ p) : cand oks bits count p = 0 := by
  have e : ∀ n, numOf ((List.range n).map fun i => oks.getD (p + i) 0) = 0 := by
    intro n
    have e1 : ((List.range n).map fun i => oks.getD (p + i) 0) = List.replicate n 0 := by
      refine List.ext_getElem? fun i => ?_
      rw [List.getElem?_map, List.getElem?_replicate]
      by_cases hi : i < n
      · rw [List.getElem?_range hi, if_pos hi, Option.map_some, List.getD_eq_getElem?_getD, List.getElem?_eq_none (by omega)]; rfl
      · rw [if_neg hi, List.getElem?_eq_none (by simpa using hi)]; rfl
    rw [e1]
    induction n with
    | zero => rfl
    | succ n ih =>
      rw [List.replicate_succ, numOf_cons]
      have : numOf (List.replicate n (0 : Int)) = 0 := by
        clear e1 ih
        induction n with
        | zero => rfl
        | succ n ih => rw [List.replicate_succ, numOf_cons, ih]; omega
      rw [this]; omega
  unfold cand rowAt
  rw [e]
  rfl
/-- the first number below the size, and how many octets were asked -/
def firstAt (oks : List Int) (size : Int) (bits count : Nat) (p : Nat) : Int × Int :=
  if cand oks bits count p < size ∨ oks.length ≤ p ∨ count = 0 then (cand oks bits count p, (p : Int) + count) else firstAt oks size bits count (p + count)
termination_by oks.length - p
theorem first_stop {oks : List Int} {size : Int} {bits count p : Nat} (h : cand oks bits count p < size) : firstAt oks size bits count p = (cand oks bits count p, (p : Int) + count) := by
  rw [firstAt, if_pos (.inl h)]
theorem first_go {oks : List Int} {size : Int} {bits count p : Nat} (hs : 1 ≤ size) (hc : 1 ≤ count) (h : ¬ cand oks bits count p < size) : p < oks.length ∧ firstAt oks size bits count p = firstAt oks size bits count (p + count) := by
  have hp : p < oks.length := by
    by_cases hp : p < oks.length
    · exact hp
    · rw [cand_end (by omega)] at h
      omega
  refine ⟨hp, ?_⟩
  rw [firstAt, if_neg (by omega)]
theorem fresh11 : True := by
  w_top off
  trivial
abbrev firstOf (oks : List Int) (size : Int) (p : Int) : Int × Int := firstAt oks size (lb size).toNat ((lb size + 7) / 8).toNat p.toNat
section Private
set_option hygiene false in
local macro_rules | `(tactic| walk_at "exec While Constant cons nil") => `(tactic| (k_here; (rename Fr _ _ _ _ => lF'); (rename News _ _ _ _ => lN'); (with_unfolding_all refine' ksw_while (σ := Int × Tok × Nat) (fun c => (d, W.listOf #[.int c.1 c.2.1] c.2.2) :: rest) (fun _ => []) (fun _ => True) [PySem.Str.ofString "enough_bytes", PySem.Str.ofString "candidate_bytes", PySem.Str.ofString "candidate_int"] (fun c => 0 ≤ c.1 ∧ c.1 ≤ 1100 ∧ firstOf oks (stop - start) c.1 = firstOf oks (stop - start) p) (fun c => (1100 - c.1).toNat) (p, tp, n) lF' (news_drop lN') True.intro ?kk ?kp ?_); (case kk => intro _ h; exact absurd h List.not_mem_nil); (case kp => exact ⟨hp0, by omega, rfl⟩); (all_goals (try clear lF' lN')); intro cW uW hW tkW _ hPW FW NW; obtain ⟨pW, tW, nW⟩ := cW; obtain ⟨hW0, hW1, hW2⟩ := hPW; (try dsimp only at *); (try k_fold)))
set_option hygiene false in
local macro_rules | `(tactic| walk_at "KswEnd") => `(tactic| refine held ?_)
theorem cand_of {oks ks mml : List Int} {b c p y x : Int} (hy : y = numOf mml) (hm : mml = masked x ks) (hx : x = tm b) (hk : ks = rowAt oks p.toNat c.toNat) (hc : c = (b + 7) / 8) (hl : (ks.length : Int) = c) (hr : KBa.In ks) (hb : 1 ≤ b) : y = cand oks b.toNat c.toNat p.toNat := by
  subst hy hm hx
  rw [masked_num hb hr (by rw [hl, hc])]
  unfold cand
  rw [← hk]
theorem same_of {stored : List PySem.Str} {u m₀ : PySem.Str → Option Value} {z : PySem.Str} (hz : stored.contains z = false) : kstB (fun z => if stored.contains z then u z else m₀ z) [] z = m₀ z := by
  show (if stored.contains z = true then u z else m₀ z) = m₀ z
  rw [hz]
  rfl
theorem unbiased_c (w : World) (rest : List (Addr × Obj)) (f d o : Addr) (start stop p : Int) (t1 t2 tp : Tok) (n no : Nat) (vs : List Value) (oks : List Int) (hS : Stream rest f d o 0) (hne : ∀ q ∈ rest, q.1 ≠ d) (ho : (o, W.listOf vs.toArray no) ∈ rest) (hi : IntsAre vs oks) (hr : KBa.In oks) (hl : oks.length ≤ 1000)
    (hp0 : 0 ≤ p) (hp1 : p ≤ 1000) (hs0 : 1 ≤ stop - start) (hs1 : lb (stop - start) ≤ 100) :
    CtrS w 77 ((d, W.listOf #[.int p tp] n) :: rest) [.int start t1, .int stop t2, .ref f] 4 200 (fun K => ∀ y p' t t' n' h', y = start + (firstOf oks (stop - start) p).1 → p' = (firstOf oks (stop - start) p).2 → K (.int y t) h' ((d, W.listOf #[.int p' t'] n') :: rest)) := by
  intro loose mean mg mb dp un gd cn cs a ccd cl outer A₀ base h₀ L m s Q E B F X N T hk hC hd hu hret
  have hb := lb_pos (stop - start)
  refine wpAny_call ?_
  k_dflt cell_enter
  k_steps
  · have hc := cand_of (oks := oks) (p := pW) eyln eml emGm (heRl rfl) ecGm (by omega) hrRl hb
    have hst := first_stop (oks := oks) (size := stop - start) (bits := (lb (stop - start)).toNat) (count := cGm.toNat) (p := pW.toNat) (by omega)
    have hw : firstOf oks (stop - start) p = (yln, pW + cGm) := by
      rw [← hW2]
      unfold firstOf
      rw [← ecGm, hst, ← hc, show ((pW.toNat : Int) + (cGm.toNat : Int)) = pW + cGm by omega]
    exact hret _ _ _ _ _ _ (by rw [hw]) (by rw [hw]) _ (by k_asm) (news_drop (news_drop (by k_asm)))
  · have hc := cand_of (oks := oks) (p := pW) eyln eml emGm (heRl rfl) ecGm (by omega) hrRl hb
    have hgo := first_go (oks := oks) (size := stop - start) (bits := (lb (stop - start)).toNat) (count := cGm.toNat) (p := pW.toNat) hs0 (by omega) (by omega)
    have hw : firstOf oks (stop - start) (pW + cGm) = firstOf oks (stop - start) p := by
      rw [← hW2]
      unfold firstOf
      rw [← ecGm, hgo.2, show (pW + cGm).toNat = pW.toNat + cGm.toNat by omega]
    refine Held.mk ?_
    refine ksw_end (pW + cGm, tRl, nRl2) (by assumption) (by assumption) ?_ True.intro (fun _ h => absurd h List.not_mem_nil) ?_ ⟨by omega, by omega, hw⟩ (by dsimp only; omega)
    · intro q hq
      exact List.mem_cons_of_mem _ (List.mem_cons_of_mem _ hq)
    · intro z _ hz
      have e1 : z ≠ PySem.Str.ofString "candidate_int" := fun e => absurd (e ▸ hz) (by decide)
      have e2 : z ≠ PySem.Str.ofString "candidate_bytes" := fun e => absurd (e ▸ hz) (by decide)
      have e3 : z ≠ PySem.Str.ofString "enough_bytes" := fun e => absurd (e ▸ hz) (by decide)
      exact (if_neg e1).trans ((if_neg e2).trans ((if_neg e3).trans (same_of hz)))
  · omega
end Private
theorem fresh12 : True := by
  w_top off
  trivial
theorem row_plain {oks : List Int} {p count : Int} (h0 : 0 ≤ p) (h1 : 1 ≤ count) : cutAt oks p count ++ (List.replicate (count - ((cutAt oks p count).length : Int)).toNat [0]).flatten = rowAt oks p.toNat count.toNat := by
  have hc := cut_len (oks := oks) h0 (show 0 ≤ count by omega)
  refine List.ext_getElem? fun i => ?_
  by_cases hi : i < count.toNat
  · have hR : (rowAt oks p.toNat count.toNat)[i]? = some (oks.getD (p.toNat + i) 0) := by
      unfold rowAt
      rw [List.getElem?_map, List.getElem?_range hi]
      rfl
    rw [hR]
    by_cases hA : i < (cutAt oks p count).length
    · rw [List.getElem?_append_left hA, List.getElem?_take_of_lt (by omega), List.getElem?_drop, List.getD_eq_getElem?_getD, List.getElem?_eq_getElem (by omega)]
      rfl
    · rw [List.getElem?_append_right (by omega), flat_zeros, List.getElem?_replicate, if_pos (by omega), List.getD_eq_getElem?_getD, List.getElem?_eq_none (by omega)]
      rfl
  · rw [List.getElem?_eq_none (by rw [List.length_append, flat_zeros, List.length_replicate]; omega), List.getElem?_eq_none (by rw [rowAt_len]; omega)]
theorem cand_row {oks : List Int} {p c b y : Int} (h : y = numOf (cutAt oks p c ++ (List.replicate (c - ((cutAt oks p c).length : Int)).toNat [0]).flatten)) (h0 : 0 ≤ p) (h1 : 1 ≤ c) : Int.fmod y (2 ^ b.toNat) = cand oks b.toNat c.toNat p.toNat := by
  rw [row_plain h0 h1] at h
  have hp : (0 : Int) < 2 ^ b.toNat := Int.pow_pos (by decide)
  rw [h, Int.fmod_eq_emod_of_nonneg _ (by omega)]
  rfl
theorem news_keep5 {h₀ h : Heap} {L : Addr} {q q1 q2 q3 q4 : Addr × Obj} {news : List (Addr × Obj)} (N : News h₀ L h (q :: q1 :: q2 :: q3 :: q4 :: news)) : News h₀ L h (q :: news) := fun p hp => N p (by
  rcases List.mem_cons.mp hp with rfl | hp
  · exact List.mem_cons_self ..
  · exact List.mem_cons_of_mem _ (List.mem_cons_of_mem _ (List.mem_cons_of_mem _ (List.mem_cons_of_mem _ (List.mem_cons_of_mem _ hp)))))
section Private
set_option hygiene false in
local macro_rules | `(tactic| walk_at "KswEnd") => `(tactic| refine held ?_)
set_option hygiene false in
local macro_rules | `(tactic| walk_at "exec While Constant cons nil") => `(tactic| (k_here; (have hcG := Int.fdiv_eq_ediv_of_nonneg (ylb + 7) (show (0 : Int) ≤ 8 by decide)); (generalize Int.fdiv (ylb + 7) 8 = cnt at *); (rename Fr _ _ _ _ => lF'); (rename News _ _ _ _ => lN'); (with_unfolding_all refine' ksw_while (σ := Int × Tok) (fun _ => news) (fun c => [(PySem.Str.ofString "place", .int c.1 c.2)]) (fun _ => True) [PySem.Str.ofString "row", PySem.Str.ofString "number"] (fun c => 0 ≤ c.1 ∧ c.1 ≤ 1100 ∧ firstOf oks size c.1 = firstOf oks size 0) (fun c => (1100 - c.1).toNat) (0, _) lF' lN' True.intro ?kk ?kp ?_); (case kk => kst_all); (case kp => exact ⟨Int.le_refl 0, (show (0 : Int) ≤ 1100 by decide), rfl⟩); (all_goals (try clear lF' lN')); intro cW uW hW tkW _ hPW FW NW; obtain ⟨pW, tW⟩ := cW; obtain ⟨hW0, hW1, hW2⟩ := hPW; (try dsimp only at *); (try k_fold)))
local macro_rules | `(tactic| walk_at "idle 1") => `(tactic| fail)
theorem law_first_c (w : World) (news : List (Addr × Obj)) (o : Addr) (size : Int) (t : Tok) (no : Nat) (vs : List Value) (oks : List Int) (ho : (o, W.listOf vs.toArray no) ∈ news) (hi : IntsAre vs oks) (hr : KBa.In oks) (hl : oks.length ≤ 1000)
    (hs0 : 1 ≤ size) (hs1 : lb size ≤ 100) :
    Ctr w 112 news [.ref o, .int size t] 4 200 (fun K => ∀ a y q t1 t2 h', (∀ p ∈ news, p.1 < a) → y = (firstOf oks size 0).1 → q = (firstOf oks size 0).2 → K (.ref a) h' ((a, { cls := .type "tuple", data := .seq #[.int y t1, .int q t2] }) :: news)) := by
  intro loose mean mg mb dp un gd cn cs a ccd cl outer A₀ base h₀ L m s Q E B F X N T hk hd hu hret
  have hb := lb_pos size
  refine wpAny_call ?_
  k_dflt cell_enter
  k_steps
  · have hc := cand_row (oks := oks) (p := pW) (c := cnt) (b := lb size) eynum hW0 (by omega)
    rw [← eylb] at hc
    have hst := first_stop (oks := oks) (size := size) (bits := ylb.toNat) (count := cnt.toNat) (p := pW.toNat) (by omega)
    have hw : firstOf oks size 0 = (Int.fmod ynum (2 ^ ylb.toNat), pW + cnt) := by
      rw [← hW2]
      unfold firstOf
      rw [← eylb, ← hcG, hst, ← hc, show ((pW.toNat : Int) + (cnt.toNat : Int)) = pW + cnt by omega]
    rename_i l9 _ _ _ _
    exact hret _ _ _ _ _ _ (ktn_ltOf l9.2.2.2.2) (by rw [hw]) (by rw [hw]) _ (by k_asm) (news_keep5 (by k_asm))
  · have hc := cand_row (oks := oks) (p := pW) (c := cnt) (b := lb size) eynum hW0 (by omega)
    rw [← eylb] at hc
    have hgo := first_go (oks := oks) (size := size) (bits := ylb.toNat) (count := cnt.toNat) (p := pW.toNat) hs0 (by omega) (by omega)
    have hw : firstOf oks size (pW + cnt) = firstOf oks size 0 := by
      rw [← hW2]
      unfold firstOf
      rw [← eylb, ← hcG, hgo.2, show (pW + cnt).toNat = pW.toNat + cnt.toNat by omega]
    refine Held.mk ?_
    refine ksw_end (pW + cnt, ?zt) (by assumption) (by assumption) ?za True.intro ?zb ?zc ?zp ?zm
    case zb =>
      intro q hq
      rw [List.mem_singleton.mp hq]
      exact if_pos rfl
    case zp => exact ⟨by dsimp only; omega, by dsimp only; omega, hw⟩
    case zm => dsimp only; omega
    case za =>
      intro q hq
      exact List.mem_cons_of_mem _ (List.mem_cons_of_mem _ (List.mem_cons_of_mem _ (List.mem_cons_of_mem _ hq)))
    case zc =>
      intro z hz1 hz
      have e0 : z ≠ PySem.Str.ofString "place" := hz1 _ (List.mem_cons_self ..)
      have e1 : z ≠ PySem.Str.ofString "number" := fun e => absurd (e ▸ hz) (by decide)
      have e2 : z ≠ PySem.Str.ofString "row" := fun e => absurd (e ▸ hz) (by decide)
      refine (if_neg e0).trans ((if_neg e1).trans ((if_neg e2).trans ?_))
      show (if z = PySem.Str.ofString "place" then _ else _) = _
      rw [if_neg e0]
      show (if List.contains _ z = true then _ else _) = _
      rw [hz]
      rfl
end Private
set_option hygiene false in
local macro_rules | `(tactic| walk_at "call ref") => `(tactic| (k_here; (with_reducible show wpAny _ _ (call (Value.ref 112) [Value.ref _, Value.int _ _]) _ _ _); k_dflt (refine' ctr_use ?k1 ?k2 ?k3 ?k4 ?k5 ?kK (law_first_c _ _ _ _ _ _ _ _ ?ka ?kb ?kc ?ke ?kf ?kg) ?kd ?ku ?_; walk_at "c5"; (case ka => first | assumption | k_mem); (case kb | kc => assumption); (case ke | kf | kg => omega); walk_at "cdu"); intro aFi yFi qFi t1Fi t2Fi hFi l1 eyFi eqFi tkFi FFi NFi; (try k_lt l1); walk_at "e9"))
theorem fresh13 : True := by
  w_top off
  trivial
/-- as `Ctr`, with a word of the lowest heap -/
def CtrP (w : World) (Pre : Heap → Prop) (f : Addr) (news : List (Addr × Obj)) (vs : List Value) (dn un9 : Nat) (Ret : (Value → Heap → List (Addr × Obj) → Prop) → Prop) : Prop :=
  ∀ (loose : List Str) (mean : ExcName → Option Value) (mg mb : Str → Option Value) (dp un : Nat) (gd : Option (List Code)) (cn : Str) (cs : Scope) (a : Addr) (ccd : Value) (cl : List (Str × Addr)) (outer : List Env) (A₀ : Around) (base h₀ : Heap) (L : Addr) (m : Str → Option Value) (s : Shared) (Q E : Value → Shared → Prop),
    Below A₀ base outer h₀ → Fr h₀ L s.heap m → (hd.heap_39 w.params).In h₀ → News h₀ L s.heap news → Top topProg loose mean mg mb h₀ → cs.kind = .function → Pre base → dp + dn < recursionLimit → un + un9 < cLine →
    Ret (fun r h' news' => ∀ tk', Fr h₀ L h' m → News h₀ L h' news' → Q r { s with heap := h', toks := tk' }) →
    wpAny (model PG w) (ktrTop dp un gd cn cs L a ccd cl outer) (call (.ref f) vs) Q E s
theorem ctrP_use {w : World} {Pre : Heap → Prop} {f : Addr} {news : List (Addr × Obj)} {vs : List Value} {dn un9 : Nat} {Ret : (Value → Heap → List (Addr × Obj) → Prop) → Prop} {loose : List Str} {mean : ExcName → Option Value} {mg mb : Str → Option Value} {dp un : Nat} {gd : Option (List Code)} {cn : Str} {cs : Scope} {a : Addr} {ccd : Value} {cl : List (Str × Addr)} {outer : List Env} {A₀ : Around} {base h₀ : Heap} {L : Addr} {m : Str → Option Value} {s : Shared} {Q E : Value → Shared → Prop}
    (B : Below A₀ base outer h₀) (F : Fr h₀ L s.heap m) (X : (hd.heap_39 w.params).In h₀) (N : News h₀ L s.heap news) (T : Top topProg loose mean mg mb h₀) (hk : cs.kind = .function) (hC : Pre base)
    (C : CtrP w Pre f news vs dn un9 Ret) (hd : dp + dn < recursionLimit) (hu : un + un9 < cLine)
    (ret : Ret (fun r h' news' => ∀ tk', Fr h₀ L h' m → News h₀ L h' news' → Q r { s with heap := h', toks := tk' })) :
    wpAny (model PG w) (ktrTop dp un gd cn cs L a ccd cl outer) (call (.ref f) vs) Q E s :=
  C _ _ _ _ _ _ _ _ _ _ _ _ _ _ _ _ _ _ _ _ _ B F X N T hk hC hd hu ret
theorem law_cell_c (w : World) (news : List (Addr × Obj)) (l : Addr) (vs : List Value) (ns : List Int) (k : Int) (tk : Tok) (hi : IntsAre vs ns) (hl : ns.length < 2 ^ 62) (h0 : 0 ≤ k) : CtrP w (fun b => b.IsList l vs.toArray) 84 news [.ref l, .int k tk] 1 60 (RetI news fun y => 0 ≤ y) := by
  intro loose mean mg mb dp un gd cn cs a ccd cl outer A₀ base h₀ L m s Q E B F X N T hk hC hd hu hret
  refine wpAny_call ?_
  k_dflt cell_enter
  k_steps
  all_goals exact hret _ _ _ (by first | decide | (split <;> omega)) _ (by k_asm) (by k_asm)
set_option hygiene false in
local macro_rules | `(tactic| walk_at "call ref") => `(tactic| (k_here; (with_reducible show wpAny _ _ (call (Value.ref 84) [Value.ref _, Value.int _ _]) _ _ _); k_dflt (refine' ctrP_use ?k1 ?k2 ?k3 ?k4 ?k5 ?kK ?kC (law_cell_c _ _ _ _ _ _ _ ?ka ?kb ?kc) ?kd ?ku ?_; walk_at "c5"; (case kC => (show Heap.IsList _ _ _; assumption)); (case ka => assumption); (case kb => omega); (case kc => first | decide | omega | l_fact); walk_at "cdu"); intro yCe tCe hCe eCe tkCe FCe NCe; walk_at "e9"))
theorem fresh14 : True := by
  w_top off
  trivial
set_option hygiene false in
local macro_rules | `(tactic| walk_at "ci") => `(tactic| ((refine wpAny_call ?_); k_dflt (refine' code_def ?k1 ?k2 ?k3 ?k4 ?k5 ?kA ?kF ?kK ?k6 ?k7 ?k8 ?k9 ?kB ?_ ?c2 ?c3 ?c4 ?c5; (case kA | kF => exact rfl); walk_at "c5"; (case k6 | k7 => k_is); (case k8 => ktr_room); (case k9 => exact BindsTo.of_eq rfl); (case c5 => decide); (case kB => exact locs rfl); (case c2 | c3 | c4 => exact rfl); k_whole; intro g' L' h' FG' F' N' B' X' T'; (try dsimp only); (try k_lift B'); (try k_fold))))
section Private
set_option hygiene false in
local macro_rules | `(tactic| walk_at "call ref") => `(tactic| (k_here; (with_reducible show wpAny _ _ (call (Value.ref 35) _) _ _ _); walk_at "ci"))
set_option hygiene false in
local macro_rules | `(tactic| walk_at "call ref") => `(tactic| (k_here; (with_reducible show wpAny _ _ (call (Value.ref 131) _) _ _ _); (refine wpAny_call ?_); k_dflt (refine' code_defS ?k1 ?k2 ?k3 ?k4 ?k5 ?XB ?TB ?D ?T0 ?kA ?k6 ?k7 ?k8 ?k9 ?kB ?_ ?cK ?c2 ?c3 ?c4 ?c5; (case kA => exact rfl); (case k2 | k1 => k_asm); (case XB | TB | D => assumption); (case T0 => first | assumption | exact KtsTurn.refl); (case k3 | k4 | k5 => k_asm); (case k6 | k7 => k_is); (case k8 => ktr_room); (case k9 => exact BindsTo.of_eq rfl); (case kB => exact locs rfl); (case cK | c2 | c3 | c4 => exact rfl); (case c5 => decide); k_whole; intro g' L' h' FG' F' N' B' X' T' D'; (try dsimp only); (try k_lift B'); (try k_fold))))
/-- as `Ctr`, for a def that catches, called from the lowest frame -/
def CtrT (w : World) (Pre : Heap → Prop) (f : Addr) (news : List (Addr × Obj)) (vs : List Value) (dn un9 : Nat) (Ret : (Value → Heap → List (Addr × Obj) → Prop) → Prop) : Prop :=
  ∀ (loose : List Str) (mean : ExcName → Option Value) (mg mb : Str → Option Value) (dp un : Nat) (gd : Option (List Code)) (cn : Str) (cs : Scope) (a : Addr) (ccd : Value) (cl : List (Str × Addr)) (A₀ : Around) (base h₀ : Heap) (L : Addr) (m : Str → Option Value) (s : Shared) (Q E : Value → Shared → Prop),
    Below A₀ base [] h₀ → Fr h₀ L s.heap m → (hd.heap_39 w.params).In h₀ → News h₀ L s.heap news → Top topProg loose mean mg mb h₀ → cs.kind = .function → (hd.heap_39 w.params).In base → Top topProg loose mean mg mb base → Pre base → dp + dn < recursionLimit → un + un9 < cLine →
    Ret (fun r h' news' => ∀ tk', Fr h₀ L h' m → News h₀ L h' news' → Q r { s with heap := h', toks := tk' }) →
    wpAny (model PG w) (ktrTop dp un gd cn cs L a ccd cl []) (call (.ref f) vs) Q E s
theorem ctrT_use {w : World} {Pre : Heap → Prop} {f : Addr} {news : List (Addr × Obj)} {vs : List Value} {dn un9 : Nat} {Ret : (Value → Heap → List (Addr × Obj) → Prop) → Prop} {loose : List Str} {mean : ExcName → Option Value} {mg mb : Str → Option Value} {dp un : Nat} {gd : Option (List Code)} {cn : Str} {cs : Scope} {a : Addr} {ccd : Value} {cl : List (Str × Addr)} {A₀ : Around} {base h₀ : Heap} {L : Addr} {m : Str → Option Value} {s : Shared} {Q E : Value → Shared → Prop}
    (B : Below A₀ base [] h₀) (F : Fr h₀ L s.heap m) (X : (hd.heap_39 w.params).In h₀) (N : News h₀ L s.heap news) (T : Top topProg loose mean mg mb h₀) (hk : cs.kind = .function) (XB : (hd.heap_39 w.params).In base) (TB : Top topProg loose mean mg mb base) (hC : Pre base)
    (C : CtrT w Pre f news vs dn un9 Ret) (hd : dp + dn < recursionLimit) (hu : un + un9 < cLine)
    (ret : Ret (fun r h' news' => ∀ tk', Fr h₀ L h' m → News h₀ L h' news' → Q r { s with heap := h', toks := tk' })) :
    wpAny (model PG w) (ktrTop dp un gd cn cs L a ccd cl []) (call (.ref f) vs) Q E s :=
  C _ _ _ _ _ _ _ _ _ _ _ _ _ _ _ _ _ _ _ _ B F X N T hk XB TB hC hd hu ret
theorem tm_table (b : Int) : tm b = List.getD [255, 1, 3, 7, 15, 31, 63, 127] (Int.toNat (Int.fmod b 8)) 0 := by
  have hm : Int.fmod b 8 = b % 8 := Int.fmod_eq_emod_of_nonneg _ (by decide)
  unfold tm
  rw [hm]
  have e : b % 8 = 0 ∨ b % 8 = 1 ∨ b % 8 = 2 ∨ b % 8 = 3 ∨ b % 8 = 4 ∨ b % 8 = 5 ∨ b % 8 = 6 ∨ b % 8 = 7 := by omega
  rcases e with e | e | e | e | e | e | e | e <;> rw [e] <;> decide
theorem numOf_octs : ∀ (k : Nat) (x : Int), 0 ≤ x → x < 256 ^ k → numOf (octs k x) = x
  | 0, x, h0, h1 => by
    have : x = 0 := by simp at h1; omega
    subst this
    rfl
  | k + 1, x, h0, h1 => by
    have e : octs (k + 1) x = octs k (x / 256) ++ [x % 256] := by
      unfold octs
      show (x % 256 :: KTBy.little k (x / 256)).reverse = _
      rw [List.reverse_cons]
    have ih := numOf_octs k (x / 256) (by omega) (by rw [Int.pow_succ] at h1; omega)
    unfold numOf at ih ⊢
    rw [e, List.foldl_append, ih, List.foldl_cons, List.foldl_nil]
    omega
theorem octets_back {n x y nby : Int} {ks : List Int} (hy : y = numOf ks) (he : ks = octs nby.toNat n) (hn : nby = (lb x + 7) / 8) (h0 : 0 ≤ n) (hx0 : 0 ≤ x) (hle : ¬ x < n) (hx : lb x ≤ 100) : y = n := by
  rw [hy, he]
  exact numOf_octs _ _ h0 (by rw [hn]; exact fits_lb h0 hx0 (by omega) hx)
theorem octets_right_c (w : World) (news : List (Addr × Obj)) (n x : Int) (t1 t2 : Tok) (h0 : 0 ≤ n) (hx0 : 0 ≤ x) (hx : lb x ≤ 100) : CtrT w (fun _ => True) 145 news [.int n t1, .int x t2] 6 300 (fun K => ∀ h', K (.bool true) h' news) := by
  intro loose mean mg mb dp un gd cn cs a ccd cl A₀ base h₀ L m s Q E B F X N T hk XB TB hC hd hu hret
  have hp := lb_pos x
  refine wpAny_call ?_
  k_dflt (refine' code_try ?k1 ?k2 ?k3 ?k4 ?k5 ?kA ?kF ?kK ?k6 ?k7 ?k8 ?k9 ?kB ?_ ?c2 ?c3 ?c4 ?c5; (case kA => exact rfl); (case kF => exact rfl); (case kK => first | exact rfl | assumption); (case k1 => k_asm); (case k2 => k_asm); (case k3 => k_asm); (case k4 => k_asm); (case k5 => k_asm); (case k6 => k_is); (case k7 => k_is); (case k8 => ktr_room); (case k9 => exact BindsTo.of_eq rfl); (case kB => exact locs rfl); (case c2 => exact rfl); (case c3 => exact rfl); (case c4 => exact rfl); (case c5 => decide); k_whole; intro g' L' h' FG' F' N' B' X' T' D'; (try dsimp only); (try k_lift B'); (try k_fold))
  k_steps
  all_goals (have hfd := Int.fdiv_eq_ediv_of_nonneg (ylb + 7) (show (0 : Int) ≤ 8 by decide))
  all_goals first
    | (exfalso; omega)
    | (exfalso
       have hx1 : (mGm == List.getD [255, 1, 3, 7, 15, 31, 63, 127] (Int.toNat (Int.fmod ylb 8)) 0 && cGm == Int.fdiv (ylb + 7) 8) = false := by assumption
       have hm1 : mGm = List.getD [255, 1, 3, 7, 15, 31, 63, 127] (Int.toNat (Int.fmod ylb 8)) 0 := by rw [emGm, eylb]; exact tm_table _
       have hc1 : cGm = Int.fdiv (ylb + 7) 8 := by omega
       rw [← hm1, ← hc1, beq_self_eq_true, beq_self_eq_true] at hx1
       exact absurd hx1 (by decide))
    | (exfalso
       have hb1 := octets_back eynum eks9 enby h0 hx0 (by assumption) hx
       omega)
    | (have hb1 := octets_back eybn eks9 enby h0 hx0 (by assumption) hx
       rw [hb1, beq_self_eq_true]
       exact hret _ _ (by k_asm) (news_drop (news_drop (news_drop (by k_asm)))))
    | exact hret _ _ (by k_asm) (news_drop (news_drop (news_drop (by k_asm))))
end Private
set_option hygiene false in
local macro_rules | `(tactic| walk_at "call ref") => `(tactic| (k_here; (with_reducible show wpAny _ _ (call (Value.ref 145) [Value.int _ _, Value.int _ _]) _ _ _); k_dflt (refine' ctrT_use ?k1 ?k2 ?k3 ?k4 ?k5 ?kK ?kX ?kT ?kC (octets_right_c _ _ _ _ _ _ ?ka ?kb ?kc) ?kd ?ku ?_; walk_at "c5"; (case kX | kT => assumption); (case kC => trivial); (case ka | kb | kc => first | assumption | omega); walk_at "cdu"); intro hOr tkOr FOr NOr; walk_at "e9"))
theorem fresh15 : True := by
  w_top off
  trivial
theorem law_stream2_c (w : World) (news : List (Addr × Obj)) (o : Addr) (more : Int) (tk : Tok) (ps : Array Value) (c' : Addr) (oc : Obj) (no : Nat) (vs : List Value) (hT : (100, tabObj ps) ∈ news) (hps : TabIs ps c') (hc : (c', oc) ∈ news) (hoc : CodeIs oc) (ho : (o, W.listOf vs.toArray no) ∈ news) :
    CtrS w 105 news [.ref o, .int more tk] 1 60 (fun K => ∀ T f d rest t0 h', @LT.lt Nat _ d T → (∀ p ∈ rest, p.1 < T) → (∀ p ∈ rest, p.1 ≠ d) → Stream rest f d o more → (∀ p ∈ news, p ∈ rest) → (o, W.listOf vs.toArray no) ∈ rest →
      K (.ref T) h' ((T, { cls := .type "tuple", data := .seq #[.ref f, .ref d] }) :: (d, W.listOf #[.int 0 t0] 0) :: rest)) := by
  intro loose mean mg mb dp un gd cn cs a ccd cl outer A₀ base h₀ L m s Q E B F X N T hk hC hd hu hret
  refine law_stream_c w news o more tk ps c' hT hps _ _ _ _ _ _ _ _ _ _ _ _ _ _ _ _ _ _ _ _ _ B F X N T hk hC hd hu ?_
  intro T f d c1 c2 c3 o1 o2 o3 Fo t0 h' l1 l2 l3 l4 l5 l6 d1 d2 d3 hF tk' F' N'
  have hsub : ∀ p ∈ news, p ∈ (f, Fo) :: (c3, o3) :: (c2, o2) :: (c1, o1) :: news := fun p hp => List.mem_cons_of_mem _ (List.mem_cons_of_mem _ (List.mem_cons_of_mem _ (List.mem_cons_of_mem _ hp)))
  have hlow : ∀ p ∈ (c3, o3) :: (c2, o2) :: (c1, o1) :: news, @LT.lt Nat _ p.1 d := by
    intro p hp
    rcases List.mem_cons.mp hp with rfl | hp
    · exact l4
    rcases List.mem_cons.mp hp with rfl | hp
    · exact Nat.lt_trans l3 l4
    rcases List.mem_cons.mp hp with rfl | hp
    · exact Nat.lt_trans l2 (Nat.lt_trans l3 l4)
    exact Nat.lt_trans (l1 p hp) (Nat.lt_trans l2 (Nat.lt_trans l3 l4))
  refine hret T f d ((f, Fo) :: (c3, o3) :: (c2, o2) :: (c1, o1) :: news) t0 h' (Nat.lt_trans l5 l6) ?_ ?_ ?_ hsub (hsub _ ho) tk' F' ?_
  · intro p hp
    rcases List.mem_cons.mp hp with rfl | hp
    · exact l6
    · exact Nat.lt_trans (hlow p hp) (Nat.lt_trans l5 l6)
  · intro p hp
    rcases List.mem_cons.mp hp with rfl | hp
    · exact Nat.ne_of_gt l5
    · exact Nat.ne_of_lt (hlow p hp)
  · exact ⟨c1, c2, c3, c', o1, o2, o3, Fo, oc, tk, List.mem_cons_self .., hF, List.mem_cons_of_mem _ (List.mem_cons_of_mem _ (List.mem_cons_of_mem _ (List.mem_cons_self ..))), d1, List.mem_cons_of_mem _ (List.mem_cons_of_mem _ (List.mem_cons_self ..)), d2, List.mem_cons_of_mem _ (List.mem_cons_self ..), d3, hsub _ hc, hoc⟩
  · intro p hp
    rcases List.mem_cons.mp hp with rfl | hp
    · exact N' _ (List.mem_cons_self ..)
    rcases List.mem_cons.mp hp with rfl | hp
    · exact N' _ (List.mem_cons_of_mem _ (List.mem_cons_of_mem _ (List.mem_cons_self ..)))
    rcases List.mem_cons.mp hp with rfl | hp
    · exact N' _ (List.mem_cons_of_mem _ (List.mem_cons_self ..))
    · exact N' _ (List.mem_cons_of_mem _ (List.mem_cons_of_mem _ (List.mem_cons_of_mem _ hp)))
set_option hygiene false in
local macro_rules | `(tactic| walk_at "call ref") => `(tactic| (k_here; (with_reducible show wpAny _ _ (call (Value.ref 105) [Value.ref _, Value.int _ _]) _ _ _); k_dflt (refine' ctrS_use ?k1 ?k2 ?k3 ?k4 ?k5 ?kK ?kC (law_stream2_c _ _ _ _ _ _ _ _ _ _ ?ka ?kb ?kc ?ke ?kf) ?kd ?ku ?_; walk_at "c5"; (case kC => assumption); (case ka => k_mem); (case kb => assumption); (case kc => k_mem); (case ke => assumption); (case kf => k_mem); walk_at "cdu"); intro tSt fSt dSt rSt t0St hSt l1dSt l1 hneSt hStSt hsubSt hoSt tkSt FhSt NhSt; (try k_lt l1); (try (have hmT := hsubSt (L' + 1, ot) (by k_mem))); (try (have hmE := hsubSt (L' + 1 + 1, oe) (by k_mem))); (try (have hmD := hsubSt (D, oD) (by k_mem))); walk_at "e9"))
theorem fresh16 : True := by
  w_top off
  trivial
theorem news_sub {h₀ h : Heap} {L : Addr} {as bs : List (Addr × Obj)} (N : News h₀ L h as) (hs : ∀ p ∈ bs, p ∈ as) : News h₀ L h bs := fun p hp => N p (hs p hp)
section Private
set_option hygiene false in
local macro_rules | `(tactic| walk_at "call ref") => `(tactic| (k_here; (with_reducible show wpAny _ _ (call (Value.ref 77) _) _ _ _); walk_at "ci"))
set_option hygiene false in
local macro_rules | `(tactic| walk_at "exec While Constant cons nil") => `(tactic| (k_here; (rename Fr _ _ _ _ => lF'); (rename News _ _ _ _ => lN'); (with_unfolding_all refine' ksw_while (σ := Unit) (fun _ => (dSt, W.listOf #[.int 0 t0St] 0) :: rSt) (fun _ => []) (fun _ => True) [PySem.Str.ofString "enough_bytes", PySem.Str.ofString "candidate_bytes", PySem.Str.ofString "candidate_int"] (fun _ => True) (fun _ => 0) () lF' (news_drop (news_drop lN')) True.intro ?kk True.intro ?_); (case kk => intro _ h; exact absurd h List.not_mem_nil); (all_goals (try clear lF' lN')); intro cW uW hW tkW _ _ FW NW; (try dsimp only at *); (try k_fold)))
theorem is_short_c (w : World) (news : List (Addr × Obj)) (size start more : Int) (t1 t2 t3 : Tok) (ps : Array Value) (c' : Addr) (oc : Obj) (hT : (100, tabObj ps) ∈ news) (hps : TabIs ps c') (hc : (c', oc) ∈ news) (hoc : CodeIs oc) (hs0 : 1 ≤ size) (hs1 : lb size ≤ 100) (hm : more = 1 ∨ more = -1) :
    CtrT w (fun b => CodeHd b 104 100) 124 news [.int size t1, .int start t2, .int more t3] 8 400 (fun K => ∀ h', K (.bool true) h' news) := by
  intro loose mean mg mb dp un gd cn cs a ccd cl A₀ base h₀ L m s Q E B F X N T hk XB TB hC hd hu hret
  have hp := lb_pos size
  have hlb : lb (start + size - start) = lb size := by rw [show start + size - start = size by omega]
  have hIn1 : KBa.In (List.flatten (List.replicate (Int.toNat 20) [(1 : Int)])) := by
    intro k hk
    rw [show List.flatten (List.replicate (Int.toNat 20) [(1 : Int)]) = List.replicate 20 1 from rfl] at hk
    rw [(List.mem_replicate.mp hk).2]
    decide
  have hLen1 : (List.flatten (List.replicate (Int.toNat 20) [(1 : Int)])).length ≤ 1000 := by decide
  refine wpAny_call ?_
  k_dflt (refine' code_try ?k1 ?k2 ?k3 ?k4 ?k5 ?kA ?kF ?kK ?k6 ?k7 ?k8 ?k9 ?kB ?_ ?c2 ?c3 ?c4 ?c5; (case kA => exact rfl); (case kF => exact rfl); (case kK => first | exact rfl | assumption); (case k1 => k_asm); (case k2 => k_asm); (case k3 => k_asm); (case k4 => k_asm); (case k5 => k_asm); (case k6 => k_is); (case k7 => k_is); (case k8 => ktr_room); (case k9 => exact BindsTo.of_eq rfl); (case kB => exact locs rfl); (case c2 => exact rfl); (case c3 => exact rfl); (case c4 => exact rfl); (case c5 => decide); k_whole; intro g' L' h' FG' F' N' B' X' T' D'; (try dsimp only); (try k_lift B'); (try k_fold))
  k_steps
  · exfalso
    omega
  · exact hret _ _ (by k_asm) (news_sub (by k_asm) fun p hp => List.mem_cons_of_mem _ (List.mem_cons_of_mem _ (hsubSt p (List.mem_cons_of_mem _ (List.mem_cons_of_mem _ hp)))))
end Private
set_option hygiene false in
local macro_rules | `(tactic| walk_at "call ref") => `(tactic| (k_here; (with_reducible show wpAny _ _ (call (Value.ref 124) [Value.int _ _, Value.int _ _, Value.int _ _]) _ _ _); k_dflt (refine' ctrT_use ?k1 ?k2 ?k3 ?k4 ?k5 ?kK ?kX ?kT ?kC (is_short_c _ _ _ _ _ _ _ _ _ _ _ ?ka ?kb ?kc ?ke ?kf ?kg ?kh) ?kd ?ku ?_; walk_at "c5"; (case kX | kT => assumption); (case kC => (show CodeHd _ 104 100; assumption)); (case ka => k_mem); (case kb => assumption); (case kc => k_mem); (case ke => assumption); (case kf | kg => first | assumption | omega); (case kh => first | exact Or.inl rfl | exact Or.inr rfl); walk_at "cdu"); intro hIs tkIs FIs NIs; walk_at "e9"))
theorem fresh17 : True := by
  w_top off
  trivial
section Private
set_option hygiene false in
local macro_rules | `(tactic| walk_at "call ref") => `(tactic| (k_here; (with_reducible show wpAny _ _ (call (Value.ref 42) _) _ _ _); walk_at "ci"))
local macro_rules | `(tactic| walk_at "idle 2") => `(tactic| fail)
theorem is_text_str_c (w : World) (news : List (Addr × Obj)) (t : Tok) : CtrT w (fun _ => True) 138 news [.str (PySem.Str.ofString "ab") t] 4 200 (fun K => ∀ h', K (.bool true) h' news) := by
  intro loose mean mg mb dp un gd cn cs a ccd cl A₀ base h₀ L m s Q E B F X N T hk XB TB hC hd hu hret
  refine wpAny_call ?_
  k_dflt (refine' code_try ?k1 ?k2 ?k3 ?k4 ?k5 ?kA ?kF ?kK ?k6 ?k7 ?k8 ?k9 ?kB ?_ ?c2 ?c3 ?c4 ?c5; (case kA => exact rfl); (case kF => exact rfl); (case kK => first | exact rfl | assumption); (case k1 => k_asm); (case k2 => k_asm); (case k3 => k_asm); (case k4 => k_asm); (case k5 => k_asm); (case k6 => k_is); (case k7 => k_is); (case k8 => ktr_room); (case k9 => exact BindsTo.of_eq rfl); (case kB => exact locs rfl); (case c2 => exact rfl); (case c3 => exact rfl); (case c4 => exact rfl); (case c5 => decide); k_whole; intro g' L' h' FG' F' N' B' X' T' D'; (try dsimp only); (try k_lift B'); (try k_fold))
  k_steps
  exact hret _ _ (by k_asm) (by k_asm)
theorem is_text_int_c (w : World) (news : List (Addr × Obj)) (x : Int) (t : Tok) : CtrT w (fun _ => True) 138 news [.int x t] 4 200 (fun K => ∀ h', K (.bool true) h' news) := by
  intro loose mean mg mb dp un gd cn cs a ccd cl A₀ base h₀ L m s Q E B F X N T hk XB TB hC hd hu hret
  refine wpAny_call ?_
  k_dflt (refine' code_try ?k1 ?k2 ?k3 ?k4 ?k5 ?kA ?kF ?kK ?k6 ?k7 ?k8 ?k9 ?kB ?_ ?c2 ?c3 ?c4 ?c5; (case kA => exact rfl); (case kF => exact rfl); (case kK => first | exact rfl | assumption); (case k1 => k_asm); (case k2 => k_asm); (case k3 => k_asm); (case k4 => k_asm); (case k5 => k_asm); (case k6 => k_is); (case k7 => k_is); (case k8 => ktr_room); (case k9 => exact BindsTo.of_eq rfl); (case kB => exact locs rfl); (case c2 => exact rfl); (case c3 => exact rfl); (case c4 => exact rfl); (case c5 => decide); k_whole; intro g' L' h' FG' F' N' B' X' T' D'; (try dsimp only); (try k_lift B'); (try k_fold))
  k_steps
  exact hret _ _ (by k_asm) (by k_asm)
theorem is_text_list_c (w : World) (news : List (Addr × Obj)) (l : Addr) (vs : Array Value) (n : Nat) (hin : (l, W.listOf vs n) ∈ news) : CtrT w (fun _ => True) 138 news [.ref l] 4 200 (fun K => ∀ h', K (.bool true) h' news) := by
  intro loose mean mg mb dp un gd cn cs a ccd cl A₀ base h₀ L m s Q E B F X N T hk XB TB hC hd hu hret
  refine wpAny_call ?_
  k_dflt (refine' code_try ?k1 ?k2 ?k3 ?k4 ?k5 ?kA ?kF ?kK ?k6 ?k7 ?k8 ?k9 ?kB ?_ ?c2 ?c3 ?c4 ?c5; (case kA => exact rfl); (case kF => exact rfl); (case kK => first | exact rfl | assumption); (case k1 => k_asm); (case k2 => k_asm); (case k3 => k_asm); (case k4 => k_asm); (case k5 => k_asm); (case k6 => k_is); (case k7 => k_is); (case k8 => ktr_room); (case k9 => exact BindsTo.of_eq rfl); (case kB => exact locs rfl); (case c2 => exact rfl); (case c3 => exact rfl); (case c4 => exact rfl); (case c5 => decide); k_whole; intro g' L' h' FG' F' N' B' X' T' D'; (try dsimp only); (try k_lift B'); (try k_fold))
  k_steps
  exact hret _ _ (by k_asm) (by k_asm)
end Private
set_option hygiene false in
local macro_rules | `(tactic| walk_at "call ref") => `(tactic| (k_here; (with_reducible show wpAny _ _ (call (Value.ref 138) [Value.str _ _]) _ _ _); k_dflt (refine' ctrT_use ?k1 ?k2 ?k3 ?k4 ?k5 ?kK ?kX ?kT ?kC (is_text_str_c _ _ _) ?kd ?ku ?_; walk_at "c5"; (case kX | kT => assumption); (case kC => trivial); walk_at "cdu"); intro hIt tkIt FIt NIt; walk_at "e9"))
set_option hygiene false in
local macro_rules | `(tactic| walk_at "call ref") => `(tactic| (k_here; (with_reducible show wpAny _ _ (call (Value.ref 138) [Value.int _ _]) _ _ _); k_dflt (refine' ctrT_use ?k1 ?k2 ?k3 ?k4 ?k5 ?kK ?kX ?kT ?kC (is_text_int_c _ _ _ _) ?kd ?ku ?_; walk_at "c5"; (case kX | kT => assumption); (case kC => trivial); walk_at "cdu"); intro hIt tkIt FIt NIt; walk_at "e9"))
set_option hygiene false in
local macro_rules | `(tactic| walk_at "call ref") => `(tactic| (k_here; (with_reducible show wpAny _ _ (call (Value.ref 138) [Value.ref _]) _ _ _); k_dflt (refine' ctrT_use ?k1 ?k2 ?k3 ?k4 ?k5 ?kK ?kX ?kT ?kC (is_text_list_c _ _ _ _ _ ?ka) ?kd ?ku ?_; walk_at "c5"; (case kX | kT => assumption); (case kC => trivial); (case ka => k_mem); walk_at "cdu"); intro hIt tkIt FIt NIt; walk_at "e9"))
theorem fresh18 : True := by
  w_top off
  trivial
set_option hygiene false in
local macro_rules | `(tactic| walk_at "call ref") => `(tactic| (k_here; (with_reducible show wpAny _ _ (call (Value.ref 77) [Value.int _ _, Value.int _ _, Value.ref _]) _ _ _); k_dflt (refine' ctrS_use ?k1 ?k2 ?k3 ?k4 ?k5 ?kK ?kC (unbiased_c _ _ _ _ _ _ _ _ _ _ _ _ _ _ _ ?ka ?kb ?kc ?ke ?kf ?kg ?kh ?ki ?kj ?kl) ?kd ?ku ?_; (case ka => assumption); (case k1 | k2 | k3 => k_asm); (case k4 => first | k_asm | exact news_drop (by k_asm) | assumption); (case k5 => k_asm); (case kK => first | exact rfl | assumption); (case kC | kb => assumption); (case kc => first | assumption | k_mem); (case ke | kf => assumption); (case kg => first | assumption | (simp only [List.length_cons, List.length_nil]; omega)); (case kh | ki | kj => omega); (case kl => first | assumption | omega); walk_at "cdu"); intro yUn qUn tUn t2Un nUn hUn eyUn eqUn tkUn FUn NUn; walk_at "e9"))
/-- what the turn for one first octet makes of the table -/
def evStep (size : Int) (c : List (Int × Int)) (k : Int) : List (Int × Int) :=
  if (firstOf [k] size 0).2 = 1 then kdfPut c (firstOf [k] size 0).1 (kdfLook c (firstOf [k] size 0).1 0 + 1) else c
/-- the same, without the search -/
def evC (size : Int) (b : Nat) (c : List (Int × Int)) (k : Int) : List (Int × Int) :=
  if k % 2 ^ b < size then kdfPut c (k % 2 ^ b) (kdfLook c (k % 2 ^ b) 0 + 1) else c
theorem evStep_C {size : Int} (h0 : 1 ≤ size) (hb1 : 1 ≤ lb size) (hb2 : lb size ≤ 6) (c : List (Int × Int)) (k : Int) : evStep size c k = evC size (lb size).toNat c k := by
  have hc : ((lb size + 7) / 8).toNat = 1 := by omega
  have e : cand [k] (lb size).toNat 1 0 = k % 2 ^ (lb size).toNat := by
    show (0 * 256 + k) % 2 ^ (lb size).toNat = _
    rw [Int.zero_mul, Int.zero_add]
  unfold evStep evC firstOf
  rw [hc, ← e]
  by_cases hl : cand [k] (lb size).toNat 1 0 < size
  · have hs := first_stop hl
    rw [if_pos hl, show Int.toNat 0 = 0 from rfl, hs]
    rfl
  · have hs := (first_go h0 (by decide) hl).2
    have h2 : firstAt [k] size (lb size).toNat 1 (0 + 1) = (cand [k] (lb size).toNat 1 (0 + 1), (((0 + 1 : Nat) : Int)) + ((1 : Nat) : Int)) := first_stop (by rw [cand_end (Nat.le_refl 1)]; omega)
    rw [if_neg hl, show Int.toNat 0 = 0 from rfl, hs, h2]
    rfl
theorem evFold_C {size : Int} (h0 : 1 ≤ size) (hb1 : 1 ≤ lb size) (hb2 : lb size ≤ 6) : ∀ (ks : List Int) (c : List (Int × Int)), ks.foldl (evStep size) c = ks.foldl (evC size (lb size).toNat) c
  | [], _ => rfl
  | k :: r, c => by rw [List.foldl_cons, List.foldl_cons, evStep_C h0 hb1 hb2, evFold_C h0 hb1 hb2 r]
theorem ev_lb : ∀ i : Fin 63, 1 ≤ lb ((i.val : Int) + 1) ∧ lb ((i.val : Int) + 1) ≤ 6 := by decide +kernel
/-- the entries of the keys below s -/
def below (s : Int) (c : List (Int × Int)) : List (Int × Int) := c.filter fun p => decide (p.1 < s)
theorem below_look {s k : Int} (h : k < s) (c : List (Int × Int)) : kdfLook (below s c) k 0 = kdfLook c k 0 := by
  unfold kdfLook below
  rw [List.find?_filter]
  congr 3
  funext p
  by_cases hp : p.1 = k
  · simp [hp, h]
  · simp [hp]
theorem below_any {s k : Int} (h : k < s) (c : List (Int × Int)) : (below s c).any (fun p => decide (p.1 = k)) = c.any (fun p => decide (p.1 = k)) := by
  unfold below
  rw [List.any_filter]
  congr 1
  funext p
  by_cases hp : p.1 = k
  · simp [hp, h]
  · simp [hp]
theorem below_map (s k v : Int) (c : List (Int × Int)) : below s (c.map fun p => if decide (p.1 = k) then (p.1, v) else p) = (below s c).map fun p => if decide (p.1 = k) then (p.1, v) else p := by
  unfold below
  rw [List.filter_map]
  congr 2
  funext p
  show decide ((if decide (p.1 = k) = true then (p.1, v) else p).1 < s) = decide (p.1 < s)
  split <;> rfl
theorem below_put {s k : Int} (h : k < s) (v : Int) (c : List (Int × Int)) : kdfPut (below s c) k v = below s (kdfPut c k v) := by
  unfold kdfPut
  rw [below_any h]
  split
  · rw [below_map]
  · unfold below
    rw [List.filter_append]
    congr 1
    simp [h]
theorem below_over {s k : Int} (h : ¬ k < s) (v : Int) (c : List (Int × Int)) : below s (kdfPut c k v) = below s c := by
  unfold kdfPut
  split
  · rw [below_map]
    have e : ∀ p ∈ below s c, (if decide (p.1 = k) = true then (p.1, v) else p) = p := by
      intro p hp
      have hp' : p.1 < s := by simpa [below] using (List.mem_filter.mp hp).2
      rw [if_neg (by simp; omega)]
    exact (List.map_congr_left e).trans (List.map_id' _)
  · unfold below
    rw [List.filter_append]
    simp [h]
theorem below_step {s : Int} (b : Nat) (_hs : s ≤ 2 ^ b) (c : List (Int × Int)) (k : Int) : evC s b (below s c) k = below s (evC (2 ^ b) b c k) := by
  have hr : k % 2 ^ b < 2 ^ b := Int.emod_lt_of_pos k (Int.pow_pos (by decide))
  unfold evC
  rw [if_pos hr]
  by_cases h : k % 2 ^ b < s
  · rw [if_pos h, below_look h, below_put h]
  · rw [if_neg h, below_over h]
theorem below_fold {s : Int} (b : Nat) (hs : s ≤ 2 ^ b) : ∀ (ks : List Int) (c : List (Int × Int)), ks.foldl (evC s b) (below s c) = below s (ks.foldl (evC (2 ^ b) b) c)
  | [], _ => rfl
  | k :: r, c => by rw [List.foldl_cons, List.foldl_cons, below_step b hs, below_fold b hs r]
theorem ev_full : ∀ b : Fin 7, (rangeKs 0 64).foldl (evC (2 ^ b.val) b.val) [] = (rangeKs 0 (2 ^ b.val)).map (fun j => (j, 2 ^ (6 - b.val))) := by decide +kernel
theorem ev_cut : ∀ i : Fin 63, ((i.val : Int) + 1 ≤ 2 ^ (lb ((i.val : Int) + 1)).toNat) ∧ (rangeKs 0 (2 ^ (lb ((i.val : Int) + 1)).toNat)).filter (fun j => decide (j < (i.val : Int) + 1)) = rangeKs 0 (i.val + 1) ∧ 6 - (lb ((i.val : Int) + 1)).toNat = (6 - lb ((i.val : Int) + 1)).toNat := by decide +kernel
theorem ev_all : ∀ i : Fin 63, (rangeKs 0 64).foldl (evC ((i.val : Int) + 1) (lb ((i.val : Int) + 1)).toNat) [] = (rangeKs 0 (i.val + 1)).map (fun j => (j, 2 ^ (6 - lb ((i.val : Int) + 1)).toNat)) := by
  intro i
  have hl := ev_lb i
  obtain ⟨h1, h2, h3⟩ := ev_cut i
  have hf := ev_full ⟨(lb ((i.val : Int) + 1)).toNat, by omega⟩
  have hb := below_fold (lb ((i.val : Int) + 1)).toNat h1 (rangeKs 0 64) []
  rw [show below ((i.val : Int) + 1) [] = [] from rfl] at hb
  rw [hb, hf]
  unfold below
  rw [List.filter_map, ← h3, ← h2]
  rfl
theorem ev_done {size : Int} (h0 : 1 ≤ size) (h1 : size ≤ 63) : (rangeKs 0 64).foldl (evStep size) [] = (rangeKs 0 size.toNat).map (fun j => (j, 2 ^ (6 - lb size).toNat)) := by
  have hi : ((size.toNat - 1 : Nat) : Int) + 1 = size := by omega
  have hl := ev_lb ⟨size.toNat - 1, by omega⟩
  have ha := ev_all ⟨size.toNat - 1, by omega⟩
  simp only [hi] at hl ha
  rw [evFold_C h0 hl.1 hl.2, ha, show size.toNat - 1 + 1 = size.toNat by omega]
theorem ev_same {m₀ u : PySem.Str → Option Value} {v1 v2 v3 v4 : Option Value} {x z : PySem.Str} (h1 : z ≠ x) (h3 : [PySem.Str.ofString "give", PySem.Str.ofString "asked", PySem.Str.ofString "told"].contains z = false) :
    (if z = PySem.Str.ofString "told" then v1 else if z = PySem.Str.ofString "asked" then v2 else if z = PySem.Str.ofString "give" then v3 else if z = x then v4 else kstB (fun z => if [PySem.Str.ofString "give", PySem.Str.ofString "asked", PySem.Str.ofString "told"].contains z then u z else m₀ z) [] z) = m₀ z := by
  have a1 : z ≠ PySem.Str.ofString "told" := by intro e; rw [e] at h3; exact absurd h3 (by decide)
  have a2 : z ≠ PySem.Str.ofString "asked" := by intro e; rw [e] at h3; exact absurd h3 (by decide)
  have a3 : z ≠ PySem.Str.ofString "give" := by intro e; rw [e] at h3; exact absurd h3 (by decide)
  rw [if_neg a1, if_neg a2, if_neg a3, if_neg h1]
  exact same_of h3
theorem evFold_len (size : Int) : ∀ (ks : List Int) (c : List (Int × Int)), (ks.foldl (evStep size) c).length ≤ c.length + ks.length
  | [], c => by simp
  | k :: r, c => by
    have h1 : (evStep size c k).length ≤ c.length + 1 := by
      unfold evStep
      split
      · exact kdfPut_len _ _ _
      · omega
    have h2 := evFold_len size r (evStep size c k)
    rw [List.foldl_cons, List.length_cons]
    omega
section
variable {prog : Program} {w : World} {A : Around} {E : Value → Shared → Prop} {s : Shared} {h₀ : Heap} {L d : Addr} {m : Str → Option Value} {news : List (Addr × Obj)} {c : List (Int × Int)} {Q : Value → Shared → Prop}
theorem sorted_keys (hh : A.handled = none) (F : Fr h₀ L s.heap m) (N : News h₀ L s.heap news) (Ta : TabAt (PySem.intKind prog w) PyData.int s.heap d (kdfD c)) (h0 : 0 < c.length) (h64 : c.length < 64) {ks : List Int} (hk : c.map Prod.fst = ks) (hs : lks_asc ks = true)
    (h : ∀ (B : Addr) (h' : Heap) (tk : Nat) (vs : List Value), Fr h₀ L h' m → News h₀ L h' ((B, PySem.W.listOf vs.toArray 2) :: news) → (∀ q ∈ news, q.1 < B) → IntsAre vs ks → Q (.ref B) { s with heap := h', toks := tk }) :
    wpAny (model prog w) A (call (.builtin "sorted") [.ref d]) Q E s := by
  subst hk
  obtain ⟨lo, kvs, hD, hf⟩ := Ta
  obtain ⟨ep, hat⟩ := hD.dictAt
  have hlen : kvs.length = c.length := by rw [← hf.length, kdfD_length]
  refine kdu_sorted (kdl_dict (knd := PySem.intKind prog w) (kvs := kvs) (ep := ep) lo) hh F N hat (kdl_size (by omega)) fun B h' tk vs F' N' l1 hl hv => ?_
  have hI : IntsAre vs (c.map Prod.fst) := by
    refine ints_of_get _ _ (by rw [hl, hlen, List.length_map]) fun j v hj => ?_
    obtain ⟨k, x, hx, hk⟩ := hv j v hj
    obtain ⟨dv, hd, _⟩ := hf.at hx
    obtain ⟨t, rfl⟩ := Value.isInt_shape hk
    refine ⟨k, t, ?_, rfl⟩
    unfold kdfD at hd
    rw [List.getElem?_map] at hd
    rw [List.getElem?_map]
    cases hc : c[j]? with
    | none => rw [hc] at hd; cases hd
    | some p =>
      rw [hc] at hd
      simp only [Option.map_some, Option.some.injEq, Prod.mk.injEq, PyData.int.injEq] at hd
      rw [Option.map_some, hd.1]
  obtain ⟨t0, rfl⟩ := lks_vals_of hI 0
  have hok : lks_ok (lks_vals (c.map Prod.fst) 0 t0) (c.map Prod.fst) = true := by
    have e : ∀ (ns : List Int) (i : Nat), lks_nums (lks_vals ns i t0) = ns := by
      intro ns
      induction ns with
      | nil => intro i; rfl
      | cons a r ih => intro i; show a :: lks_nums (lks_vals r (i + 1) t0) = _; rw [ih]
    unfold lks_ok
    rw [e, Bool.and_eq_true]
    exact ⟨List.isPerm_iff.mpr (.refl _), hs⟩
  have hki : ∀ (ns : List Int) (i : Nat), kf_ints (lks_vals ns i t0) = true := by
    intro ns
    induction ns with
    | nil => intro i; rfl
    | cons a r ih => intro i; exact ih (i + 1)
  refine lks_sort F' N' (fun t => Upd.head fun p hp => Nat.ne_of_lt (l1 p hp)) (hki _ _) hok ?_ (by rw [List.toList_toArray]; omega) fun t h2 F2 N2 => ?_
  · cases hc : c with
    | nil => rw [hc] at h0; cases h0
    | cons a r => rfl
  · have hI2 : ∀ (ns : List Int) (i : Nat), IntsAre (lks_vals ns i t) ns := by
      intro ns
      induction ns with
      | nil => intro i; exact .nil
      | cons a r ih => intro i; exact .cons _ _ (ih (i + 1))
    exact h B h2 tk _ F2 N2 l1 (hI2 _ _)
end
theorem asc_range : ∀ i : Fin 64, lks_asc (rangeKs 0 i.val) = true := by decide +kernel

section
open PyProof.Rows.LCg PyProof.Rows.LCt
variable {prog : Program} {w : World} {A : Around} {E : Value → Shared → Prop} {s : Shared} {h₀ : Heap} {L : Addr} {m : Str → Option Value} {env : Env}
/-- a comprehension with a test, over the keys of a dict of the ledger -/
def SrcD (prog : Program) (w : World) (A : Around) (h₀ : Heap) (L : Addr) (m : Str → Option Value) (env : Env) (ct elt : Expr) (x : Str) (scope : Scope) (cl : List (Str × Addr)) (Fin : Shared → List Value → List (Addr × Obj) → Prop) (xv : Value) (s₁ : Shared) : Prop :=
  ∃ d od kvs news, xv = .ref d ∧ A.handled = none ∧ Fr h₀ L s₁.heap m ∧ News h₀ L s₁.heap news ∧ (d, od) ∈ news ∧ (d == sysModules) = false ∧ od.IsDictOf (PySem.intKind prog w) kvs ∧ kvs.length ≤ sizeLine ∧
    ∀ s₂ : Shared, (∃ h, s₂ = { s₁ with heap := h }) → CompRestT prog w A h₀ L m env ct elt x scope cl s₂ (fun nw => (d, od) ∈ nw) (fun i v => ∃ k y, kvs[i]? = some (k, y) ∧ (PySem.intKind prog w).is k v = true) (Fin s₂) kvs.length 0 [] news
theorem ListComp_D {ct elt iter : Expr} {x : Str} {px : Pos} {scope : Scope} {cl : List (Str × Addr)} {pos : Pos} {Q : Value → Shared → Prop} (F₀ : Fr h₀ L s.heap m)
    (hclos : closureFor scope env = pure cl) (hcell : ∀ y ∈ scope.names, y.2 ≠ .cell) (hkind : scope.kind = .function)
    (hnames : ∀ y ∈ scope.names, y.2 = .local → scope.names.lookup y.1 = some .local) (hx : scope.names.lookup x = some .local)
    (h : wpAny (model prog w) A (eval iter env) (SrcD prog w A h₀ L m env ct elt x scope cl (fun s₂ => FinE h₀ L m s₂ Q)) E s)
    (hs : ∀ x, foldedSetIterable iter env x = pure x := by intro _; rfl) :
    wpAny (model prog w) A (eval (.ListComp elt [⟨.Name x px, iter, [ct], 0⟩] scope pos) env) Q E s := by
  rw [eval_ListComp]
  refine wpAny_comprehension_free (use := none) rfl hs hclos hkind hnames (wpAny_mono h (fun xv s₁ h₁ => ?_) fun _ _ e => e)
  obtain ⟨d, od, kvs, news, rfl, hh, F, N, hm, lo, hdo, hsz, R⟩ := h₁
  obtain ⟨ep, ha⟩ := KdkAt.of hdo
  have hat := ha.dictAt (N _ hm).1
  have hlt : d < s₁.heap.objs.size := Heap.lt_size (N _ hm).1
  refine wpAny_pyIter_dict lo hat ?_
  refine block_T (Walks.dictKeys (knd := PySem.intKind prog w) hh s₁.heap.objs.size d (Nat.ne_of_lt hlt) kvs ep) hsz (fun i h st => by obtain ⟨o, e, _⟩ := st.1; exact ⟨o, e⟩)
    (fun i h h' o nw st e e' k N' hm' => ⟨by obtain ⟨o', q, r⟩ := st.1; rw [e] at q; cases q; exact ⟨o, e', r⟩, ha.dictAt (N' _ hm').1⟩) hcell hkind hx ⟨⟨_, Heap.get?_push_size _ rfl, rfl, rfl⟩, ha.dictAt (Heap.get?_push_of_some _ (N _ hm).1)⟩ (fun b hb => ?_)
    (F.push _) (fun p hp => ⟨Heap.get?_push_of_some _ (N p hp).1, (N p hp).2⟩) (Nat.ne_of_lt F.ns.lt) (next_is_new F) (fun p hp => Nat.ne_of_lt (Heap.lt_size (N p hp).1)) hm (R _ ⟨_, rfl⟩) ?_
  · show b < (s₁.heap.push _).objs.size
    rw [Heap.size_push]
    rcases List.mem_cons.mp hb with rfl | hb
    · exact Nat.lt_succ_self _
    · rw [List.mem_singleton.mp hb]; exact Nat.lt_succ_of_lt hlt
  · intro D C h tk m' ys news' F' N' o1 hn hC₀ hD₀ hCL hDL hCD offC fin
    refine ⟨m', hn, fun h'' hs'' => fin D h'' tk (F'.change hs'' hCL hC₀) (fun p hp => ?_) o1⟩
    refine ⟨hs''.extBut _ _ ?_ (N' p hp).1, (N' p hp).2⟩
    rcases List.mem_cons.mp hp with rfl | hp
    · exact Ne.symm hCD
    · exact offC p hp
end
theorem ev_find (e : Int) (k : Int) : ∀ l : List Int, k ∈ l → (l.map (fun j => (j, e))).find? (fun p => decide (p.1 = k)) = some (k, e)
  | [], h => absurd h List.not_mem_nil
  | a :: r, h => by
    rw [List.map_cons]
    by_cases ha : a = k
    · rw [List.find?_cons_of_pos (by simpa using ha), ha]
    · rw [List.find?_cons_of_neg (by simpa using ha)]
      exact ev_find e k r (by
        rcases List.mem_cons.mp h with h | h
        · exact absurd h.symm ha
        · exact h)
theorem ev_look {l : List Int} {e k x : Int} {i : Nat} (h : (l.map (fun j => (j, e)))[i]? = some (k, x)) : kdfHas (l.map (fun j => (j, e))) k = true ∧ kdfLook (l.map (fun j => (j, e))) k 0 = e := by
  have hm : k ∈ l := by
    rw [List.getElem?_map] at h
    cases hl : l[i]? with
    | none => rw [hl] at h; cases h
    | some a =>
      rw [hl] at h
      simp only [Option.map_some, Option.some.injEq, Prod.mk.injEq] at h
      rw [← h.1]
      exact List.mem_of_getElem? hl
  have hf := ev_find e k l hm
  constructor
  · unfold kdfHas
    rw [List.any_eq_true]
    exact ⟨(k, e), List.mem_map.mpr ⟨k, hm, rfl⟩, by simp⟩
  · unfold kdfLook
    rw [hf]
    rfl
section
open PyProof.Rows.LCg PyProof.Rows.LCt
theorem rest_loop {prog : Program} {w : World} {A : Around} {h₀ : Heap} {L : Addr} {m : Str → Option Value} {env : Env} {ct elt : Expr} {x : Str} {scope : Scope} {cl : List (Str × Addr)} {s : Shared} {S : List (Addr × Obj) → Prop} {P : Nat → Value → Prop} {Fin : List Value → List (Addr × Obj) → Prop} {news : List (Addr × Obj)} (n : Nat)
    (step : ∀ k i, i < n → CompRestT prog w A h₀ L m env ct elt x scope cl s S P Fin k (i + 1) [] news → CompRestT prog w A h₀ L m env ct elt x scope cl s S P Fin (k + 1) i [] news) (fin : Fin [] news) :
    CompRestT prog w A h₀ L m env ct elt x scope cl s S P Fin n 0 [] news := by
  have main : ∀ k i, i + k = n → CompRestT prog w A h₀ L m env ct elt x scope cl s S P Fin k i [] news := by
    intro k
    induction k with
    | zero => intro i _; exact fin
    | succ k ih => intro i hi; exact step k i (by omega) (ih (i + 1) (by omega))
  exact main n 0 (Nat.zero_add n)
end
section Private
set_option hygiene false in
local macro_rules | `(tactic| walk_at "exec For Name Call cons nil") => `(tactic| (k_here; (rename Fr _ _ _ _ => lF'); (with_unfolding_all refine' For_invVF lF' ?k1 ?k2 ?_; (case k1 | k2 => exact rfl); k_whole)))
set_option hygiene false in
local macro_rules | `(tactic| walk_at "InvEndN") => `(tactic| refine held ?_)
set_option hygiene false in
local macro_rules | `(tactic| walk_at "pyIter ref") => `(tactic| (k_here; refine held ?_))
set_option hygiene false in
local macro_rules | `(tactic| walk_at "setItem ref int") => `(tactic| (k_here; (with_reducible show wpAny _ _ (setItem (Value.ref _) (Value.int _ _) (Value.int _ _)) _ _ _); (rename Fr _ _ _ _ => lF'); (rename News _ _ _ _ => lN'); k_dflt (refine' kdf_setItem (news := (D, oD) :: ledE) (o := oD) (kvs := kvsD) (c := cD) lF' (news_sub lN' (fun p hp => List.mem_cons_of_mem _ (hsubSt p (List.mem_cons_of_mem _ hp)))) (UpdF.head hneD) hdD hfD (by omega) ?_); (all_goals (try clear lF' lN')); intro h' o2D kvs2D F' N' hd2D hf2D; (try dsimp only at N'); walk_at "e9"))
set_option hygiene false in
local macro_rules | `(tactic| walk_at "newList") => `(tactic| (k_here; k_dflt (refine' newList_K (hsz := ?kz) ?k1 ?k2 ?_; (case k1 | k2 => k_asm); (case kz => exact Nat.le_of_ble_eq_true rfl); k_whole); intro l' h' F' N' l1; (try k_lt l1); (try k_sweep)))
set_option hygiene false in
local macro_rules | `(tactic| walk_at "getMethod ref") => `(tactic| (k_here; (with_reducible show wpAny _ _ (getMethod (Value.ref _) (Str.ofString "get") _) _ _ _); (rename News _ _ _ _ => lN'); (have hmD := hsubSt (D, oD) (List.mem_cons_of_mem _ (List.mem_cons_self ..))); (have tD := TabAt.ofNews lN' (List.mem_cons_of_mem _ hmD) lo hdD hfD); refine getMethod_intTab_get tD ?_))
set_option hygiene false in
local macro_rules | `(tactic| walk_at "call builtin:dict.get") => `(tactic| (k_here; (with_reducible show wpAny _ _ (call (Value.builtin "dict.get") [Value.ref _, Value.int _ _, Value.int _ _]) _ _ _); (rename News _ _ _ _ => lN'); k_dflt (refine kdf_get2 tD ?_); intro _))
set_option hygiene false in
local macro_rules | `(tactic| walk_at "eval Name") => `(tactic| (k_here; (with_reducible show wpAny _ _ (eval (Expr.Name (Str.ofString "table") _) _) _ _ _); (have hmT := hsubSt (L' + 1, ot) (List.mem_cons_of_mem _ (List.mem_cons_of_mem _ hmT0))); (rename News _ _ _ _ => lN'); k_dflt (refine' nameX_C lN' ?c (List.mem_cons_of_mem _ hmT) dt ?_ ?a ?b; (case a | b | c => rfl); k_whole)))
set_option hygiene false in
local macro_rules | `(tactic| walk_at "binaryOp Pow int int") => `(tactic| (k_here; k_dflt (refine pow_int_small ?kb1 ?kb2 ?kb3 ?_; (case kb1 | kb2 => omega); (case kb3 => decide))))
set_option hygiene false in
local macro_rules | `(tactic| walk_at "call builtin:sorted") => `(tactic| (k_here; (rename Fr _ _ _ _ => lF'); (rename News _ _ _ _ => lN'); (have tD := TabAt.ofNews lN' (List.mem_cons_self ..) lo hdD hfD); k_dflt (refine sorted_keys (by first | exact rfl | assumption) lF' lN' tD ?k1 ?k2 hkD hasc ?_; (case k1 | k2 => omega)); (try clear lF' lN' tD); intro B' h' tkB' vsB F' N' l1 hIB; (try k_lt l1); walk_at "e9"))
set_option hygiene false in
local macro_rules | `(tactic| walk_at "call type:list") => `(tactic| (k_here; (with_reducible show wpAny _ _ (call (Value.type _) [Value.ref _]) _ _ _); (rename IsRange _ _ _ _ _ _ _ _ => rgX); (rename Fr _ _ _ _ => lF'); (rename News _ _ _ _ => lN'); k_dflt (refine kll_range (by first | exact rfl | assumption) lF' lN' rgX (small_one (by omega) (by omega) (by omega) (by omega)) (rangeSize_nat _ _) (by omega) ?_); (try clear lF' lN' rgX); intro B2 vs2 c2 h' tk2 F' N' l1 hI2; (rw [Int.sub_zero] at hI2); (try k_lt l1); walk_at "e9"))
set_option hygiene false in
local macro_rules | `(tactic| walk_at "compareOp Eq ref ref") => `(tactic| (k_here; k_dflt (refine eq_intsK (vs := vsB) (us := vs2) ?k1 hIB ?k3 hI2 ?k5 ?_; (case k1 => exact ⟨_, (N' _ (List.mem_cons_of_mem _ (List.mem_cons_self ..))).1, rfl, _, rfl⟩); (case k3 => exact ⟨_, (N' _ (List.mem_cons_self ..)).1, rfl, _, rfl⟩); (case k5 => ktr_units)); (rw [decide_eq_true rfl]); (try k_fold)))
set_option hygiene false in
local macro_rules | `(tactic| walk_at "eval ListComp") => `(tactic| (k_here; k_dflt (refine ListComp_D (F₀ := F') (by with_unfolding_all rfl) (by decide) (by rfl) (by decide) (by rfl) ?_)))
set_option hygiene false in
local macro_rules | `(tactic| walk_at "SrcD") => `(tactic| (refine held ?_))
set_option hygiene false in
local macro_rules | `(tactic| walk_at "CompEnd") => `(tactic| (refine held ?_))
set_option hygiene false in
local macro_rules | `(tactic| walk_at "subscriptTail Name Name ref int") => `(tactic| (refine held ?_))
theorem is_even_c (w : World) (news : List (Addr × Obj)) (size : Int) (t1 : Tok) (ps : Array Value) (c' : Addr) (oc : Obj) (hT : (100, tabObj ps) ∈ news) (hps : TabIs ps c') (hc : (c', oc) ∈ news) (hoc : CodeIs oc) (hs0 : 1 ≤ size) (hs1 : size ≤ 63) :
    CtrS w 117 news [.int size t1] 8 400 (fun K => ∀ h', K (.bool true) h' news) := by
  intro loose mean mg mb dp un gd cn cs a ccd cl outer A₀ base h₀ L m s Q E B F X N T hk hC hd hu hret
  refine wpAny_call ?_
  k_dflt (refine' code_defC ?k1 ?k2 ?k3 ?k4 ?k5 ?kA ?kF ?kK ?k6 ?k7 ?k8 ?k9 ?kB ?kD ?_ ?c2 ?c3 ?c4; (case kA => exact rfl); (case kF => exact rfl); (case kK => first | exact rfl | assumption); (case k1 => k_asm); (case k2 => k_asm); (case k3 => k_asm); (case k4 => k_asm); (case k5 => k_asm); (case k6 => k_is); (case k7 => k_is); (case k8 => ktr_room); (case k9 => exact BindsTo.of_eq rfl); (case kB => exact rfl); (case kD => decide +kernel); (case c2 => exact rfl); (case c3 => exact rfl); (case c4 => exact rfl); k_whole; intro g' L' h' tk' cells' FG' F' N' Y' B' X' T' l1; (try k_lt l1); k_cells Y'; (try simp only [List.cons_append, List.nil_append] at N'); (try dsimp only); (try k_lift B'); (try k_fold))
  k_steps
  rename_i oe o2 d1 d2 D h1 od lo hs0' fs0 hi0 fi0 l2 h2 ot F2 N2 dt h3 tk3 ta tb tc hR hF hN hK
  refine Held.mk ?_
  refine kst_range (σ := Obj × List (Int × Value)) (fun c => (D, c.1) :: (L' + 1 + 1, oe) :: (L' + 1, ot) :: news) (fun _ => []) (fun _ => True) [PySem.Str.ofString "give", PySem.Str.ofString "asked", PySem.Str.ofString "told"] (fun pre c => c.1.IsDictOf (PySem.intKind PG w) c.2 ∧ PyProof.V.FlatPairs PyData.int c.2 (kdfD (pre.foldl (evStep size) []))) (od, []) (n := 64) rfl hR (by decide) (by decide) hF hN True.intro (fun _ h => absurd h List.not_mem_nil) ⟨hi0, fi0⟩ ?turn ?done
  case turn =>
    intro c pre k t u h tk own hkk hlen hoff _ hP FT NT0
    obtain ⟨oD, kvsD⟩ := c
    obtain ⟨hdD, hfD⟩ := hP
    replace hdD : oD.IsDictOf (PySem.intKind PG w) kvsD := hdD
    replace hfD : PyProof.V.FlatPairs PyData.int kvsD (kdfD (pre.foldl (evStep size) [])) := hfD
    have hlenD := evFold_len size pre []
    obtain ⟨cD, hcD⟩ : ∃ x, x = pre.foldl (evStep size) [] := ⟨_, rfl⟩
    rw [← hcD] at hfD hlenD
    replace hlenD : ¬ 1000 < cD.length := by simp only [List.length_nil] at hlenD; omega
    obtain ⟨ledE, hE⟩ : ∃ x : List (Addr × Obj), x = (L' + 1 + 1, oe) :: (L' + 1, ot) :: (news ++ own) := ⟨_, rfl⟩
    have NT : News g' L' h ((D, oD) :: ledE) := by rw [hE]; exact NT0
    clear NT0
    have hmT0 : (L' + 1, ot) ∈ ledE := by rw [hE]; exact List.mem_cons_of_mem _ (List.mem_cons_self ..)
    have hT0 : (100, tabObj ps) ∈ ledE := by rw [hE]; exact List.mem_cons_of_mem _ (List.mem_cons_of_mem _ (List.mem_append.mpr (.inl hT)))
    have hc0 : (c', oc) ∈ ledE := by rw [hE]; exact List.mem_cons_of_mem _ (List.mem_cons_of_mem _ (List.mem_append.mpr (.inl hc)))
    have hneD : ∀ q ∈ ledE, q.1 ≠ D := by
      rw [hE]
      intro q hq
      rcases List.mem_cons.mp hq with rfl | hq
      · exact Nat.ne_of_lt l2.1
      rcases List.mem_cons.mp hq with rfl | hq
      · exact Nat.ne_of_lt l2.2.1
      rcases List.mem_append.mp hq with hq | hq
      · exact Nat.ne_of_lt (ktn_ltOf l2.2.2 q hq)
      · exact hoff q hq D (List.mem_cons_self ..)
    have hledE : ∀ q ∈ (D, oD) :: ledE, q ∈ (D, oD) :: ledE := fun _ hq => hq
    have hRk : KBa.In [k] := by
      intro x hx
      rw [List.mem_singleton.mp hx]
      omega
    have hIk : IntsAre [Value.int k t] [k] := .cons _ _ .nil
    have hlb0 : lb (size - 0) ≤ 100 := lb_100 (by omega) (by omega)
    replace hcD := Held.mk hcD
    replace hE := Held.mk hE
    replace hoff := Held.mk hoff
    clear hledE hK hs0' fs0 hi0 fi0 hF hN hR d1 d2
    try k_fold
    k_steps
    · refine Held.mk ?_
      have hE' := hE.out
      have hcD' := hcD.out
      rw [Int.sub_zero] at eyUn eqUn
      rw [Int.zero_add] at eyUn
      refine kst_end (o2D, kvs2D) F' N' ?_ ?_ rfl True.intro (fun _ h => absurd h List.not_mem_nil) ?_ ⟨hd2D, ?_⟩
      · intro q hq
        rw [hE']
        rcases List.mem_cons.mp hq with rfl | hq
        · exact List.mem_cons_self ..
        rcases List.mem_cons.mp hq with rfl | hq
        · exact List.mem_cons_of_mem _ (List.mem_cons_self ..)
        rcases List.mem_cons.mp hq with rfl | hq
        · exact List.mem_cons_of_mem _ (List.mem_cons_of_mem _ (List.mem_cons_self ..))
        exact List.mem_cons_of_mem _ (List.mem_cons_of_mem _ (List.mem_cons_of_mem _ (List.mem_append.mpr (.inl hq))))
      · intro q hq
        rw [hE']
        exact List.mem_cons_of_mem _ (List.mem_cons_of_mem _ (List.mem_cons_of_mem _ (List.mem_append.mpr (.inr hq))))
      · intro z h1 _ h3
        exact ev_same h1 h3
      · rw [List.foldl_append, ← hcD', List.foldl_cons, List.foldl_nil]
        unfold evStep
        rw [← eqUn, ← eyUn, if_pos (by assumption)]
        exact hf2D
    · refine Held.mk ?_
      have hE' := hE.out
      have hcD' := hcD.out
      rw [Int.sub_zero] at eyUn eqUn
      rename Fr _ _ _ _ => lF'
      rename News _ _ _ _ => lN'
      refine kst_end (oD, kvsD) lF' lN' ?_ ?_ rfl True.intro (fun _ h => absurd h List.not_mem_nil) ?_ ⟨hdD, ?_⟩
      · intro q hq
        refine List.mem_cons_of_mem _ (hsubSt _ (List.mem_cons_of_mem _ ?_))
        rw [hE']
        rcases List.mem_cons.mp hq with rfl | hq
        · exact List.mem_cons_self ..
        rcases List.mem_cons.mp hq with rfl | hq
        · exact List.mem_cons_of_mem _ (List.mem_cons_self ..)
        rcases List.mem_cons.mp hq with rfl | hq
        · exact List.mem_cons_of_mem _ (List.mem_cons_of_mem _ (List.mem_cons_self ..))
        exact List.mem_cons_of_mem _ (List.mem_cons_of_mem _ (List.mem_cons_of_mem _ (List.mem_append.mpr (.inl hq))))
      · intro q hq
        refine List.mem_cons_of_mem _ (hsubSt _ (List.mem_cons_of_mem _ ?_))
        rw [hE']
        exact List.mem_cons_of_mem _ (List.mem_cons_of_mem _ (List.mem_cons_of_mem _ (List.mem_append.mpr (.inr hq))))
      · intro z h1 _ h3
        exact ev_same h1 h3
      · rw [List.foldl_append, ← hcD', List.foldl_cons, List.foldl_nil]
        unfold evStep
        rw [← eqUn, if_neg (by assumption)]
        exact hfD
  case done =>
    intro c u h tk _ hP FT NT
    obtain ⟨oD, kvsD⟩ := c
    obtain ⟨hdD, hfD⟩ := hP
    replace hdD : oD.IsDictOf (PySem.intKind PG w) kvsD := hdD
    replace hfD : PyProof.V.FlatPairs PyData.int kvsD (kdfD ((rangeKs 0 64).foldl (evStep size) [])) := hfD
    rw [ev_done hs0 hs1] at hfD
    replace NT : News g' L' h ((D, oD) :: (L' + 1 + 1, oe) :: (L' + 1, ot) :: news) := NT
    have hlb6 : 1 ≤ lb size ∧ lb size ≤ 6 := by
      have hi : ((size.toNat - 1 : Nat) : Int) + 1 = size := by omega
      have hl := ev_lb ⟨size.toNat - 1, by omega⟩
      simp only [hi] at hl
      exact hl
    obtain ⟨cD, hcD⟩ : ∃ x : List (Int × Int), x = (rangeKs 0 size.toNat).map (fun j => (j, 2 ^ (6 - lb size).toNat)) := ⟨_, rfl⟩
    rw [← hcD] at hfD
    have hlenD : cD.length = size.toNat := by rw [hcD, List.length_map, rangeKs_length]
    have hkD : cD.map Prod.fst = rangeKs 0 size.toNat := by
      rw [hcD, List.map_map]
      exact List.map_id' _
    have hasc := asc_range ⟨size.toNat, by omega⟩
    replace hasc : lks_asc (rangeKs 0 size.toNat) = true := hasc
    replace hcD := Held.mk hcD
    obtain ⟨hlb1, hlb6⟩ := hlb6
    clear hs0' fs0 hi0 fi0 hF hN hR d2 F2 N2 hK
    try k_fold
    k_steps
    subst eylb
    refine Held.mk ?_
    have hlenK : kvsD.length = size.toNat := by rw [← hfD.length, kdfD_length]; exact hlenD
    refine ⟨D, oD, kvsD, _, rfl, rfl, F', N', List.mem_cons_of_mem _ (List.mem_cons_of_mem _ (List.mem_cons_self ..)), lo, hdD, by rw [sizeLine_eq]; omega, ?_⟩
    rintro s₂ ⟨g, rfl⟩
    refine rest_loop _ (fun k i hi hR => ?_) ?_
    · replace hR := Held.mk hR
      refine PyProof.Rows.LCt.CompRestT.succ ?_
      intro v I oI C oC Dd m₂ h tk E' hv hC hx F3 N3 off ne
      obtain ⟨k0, y0, hv0, hk0⟩ := hv
      obtain ⟨t0, rfl⟩ := Value.isInt_shape hk0
      have hkl : kdfHas cD k0 = true ∧ kdfLook cD k0 0 = 2 ^ (6 - lb size).toNat := by
        obtain ⟨dv, hd, _⟩ := hfD.at hv0
        unfold kdfD at hd
        rw [List.getElem?_map] at hd
        cases hcc : cD[i]? with
        | none => rw [hcc] at hd; cases hd
        | some p =>
          rw [hcc] at hd
          simp only [Option.map_some, Option.some.injEq, Prod.mk.injEq, PyData.int.injEq] at hd
          obtain ⟨p1, p2⟩ := p
          have h1 : p1 = k0 := hd.1
          subst h1
          rw [hcD.out] at hcc ⊢
          exact ev_look hcc
      obtain ⟨hhas, hlook⟩ := hkl
      clear hv0 hk0
      k_steps
      refine Held.mk ?_
      have tD := TabAt.ofNews N3 (.tail _ (.tail _ (.tail _ (.tail _ (.tail _ (.head _)))))) lo hdD hfD
      k_dflt (refine kdf_item tD hhas ?_)
      intro _
      rw [hlook]
      clear tD
      rename Obj.data _ = Data.cell (some (Value.int _ _)) => dE
      k_dflt (refine' lcf_cell N3 ?c (.tail _ (.tail _ (.tail _ (.tail _ (.tail _ (.tail _ (.head _))))))) dE ?_ ?a ?b; (case a => rfl); (case b => rfl); (case c => rfl))
      k_steps
      · exact absurd rfl (by assumption)
      · refine Held.mk ?_
        exact PyProof.Rows.LCg.CompEnd.intro F3 N3 _ (fun _ h => h) off (.tail _ (.tail _ (.head _))) hR.out
    · intro Dd h tk F3 N3 off
      (try dsimp only)
      (try k_fold)
      k_steps
      rename Fr _ _ _ _ => lF'
      rename News _ _ _ _ => lN'
      exact hret _ _ lF' (news_sub lN' fun p hp => .tail _ (.tail _ (.tail _ (.tail _ (.tail _ (.tail _ (.tail _ hp)))))))
end Private
set_option hygiene false in
local macro_rules | `(tactic| walk_at "call ref") => `(tactic| (k_here; (with_reducible show wpAny _ _ (call (Value.ref 117) [Value.int _ _]) _ _ _); k_dflt (refine' ctrS_use ?k1 ?k2 ?k3 ?k4 ?k5 ?kK ?kC (is_even_c _ _ _ _ _ _ _ ?ka ?kb ?kc ?ke ?kf ?kg) ?kd ?ku ?_; walk_at "c5"; (case kC => (show CodeHd _ 104 100; assumption)); (case ka => k_mem); (case kb => assumption); (case kc => k_mem); (case ke => assumption); (case kf | kg => omega); walk_at "cdu"); intro hEv tkEv FEv NEv; walk_at "e9"))
theorem fresh19 : True := by
  w_top off
  trivial
theorem news_perm1 {h₀ h : Heap} {L : Addr} {a b c d e f g x : Addr × Obj} {rest : List (Addr × Obj)} (N : News h₀ L h (a :: b :: c :: d :: e :: f :: g :: x :: rest)) : News h₀ L h (a :: d :: b :: c :: e :: f :: g :: x :: rest) := by
  refine news_sub N fun p hp => ?_
  simp only [List.mem_cons] at hp ⊢
  rcases hp with h | h | h | h | h | h | h | h | h <;> simp [h]
theorem tab_give (c' : Addr) : TabIs (#[] ++ #[rawInt 60, rawInt 4, .ref c']) c' := by
  refine ⟨by simp [TriplesOk, rawInt], fun pos hl hc => ?_⟩
  simp [codeAmong, rawInt, hl, hc]
theorem law_stream1_c (w : World) (rest : List (Addr × Obj)) (o : Addr) (more : Int) (tk : Tok) (no : Nat) (vs : List Value) (hne : ∀ p ∈ rest, p.1 ≠ 100) (ho : (o, W.listOf vs.toArray no) ∈ rest) :
    CtrS w 105 ((100, tabObj #[]) :: rest) [.ref o, .int more tk] 1 60 (fun K => ∀ T f d rest' ps c' oc t0 h', @LT.lt Nat _ d T → (∀ p ∈ rest', p.1 < T) → (∀ p ∈ rest', p.1 ≠ d) → TabIs ps c' → CodeIs oc → Stream rest' f d o more → (100, tabObj ps) ∈ rest' → (c', oc) ∈ rest' → (∀ p ∈ rest, p ∈ rest') → (o, W.listOf vs.toArray no) ∈ rest' →
      K (.ref T) h' ((T, { cls := .type "tuple", data := .seq #[.ref f, .ref d] }) :: (d, W.listOf #[.int 0 t0] 0) :: rest')) := by
  intro loose mean mg mb dp un gd cn cs a ccd cl outer A₀ base h₀ L m s Q E B F X N T hk hC hd hu hret
  refine wpAny_call ?_
  k_dflt (refine' code_defC ?k1 ?k2 ?k3 ?k4 ?k5 ?kA ?kF ?kK ?k6 ?k7 ?k8 ?k9 ?kB ?kD ?_ ?c2 ?c3 ?c4; (case kA => exact rfl); (case kF => exact rfl); (case kK => first | exact rfl | assumption); (case k1 => k_asm); (case k2 => k_asm); (case k3 => k_asm); (case k4 => k_asm); (case k5 => k_asm); (case k6 => k_is); (case k7 => k_is); (case k8 => ktr_room); (case k9 => exact BindsTo.of_eq rfl); (case kB => exact rfl); (case kD => decide +kernel); (case c2 => exact rfl); (case c3 => exact rfl); (case c4 => exact rfl); k_whole; intro g' L' h' tk' cells' FG' F' N' Y' B' X' T' l1; (try k_lt l1); k_cells Y'; (try simp only [List.cons_append, List.nil_append] at N'); (try dsimp only); (try k_lift B'); (try k_fold))
  have hlt : ∀ p ∈ rest, p.1 < L' := fun p hp => ktn_ltOf l1.2 p hp
  have h100 : @LT.lt Nat _ 100 L' := l1.1
  k_steps
  rename News _ _ _ _ => kN2
  rename Fr _ _ _ _ => kF2
  replace kN2 := news_perm1 kN2
  refine hret _ _ _ _ _ _ _ _ _ ?z1 ?z2 ?z3 ?z4 ?z5 ?z6 (.tail _ (.tail _ (.tail _ (.tail _ (.tail _ (.head _)))))) (.tail _ (.head _)) (fun p hp => .tail _ (.tail _ (.tail _ (.tail _ (.tail _ (.tail _ hp)))))) (.tail _ (.tail _ (.tail _ (.tail _ (.tail _ (.tail _ ho)))))) _ kF2 kN2
  case z1 => omega
  case z2 =>
    intro p hp
    simp only [List.mem_cons] at hp
    rcases hp with rfl | rfl | rfl | rfl | rfl | rfl | hp
    all_goals first | (dsimp only; omega) | exact Nat.lt_trans (hlt p hp) (by omega)
  case z3 =>
    intro p hp
    simp only [List.mem_cons] at hp
    rcases hp with rfl | rfl | rfl | rfl | rfl | rfl | hp
    all_goals first | (dsimp only; omega) | exact Nat.ne_of_lt (Nat.lt_trans (hlt p hp) (by omega))
  case z4 => exact tab_give _
  case z5 => exact ⟨_, _, by assumption, by assumption⟩
  case z6 =>
    rename (Obj.data _ = Data.cell _) => q3
    replace q3 := Held.mk q3
    rename (Obj.data _ = Data.cell _) => q1
    replace q1 := Held.mk q1
    rename (Obj.data _ = Data.cell _) => q2
    exact ⟨_, _, _, _, _, _, _, _, _, _, .head _, ⟨_, _, _, rfl⟩, .tail _ (.tail _ (.tail _ (.tail _ (.head _)))), q1.out, .tail _ (.tail _ (.tail _ (.head _))), q2, .tail _ (.tail _ (.head _)), q3.out, .tail _ (.head _), ⟨_, _, by assumption, by assumption⟩⟩
theorem fresh20 : True := by
  w_top off
  trivial
theorem len62 {ns : List Int} (h : ¬ ((63 : Nat) : Int) < (ns.length : Int)) : ns.length < 2 ^ 62 := by omega
theorem fmod_bd (a : Int) {b : Int} (hb : 0 < b) : 0 ≤ Int.fmod a b ∧ Int.fmod a b < b := by
  rw [Int.fmod_eq_emod_of_nonneg a (Int.le_of_lt hb)]
  exact ⟨Int.emod_nonneg a (by omega), Int.emod_lt_of_pos a hb⟩
theorem fmod_bd_of {a : Int} (_h : 0 ≤ a) {b : Int} (hb : 0 < b) : 0 ≤ Int.fmod a b ∧ Int.fmod a b < b := fmod_bd a hb
/-- an answer whose making leaves the frame and the ledger as they were -/
def ExpAns (h₀ : Heap) (L : Addr) (m : PySem.Str → Option Value) (news : List (Addr × Obj)) (P : Value → Prop) (s : Shared) (v : Value) (s' : Shared) : Prop :=
  ∃ h' tk, s' = { s with heap := h', toks := tk } ∧ Fr h₀ L h' m ∧ News h₀ L h' news ∧ P v
theorem exp_ans {M : Model} {A : Around} {c : Sem Value} {Q E : Value → Shared → Prop} {s : Shared} {h₀ : Heap} {L : Addr} {m : PySem.Str → Option Value} {news : List (Addr × Obj)} (P : Value → Prop) (_F : Fr h₀ L s.heap m) (_N : News h₀ L s.heap news)
    (h : wpAny M A c (ExpAns h₀ L m news P s) E s) (k : ∀ v h' tk, P v → Fr h₀ L h' m → News h₀ L h' news → Q v { s with heap := h', toks := tk }) : wpAny M A c Q E s :=
  wpAny_mono h (fun v _ ⟨h', tk, e, F, N, hp⟩ => e ▸ k v h' tk hp F N) fun _ _ x => x
theorem size_facts {c l : Int} (h0 : 0 ≤ Int.fmod c 90) (h1 : Int.fmod c 90 < 90) (_hl : 0 ≤ l) :
    1 ≤ (2 : Int) ^ (Int.fmod c 90).toNat ∧ (2 : Int) ^ (Int.fmod c 90).toNat ≤ 2 ^ 89 ∧ 0 ≤ Int.fmod l (2 ^ (Int.fmod c 90).toNat) ∧ Int.fmod l (2 ^ (Int.fmod c 90).toNat) < 2 ^ (Int.fmod c 90).toNat ∧ 0 ≤ Int.fmod l 255 ∧ Int.fmod l 255 < 255 := by
  have hp : (0 : Int) < 2 ^ (Int.fmod c 90).toNat := Int.pow_pos (by decide)
  have hq : (2 : Int) ^ (Int.fmod c 90).toNat ≤ 2 ^ 89 := by
    have h : (2 : Nat) ^ (Int.fmod c 90).toNat ≤ 2 ^ 89 := Nat.pow_le_pow_right (by decide) (by omega)
    exact_mod_cast h
  have a := fmod_bd l hp
  have b := fmod_bd l (b := 255) (by decide)
  exact ⟨by omega, hq, a.1, a.2, b.1, b.2⟩
theorem max_ge (x : Int) : 1 ≤ if x > 1 then x else 1 := by split <;> omega
theorem max_lt {x : Int} (h : x < 2 ^ 92) : (if x > 1 then x else 1) < 2 ^ 92 := by split <;> omega
theorem p256 (a : Int) : (256 : Int) ^ (Int.fmod a 3).toNat ≠ 0 ∧ ((256 : Int) ^ (Int.fmod a 3).toNat).natAbs < 1073741824 := by
  obtain ⟨h0, h1⟩ := fmod_bd a (b := 3) (by decide)
  rcases (by omega : Int.fmod a 3 = 0 ∨ Int.fmod a 3 = 1 ∨ Int.fmod a 3 = 2) with h | h | h <;> rw [h] <;> decide
section
open PyProof.Rows.LCg
theorem rest_loopU {prog : Program} {w : World} {A : Around} {h₀ : Heap} {L : Addr} {m : PySem.Str → Option Value} {env : Env} {elt : Expr} {x : PySem.Str} {scope : Scope} {cl : List (PySem.Str × Addr)} {s : Shared} {S : List (Addr × Obj) → Prop} {P : Nat → Value → Prop} {Fin : List Value → List (Addr × Obj) → Prop} {news : List (Addr × Obj)} (n : Nat) (Inv : Nat → List Value → Prop) (h0 : Inv 0 [])
    (step : ∀ k i ys, i < n → Inv i ys → (∀ y, Inv (i + 1) (ys ++ [y]) → CompRest prog w A h₀ L m env elt x scope cl s S P Fin k (i + 1) (ys ++ [y]) news) → CompRest prog w A h₀ L m env elt x scope cl s S P Fin (k + 1) i ys news) (fin : ∀ ys, Inv n ys → Fin ys news) :
    CompRest prog w A h₀ L m env elt x scope cl s S P Fin n 0 [] news := by
  have main : ∀ k i ys, i + k = n → Inv i ys → CompRest prog w A h₀ L m env elt x scope cl s S P Fin k i ys news := by
    intro k
    induction k with
    | zero => intro i ys hi hv; exact fin ys (by rw [← show i = n by omega]; exact hv)
    | succ k ih => intro i ys hi hv; exact step k i ys (by omega) hv fun y hy => ih (i + 1) _ (by omega) hy
  exact main n 0 [] (Nat.zero_add n) h0
end
/-- a list of octets, so many -/
def OctInv (i : Nat) (ys : List Value) : Prop := ∃ oks : List Int, IntsAre ys oks ∧ KBa.In oks ∧ oks.length = i
theorem OctInv.nil : OctInv 0 [] := ⟨[], .nil, fun _ h => absurd h List.not_mem_nil, rfl⟩
theorem ints_snoc : ∀ {ys : List Value} {oks : List Int} (y : Int) (t : Tok), IntsAre ys oks → IntsAre (ys ++ [.int y t]) (oks ++ [y])
  | _, _, y, t, .nil => .cons y t .nil
  | _, _, y, t, .cons a u r => .cons a u (ints_snoc y t r)
theorem OctInv.snoc {i : Nat} {ys : List Value} {y : Int} {t : Tok} (h : OctInv i ys) (h0 : 0 ≤ y) (h1 : y < 256) : OctInv (i + 1) (ys ++ [.int y t]) := by
  obtain ⟨oks, hI, hr, hl⟩ := h
  refine ⟨oks ++ [y], ints_snoc y t hI, ?_, by rw [List.length_append, hl]; rfl⟩
  intro x hx
  rcases List.mem_append.mp hx with hx | hx
  · exact hr x hx
  · rw [List.mem_singleton.mp hx]; exact ⟨h0, h1⟩
theorem news_rot {h₀ h : Heap} {L : Addr} {a b c : Addr × Obj} (N : News h₀ L h [a, b, c]) : News h₀ L h [c, a, b] := by
  refine news_sub N fun p hp => ?_
  simp only [List.mem_cons] at hp ⊢
  rcases hp with h | h | h | h <;> simp_all
theorem ne_same {prog : Program} {w : World} {A : Around} {E : Value → Shared → Prop} {s : Shared} {a b : Int} {t u : Tok} {Q : Value → Shared → Prop} (e : a = b) (h : Q (.bool false) s) : wpAny (model prog w) A (compareOp .NotEq (.int a t) (.int b u)) Q E s :=
  ne_int (by rw [show (a != b) = false by simp [e]]; exact h)
theorem bound_bd (a l : Int) : 0 ≤ Int.fmod a (2 ^ (1 + Int.fmod l 90).toNat) ∧ Int.fmod a (2 ^ (1 + Int.fmod l 90).toNat) < 2 ^ 92 := by
  obtain ⟨h0, h1⟩ := fmod_bd l (b := 90) (by decide)
  have hp : (0 : Int) < 2 ^ (1 + Int.fmod l 90).toNat := Int.pow_pos (by decide)
  have hq : (2 : Int) ^ (1 + Int.fmod l 90).toNat ≤ 2 ^ 91 := by
    have h : (2 : Nat) ^ (1 + Int.fmod l 90).toNat ≤ 2 ^ 91 := Nat.pow_le_pow_right (by decide) (by omega)
    exact_mod_cast h
  have a := fmod_bd a hp
  exact ⟨a.1, by omega⟩
theorem three {α : Type} {a b c : α} {l : List α} (ha : a ∈ l) (hb : b ∈ l) (hc : c ∈ l) : ∀ q ∈ [a, b, c], q ∈ l := by
  intro q hq
  simp only [List.mem_cons, List.not_mem_nil, or_false] at hq
  rcases hq with rfl | rfl | rfl <;> assumption
theorem in_app {a b : List Int} (ha : KBa.In a) (hb : KBa.In b) : KBa.In (a ++ b) := fun x hx => (List.mem_append.mp hx).elim (ha x) (hb x)
theorem in_take {a : List Int} {n : Nat} (ha : KBa.In a) : KBa.In (a.take n) := fun x hx => ha x (List.mem_of_mem_take hx)
theorem News.cons_as {h₀ h : Heap} {L a : Addr} {o o' : Obj} {news : List (Addr × Obj)} (e : o = o') (N : News h₀ L h ((a, o) :: news)) : News h₀ L h ((a, o') :: news) := e ▸ N
/-- the statement leaves octets a list of at most 45 octets -/
def OctAns (h₀ : Heap) (L : Addr) (m : PySem.Str → Option Value) (news : List (Addr × Obj)) (s : Shared) (f : Flow) (s' : Shared) : Prop :=
  ∃ o vs oks n h' tk, f = .next ∧ s' = { s with heap := h', toks := tk } ∧ Fr h₀ L h' (fun z => if z = PySem.Str.ofString "octets" then some (.ref o) else m z) ∧ News h₀ L h' ((o, PySem.W.listOf vs.toArray n) :: news) ∧ (∀ q ∈ news, q.1 ≠ o) ∧ IntsAre vs oks ∧ KBa.In oks ∧ oks.length ≤ 45
theorem OctAns.intro {h₀ : Heap} {L o : Addr} {m m' : PySem.Str → Option Value} {news rest : List (Addr × Obj)} {s : Shared} {h' : Heap} {tk n : Nat} {vs : List Value} {oks : List Int} (F : Fr h₀ L h' m') (N : News h₀ L h' ((o, PySem.W.listOf vs.toArray n) :: rest)) (hm : ∀ z, (if z = PySem.Str.ofString "octets" then some (Value.ref o) else m z) = m' z) (hs : ∀ q ∈ news, q ∈ rest) (ne : ∀ q ∈ news, q.1 ≠ o)
    (hI : IntsAre vs oks) (hR : KBa.In oks) (hl : oks.length ≤ 45) : OctAns h₀ L m news s .next { s with heap := h', toks := tk } :=
  ⟨o, vs, oks, n, h', tk, rfl, rfl, fr_same F hm, news_sub N fun q hq => (List.mem_cons.mp hq).elim (fun e => e ▸ .head _) fun h => .tail _ (hs q h), ne, hI, hR, hl⟩
theorem stmt_oct {M : Model} {A : Around} {c : Sem Flow} {Q : Flow → Shared → Prop} {E : Value → Shared → Prop} {s : Shared} {h₀ : Heap} {L oo : Addr} {m : PySem.Str → Option Value} {news : List (Addr × Obj)} {q : Addr × Obj} (_F : Fr h₀ L s.heap (fun z => if z = PySem.Str.ofString "octets" then some (.ref oo) else m z)) (_N : News h₀ L s.heap (q :: news))
    (h : wpAny M A c (OctAns h₀ L m news s) E s)
    (k : ∀ o vs oks n h' tk, Fr h₀ L h' (fun z => if z = PySem.Str.ofString "octets" then some (.ref o) else m z) → News h₀ L h' ((o, PySem.W.listOf vs.toArray n) :: news) → (∀ q ∈ news, q.1 ≠ o) → IntsAre vs oks → KBa.In oks → oks.length ≤ 45 → Q .next { s with heap := h', toks := tk }) : wpAny M A c Q E s :=
  wpAny_mono h (fun _ _ ⟨o, vs, oks, n, h', tk, ef, es, F, N, ne, hI, hR, hL⟩ => ef ▸ es ▸ k o vs oks n h' tk F N ne hI hR hL) fun _ _ x => x
section Private
/-- an answer that is a number, the heap untouched -/
def IntAns (s : Shared) (v : Value) (s' : Shared) : Prop := ∃ n t tk, v = Value.int n t ∧ s' = { s with toks := tk }
theorem int_ans {M : Model} {A : Around} {c : Sem Value} {Q E : Value → Shared → Prop} {s : Shared} (h : wpAny M A c (IntAns s) E s) (k : ∀ n t tk, Q (Value.int n t) { s with toks := tk }) : wpAny M A c Q E s :=
  wpAny_mono h (fun _ _ ⟨n, t, tk, e1, e2⟩ => e1 ▸ e2 ▸ k n t tk) fun _ _ x => x
set_option hygiene false in
local macro_rules | `(tactic| walk_at "eval IfExp") => `(tactic| (k_here; (fail_if_success (with_reducible show wpAny _ _ _ (IntAns _) _ _)); refine held ?_))
local macro_rules | `(tactic| walk_at "IntAns") => `(tactic| exact ⟨_, _, _, rfl, rfl⟩)
set_option hygiene false in
local macro_rules | `(tactic| walk_at "eval Call") => `(tactic| (k_here; (with_reducible show wpAny _ _ (eval (Expr.Call (Expr.Name (Str.ofString "max") _) _ _ _) _) (fun _ _ => wpAny _ _ (storeName _ _ _) _ _ _) _ _); refine held ?_))
set_option hygiene false in
local macro_rules | `(tactic| walk_at "binaryOp Pow int int") => `(tactic| (k_here; k_dflt (refine pow_int_small ?kb1 ?kb2 ?kb3 ?_; (case kb1 => first | omega | exact (fmod_bd _ (by decide)).1); (case kb2 => first | omega | exact Int.le_trans (Int.le_of_lt (fmod_bd _ (by decide)).2) (by decide)); (case kb3 => decide))))
set_option hygiene false in
local macro_rules | `(tactic| walk_at "exec Assign cons ListComp") => `(tactic| (k_here; refine held ?_))
local macro_rules | `(tactic| walk_at "CompSrc") => `(tactic| refine held ?_)
local macro_rules | `(tactic| walk_at "CompEnd") => `(tactic| refine held ?_)
set_option hygiene false in
local macro_rules | `(tactic| walk_at "binaryOp FloorDiv int int") => `(tactic| (k_here; (with_reducible show wpAny _ _ (binaryOp Operator.FloorDiv (Value.int _ _) (Value.int (256 ^ _) _)) _ _ _); k_dflt (refine floordiv_int (p256 _).1 ?_ (Or.inl (PyProof.noPylong_small (p256 _).2)))))
set_option hygiene false in
local macro_rules | `(tactic| walk_at "exec If") => `(tactic| (k_here; (with_reducible show wpAny _ _ (exec (Stmt.If _ _ _ _) _) _ _ _); (fail_if_success (with_reducible show wpAny _ _ _ (OctAns _ _ _ _ _) _ _)); (have hHold2 := hHold; clear hHold2); refine held ?_))
local macro_rules | `(tactic| walk_at "OctAns") => `(tactic| refine held ?_)
set_option hygiene false in
local macro_rules | `(tactic| walk_at "call ref") => `(tactic| (k_here; (with_reducible show wpAny _ _ (call (Value.ref 105) [Value.ref _, Value.int _ _]) _ _ _); refine held ?_))
set_option hygiene false in
local macro_rules | `(tactic| walk_at "compareOp NotEq int int") => `(tactic| (k_here; refine ne_same (by first | rw [eyUn, eyFi, hsz] | rw [eqUn, eqFi, hsz]) ?_))
set_option hygiene false in
local macro_rules | `(tactic| walk_at "exec Assign") => `(tactic| (k_here; (with_reducible show wpAny _ _ (exec (Stmt.Assign [Expr.Name (Str.ofString "bound") _] _ _) _) _ _ _); refine held ?_))
local macro_rules | `(tactic| walk_at "ExpAns") => `(tactic| refine held ?_)
theorem law_holds : PySem.Challenge.rw_jv0038_01.Holds := hd (by
  k_go0
  (all_goals try k_fold)
  rename IntsAre _ _ => hI
  rename Heap.IsList (ghostOf _ _) _ _ => lifted
  rename CodeHd _ _ _ => codeHd
  rename (¬ _) => hcond
  have hlen := len62 hcond
  replace codeHd : CodeHd _ 104 100 := codeHd
  have hHold : Held True := Held.mk True.intro
  k_steps
  refine Held.mk ?_
  refine int_ans ?_ ?_
  · k_steps
  · intro start tS tkS
    (try dsimp only)
    (try k_fold)
    k_steps
    refine Held.mk ?_
    rename (0 ≤ (_ : Int)) => hLeft
    replace hLeft := Held.mk hLeft
    rename (0 ≤ (_ : Int)) => hCell
    replace hLeft := hLeft.out
    rename Fr _ _ _ _ => F1
    rename News _ _ _ _ => N1
    have hWd := fmod_bd_of hCell (b := 90) (by decide)
    obtain ⟨hWd0, hWd1⟩ := hWd
    have hSz := size_facts hWd0 hWd1 hLeft
    refine exp_ans (fun v => ∃ n t, v = Value.int n t ∧ 1 ≤ n ∧ n < 2 ^ 92) F1 N1 ?_ ?_
    · --<
      k_steps
      all_goals refine Held.mk ?_
      all_goals rename Fr _ _ _ _ => F2
      all_goals rename News _ _ _ _ => N2
      all_goals refine ⟨_, _, rfl, F2, news_drop N2, _, _, rfl, max_ge _, max_lt ?_⟩
      all_goals omega
      -->
    · rintro v h' tk ⟨size, tSi, rfl, hSi0, hSi1⟩ F1 N1
      (try dsimp only)
      (try k_fold)
      have hSi : lb size ≤ 100 := lb_100 (Int.lt_trans hSi1 (by decide)) (by omega)
      k_steps
      refine Held.mk ?_
      rename Fr _ _ _ _ => F1
      rename News _ _ _ _ => N1
      k_dflt (refine PyProof.Rows.LCg.Assign_ListComp_U (F₀ := F1) (by rfl) (by with_unfolding_all rfl) (by rfl) (by decide) (by rfl) (by decide) (by rfl) (by rfl) (by rfl) ?_)
      k_steps
      refine Held.mk ?_
      rename IsRange _ _ _ _ _ _ _ _ => hR
      rename Fr _ _ _ _ => F1
      rename News _ _ _ _ => N1
      refine PyProof.Rows.LCg.CompSrc.range rfl F1 N1 hR (by decide) (n := 45) rfl (by rw [sizeLine_eq]; decide) ?_
      intro g
      refine rest_loopU 45 OctInv OctInv.nil ?_ ?_
      · --<
        intro k i ys hi hv hR'
        replace hR' := Held.mk hR'
        replace hv := Held.mk hv
        refine PyProof.Rows.LCg.CompRest.succ ?_
        intro v I oI C oC D m₂ h tk E' hP hC hx F3 N3 off ne
        obtain ⟨tP, rfl⟩ := hP
        have hfd : 0 ≤ Int.fdiv (0 + (i : Int)) 3 := Int.fdiv_nonneg (by omega) (by decide)
        clear F1 N1 hR
        k_steps
        refine Held.mk ?_
        rename Fr _ _ _ _ => F4
        rename News _ _ _ _ => N4
        refine PyProof.Rows.LCg.CompEnd.intro F4 N4 _ (fun _ h => h) off trivial (hR'.out _ (OctInv.snoc hv.out (fmod_bd _ (by decide)).1 (fmod_bd _ (by decide)).2))
        -->
      · intro ys hys
        unfold PyProof.Rows.LCg.FinA
        intro oo h' tk F1 N1 o1
        obtain ⟨oks, hOk, hIn, hOl⟩ := hys
        clear hR
        (try simp only [PyProof.Rows.LCg.Off1, and_true] at o1)
        (try dsimp only)
        (try k_fold)
        k_steps
        refine Held.mk ?_
        replace N1 := News.cons_as (o' := PySem.W.listOf ys.toArray ys.length) rfl N1
        refine stmt_oct F1 N1 ?_ ?_
        · --<
          k_steps
          · refine Held.mk ?_
            rename Fr _ _ _ _ => F2
            rename News _ _ _ _ => N2
            rename IntsAre _ (List.take _ _) => hI2
            have hl2 := hI2.length
            rw [List.length_take, hOl] at hl2
            replace hl2 := hl2.trans (show min 30 45 = 30 from rfl)
            refine PyProof.Rows.LCg.CompSrc.ledger rfl F2 N2 (List.mem_cons_self ..) (by rw [sizeLine_eq, List.size_toArray, hl2]; decide) ?_
            intro g
            refine rest_loopU _ OctInv OctInv.nil ?_ ?_
            · intro k i ys2 hi hv hR'
              replace hR' := Held.mk hR'
              replace hv := Held.mk hv
              refine PyProof.Rows.LCg.CompRest.succ ?_
              intro v I oI C oC D m₂ h tk E' hP hC hx F3 N3 off ne
              clear F2 N2
              k_steps
              refine Held.mk ?_
              rename Fr _ _ _ _ => F4
              rename News _ _ _ _ => N4
              exact PyProof.Rows.LCg.CompEnd.intro F4 N4 _ (fun _ h => h) off (.inr ⟨_, List.mem_cons_self .., rfl, _, rfl⟩) (hR'.out _ (OctInv.snoc hv.out (by decide) (by decide)))
            · intro ys2 hys2
              unfold PyProof.Rows.LCg.FinE
              intro o2 h' tk F3 N3 o3
              obtain ⟨oks2, hOk2, hIn2, hOl2⟩ := hys2
              clear F2 N2
              (try simp only [PyProof.Rows.LCg.Off1, and_true] at o3)
              (try dsimp only)
              (try k_fold)
              k_steps
              refine Held.mk ?_
              rename Fr _ _ _ _ => F4
              rename News _ _ _ _ => N4
              rename IntsAre _ (_ ++ _) => hI4
              rw [List.size_toArray, hl2] at hOl2
              refine OctAns.intro F4 N4 (fun y => ?_) (fun q hq => ?_) (fun q hq => ?_) hI4 (in_app hIn2 (in_take hIn)) ?_
              · by_cases hy : y = Str.ofString "octets"
                · rw [if_pos hy, if_pos hy]
                · simp only [if_neg hy]
              · exact .tail _ (.tail _ (.tail _ (.tail _ hq)))
              · rcases List.mem_cons.mp hq with rfl | hq
                · exact Nat.ne_of_lt (by omega)
                · rw [List.mem_singleton.mp hq]; exact Nat.ne_of_lt (by omega)
              · rw [List.length_append, hOl2, List.length_take]; omega
          · refine Held.mk ?_
            refine ⟨oo, ys, oks, _, _, _, rfl, rfl, F1, N1, ?_, hOk, hIn, Nat.le_of_eq hOl⟩
            intro q hq
            rcases List.mem_cons.mp hq with rfl | hq
            · exact o1.1
            · rw [List.mem_singleton.mp hq]; exact o1.2
          -->
        · intro o vs oks no h' tk F1 N1 neO hOk2 hIn2 hOl2
          clear hOk hIn hOl o1
          (try dsimp only)
          (try k_fold)
          k_steps
          refine Held.mk ?_
          replace N1 := news_rot N1
          k_dflt (refine' ctrS_use ?k1 ?k2 ?k3 ?k4 ?k5 ?kK ?kC (law_stream1_c _ _ _ _ _ no vs ?ka ?kb) ?kd ?ku ?_; (case k1 => k_asm); (case k2 => k_asm); (case k3 => k_asm); (case k4 => exact N1); (case k5 => k_asm); (case kK => exact rfl); (case kC => assumption); (case kb => exact .head _); (case kd => ktr_room); (case ku => ktr_units))
          case ka =>
            intro q hq
            rcases List.mem_cons.mp hq with rfl | hq
            · exact fun e => neO _ (.tail _ (.head _)) e.symm
            · rw [List.mem_singleton.mp hq]
              exact Nat.ne_of_gt (Nat.lt_succ_of_lt (by assumption))
          intro TT ff dd rest' ps c' oc t0 h'' z1 z2 z3 hTab hCode hStr h100 hcm hsub hom tkS2 F2 N2
          have hcell := hsub _ (.tail _ (.head _))
          clear F1 N1
          (try dsimp only)
          (try k_fold)
          k_steps
          refine Held.mk ?_
          rename Fr _ _ _ _ => F3
          rename News _ _ _ _ => N3
          replace N3 := news_drop (news_drop N3)
          have hsz : start + size - start = size := by omega
          have hSi2 : lb (start + size - start) ≤ 100 := by rw [hsz]; exact hSi
          have hOl3 : List.length oks ≤ 1000 := by omega
          refine wpAny_If ?_
          k_steps
          refine Held.mk ?_
          refine wpAny_If ?_
          k_steps
          refine Held.mk ?_
          rename Fr _ _ _ _ => F4
          rename News _ _ _ _ => N4
          have hL90 := fmod_bd_of hLeft (b := 90) (by decide)
          replace N4 : News _ _ _ [_, (100, tabObj ps), (c', oc)] := news_sub N4 (three (.tail _ hcell) (.tail _ h100) (.tail _ hcm))
          clear hcell h100 hcm hsub hom hStr z1 z2 z3
          refine wpAny_Assign_Name ?_
          refine exp_ans (fun v => ∃ n t, v = Value.int n t ∧ 0 ≤ n ∧ n < 2 ^ 92) F4 N4 ?_ ?_
          · --<
            k_steps
            refine Held.mk ?_
            rename Fr _ _ _ _ => F5
            rename News _ _ _ _ => N5
            exact ⟨_, _, rfl, F5, N5, _, _, rfl, (bound_bd _ _).1, (bound_bd _ _).2⟩
            -->
          · rintro v h5 tk5 ⟨bound, tB, rfl, hBo0, hBo1⟩ F5 N5
            (try dsimp only)
            (try k_fold)
            clear hHold
            have hA1 := (fmod_bd_of hLeft (b := 2 ^ Int.toNat 100) (Int.pow_pos (by decide))).1
            have hA2 : 0 ≤ Int.fdiv bound 2 := Int.fdiv_nonneg hBo0 (by decide)
            have hA3 := fmod_bd_of hLeft (b := 63) (by decide)
            have hBo : lb bound ≤ 100 := lb_100 (Int.lt_trans hBo1 (by decide)) hBo0
            k_steps)
end Private
end Mine
theorem PySem.Challenge.cw_jv0038_01_holds : PySem.Challenge.rw_jv0038_01.Holds := by
  exact Mine.law_holds
