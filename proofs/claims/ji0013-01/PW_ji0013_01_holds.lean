import PyProof.Rows.All
import Wide.All
import OpenK.AllK
import Wide.FinOn
import PySem.Challenge.RW_ji0013_01
open PySem PySem.W PyProof.Rows
set_option Elab.async false
namespace Mine
def hd.view_39 : Program := PySem.W.view PySem.Challenge.pw_ji0013_01 [1, 3, 4, 5, 6, 7, 8, 9, 10, 11, 12, 13, 14, 15, 16, 17, 18]
set_option maxRecDepth 100000 in
theorem wellSaid : OpenLaw.wellSaid PySem.Challenge.rw_ji0013_01 = true := by
  unfold OpenLaw.wellSaid OpenRow.wellSaid OpenRow.partSaid looksOpen
  rw [PySem.W.Fast.te11788848310118352699, PySem.W.Fast.te12862048085361865435, PySem.W.Fast.te8377067652309620493, PySem.W.Fast.te8326940854005059898, PySem.W.Fast.te17119622794617984870, PySem.W.Fast.te10501279942588096481, PySem.W.Fast.te8179353310426384613, PySem.W.Fast.te9558739934217749035, PySem.W.Fast.te16286561074155671207, PySem.W.Fast.te6984425678791042302, PySem.W.Fast.te13343964577679436407, PySem.W.Fast.te17868728402115742887, PySem.W.Fast.te9807087744658564304, PySem.W.Fast.te5923862056798008813, PySem.W.Fast.te18344453789297297638, PySem.W.Fast.te10792542408131684335]
  repeat' (first | with_reducible refine look_both ?_ ?_ | fail "no pair")
  all_goals decide +kernel
set_option maxRecDepth 100000 in
theorem seenPart (w : World) : (openEnds treeTable (OpenLaw.row PySem.Challenge.rw_ji0013_01).prog w 3804).map (openSeen hd.view_39 [] (importedModules (OpenLaw.row PySem.Challenge.rw_ji0013_01).prog.main.body) (fun s => xlAt hd.view_39 [] s && recOk (OpenRow.toRowW (OpenLaw.row PySem.Challenge.rw_ji0013_01)).records s) true) = some (openGood hd.view_39 []) := by
  unfold openEnds fencedOpening topFrom
  rw [PySem.W.Fast.te4187177175401517315, PySem.W.Fast.te5923862056798008813, PySem.W.Fast.te14364793385576792824, PySem.W.Fast.te14082659384304107361, PySem.W.Fast.te10274390034422433532, PySem.W.Fast.te1435165496053646825, PySem.W.Fast.te14289696077712309145, PySem.W.Fast.te8920871248978507458]
  kernel_rfl
theorem map_pair {α β γ : Type} {o : Option γ} {f : γ → α} {g : γ → β} {a : α} {b : β} (h1 : o.map f = some a) (h2 : o.map g = some b) : o.map (fun s => (f s, g s)) = some (a, b) := by
  cases o with
  | none => cases h1
  | some s => injection h1 with h1; injection h2 with h2; rw [Option.map_some, h1, h2]
theorem leftOf {α : Type} {Yf : Shared → α} {Ya : World → α} (h : ∀ w, (openEnds treeTable (OpenLaw.row PySem.Challenge.rw_ji0013_01).prog w 3804).map Yf = some (Ya w)) : LeftO (OpenLaw.row PySem.Challenge.rw_ji0013_01).prog hd.view_39 [] (fun s => xlAt hd.view_39 [] s && recOk (OpenRow.toRowW (OpenLaw.row PySem.Challenge.rw_ji0013_01)).records s) Yf Ya 3804 := fun w => map_pair (seenPart w) (h w)
section
local macro_rules | `(tactic| o_law) => `(tactic| refine holds_law wellSaid fun said => ?_)
local macro_rules | `(tactic| o_head $H) => `(tactic| (refine holds_open (q := hd.view_39) (loose := []) (Xt := fun s => xlAt hd.view_39 [] s && recOk (OpenRow.toRowW (OpenLaw.row PySem.Challenge.rw_ji0013_01)).records s) (XP := XL hd.view_39 []) (Yf := Hook.obs $H) (Ya := Hook.val $H) (YP := Hook.says $H) (N := 3804) ?hl (Hook.of $H) (Hook.keeps $H) (fun s e => xl_of s (Bool.and_eq_true_iff.mp e).1) XL.keeps (by rfl) (by rfl) (by rfl) (fun s e => recFacts_of (Bool.and_eq_true_iff.mp e).2) ?a4 ?a5 (by decide +kernel) ⟨rfl, rfl, rfl, rfl, rfl, by decide +kernel⟩ ?hw ?hc; (case a4 => kernel_rfl); (case a5 => first | assumption | kernel_rfl); (case hl => (refine leftOf ?_; intro w; unfold openEnds fencedOpening topFrom; rw [PySem.W.Fast.te5923862056798008813, PySem.W.Fast.te14364793385576792824, PySem.W.Fast.te14082659384304107361, PySem.W.Fast.te10274390034422433532, PySem.W.Fast.te1435165496053646825, PySem.W.Fast.te14289696077712309145, PySem.W.Fast.te8920871248978507458]; kernel_rfl))))
set_option maxRecDepth 100000 in
set_option maxHeartbeats 8000000 in
open_top hd for PySem.Challenge.rw_ji0013_01
end
/-- a key of a dict here: a whole number or a text, whatever its token -/
inductive PK where
  | int (i : Int)
  | str (s : Str)
  deriving DecidableEq
def PK.is : PK → Value → Bool
  | .int i, .int j _ => i == j
  | .str s, .str t _ => t == s
  | _, _ => false
def PK.hash (w : World) : PK → Int
  | .int i => hashInt i
  | .str s => hashStr w s
theorem PK.is_int {i : Int} {v : Value} (h : PK.is (.int i) v = true) : ∃ t, v = .int i t := by
  cases v <;> simp_all [PK.is]
theorem PK.is_str {x : Str} {v : Value} (h : PK.is (.str x) v = true) : ∃ t, v = .str x t := by
  cases v <;> simp_all [PK.is]
theorem PK.inj (v : Value) (a b : PK) (ha : a.is v = true) (hb : b.is v = true) : a = b := by
  cases a with
  | int i =>
    obtain ⟨t, rfl⟩ := PK.is_int ha
    cases b with
    | int j => obtain ⟨u, h⟩ := PK.is_int hb; injection h with h; rw [h]
    | str y => obtain ⟨u, h⟩ := PK.is_str hb; cases h
  | str x =>
    obtain ⟨t, rfl⟩ := PK.is_str ha
    cases b with
    | int j => obtain ⟨u, h⟩ := PK.is_int hb; cases h
    | str y => obtain ⟨u, h⟩ := PK.is_str hb; injection h with h; rw [h]
section
variable {prog : Program} {w : World} {A : Around} {E : Value → Shared → Prop} {s : Shared}
theorem eqB_is {a : Int} {t : Tok} {b : Str} {u : Tok} {Q : Bool → Shared → Prop} (h : Q false s) : wpAny (model prog w) A (eqBool (.int a t) (.str b u)) Q E s := by
  unfold eqBool
  rw [if_neg (by intro h; cases h)]
  refine wpAny_holding ?_
  exact wpAny_bind (show wpAny (model prog w) A (compareOp .Eq (.int a t) (.str b u)) _ E s from EqMixed.eq_int_str (wpAny_truthy_bool h))
theorem eqB_si {a : Str} {t : Tok} {b : Int} {u : Tok} {Q : Bool → Shared → Prop} (h : Q false s) : wpAny (model prog w) A (eqBool (.str a t) (.int b u)) Q E s := by
  unfold eqBool
  rw [if_neg (by intro h; cases h)]
  refine wpAny_holding ?_
  exact wpAny_bind (show wpAny (model prog w) A (compareOp .Eq (.str a t) (.int b u)) _ E s from EqMixed.eq_str_int (wpAny_truthy_bool h))
theorem PK.eqB {a b : PK} {u v : Value} {Q : Bool → Shared → Prop} (hu : a.is u = true) (hv : b.is v = true) (h : Q (decide (a = b)) s) :
    wpAny (model prog w) A (eqBool u v) Q E s := by
  cases a with
  | int i =>
    obtain ⟨t, rfl⟩ := PK.is_int hu
    cases b with
    | int j =>
      obtain ⟨u', rfl⟩ := PK.is_int hv
      refine wpAny_eqBool_int ?_
      have e : (i == j) = decide (PK.int i = PK.int j) := by
        by_cases q : i = j
        · subst q; simp
        · simp [q]
      rw [e]; exact h
    | str y =>
      obtain ⟨u', rfl⟩ := PK.is_str hv
      exact eqB_is (by simpa using h)
  | str x =>
    obtain ⟨t, rfl⟩ := PK.is_str hu
    cases b with
    | int j =>
      obtain ⟨u', rfl⟩ := PK.is_int hv
      exact eqB_si (by simpa using h)
    | str y =>
      obtain ⟨u', rfl⟩ := PK.is_str hv
      refine wpAny_eqBool_str ?_
      have e : decide (x = y) = decide (PK.str x = PK.str y) := by
        by_cases q : x = y
        · subst q; simp
        · simp [q]
      rw [e]; exact h
end
def pk (prog : Program) (w : World) : KeyKind prog w PK where
  is := PK.is
  hash := PK.hash w
  inj := PK.inj
  byValue := fun k v h => by
    cases k with
    | int i => obtain ⟨t, rfl⟩ := PK.is_int h; rfl
    | str x => obtain ⟨t, rfl⟩ := PK.is_str h; rfl
  pyHash := fun {A E s k v Q} hv h => by
    cases k with
    | int i => obtain ⟨t, rfl⟩ := PK.is_int hv; exact wpAny_pyHash_int h
    | str x => obtain ⟨t, rfl⟩ := PK.is_str hv; exact wpAny_pyHash_str h
  eqBool := fun hu hv h => PK.eqB hu hv h
  «strs» := fun k x t v h => by
    cases k with
    | int i => obtain ⟨u, hu⟩ := PK.is_int h; cases hu
    | str y =>
      obtain ⟨u, hu⟩ := PK.is_str h
      injection hu with hx
      subst hx
      cases v <;> rfl
/-- the entries of a Set's table -/
def prs (ks : List PK) : List (PK × Value) := ks.map fun k => (k, Value.none)
def IsT (prog : Program) (w : World) (o : Obj) (ks : List PK) : Prop := o.IsDictOf (pk prog w) (prs ks)
/-- one Set in a ledger: its object, its dict, its table -/
structure SetIn (prog : Program) (w : World) (news : List (Addr × Obj)) (x dx t : Addr) (n : Nat) (hh : Int) (tk : Tok) (o : Obj) (ks : List PK) : Prop where
  i : (x, instObj 270 dx) ∈ news
  d : (dx, dictOf [⟨hh, .str "table" tk, .ref t⟩] n) ∈ news
  tb : (t, o) ∈ news
  lo : (t == sysModules) = false
  dict : IsT prog w o ks
  xt : t ≠ x
  dt : t ≠ dx
  xd : x ≠ dx
/-- what a def's end hands back, with all that the foot did not hold kept -/
def LeaveF (h₀ : Heap) (L : Addr) (m : Str → Option Value) (hs : Heap) (as : List Addr) (g : Heap) (R : Result → Shared → Prop) (v : Value) (s' : Shared) : Prop :=
  ∃ L' m' news', Fr g L' s'.heap m' ∧ News g L' s'.heap news' ∧ (Fr h₀ L s'.heap m → News h₀ L s'.heap news' → (∀ b o, hs.get? b = some o → b ∉ as → s'.heap.get? b = some o) → (∀ p ∈ news', p.1 ∉ as → hs.get? p.1 = none) → R (.ok (.ret v)) s')
theorem LeaveF.mk {h₀ : Heap} {L : Addr} {m : Str → Option Value} {hs : Heap} {as : List Addr} {g : Heap} {R : Result → Shared → Prop} {v : Value} {s : Shared} {h' : Heap} {tk : Nat} {L' : Addr} {m' : Str → Option Value} {news' : List (Addr × Obj)}
    (F : Fr g L' h' m') (N : News g L' h' news') (k : Fr h₀ L h' m → News h₀ L h' news' → (∀ b o, hs.get? b = some o → b ∉ as → h'.get? b = some o) → (∀ p ∈ news', p.1 ∉ as → hs.get? p.1 = none) → R (.ok (.ret v)) { s with heap := h', toks := tk }) : LeaveF h₀ L m hs as g R v { s with heap := h', toks := tk } := ⟨L', m', news', F, N, k⟩
/-- a name of a def's own frame -/
def nmOk (cs : Scope) (x : Str) : Bool := match cs.kind with
  | .function => (match cs.names.lookup x with
    | some .local => !(x == ("__debug__" : Str))
    | _ => false)
  | _ => false
theorem nmOk_is {cs : Scope} {x : Str} (h : nmOk cs x = true) : cs.kind = .function ∧ cs.names.lookup x = some .local ∧ (x == ("__debug__" : Str)) = false := by
  unfold nmOk at h
  split at h
  · rename_i hk
    split at h
    · rename_i hl
      exact ⟨hk, hl, by simpa using h⟩
    · cases h
  · cases h
section
variable {M : Model} {A : Around} {E : Value → Shared → Prop} {s : Shared} {h₀ : Heap} {L a : Addr} {m : Str → Option Value} {cn : Str} {cs : Scope} {ccd : Value} {x : Str} {v : Value} {news : List (Addr × Obj)}
theorem nmL {pos} {Q : Value → Shared → Prop} (F : Fr h₀ L s.heap m) (hv : m x = some v) (h : Q v s) (hk : nmOk cs x = true) : wpAny M A (eval (.Name x pos) (envOf cn cs L a ccd)) Q E s :=
  nameX_L (cl := []) F hv h (nmOk_is hk).1 (nmOk_is hk).2.1 (nmOk_is hk).2.2
theorem stL {Q : Unit → Shared → Prop} (F : Fr h₀ L s.heap m) (N : News h₀ L s.heap news) (h : ∀ h' tk, Fr h₀ L h' (fun y => if y = x then some v else m y) → News h₀ L h' news → Q () { s with heap := h', toks := tk }) (hk : nmOk cs x = true) : wpAny M A (storeName (envOf cn cs L a ccd) x v) Q E s :=
  storeX_L (cl := []) F N (fun h' F' N' => h h' _ F' N') (nmOk_is hk).1 (nmOk_is hk).2.1
end
theorem topEx {p : Program} {h : Heap} {loose : List Str} {mean : ExcName → Option Value} {mg mb : Str → Option Value} (T : Top p loose mean mg mb h) : ∃ loose mean mg mb, Top p loose mean mg mb h := ⟨loose, mean, mg, mb, T⟩
section
variable {prog : Program} {w : World} {A₀ A : Around} {s : Shared} {base h₀ : Heap} {outer : List Env} {L : Addr} {m mg mb : Str → Option Value} {env : Env} {news : List (Addr × Obj)} {K : Frag} {p : Program} {loose : List Str} {mean : ExcName → Option Value}
  {R : Result → Shared → Prop} {name qual : Str} {params : Arguments} {body : List Stmt} {scope : Scope} {dV kV doc pm cdv ct oc : Value} {an od : Option Addr} {osl : Array (Option Value)} {f : Addr} {args : Args} {binds : List (Str × Value)}
theorem enterF (B : Below A₀ base outer h₀) (F : Fr h₀ L s.heap m) (X₀ : K.In h₀) (N : News h₀ L s.heap news) (T : Top p loose mean mg mb h₀) (hA : A.frames = some (env :: outer)) (hf : env.frame = some L) (hke : env.scope.kind = .function)
    (ho : K.lookup f = some ⟨oc, od, .func (fnOf name qual params body scope dV kV doc pm an cdv ct), osl⟩) (hcd : codeIn K cdv qual = true) (hroom : A.depth < recursionLimit)
    (hbind : BindsTo s (fnOf name qual params body scope dV kV doc pm an cdv ct) args binds) (hloc : ∀ y ∈ binds, scope.names.lookup y.1 = some .local)
    (h : ∀ g L' h₁, Fr h₀ L g m → Fr g L' h₁ (fun y => binds.reverse.lookup y) → News g L' h₁ news → Below A base (env :: outer) g → K.In g → Top p loose mean mg mb g → (∀ b o, s.heap.get? b = some o → b ∉ news.map (·.1) → g.get? b = some o) → h₀.StaysIn g →
      wpAny (model prog w) (A.deeper (envOf qual scope L' f cdv)) (execs body (envOf qual scope L' f cdv))
        (fun fl s' => LeaveF h₀ L m s.heap (news.map (·.1)) g R (match fl with | .ret v => v | _ => .none) s')
        (fun e s' => wpAny (model prog w) (A.deeper (envOf qual scope L' f cdv)) (leaving (envOf qual scope L' f cdv) e) (fun _ s'' => R (.error e) s'') (fun e' s'' => R (.error e') s'') s')
        { s with heap := h₁, toks := s.toks + binds.length })
    (hco : scope.isCoroutine = false) (hgen : scope.isGenerator = false) (hk : scope.kind = .function)
    (hcell : ∀ x ∈ scope.names, x.2 ≠ .cell) : codeAny (model prog w) A (.call (.ref f) args) R s := by
  obtain ⟨FG, BG, st, lv⟩ := groundX (R := R) B F N hA hf hke
  have X := X₀.keeps F.keep
  refine codeAny_call_def (fd := fnOf name qual params body scope dV kV doc pm an cdv ct) (body := body) (binds := binds) hroom (X _ _ ho) rfl (T.nolimit.keeps F.keep) (codeRec_of X hcd) rfl hbind hcell hloc (fun h₁ hns hk₁ => ?_) hco hgen hk
  refine wpAny_mono (h _ s.heap.objs.size h₁ FG ⟨hns, fun b o e => hk₁ b o (of_hideAll _ e), Nat.le_of_eq (hideAll_size _ _)⟩
    (fun p hp => ⟨hk₁ _ _ (N p hp).1, Nat.ne_of_lt (Heap.lt_size (N p hp).1), hideAll_none _ (List.mem_map_of_mem hp)⟩) BG (X₀.keeps st) (T.keeps st) (fun b o e nm => hideAll_get _ e nm) st) (fun fl s' hl => ?_) fun _ _ y => y
  obtain ⟨L', m', news', F', N', k⟩ := hl
  refine lv _ _ ⟨L', m', news', F', N', fun kF kN => k kF kN (fun b o e nm => F'.keep b o (hideAll_get _ e nm)) fun p hp nm => ?_⟩
  cases q : s.heap.get? p.1 with
  | none => rfl
  | some o => have := (N' p hp).2.2; rw [hideAll_get _ q nm] at this; cases this
end
theorem fillK : (hd.heap_1 = hd.heap_1) ∧ PySem.Challenge.rw_ji0013_01 = PySem.Challenge.rw_ji0013_01 := by
  k_fill; exact ⟨rfl, rfl⟩

open PySem.Calls
def ALL : List PK := [.int 3, .str "b", .int 0, .str "", .int 7, .str "a", .int 12, .str "ab", .int 255]
def ins (ks : List PK) (k : PK) : List PK := if k ∈ ks then ks else ks ++ [k]
def del (ks : List PK) (k : PK) : List PK := ks.filter fun y => decide (y ≠ k)
def IsV (k : PK) (v : Value) : Prop := k.is v = true ∧ k ∈ ALL
def IsD (prog : Program) (w : World) (o : Obj) (ks : List PK) : Prop := IsT prog w o ks ∧ ∀ k ∈ ks, k ∈ ALL
theorem prs_keys (ks : List PK) : (prs ks).map (·.1) = ks := by
  simp [prs, Function.comp_def]
theorem prs_length (ks : List PK) : (prs ks).length = ks.length := by simp [prs]
theorem prs_valueAt (ks : List PK) (k : PK) : valueAt (prs ks) k = if k ∈ ks then some Value.none else none := by
  induction ks with
  | nil => rfl
  | cons a r ih =>
    show valueAt ((a, Value.none) :: prs r) k = _
    unfold valueAt at ih ⊢
    rw [List.find?_cons]
    by_cases h : a = k
    · subst h; simp
    · have h' : ¬ k = a := fun e => h e.symm
      simp only [h, decide_false, List.mem_cons, h', false_or]
      exact ih
theorem prs_stored (ks : List PK) (k : PK) : stored (prs ks) k Value.none = prs (ins ks k) := by
  unfold stored ins
  by_cases h : k ∈ ks
  · have e : ((prs ks).any fun kv => decide (kv.1 = k)) = true := by
      rw [List.any_eq_true]; exact ⟨(k, .none), by simp [prs, h], by simp⟩
    rw [if_pos e, if_pos h]
    unfold prs
    rw [List.map_map]
    refine List.map_congr_left fun a _ => ?_
    simp only [Function.comp]
    split <;> rfl
  · have e : ¬ ((prs ks).any fun kv => decide (kv.1 = k)) = true := by
      rw [List.any_eq_true]; rintro ⟨kv, h1, h2⟩
      obtain ⟨a, ha, rfl⟩ := List.mem_map.mp h1
      exact h (of_decide_eq_true h2 ▸ ha)
    rw [if_neg e, if_neg h]; simp [prs]
theorem prs_without (ks : List PK) (k : PK) : without (prs ks) k = prs (del ks k) := by
  unfold without prs del
  rw [List.filter_map]
  rfl
theorem prs_merged (ks more : List PK) : merged (prs ks) (prs more) = prs (more.foldl ins ks) := by
  unfold merged
  induction more generalizing ks with
  | nil => rfl
  | cons a r ih =>
    show List.foldl _ (stored (prs ks) a Value.none) (prs r) = _
    rw [prs_stored, ih]; rfl
theorem IsD.nodup {prog : Program} {w : World} {o : Obj} {ks : List PK} (h : IsD prog w o ks) : ks.Nodup := by
  obtain ⟨⟨es, ep, _, _, _, _, hn⟩, _⟩ := h
  rw [prs_keys] at hn; exact hn
theorem nodup_len : ∀ {l l' : List PK}, l.Nodup → (∀ k ∈ l, k ∈ l') → l.length ≤ l'.length
  | [], _, _, _ => Nat.zero_le _
  | a :: r, l', hn, hs => by
    have ha := hs a (.head _)
    rw [List.nodup_cons] at hn
    have h1 := nodup_len (l := r) (l' := l'.erase a) hn.2 fun k hk => (List.mem_erase_of_ne (fun e : k = a => hn.1 (e ▸ hk))).mpr (hs k (.tail _ hk))
    rw [List.length_erase_of_mem ha] at h1
    have := List.length_pos_of_mem ha
    simp only [List.length_cons]; omega
theorem small_of {ks : List PK} (hn : ks.Nodup) (hs : ∀ k ∈ ks, k ∈ ALL) : ks.length ≤ 9 := by
  have := nodup_len hn hs
  simpa [ALL] using this
theorem IsD.small {prog : Program} {w : World} {o : Obj} {ks : List PK} (h : IsD prog w o ks) : ks.length ≤ 9 := small_of h.nodup h.2
theorem IsD.fits {prog : Program} {w : World} {o : Obj} {ks : List PK} (h : IsD prog w o ks) : (prs ks).length ≤ sizeLine := by
  rw [prs_length, sizeLine_eq]; have := h.small; omega
theorem sub_ins {ks : List PK} {k : PK} (h : ∀ y ∈ ks, y ∈ ALL) (hk : k ∈ ALL) : ∀ y ∈ ins ks k, y ∈ ALL := by
  intro y hy; unfold ins at hy
  split at hy
  · exact h y hy
  · rcases List.mem_append.mp hy with q | q
    · exact h y q
    · rw [List.mem_singleton.mp q]; exact hk
theorem sub_del {ks : List PK} {k : PK} (h : ∀ y ∈ ks, y ∈ ALL) : ∀ y ∈ del ks k, y ∈ ALL := fun y hy => h y (List.mem_filter.mp hy).1
theorem sub_fold {more : List PK} (hm : ∀ y ∈ more, y ∈ ALL) : ∀ {ks : List PK}, (∀ y ∈ ks, y ∈ ALL) → ∀ y ∈ more.foldl ins ks, y ∈ ALL := by
  induction more with
  | nil => intro ks h; exact h
  | cons a r ih => intro ks h; exact ih (fun y hy => hm y (.tail _ hy)) (sub_ins h (hm a (.head _)))
/-- the values of a list are the items ks, one by one -/
def IsL (ks : List PK) (vs : List Value) : Prop := vs.length = ks.length ∧ ∀ (j : Nat) (k : PK), ks[j]? = some k → ∃ v, vs[j]? = some v ∧ IsV k v
theorem IsL.len {ks : List PK} {vs : List Value} (h : IsL ks vs) : vs.length = ks.length := h.1
theorem IsL.nil : IsL [] [] := ⟨rfl, fun j k h => by simp at h⟩
theorem IsL.get {ks : List PK} {vs : List Value} (h : IsL ks vs) {j : Nat} {k : PK} (hk : ks[j]? = some k) : ∃ v, vs[j]? = some v ∧ IsV k v := h.2 j k hk
theorem IsL.cons {k : PK} {v : Value} {ks : List PK} {vs : List Value} (hv : IsV k v) (h : IsL ks vs) : IsL (k :: ks) (v :: vs) := by
  refine ⟨by simp [h.1], fun j k' hk => ?_⟩
  cases j with
  | zero => simp at hk; subst hk; exact ⟨v, by simp, hv⟩
  | succ j => simp at hk; simpa using h.2 j k' hk
theorem IsL.inv {k : PK} {ks : List PK} {vs : List Value} (h : IsL (k :: ks) vs) : ∃ v r, vs = v :: r ∧ IsV k v ∧ IsL ks r := by
  cases vs with
  | nil => exact absurd h.1 (by simp)
  | cons v r =>
    obtain ⟨v', e, hv⟩ := h.2 0 k (by simp)
    simp at e; subst e
    exact ⟨v, r, rfl, hv, by simpa using h.1, fun j k' hk => by simpa using h.2 (j + 1) k' (by simpa using hk)⟩
theorem IsL.append : ∀ {ks ks' : List PK} {vs vs' : List Value}, IsL ks vs → IsL ks' vs' → IsL (ks ++ ks') (vs ++ vs')
  | [], _, vs, _, h, h' => by
    have : vs = [] := List.length_eq_zero_iff.mp h.1
    subst this; exact h'
  | k :: ks, _, vs, _, h, h' => by
    obtain ⟨v, r, rfl, hv, hr⟩ := h.inv
    exact IsL.cons hv (IsL.append hr h')
theorem IsL.sub {ks : List PK} {vs : List Value} (h : IsL ks vs) : ∀ k ∈ ks, k ∈ ALL := fun k hk => by
  obtain ⟨j, hj, rfl⟩ := List.mem_iff_getElem.mp hk
  obtain ⟨_, _, hv⟩ := h.2 j ks[j] (by simp [hj])
  exact hv.2
section
variable {prog : Program} {w : World} {A : Around} {E : Value → Shared → Prop} {s : Shared} {h₀ : Heap} {L t t₂ : Addr} {m : Str → Option Value} {news : List (Addr × Obj)} {g : Obj → List (Addr × Obj)} {o o₂ : Obj} {ks ks₂ : List PK} {k : PK} {v : Value}
theorem IsD.dictOf (N : News h₀ L s.heap news) (hm : (t, o) ∈ news) (ho : IsD prog w o ks) : s.heap.DictOf (pk prog w) t (prs ks) := Heap.dictOf_iff.mpr ⟨o, (N _ hm).1, ho.1⟩
theorem up_of {h h' : Heap} {o' : Obj} (F : Fr h₀ L h m) (N : News h₀ L h news) (U : UpdF t o news g) (hs : Heap.SameBut t h h') (ho : h'.get? t = some o') : Fr h₀ L h' m ∧ News h₀ L h' (g o') := by
  obtain ⟨pre, post, rfl, hg, a, b⟩ := U.split
  have hm := N (t, o) (List.mem_append_right _ (.head _))
  exact ⟨F.change hs hm.2.1 hm.2.2, hg o' ▸ N.setIn a b hs ho⟩
theorem tNotIn_t {Q : Value → Shared → Prop} (N : News h₀ L s.heap news) (hm : (t, o) ∈ news) (ho : IsD prog w o ks) (lo : (t == sysModules) = false) (hv : IsV k v) (hk : k ∈ ks)
    (h : Q (.bool false) { s with toks := s.toks + 1 }) : wpAny (model prog w) A (compareOp .NotIn v (.ref t)) Q E s :=
  wpAny_notIn_of (knd := pk prog w) hv.1 lo (ho.dictOf N hm).mapOf (by rw [prs_valueAt, if_pos hk]; exact h)
theorem tNotIn_f {Q : Value → Shared → Prop} (N : News h₀ L s.heap news) (hm : (t, o) ∈ news) (ho : IsD prog w o ks) (lo : (t == sysModules) = false) (hv : IsV k v) (hk : k ∉ ks)
    (h : Q (.bool true) { s with toks := s.toks + 1 }) : wpAny (model prog w) A (compareOp .NotIn v (.ref t)) Q E s :=
  wpAny_notIn_of (knd := pk prog w) hv.1 lo (ho.dictOf N hm).mapOf (by rw [prs_valueAt, if_neg hk]; exact h)
theorem tIn_t {Q : Value → Shared → Prop} (N : News h₀ L s.heap news) (hm : (t, o) ∈ news) (ho : IsD prog w o ks) (lo : (t == sysModules) = false) (hv : IsV k v) (hk : k ∈ ks)
    (h : Q (.bool true) { s with toks := s.toks + 1 }) : wpAny (model prog w) A (compareOp .In v (.ref t)) Q E s :=
  wpAny_in_of (knd := pk prog w) hv.1 lo (ho.dictOf N hm).mapOf (by rw [prs_valueAt, if_pos hk]; exact h)
theorem tIn_f {Q : Value → Shared → Prop} (N : News h₀ L s.heap news) (hm : (t, o) ∈ news) (ho : IsD prog w o ks) (lo : (t == sysModules) = false) (hv : IsV k v) (hk : k ∉ ks)
    (h : Q (.bool false) { s with toks := s.toks + 1 }) : wpAny (model prog w) A (compareOp .In v (.ref t)) Q E s :=
  wpAny_in_of (knd := pk prog w) hv.1 lo (ho.dictOf N hm).mapOf (by rw [prs_valueAt, if_neg hk]; exact h)
theorem tSet {Q : Unit → Shared → Prop} (F : Fr h₀ L s.heap m) (N : News h₀ L s.heap news) (U : UpdF t o news g) (ho : IsD prog w o ks) (hv : IsV k v)
    (h : ∀ h' o', Fr h₀ L h' m → News h₀ L h' (g o') → IsD prog w o' (ins ks k) → Q () { s with heap := h', toks := s.toks + 1 }) :
    wpAny (model prog w) A (setItem (.ref t) v .none) Q E s := by
  have hm : (t, o) ∈ news := by obtain ⟨pre, post, rfl, _⟩ := U.split; simp
  refine wpAny_setItem_pairs (knd := pk prog w) (hsz := ho.fits) hv.1 (ho.dictOf N hm) fun h' hmm hs => ?_
  obtain ⟨o', ho', hd'⟩ := Heap.dictOf_iff.mp hmm
  obtain ⟨F', N'⟩ := up_of F N U hs ho'
  rw [prs_stored] at hd'
  exact h h' o' F' N' ⟨hd', sub_ins ho.2 hv.2⟩
theorem tDel {Q : Unit → Shared → Prop} (F : Fr h₀ L s.heap m) (N : News h₀ L s.heap news) (U : UpdF t o news g) (ho : IsD prog w o ks) (hv : IsV k v) (hk : k ∈ ks)
    (h : ∀ h' o', Fr h₀ L h' m → News h₀ L h' (g o') → IsD prog w o' (del ks k) → Q () { s with heap := h', toks := s.toks + 1 }) :
    wpAny (model prog w) A (delItem (.ref t) v) Q E s := by
  have hm : (t, o) ∈ news := by obtain ⟨pre, post, rfl, _⟩ := U.split; simp
  have hD := ho.dictOf N hm
  unfold delItem
  try with_reducible refine wpAny_holding ?_
  refine wpAny_bind (wpAny_sequenceKey hD.typeIs (by decide) ?_)
  refine wpAny_bind (wpAny_callSpecial?_slot (name := Str.ofString "__delitem__") hD.typeIs PySem.F.slot_dict_delitem
    (call_meetsIn PySem.F.slot_dict_delitem hD.typeIs PySem.F.entry_dict_delitem (PySem.F.args_dict_delitem_2 _ _) (meets_dict_delitem_pairs (pk prog w) t hv.1) ⟨prs ks, hD, ho.fits, by rw [prs_valueAt, if_pos hk]; rfl, fun h' hmm hs => ?_⟩))
  obtain ⟨o', ho', hd'⟩ := Heap.dictOf_iff.mp hmm
  obtain ⟨F', N'⟩ := up_of F N U hs ho'
  rw [prs_without] at hd'
  exact wpAny_pure (h h' o' F' N' ⟨hd', sub_del ho.2⟩)
theorem tDel_missing {Q : Unit → Shared → Prop} (hh : A.handled = none) (N : News h₀ L s.heap news) (hm : (t, o) ∈ news) (ho : IsD prog w o ks) (lo : (t == sysModules) = false) (hv : IsV k v) (hk : k ∉ ks)
    (h : ∀ h' e, Heap.NewExc s.heap h' e "KeyError" → E (.ref e) { s with heap := h', toks := s.toks + 1 }) :
    wpAny (model prog w) A (delItem (.ref t) v) Q E s := by
  have hD := ho.dictOf N hm
  unfold delItem
  try with_reducible refine wpAny_holding ?_
  refine wpAny_bind (wpAny_sequenceKey hD.typeIs (by decide) ?_)
  exact wpAny_bind (wpAny_callSpecial?_slot (name := Str.ofString "__delitem__") hD.typeIs PySem.F.slot_dict_delitem
    (call_meetsIn PySem.F.slot_dict_delitem hD.typeIs PySem.F.entry_dict_delitem (PySem.F.args_dict_delitem_2 _ _) (meets_dict_delitem_missing (pk prog w) t hv.1 lo) ⟨hh, prs ks, hD, by rw [prs_valueAt, if_neg hk], h⟩))
theorem part_of (hv : IsV k v) : (keyPart v).isSome = true := by
  cases k with
  | int i => obtain ⟨u, rfl⟩ := PK.is_int hv.1; rfl
  | str x => obtain ⟨u, rfl⟩ := PK.is_str hv.1; rfl
theorem tPop {Q : Value → Shared → Prop} (F : Fr h₀ L s.heap m) (N : News h₀ L s.heap news) (U : UpdF t o news g) (ho : IsD prog w o ks) (lo : (t == sysModules) = false) (hv : IsV k v)
    (h : ∀ h' o', Fr h₀ L h' m → News h₀ L h' (g o') → IsD prog w o' (del ks k) → Q .none { s with heap := h', toks := s.toks + 1 }) :
    wpAny (model prog w) A (call (.builtin "dict.pop") [.ref t, v, .none]) Q E s := by
  have hm : (t, o) ∈ news := by obtain ⟨pre, post, rfl, _⟩ := U.split; simp
  have hD := ho.dictOf N hm
  by_cases hk : k ∈ ks
  · refine call_meetsIn PySem.F.slot_dict_pop hD.typeIs PySem.F.entry_dict_pop (PySem.F.args_dict_pop_3 _ _ _) (meets_dict_pop_there (pk prog w) t hv.1 [.none] (.inr ⟨_, rfl⟩) (part_of hv)) ⟨prs ks, .none, hD, ho.fits, by rw [prs_valueAt, if_pos hk], fun h' hmm hs => ?_⟩
    obtain ⟨o', ho', hd'⟩ := Heap.dictOf_iff.mp hmm
    obtain ⟨F', N'⟩ := up_of F N U hs ho'
    rw [prs_without] at hd'
    exact h h' o' F' N' ⟨hd', sub_del ho.2⟩
  · refine call_meetsIn PySem.F.slot_dict_pop hD.typeIs PySem.F.entry_dict_pop (PySem.F.args_dict_pop_3 _ _ _) (meets_dict_pop_default (pk prog w) t hv.1 lo (part_of hv) .none) ⟨prs ks, hD, by rw [prs_valueAt, if_neg hk], ?_⟩
    have e : del ks k = ks := List.filter_eq_self.mpr fun y hy => decide_eq_true fun e => hk (e ▸ hy)
    obtain ⟨pre, post, el, hg, a, b⟩ := U.split
    exact h s.heap o F (by rw [hg, ← el]; exact N) (e.symm ▸ ho)
theorem tClear {Q : Value → Shared → Prop} (F : Fr h₀ L s.heap m) (N : News h₀ L s.heap news) (U : UpdF t o news g) (ho : IsD prog w o ks)
    (h : ∀ h' o', Fr h₀ L h' m → News h₀ L h' (g o') → IsD prog w o' [] → Q .none { s with heap := h' }) :
    wpAny (model prog w) A (call (.builtin "dict.clear") [.ref t]) Q E s := by
  have hm : (t, o) ∈ news := by obtain ⟨pre, post, rfl, _⟩ := U.split; simp
  have hD := ho.dictOf N hm
  refine call_meetsIn PySem.F.slot_dict_clear hD.typeIs PySem.F.entry_dict_clear (PySem.F.args_dict_clear_1 _) (meets_dict_clear (pk prog w) t) ⟨prs ks, hD, ho.fits, fun h' hmm hs => ?_⟩
  obtain ⟨o', ho', hd'⟩ := Heap.dictOf_iff.mp hmm
  obtain ⟨F', N'⟩ := up_of F N U hs ho'
  exact h h' o' F' N' ⟨hd', fun _ q => nomatch q⟩
theorem tUpdate {Q : Value → Shared → Prop} (F : Fr h₀ L s.heap m) (N : News h₀ L s.heap news) (U : UpdF t o news g) (ho : IsD prog w o ks) (hm₂ : (t₂, o₂) ∈ news) (ho₂ : IsD prog w o₂ ks₂) (lo₂ : (t₂ == sysModules) = false) (hne : t ≠ t₂)
    (h : ∀ h' o', Fr h₀ L h' m → News h₀ L h' (g o') → IsD prog w o' (ks₂.foldl ins ks) → Q .none { s with heap := h' }) :
    wpAny (model prog w) A (call (.builtin "dict.update") [.ref t, .ref t₂]) Q E s := by
  have hm : (t, o) ∈ news := by obtain ⟨pre, post, rfl, _⟩ := U.split; simp
  have hD := ho.dictOf N hm
  refine call_meetsIn PySem.F.slot_dict_update hD.typeIs PySem.F.entry_dict_update (PySem.F.args_dict_update_2 _ _) (meets_dict_update (pk prog w) t t₂ hne lo₂) ⟨prs ks, prs ks₂, hD, ho₂.dictOf N hm₂, ?_, fun h' hmm _ hs => ?_⟩
  · rw [prs_length, prs_length, sizeLine_eq]; have := ho.small; have := ho₂.small; omega
  obtain ⟨o', ho', hd'⟩ := Heap.dictOf_iff.mp hmm
  obtain ⟨F', N'⟩ := up_of F N U hs ho'
  rw [prs_merged] at hd'
  exact h h' o' F' N' ⟨hd', sub_fold ho₂.2 ho.2⟩
theorem tLen {Q : Value → Shared → Prop} (N : News h₀ L s.heap news) (hm : (t, o) ∈ news) (ho : IsD prog w o ks) (lo : (t == sysModules) = false)
    (h : Q (.int ks.length (s.toks + 1)) { s with toks := s.toks + 1 + 1 }) : wpAny (model prog w) A (call (.builtin "len") [.ref t]) Q E s := by
  refine call_len_dict lo (ho.dictOf N hm) (by rw [prs_length]; have := ho.small; omega) ?_
  rw [prs_length]; exact h
theorem tTruthy {Q : Bool → Shared → Prop} (N : News h₀ L s.heap news) (hm : (t, o) ∈ news) (ho : IsD prog w o ks) (lo : (t == sysModules) = false)
    (h : Q (!ks.isEmpty) { s with toks := s.toks + 1 + 1 }) : wpAny (model prog w) A (truthy (.ref t)) Q E s := by
  refine wpAny_truthy_dict lo (ho.dictOf N hm) (by rw [prs_length]; have := ho.small; omega) ?_
  have e : (prs ks).isEmpty = ks.isEmpty := by cases ks <;> rfl
  rw [e]; exact h
theorem isL_of {vs : List Value} (hl : vs.length = (prs ks).length) (hs : ∀ k ∈ ks, k ∈ ALL) (hv : ∀ (j : Nat) (v : Value), vs[j]? = some v → ∃ k x, (prs ks)[j]? = some (k, x) ∧ (pk prog w).is k v = true) : IsL ks vs := by
  rw [prs_length] at hl
  refine ⟨hl, fun j k hk => ?_⟩
  have hlt : j < vs.length := by rw [hl]; exact (List.getElem?_eq_some_iff.mp hk).1
  obtain ⟨k', x, e, hi⟩ := hv j vs[j] (by simp [hlt])
  unfold prs at e
  rw [List.getElem?_map, hk] at e
  simp at e
  exact ⟨vs[j], by simp [hlt], e.1 ▸ hi, hs k (List.mem_of_getElem? hk)⟩
theorem tList {Q : Value → Shared → Prop} (hh : A.handled = none) (F : Fr h₀ L s.heap m) (N : News h₀ L s.heap news) (hm : (t, o) ∈ news) (ho : IsD prog w o ks) (lo : (t == sysModules) = false)
    (h : ∀ (B : Addr) c h' tk vs, Fr h₀ L h' m → News h₀ L h' ((B, listOf vs.toArray c) :: news) → (∀ q ∈ news, q.1 < B) → IsL ks vs → Q (.ref B) { s with heap := h', toks := tk }) :
    wpAny (model prog w) A (call (.type "list") [.ref t]) Q E s := by
  obtain ⟨ep, hat⟩ := (ho.dictOf N hm).dictAt
  exact kdl_N (kdl_dict (knd := pk prog w) (kvs := prs ks) (ep := ep) lo) hh F N hat ho.fits fun B c h' tk vs F' N' l1 hl hv => h B c h' tk vs F' N' l1 (isL_of hl ho.2 hv)
theorem tMethod {name : Str} {id : String} {pl : Sem Bool} {Q : Value × List Value → Shared → Prop} (N : News h₀ L s.heap news) (hm : (t, o) ∈ news) (ho : IsD prog w o ks) (slot : Slot "dict" name id) (hty : typeOf (.builtin id) = pure (.type "method_descriptor"))
    (h : Q (.builtin id, [.ref t]) s) : wpAny (model prog w) A (getMethod (.ref t) name pl) Q E s := by
  have hD := ho.dictOf N hm
  exact getMethod_builtin hD.typeIs PySem.F.plainAttrs_dict slot hty hD.mapOf.noDict h
theorem eqHits {kb : List PK} : ∀ ka : List PK, KeqHits A s (prs kb) (prs ka) (ka.all fun k => decide (k ∈ kb))
  | [] => .nil
  | k :: r => by
    show KeqHits A s (prs kb) ((k, .none) :: prs r) _
    rw [List.all_cons]
    by_cases hk : k ∈ kb
    · rw [decide_eq_true hk]
      exact .hit (y := .none) (by rw [prs_valueAt, if_pos hk]) (SeqAt.EqAt.same _) (eqHits r)
    · rw [decide_eq_false hk, Bool.false_and]
      exact .miss (by rw [prs_valueAt, if_neg hk])
theorem tEq {Q : Value → Shared → Prop} (N : News h₀ L s.heap news) (hm : (t, o) ∈ news) (ho : IsD prog w o ks) (lo : (t == sysModules) = false) (hm₂ : (t₂, o₂) ∈ news) (ho₂ : IsD prog w o₂ ks₂) (lo₂ : (t₂ == sysModules) = false) (hu : A.units < cLine)
    (h : Q (.bool (ks.length == ks₂.length && ks.all fun k => decide (k ∈ ks₂))) s) : wpAny (model prog w) A (compareOp .Eq (.ref t) (.ref t₂)) Q E s :=
  keq_eq lo lo₂ (ho.dictOf N hm) (ho₂.dictOf N hm₂) hu (fun _ => eqHits ks) (by rw [prs_length, prs_length]; exact h)
end

theorem fillJ : (hd.heap_1 = hd.heap_1) ∧ PySem.Challenge.rw_ji0013_01 = PySem.Challenge.rw_ji0013_01 := by
  w_top off; k_fill; exact ⟨rfl, rfl⟩
set_option maxRecDepth 100000
set_option maxHeartbeats 16000000
local macro_rules | `(tactic| walk_at "call ref") => `(tactic| k_extra "j.call ref")
local macro_rules | `(tactic| walk_at "compareOp NotIn") => `(tactic| k_extra "j.compareOp NotIn")
local macro_rules | `(tactic| walk_at "compareOp In") => `(tactic| k_extra "j.compareOp In")
local macro_rules | `(tactic| walk_at "call builtin:list.append") => `(tactic| k_extra "j.call builtin:list.append")
local macro_rules | `(tactic| walk_at "getMethod ref") => `(tactic| k_extra "j.getMethod ref")
local macro_rules | `(tactic| walk_at "call builtin:len") => `(tactic| k_extra "j.call builtin:len")
local macro_rules | `(tactic| walk_at "call type:range") => `(tactic| k_extra "j.call type:range")
local macro_rules | `(tactic| walk_at "binaryOp Add ref ref") => `(tactic| k_extra "j.binaryOp Add ref ref")
local macro_rules | `(tactic| walk_at "eval ListComp") => `(tactic| k_extra "j.eval ListComp")
local macro_rules | `(tactic| walk_at "delItem ref") => `(tactic| k_extra "j.delItem ref")
local macro_rules | `(tactic| walk_at "noteFrame ref") => `(tactic| k_extra "j.noteFrame ref")
local macro_rules | `(tactic| walk_at "LeaveT") => `(tactic| k_extra "j.LeaveT")
local macro_rules | `(tactic| walk_at "compareOp Eq ref ref") => `(tactic| k_extra "j.compareOp Eq ref ref")
local macro_rules | `(tactic| walk_at "compareOp NotEq ref ref") => `(tactic| k_extra "j.compareOp NotEq ref ref")
local macro_rules | `(tactic| walk_at "compareOp NotEq") => `(tactic| k_extra "j.compareOp NotEq")
local macro_rules | `(tactic| walk_at "execs cons") => `(tactic| k_extra "j.execs cons")
local macro_rules | `(tactic| walk_at "binaryOp BitXor") => `(tactic| k_extra "j.binaryOp BitXor")
local macro_rules | `(tactic| walk_at "binaryOp Add") => `(tactic| k_extra "j.binaryOp Add")
local macro_rules | `(tactic| walk_at "binaryOp Sub") => `(tactic| k_extra "j.binaryOp Sub")
local macro_rules | `(tactic| walk_at "binaryOp BitOr") => `(tactic| k_extra "j.binaryOp BitOr")
local macro_rules | `(tactic| walk_at "binaryOp BitAnd") => `(tactic| k_extra "j.binaryOp BitAnd")
local macro_rules | `(tactic| walk_at "call builtin:list.pop") => `(tactic| k_extra "j.call builtin:list.pop")
local macro_rules | `(tactic| walk_at "call builtin:list.remove") => `(tactic| k_extra "j.call builtin:list.remove")
local macro_rules | `(tactic| walk_at "setItem ref int") => `(tactic| k_extra "j.setItem ref int")
local macro_rules | `(tactic| walk_at "newList") => `(tactic| k_extra "j.newList")
local macro_rules | `(tactic| walk_at "compareOp Is ref ref") => `(tactic| k_extra "j.compareOp Is ref ref")
local macro_rules | `(tactic| walk_at "subscriptTail Name Slice ref ref") => `(tactic| k_extra "j.subscriptTail Name Slice ref ref")
local macro_rules | `(tactic| walk_at "LeaveF") => `(tactic| k_extra "j.LeaveF")
local macro_rules | `(tactic| walk_at "setItem ref") => `(tactic| k_extra "j.setItem ref")
local macro_rules | `(tactic| walk_at "call builtin:dict.pop") => `(tactic| k_extra "j.call builtin:dict.pop")
local macro_rules | `(tactic| walk_at "call builtin:dict.clear") => `(tactic| k_extra "j.call builtin:dict.clear")
local macro_rules | `(tactic| walk_at "call type:dict") => `(tactic| k_extra "j.call type:dict")
local macro_rules | `(tactic| walk_at "call builtin:dict.update") => `(tactic| k_extra "j.call builtin:dict.update")
local macro_rules | `(tactic| walk_at "call type:list") => `(tactic| k_extra "j.call type:list")
local macro_rules | `(tactic| walk_at "truthy ref") => `(tactic| k_extra "j.truthy ref")
local macro_rules | `(tactic| walk_at "exec Raise some none") => `(tactic| k_extra "j.exec Raise some none")
local macro_rules | `(tactic| walk_at "exec For Name Name cons nil") => `(tactic| k_extra "j.exec For Name Name cons nil")
local macro_rules | `(tactic| walk_at "subscriptTail") => `(tactic| k_extra "j.subscriptTail")
local macro_rules | `(tactic| walk_at "subscriptTail Name Name ref int") => `(tactic| k_extra "j.subscriptTail Name Name ref int")
local macro_rules | `(tactic| walk_at "subscriptTail Name BinOp ref int") => `(tactic| k_extra "j.subscriptTail Name BinOp ref int")
local macro_rules | `(tactic| walk_at "eval Name") => `(tactic| k_extra "j.eval Name")
local macro_rules | `(tactic| walk_at "storeName") => `(tactic| k_extra "j.storeName")
local macro_rules | `(tactic| k_room) => `(tactic| ((try simp only [depth_mark, depth_under_make, depth_under_kw, depth_in1, depth_deeper]); omega))
local macro_rules | `(tactic| k_units) => `(tactic| ((try simp only [units_deeper, units_in1, units_under_make]); omega))
local macro_rules | `(tactic| k_all) => `(tactic| assumption)
local macro_rules | `(tactic| k_mem) => `(tactic| assumption)
local macro_rules | `(tactic| k_all) => `(tactic| (refine' allLt_far ?ha ?hb; (case ha => assumption); (case hb => omega)))
local macro_rules | `(tactic| k_ne) => `(tactic| first | assumption | (apply Ne.symm; assumption))
theorem say1 : True := by
  k_with "j.enter" => ((refine' enterC ?C_z1 ?N_z1 ?l_z1 ?k6_z1 ?k7_z1 ?k9_z1 ?kB_z1 ?c2_z1 ?c3_z1 ?c4_z1 ?c5_z1 ?_; (case C_z1 => assumption); (case N_z1 => assumption); (case l_z1 => decide); (case k6_z1 => k_is); (case k7_z1 => k_is); (case k9_z1 => first | exact BindsTo.of_eq rfl | exact binds_K (Cx.kin (by assumption)) rfl (by k_is) rfl rfl rfl); (case c5_z1 => decide); (case kB_z1 => exact locs rfl); (case c2_z1 => exact rfl); (case c3_z1 => exact rfl); (case c4_z1 => exact rfl); intro g'w L'w h'w lo'w me'w mg'w mb'w XB'w TB'w FG'w F'w N'w B'w X'w T'w room'w units'w hh'w D'w KP'w; (try dsimp only); (try k_fold)))
  k_with "j.LeaveF" => ((refine' LeaveF.mk ?F_z2 ?N_z2 ?_; (case F_z2 => assumption); (case N_z2 => assumption); intro kF kN kK kf))
  k_with "j.compareOp NotIn" => ((k_here; (with_reducible show wpAny _ _ (compareOp CmpOp.NotIn _ (Value.ref _)) _ _ _); k_dflt (first
      | (refine' tNotIn_t ?N_z3 ?m_z3 ?o_z3 ?lo_z3 ?v_z3 ?k_z3 ?_; (case N_z3 => k_asm); (case m_z3 => k_mem); (case o_z3 => assumption); (case lo_z3 => assumption); (case v_z3 => assumption); (case k_z3 => assumption))
      | (refine' tNotIn_f ?N_z3 ?m_z3 ?o_z3 ?lo_z3 ?v_z3 ?k_z3 ?_; (case N_z3 => k_asm); (case m_z3 => k_mem); (case o_z3 => assumption); (case lo_z3 => assumption); (case v_z3 => assumption); (case k_z3 => assumption)))))
  k_with "j.compareOp In" => ((k_here; (with_reducible show wpAny _ _ (compareOp CmpOp.In _ (Value.ref _)) _ _ _); k_dflt (first
      | (refine' tIn_t ?N_z4 ?m_z4 ?o_z4 ?lo_z4 ?v_z4 ?k_z4 ?_; (case N_z4 => k_asm); (case m_z4 => k_mem); (case o_z4 => assumption); (case lo_z4 => assumption); (case v_z4 => assumption); (case k_z4 => assumption))
      | (refine' tIn_f ?N_z4 ?m_z4 ?o_z4 ?lo_z4 ?v_z4 ?k_z4 ?_; (case N_z4 => k_asm); (case m_z4 => k_mem); (case o_z4 => assumption); (case lo_z4 => assumption); (case v_z4 => assumption); (case k_z4 => assumption)))))
  k_with "j.setItem ref" => ((k_here; k_dflt (refine' tSet ?F_z5 ?N_z5 ?U_z5 ?o_z5 ?v_z5 ?_; (case F_z5 => k_asm); (case N_z5 => k_asm); (case U_z5 => k_updF); (case o_z5 => assumption); (case v_z5 => assumption)); intro h'w o'w F'w N'w D'w; (try dsimp only at N'w); (try k_sweep)))
  k_with "j.delItem ref" => ((k_here; k_dflt (refine' tDel ?F_z6 ?N_z6 ?U_z6 ?o_z6 ?v_z6 ?k_z6 ?_; (case F_z6 => k_asm); (case N_z6 => k_asm); (case U_z6 => k_updF); (case o_z6 => assumption); (case v_z6 => assumption); (case k_z6 => assumption)); intro h'w o'w F'w N'w D'w; (try dsimp only at N'w); (try k_sweep)))
  k_with "j.getMethod ref" => ((k_here; k_dflt (refine' tMethod ?N_z7 ?m_z7 ?o_z7 ?s_z7 ?t_z7 ?_; (case N_z7 => k_asm); (case m_z7 => k_mem); (case o_z7 => assumption); (case s_z7 => first | exact PySem.F.slot_dict_pop | exact PySem.F.slot_dict_clear | exact PySem.F.slot_dict_update); (case t_z7 => first | exact PySem.F.type_dict_pop | exact PySem.F.type_dict_clear | exact PySem.F.type_dict_update))))
  k_with "j.call builtin:dict.pop" => ((k_here; k_dflt (refine' tPop ?F_z8 ?N_z8 ?U_z8 ?o_z8 ?lo_z8 ?v_z8 ?_; (case F_z8 => k_asm); (case N_z8 => k_asm); (case U_z8 => k_updF); (case o_z8 => assumption); (case lo_z8 => assumption); (case v_z8 => assumption)); intro h'w o'w F'w N'w D'w; (try dsimp only at N'w); (try k_sweep)))
  k_with "j.call builtin:dict.clear" => ((k_here; k_dflt (refine' tClear ?F_z9 ?N_z9 ?U_z9 ?o_z9 ?_; (case F_z9 => k_asm); (case N_z9 => k_asm); (case U_z9 => k_updF); (case o_z9 => assumption)); intro h'w o'w F'w N'w D'w; (try dsimp only at N'w); (try k_sweep)))
  k_with "j.stop" => (first | with_reducible show wpAny _ _ (pyIter _) _ _ _ | with_reducible show TurnEnd _ _ _ _ _ _ _ _ _ _ _)
  k_with "j.steps" => (repeat' (first | ((fail_if_success (k_extra "j.stop")); first | (k_unfold; (try dsimp only)) | (k_end; wrow_close) | walk1 | (dsimp only; walk1) | (leave1; walk_say "STEP leave1"; try dsimp only)) | fail "no step"))
  k_with "j.cx" => ((refine' Cx.mk ?B_z12 ?F_z12 ?X_z12 ?T_z12 ?D_z12 ?A_z12 ?f_z12 ?k_z12 ?r_z12 ?u_z12 ?h_z12; (case B_z12 => assumption); (case F_z12 => assumption); (case X_z12 => assumption); (case T_z12 => exact topEx (by assumption)); (case D_z12 => assumption); (case A_z12 => exact Around.frames_deeper (Below.stack (by assumption))); (case f_z12 => rfl); (case k_z12 => rfl); (case r_z12 => k_room); (case u_z12 => k_units); (case h_z12 => assumption)))
  k_with "j.sub" => (first | exact List.forall_mem_nil _ | (refine' List.forall_mem_cons.mpr ⟨?_, ?_⟩; (focus k_mem); k_extra "j.sub"))
  k_with "j.turn" => ((refine' TurnEnd.fin ?F_z14 ?N_z14 ?m_z14 ?_; (case F_z14 => assumption); (case N_z14 => assumption); (case m_z14 => (intro y hy; try simp only [if_neg hy]))))
  k_with "j.ne" => (first | assumption | (apply Ne.symm; assumption) | exact ch3 (by assumption) (by assumption) (by assumption) (by assumption) | exact (ch3 (by assumption) (by assumption) (by assumption) (by assumption)).symm | exact ch2 (by assumption) (by assumption) (by assumption) | exact (ch2 (by assumption) (by assumption) (by assumption)).symm | exact (allLt_at (by assumption) (by assumption)) | exact (allLt_at (by assumption) (by assumption)).symm | omega)
  k_with "j.call type:dict" => ((k_here; (with_reducible show wpAny _ _ (call (Value.type "dict") []) _ _ _); k_dflt (refine' newDict0 ?F_z16 ?N_z16 ?L_z16 ?_; (case F_z16 => k_asm); (case N_z16 => k_asm); (case L_z16 => exact Top.nolimit (by assumption))); intro t'w h'w o'w F'w N'w l1 lo'w D'w; (try k_lt l1); (try k_sweep)))
  k_with "j.perm" => ((refine news_sub (by assumption) ?_; k_extra "j.sub"))
  k_with "j.fresh" => ((refine fresh_sub (by assumption) ?_; k_extra "j.sub"))
  k_with "j.call builtin:dict.update" => ((k_here; k_dflt (refine' tUpdate ?F_z19 ?N_z19 ?U_z19 ?o_z19 ?m_z19 ?p_z19 ?lo_z19 ?ne_z19 ?_; (case F_z19 => k_asm); (case N_z19 => k_asm); (case U_z19 => k_updF); (case o_z19 => assumption); (case m_z19 => k_mem); (case p_z19 => assumption); (case lo_z19 => assumption); (case ne_z19 => k_extra "j.ne")); intro h'w o'w F'w N'w D'w; (try dsimp only at N'w); (try k_sweep)))
  k_with "j.call type:list" => ((k_here; (with_reducible show wpAny _ _ (call (Value.type "list") [Value.ref _]) _ _ _); k_dflt (refine' tList ?H_z20 ?F_z20 ?N_z20 ?m_z20 ?o_z20 ?lo_z20 ?_; (case H_z20 => assumption); (case F_z20 => k_asm); (case N_z20 => k_asm); (case m_z20 => k_mem); (case o_z20 => assumption); (case lo_z20 => assumption)); intro B'w c'w h'w tk'w vs'w F'w N'w l1 I'w; (try k_lt l1); (try k_sweep)))
  k_with "j.call builtin:len" => ((k_here; (with_reducible show wpAny _ _ (call (Value.builtin "len") [Value.ref _]) _ _ _); k_dflt (refine' tLen ?N_z21 ?m_z21 ?o_z21 ?lo_z21 ?_; (case N_z21 => k_asm); (case m_z21 => k_mem); (case o_z21 => assumption); (case lo_z21 => assumption))))
  k_with "j.truthy ref" => ((k_here; k_dflt (refine' tTruthy ?N_z22 ?m_z22 ?o_z22 ?lo_z22 ?_; (case N_z22 => k_asm); (case m_z22 => k_mem); (case o_z22 => assumption); (case lo_z22 => assumption))))
  k_with "j.compareOp Eq ref ref" => ((k_here; (with_reducible show wpAny _ _ (compareOp CmpOp.Eq (Value.ref _) (Value.ref _)) _ _ _); k_dflt (refine' tEq ?N_z23 ?m_z23 ?o_z23 ?lo_z23 ?m2_z23 ?o2_z23 ?lo2_z23 ?u_z23 ?_; (case N_z23 => k_asm); (case m_z23 => k_mem); (case o_z23 => assumption); (case lo_z23 => assumption); (case m2_z23 => k_mem); (case o2_z23 => assumption); (case lo2_z23 => assumption); (case u_z23 => k_units))))
  k_with "j.make" => ((refine' fin_make (by assumption) ?N_z24 ?F_z24 ?K_z24 ?f_z24 ?lo_z24 ?_ ?xd_z24 ?xt_z24 ?lt_z24; (case N_z24 => assumption); (case F_z24 => assumption); (case K_z24 => assumption); (case f_z24 => assumption); (case lo_z24 => assumption); (case xd_z24 => omega); (case xt_z24 => omega); (case lt_z24 => first | assumption | exact allLt_of_and (by assumption))))
  k_with "j.upd" => (first | k_updF | fail "j.upd")
  k_with "j.tail" => (first | assumption | (refine news_sub (by assumption) ?_; intro p hp; repeat (first | exact hp | apply List.mem_cons_of_mem)))
  k_with "j.read" => ((refine' fin_read (by assumption) ?N_z27 ?F_z27 ?K_z27 ?_; (case N_z27 => k_extra "j.tail"); (case F_z27 => assumption); (case K_z27 => assumption)))
  k_with "j.subscr" => ((k_here; (with_reducible show wpAny _ _ (subscriptTail _ _ (Value.ref _) (Value.int _ _)) _ _ _); with_unfolding_all (refine' tItem ?N_z28 ?m_z28 ?v_z28 ?z_z28 ?k_z28 ?f_z28 ?_; (case N_z28 => k_asm); (case m_z28 => k_mem); (case v_z28 => assumption); (case z_z28 => first | assumption | omega); (case k_z28 => assumption); (case f_z28 => first | assumption | omega)); intro v'w V'w))
  k_with "j.subscr" => ((k_here; (with_reducible show wpAny _ _ (subscriptTail _ _ (Value.ref _) (Value.int _ _)) _ _ _); with_unfolding_all (refine' tItemNeg ?N_z29 ?m_z29 ?v_z29 ?z_z29 ?o_z29 ?k_z29 ?f_z29 ?_; (case N_z29 => k_asm); (case m_z29 => k_mem); (case v_z29 => assumption); (case k_z29 => assumption); (case z_z29 => first | assumption | omega); (case o_z29 => first | assumption | omega); (case f_z29 => first | assumption | omega)); intro v'w V'w))
  k_with "j.exec Raise some none" => ((k_here; (with_reducible show wpAny _ _ (exec (Stmt.Raise (some (Expr.Call (Expr.Name ("ValueError" : Str) _) (_ :: _) [] _)) none _) _) _ _ _); (with_unfolding_all (refine' Raise_madeB PySem.F.excCall_ValueError PySem.F.excRaise_ValueError ?hh_z30 ?_; (case hh_z30 => assumption))); k_dflt (refine' name_B ?F_z30 ?X_z30 ?T_z30 ?e_z30 PyProof.Rows.Boot.«ValueError» ?n_z30 ⟨rfl, ?_⟩; (case F_z30 => k_asm); (case X_z30 => k_asm); (case T_z30 => k_asm); (case e_z30 => k_is); (case n_z30 => decide))))
  k_with "j.exec Raise some none" => ((k_here; (with_reducible show wpAny _ _ (exec (Stmt.Raise (some (Expr.Call (Expr.Name ("IndexError" : Str) _) (_ :: _) [] _)) none _) _) _ _ _); (with_unfolding_all (refine' Raise_madeB PySem.F.excCall_IndexError PySem.F.excRaise_IndexError ?hh_z31 ?_; (case hh_z31 => assumption))); k_dflt (refine' name_B ?F_z31 ?X_z31 ?T_z31 ?e_z31 PyProof.Rows.Boot.«IndexError» ?n_z31 ⟨rfl, ?_⟩; (case F_z31 => k_asm); (case X_z31 => k_asm); (case T_z31 => k_asm); (case e_z31 => k_is); (case n_z31 => decide))))
  k_with "j.exec Raise some none" => ((k_here; (with_reducible show wpAny _ _ (exec (Stmt.Raise (some (Expr.Name ("KeyError" : Str) _)) none _) _) _ _ _); (with_unfolding_all (refine' Raise_classB ?hh_z32 excClass_KeyError ?hs_z32 ?hx_z32 ?_; (case hh_z32 => assumption); (case hs_z32 => (rw [isSubtype_type]; kernel_rfl)))); (case hx_z32 => k_dflt (refine' name_B ?F_z32 ?X_z32 ?T_z32 ?e_z32 PyProof.Rows.Boot.«KeyError» ?n_z32 ⟨rfl, rfl⟩; (case F_z32 => k_asm); (case X_z32 => k_asm); (case T_z32 => k_asm); (case e_z32 => k_is); (case n_z32 => decide))); intro h'w e'w x'w))
  k_with "j.raise" => (first
      | (refine' fin_raiseS (by assumption) ?F_z33 ?R_z33 ?U_z33 ?s_z33; (case R_z33 => assumption); (case F_z33 => assumption); (case U_z33 => assumption); (case s_z33 => (intro p hp; repeat (first | exact hp | apply List.mem_cons_of_mem))))
      | (refine' fin_raiseN (by assumption) ?F_z33 ?R_z33 ?U_z33 ?s_z33; (case R_z33 => assumption); (case F_z33 => assumption); (case U_z33 => assumption); (case s_z33 => (intro p hp; repeat (first | exact hp | apply List.mem_cons_of_mem))))
      | fail "j.raise")
  k_with "j.lt" => (first | assumption | exact allLt_of_and (by assumption) | exact allLt_of (by assumption))
  k_with "j.exec For Name Name cons nil" => ((k_here; (rename Fr _ _ _ _ => lF'w); (with_unfolding_all refine' For_invVF lF'w ?k1_z35 ?k2_z35 ?_; (case k1_z35 => exact rfl); (case k2_z35 => exact rfl); k_whole)))
  k_with "j.sub2" => (first | exact List.forall_mem_nil _ | (intro p hp; (repeat (first | exact hp | apply List.mem_cons_of_mem)); done) | (refine' List.forall_mem_cons.mpr ⟨?_, ?_⟩; (focus k_mem); k_extra "j.sub2"))
  k_with "j.nal" => (first | assumption | exact allNA_lt (by k_extra "j.lt") | exact (And.right (by assumption)) | exact (And.right (And.right (by assumption))) | exact (And.right (And.right (And.right (by assumption)))) | exact (And.right (And.right (And.right (And.right (by assumption))))))
  k_with "j.makeL" => ((refine' fin_makeL (by assumption) ?N_z38 ?F_z38 ?K_z38 ?f_z38 ?i_z38 ?_ ?l_z38; (case N_z38 => (refine news_sub (by assumption) ?_; k_extra "j.sub2")); (case F_z38 => assumption); (case K_z38 => assumption); (case f_z38 => (refine fresh_sub (by assumption) ?_; k_extra "j.sub2")); (case i_z38 => assumption); (case l_z38 => k_extra "j.nal")))
  k_with "j.subscriptTail" => (k_extra "j.subscr")
  k_with "j.subscriptTail Name Name ref int" => (k_extra "j.subscr")
  k_with "j.subscriptTail Name BinOp ref int" => (k_extra "j.subscr")
  k_with "j.upto" => (repeat' (first | ((fail_if_success (first | (k_extra "j.stop") | with_reducible show wpAny _ _ (execs (Stmt.If _ _ _ _ :: _) _) _ _ _)); first | (k_unfold; (try dsimp only)) | (k_end; wrow_close) | walk1 | (dsimp only; walk1) | (leave1; walk_say "STEP leave1"; try dsimp only)) | fail "no step"))
  k_with "j.eval Name" => ((k_here; (with_reducible show wpAny _ _ (eval _ (envOf _ _ _ _ _)) _ _ _); k_dflt (refine' nmL ?F_z43 ?v_z43 ?_ ?k_z43; (case k_z43 => exact Eq.refl true); (case F_z43 => k_asm); (case v_z43 => exact @Eq.refl (Option Value) (some _)); k_whole)))
  k_with "j.storeName" => ((k_here; (with_reducible show wpAny _ _ (storeName (envOf _ _ _ _ _) _ _) _ _ _); k_dflt (refine' stL ?F_z44 ?N_z44 ?_ ?k_z44; (case k_z44 => exact Eq.refl true); (case F_z44 => k_asm); (case N_z44 => k_asm); k_whole); intro h'w tk'w F'w N'w; (try k_sweep)))
  trivial
theorem allLt_ne {d : Addr} : ∀ {l : List (Addr × Obj)}, AllLt d l → ∀ p ∈ l, p.1 ≠ d
  | [], _, _, hp => nomatch hp
  | q :: r, ⟨h1, h2⟩, p, hp => by
    rcases List.mem_cons.mp hp with rfl | hp
    · exact Nat.ne_of_lt h1
    · exact allLt_ne h2 p hp
/-- all that a call needs to know of where it stands -/
structure Cx (w : World) (l : Nat) (A₀ A : Around) (base : Heap) (outer : List Env) (h₀ : Heap) (L : Addr) (m : Str → Option Value) (env : Env) (h : Heap) : Prop where
  B : Below A₀ base outer h₀
  F : Fr h₀ L h m
  X : (hd.heap_1 w.params).In base
  T : ∃ loose mean mg mb, Top hd.view_39 loose mean mg mb base
  D : KtsDicts (outer.filterMap (·.frame)) h₀
  hA : A.frames = some (env :: outer)
  hf : env.frame = some L
  hke : env.scope.kind = .function
  room : A.depth + l < recursionLimit
  units : A.units + 10 * l < cLine
  hh : A.handled = none
def Keeps (h h' : Heap) (as : List Addr) : Prop := ∀ b o, h.get? b = some o → b ∉ as → h'.get? b = some o
/-- a call of f reads and turns the foot alone, and comes back -/
def Ctr (prog : Program) (w : World) (l : Nat) (f : Addr) (args : List Value) (foot : List (Addr × Obj)) (post : Value → List (Addr × Obj) → Prop) : Prop :=
  ∀ (A₀ A : Around) (s : Shared) (base h₀ : Heap) (outer : List Env) (L : Addr) (m : Str → Option Value) (env : Env) (R : Result → Shared → Prop),
    Cx w l A₀ A base outer h₀ L m env s.heap → News h₀ L s.heap foot →
    (∀ h' tk' v foot', post v foot' → Fr h₀ L h' m → News h₀ L h' foot' → Keeps s.heap h' (foot.map (·.1)) → (∀ p ∈ foot', p.1 ∉ foot.map (·.1) → s.heap.get? p.1 = none) → R (.ok (.ret v)) { s with heap := h', toks := tk' }) →
    codeAny (model prog w) A (.call (.ref f) ⟨args, []⟩) R s
section
variable {prog : Program} {w : World} {l : Nat} {A₀ A : Around} {s : Shared} {base h₀ : Heap} {outer : List Env} {L : Addr} {m : Str → Option Value} {env : Env} {news foot : List (Addr × Obj)}
  {R : Result → Shared → Prop} {f : Addr} {args : List Value} {post : Value → List (Addr × Obj) → Prop}
theorem Cx.kin (C : Cx w l A₀ A base outer h₀ L m env s.heap) : (hd.heap_1 w.params).In s.heap := (C.X.keeps C.B.stays).keeps C.F.keep
theorem news_sub {h : Heap} {b : List (Addr × Obj)} (N : News h₀ L h news) (hs : ∀ p ∈ b, p ∈ news) : News h₀ L h b := fun p hp => N p (hs p hp)
theorem fresh_sub {hs : Heap} {a b : List (Addr × Obj)} {as : List Addr} (h : ∀ p ∈ a, p.1 ∉ as → hs.get? p.1 = none) (hb : ∀ p ∈ b, p ∈ a) : ∀ p ∈ b, p.1 ∉ as → hs.get? p.1 = none := fun p hp => h p (hb p hp)
theorem news_fun {h : Heap} (N : News h₀ L h news) {p q : Addr × Obj} (hp : p ∈ news) (hq : q ∈ news) (e : p.1 = q.1) : p = q := by
  have a := (N p hp).1; have b := (N q hq).1
  rw [e, b] at a
  exact Prod.ext e (Option.some.inj a).symm
theorem Ctr.use (c : Ctr prog w l f args foot post) (C : Cx w l A₀ A base outer h₀ L m env s.heap) (N : News h₀ L s.heap news) (hsub : ∀ p ∈ foot, p ∈ news)
    (h : ∀ h' tk' v foot', post v foot' → Fr h₀ L h' m → (∀ news', (∀ p ∈ news', p ∈ foot' ∨ (p ∈ news ∧ p.1 ∉ foot.map (·.1))) → News h₀ L h' news') → Keeps s.heap h' (foot.map (·.1)) → (∀ p ∈ foot', p.1 ∉ foot.map (·.1) → s.heap.get? p.1 = none) → R (.ok (.ret v)) { s with heap := h', toks := tk' }) :
    codeAny (model prog w) A (.call (.ref f) ⟨args, []⟩) R s :=
  c A₀ A s base h₀ outer L m env R C (fun p hp => N p (hsub p hp)) fun h' tk' v foot' hp F' N' K fr =>
    h h' tk' v foot' hp F' (fun _ hn p hq => (hn p hq).elim (fun q => N' p q) fun q => ⟨K _ _ (N p q.1).1 q.2, (N p q.1).2⟩) K fr
/-- the foot: one object that is turned, the others read -/
theorem Ctr.turn {t : Addr} {o : Obj} {ro : List (Addr × Obj)} {pst : Value → Obj → Prop} (c : Ctr prog w l f args ((t, o) :: ro) (fun v ft => ∃ o', pst v o' ∧ ft = (t, o') :: ro)) {g : Obj → List (Addr × Obj)}
    (C : Cx w l A₀ A base outer h₀ L m env s.heap) (N : News h₀ L s.heap news) (hsub : ∀ p ∈ ro, p ∈ news) (U : UpdF t o news g)
    (h : ∀ h' tk' v o', pst v o' → Fr h₀ L h' m → News h₀ L h' (g o') → R (.ok (.ret v)) { s with heap := h', toks := tk' }) :
    codeAny (model prog w) A (.call (.ref f) ⟨args, []⟩) R s := by
  obtain ⟨pre, pos, e, hg, a, b⟩ := U.split
  have hm : (t, o) ∈ news := by rw [e]; simp
  refine c.use C N (fun p hp => by rcases List.mem_cons.mp hp with rfl | q; exact hm; exact hsub p q) fun h' tk' v ft hp F' nw K _ => ?_
  obtain ⟨o', hp, rfl⟩ := hp
  refine h h' tk' v o' hp F' (nw _ fun p hq => ?_)
  rw [hg] at hq
  have old : p ∈ news → p.1 ≠ t → p ∈ (t, o') :: ro ∨ (p ∈ news ∧ p.1 ∉ ((t, o) :: ro).map (·.1)) := fun hpn hne => by
    by_cases hr : p.1 ∈ ((t, o) :: ro).map (·.1)
    · obtain ⟨q, hq', eq⟩ := List.mem_map.mp hr
      rcases List.mem_cons.mp hq' with rfl | hq'
      · exact absurd eq.symm hne
      · have := news_fun N (hsub q hq') hpn eq
        exact .inl (.tail _ (this ▸ hq'))
    · exact .inr ⟨hpn, hr⟩
  rcases List.mem_append.mp hq with q | q
  · exact old (by rw [e]; simp [q]) (a p q)
  · rcases List.mem_cons.mp q with rfl | q
    · exact .inl (.head _)
    · exact old (by rw [e]; simp [q]) (b p q)
/-- the foot is read alone -/
theorem Ctr.read {pst : Value → Prop} (c : Ctr prog w l f args foot (fun v ft => pst v ∧ ft = foot)) (C : Cx w l A₀ A base outer h₀ L m env s.heap) (N : News h₀ L s.heap news) (hsub : ∀ p ∈ foot, p ∈ news)
    (h : ∀ h' tk' v, pst v → Fr h₀ L h' m → News h₀ L h' news → R (.ok (.ret v)) { s with heap := h', toks := tk' }) :
    codeAny (model prog w) A (.call (.ref f) ⟨args, []⟩) R s := by
  refine c.use C N hsub fun h' tk' v ft hp F' nw K _ => ?_
  obtain ⟨hp, rfl⟩ := hp
  refine h h' tk' v hp F' (nw _ fun p hq => ?_)
  by_cases hr : p.1 ∈ ft.map (·.1)
  · obtain ⟨q, hq', eq⟩ := List.mem_map.mp hr
    exact .inl (news_fun N (hsub q hq') hq eq ▸ hq')
  · exact .inr ⟨hq, hr⟩
end
def AllNe (d : Nat) : List (Addr × Obj) → Prop
  | [] => True
  | p :: r => @Ne Nat p.1 d ∧ AllNe d r
theorem allNe_of {d : Nat} : ∀ {l : List (Addr × Obj)}, (∀ p ∈ l, p.1 ≠ d) → AllNe d l
  | [], _ => trivial
  | p :: _, h => ⟨h p (.head _), allNe_of fun q hq => h q (.tail _ hq)⟩
theorem allNe_ne {d : Nat} : ∀ {l : List (Addr × Obj)}, AllNe d l → ∀ p ∈ l, p.1 ≠ d
  | [], _, _, hp => nomatch hp
  | q :: r, ⟨h1, h2⟩, p, hp => by
    rcases List.mem_cons.mp hp with rfl | hp
    · exact h1
    · exact allNe_ne h2 p hp
theorem allLt_low {d e : Nat} : ∀ {l : List (Addr × Obj)}, AllLt d l → d ≤ e → AllLt e l
  | [], _, _ => trivial
  | _ :: _, ⟨h1, h2⟩, h => ⟨Nat.lt_of_lt_of_le h1 h, allLt_low h2 h⟩
theorem allLt_far {d e : Nat} {l : List (Addr × Obj)} (h : AllLt d l) (hd : d ≤ e) : ∀ p ∈ l, p.1 ≠ e := allLt_ne (allLt_low h hd)
theorem ch3 {d x t y : Nat} {o : Obj} {l : List (Addr × Obj)} (xt : x < t) (xd : d < x) (h : AllLt d l) (hm : (y, o) ∈ l) : y ≠ t := allLt_far h (by omega) _ hm
theorem ch2 {d x y : Nat} {o : Obj} {l : List (Addr × Obj)} (xd : d < x) (h : AllLt d l) (hm : (y, o) ∈ l) : y ≠ x := allLt_far h (by omega) _ hm
theorem allLt_at {d y : Nat} {o : Obj} {l : List (Addr × Obj)} (h : AllLt d l) (hm : (y, o) ∈ l) : y ≠ d := allLt_ne h _ hm
theorem allNe_at {d y : Nat} {o : Obj} {l : List (Addr × Obj)} (h : AllNe d l) (hm : (y, o) ∈ l) : y ≠ d := allNe_ne h _ hm
/-- the three objects of a Set -/
abbrev S3 (x dx t : Addr) (n : Nat) (hx : Int) (tk : Tok) (o : Obj) (r : List (Addr × Obj)) : List (Addr × Obj) := (x, instObj 270 dx) :: (dx, dictOf [⟨hx, .str "table" tk, .ref t⟩] n) :: (t, o) :: r
structure NewS (prog : Program) (w : World) (x dx t : Nat) (o : Obj) (ks : List PK) : Prop where
  lo : (t == sysModules) = false
  dict : IsD prog w o ks
  xd : dx < x
  xt : x < t
section
variable {prog : Program} {w : World} {l : Nat} {A₀ A : Around} {s : Shared} {base h₀ : Heap} {outer : List Env} {L : Addr} {m : Str → Option Value} {env : Env} {news foot : List (Addr × Obj)}
  {R : Result → Shared → Prop} {f : Addr} {args : List Value} {ks : List PK}
/-- a call that makes a Set, and turns nothing -/
def Makes (prog : Program) (w : World) (ks : List PK) (news : List (Addr × Obj)) (v : Value) (ft : List (Addr × Obj)) : Prop :=
  ∃ x dx t n hx tk o, v = .ref x ∧ NewS prog w x dx t o ks ∧ AllLt dx news ∧ ft = S3 x dx t n hx tk o news
theorem Ctr.make (c : Ctr prog w l f args news (Makes prog w ks news)) (C : Cx w l A₀ A base outer h₀ L m env s.heap) (N : News h₀ L s.heap news)
    (h : ∀ h' tk' (x dx t : Nat) n hx tk o, NewS prog w x dx t o ks → AllLt dx news → Fr h₀ L h' m → News h₀ L h' (S3 x dx t n hx tk o news) → R (.ok (.ret (.ref x))) { s with heap := h', toks := tk' }) :
    codeAny (model prog w) A (.call (.ref f) ⟨args, []⟩) R s := by
  refine c A₀ A s base h₀ outer L m env R C N fun h' tk' v ft hp F' N' _ _ => ?_
  obtain ⟨x, dx, t, n, hx, tk, o, rfl, ns, lt, rfl⟩ := hp
  exact h h' tk' x dx t n hx tk o ns lt F' N'
theorem notIn_of {d : Addr} (h : AllNe d news) : d ∉ news.map (·.1) := fun hm => by
  obtain ⟨p, hp, e⟩ := List.mem_map.mp hm
  exact allNe_ne h p hp e
theorem allNe_lt {d : Addr} {l : List (Addr × Obj)} (h : AllLt d l) : AllNe d l := allNe_of (allLt_ne h)
end
section
variable {prog : Program} {w : World} {A₀ A : Around} {s : Shared} {base h₀ : Heap} {outer : List Env} {L : Addr} {m : Str → Option Value} {env : Env} {news : List (Addr × Obj)} {l : Nat}
  {R : Result → Shared → Prop} {name qual : Str} {params : Arguments} {body : List Stmt} {scope : Scope} {dV kV doc pm cdv ct oc : Value} {an od : Option Addr} {osl : Array (Option Value)} {f : Addr} {args : Args} {binds : List (Str × Value)}
theorem enterC (C : Cx w l A₀ A base outer h₀ L m env s.heap) (N : News h₀ L s.heap news) (hl : 0 < l)
    (ho : (hd.heap_1 w.params).lookup f = some ⟨oc, od, .func (fnOf name qual params body scope dV kV doc pm an cdv ct), osl⟩) (hcd : codeIn (hd.heap_1 w.params) cdv qual = true)
    (hbind : BindsTo s (fnOf name qual params body scope dV kV doc pm an cdv ct) args binds) (hloc : ∀ y ∈ binds, scope.names.lookup y.1 = some .local)
    (hco : scope.isCoroutine = false) (hgen : scope.isGenerator = false) (hk : scope.kind = .function) (hcell : ∀ x ∈ scope.names, x.2 ≠ .cell)
    (h : ∀ g L' h₁ loose mean mg mb, (hd.heap_1 w.params).In base → Top hd.view_39 loose mean mg mb base → Fr h₀ L g m → Fr g L' h₁ (fun y => binds.reverse.lookup y) → News g L' h₁ news → Below A base (env :: outer) g → (hd.heap_1 w.params).In g → Top hd.view_39 loose mean mg mb g →
      A.depth + l < recursionLimit → A.units + 10 * l < cLine → A.handled = none → KtsDicts ((env :: outer).filterMap (·.frame)) g → Keeps s.heap g (news.map (·.1)) →
      wpAny (model prog w) (A.deeper (envOf qual scope L' f cdv)) (execs body (envOf qual scope L' f cdv))
        (fun fl s' => LeaveF h₀ L m s.heap (news.map (·.1)) g R (match fl with | .ret v => v | _ => .none) s')
        (fun e s' => wpAny (model prog w) (A.deeper (envOf qual scope L' f cdv)) (leaving (envOf qual scope L' f cdv) e) (fun _ s'' => R (.error e) s'') (fun e' s'' => R (.error e') s'') s')
        { s with heap := h₁, toks := s.toks + binds.length }) : codeAny (model prog w) A (.call (.ref f) args) R s := by
  obtain ⟨B, F, X, ⟨loose, mean, mg, mb, T⟩, D, hA, hf, hke, room, units, hh⟩ := C
  refine enterF B F (X.keeps B.stays) N (T.keeps B.stays) hA hf hke ho hcd (by omega) hbind hloc (fun g L' h₁ a b c d e f kp st => h g L' h₁ loose mean mg mb X T a b c d e f room units hh ?_ kp) hco hgen hk hcell
  intro b' hb
  obtain ⟨env', he, hf'⟩ := List.mem_filterMap.mp hb
  rcases List.mem_cons.mp he with rfl | he
  · obtain ⟨o, es, ep, ho, hd, _⟩ := a.ns
    rw [hf] at hf'; cases hf'
    exact ⟨o, es, ep, ho, hd⟩
  · obtain ⟨o, es, n, ho, hd⟩ := D b' (List.mem_filterMap.mpr ⟨env', he, hf'⟩)
    exact ⟨o, es, n, a.keep _ _ ho, hd⟩
end
section
variable {prog : Program} {w : World} {A : Around} {E : Value → Shared → Prop} {s : Shared} {h₀ : Heap} {L : Addr} {m : Str → Option Value} {news : List (Addr × Obj)}
theorem typeCall_dict_0 : checkTypeCall "dict" ⟨[], []⟩ = pure () := by kernel_rfl
theorem newCall_dict_0 : checkBuiltinCall "dict.__new__" ⟨[.type "dict"], []⟩ = pure () := by kernel_rfl
theorem code_dict_new0 {Q₁ : Value → Shared → Prop} (h : Q₁ (.ref s.heap.objs.size) { s with heap := s.heap.push { cls := .type "dict", data := .dict #[] } }) :
    codeAny (model prog w) A (.call (.builtin "dict.__new__") ⟨[.type "dict"], []⟩) (wants Q₁ E) s := by
  refine codeAny_call_builtin F.kt_plain_dict_new F.kt_entry_dict_new (wpAny_of_eq newCall_dict_0 ?_)
  have hsub := F.kt_sub_dict
  have hmro := F.kt_mro_dict
  obtain ⟨hp, g, d, tk, os⟩ := s
  unfold Builtin.«dict.__new__»
  wp_walk
  exact h
theorem newDict0 {Q : Value → Shared → Prop} (F : Fr h₀ L s.heap m) (N : News h₀ L s.heap news) (hbig : h₀.NoLimit)
    (h : ∀ t h' o, Fr h₀ L h' m → News h₀ L h' ((t, o) :: news) → (∀ p ∈ news, p.1 < t) → (t == sysModules) = false → IsD prog w o [] → Q (.ref t) { s with heap := h' }) :
    wpAny (model prog w) A (call (.type "dict") []) Q E s := by
  refine callType_codes (Q₁ := fun obj s₁ => obj = .ref s.heap.objs.size ∧ s₁ = { s with heap := s.heap.push { cls := .type "dict", data := .dict #[] } }) PySem.F.kt_called_dict typeCall_dict_0 PySem.F.entry_dict_init (code_dict_new0 ⟨rfl, rfl⟩) ?_
  rintro obj s₁ ⟨rfl, rfl⟩
  have hnew : (s.heap.push { cls := .type "dict", data := .dict #[] }).DictOf (pk prog w) s.heap.objs.size [] := Heap.DictOf.new s.heap
  refine ⟨hnew.typeIs, PySem.F.args_dict_init_1 _, ?_⟩
  unfold Builtin.«dict.__init__»
  refine wpAny_bind ?_
  unfold Builtin.Dict.selfAndRest
  refine wpAny_bind (wpAny_notOrdered_dict hnew.typeIs ?_)
  show wpAny _ _ (pure (s.heap.objs.size, [])) _ _ _
  refine wpAny_pure ?_
  obtain ⟨o', ho', hd'⟩ := Heap.dictOf_iff.mp hnew
  have fin := h s.heap.objs.size _ o' (F.push _) (fun p hp => by
    rcases List.mem_cons.mp hp with rfl | q
    · exact ⟨ho', Nat.ne_of_gt F.ns.lt, none_at_size F⟩
    · exact ⟨Heap.get?_push_of_some _ (N p q).1, (N p q).2⟩) (fun p hp => Heap.lt_size (N p hp).1) (F.notModules (modules_low hbig)) ⟨hd', fun _ q => nomatch q⟩
  show wpAny _ _ (Builtin.Dict.addKeywords s.heap.objs.size [] >>= _) _ _ _
  exact wpAny_bind (wpAny_pure (wpAny_pure ⟨rfl, fin⟩))
end
section
variable {prog : Program} {w : World} {l : Nat} {A₀ A : Around} {s : Shared} {base h₀ : Heap} {outer : List Env} {L : Addr} {m : Str → Option Value} {env : Env} {news : List (Addr × Obj)}
theorem under_frames (A : Around) (args : Args) : (A.under (.builtin "type.__call__" args)).frames = A.frames := rfl
theorem Cx.under (C : Cx w (l + 2) A₀ A base outer h₀ L m env s.heap) {vals : List Value} : Cx w (l + 1) A₀ (A.under (.builtin "type.__call__" ⟨.ref 270 :: vals, []⟩)) base outer h₀ L m env s.heap := by
  obtain ⟨B, F, X, T, D, hA, hf, hke, room, units, hh⟩ := C
  refine ⟨B, F, X, T, D, hA, hf, hke, ?_, ?_, hh⟩
  · rw [depth_under_make]; omega
  · rw [units_under_make]; omega
end
section
variable {prog : Program} {w : World} {s : Shared} {hs h₀ h' : Heap} {L : Addr} {m : Str → Option Value} {ro : List (Addr × Obj)} {as : List Addr} {R : Result → Shared → Prop} {ks : List PK}
theorem fin_make {tk' : Nat} {x dx t : Nat} {n : Nat} {hx : Int} {tk : Tok} {o : Obj} (h : ∀ h' tk' v foot', Makes prog w ks ro v foot' → Fr h₀ L h' m → News h₀ L h' foot' → Keeps hs h' as → (∀ p ∈ foot', p.1 ∉ as → hs.get? p.1 = none) → R (.ok (.ret v)) { s with heap := h', toks := tk' })
    (N : News h₀ L h' (S3 x dx t n hx tk o ro)) (F : Fr h₀ L h' m) (K : Keeps hs h' as) (f : ∀ p ∈ S3 x dx t n hx tk o ro, p.1 ∉ as → hs.get? p.1 = none) (lo : (t == sysModules) = false) (D : IsD prog w o ks) (xd : dx < x) (xt : x < t)
    (lt : AllLt dx ro) : R (.ok (.ret (.ref x))) { s with heap := h', toks := tk' } :=
  h h' tk' _ _ ⟨x, dx, t, n, hx, tk, o, rfl, ⟨lo, D, xd, xt⟩, lt, rfl⟩ F N K f
theorem ins_new {ks : List PK} {k : PK} (h : k ∉ ks) : ins ks k = ks ++ [k] := by unfold ins; rw [if_neg h]
theorem ins_old {ks : List PK} {k : PK} (h : k ∈ ks) : ins ks k = ks := by unfold ins; rw [if_pos h]
theorem fold_ins_app : ∀ {ks acc : List PK}, ks.Nodup → (∀ k ∈ ks, k ∉ acc) → ks.foldl ins acc = acc ++ ks
  | [], acc, _, _ => by simp
  | k :: r, acc, hn, hd => by
    rw [List.nodup_cons] at hn
    rw [List.foldl_cons, ins_new (hd k (.head _)), fold_ins_app hn.2 fun y hy => by
      rw [List.mem_append, not_or]
      exact ⟨hd y (.tail _ hy), fun q => hn.1 (by rw [← List.mem_singleton.mp q]; exact hy)⟩]
    simp
theorem fold_ins_nil {ks : List PK} (h : ks.Nodup) : ks.foldl ins [] = ks := by
  rw [fold_ins_app h fun _ _ => List.not_mem_nil]; rfl
end
section
variable {s : Shared} {h₀ h' : Heap} {L : Addr} {m : Str → Option Value} {ro news : List (Addr × Obj)} {R : Result → Shared → Prop}
theorem fin_read {hs : Heap} {tk' : Nat} {v : Value} {pst : Value → Prop} (h : ∀ h' tk' v foot', (pst v ∧ foot' = ro) → Fr h₀ L h' m → News h₀ L h' foot' → Keeps hs h' (ro.map (·.1)) → (∀ p ∈ foot', p.1 ∉ ro.map (·.1) → hs.get? p.1 = none) → R (.ok (.ret v)) { s with heap := h', toks := tk' })
    (N : News h₀ L h' ro) (F : Fr h₀ L h' m) (K : Keeps hs h' (ro.map (·.1))) (hp : pst v) : R (.ok (.ret v)) { s with heap := h', toks := tk' } :=
  h h' tk' v ro ⟨hp, rfl⟩ F N K fun _ hp hn => absurd (List.mem_map_of_mem hp) hn
end
section
variable {prog : Program} {w : World} {A : Around} {E : Value → Shared → Prop} {s : Shared} {h₀ : Heap} {L : Addr} {m : Str → Option Value} {news : List (Addr × Obj)}
theorem tItem {value slice : PySem.Expr} {l : Nat} {vs : List Value} {ks : List PK} {c : Nat} {i : Int} {u : Tok} {k : PK} {Q : Value → Shared → Prop} (N : News h₀ L s.heap news) (hm : (l, listOf vs.toArray c) ∈ news) (hv : IsL ks vs) (h0 : 0 ≤ i) (hk : ks[i.toNat]? = some k) (hfit : i < 2 ^ 63)
    (h : ∀ v, IsV k v → Q v s) (hs : subscripted slice false (.ref l) (.int i u) = operate [.ref l, .int i u] (getItem (.ref l) (.int i u)) := by with_unfolding_all rfl) :
    wpAny (model prog w) A (subscriptTail value slice (.ref l) (.int i u)) Q E s := by
  have hl : s.heap.IsList l vs.toArray := ⟨_, (N _ hm).1, rfl, _, rfl⟩
  obtain ⟨v, e, hi⟩ := hv.get hk
  exact tail_any hl.typeIs slot_list_getitem.lookup (wpAny_getItem_list hl h0 hfit (by simpa using e) (h v hi)) hs
theorem tItemNeg {value slice : PySem.Expr} {l : Nat} {vs : List Value} {ks : List PK} {c : Nat} {i : Int} {u : Tok} {k : PK} {Q : Value → Shared → Prop} (N : News h₀ L s.heap news) (hm : (l, listOf vs.toArray c) ∈ news) (hv : IsL ks vs) (h0 : i < 0) (h1 : -(ks.length : Int) ≤ i) (hk : ks[(i + ks.length).toNat]? = some k) (hfit : -(2 ^ 63) ≤ i)
    (h : ∀ v, IsV k v → Q v s) (hs : subscripted slice false (.ref l) (.int i u) = operate [.ref l, .int i u] (getItem (.ref l) (.int i u)) := by with_unfolding_all rfl) :
    wpAny (model prog w) A (subscriptTail value slice (.ref l) (.int i u)) Q E s := by
  obtain ⟨v, e, hi⟩ := hv.get hk
  have hl : s.heap.IsList l vs.toArray := ⟨_, (N _ hm).1, rfl, _, rfl⟩
  exact tail_any hl.typeIs slot_list_getitem.lookup (wpAny_getItem_list_neg hl h0 (by rw [List.size_toArray, hv.1]; exact h1) hfit (by rw [List.size_toArray, hv.1]; simpa using e) (h v hi)) hs
end

local macro_rules | `(tactic| k_all) => `(tactic| (refine' allLt_far ?ha ?hb; (case ha => assumption); (case hb => omega)))
/-- the end of a loop's turn: what the frame and the ledger are then, up to the loop's own name -/
def TurnEnd {σ : Type} (h₀ : Heap) (L : Addr) (x : Str) (own : List (Addr × Obj)) (mo : σ → Str → Option Value) (no : σ → List (Addr × Obj)) (Inv : σ → Prop) (Q : Flow → Shared → Prop) (s₁ : Shared) (f : Flow) (s₂ : Shared) : Prop :=
  match f with
  | .ret v => Q (.ret v) s₂
  | .brk => Q .next s₂
  | _ => ∃ h' tk m' a, s₂ = { s₁ with heap := h', toks := tk } ∧ Fr h₀ L h' m' ∧ News h₀ L h' (own ++ no a) ∧ (∀ y, y ≠ x → m' y = mo a y) ∧ Inv a
section
variable {prog : Program} {w : World} {A : Around} {E : Value → Shared → Prop} {Q : Flow → Shared → Prop} {s : Shared} {h₀ : Heap} {env : Env} {x : Str} {body : List Stmt} {σ : Type}
  {mo : σ → Str → Option Value} {no : σ → List (Addr × Obj)} {Inv : Nat → σ → Prop} {m₀ : Str → Option Value} {a₀ : σ}
theorem upd_canon {m m' : Str → Option Value} (h : ∀ y, y ≠ x → m y = m' y) (v : Option Value) : (fun y => if y = x then v else m y) = fun y => if y = x then v else m' y := by
  funext y; by_cases e : y = x
  · simp [e]
  · simp [e, h y e]
theorem self_canon {m m' : Str → Option Value} (h : ∀ y, y ≠ x → m y = m' y) : m = fun y => if y = x then m x else m' y := by
  funext y; by_cases e : y = x
  · simp [e]
  · simp [e, h y e]
theorem TurnEnd.fin {L : Addr} {own : List (Addr × Obj)} {Iv : σ → Prop} {s₁ : Shared} {h' : Heap} {tk : Nat} {m' : Str → Option Value} {a : σ} (F : Fr h₀ L h' m') (N : News h₀ L h' (own ++ no a)) (hm : ∀ y, y ≠ x → m' y = mo a y) (hi : Iv a) :
    TurnEnd h₀ L x own mo no Iv Q s₁ .next { s₁ with heap := h', toks := tk } := ⟨h', tk, m', a, rfl, F, N, hm, hi⟩
theorem loopW {I : Addr} {fp : List Addr} {n : Nat} {P : Nat → Value → Prop} {St : Nat → Heap → Prop} {h : Heap} {addrs : List Addr}
    (W : Walks prog w A I fp [I] n P St) (hfp : ∀ b ∈ fp, b = I ∨ ∃ o, ∀ i a, Inv i a → (b, o) ∈ no a) (hI : ∀ i h, St i h → ∃ o, h.get? I = some o) (hIL : I ≠ env.locals) (hI₀ : h₀.get? I = none)
    (hadr : ∀ i a, Inv i a → ∀ p ∈ no a, p.1 ∈ addrs) (hlt : ∀ b ∈ addrs, b < I)
    (hst : St 0 h) (F : Fr h₀ env.locals h m₀) (N : News h₀ env.locals h (no a₀)) (hm : ∀ y, y ≠ x → m₀ y = mo a₀ y) (h0 : Inv 0 a₀)
    (turn : ∀ i a v h' tk oI, i < n → P i v → Inv i a → Fr h₀ env.locals h' (fun y => if y = x then some v else mo a y) → News h₀ env.locals h' ((I, oI) :: no a) →
      wpAny (model prog w) A (execs body env) (TurnEnd h₀ env.locals x [(I, oI)] mo no (Inv (i + 1)) Q { s with heap := h', toks := tk }) E { s with heap := h', toks := tk })
    (done : ∀ h' tk a u, Inv n a → Fr h₀ env.locals h' (fun y => if y = x then u else mo a y) → News h₀ env.locals h' (no a) → Q .next { s with heap := h', toks := tk }) :
    LoopAtV prog w A h₀ env x body Q E (.ref I) { s with heap := h } := by
  have hnI : ∀ i a, Inv i a → ∀ p ∈ no a, p.1 ∉ [I] := fun i a hi p hp q => by
    have := hlt _ (hadr i a hi p hp); rw [List.mem_singleton.mp q] at this; exact absurd this (Nat.lt_irrefl _)
  refine ⟨I, fp, [I], n, P, St, m₀, no a₀, fun i m news => ∃ a, Inv i a ∧ (∀ y, y ≠ x → m y = mo a y) ∧ news = no a, rfl, W, ?_, ?_, hnI 0 a₀ h0, hst, F, N, ⟨a₀, h0, hm, rfl⟩, ?_, ?_⟩
  · intro q
    rcases hfp _ q with e | ⟨o, e⟩
    · exact hIL e.symm
    · exact (N _ (e 0 a₀ h0)).2.1 rfl
  · intro b hb; rw [List.mem_singleton.mp hb]; exact hI₀
  · rintro i v m₁ news₁ s₁ own ⟨h', tk, rfl⟩ hi hP ⟨a, ha, hma, rfl⟩ _ hfo hown hin hst₁ F₁ N₁
    obtain ⟨oI, hoI⟩ := hI _ _ hst₁
    have hIn : (I, oI) ∈ own := hin I (by
      have := W.sub I (by simp); exact this) hI₀ oI hoI
    have hsub : ∀ p ∈ own, p = (I, oI) ∨ ∃ o, p = (p.1, o) ∧ ∀ i a, Inv i a → (p.1, o) ∈ no a := fun p hp => by
      rcases hfp _ (hfo p hp) with e | ⟨o, e⟩
      · left
        have := hown p hp
        rw [e, hoI] at this
        exact Prod.ext e (Option.some.inj this).symm
      · right
        refine ⟨o, ?_, e⟩
        have h1 := hown p hp
        have h2 := (N₁ _ (List.mem_append_right _ (e i a ha))).1
        rw [h1] at h2
        exact Prod.ext rfl (Option.some.inj h2)
    rw [upd_canon hma] at F₁
    have N₂ : News h₀ env.locals h' ((I, oI) :: no a) := fun p hp => N₁ p (by
      rcases List.mem_cons.mp hp with rfl | q
      · exact List.mem_append_left _ hIn
      · exact List.mem_append_right _ q)
    refine wpAny_mono (turn i a v h' tk oI hi hP ha F₁ N₂) (fun f s₂ he => ?_) fun _ _ e => e
    have fin : (∃ h'' tk' m' a', s₂ = { s with heap := h'', toks := tk' } ∧ Fr h₀ env.locals h'' m' ∧ News h₀ env.locals h'' ([(I, oI)] ++ no a') ∧ (∀ y, y ≠ x → m' y = mo a' y) ∧ Inv (i + 1) a') →
        LoopStepU h₀ env.locals [I] own (fun m news => ∃ a, Inv (i + 1) a ∧ (∀ y, y ≠ x → m y = mo a y) ∧ news = no a) { s with heap := h', toks := tk } .next s₂ := by
      rintro ⟨h'', tk', m', a', rfl, F', N', hm', ha'⟩
      refine ⟨rfl, h'', tk', m', no a', rfl, F', fun p hp => ?_, hnI _ _ ha', a', ha', hm', rfl⟩
      rcases List.mem_append.mp hp with q | q
      · rcases hsub p q with rfl | ⟨o, e1, e2⟩
        · exact N' _ (by simp)
        · rw [e1]; exact N' _ (List.mem_append_right _ (e2 _ _ ha'))
      · exact N' p (List.mem_append_right _ q)
    cases f with
    | ret v => exact .ret he
    | brk => exact .brk he
    | next => exact .next (fin he)
    | cont => exact .cont (fin he)
  · rintro h' tk m' news' F' N' _ ⟨a, ha, hma, rfl⟩
    rw [self_canon hma] at F'
    exact done h' tk a _ ha F' N'
theorem loop_list {l : Addr} {vs : List Value} {c : Nat} {ks : List PK} (a₀ : σ) (mo : σ → Str → Option Value) (no : σ → List (Addr × Obj)) (Inv : List PK → σ → Prop) (hh : A.handled = none) (hl : ∀ p a, Inv p a → (l, listOf vs.toArray c) ∈ no a) (hi : IsL ks vs) (hadr : ∀ p a, Inv p a → (no a).map (·.1) = (no a₀).map (·.1))
    (F : Fr h₀ env.locals s.heap m₀) (N : News h₀ env.locals s.heap (no a₀)) (hm : ∀ y, y ≠ x → m₀ y = mo a₀ y) (h0 : Inv [] a₀)
    (turn : ∀ I pre k post a v h' tk oI, ks = pre ++ k :: post → IsV k v → Inv pre a → AllLt I (no a₀) → Fr h₀ env.locals h' (fun y => if y = x then some v else mo a y) → News h₀ env.locals h' ((I, oI) :: no a) →
      wpAny (model prog w) A (execs body env) (TurnEnd h₀ env.locals x [(I, oI)] mo no (Inv (pre ++ [k])) Q { s with heap := h', toks := tk }) E { s with heap := h', toks := tk })
    (done : ∀ h' tk a u, Inv ks a → Fr h₀ env.locals h' (fun y => if y = x then u else mo a y) → News h₀ env.locals h' (no a) → Q .next { s with heap := h', toks := tk }) :
    wpAny (model prog w) A (pyIter (.ref l)) (fun it s₂ => LoopAtV prog w A h₀ env x body Q E it s₂) E s := by
  have hls : s.heap.IsList l vs.toArray := ⟨_, (N _ (hl _ _ h0)).1, rfl, _, rfl⟩
  have hne : l ≠ s.heap.objs.size := Nat.ne_of_lt (Heap.lt_size (N _ (hl _ _ h0)).1)
  refine wpAny_pyIter_list hls ?_
  have hlen : vs.toArray.size = ks.length := by simp [hi.1]
  have W := Walks.list (prog := prog) (w := w) hh s.heap.objs.size l hne vs.toArray
  rw [hlen] at W
  refine loopW (Inv := fun i a => Inv (ks.take i) a) (addrs := (no a₀).map (·.1)) W ?_ ?_ (Nat.ne_of_gt F.ns.lt) (none_at_size F) ?_ ?_ ⟨⟨_, Heap.get?_push_size _ rfl, rfl, rfl⟩, hls.at fun o e => Heap.get?_push_of_some _ e⟩ (F.push _) (fun p hp => ⟨Heap.get?_push_of_some _ (N p hp).1, (N p hp).2⟩) hm (by simpa using h0) ?_ ?_
  · intro b hb
    rcases List.mem_cons.mp hb with e | hb
    · exact .inl e
    · rw [List.mem_singleton.mp hb]; exact .inr ⟨_, fun i a ha => hl _ _ ha⟩
  · rintro i h ⟨⟨o, ho, _⟩, _⟩; exact ⟨o, ho⟩
  · intro i a ha p hp; rw [← hadr _ _ ha]; exact List.mem_map_of_mem hp
  · intro b hb; obtain ⟨p, hp, rfl⟩ := List.mem_map.mp hb; exact Heap.lt_size (N p hp).1
  · intro i a v h' tk oI hlt hP ha F' N'
    have hk : ks[i]? = some ks[i] := by simp [hlt]
    obtain ⟨v', hv', hisv⟩ := hi.2 i _ hk
    have : v' = v := by have hP' : vs[i]? = some v := by simpa using hP
                        rw [hv'] at hP'; exact Option.some.inj hP'
    subst this
    have e1 : ks = ks.take i ++ ks[i] :: ks.drop (i + 1) := by rw [← List.drop_eq_getElem_cons hlt, List.take_append_drop]
    have e2 : ks.take (i + 1) = ks.take i ++ [ks[i]] := by rw [List.take_add_one, hk]; rfl
    rw [e2]
    exact turn _ _ _ _ a v' h' tk oI e1 hisv ha (allLt_of fun p hp => Heap.lt_size (N p hp).1) F' N'
  · intro h' tk a u ha F' N'
    rw [List.take_length] at ha
    exact done h' tk a u ha F' N'
theorem loop_dict {t : Addr} {o : Obj} {ks : List PK} (a₀ : σ) (mo : σ → Str → Option Value) (no : σ → List (Addr × Obj)) (Inv : List PK → σ → Prop) (hh : A.handled = none) (hl : ∀ p a, Inv p a → (t, o) ∈ no a) (lo : (t == sysModules) = false) (hi : IsD prog w o ks) (hadr : ∀ p a, Inv p a → (no a).map (·.1) = (no a₀).map (·.1))
    (F : Fr h₀ env.locals s.heap m₀) (N : News h₀ env.locals s.heap (no a₀)) (hm : ∀ y, y ≠ x → m₀ y = mo a₀ y) (h0 : Inv [] a₀)
    (turn : ∀ I pre k post a v h' tk oI, ks = pre ++ k :: post → IsV k v → Inv pre a → AllLt I (no a₀) → Fr h₀ env.locals h' (fun y => if y = x then some v else mo a y) → News h₀ env.locals h' ((I, oI) :: no a) →
      wpAny (model prog w) A (execs body env) (TurnEnd h₀ env.locals x [(I, oI)] mo no (Inv (pre ++ [k])) Q { s with heap := h', toks := tk }) E { s with heap := h', toks := tk })
    (done : ∀ h' tk a u, Inv ks a → Fr h₀ env.locals h' (fun y => if y = x then u else mo a y) → News h₀ env.locals h' (no a) → Q .next { s with heap := h', toks := tk }) :
    wpAny (model prog w) A (pyIter (.ref t)) (fun it s₂ => LoopAtV prog w A h₀ env x body Q E it s₂) E s := by
  obtain ⟨ep, hat⟩ := (hi.dictOf N (hl _ _ h0)).dictAt
  have hne : t ≠ s.heap.objs.size := Nat.ne_of_lt (Heap.lt_size (N _ (hl _ _ h0)).1)
  refine wpAny_pyIter_dict lo hat ?_
  have W := Walks.dictKeys (prog := prog) (w := w) (knd := pk prog w) hh s.heap.objs.size t hne (prs ks) ep
  rw [prs_length] at W
  refine loopW (Inv := fun i a => Inv (ks.take i) a) (addrs := (no a₀).map (·.1)) W ?_ ?_ (Nat.ne_of_gt F.ns.lt) (none_at_size F) ?_ ?_ ⟨⟨_, Heap.get?_push_size _ rfl, rfl, by rw [prs_length]; rfl⟩, hat.push _⟩ (F.push _) (fun p hp => ⟨Heap.get?_push_of_some _ (N p hp).1, (N p hp).2⟩) hm (by simpa using h0) ?_ ?_
  · intro b hb
    rcases List.mem_cons.mp hb with e | hb
    · exact .inl e
    · rw [List.mem_singleton.mp hb]; exact .inr ⟨_, fun i a ha => hl _ _ ha⟩
  · rintro i h ⟨⟨o, ho, _⟩, _⟩; exact ⟨o, ho⟩
  · intro i a ha p hp; rw [← hadr _ _ ha]; exact List.mem_map_of_mem hp
  · intro b hb; obtain ⟨p, hp, rfl⟩ := List.mem_map.mp hb; exact Heap.lt_size (N p hp).1
  · intro i a v h' tk oI hlt hP ha F' N'
    have hk : ks[i]? = some ks[i] := by simp [hlt]
    obtain ⟨k, y, hx, hkv⟩ := hP
    unfold prs at hx
    rw [List.getElem?_map, hk] at hx
    simp at hx
    have e1 : ks = ks.take i ++ ks[i] :: ks.drop (i + 1) := by rw [← List.drop_eq_getElem_cons hlt, List.take_append_drop]
    have e2 : ks.take (i + 1) = ks.take i ++ [ks[i]] := by rw [List.take_add_one, hk]; rfl
    rw [e2]
    exact turn _ _ _ _ a v h' tk oI e1 ⟨hx.1 ▸ hkv, hi.2 _ (List.getElem_mem hlt)⟩ ha (allLt_of fun p hp => Heap.lt_size (N p hp).1) F' N'
  · intro h' tk a u ha F' N'
    rw [List.take_length] at ha
    exact done h' tk a u ha F' N'
theorem allLt_lt {d : Addr} : ∀ {l : List (Addr × Obj)}, AllLt d l → ∀ p ∈ l, p.1 < d
  | [], _, _, hp => nomatch hp
  | q :: r, ⟨h1, h2⟩, p, hp => by
    rcases List.mem_cons.mp hp with rfl | hp
    · exact h1
    · exact allLt_lt h2 p hp
theorem updF_mem {t : Addr} {o o' : Obj} {news : List (Addr × Obj)} {g : Obj → List (Addr × Obj)} (U : UpdF t o news g) {p : Addr × Obj} (hp : p ∈ news) (hne : p.1 ≠ t) : p ∈ g o' := by
  obtain ⟨pre, pos, rfl, hg, _, _⟩ := U.split
  rw [hg]
  rcases List.mem_append.mp hp with q | q
  · exact List.mem_append_left _ q
  · rcases List.mem_cons.mp q with rfl | q
    · exact absurd rfl hne
    · exact List.mem_append_right _ (.tail _ q)
theorem updF_adr {t : Addr} {o : Obj} {news : List (Addr × Obj)} {g : Obj → List (Addr × Obj)} (U : UpdF t o news g) (o' : Obj) : (g o').map (·.1) = news.map (·.1) := by
  obtain ⟨pre, pos, rfl, hg, _, _⟩ := U.split
  rw [hg]; simp
theorem updF_self {t : Addr} {o : Obj} {news : List (Addr × Obj)} {g : Obj → List (Addr × Obj)} (U : UpdF t o news g) : g o = news := by
  obtain ⟨pre, pos, rfl, hg, _, _⟩ := U.split
  rw [hg]
/-- a loop over a list of items that turns one table -/
theorem loop_list_U {l t : Nat} {vs : List Value} {c : Nat} {ks : List PK} {o₀ : Obj} {news : List (Addr × Obj)} {g : Obj → List (Addr × Obj)} (Inv : List PK → Obj → Prop) (hh : A.handled = none) (hl : (l, listOf vs.toArray c) ∈ news) (hi : IsL ks vs) (h0 : Inv [] o₀) (U : UpdF t o₀ news g) (hne : l ≠ t)
    (F : Fr h₀ env.locals s.heap m₀) (N : News h₀ env.locals s.heap news)
    (turn : ∀ (I : Nat) pre k post o v h' tk oI, ks = pre ++ k :: post → IsV k v → Inv pre o → AllLt I (g o) → Fr h₀ env.locals h' (fun y => if y = x then some v else m₀ y) → News h₀ env.locals h' ((I, oI) :: g o) →
      wpAny (model prog w) A (execs body env) (TurnEnd h₀ env.locals x [(I, oI)] (fun _ => m₀) g (Inv (pre ++ [k])) Q { s with heap := h', toks := tk }) E { s with heap := h', toks := tk })
    (done : ∀ h' tk o u, Inv ks o → Fr h₀ env.locals h' (fun y => if y = x then u else m₀ y) → News h₀ env.locals h' (g o) → Q .next { s with heap := h', toks := tk }) :
    wpAny (model prog w) A (pyIter (.ref l)) (fun it s₂ => LoopAtV prog w A h₀ env x body Q E it s₂) E s := by
  have e : (g o₀).map (·.1) = news.map (·.1) := updF_adr U o₀
  refine loop_list (c := c) (vs := vs) o₀ (fun _ => m₀) g Inv hh (fun p a _ => updF_mem U hl hne) hi (fun p a _ => by rw [updF_adr U, updF_adr U]) F (by rw [updF_self U]; exact N) (fun _ _ => rfl) h0 (fun I pre k post o v h' tk oI e hv hp hlt F' N' => turn I pre k post o v h' tk oI e hv hp ?_ F' N') done
  refine allLt_of fun p hp => ?_
  have hm : p.1 ∈ (g o₀).map (·.1) := by rw [updF_adr U, ← updF_adr U o]; exact List.mem_map_of_mem hp
  obtain ⟨q, hq, e⟩ := List.mem_map.mp hm
  rw [← e]; exact allLt_lt hlt q hq
/-- a loop over a table that turns another one -/
theorem loop_dict_U {t t₂ : Nat} {o₂ : Obj} {ks : List PK} {o₀ : Obj} {news : List (Addr × Obj)} {g : Obj → List (Addr × Obj)} (Inv : List PK → Obj → Prop) (hh : A.handled = none) (hl : (t₂, o₂) ∈ news) (lo : (t₂ == sysModules) = false) (hi : IsD prog w o₂ ks) (h0 : Inv [] o₀) (U : UpdF t o₀ news g) (hne : t₂ ≠ t)
    (F : Fr h₀ env.locals s.heap m₀) (N : News h₀ env.locals s.heap news)
    (turn : ∀ (I : Nat) pre k post o v h' tk oI, ks = pre ++ k :: post → IsV k v → Inv pre o → AllLt I (g o) → Fr h₀ env.locals h' (fun y => if y = x then some v else m₀ y) → News h₀ env.locals h' ((I, oI) :: g o) →
      wpAny (model prog w) A (execs body env) (TurnEnd h₀ env.locals x [(I, oI)] (fun _ => m₀) g (Inv (pre ++ [k])) Q { s with heap := h', toks := tk }) E { s with heap := h', toks := tk })
    (done : ∀ h' tk o u, Inv ks o → Fr h₀ env.locals h' (fun y => if y = x then u else m₀ y) → News h₀ env.locals h' (g o) → Q .next { s with heap := h', toks := tk }) :
    wpAny (model prog w) A (pyIter (.ref t₂)) (fun it s₂ => LoopAtV prog w A h₀ env x body Q E it s₂) E s := by
  refine loop_dict o₀ (fun _ => m₀) g Inv hh (fun p a _ => updF_mem U hl hne) lo hi (fun p a _ => by rw [updF_adr U, updF_adr U]) F (by rw [updF_self U]; exact N) (fun _ _ => rfl) h0 (fun I pre k post o v h' tk oI e hv hp hlt F' N' => turn I pre k post o v h' tk oI e hv hp ?_ F' N') done
  refine allLt_of fun p hp => ?_
  have hm : p.1 ∈ (g o₀).map (·.1) := by rw [updF_adr U, ← updF_adr U o]; exact List.mem_map_of_mem hp
  obtain ⟨q, hq, e⟩ := List.mem_map.mp hm
  rw [← e]; exact allLt_lt hlt q hq
/-- a loop over a table that turns nothing -/
theorem loop_dict_R {t₂ : Nat} {o₂ : Obj} {ks : List PK} {news : List (Addr × Obj)} (Inv : List PK → Prop) (hh : A.handled = none) (hl : (t₂, o₂) ∈ news) (lo : (t₂ == sysModules) = false) (hi : IsD prog w o₂ ks) (h0 : Inv [])
    (F : Fr h₀ env.locals s.heap m₀) (N : News h₀ env.locals s.heap news)
    (turn : ∀ (I : Nat) pre k post v h' tk oI, ks = pre ++ k :: post → IsV k v → Inv pre → AllLt I news → Fr h₀ env.locals h' (fun y => if y = x then some v else m₀ y) → News h₀ env.locals h' ((I, oI) :: news) →
      wpAny (model prog w) A (execs body env) (TurnEnd h₀ env.locals x [(I, oI)] (fun _ : Unit => m₀) (fun _ => news) (fun _ => Inv (pre ++ [k])) Q { s with heap := h', toks := tk }) E { s with heap := h', toks := tk })
    (done : ∀ h' tk u, Inv ks → Fr h₀ env.locals h' (fun y => if y = x then u else m₀ y) → News h₀ env.locals h' news → Q .next { s with heap := h', toks := tk }) :
    wpAny (model prog w) A (pyIter (.ref t₂)) (fun it s₂ => LoopAtV prog w A h₀ env x body Q E it s₂) E s :=
  loop_dict () (fun _ => m₀) (fun _ => news) (fun p _ => Inv p) hh (fun _ _ _ => hl) lo hi (fun _ _ _ => rfl) F N (fun _ _ => rfl) h0 (fun I pre k post _ v h' tk oI e hv hp hlt F' N' => turn I pre k post v h' tk oI e hv hp hlt F' N') (fun h' tk _ u hi F' N' => done h' tk u hi F' N')
end

section
variable {prog : Program} {w : World}
theorem add_c {x dx t : Nat} {n : Nat} {hh' : Int} {tkx : Tok} {o : Obj} {ks : List PK} {k : PK} {v : Value} (lo : (t == sysModules) = false) (ho : IsD prog w o ks) (hv : IsV k v) (xt : x ≠ t) (dt : dx ≠ t) :
    Ctr prog w 2 36 [.ref x, v] [(t, o), (x, instObj 270 dx), (dx, dictOf [⟨hh', .str "table" tkx, .ref t⟩] n)]
      (fun r ft => ∃ o', (r = .none ∧ IsD prog w o' (ins ks k)) ∧ ft = [(t, o'), (x, instObj 270 dx), (dx, dictOf [⟨hh', .str "table" tkx, .ref t⟩] n)]) := by
  intro A₀ A s base h₀ outer L m env R C N h
  k_extra "j.enter"
  by_cases hk : k ∈ ks
  · k_steps
    exact h _ _ _ _ ⟨_, ⟨rfl, by unfold ins; rw [if_pos hk]; assumption⟩, rfl⟩ (by assumption) (by assumption) (by assumption) (by assumption)
  · k_steps
    exact h _ _ _ _ ⟨_, ⟨rfl, by assumption⟩, rfl⟩ (by assumption) (by assumption) (by assumption) (by assumption)
end
theorem say2 : True := by
  k_with "j.call ref" => ((k_here; (with_reducible show wpAny _ _ (call (Value.ref 36) _) _ _ _); refine wpAny_call ?_; k_dflt (refine' Ctr.turn (add_c ?lo_z45 ?ho_z45 ?hv_z45 ?xt_z45 ?dt_z45) ?C_z45 ?N_z45 ?sub_z45 ?U_z45 ?_; (case C_z45 => k_extra "j.cx"); (case N_z45 => k_asm); (case sub_z45 => k_extra "j.sub"); (case U_z45 => k_updF); (case lo_z45 => assumption); (case ho_z45 => assumption); (case hv_z45 => assumption); (case xt_z45 => k_extra "j.ne"); (case dt_z45 => k_extra "j.ne")); intro h'w tk'w v'w o'w P'w F'w N'w; obtain ⟨e'w, D'w⟩ := P'w; subst e'w; (try dsimp only at N'w); (try dsimp only [PySem.W.CmpBack, PySem.W.LenBack, PySem.W.BoolBack]); (try k_sweep)))
  trivial

section
variable {prog : Program} {w : World}
theorem discard_c {x dx t : Nat} {n : Nat} {hx : Int} {tkx : Tok} {o : Obj} {ks : List PK} {k : PK} {v : Value} (lo : (t == sysModules) = false) (ho : IsD prog w o ks) (hv : IsV k v) (xt : x ≠ t) (dt : dx ≠ t) :
    Ctr prog w 2 50 [.ref x, v] [(t, o), (x, instObj 270 dx), (dx, dictOf [⟨hx, .str "table" tkx, .ref t⟩] n)]
      (fun r ft => ∃ o', (r = .none ∧ IsD prog w o' (del ks k)) ∧ ft = [(t, o'), (x, instObj 270 dx), (dx, dictOf [⟨hx, .str "table" tkx, .ref t⟩] n)]) := by
  intro A₀ A s base h₀ outer L m env R C N h
  k_extra "j.enter"
  k_extra "j.steps"
  exact h _ _ _ _ ⟨_, ⟨rfl, by assumption⟩, rfl⟩ (by assumption) (by assumption) (by assumption) (by assumption)
theorem clear_c {x dx t : Nat} {n : Nat} {hx : Int} {tkx : Tok} {o : Obj} {ks : List PK} (ho : IsD prog w o ks) (xt : x ≠ t) (dt : dx ≠ t) :
    Ctr prog w 2 211 [.ref x] [(t, o), (x, instObj 270 dx), (dx, dictOf [⟨hx, .str "table" tkx, .ref t⟩] n)]
      (fun r ft => ∃ o', (r = .none ∧ IsD prog w o' []) ∧ ft = [(t, o'), (x, instObj 270 dx), (dx, dictOf [⟨hx, .str "table" tkx, .ref t⟩] n)]) := by
  intro A₀ A s base h₀ outer L m env R C N h
  k_extra "j.enter"
  k_extra "j.steps"
  exact h _ _ _ _ ⟨_, ⟨rfl, by assumption⟩, rfl⟩ (by assumption) (by assumption) (by assumption) (by assumption)
end
theorem say3 : True := by
  k_with "j.call ref" => ((k_here; (with_reducible show wpAny _ _ (call (Value.ref 50) _) _ _ _); refine wpAny_call ?_; k_dflt (refine' Ctr.turn (discard_c ?lo_z46 ?ho_z46 ?hv_z46 ?xt_z46 ?dt_z46) ?C_z46 ?N_z46 ?sub_z46 ?U_z46 ?_; (case C_z46 => k_extra "j.cx"); (case N_z46 => k_asm); (case sub_z46 => k_extra "j.sub"); (case U_z46 => k_updF); (case lo_z46 => assumption); (case ho_z46 => assumption); (case hv_z46 => assumption); (case xt_z46 => k_extra "j.ne"); (case dt_z46 => k_extra "j.ne")); intro h'w tk'w v'w o'w P'w F'w N'w; obtain ⟨e'w, D'w⟩ := P'w; subst e'w; (try dsimp only at N'w); (try dsimp only [PySem.W.CmpBack, PySem.W.LenBack, PySem.W.BoolBack]); (try k_sweep)))
  trivial

section
variable {prog : Program} {w : World}
theorem init0_c {x dx : Nat} (hxd : dx < x) :
    Ctr prog w 3 29 [.ref x] [(x, instObj 270 dx), (dx, dictOf [] 0)] (fun r ft => ∃ t n hx tk o, r = .none ∧ NewS prog w x dx t o [] ∧ ft = S3 x dx t n hx tk o []) := by
  intro A₀ A s base h₀ outer L m env R C N h
  k_extra "j.enter"
  k_extra "j.steps"
  exact h _ _ _ _ ⟨_, _, _, _, _, rfl, ⟨by assumption, by assumption, by omega, by omega⟩, rfl⟩ (by assumption) (by k_extra "j.perm") (by assumption) (by k_extra "j.fresh")
theorem init1_c {x dx l : Nat} {c : Nat} {ks : List PK} {vs : List Value} (hv : IsL ks vs) (hxd : dx < x) (hl : l < dx) :
    Ctr prog w 4 29 [.ref x, .ref l] [(x, instObj 270 dx), (dx, dictOf [] 0), (l, listOf vs.toArray c)] (fun r ft => ∃ t n hx tk o, r = .none ∧ NewS prog w x dx t o (ks.foldl ins []) ∧ ft = S3 x dx t n hx tk o [(l, listOf vs.toArray c)]) := by
  intro A₀ A s base h₀ outer L m env R C N h
  k_extra "j.enter"
  k_extra "j.steps"
  refine' loop_list_U (x := "item") (fun p a => IsD prog w a (p.foldl ins [])) ?hh ?hl hv ?h0 ?U ?ne ?F ?N ?turn ?done
  case hh => assumption
  case F => assumption
  case N => assumption
  case hl => k_mem
  case h0 => assumption
  case U => k_extra "j.upd"
  case ne => omega
  case turn =>
    intro I pre k post o₁ v h' tk oI e hk hi hlt F' N'
    dsimp only at hlt N'
    simp only [AllLt, and_true] at hlt
    k_extra "j.steps"
    k_extra "j.turn"
    rw [List.foldl_append]; assumption
  case done =>
    intro h' tk o₁ u hi F' N'
    dsimp only at N'
    k_extra "j.steps"
    exact h _ _ _ _ ⟨_, _, _, _, _, rfl, ⟨by assumption, hi, by omega, by omega⟩, rfl⟩ (by assumption) (by k_extra "j.perm") (by assumption) (by k_extra "j.fresh")
end
section
variable {prog : Program} {w : World} {l : Nat} {A₀ A : Around} {E : Value → Shared → Prop} {s : Shared} {base h₀ : Heap} {outer : List Env} {L : Addr} {m : Str → Option Value} {env : Env} {news : List (Addr × Obj)}
theorem Cx.at {h' : Heap} (C : Cx w l A₀ A base outer h₀ L m env s.heap) (F : Fr h₀ L h' m) : Cx w l A₀ A base outer h₀ L m env h' := ⟨C.B, F, C.X, C.T, C.D, C.hA, C.hf, C.hke, C.room, C.units, C.hh⟩
theorem Cx.le {k : Nat} (C : Cx w l A₀ A base outer h₀ L m env s.heap) (h : k ≤ l) : Cx w k A₀ A base outer h₀ L m env s.heap := ⟨C.B, C.F, C.X, C.T, C.D, C.hA, C.hf, C.hke, by have := C.room; omega, by have := C.units; omega, C.hh⟩
theorem newSet0 {Q : Value → Shared → Prop} (C : Cx w 5 A₀ A base outer h₀ L m env s.heap) (N : News h₀ L s.heap news)
    (h : ∀ h' tk' (x dx t : Nat) n hx tk o, NewS prog w x dx t o [] → AllLt dx news → Fr h₀ L h' m → News h₀ L h' (S3 x dx t n hx tk o news) → Q (.ref x) { s with heap := h', toks := tk' }) :
    wpAny (model prog w) A (call (.ref 270) []) Q E s := by
  refine call_cls C.F (C.X.keeps C.B.stays) N (by k_is) (by k_is) (by k_is) fun x dx h' F' N' l1 l2 => ?_
  have C' : Cx w 3 A₀ (A.under (.builtin "type.__call__" ⟨[.ref 270], []⟩)) base outer h₀ L m env h' := ((C.at F').under (l := 3)).le (s := { s with heap := h' }) (by omega)
  refine (init0_c (prog := prog) l2).use (s := { s with heap := h' }) C' N' (fun p hp => ?_) fun h'' tk' v ft hp F'' nw K _ => ?_
  · rcases List.mem_cons.mp hp with rfl | q
    · exact .head _
    · rw [List.mem_singleton.mp q]; exact .tail _ (.head _)
  obtain ⟨t, n, hx, tk, o, rfl, ns, rfl⟩ := hp
  refine ⟨rfl, h h'' tk' x dx t n hx tk o ns (allLt_of l1) F'' (nw _ fun p hp => ?_)⟩
  rcases List.mem_cons.mp hp with rfl | hp
  · exact .inl (.head _)
  rcases List.mem_cons.mp hp with rfl | hp
  · exact .inl (.tail _ (.head _))
  rcases List.mem_cons.mp hp with rfl | hp
  · exact .inl (.tail _ (.tail _ (.head _)))
  refine .inr ⟨.tail _ (.tail _ hp), ?_⟩
  simp only [List.map_cons, List.map_nil, List.mem_cons, List.not_mem_nil, or_false, not_or]
  exact ⟨Nat.ne_of_lt (Nat.lt_trans (l1 p hp) l2), Nat.ne_of_lt (l1 p hp)⟩
theorem newSet1 {Q : Value → Shared → Prop} {a c : Nat} {vs : List Value} {ks : List PK} (C : Cx w 6 A₀ A base outer h₀ L m env s.heap) (N : News h₀ L s.heap news) (ma : (a, listOf vs.toArray c) ∈ news) (hv : IsL ks vs)
    (h : ∀ h' tk' (x dx t : Nat) n hx tk o, NewS prog w x dx t o (ks.foldl ins []) → AllLt dx news → Fr h₀ L h' m → News h₀ L h' (S3 x dx t n hx tk o news) → Q (.ref x) { s with heap := h', toks := tk' }) :
    wpAny (model prog w) A (call (.ref 270) [.ref a]) Q E s := by
  refine call_cls C.F (C.X.keeps C.B.stays) N (by k_is) (by k_is) (by k_is) fun x dx h' F' N' l1 l2 => ?_
  have C' : Cx w 4 A₀ (A.under (.builtin "type.__call__" ⟨.ref 270 :: [.ref a], []⟩)) base outer h₀ L m env h' := ((C.at F').under (l := 4)).le (s := { s with heap := h' }) (by omega)
  refine (init1_c (prog := prog) (c := c) hv l2 (l1 _ ma)).use (s := { s with heap := h' }) C' N' (fun p hp => ?_) fun h'' tk' v ft hp F'' nw K _ => ?_
  · rcases List.mem_cons.mp hp with rfl | q
    · exact .head _
    · rcases List.mem_cons.mp q with rfl | q
      · exact .tail _ (.head _)
      · rw [List.mem_singleton.mp q]; exact .tail _ (.tail _ ma)
  obtain ⟨t, n, hx, tk, o, rfl, ns, rfl⟩ := hp
  refine ⟨rfl, h h'' tk' x dx t n hx tk o ns (allLt_of l1) F'' (nw _ fun p hp => ?_)⟩
  rcases List.mem_cons.mp hp with rfl | hp
  · exact .inl (.head _)
  rcases List.mem_cons.mp hp with rfl | hp
  · exact .inl (.tail _ (.head _))
  rcases List.mem_cons.mp hp with rfl | hp
  · exact .inl (.tail _ (.tail _ (.head _)))
  by_cases e : p.1 = a
  · have := news_fun N hp ma e
    exact .inl (by rw [this]; simp)
  refine .inr ⟨.tail _ (.tail _ hp), ?_⟩
  simp only [List.map_cons, List.map_nil, List.mem_cons, List.not_mem_nil, or_false, not_or]
  exact ⟨Nat.ne_of_lt (Nat.lt_trans (l1 p hp) l2), Nat.ne_of_lt (l1 p hp), e⟩
end
theorem say4 : True := by
  k_with "j.call ref" => ((k_here; (with_reducible show wpAny _ _ (call (Value.ref 270) _) _ _ _); (try dsimp only [List.append_nil]); k_dflt (refine' newSet0 ?C_z47 ?N_z47 ?_; (case C_z47 => k_extra "j.cx"); (case N_z47 => k_asm)); intro h'w tk'w x'w dx'w t'w n'w hx'w tkx'w o'w NS'w l1 F'w N'w; obtain ⟨lo'w, D'w, xd'w, xt'w⟩ := NS'w; (replace xd'w := ltN xd'w); (replace xt'w := ltN xt'w); dsimp only [S3] at N'w; (try simp only [AllLt, and_true] at l1); (try dsimp only [PySem.W.CmpBack, PySem.W.LenBack, PySem.W.BoolBack]); (try k_sweep)))
  trivial

section
variable {prog : Program} {w : World}
theorem update_c {x dx t l : Nat} {n c : Nat} {hh' : Int} {tkx : Tok} {o : Obj} {ks more : List PK} {vs : List Value} (lo : (t == sysModules) = false) (ho : IsD prog w o ks) (hv : IsL more vs) (xt : x ≠ t) (dt : dx ≠ t) (lt : l ≠ t) :
    Ctr prog w 5 204 [.ref x, .ref l] [(t, o), (x, instObj 270 dx), (dx, dictOf [⟨hh', .str "table" tkx, .ref t⟩] n), (l, listOf vs.toArray c)]
      (fun r ft => ∃ o', (r = .none ∧ IsD prog w o' (more.foldl ins ks)) ∧ ft = [(t, o'), (x, instObj 270 dx), (dx, dictOf [⟨hh', .str "table" tkx, .ref t⟩] n), (l, listOf vs.toArray c)]) := by
  intro A₀ A s base h₀ outer L m env R C N h
  k_extra "j.enter"
  k_extra "j.steps"
  refine loop_list (c := c) (vs := vs) o (fun _ => _) (fun o => [(t, o), (x, instObj 270 dx), (dx, dictOf [⟨hh', .str "table" tkx, .ref t⟩] n), (l, listOf vs.toArray c)]) (fun p a => IsD prog w a (p.foldl ins ks)) (by assumption) ?_ hv ?_ (by assumption) (by assumption) (fun _ _ => rfl) ho ?_ ?_
  · intro p a _; simp
  · intro p a _; rfl
  · intro I pre k post o₁ v h' tk oI e hk hi hlt F' N'
    simp only [AllLt, and_true] at hlt
    k_extra "j.steps"
    k_extra "j.turn"
    rw [List.foldl_append]; assumption
  · intro h' tk o₁ u hi F' N'
    k_extra "j.steps"
    exact h _ _ _ _ ⟨_, ⟨rfl, hi⟩, rfl⟩ (by assumption) (by assumption) (by assumption) (by assumption)
end

section
variable {prog : Program} {w : World} {ro : List (Addr × Obj)} {x dx t : Nat} {n : Nat} {hx : Int} {tkx : Tok} {o : Obj} {ks : List PK}
theorem clone_c (lo : (t == sysModules) = false) (ho : IsD prog w o ks) (mx : (x, instObj 270 dx) ∈ ro) (md : (dx, dictOf [⟨hx, .str "table" tkx, .ref t⟩] n) ∈ ro) (mt : (t, o) ∈ ro) :
    Ctr prog w 7 64 [.ref x] ro (Makes prog w ks ro) := by
  intro A₀ A s base h₀ outer L m env R C N h
  k_extra "j.enter"
  k_extra "j.steps"
  k_extra "j.make"
  rw [← fold_ins_nil ho.nodup]; assumption
theorem say5 : True := by
  k_with "j.call ref" => ((k_here; (with_reducible show wpAny _ _ (call (Value.ref 64) _) _ _ _); refine wpAny_call ?_; k_dflt (refine' Ctr.make (clone_c ?lo_z48 ?ho_z48 ?mx_z48 ?md_z48 ?mt_z48) ?C_z48 ?N_z48 ?_; (case C_z48 => k_extra "j.cx"); (case N_z48 => k_asm); (case mx_z48 => k_mem); (case md_z48 => k_mem); (case mt_z48 => k_mem); (case lo_z48 => assumption); (case ho_z48 => assumption)); intro h'w tk'w x'w dx'w t'w n'w hx'w tkx'w o'w NS'w l1 F'w N'w; obtain ⟨lo'w, D'w, xd'w, xt'w⟩ := NS'w; (replace xd'w := ltN xd'w); (replace xt'w := ltN xt'w); dsimp only [S3] at N'w; (try simp only [AllLt, and_true] at l1); (try dsimp only [PySem.W.CmpBack, PySem.W.LenBack, PySem.W.BoolBack]); (try k_sweep)))
  trivial
theorem copy_c (lo : (t == sysModules) = false) (ho : IsD prog w o ks) (mx : (x, instObj 270 dx) ∈ ro) (md : (dx, dictOf [⟨hx, .str "table" tkx, .ref t⟩] n) ∈ ro) (mt : (t, o) ∈ ro) :
    Ctr prog w 8 71 [.ref x] ro (Makes prog w ks ro) := by
  intro A₀ A s base h₀ outer L m env R C N h
  k_extra "j.enter"
  k_extra "j.steps"
  k_extra "j.make"
  assumption
end

def itr (ks qs : List PK) : List PK := ks.filter fun k => decide (k ∈ qs)
def dif (ks qs : List PK) : List PK := ks.filter fun k => decide (k ∉ qs)
def kpp (qs a : List PK) (k : PK) : List PK := if k ∈ qs then a else del a k
theorem mem_itr {ks qs : List PK} {k : PK} : k ∈ itr ks qs ↔ k ∈ ks ∧ k ∈ qs := by unfold itr; simp
theorem mem_dif {ks qs : List PK} {k : PK} : k ∈ dif ks qs ↔ k ∈ ks ∧ k ∉ qs := by unfold dif; simp
theorem mem_del {ks : List PK} {k y : PK} : y ∈ del ks k ↔ y ∈ ks ∧ y ≠ k := by unfold del; simp
theorem itr_nodup {ks qs : List PK} (h : ks.Nodup) : (itr ks qs).Nodup := h.filter _
theorem dif_nodup {ks qs : List PK} (h : ks.Nodup) : (dif ks qs).Nodup := h.filter _
theorem fold_ins : ∀ {qs ks : List PK}, qs.Nodup → qs.foldl ins ks = ks ++ dif qs ks
  | [], ks, _ => by simp [dif]
  | q :: r, ks, hn => by
    rw [List.nodup_cons] at hn
    rw [List.foldl_cons, fold_ins hn.2]
    by_cases h : q ∈ ks
    · rw [ins_old h]
      have e : dif (q :: r) ks = dif r ks := by unfold dif; rw [List.filter_cons_of_neg (by simp [h])]
      rw [e]
    · rw [ins_new h]
      have e : dif (q :: r) ks = q :: dif r ks := by unfold dif; rw [List.filter_cons_of_pos (by simp [h])]
      have e2 : dif r (ks ++ [q]) = dif r ks := by
        unfold dif
        refine List.filter_congr fun y hy => ?_
        have : y ≠ q := fun z => hn.1 (z ▸ hy)
        simp [this]
      rw [e, e2]; simp
theorem fold_del : ∀ {qs ks : List PK}, qs.foldl del ks = dif ks qs
  | [], ks => by unfold dif; simp [List.filter_eq_self.mpr]
  | q :: r, ks => by
    rw [List.foldl_cons, fold_del]
    unfold dif del
    rw [List.filter_filter]
    refine List.filter_congr fun y _ => ?_
    by_cases h : y = q <;> simp [h]
theorem fold_kpp : ∀ {p ks qs : List PK}, p.foldl (kpp qs) ks = ks.filter fun k => decide (k ∉ p ∨ k ∈ qs)
  | [], ks, qs => by simp [List.filter_eq_self.mpr]
  | q :: r, ks, qs => by
    rw [List.foldl_cons, fold_kpp]
    unfold kpp
    split
    · rename_i h
      refine List.filter_congr fun y _ => ?_
      by_cases e : y = q
      · subst e; simp [h]
      · simp [e]
    · rename_i h
      unfold del
      rw [List.filter_filter]
      refine List.filter_congr fun y _ => ?_
      by_cases e : y = q
      · subst e; simp [h]
      · simp [e]
theorem fold_kpp_self {ks qs : List PK} : ks.foldl (kpp qs) ks = itr ks qs := by
  rw [fold_kpp]; unfold itr
  exact List.filter_congr fun y hy => by simp [hy]
theorem mem_kpp {pre post qs : List PK} {k : PK} (hn : (pre ++ k :: post).Nodup) : k ∈ pre.foldl (kpp qs) (pre ++ k :: post) := by
  rw [fold_kpp, List.mem_filter]
  refine ⟨by simp, ?_⟩
  rw [List.nodup_append] at hn
  have : k ∉ pre := fun h => hn.2.2 k h k (by simp) rfl
  simp [this]
theorem sym_eq {ks qs : List PK} : (itr ks qs).foldl del (ks ++ dif qs ks) = dif ks qs ++ dif qs ks := by
  rw [fold_del]
  unfold dif itr
  rw [List.filter_append]
  congr 1
  · refine List.filter_congr fun y hy => ?_
    simp [hy]
  · rw [List.filter_filter]
    refine List.filter_congr fun y hy => ?_
    by_cases h : y ∈ ks <;> simp [h]

section
variable {prog : Program} {w : World} {x dx t y dy u : Nat} {n n' : Nat} {hx hy : Int} {tkx tky : Tok} {o p : Obj} {ks qs : List PK}
theorem uu_c (lo : (t == sysModules) = false) (lo2 : (u == sysModules) = false) (ho : IsD prog w o ks) (hp : IsD prog w p qs) (xt : x ≠ t) (dt : dx ≠ t) (yt : y ≠ t) (et : dy ≠ t) (ut : u ≠ t) (xy : x ≠ y) :
    Ctr prog w 5 78 [.ref x, .ref y] [(t, o), (x, instObj 270 dx), (dx, dictOf [⟨hx, .str "table" tkx, .ref t⟩] n), (y, instObj 270 dy), (dy, dictOf [⟨hy, .str "table" tky, .ref u⟩] n'), (u, p)]
      (fun r ft => ∃ o', (r = .none ∧ IsD prog w o' (ks ++ dif qs ks)) ∧ ft = [(t, o'), (x, instObj 270 dx), (dx, dictOf [⟨hx, .str "table" tkx, .ref t⟩] n), (y, instObj 270 dy), (dy, dictOf [⟨hy, .str "table" tky, .ref u⟩] n'), (u, p)]) := by
  intro A₀ A s base h₀ outer L m env R C N h
  k_extra "j.enter"
  k_extra "j.steps"
  refine' loop_dict_U (x := "item") (fun p a => IsD prog w a (p.foldl ins ks)) ?hh ?hl lo2 hp ho ?U ut ?F ?N ?turn ?done
  case hh => assumption
  case F => assumption
  case N => assumption
  case hl => k_mem
  case U => k_extra "j.upd"
  case turn =>
    intro I pre k post o₁ v h' tk oI e hk hi hlt F' N'
    try dsimp only at hlt N'
    simp only [AllLt, and_true] at hlt
    k_extra "j.steps"
    k_extra "j.turn"
    rw [List.foldl_append]; assumption
  case done =>
    intro h' tk o₁ u hi F' N'
    try dsimp only at N'
    k_extra "j.steps"
    rw [fold_ins hp.nodup] at hi
    exact h _ _ _ _ ⟨_, ⟨rfl, hi⟩, rfl⟩ (by assumption) (by assumption) (by assumption) (by assumption)
theorem du_c (lo : (t == sysModules) = false) (lo2 : (u == sysModules) = false) (ho : IsD prog w o ks) (hp : IsD prog w p qs) (xt : x ≠ t) (dt : dx ≠ t) (yt : y ≠ t) (et : dy ≠ t) (ut : u ≠ t) (xy : x ≠ y) :
    Ctr prog w 5 92 [.ref x, .ref y] [(t, o), (x, instObj 270 dx), (dx, dictOf [⟨hx, .str "table" tkx, .ref t⟩] n), (y, instObj 270 dy), (dy, dictOf [⟨hy, .str "table" tky, .ref u⟩] n'), (u, p)]
      (fun r ft => ∃ o', (r = .none ∧ IsD prog w o' (dif ks qs)) ∧ ft = [(t, o'), (x, instObj 270 dx), (dx, dictOf [⟨hx, .str "table" tkx, .ref t⟩] n), (y, instObj 270 dy), (dy, dictOf [⟨hy, .str "table" tky, .ref u⟩] n'), (u, p)]) := by
  intro A₀ A s base h₀ outer L m env R C N h
  k_extra "j.enter"
  k_extra "j.steps"
  refine' loop_dict_U (x := "item") (fun p a => IsD prog w a (p.foldl del ks)) ?hh ?hl lo2 hp ho ?U ut ?F ?N ?turn ?done
  case hh => assumption
  case F => assumption
  case N => assumption
  case hl => k_mem
  case U => k_extra "j.upd"
  case turn =>
    intro I pre k post o₁ v h' tk oI e hk hi hlt F' N'
    try dsimp only at hlt N'
    simp only [AllLt, and_true] at hlt
    k_extra "j.steps"
    k_extra "j.turn"
    rw [List.foldl_append]; assumption
  case done =>
    intro h' tk o₁ u hi F' N'
    try dsimp only at N'
    k_extra "j.steps"
    rw [fold_del] at hi
    exact h _ _ _ _ ⟨_, ⟨rfl, hi⟩, rfl⟩ (by assumption) (by assumption) (by assumption) (by assumption)
theorem iu_c (lo : (t == sysModules) = false) (lo2 : (u == sysModules) = false) (ho : IsD prog w o ks) (hp : IsD prog w p qs) (xt : x ≠ t) (dt : dx ≠ t) (yt : y ≠ t) (et : dy ≠ t) (ut : u ≠ t) (xy : x ≠ y) :
    Ctr prog w 5 85 [.ref x, .ref y] [(t, o), (x, instObj 270 dx), (dx, dictOf [⟨hx, .str "table" tkx, .ref t⟩] n), (y, instObj 270 dy), (dy, dictOf [⟨hy, .str "table" tky, .ref u⟩] n'), (u, p)]
      (fun r ft => ∃ o', (r = .none ∧ IsD prog w o' (itr ks qs)) ∧ ft = [(t, o'), (x, instObj 270 dx), (dx, dictOf [⟨hx, .str "table" tkx, .ref t⟩] n), (y, instObj 270 dy), (dy, dictOf [⟨hy, .str "table" tky, .ref u⟩] n'), (u, p)]) := by
  intro A₀ A s base h₀ outer L m env R C N h
  k_extra "j.enter"
  k_extra "j.steps"
  refine' loop_list_U (x := "item") (t := t) (fun p a => IsD prog w a (p.foldl (kpp qs) ks)) ?hh ?hl ?hv ho ?U ?ne ?F ?N ?turn ?done
  case hh => assumption
  case F => assumption
  case N => assumption
  case hl => k_mem
  case hv => assumption
  case U => k_extra "j.upd"
  case ne => omega
  case turn =>
    intro I pre k post o₁ v h' tk oI e hk hi hlt F' N'
    try dsimp only at hlt N'
    simp only [AllLt, and_true] at hlt
    have hm : k ∈ pre.foldl (kpp qs) ks := by
      have hn := ho.nodup
      rw [e] at hn ⊢; exact mem_kpp hn
    by_cases hkq : k ∈ qs
    · k_extra "j.steps"
      k_extra "j.turn"
      rw [List.foldl_append]; show IsD prog w _ (kpp qs _ k); unfold kpp; rw [if_pos hkq]; assumption
    · k_extra "j.steps"
      k_extra "j.turn"
      rw [List.foldl_append]; show IsD prog w _ (kpp qs _ k); unfold kpp; rw [if_neg hkq]; assumption
  case done =>
    intro h' tk o₁ u hi F' N'
    try dsimp only at N'
    k_extra "j.steps"
    rw [fold_kpp_self] at hi
    exact h _ _ _ _ ⟨_, ⟨rfl, hi⟩, rfl⟩ (by assumption) (by k_extra "j.perm") (by assumption) (by k_extra "j.fresh")
end
theorem say6 : True := by
  k_with "j.call ref" => ((k_here; (with_reducible show wpAny _ _ (call (Value.ref 78) _) _ _ _); refine wpAny_call ?_; k_dflt (refine' Ctr.turn (uu_c ?lo_z49 ?lo2_z49 ?ho_z49 ?hp_z49 ?xt_z49 ?dt_z49 ?yt_z49 ?et_z49 ?ut_z49 ?xy_z49) ?C_z49 ?N_z49 ?sub_z49 ?U_z49 ?_; (case C_z49 => k_extra "j.cx"); (case N_z49 => k_asm); (case sub_z49 => k_extra "j.sub"); (case U_z49 => k_updF); (case lo_z49 => assumption); (case lo2_z49 => assumption); (case ho_z49 => assumption); (case hp_z49 => assumption); (case xt_z49 => k_extra "j.ne"); (case dt_z49 => k_extra "j.ne"); (case yt_z49 => k_extra "j.ne"); (case et_z49 => k_extra "j.ne"); (case ut_z49 => k_extra "j.ne"); (case xy_z49 => k_extra "j.ne")); intro h'w tk'w v'w o'w P'w F'w N'w; obtain ⟨e'w, D'w⟩ := P'w; subst e'w; (try dsimp only at N'w); (try dsimp only [PySem.W.CmpBack, PySem.W.LenBack, PySem.W.BoolBack]); (try k_sweep)))
  k_with "j.call ref" => ((k_here; (with_reducible show wpAny _ _ (call (Value.ref 85) _) _ _ _); refine wpAny_call ?_; k_dflt (refine' Ctr.turn (iu_c ?lo_z50 ?lo2_z50 ?ho_z50 ?hp_z50 ?xt_z50 ?dt_z50 ?yt_z50 ?et_z50 ?ut_z50 ?xy_z50) ?C_z50 ?N_z50 ?sub_z50 ?U_z50 ?_; (case C_z50 => k_extra "j.cx"); (case N_z50 => k_asm); (case sub_z50 => k_extra "j.sub"); (case U_z50 => k_updF); (case lo_z50 => assumption); (case lo2_z50 => assumption); (case ho_z50 => assumption); (case hp_z50 => assumption); (case xt_z50 => k_extra "j.ne"); (case dt_z50 => k_extra "j.ne"); (case yt_z50 => k_extra "j.ne"); (case et_z50 => k_extra "j.ne"); (case ut_z50 => k_extra "j.ne"); (case xy_z50 => k_extra "j.ne")); intro h'w tk'w v'w o'w P'w F'w N'w; obtain ⟨e'w, D'w⟩ := P'w; subst e'w; (try dsimp only at N'w); (try dsimp only [PySem.W.CmpBack, PySem.W.LenBack, PySem.W.BoolBack]); (try k_sweep)))
  k_with "j.call ref" => ((k_here; (with_reducible show wpAny _ _ (call (Value.ref 92) _) _ _ _); refine wpAny_call ?_; k_dflt (refine' Ctr.turn (du_c ?lo_z51 ?lo2_z51 ?ho_z51 ?hp_z51 ?xt_z51 ?dt_z51 ?yt_z51 ?et_z51 ?ut_z51 ?xy_z51) ?C_z51 ?N_z51 ?sub_z51 ?U_z51 ?_; (case C_z51 => k_extra "j.cx"); (case N_z51 => k_asm); (case sub_z51 => k_extra "j.sub"); (case U_z51 => k_updF); (case lo_z51 => assumption); (case lo2_z51 => assumption); (case ho_z51 => assumption); (case hp_z51 => assumption); (case xt_z51 => k_extra "j.ne"); (case dt_z51 => k_extra "j.ne"); (case yt_z51 => k_extra "j.ne"); (case et_z51 => k_extra "j.ne"); (case ut_z51 => k_extra "j.ne"); (case xy_z51 => k_extra "j.ne")); intro h'w tk'w v'w o'w P'w F'w N'w; obtain ⟨e'w, D'w⟩ := P'w; subst e'w; (try dsimp only at N'w); (try dsimp only [PySem.W.CmpBack, PySem.W.LenBack, PySem.W.BoolBack]); (try k_sweep)))
  trivial

section
variable {prog : Program} {w : World} {x dx t y dy u : Nat} {n n' : Nat} {hx hy : Int} {tkx tky : Tok} {o p : Obj} {ks qs : List PK} {ro : List (Addr × Obj)}
theorem uu_s (lo : (t == sysModules) = false) (ho : IsD prog w o ks) (xt : x ≠ t) (dt : dx ≠ t) :
    Ctr prog w 3 78 [.ref x, .ref x] [(t, o), (x, instObj 270 dx), (dx, dictOf [⟨hx, .str "table" tkx, .ref t⟩] n)]
      (fun r ft => ∃ o', (r = .none ∧ IsD prog w o' ks) ∧ ft = [(t, o'), (x, instObj 270 dx), (dx, dictOf [⟨hx, .str "table" tkx, .ref t⟩] n)]) := by
  intro A₀ A s base h₀ outer L m env R C N h
  k_extra "j.enter"
  k_extra "j.steps"
  exact h _ _ _ _ ⟨_, ⟨rfl, by assumption⟩, rfl⟩ (by assumption) (by assumption) (by assumption) (by assumption)
theorem iu_s (lo : (t == sysModules) = false) (ho : IsD prog w o ks) (xt : x ≠ t) (dt : dx ≠ t) :
    Ctr prog w 3 85 [.ref x, .ref x] [(t, o), (x, instObj 270 dx), (dx, dictOf [⟨hx, .str "table" tkx, .ref t⟩] n)]
      (fun r ft => ∃ o', (r = .none ∧ IsD prog w o' ks) ∧ ft = [(t, o'), (x, instObj 270 dx), (dx, dictOf [⟨hx, .str "table" tkx, .ref t⟩] n)]) := by
  intro A₀ A s base h₀ outer L m env R C N h
  k_extra "j.enter"
  k_extra "j.steps"
  exact h _ _ _ _ ⟨_, ⟨rfl, by assumption⟩, rfl⟩ (by assumption) (by assumption) (by assumption) (by assumption)
theorem du_s (lo : (t == sysModules) = false) (ho : IsD prog w o ks) (xt : x ≠ t) (dt : dx ≠ t) :
    Ctr prog w 3 92 [.ref x, .ref x] [(t, o), (x, instObj 270 dx), (dx, dictOf [⟨hx, .str "table" tkx, .ref t⟩] n)]
      (fun r ft => ∃ o', (r = .none ∧ IsD prog w o' []) ∧ ft = [(t, o'), (x, instObj 270 dx), (dx, dictOf [⟨hx, .str "table" tkx, .ref t⟩] n)]) := by
  intro A₀ A s base h₀ outer L m env R C N h
  k_extra "j.enter"
  k_extra "j.steps"
  exact h _ _ _ _ ⟨_, ⟨rfl, by assumption⟩, rfl⟩ (by assumption) (by assumption) (by assumption) (by assumption)
theorem sdu_s (lo : (t == sysModules) = false) (ho : IsD prog w o ks) (xt : x ≠ t) (dt : dx ≠ t) :
    Ctr prog w 3 99 [.ref x, .ref x] [(t, o), (x, instObj 270 dx), (dx, dictOf [⟨hx, .str "table" tkx, .ref t⟩] n)]
      (fun r ft => ∃ o', (r = .none ∧ IsD prog w o' []) ∧ ft = [(t, o'), (x, instObj 270 dx), (dx, dictOf [⟨hx, .str "table" tkx, .ref t⟩] n)]) := by
  intro A₀ A s base h₀ outer L m env R C N h
  k_extra "j.enter"
  k_extra "j.steps"
  exact h _ _ _ _ ⟨_, ⟨rfl, by assumption⟩, rfl⟩ (by assumption) (by assumption) (by assumption) (by assumption)
end
theorem say7 : True := by
  k_with "j.call ref" => ((k_here; (with_reducible show wpAny _ _ (call (Value.ref 78) [Value.ref ?ja_z52, Value.ref ?ja_z52]) _ _ _); refine wpAny_call ?_; k_dflt (refine' Ctr.turn (uu_s ?lo_z52 ?ho_z52 ?xt_z52 ?dt_z52) ?C_z52 ?N_z52 ?sub_z52 ?U_z52 ?_; (case C_z52 => k_extra "j.cx"); (case N_z52 => k_asm); (case sub_z52 => k_extra "j.sub"); (case U_z52 => k_updF); (case lo_z52 => assumption); (case ho_z52 => assumption); (case xt_z52 => k_extra "j.ne"); (case dt_z52 => k_extra "j.ne")); intro h'w tk'w v'w o'w P'w F'w N'w; obtain ⟨e'w, D'w⟩ := P'w; subst e'w; (try dsimp only at N'w); (try dsimp only [PySem.W.CmpBack, PySem.W.LenBack, PySem.W.BoolBack]); (try k_sweep)))
  k_with "j.call ref" => ((k_here; (with_reducible show wpAny _ _ (call (Value.ref 85) [Value.ref ?ja_z53, Value.ref ?ja_z53]) _ _ _); refine wpAny_call ?_; k_dflt (refine' Ctr.turn (iu_s ?lo_z53 ?ho_z53 ?xt_z53 ?dt_z53) ?C_z53 ?N_z53 ?sub_z53 ?U_z53 ?_; (case C_z53 => k_extra "j.cx"); (case N_z53 => k_asm); (case sub_z53 => k_extra "j.sub"); (case U_z53 => k_updF); (case lo_z53 => assumption); (case ho_z53 => assumption); (case xt_z53 => k_extra "j.ne"); (case dt_z53 => k_extra "j.ne")); intro h'w tk'w v'w o'w P'w F'w N'w; obtain ⟨e'w, D'w⟩ := P'w; subst e'w; (try dsimp only at N'w); (try dsimp only [PySem.W.CmpBack, PySem.W.LenBack, PySem.W.BoolBack]); (try k_sweep)))
  k_with "j.call ref" => ((k_here; (with_reducible show wpAny _ _ (call (Value.ref 92) [Value.ref ?ja_z54, Value.ref ?ja_z54]) _ _ _); refine wpAny_call ?_; k_dflt (refine' Ctr.turn (du_s ?lo_z54 ?ho_z54 ?xt_z54 ?dt_z54) ?C_z54 ?N_z54 ?sub_z54 ?U_z54 ?_; (case C_z54 => k_extra "j.cx"); (case N_z54 => k_asm); (case sub_z54 => k_extra "j.sub"); (case U_z54 => k_updF); (case lo_z54 => assumption); (case ho_z54 => assumption); (case xt_z54 => k_extra "j.ne"); (case dt_z54 => k_extra "j.ne")); intro h'w tk'w v'w o'w P'w F'w N'w; obtain ⟨e'w, D'w⟩ := P'w; subst e'w; (try dsimp only at N'w); (try dsimp only [PySem.W.CmpBack, PySem.W.LenBack, PySem.W.BoolBack]); (try k_sweep)))
  k_with "j.call ref" => ((k_here; (with_reducible show wpAny _ _ (call (Value.ref 99) [Value.ref ?ja_z55, Value.ref ?ja_z55]) _ _ _); refine wpAny_call ?_; k_dflt (refine' Ctr.turn (sdu_s ?lo_z55 ?ho_z55 ?xt_z55 ?dt_z55) ?C_z55 ?N_z55 ?sub_z55 ?U_z55 ?_; (case C_z55 => k_extra "j.cx"); (case N_z55 => k_asm); (case sub_z55 => k_extra "j.sub"); (case U_z55 => k_updF); (case lo_z55 => assumption); (case ho_z55 => assumption); (case xt_z55 => k_extra "j.ne"); (case dt_z55 => k_extra "j.ne")); intro h'w tk'w v'w o'w P'w F'w N'w; obtain ⟨e'w, D'w⟩ := P'w; subst e'w; (try dsimp only at N'w); (try dsimp only [PySem.W.CmpBack, PySem.W.LenBack, PySem.W.BoolBack]); (try k_sweep)))
  trivial

section
variable {prog : Program} {w : World} {x dx t y dy u : Nat} {n n' : Nat} {hx hy : Int} {tkx tky : Tok} {o p : Obj} {ks qs : List PK} {ro : List (Addr × Obj)}
theorem inter_c (lo : (t == sysModules) = false) (lo2 : (u == sysModules) = false) (ho : IsD prog w o ks) (hp : IsD prog w p qs) (mx : (x, instObj 270 dx) ∈ ro) (md : (dx, dictOf [⟨hx, .str "table" tkx, .ref t⟩] n) ∈ ro) (mt : (t, o) ∈ ro) (my : (y, instObj 270 dy) ∈ ro) (me : (dy, dictOf [⟨hy, .str "table" tky, .ref u⟩] n') ∈ ro) (mu : (u, p) ∈ ro) :
    Ctr prog w 9 113 [.ref x, .ref y] ro (Makes prog w (itr ks qs) ro) := by
  intro A₀ A s base h₀ outer L m env R C N h
  k_extra "j.enter"
  k_extra "j.steps"
  k_extra "j.make"
  assumption
end
theorem say8 : True := by
  k_with "j.call ref" => ((k_here; (with_reducible show wpAny _ _ (call (Value.ref 113) _) _ _ _); refine wpAny_call ?_; k_dflt (refine' Ctr.make (inter_c ?lo_z56 ?lo2_z56 ?ho_z56 ?hp_z56 ?mx_z56 ?md_z56 ?mt_z56 ?my_z56 ?me_z56 ?mu_z56) ?C_z56 ?N_z56 ?_; (case C_z56 => k_extra "j.cx"); (case N_z56 => k_asm); (case mx_z56 => k_mem); (case md_z56 => k_mem); (case mt_z56 => k_mem); (case my_z56 => k_mem); (case me_z56 => k_mem); (case mu_z56 => k_mem); (case lo_z56 => assumption); (case lo2_z56 => assumption); (case ho_z56 => assumption); (case hp_z56 => assumption)); intro h'w tk'w x'w dx'w t'w n'w hx'w tkx'w o'w NS'w l1 F'w N'w; obtain ⟨lo'w, D'w, xd'w, xt'w⟩ := NS'w; (replace xd'w := ltN xd'w); (replace xt'w := ltN xt'w); dsimp only [S3] at N'w; (try simp only [AllLt, and_true] at l1); (try dsimp only [PySem.W.CmpBack, PySem.W.LenBack, PySem.W.BoolBack]); (try k_sweep)))
  trivial

section
variable {prog : Program} {w : World} {x dx t y dy u : Nat} {n n' : Nat} {hx hy : Int} {tkx tky : Tok} {o p : Obj} {ks qs : List PK} {ro : List (Addr × Obj)}
theorem sym_post {o' : Obj} (h : IsD prog w o' (dif (ks ++ dif qs ks) (itr ks qs))) : IsD prog w o' (dif ks qs ++ dif qs ks) := by
  rw [← fold_del, sym_eq] at h; exact h
theorem sdu_c (lo : (t == sysModules) = false) (lo2 : (u == sysModules) = false) (ho : IsD prog w o ks) (hp : IsD prog w p qs) (xt : x ≠ t) (dt : dx ≠ t) (yt : y ≠ t) (et : dy ≠ t) (ut : u ≠ t) (xy : x ≠ y) :
    Ctr prog w 11 99 [.ref x, .ref y] [(t, o), (x, instObj 270 dx), (dx, dictOf [⟨hx, .str "table" tkx, .ref t⟩] n), (y, instObj 270 dy), (dy, dictOf [⟨hy, .str "table" tky, .ref u⟩] n'), (u, p)]
      (fun r ft => ∃ o', (r = .none ∧ IsD prog w o' (dif ks qs ++ dif qs ks)) ∧ ft = [(t, o'), (x, instObj 270 dx), (dx, dictOf [⟨hx, .str "table" tkx, .ref t⟩] n), (y, instObj 270 dy), (dy, dictOf [⟨hy, .str "table" tky, .ref u⟩] n'), (u, p)]) := by
  intro A₀ A s base h₀ outer L m env R C N h
  k_extra "j.enter"
  k_extra "j.steps"
  exact h _ _ _ _ ⟨_, ⟨rfl, sym_post (by assumption)⟩, rfl⟩ (by assumption) (by k_extra "j.perm") (by assumption) (by k_extra "j.fresh")
end
theorem say9 : True := by
  k_with "j.call ref" => ((k_here; (with_reducible show wpAny _ _ (call (Value.ref 99) _) _ _ _); refine wpAny_call ?_; k_dflt (refine' Ctr.turn (sdu_c ?lo_z57 ?lo2_z57 ?ho_z57 ?hp_z57 ?xt_z57 ?dt_z57 ?yt_z57 ?et_z57 ?ut_z57 ?xy_z57) ?C_z57 ?N_z57 ?sub_z57 ?U_z57 ?_; (case C_z57 => k_extra "j.cx"); (case N_z57 => k_asm); (case sub_z57 => k_extra "j.sub"); (case U_z57 => k_updF); (case lo_z57 => assumption); (case lo2_z57 => assumption); (case ho_z57 => assumption); (case hp_z57 => assumption); (case xt_z57 => k_extra "j.ne"); (case dt_z57 => k_extra "j.ne"); (case yt_z57 => k_extra "j.ne"); (case et_z57 => k_extra "j.ne"); (case ut_z57 => k_extra "j.ne"); (case xy_z57 => k_extra "j.ne")); intro h'w tk'w v'w o'w P'w F'w N'w; obtain ⟨e'w, D'w⟩ := P'w; subst e'w; (try dsimp only at N'w); (try dsimp only [PySem.W.CmpBack, PySem.W.LenBack, PySem.W.BoolBack]); (try k_sweep)))
  trivial

section
variable {prog : Program} {w : World} {x dx t y dy u : Nat} {n n' : Nat} {hx hy : Int} {tkx tky : Tok} {o p : Obj} {ks qs : List PK} {ro : List (Addr × Obj)}
theorem union_c (lo : (t == sysModules) = false) (lo2 : (u == sysModules) = false) (ho : IsD prog w o ks) (hp : IsD prog w p qs) (mx : (x, instObj 270 dx) ∈ ro) (md : (dx, dictOf [⟨hx, .str "table" tkx, .ref t⟩] n) ∈ ro) (mt : (t, o) ∈ ro) (my : (y, instObj 270 dy) ∈ ro) (me : (dy, dictOf [⟨hy, .str "table" tky, .ref u⟩] n') ∈ ro) (mu : (u, p) ∈ ro) :
    Ctr prog w 13 106 [.ref x, .ref y] ro (Makes prog w (ks ++ dif qs ks) ro) := by
  intro A₀ A s base h₀ outer L m env R C N h
  k_extra "j.enter"
  k_extra "j.steps"
  k_extra "j.make"
  assumption
theorem diff_c (lo : (t == sysModules) = false) (lo2 : (u == sysModules) = false) (ho : IsD prog w o ks) (hp : IsD prog w p qs) (mx : (x, instObj 270 dx) ∈ ro) (md : (dx, dictOf [⟨hx, .str "table" tkx, .ref t⟩] n) ∈ ro) (mt : (t, o) ∈ ro) (my : (y, instObj 270 dy) ∈ ro) (me : (dy, dictOf [⟨hy, .str "table" tky, .ref u⟩] n') ∈ ro) (mu : (u, p) ∈ ro) :
    Ctr prog w 13 120 [.ref x, .ref y] ro (Makes prog w (dif ks qs) ro) := by
  intro A₀ A s base h₀ outer L m env R C N h
  k_extra "j.enter"
  k_extra "j.steps"
  k_extra "j.make"
  assumption
theorem symd_c (lo : (t == sysModules) = false) (lo2 : (u == sysModules) = false) (ho : IsD prog w o ks) (hp : IsD prog w p qs) (mx : (x, instObj 270 dx) ∈ ro) (md : (dx, dictOf [⟨hx, .str "table" tkx, .ref t⟩] n) ∈ ro) (mt : (t, o) ∈ ro) (my : (y, instObj 270 dy) ∈ ro) (me : (dy, dictOf [⟨hy, .str "table" tky, .ref u⟩] n') ∈ ro) (mu : (u, p) ∈ ro) :
    Ctr prog w 13 127 [.ref x, .ref y] ro (Makes prog w (dif ks qs ++ dif qs ks) ro) := by
  intro A₀ A s base h₀ outer L m env R C N h
  k_extra "j.enter"
  k_extra "j.steps"
  k_extra "j.make"
  assumption
end
theorem say10 : True := by
  k_with "j.call ref" => ((k_here; (with_reducible show wpAny _ _ (call (Value.ref 106) _) _ _ _); refine wpAny_call ?_; k_dflt (refine' Ctr.make (union_c ?lo_z58 ?lo2_z58 ?ho_z58 ?hp_z58 ?mx_z58 ?md_z58 ?mt_z58 ?my_z58 ?me_z58 ?mu_z58) ?C_z58 ?N_z58 ?_; (case C_z58 => k_extra "j.cx"); (case N_z58 => k_asm); (case mx_z58 => k_mem); (case md_z58 => k_mem); (case mt_z58 => k_mem); (case my_z58 => k_mem); (case me_z58 => k_mem); (case mu_z58 => k_mem); (case lo_z58 => assumption); (case lo2_z58 => assumption); (case ho_z58 => assumption); (case hp_z58 => assumption)); intro h'w tk'w x'w dx'w t'w n'w hx'w tkx'w o'w NS'w l1 F'w N'w; obtain ⟨lo'w, D'w, xd'w, xt'w⟩ := NS'w; (replace xd'w := ltN xd'w); (replace xt'w := ltN xt'w); dsimp only [S3] at N'w; (try simp only [AllLt, and_true] at l1); (try dsimp only [PySem.W.CmpBack, PySem.W.LenBack, PySem.W.BoolBack]); (try k_sweep)))
  k_with "j.call ref" => ((k_here; (with_reducible show wpAny _ _ (call (Value.ref 120) _) _ _ _); refine wpAny_call ?_; k_dflt (refine' Ctr.make (diff_c ?lo_z59 ?lo2_z59 ?ho_z59 ?hp_z59 ?mx_z59 ?md_z59 ?mt_z59 ?my_z59 ?me_z59 ?mu_z59) ?C_z59 ?N_z59 ?_; (case C_z59 => k_extra "j.cx"); (case N_z59 => k_asm); (case mx_z59 => k_mem); (case md_z59 => k_mem); (case mt_z59 => k_mem); (case my_z59 => k_mem); (case me_z59 => k_mem); (case mu_z59 => k_mem); (case lo_z59 => assumption); (case lo2_z59 => assumption); (case ho_z59 => assumption); (case hp_z59 => assumption)); intro h'w tk'w x'w dx'w t'w n'w hx'w tkx'w o'w NS'w l1 F'w N'w; obtain ⟨lo'w, D'w, xd'w, xt'w⟩ := NS'w; (replace xd'w := ltN xd'w); (replace xt'w := ltN xt'w); dsimp only [S3] at N'w; (try simp only [AllLt, and_true] at l1); (try dsimp only [PySem.W.CmpBack, PySem.W.LenBack, PySem.W.BoolBack]); (try k_sweep)))
  k_with "j.call ref" => ((k_here; (with_reducible show wpAny _ _ (call (Value.ref 127) _) _ _ _); refine wpAny_call ?_; k_dflt (refine' Ctr.make (symd_c ?lo_z60 ?lo2_z60 ?ho_z60 ?hp_z60 ?mx_z60 ?md_z60 ?mt_z60 ?my_z60 ?me_z60 ?mu_z60) ?C_z60 ?N_z60 ?_; (case C_z60 => k_extra "j.cx"); (case N_z60 => k_asm); (case mx_z60 => k_mem); (case md_z60 => k_mem); (case mt_z60 => k_mem); (case my_z60 => k_mem); (case me_z60 => k_mem); (case mu_z60 => k_mem); (case lo_z60 => assumption); (case lo2_z60 => assumption); (case ho_z60 => assumption); (case hp_z60 => assumption)); intro h'w tk'w x'w dx'w t'w n'w hx'w tkx'w o'w NS'w l1 F'w N'w; obtain ⟨lo'w, D'w, xd'w, xt'w⟩ := NS'w; (replace xd'w := ltN xd'w); (replace xt'w := ltN xt'w); dsimp only [S3] at N'w; (try simp only [AllLt, and_true] at l1); (try dsimp only [PySem.W.CmpBack, PySem.W.LenBack, PySem.W.BoolBack]); (try k_sweep)))
  trivial

section
variable {prog : Program} {w : World} {x dx t y dy u : Nat} {n n' : Nat} {hx hy : Int} {tkx tky : Tok} {o p : Obj} {ks qs : List PK} {ro : List (Addr × Obj)}
theorem or_c (lo : (t == sysModules) = false) (lo2 : (u == sysModules) = false) (ho : IsD prog w o ks) (hp : IsD prog w p qs) (mx : (x, instObj 270 dx) ∈ ro) (md : (dx, dictOf [⟨hx, .str "table" tkx, .ref t⟩] n) ∈ ro) (mt : (t, o) ∈ ro) (my : (y, instObj 270 dy) ∈ ro) (me : (dy, dictOf [⟨hy, .str "table" tky, .ref u⟩] n') ∈ ro) (mu : (u, p) ∈ ro) :
    Ctr prog w 14 134 [.ref x, .ref y] ro (Makes prog w (ks ++ dif qs ks) ro) := by
  intro A₀ A s base h₀ outer L m env R C N h
  k_extra "j.enter"
  k_extra "j.steps"
  k_extra "j.make"
  assumption
theorem and_c (lo : (t == sysModules) = false) (lo2 : (u == sysModules) = false) (ho : IsD prog w o ks) (hp : IsD prog w p qs) (mx : (x, instObj 270 dx) ∈ ro) (md : (dx, dictOf [⟨hx, .str "table" tkx, .ref t⟩] n) ∈ ro) (mt : (t, o) ∈ ro) (my : (y, instObj 270 dy) ∈ ro) (me : (dy, dictOf [⟨hy, .str "table" tky, .ref u⟩] n') ∈ ro) (mu : (u, p) ∈ ro) :
    Ctr prog w 14 141 [.ref x, .ref y] ro (Makes prog w (itr ks qs) ro) := by
  intro A₀ A s base h₀ outer L m env R C N h
  k_extra "j.enter"
  k_extra "j.steps"
  k_extra "j.make"
  assumption
theorem add_op_c (lo : (t == sysModules) = false) (lo2 : (u == sysModules) = false) (ho : IsD prog w o ks) (hp : IsD prog w p qs) (mx : (x, instObj 270 dx) ∈ ro) (md : (dx, dictOf [⟨hx, .str "table" tkx, .ref t⟩] n) ∈ ro) (mt : (t, o) ∈ ro) (my : (y, instObj 270 dy) ∈ ro) (me : (dy, dictOf [⟨hy, .str "table" tky, .ref u⟩] n') ∈ ro) (mu : (u, p) ∈ ro) :
    Ctr prog w 14 148 [.ref x, .ref y] ro (Makes prog w (ks ++ dif qs ks) ro) := by
  intro A₀ A s base h₀ outer L m env R C N h
  k_extra "j.enter"
  k_extra "j.steps"
  k_extra "j.make"
  assumption
theorem sub_c (lo : (t == sysModules) = false) (lo2 : (u == sysModules) = false) (ho : IsD prog w o ks) (hp : IsD prog w p qs) (mx : (x, instObj 270 dx) ∈ ro) (md : (dx, dictOf [⟨hx, .str "table" tkx, .ref t⟩] n) ∈ ro) (mt : (t, o) ∈ ro) (my : (y, instObj 270 dy) ∈ ro) (me : (dy, dictOf [⟨hy, .str "table" tky, .ref u⟩] n') ∈ ro) (mu : (u, p) ∈ ro) :
    Ctr prog w 14 155 [.ref x, .ref y] ro (Makes prog w (dif ks qs) ro) := by
  intro A₀ A s base h₀ outer L m env R C N h
  k_extra "j.enter"
  k_extra "j.steps"
  k_extra "j.make"
  assumption
theorem xor_c (lo : (t == sysModules) = false) (lo2 : (u == sysModules) = false) (ho : IsD prog w o ks) (hp : IsD prog w p qs) (mx : (x, instObj 270 dx) ∈ ro) (md : (dx, dictOf [⟨hx, .str "table" tkx, .ref t⟩] n) ∈ ro) (mt : (t, o) ∈ ro) (my : (y, instObj 270 dy) ∈ ro) (me : (dy, dictOf [⟨hy, .str "table" tky, .ref u⟩] n') ∈ ro) (mu : (u, p) ∈ ro) :
    Ctr prog w 14 162 [.ref x, .ref y] ro (Makes prog w (dif ks qs ++ dif qs ks) ro) := by
  intro A₀ A s base h₀ outer L m env R C N h
  k_extra "j.enter"
  k_extra "j.steps"
  k_extra "j.make"
  assumption
end
theorem say11 : True := by
  k_with "j.call ref" => ((k_here; (with_reducible show wpAny _ _ (call (Value.ref 134) _) _ _ _); refine wpAny_call ?_; k_dflt (refine' Ctr.make (or_c ?lo_z61 ?lo2_z61 ?ho_z61 ?hp_z61 ?mx_z61 ?md_z61 ?mt_z61 ?my_z61 ?me_z61 ?mu_z61) ?C_z61 ?N_z61 ?_; (case C_z61 => k_extra "j.cx"); (case N_z61 => k_asm); (case mx_z61 => k_mem); (case md_z61 => k_mem); (case mt_z61 => k_mem); (case my_z61 => k_mem); (case me_z61 => k_mem); (case mu_z61 => k_mem); (case lo_z61 => assumption); (case lo2_z61 => assumption); (case ho_z61 => assumption); (case hp_z61 => assumption)); intro h'w tk'w x'w dx'w t'w n'w hx'w tkx'w o'w NS'w l1 F'w N'w; obtain ⟨lo'w, D'w, xd'w, xt'w⟩ := NS'w; (replace xd'w := ltN xd'w); (replace xt'w := ltN xt'w); dsimp only [S3] at N'w; (try simp only [AllLt, and_true] at l1); (try dsimp only [PySem.W.CmpBack, PySem.W.LenBack, PySem.W.BoolBack]); (try k_sweep)))
  k_with "j.call ref" => ((k_here; (with_reducible show wpAny _ _ (call (Value.ref 141) _) _ _ _); refine wpAny_call ?_; k_dflt (refine' Ctr.make (and_c ?lo_z62 ?lo2_z62 ?ho_z62 ?hp_z62 ?mx_z62 ?md_z62 ?mt_z62 ?my_z62 ?me_z62 ?mu_z62) ?C_z62 ?N_z62 ?_; (case C_z62 => k_extra "j.cx"); (case N_z62 => k_asm); (case mx_z62 => k_mem); (case md_z62 => k_mem); (case mt_z62 => k_mem); (case my_z62 => k_mem); (case me_z62 => k_mem); (case mu_z62 => k_mem); (case lo_z62 => assumption); (case lo2_z62 => assumption); (case ho_z62 => assumption); (case hp_z62 => assumption)); intro h'w tk'w x'w dx'w t'w n'w hx'w tkx'w o'w NS'w l1 F'w N'w; obtain ⟨lo'w, D'w, xd'w, xt'w⟩ := NS'w; (replace xd'w := ltN xd'w); (replace xt'w := ltN xt'w); dsimp only [S3] at N'w; (try simp only [AllLt, and_true] at l1); (try dsimp only [PySem.W.CmpBack, PySem.W.LenBack, PySem.W.BoolBack]); (try k_sweep)))
  k_with "j.call ref" => ((k_here; (with_reducible show wpAny _ _ (call (Value.ref 148) _) _ _ _); refine wpAny_call ?_; k_dflt (refine' Ctr.make (add_op_c ?lo_z63 ?lo2_z63 ?ho_z63 ?hp_z63 ?mx_z63 ?md_z63 ?mt_z63 ?my_z63 ?me_z63 ?mu_z63) ?C_z63 ?N_z63 ?_; (case C_z63 => k_extra "j.cx"); (case N_z63 => k_asm); (case mx_z63 => k_mem); (case md_z63 => k_mem); (case mt_z63 => k_mem); (case my_z63 => k_mem); (case me_z63 => k_mem); (case mu_z63 => k_mem); (case lo_z63 => assumption); (case lo2_z63 => assumption); (case ho_z63 => assumption); (case hp_z63 => assumption)); intro h'w tk'w x'w dx'w t'w n'w hx'w tkx'w o'w NS'w l1 F'w N'w; obtain ⟨lo'w, D'w, xd'w, xt'w⟩ := NS'w; (replace xd'w := ltN xd'w); (replace xt'w := ltN xt'w); dsimp only [S3] at N'w; (try simp only [AllLt, and_true] at l1); (try dsimp only [PySem.W.CmpBack, PySem.W.LenBack, PySem.W.BoolBack]); (try k_sweep)))
  k_with "j.call ref" => ((k_here; (with_reducible show wpAny _ _ (call (Value.ref 155) _) _ _ _); refine wpAny_call ?_; k_dflt (refine' Ctr.make (sub_c ?lo_z64 ?lo2_z64 ?ho_z64 ?hp_z64 ?mx_z64 ?md_z64 ?mt_z64 ?my_z64 ?me_z64 ?mu_z64) ?C_z64 ?N_z64 ?_; (case C_z64 => k_extra "j.cx"); (case N_z64 => k_asm); (case mx_z64 => k_mem); (case md_z64 => k_mem); (case mt_z64 => k_mem); (case my_z64 => k_mem); (case me_z64 => k_mem); (case mu_z64 => k_mem); (case lo_z64 => assumption); (case lo2_z64 => assumption); (case ho_z64 => assumption); (case hp_z64 => assumption)); intro h'w tk'w x'w dx'w t'w n'w hx'w tkx'w o'w NS'w l1 F'w N'w; obtain ⟨lo'w, D'w, xd'w, xt'w⟩ := NS'w; (replace xd'w := ltN xd'w); (replace xt'w := ltN xt'w); dsimp only [S3] at N'w; (try simp only [AllLt, and_true] at l1); (try dsimp only [PySem.W.CmpBack, PySem.W.LenBack, PySem.W.BoolBack]); (try k_sweep)))
  k_with "j.call ref" => ((k_here; (with_reducible show wpAny _ _ (call (Value.ref 162) _) _ _ _); refine wpAny_call ?_; k_dflt (refine' Ctr.make (xor_c ?lo_z65 ?lo2_z65 ?ho_z65 ?hp_z65 ?mx_z65 ?md_z65 ?mt_z65 ?my_z65 ?me_z65 ?mu_z65) ?C_z65 ?N_z65 ?_; (case C_z65 => k_extra "j.cx"); (case N_z65 => k_asm); (case mx_z65 => k_mem); (case md_z65 => k_mem); (case mt_z65 => k_mem); (case my_z65 => k_mem); (case me_z65 => k_mem); (case mu_z65 => k_mem); (case lo_z65 => assumption); (case lo2_z65 => assumption); (case ho_z65 => assumption); (case hp_z65 => assumption)); intro h'w tk'w x'w dx'w t'w n'w hx'w tkx'w o'w NS'w l1 F'w N'w; obtain ⟨lo'w, D'w, xd'w, xt'w⟩ := NS'w; (replace xd'w := ltN xd'w); (replace xt'w := ltN xt'w); dsimp only [S3] at N'w; (try simp only [AllLt, and_true] at l1); (try dsimp only [PySem.W.CmpBack, PySem.W.LenBack, PySem.W.BoolBack]); (try k_sweep)))
  trivial

section
variable {prog : Program} {w : World} {x dx t y dy u : Nat} {n n' : Nat} {hx hy : Int} {tkx tky : Tok} {o p : Obj} {ks qs : List PK} {ro : List (Addr × Obj)}
theorem ior_c (lo : (t == sysModules) = false) (lo2 : (u == sysModules) = false) (ho : IsD prog w o ks) (hp : IsD prog w p qs) (xt : x ≠ t) (dt : dx ≠ t) (yt : y ≠ t) (et : dy ≠ t) (ut : u ≠ t) (xy : x ≠ y) :
    Ctr prog w 13 169 [.ref x, .ref y] [(t, o), (x, instObj 270 dx), (dx, dictOf [⟨hx, .str "table" tkx, .ref t⟩] n), (y, instObj 270 dy), (dy, dictOf [⟨hy, .str "table" tky, .ref u⟩] n'), (u, p)]
      (fun r ft => ∃ o', (r = .ref x ∧ IsD prog w o' (ks ++ dif qs ks)) ∧ ft = [(t, o'), (x, instObj 270 dx), (dx, dictOf [⟨hx, .str "table" tkx, .ref t⟩] n), (y, instObj 270 dy), (dy, dictOf [⟨hy, .str "table" tky, .ref u⟩] n'), (u, p)]) := by
  intro A₀ A s base h₀ outer L m env R C N h
  k_extra "j.enter"
  k_extra "j.steps"
  exact h _ _ _ _ ⟨_, ⟨rfl, by assumption⟩, rfl⟩ (by assumption) (by assumption) (by assumption) (by assumption)
theorem ior_s (lo : (t == sysModules) = false) (ho : IsD prog w o ks) (xt : x ≠ t) (dt : dx ≠ t) :
    Ctr prog w 13 169 [.ref x, .ref x] [(t, o), (x, instObj 270 dx), (dx, dictOf [⟨hx, .str "table" tkx, .ref t⟩] n)]
      (fun r ft => ∃ o', (r = .ref x ∧ IsD prog w o' ks) ∧ ft = [(t, o'), (x, instObj 270 dx), (dx, dictOf [⟨hx, .str "table" tkx, .ref t⟩] n)]) := by
  intro A₀ A s base h₀ outer L m env R C N h
  k_extra "j.enter"
  k_extra "j.steps"
  exact h _ _ _ _ ⟨_, ⟨rfl, by assumption⟩, rfl⟩ (by assumption) (by assumption) (by assumption) (by assumption)
theorem iand_c (lo : (t == sysModules) = false) (lo2 : (u == sysModules) = false) (ho : IsD prog w o ks) (hp : IsD prog w p qs) (xt : x ≠ t) (dt : dx ≠ t) (yt : y ≠ t) (et : dy ≠ t) (ut : u ≠ t) (xy : x ≠ y) :
    Ctr prog w 13 176 [.ref x, .ref y] [(t, o), (x, instObj 270 dx), (dx, dictOf [⟨hx, .str "table" tkx, .ref t⟩] n), (y, instObj 270 dy), (dy, dictOf [⟨hy, .str "table" tky, .ref u⟩] n'), (u, p)]
      (fun r ft => ∃ o', (r = .ref x ∧ IsD prog w o' (itr ks qs)) ∧ ft = [(t, o'), (x, instObj 270 dx), (dx, dictOf [⟨hx, .str "table" tkx, .ref t⟩] n), (y, instObj 270 dy), (dy, dictOf [⟨hy, .str "table" tky, .ref u⟩] n'), (u, p)]) := by
  intro A₀ A s base h₀ outer L m env R C N h
  k_extra "j.enter"
  k_extra "j.steps"
  exact h _ _ _ _ ⟨_, ⟨rfl, by assumption⟩, rfl⟩ (by assumption) (by assumption) (by assumption) (by assumption)
theorem iand_s (lo : (t == sysModules) = false) (ho : IsD prog w o ks) (xt : x ≠ t) (dt : dx ≠ t) :
    Ctr prog w 13 176 [.ref x, .ref x] [(t, o), (x, instObj 270 dx), (dx, dictOf [⟨hx, .str "table" tkx, .ref t⟩] n)]
      (fun r ft => ∃ o', (r = .ref x ∧ IsD prog w o' ks) ∧ ft = [(t, o'), (x, instObj 270 dx), (dx, dictOf [⟨hx, .str "table" tkx, .ref t⟩] n)]) := by
  intro A₀ A s base h₀ outer L m env R C N h
  k_extra "j.enter"
  k_extra "j.steps"
  exact h _ _ _ _ ⟨_, ⟨rfl, by assumption⟩, rfl⟩ (by assumption) (by assumption) (by assumption) (by assumption)
theorem iadd_c (lo : (t == sysModules) = false) (lo2 : (u == sysModules) = false) (ho : IsD prog w o ks) (hp : IsD prog w p qs) (xt : x ≠ t) (dt : dx ≠ t) (yt : y ≠ t) (et : dy ≠ t) (ut : u ≠ t) (xy : x ≠ y) :
    Ctr prog w 13 183 [.ref x, .ref y] [(t, o), (x, instObj 270 dx), (dx, dictOf [⟨hx, .str "table" tkx, .ref t⟩] n), (y, instObj 270 dy), (dy, dictOf [⟨hy, .str "table" tky, .ref u⟩] n'), (u, p)]
      (fun r ft => ∃ o', (r = .ref x ∧ IsD prog w o' (ks ++ dif qs ks)) ∧ ft = [(t, o'), (x, instObj 270 dx), (dx, dictOf [⟨hx, .str "table" tkx, .ref t⟩] n), (y, instObj 270 dy), (dy, dictOf [⟨hy, .str "table" tky, .ref u⟩] n'), (u, p)]) := by
  intro A₀ A s base h₀ outer L m env R C N h
  k_extra "j.enter"
  k_extra "j.steps"
  exact h _ _ _ _ ⟨_, ⟨rfl, by assumption⟩, rfl⟩ (by assumption) (by assumption) (by assumption) (by assumption)
theorem iadd_s (lo : (t == sysModules) = false) (ho : IsD prog w o ks) (xt : x ≠ t) (dt : dx ≠ t) :
    Ctr prog w 13 183 [.ref x, .ref x] [(t, o), (x, instObj 270 dx), (dx, dictOf [⟨hx, .str "table" tkx, .ref t⟩] n)]
      (fun r ft => ∃ o', (r = .ref x ∧ IsD prog w o' ks) ∧ ft = [(t, o'), (x, instObj 270 dx), (dx, dictOf [⟨hx, .str "table" tkx, .ref t⟩] n)]) := by
  intro A₀ A s base h₀ outer L m env R C N h
  k_extra "j.enter"
  k_extra "j.steps"
  exact h _ _ _ _ ⟨_, ⟨rfl, by assumption⟩, rfl⟩ (by assumption) (by assumption) (by assumption) (by assumption)
theorem isub_c (lo : (t == sysModules) = false) (lo2 : (u == sysModules) = false) (ho : IsD prog w o ks) (hp : IsD prog w p qs) (xt : x ≠ t) (dt : dx ≠ t) (yt : y ≠ t) (et : dy ≠ t) (ut : u ≠ t) (xy : x ≠ y) :
    Ctr prog w 13 190 [.ref x, .ref y] [(t, o), (x, instObj 270 dx), (dx, dictOf [⟨hx, .str "table" tkx, .ref t⟩] n), (y, instObj 270 dy), (dy, dictOf [⟨hy, .str "table" tky, .ref u⟩] n'), (u, p)]
      (fun r ft => ∃ o', (r = .ref x ∧ IsD prog w o' (dif ks qs)) ∧ ft = [(t, o'), (x, instObj 270 dx), (dx, dictOf [⟨hx, .str "table" tkx, .ref t⟩] n), (y, instObj 270 dy), (dy, dictOf [⟨hy, .str "table" tky, .ref u⟩] n'), (u, p)]) := by
  intro A₀ A s base h₀ outer L m env R C N h
  k_extra "j.enter"
  k_extra "j.steps"
  exact h _ _ _ _ ⟨_, ⟨rfl, by assumption⟩, rfl⟩ (by assumption) (by assumption) (by assumption) (by assumption)
theorem isub_s (lo : (t == sysModules) = false) (ho : IsD prog w o ks) (xt : x ≠ t) (dt : dx ≠ t) :
    Ctr prog w 13 190 [.ref x, .ref x] [(t, o), (x, instObj 270 dx), (dx, dictOf [⟨hx, .str "table" tkx, .ref t⟩] n)]
      (fun r ft => ∃ o', (r = .ref x ∧ IsD prog w o' []) ∧ ft = [(t, o'), (x, instObj 270 dx), (dx, dictOf [⟨hx, .str "table" tkx, .ref t⟩] n)]) := by
  intro A₀ A s base h₀ outer L m env R C N h
  k_extra "j.enter"
  k_extra "j.steps"
  exact h _ _ _ _ ⟨_, ⟨rfl, by assumption⟩, rfl⟩ (by assumption) (by assumption) (by assumption) (by assumption)
theorem ixor_c (lo : (t == sysModules) = false) (lo2 : (u == sysModules) = false) (ho : IsD prog w o ks) (hp : IsD prog w p qs) (xt : x ≠ t) (dt : dx ≠ t) (yt : y ≠ t) (et : dy ≠ t) (ut : u ≠ t) (xy : x ≠ y) :
    Ctr prog w 13 197 [.ref x, .ref y] [(t, o), (x, instObj 270 dx), (dx, dictOf [⟨hx, .str "table" tkx, .ref t⟩] n), (y, instObj 270 dy), (dy, dictOf [⟨hy, .str "table" tky, .ref u⟩] n'), (u, p)]
      (fun r ft => ∃ o', (r = .ref x ∧ IsD prog w o' (dif ks qs ++ dif qs ks)) ∧ ft = [(t, o'), (x, instObj 270 dx), (dx, dictOf [⟨hx, .str "table" tkx, .ref t⟩] n), (y, instObj 270 dy), (dy, dictOf [⟨hy, .str "table" tky, .ref u⟩] n'), (u, p)]) := by
  intro A₀ A s base h₀ outer L m env R C N h
  k_extra "j.enter"
  k_extra "j.steps"
  exact h _ _ _ _ ⟨_, ⟨rfl, by assumption⟩, rfl⟩ (by assumption) (by assumption) (by assumption) (by assumption)
theorem ixor_s (lo : (t == sysModules) = false) (ho : IsD prog w o ks) (xt : x ≠ t) (dt : dx ≠ t) :
    Ctr prog w 13 197 [.ref x, .ref x] [(t, o), (x, instObj 270 dx), (dx, dictOf [⟨hx, .str "table" tkx, .ref t⟩] n)]
      (fun r ft => ∃ o', (r = .ref x ∧ IsD prog w o' []) ∧ ft = [(t, o'), (x, instObj 270 dx), (dx, dictOf [⟨hx, .str "table" tkx, .ref t⟩] n)]) := by
  intro A₀ A s base h₀ outer L m env R C N h
  k_extra "j.enter"
  k_extra "j.steps"
  exact h _ _ _ _ ⟨_, ⟨rfl, by assumption⟩, rfl⟩ (by assumption) (by assumption) (by assumption) (by assumption)
end
theorem say12 : True := by
  k_with "j.call ref" => ((k_here; (with_reducible show wpAny _ _ (call (Value.ref 169) _) _ _ _); refine wpAny_call ?_; k_dflt (refine' Ctr.turn (ior_c ?lo_z66 ?lo2_z66 ?ho_z66 ?hp_z66 ?xt_z66 ?dt_z66 ?yt_z66 ?et_z66 ?ut_z66 ?xy_z66) ?C_z66 ?N_z66 ?sub_z66 ?U_z66 ?_; (case C_z66 => k_extra "j.cx"); (case N_z66 => k_asm); (case sub_z66 => k_extra "j.sub"); (case U_z66 => k_updF); (case lo_z66 => assumption); (case lo2_z66 => assumption); (case ho_z66 => assumption); (case hp_z66 => assumption); (case xt_z66 => k_extra "j.ne"); (case dt_z66 => k_extra "j.ne"); (case yt_z66 => k_extra "j.ne"); (case et_z66 => k_extra "j.ne"); (case ut_z66 => k_extra "j.ne"); (case xy_z66 => k_extra "j.ne")); intro h'w tk'w v'w o'w P'w F'w N'w; obtain ⟨e'w, D'w⟩ := P'w; subst e'w; (try dsimp only at N'w); (try dsimp only [PySem.W.CmpBack, PySem.W.LenBack, PySem.W.BoolBack]); (try k_sweep)))
  k_with "j.call ref" => ((k_here; (with_reducible show wpAny _ _ (call (Value.ref 169) [Value.ref ?ja_z67, Value.ref ?ja_z67]) _ _ _); refine wpAny_call ?_; k_dflt (refine' Ctr.turn (ior_s ?lo_z67 ?ho_z67 ?xt_z67 ?dt_z67) ?C_z67 ?N_z67 ?sub_z67 ?U_z67 ?_; (case C_z67 => k_extra "j.cx"); (case N_z67 => k_asm); (case sub_z67 => k_extra "j.sub"); (case U_z67 => k_updF); (case lo_z67 => assumption); (case ho_z67 => assumption); (case xt_z67 => k_extra "j.ne"); (case dt_z67 => k_extra "j.ne")); intro h'w tk'w v'w o'w P'w F'w N'w; obtain ⟨e'w, D'w⟩ := P'w; subst e'w; (try dsimp only at N'w); (try dsimp only [PySem.W.CmpBack, PySem.W.LenBack, PySem.W.BoolBack]); (try k_sweep)))
  k_with "j.call ref" => ((k_here; (with_reducible show wpAny _ _ (call (Value.ref 176) _) _ _ _); refine wpAny_call ?_; k_dflt (refine' Ctr.turn (iand_c ?lo_z68 ?lo2_z68 ?ho_z68 ?hp_z68 ?xt_z68 ?dt_z68 ?yt_z68 ?et_z68 ?ut_z68 ?xy_z68) ?C_z68 ?N_z68 ?sub_z68 ?U_z68 ?_; (case C_z68 => k_extra "j.cx"); (case N_z68 => k_asm); (case sub_z68 => k_extra "j.sub"); (case U_z68 => k_updF); (case lo_z68 => assumption); (case lo2_z68 => assumption); (case ho_z68 => assumption); (case hp_z68 => assumption); (case xt_z68 => k_extra "j.ne"); (case dt_z68 => k_extra "j.ne"); (case yt_z68 => k_extra "j.ne"); (case et_z68 => k_extra "j.ne"); (case ut_z68 => k_extra "j.ne"); (case xy_z68 => k_extra "j.ne")); intro h'w tk'w v'w o'w P'w F'w N'w; obtain ⟨e'w, D'w⟩ := P'w; subst e'w; (try dsimp only at N'w); (try dsimp only [PySem.W.CmpBack, PySem.W.LenBack, PySem.W.BoolBack]); (try k_sweep)))
  k_with "j.call ref" => ((k_here; (with_reducible show wpAny _ _ (call (Value.ref 176) [Value.ref ?ja_z69, Value.ref ?ja_z69]) _ _ _); refine wpAny_call ?_; k_dflt (refine' Ctr.turn (iand_s ?lo_z69 ?ho_z69 ?xt_z69 ?dt_z69) ?C_z69 ?N_z69 ?sub_z69 ?U_z69 ?_; (case C_z69 => k_extra "j.cx"); (case N_z69 => k_asm); (case sub_z69 => k_extra "j.sub"); (case U_z69 => k_updF); (case lo_z69 => assumption); (case ho_z69 => assumption); (case xt_z69 => k_extra "j.ne"); (case dt_z69 => k_extra "j.ne")); intro h'w tk'w v'w o'w P'w F'w N'w; obtain ⟨e'w, D'w⟩ := P'w; subst e'w; (try dsimp only at N'w); (try dsimp only [PySem.W.CmpBack, PySem.W.LenBack, PySem.W.BoolBack]); (try k_sweep)))
  k_with "j.call ref" => ((k_here; (with_reducible show wpAny _ _ (call (Value.ref 183) _) _ _ _); refine wpAny_call ?_; k_dflt (refine' Ctr.turn (iadd_c ?lo_z70 ?lo2_z70 ?ho_z70 ?hp_z70 ?xt_z70 ?dt_z70 ?yt_z70 ?et_z70 ?ut_z70 ?xy_z70) ?C_z70 ?N_z70 ?sub_z70 ?U_z70 ?_; (case C_z70 => k_extra "j.cx"); (case N_z70 => k_asm); (case sub_z70 => k_extra "j.sub"); (case U_z70 => k_updF); (case lo_z70 => assumption); (case lo2_z70 => assumption); (case ho_z70 => assumption); (case hp_z70 => assumption); (case xt_z70 => k_extra "j.ne"); (case dt_z70 => k_extra "j.ne"); (case yt_z70 => k_extra "j.ne"); (case et_z70 => k_extra "j.ne"); (case ut_z70 => k_extra "j.ne"); (case xy_z70 => k_extra "j.ne")); intro h'w tk'w v'w o'w P'w F'w N'w; obtain ⟨e'w, D'w⟩ := P'w; subst e'w; (try dsimp only at N'w); (try dsimp only [PySem.W.CmpBack, PySem.W.LenBack, PySem.W.BoolBack]); (try k_sweep)))
  k_with "j.call ref" => ((k_here; (with_reducible show wpAny _ _ (call (Value.ref 183) [Value.ref ?ja_z71, Value.ref ?ja_z71]) _ _ _); refine wpAny_call ?_; k_dflt (refine' Ctr.turn (iadd_s ?lo_z71 ?ho_z71 ?xt_z71 ?dt_z71) ?C_z71 ?N_z71 ?sub_z71 ?U_z71 ?_; (case C_z71 => k_extra "j.cx"); (case N_z71 => k_asm); (case sub_z71 => k_extra "j.sub"); (case U_z71 => k_updF); (case lo_z71 => assumption); (case ho_z71 => assumption); (case xt_z71 => k_extra "j.ne"); (case dt_z71 => k_extra "j.ne")); intro h'w tk'w v'w o'w P'w F'w N'w; obtain ⟨e'w, D'w⟩ := P'w; subst e'w; (try dsimp only at N'w); (try dsimp only [PySem.W.CmpBack, PySem.W.LenBack, PySem.W.BoolBack]); (try k_sweep)))
  k_with "j.call ref" => ((k_here; (with_reducible show wpAny _ _ (call (Value.ref 190) _) _ _ _); refine wpAny_call ?_; k_dflt (refine' Ctr.turn (isub_c ?lo_z72 ?lo2_z72 ?ho_z72 ?hp_z72 ?xt_z72 ?dt_z72 ?yt_z72 ?et_z72 ?ut_z72 ?xy_z72) ?C_z72 ?N_z72 ?sub_z72 ?U_z72 ?_; (case C_z72 => k_extra "j.cx"); (case N_z72 => k_asm); (case sub_z72 => k_extra "j.sub"); (case U_z72 => k_updF); (case lo_z72 => assumption); (case lo2_z72 => assumption); (case ho_z72 => assumption); (case hp_z72 => assumption); (case xt_z72 => k_extra "j.ne"); (case dt_z72 => k_extra "j.ne"); (case yt_z72 => k_extra "j.ne"); (case et_z72 => k_extra "j.ne"); (case ut_z72 => k_extra "j.ne"); (case xy_z72 => k_extra "j.ne")); intro h'w tk'w v'w o'w P'w F'w N'w; obtain ⟨e'w, D'w⟩ := P'w; subst e'w; (try dsimp only at N'w); (try dsimp only [PySem.W.CmpBack, PySem.W.LenBack, PySem.W.BoolBack]); (try k_sweep)))
  k_with "j.call ref" => ((k_here; (with_reducible show wpAny _ _ (call (Value.ref 190) [Value.ref ?ja_z73, Value.ref ?ja_z73]) _ _ _); refine wpAny_call ?_; k_dflt (refine' Ctr.turn (isub_s ?lo_z73 ?ho_z73 ?xt_z73 ?dt_z73) ?C_z73 ?N_z73 ?sub_z73 ?U_z73 ?_; (case C_z73 => k_extra "j.cx"); (case N_z73 => k_asm); (case sub_z73 => k_extra "j.sub"); (case U_z73 => k_updF); (case lo_z73 => assumption); (case ho_z73 => assumption); (case xt_z73 => k_extra "j.ne"); (case dt_z73 => k_extra "j.ne")); intro h'w tk'w v'w o'w P'w F'w N'w; obtain ⟨e'w, D'w⟩ := P'w; subst e'w; (try dsimp only at N'w); (try dsimp only [PySem.W.CmpBack, PySem.W.LenBack, PySem.W.BoolBack]); (try k_sweep)))
  k_with "j.call ref" => ((k_here; (with_reducible show wpAny _ _ (call (Value.ref 197) _) _ _ _); refine wpAny_call ?_; k_dflt (refine' Ctr.turn (ixor_c ?lo_z74 ?lo2_z74 ?ho_z74 ?hp_z74 ?xt_z74 ?dt_z74 ?yt_z74 ?et_z74 ?ut_z74 ?xy_z74) ?C_z74 ?N_z74 ?sub_z74 ?U_z74 ?_; (case C_z74 => k_extra "j.cx"); (case N_z74 => k_asm); (case sub_z74 => k_extra "j.sub"); (case U_z74 => k_updF); (case lo_z74 => assumption); (case lo2_z74 => assumption); (case ho_z74 => assumption); (case hp_z74 => assumption); (case xt_z74 => k_extra "j.ne"); (case dt_z74 => k_extra "j.ne"); (case yt_z74 => k_extra "j.ne"); (case et_z74 => k_extra "j.ne"); (case ut_z74 => k_extra "j.ne"); (case xy_z74 => k_extra "j.ne")); intro h'w tk'w v'w o'w P'w F'w N'w; obtain ⟨e'w, D'w⟩ := P'w; subst e'w; (try dsimp only at N'w); (try dsimp only [PySem.W.CmpBack, PySem.W.LenBack, PySem.W.BoolBack]); (try k_sweep)))
  k_with "j.call ref" => ((k_here; (with_reducible show wpAny _ _ (call (Value.ref 197) [Value.ref ?ja_z75, Value.ref ?ja_z75]) _ _ _); refine wpAny_call ?_; k_dflt (refine' Ctr.turn (ixor_s ?lo_z75 ?ho_z75 ?xt_z75 ?dt_z75) ?C_z75 ?N_z75 ?sub_z75 ?U_z75 ?_; (case C_z75 => k_extra "j.cx"); (case N_z75 => k_asm); (case sub_z75 => k_extra "j.sub"); (case U_z75 => k_updF); (case lo_z75 => assumption); (case ho_z75 => assumption); (case xt_z75 => k_extra "j.ne"); (case dt_z75 => k_extra "j.ne")); intro h'w tk'w v'w o'w P'w F'w N'w; obtain ⟨e'w, D'w⟩ := P'w; subst e'w; (try dsimp only at N'w); (try dsimp only [PySem.W.CmpBack, PySem.W.LenBack, PySem.W.BoolBack]); (try k_sweep)))
  trivial

section
variable {prog : Program} {w : World} {x dx t y dy u : Nat} {n n' : Nat} {hx hy : Int} {tkx tky : Tok} {o p : Obj} {ks qs : List PK} {ro : List (Addr × Obj)}
theorem all_false {ks : List PK} {f : PK → Bool} {k : PK} (hk : k ∈ ks) (hf : f k = false) : ks.all f = false := by
  rw [List.all_eq_false]; exact ⟨k, hk, by simp [hf]⟩
theorem len_c (lo : (t == sysModules) = false) (ho : IsD prog w o ks) (mx : (x, instObj 270 dx) ∈ ro) (md : (dx, dictOf [⟨hx, .str "table" tkx, .ref t⟩] n) ∈ ro) (mt : (t, o) ∈ ro) :
    Ctr prog w 3 232 [.ref x] ro (fun r ft => (∃ tk, r = .int ks.length tk) ∧ ft = ro) := by
  intro A₀ A s base h₀ outer L m env R C N h
  k_extra "j.enter"
  k_extra "j.steps"
  k_extra "j.read"
  exact ⟨_, rfl⟩
theorem eq_c (lo : (t == sysModules) = false) (lo2 : (u == sysModules) = false) (ho : IsD prog w o ks) (hp : IsD prog w p qs) (mx : (x, instObj 270 dx) ∈ ro) (md : (dx, dictOf [⟨hx, .str "table" tkx, .ref t⟩] n) ∈ ro) (mt : (t, o) ∈ ro) (my : (y, instObj 270 dy) ∈ ro) (me : (dy, dictOf [⟨hy, .str "table" tky, .ref u⟩] n') ∈ ro) (mu : (u, p) ∈ ro) :
    Ctr prog w 3 218 [.ref x, .ref y] ro (fun r ft => r = .bool (ks.length == qs.length && ks.all fun k => decide (k ∈ qs)) ∧ ft = ro) := by
  intro A₀ A s base h₀ outer L m env R C N h
  k_extra "j.enter"
  k_extra "j.steps"
  k_extra "j.read"
  rfl
theorem sub_set_c (lo : (t == sysModules) = false) (lo2 : (u == sysModules) = false) (ho : IsD prog w o ks) (hp : IsD prog w p qs) (mx : (x, instObj 270 dx) ∈ ro) (md : (dx, dictOf [⟨hx, .str "table" tkx, .ref t⟩] n) ∈ ro) (mt : (t, o) ∈ ro) (my : (y, instObj 270 dy) ∈ ro) (me : (dy, dictOf [⟨hy, .str "table" tky, .ref u⟩] n') ∈ ro) (mu : (u, p) ∈ ro) :
    Ctr prog w 3 253 [.ref x, .ref y] ro (fun r ft => r = .bool (ks.all fun k => decide (k ∈ qs)) ∧ ft = ro) := by
  intro A₀ A s base h₀ outer L m env R C N h
  k_extra "j.enter"
  k_extra "j.steps"
  refine' loop_dict_R (x := "item") (fun p => ∀ k ∈ p, k ∈ qs) ?hh mt lo ho ?h0 ?F ?N ?turn ?done
  case hh => assumption
  case F => assumption
  case N => assumption
  case h0 => exact fun _ hk => nomatch hk
  case turn =>
    intro I pre k post v h' tk oI e hk hi hlt F' N'
    by_cases hq : k ∈ qs
    · k_extra "j.steps"
      refine' TurnEnd.fin (a := ()) ?F ?N ?m ?_
      case F => assumption
      case N => assumption
      case m => (intro y hy; try simp only [if_neg hy])
      intro y hy
      rcases List.mem_append.mp hy with z | z
      · exact hi y z
      · rw [List.mem_singleton.mp z]; exact hq
    · k_extra "j.steps"
      dsimp only [TurnEnd]
      k_extra "j.steps"
      k_extra "j.read"
      refine congrArg Value.bool (Eq.symm (all_false (k := k) (by rw [e]; simp) ?_))
      simp [hq]
  case done =>
    intro h' tk u hi F' N'
    k_extra "j.steps"
    k_extra "j.read"
    refine congrArg Value.bool (Eq.symm (List.all_eq_true.mpr fun k hk => ?_))
    have := hi k hk
    simp [this]
theorem super_set_c (lo : (t == sysModules) = false) (lo2 : (u == sysModules) = false) (ho : IsD prog w o ks) (hp : IsD prog w p qs) (mx : (x, instObj 270 dx) ∈ ro) (md : (dx, dictOf [⟨hx, .str "table" tkx, .ref t⟩] n) ∈ ro) (mt : (t, o) ∈ ro) (my : (y, instObj 270 dy) ∈ ro) (me : (dy, dictOf [⟨hy, .str "table" tky, .ref u⟩] n') ∈ ro) (mu : (u, p) ∈ ro) :
    Ctr prog w 3 260 [.ref x, .ref y] ro (fun r ft => r = .bool (qs.all fun k => decide (k ∈ ks)) ∧ ft = ro) := by
  intro A₀ A s base h₀ outer L m env R C N h
  k_extra "j.enter"
  k_extra "j.steps"
  refine' loop_dict_R (x := "item") (fun p => ∀ k ∈ p, k ∈ ks) ?hh mu lo2 hp ?h0 ?F ?N ?turn ?done
  case hh => assumption
  case F => assumption
  case N => assumption
  case h0 => exact fun _ hk => nomatch hk
  case turn =>
    intro I pre k post v h' tk oI e hk hi hlt F' N'
    by_cases hq : k ∈ ks
    · k_extra "j.steps"
      refine' TurnEnd.fin (a := ()) ?F ?N ?m ?_
      case F => assumption
      case N => assumption
      case m => (intro y hy; try simp only [if_neg hy])
      intro y hy
      rcases List.mem_append.mp hy with z | z
      · exact hi y z
      · rw [List.mem_singleton.mp z]; exact hq
    · k_extra "j.steps"
      dsimp only [TurnEnd]
      k_extra "j.steps"
      k_extra "j.read"
      refine congrArg Value.bool (Eq.symm (all_false (k := k) (by rw [e]; simp) ?_))
      simp [hq]
  case done =>
    intro h' tk u hi F' N'
    k_extra "j.steps"
    k_extra "j.read"
    refine congrArg Value.bool (Eq.symm (List.all_eq_true.mpr fun k hk => ?_))
    have := hi k hk
    simp [this]
theorem disj_c (lo : (t == sysModules) = false) (lo2 : (u == sysModules) = false) (ho : IsD prog w o ks) (hp : IsD prog w p qs) (mx : (x, instObj 270 dx) ∈ ro) (md : (dx, dictOf [⟨hx, .str "table" tkx, .ref t⟩] n) ∈ ro) (mt : (t, o) ∈ ro) (my : (y, instObj 270 dy) ∈ ro) (me : (dy, dictOf [⟨hy, .str "table" tky, .ref u⟩] n') ∈ ro) (mu : (u, p) ∈ ro) :
    Ctr prog w 3 267 [.ref x, .ref y] ro (fun r ft => r = .bool (qs.all fun k => decide (k ∉ ks)) ∧ ft = ro) := by
  intro A₀ A s base h₀ outer L m env R C N h
  k_extra "j.enter"
  k_extra "j.steps"
  refine' loop_dict_R (x := "item") (fun p => ∀ k ∈ p, k ∉ ks) ?hh mu lo2 hp ?h0 ?F ?N ?turn ?done
  case hh => assumption
  case F => assumption
  case N => assumption
  case h0 => exact fun _ hk => nomatch hk
  case turn =>
    intro I pre k post v h' tk oI e hk hi hlt F' N'
    by_cases hq : k ∉ ks
    · k_extra "j.steps"
      refine' TurnEnd.fin (a := ()) ?F ?N ?m ?_
      case F => assumption
      case N => assumption
      case m => (intro y hy; try simp only [if_neg hy])
      intro y hy
      rcases List.mem_append.mp hy with z | z
      · exact hi y z
      · rw [List.mem_singleton.mp z]; exact hq
    · have hq := Classical.not_not.mp hq; k_extra "j.steps"
      dsimp only [TurnEnd]
      k_extra "j.steps"
      k_extra "j.read"
      refine congrArg Value.bool (Eq.symm (all_false (k := k) (by rw [e]; simp) ?_))
      simp [hq]
  case done =>
    intro h' tk u hi F' N'
    k_extra "j.steps"
    k_extra "j.read"
    refine congrArg Value.bool (Eq.symm (List.all_eq_true.mpr fun k hk => ?_))
    have := hi k hk
    simp [this]
theorem item_c {i : Int} {tk : Tok} {j : Nat} {k : PK} (hi : i = j ∨ i = (j : Int) - ks.length) (hk : ks[j]? = some k) (lo : (t == sysModules) = false) (ho : IsD prog w o ks) (mx : (x, instObj 270 dx) ∈ ro) (md : (dx, dictOf [⟨hx, .str "table" tkx, .ref t⟩] n) ∈ ro) (mt : (t, o) ∈ ro) :
    Ctr prog w 3 239 [.ref x, .int i tk] ro (fun r ft => IsV k r ∧ ft = ro) := by
  have hj : j < ks.length := (List.getElem?_eq_some_iff.mp hk).1
  have hs := ho.small
  have hki : i < 0 → ks[(i + ks.length).toNat]? = some k := fun h => by
    have e : (i + ks.length).toNat = j := by omega
    rw [e]; exact hk
  have hkj : 0 ≤ i → ks[i.toNat]? = some k := fun h => by
    have e : i.toNat = j := by omega
    rw [e]; exact hk
  by_cases hz : i < 0
  · have hk2 := hki hz
    clear hki hkj
    intro A₀ A s base h₀ outer L m env R C N h
    k_extra "j.enter"
    k_extra "j.steps"
    k_extra "j.read"
    assumption
  · have hk2 := hkj (by omega)
    clear hki hkj
    intro A₀ A s base h₀ outer L m env R C N h
    k_extra "j.enter"
    k_extra "j.steps"
    k_extra "j.read"
    assumption
end
theorem say13 : True := by
  k_with "j.call ref" => ((k_here; (with_reducible show wpAny _ _ (call (Value.ref 232) _) _ _ _); refine wpAny_call ?_; k_dflt (refine' Ctr.read (len_c ?lo_z76 ?ho_z76 ?mx_z76 ?md_z76 ?mt_z76) ?C_z76 ?N_z76 ?sub_z76 ?_; (case C_z76 => k_extra "j.cx"); (case N_z76 => k_asm); (case sub_z76 => exact fun _ hp => hp); (case mx_z76 => k_mem); (case md_z76 => k_mem); (case mt_z76 => k_mem); (case lo_z76 => assumption); (case ho_z76 => assumption); intro h'w tk'w v'w e'w F'w N'w; obtain ⟨tk2'w, e'w⟩ := e'w; subst e'w; (try dsimp only [PySem.W.CmpBack, PySem.W.LenBack, PySem.W.BoolBack]); (try (refine ⟨⟨by omega, by omega⟩, ?_⟩)); (try k_sweep))))
  k_with "j.call ref" => ((k_here; (with_reducible show wpAny _ _ (call (Value.ref 239) _) _ _ _); refine wpAny_call ?_; k_dflt (refine' Ctr.read (item_c ?hi_z77 ?hk_z77 ?lo_z77 ?ho_z77 ?mx_z77 ?md_z77 ?mt_z77) ?C_z77 ?N_z77 ?sub_z77 ?_; (case C_z77 => k_extra "j.cx"); (case N_z77 => k_asm); (case sub_z77 => exact fun _ hp => hp); (case mx_z77 => k_mem); (case md_z77 => k_mem); (case mt_z77 => k_mem); (case lo_z77 => assumption); (case ho_z77 => assumption); (case hk_z77 => assumption); (case hi_z77 => first | assumption | omega); intro h'w tk'w v'w V'w F'w N'w; (try dsimp only [PySem.W.CmpBack, PySem.W.LenBack, PySem.W.BoolBack]); (try k_sweep))))
  k_with "j.call ref" => ((k_here; (with_reducible show wpAny _ _ (call (Value.ref 218) _) _ _ _); refine wpAny_call ?_; k_dflt (refine' Ctr.read (eq_c ?lo_z78 ?lo2_z78 ?ho_z78 ?hp_z78 ?mx_z78 ?md_z78 ?mt_z78 ?my_z78 ?me_z78 ?mu_z78) ?C_z78 ?N_z78 ?sub_z78 ?_; (case C_z78 => k_extra "j.cx"); (case N_z78 => k_asm); (case sub_z78 => exact fun _ hp => hp); (case mx_z78 => k_mem); (case md_z78 => k_mem); (case mt_z78 => k_mem); (case my_z78 => k_mem); (case me_z78 => k_mem); (case mu_z78 => k_mem); (case lo_z78 => assumption); (case lo2_z78 => assumption); (case ho_z78 => assumption); (case hp_z78 => assumption)); intro h'w tk'w v'w e'w F'w N'w; subst e'w; (try dsimp only [PySem.W.CmpBack, PySem.W.LenBack, PySem.W.BoolBack]); (try k_sweep)))
  k_with "j.call ref" => ((k_here; (with_reducible show wpAny _ _ (call (Value.ref 253) _) _ _ _); refine wpAny_call ?_; k_dflt (refine' Ctr.read (sub_set_c ?lo_z79 ?lo2_z79 ?ho_z79 ?hp_z79 ?mx_z79 ?md_z79 ?mt_z79 ?my_z79 ?me_z79 ?mu_z79) ?C_z79 ?N_z79 ?sub_z79 ?_; (case C_z79 => k_extra "j.cx"); (case N_z79 => k_asm); (case sub_z79 => exact fun _ hp => hp); (case mx_z79 => k_mem); (case md_z79 => k_mem); (case mt_z79 => k_mem); (case my_z79 => k_mem); (case me_z79 => k_mem); (case mu_z79 => k_mem); (case lo_z79 => assumption); (case lo2_z79 => assumption); (case ho_z79 => assumption); (case hp_z79 => assumption)); intro h'w tk'w v'w e'w F'w N'w; subst e'w; (try dsimp only [PySem.W.CmpBack, PySem.W.LenBack, PySem.W.BoolBack]); (try k_sweep)))
  k_with "j.call ref" => ((k_here; (with_reducible show wpAny _ _ (call (Value.ref 260) _) _ _ _); refine wpAny_call ?_; k_dflt (refine' Ctr.read (super_set_c ?lo_z80 ?lo2_z80 ?ho_z80 ?hp_z80 ?mx_z80 ?md_z80 ?mt_z80 ?my_z80 ?me_z80 ?mu_z80) ?C_z80 ?N_z80 ?sub_z80 ?_; (case C_z80 => k_extra "j.cx"); (case N_z80 => k_asm); (case sub_z80 => exact fun _ hp => hp); (case mx_z80 => k_mem); (case md_z80 => k_mem); (case mt_z80 => k_mem); (case my_z80 => k_mem); (case me_z80 => k_mem); (case mu_z80 => k_mem); (case lo_z80 => assumption); (case lo2_z80 => assumption); (case ho_z80 => assumption); (case hp_z80 => assumption)); intro h'w tk'w v'w e'w F'w N'w; subst e'w; (try dsimp only [PySem.W.CmpBack, PySem.W.LenBack, PySem.W.BoolBack]); (try k_sweep)))
  k_with "j.call ref" => ((k_here; (with_reducible show wpAny _ _ (call (Value.ref 267) _) _ _ _); refine wpAny_call ?_; k_dflt (refine' Ctr.read (disj_c ?lo_z81 ?lo2_z81 ?ho_z81 ?hp_z81 ?mx_z81 ?md_z81 ?mt_z81 ?my_z81 ?me_z81 ?mu_z81) ?C_z81 ?N_z81 ?sub_z81 ?_; (case C_z81 => k_extra "j.cx"); (case N_z81 => k_asm); (case sub_z81 => exact fun _ hp => hp); (case mx_z81 => k_mem); (case md_z81 => k_mem); (case mt_z81 => k_mem); (case my_z81 => k_mem); (case me_z81 => k_mem); (case mu_z81 => k_mem); (case lo_z81 => assumption); (case lo2_z81 => assumption); (case ho_z81 => assumption); (case hp_z81 => assumption)); intro h'w tk'w v'w e'w F'w N'w; subst e'w; (try dsimp only [PySem.W.CmpBack, PySem.W.LenBack, PySem.W.BoolBack]); (try k_sweep)))
  trivial

section
variable {prog : Program} {w : World} {x dx t y dy u : Nat} {n n' : Nat} {hx hy : Int} {tkx tky : Tok} {o p : Obj} {ks qs : List PK} {ro : List (Addr × Obj)} {k : PK}
theorem pop_c (lo : (t == sysModules) = false) (ho : IsD prog w o ks) (xt : x ≠ t) (dt : dx ≠ t) (hk : ks[(-1 + (ks.length : Int)).toNat]? = some k) (hne : ks ≠ []) (hlen : -(ks.length : Int) ≤ -1) :
    Ctr prog w 3 57 [.ref x] [(t, o), (x, instObj 270 dx), (dx, dictOf [⟨hx, .str "table" tkx, .ref t⟩] n)]
      (fun r ft => ∃ o', (IsV k r ∧ IsD prog w o' (del ks k)) ∧ ft = [(t, o'), (x, instObj 270 dx), (dx, dictOf [⟨hx, .str "table" tkx, .ref t⟩] n)]) := by
  intro A₀ A s base h₀ outer L m env R C N h
  have hkm : k ∈ ks := List.mem_of_getElem? hk
  k_extra "j.enter"
  k_extra "j.steps"
  exact h _ _ _ _ ⟨_, ⟨by assumption, by assumption⟩, rfl⟩ (by assumption) (by k_extra "j.perm") (by assumption) (by k_extra "j.fresh")
theorem remove_c {v : Value} (lo : (t == sysModules) = false) (ho : IsD prog w o ks) (xt : x ≠ t) (dt : dx ≠ t) (hv : IsV k v) (hk : k ∈ ks) :
    Ctr prog w 3 43 [.ref x, v] [(t, o), (x, instObj 270 dx), (dx, dictOf [⟨hx, .str "table" tkx, .ref t⟩] n)]
      (fun r ft => ∃ o', (r = .none ∧ IsD prog w o' (del ks k)) ∧ ft = [(t, o'), (x, instObj 270 dx), (dx, dictOf [⟨hx, .str "table" tkx, .ref t⟩] n)]) := by
  intro A₀ A s base h₀ outer L m env R C N h
  k_extra "j.enter"
  k_extra "j.steps"
  exact h _ _ _ _ ⟨_, ⟨rfl, by assumption⟩, rfl⟩ (by assumption) (by assumption) (by assumption) (by assumption)
theorem delitem_c {i : Int} {tk : Tok} {j : Nat} (lo : (t == sysModules) = false) (ho : IsD prog w o ks) (xt : x ≠ t) (dt : dx ≠ t) (hi : i = j ∨ i = (j : Int) - ks.length) (hk : ks[j]? = some k) :
    Ctr prog w 5 246 [.ref x, .int i tk] [(t, o), (x, instObj 270 dx), (dx, dictOf [⟨hx, .str "table" tkx, .ref t⟩] n)]
      (fun r ft => ∃ o', (r = .none ∧ IsD prog w o' (del ks k)) ∧ ft = [(t, o'), (x, instObj 270 dx), (dx, dictOf [⟨hx, .str "table" tkx, .ref t⟩] n)]) := by
  intro A₀ A s base h₀ outer L m env R C N h
  have hkm : k ∈ ks := List.mem_of_getElem? hk
  k_extra "j.enter"
  k_extra "j.steps"
  exact h _ _ _ _ ⟨_, ⟨rfl, by assumption⟩, rfl⟩ (by assumption) (by assumption) (by assumption) (by assumption)
theorem ne_c (lo : (t == sysModules) = false) (lo2 : (u == sysModules) = false) (ho : IsD prog w o ks) (hp : IsD prog w p qs) (mx : (x, instObj 270 dx) ∈ ro) (md : (dx, dictOf [⟨hx, .str "table" tkx, .ref t⟩] n) ∈ ro) (mt : (t, o) ∈ ro) (my : (y, instObj 270 dy) ∈ ro) (me : (dy, dictOf [⟨hy, .str "table" tky, .ref u⟩] n') ∈ ro) (mu : (u, p) ∈ ro) :
    Ctr prog w 5 225 [.ref x, .ref y] ro (fun r ft => r = .bool (!(ks.length == qs.length && ks.all fun k => decide (k ∈ qs))) ∧ ft = ro) := by
  intro A₀ A s base h₀ outer L m env R C N h
  k_extra "j.enter"
  k_extra "j.steps"
  k_extra "j.read"
  rfl
end

section
variable {prog : Program} {w : World} {ro : List (Addr × Obj)}
def CtrE (prog : Program) (w : World) (l : Nat) (f : Addr) (args : List Value) (ro : List (Addr × Obj)) (X : String) : Prop :=
  ∀ (A₀ A : Around) (s : Shared) (base h₀ : Heap) (outer : List Env) (L : Addr) (m : Str → Option Value) (env : Env) (R : Result → Shared → Prop),
    Cx w l A₀ A base outer h₀ L m env s.heap → News h₀ L s.heap ro →
    (∀ h' tk' e g, Fr h₀ L g m → RaisedSN base g (env :: outer) e (.type X) ro h' → g.UpToSlots h' → R (.error (.ref e)) { s with heap := h', toks := tk' }) →
    codeAny (model prog w) A (.call (.ref f) ⟨args, []⟩) R s
theorem raisedS_N {base G : Heap} {l : List Env} {e t : Addr} {cls : Value} {vs : List Value} {news ro : List (Addr × Obj)} {h : Heap} (R : RaisedS base G l e cls t vs news h) (hs : ∀ p ∈ ro, p ∈ news) : RaisedSN base G l e cls ro h := by
  obtain ⟨⟨B, hB, hBG, hl, hfl, _⟩, _⟩ := R
  exact ⟨B, _, hB, hBG, fun q hq => hl q (hs q hq), hfl⟩
theorem raisedN_sub {base G : Heap} {l : List Env} {e : Addr} {cls : Value} {news ro : List (Addr × Obj)} {h : Heap} (R : RaisedSN base G l e cls news h) (hs : ∀ p ∈ ro, p ∈ news) : RaisedSN base G l e cls ro h := by
  obtain ⟨B, a0, hB, hBG, hl, hfl⟩ := R
  exact ⟨B, a0, hB, hBG, fun q hq => hl q (hs q hq), hfl⟩
variable {s : Shared} {base h₀ g h' : Heap} {L e t : Addr} {m : Str → Option Value} {l : List Env} {X : String} {R : Result → Shared → Prop} {tk' : Nat} {vs : List Value} {news : List (Addr × Obj)}
theorem fin_raiseS (h : ∀ h' tk' e g, Fr h₀ L g m → RaisedSN base g l e (.type X) ro h' → g.UpToSlots h' → R (.error (.ref e)) { s with heap := h', toks := tk' })
    (F : Fr h₀ L g m) (RS : RaisedS base g l e (.type X) t vs news h') (U : g.UpToSlots h') (hs : ∀ p ∈ ro, p ∈ news) : R (.error (.ref e)) { s with heap := h', toks := tk' } := h h' tk' e g F (raisedS_N RS hs) U
theorem fin_raiseN (h : ∀ h' tk' e g, Fr h₀ L g m → RaisedSN base g l e (.type X) ro h' → g.UpToSlots h' → R (.error (.ref e)) { s with heap := h', toks := tk' })
    (F : Fr h₀ L g m) (RS : RaisedSN base g l e (.type X) news h') (U : g.UpToSlots h') (hs : ∀ p ∈ ro, p ∈ news) : R (.error (.ref e)) { s with heap := h', toks := tk' } := h h' tk' e g F (raisedN_sub RS hs) U
end

section
variable {prog : Program} {w : World} {x dx t y dy u : Nat} {n n' : Nat} {hx hy : Int} {tkx tky : Tok} {o p : Obj} {ks qs : List PK} {ro : List (Addr × Obj)} {a c : Nat} {its : Array Value}
theorem uu_e (ma : (a, listOf its c) ∈ ro) (lo : (t == sysModules) = false) (ho : IsD prog w o ks) (mx : (x, instObj 270 dx) ∈ ro) (md : (dx, dictOf [⟨hx, .str "table" tkx, .ref t⟩] n) ∈ ro) (mt : (t, o) ∈ ro) : CtrE prog w 4 78 [.ref x, .ref a] ro "ValueError" := by
  intro A₀ A s base h₀ outer L m env R C N h
  k_extra "j.enter"
  k_extra "j.steps"
  k_extra "j.raise"
theorem iu_e (ma : (a, listOf its c) ∈ ro) (lo : (t == sysModules) = false) (ho : IsD prog w o ks) (mx : (x, instObj 270 dx) ∈ ro) (md : (dx, dictOf [⟨hx, .str "table" tkx, .ref t⟩] n) ∈ ro) (mt : (t, o) ∈ ro) : CtrE prog w 4 85 [.ref x, .ref a] ro "ValueError" := by
  intro A₀ A s base h₀ outer L m env R C N h
  k_extra "j.enter"
  k_extra "j.steps"
  k_extra "j.raise"
theorem du_e (ma : (a, listOf its c) ∈ ro) (lo : (t == sysModules) = false) (ho : IsD prog w o ks) (mx : (x, instObj 270 dx) ∈ ro) (md : (dx, dictOf [⟨hx, .str "table" tkx, .ref t⟩] n) ∈ ro) (mt : (t, o) ∈ ro) : CtrE prog w 4 92 [.ref x, .ref a] ro "ValueError" := by
  intro A₀ A s base h₀ outer L m env R C N h
  k_extra "j.enter"
  k_extra "j.steps"
  k_extra "j.raise"
theorem sdu_e (ma : (a, listOf its c) ∈ ro) (lo : (t == sysModules) = false) (ho : IsD prog w o ks) (mx : (x, instObj 270 dx) ∈ ro) (md : (dx, dictOf [⟨hx, .str "table" tkx, .ref t⟩] n) ∈ ro) (mt : (t, o) ∈ ro) : CtrE prog w 4 99 [.ref x, .ref a] ro "ValueError" := by
  intro A₀ A s base h₀ outer L m env R C N h
  k_extra "j.enter"
  k_extra "j.steps"
  k_extra "j.raise"
theorem sub_set_e (ma : (a, listOf its c) ∈ ro) (lo : (t == sysModules) = false) (ho : IsD prog w o ks) (mx : (x, instObj 270 dx) ∈ ro) (md : (dx, dictOf [⟨hx, .str "table" tkx, .ref t⟩] n) ∈ ro) (mt : (t, o) ∈ ro) : CtrE prog w 4 253 [.ref x, .ref a] ro "ValueError" := by
  intro A₀ A s base h₀ outer L m env R C N h
  k_extra "j.enter"
  k_extra "j.steps"
  k_extra "j.raise"
theorem super_set_e (ma : (a, listOf its c) ∈ ro) (lo : (t == sysModules) = false) (ho : IsD prog w o ks) (mx : (x, instObj 270 dx) ∈ ro) (md : (dx, dictOf [⟨hx, .str "table" tkx, .ref t⟩] n) ∈ ro) (mt : (t, o) ∈ ro) : CtrE prog w 4 260 [.ref x, .ref a] ro "ValueError" := by
  intro A₀ A s base h₀ outer L m env R C N h
  k_extra "j.enter"
  k_extra "j.steps"
  k_extra "j.raise"
theorem disj_e (ma : (a, listOf its c) ∈ ro) (lo : (t == sysModules) = false) (ho : IsD prog w o ks) (mx : (x, instObj 270 dx) ∈ ro) (md : (dx, dictOf [⟨hx, .str "table" tkx, .ref t⟩] n) ∈ ro) (mt : (t, o) ∈ ro) : CtrE prog w 4 267 [.ref x, .ref a] ro "ValueError" := by
  intro A₀ A s base h₀ outer L m env R C N h
  k_extra "j.enter"
  k_extra "j.steps"
  k_extra "j.raise"
end
theorem say14 : True := by
  k_with "j.call ref" => ((k_here; (with_reducible show wpAny _ _ (call (Value.ref 78) _) _ _ _); refine wpAny_call ?_; k_dflt (refine' (uu_e ?ma_z82 ?lo_z82 ?ho_z82 ?mx_z82 ?md_z82 ?mt_z82) _ _ _ _ _ _ _ _ _ _ ?C_z82 ?N_z82 ?_; (case C_z82 => k_extra "j.cx"); (case N_z82 => k_asm); (case ma_z82 => k_mem); (case mx_z82 => k_mem); (case md_z82 => k_mem); (case mt_z82 => k_mem); (case lo_z82 => assumption); (case ho_z82 => assumption)); intro h'w tk'w e'w g'w FG'w RS'w U'w; (try dsimp only)))
  k_with "j.call ref" => ((k_here; (with_reducible show wpAny _ _ (call (Value.ref 85) _) _ _ _); refine wpAny_call ?_; k_dflt (refine' (iu_e ?ma_z83 ?lo_z83 ?ho_z83 ?mx_z83 ?md_z83 ?mt_z83) _ _ _ _ _ _ _ _ _ _ ?C_z83 ?N_z83 ?_; (case C_z83 => k_extra "j.cx"); (case N_z83 => k_asm); (case ma_z83 => k_mem); (case mx_z83 => k_mem); (case md_z83 => k_mem); (case mt_z83 => k_mem); (case lo_z83 => assumption); (case ho_z83 => assumption)); intro h'w tk'w e'w g'w FG'w RS'w U'w; (try dsimp only)))
  k_with "j.call ref" => ((k_here; (with_reducible show wpAny _ _ (call (Value.ref 92) _) _ _ _); refine wpAny_call ?_; k_dflt (refine' (du_e ?ma_z84 ?lo_z84 ?ho_z84 ?mx_z84 ?md_z84 ?mt_z84) _ _ _ _ _ _ _ _ _ _ ?C_z84 ?N_z84 ?_; (case C_z84 => k_extra "j.cx"); (case N_z84 => k_asm); (case ma_z84 => k_mem); (case mx_z84 => k_mem); (case md_z84 => k_mem); (case mt_z84 => k_mem); (case lo_z84 => assumption); (case ho_z84 => assumption)); intro h'w tk'w e'w g'w FG'w RS'w U'w; (try dsimp only)))
  k_with "j.call ref" => ((k_here; (with_reducible show wpAny _ _ (call (Value.ref 99) _) _ _ _); refine wpAny_call ?_; k_dflt (refine' (sdu_e ?ma_z85 ?lo_z85 ?ho_z85 ?mx_z85 ?md_z85 ?mt_z85) _ _ _ _ _ _ _ _ _ _ ?C_z85 ?N_z85 ?_; (case C_z85 => k_extra "j.cx"); (case N_z85 => k_asm); (case ma_z85 => k_mem); (case mx_z85 => k_mem); (case md_z85 => k_mem); (case mt_z85 => k_mem); (case lo_z85 => assumption); (case ho_z85 => assumption)); intro h'w tk'w e'w g'w FG'w RS'w U'w; (try dsimp only)))
  k_with "j.call ref" => ((k_here; (with_reducible show wpAny _ _ (call (Value.ref 253) _) _ _ _); refine wpAny_call ?_; k_dflt (refine' (sub_set_e ?ma_z86 ?lo_z86 ?ho_z86 ?mx_z86 ?md_z86 ?mt_z86) _ _ _ _ _ _ _ _ _ _ ?C_z86 ?N_z86 ?_; (case C_z86 => k_extra "j.cx"); (case N_z86 => k_asm); (case ma_z86 => k_mem); (case mx_z86 => k_mem); (case md_z86 => k_mem); (case mt_z86 => k_mem); (case lo_z86 => assumption); (case ho_z86 => assumption)); intro h'w tk'w e'w g'w FG'w RS'w U'w; (try dsimp only)))
  k_with "j.call ref" => ((k_here; (with_reducible show wpAny _ _ (call (Value.ref 260) _) _ _ _); refine wpAny_call ?_; k_dflt (refine' (super_set_e ?ma_z87 ?lo_z87 ?ho_z87 ?mx_z87 ?md_z87 ?mt_z87) _ _ _ _ _ _ _ _ _ _ ?C_z87 ?N_z87 ?_; (case C_z87 => k_extra "j.cx"); (case N_z87 => k_asm); (case ma_z87 => k_mem); (case mx_z87 => k_mem); (case md_z87 => k_mem); (case mt_z87 => k_mem); (case lo_z87 => assumption); (case ho_z87 => assumption)); intro h'w tk'w e'w g'w FG'w RS'w U'w; (try dsimp only)))
  k_with "j.call ref" => ((k_here; (with_reducible show wpAny _ _ (call (Value.ref 267) _) _ _ _); refine wpAny_call ?_; k_dflt (refine' (disj_e ?ma_z88 ?lo_z88 ?ho_z88 ?mx_z88 ?md_z88 ?mt_z88) _ _ _ _ _ _ _ _ _ _ ?C_z88 ?N_z88 ?_; (case C_z88 => k_extra "j.cx"); (case N_z88 => k_asm); (case ma_z88 => k_mem); (case mx_z88 => k_mem); (case md_z88 => k_mem); (case mt_z88 => k_mem); (case lo_z88 => assumption); (case ho_z88 => assumption)); intro h'w tk'w e'w g'w FG'w RS'w U'w; (try dsimp only)))
  trivial

section
variable {prog : Program} {w : World} {x dx t y dy u : Nat} {n n' : Nat} {hx hy : Int} {tkx tky : Tok} {o p : Obj} {ks qs : List PK} {ro : List (Addr × Obj)} {a c : Nat} {its : Array Value}
theorem union_e (ma : (a, listOf its c) ∈ ro) (lo : (t == sysModules) = false) (ho : IsD prog w o ks) (mx : (x, instObj 270 dx) ∈ ro) (md : (dx, dictOf [⟨hx, .str "table" tkx, .ref t⟩] n) ∈ ro) (mt : (t, o) ∈ ro) : CtrE prog w 9 106 [.ref x, .ref a] ro "ValueError" := by
  intro A₀ A s base h₀ outer L m env R C N h
  k_extra "j.enter"
  k_extra "j.steps"
  k_extra "j.raise"
theorem inter_e (ma : (a, listOf its c) ∈ ro) (lo : (t == sysModules) = false) (ho : IsD prog w o ks) (mx : (x, instObj 270 dx) ∈ ro) (md : (dx, dictOf [⟨hx, .str "table" tkx, .ref t⟩] n) ∈ ro) (mt : (t, o) ∈ ro) : CtrE prog w 9 113 [.ref x, .ref a] ro "ValueError" := by
  intro A₀ A s base h₀ outer L m env R C N h
  k_extra "j.enter"
  k_extra "j.steps"
  k_extra "j.raise"
theorem diff_e (ma : (a, listOf its c) ∈ ro) (lo : (t == sysModules) = false) (ho : IsD prog w o ks) (mx : (x, instObj 270 dx) ∈ ro) (md : (dx, dictOf [⟨hx, .str "table" tkx, .ref t⟩] n) ∈ ro) (mt : (t, o) ∈ ro) : CtrE prog w 9 120 [.ref x, .ref a] ro "ValueError" := by
  intro A₀ A s base h₀ outer L m env R C N h
  k_extra "j.enter"
  k_extra "j.steps"
  k_extra "j.raise"
theorem symd_e (ma : (a, listOf its c) ∈ ro) (lo : (t == sysModules) = false) (ho : IsD prog w o ks) (mx : (x, instObj 270 dx) ∈ ro) (md : (dx, dictOf [⟨hx, .str "table" tkx, .ref t⟩] n) ∈ ro) (mt : (t, o) ∈ ro) : CtrE prog w 9 127 [.ref x, .ref a] ro "ValueError" := by
  intro A₀ A s base h₀ outer L m env R C N h
  k_extra "j.enter"
  k_extra "j.steps"
  k_extra "j.raise"
end
theorem say15 : True := by
  k_with "j.call ref" => ((k_here; (with_reducible show wpAny _ _ (call (Value.ref 106) _) _ _ _); refine wpAny_call ?_; k_dflt (refine' (union_e ?ma_z89 ?lo_z89 ?ho_z89 ?mx_z89 ?md_z89 ?mt_z89) _ _ _ _ _ _ _ _ _ _ ?C_z89 ?N_z89 ?_; (case C_z89 => k_extra "j.cx"); (case N_z89 => k_asm); (case ma_z89 => k_mem); (case mx_z89 => k_mem); (case md_z89 => k_mem); (case mt_z89 => k_mem); (case lo_z89 => assumption); (case ho_z89 => assumption)); intro h'w tk'w e'w g'w FG'w RS'w U'w; (try dsimp only)))
  k_with "j.call ref" => ((k_here; (with_reducible show wpAny _ _ (call (Value.ref 113) _) _ _ _); refine wpAny_call ?_; k_dflt (refine' (inter_e ?ma_z90 ?lo_z90 ?ho_z90 ?mx_z90 ?md_z90 ?mt_z90) _ _ _ _ _ _ _ _ _ _ ?C_z90 ?N_z90 ?_; (case C_z90 => k_extra "j.cx"); (case N_z90 => k_asm); (case ma_z90 => k_mem); (case mx_z90 => k_mem); (case md_z90 => k_mem); (case mt_z90 => k_mem); (case lo_z90 => assumption); (case ho_z90 => assumption)); intro h'w tk'w e'w g'w FG'w RS'w U'w; (try dsimp only)))
  k_with "j.call ref" => ((k_here; (with_reducible show wpAny _ _ (call (Value.ref 120) _) _ _ _); refine wpAny_call ?_; k_dflt (refine' (diff_e ?ma_z91 ?lo_z91 ?ho_z91 ?mx_z91 ?md_z91 ?mt_z91) _ _ _ _ _ _ _ _ _ _ ?C_z91 ?N_z91 ?_; (case C_z91 => k_extra "j.cx"); (case N_z91 => k_asm); (case ma_z91 => k_mem); (case mx_z91 => k_mem); (case md_z91 => k_mem); (case mt_z91 => k_mem); (case lo_z91 => assumption); (case ho_z91 => assumption)); intro h'w tk'w e'w g'w FG'w RS'w U'w; (try dsimp only)))
  k_with "j.call ref" => ((k_here; (with_reducible show wpAny _ _ (call (Value.ref 127) _) _ _ _); refine wpAny_call ?_; k_dflt (refine' (symd_e ?ma_z92 ?lo_z92 ?ho_z92 ?mx_z92 ?md_z92 ?mt_z92) _ _ _ _ _ _ _ _ _ _ ?C_z92 ?N_z92 ?_; (case C_z92 => k_extra "j.cx"); (case N_z92 => k_asm); (case ma_z92 => k_mem); (case mx_z92 => k_mem); (case md_z92 => k_mem); (case mt_z92 => k_mem); (case lo_z92 => assumption); (case ho_z92 => assumption)); intro h'w tk'w e'w g'w FG'w RS'w U'w; (try dsimp only)))
  trivial

section
variable {prog : Program} {w : World} {x dx t y dy u : Nat} {n n' : Nat} {hx hy : Int} {tkx tky : Tok} {o p : Obj} {ks qs : List PK} {ro : List (Addr × Obj)} {a c : Nat} {its : Array Value}
theorem or_e (ma : (a, listOf its c) ∈ ro) (lo : (t == sysModules) = false) (ho : IsD prog w o ks) (mx : (x, instObj 270 dx) ∈ ro) (md : (dx, dictOf [⟨hx, .str "table" tkx, .ref t⟩] n) ∈ ro) (mt : (t, o) ∈ ro) : CtrE prog w 11 134 [.ref x, .ref a] ro "ValueError" := by
  intro A₀ A s base h₀ outer L m env R C N h
  k_extra "j.enter"
  k_extra "j.steps"
  k_extra "j.raise"
theorem and_e (ma : (a, listOf its c) ∈ ro) (lo : (t == sysModules) = false) (ho : IsD prog w o ks) (mx : (x, instObj 270 dx) ∈ ro) (md : (dx, dictOf [⟨hx, .str "table" tkx, .ref t⟩] n) ∈ ro) (mt : (t, o) ∈ ro) : CtrE prog w 11 141 [.ref x, .ref a] ro "ValueError" := by
  intro A₀ A s base h₀ outer L m env R C N h
  k_extra "j.enter"
  k_extra "j.steps"
  k_extra "j.raise"
theorem add_op_e (ma : (a, listOf its c) ∈ ro) (lo : (t == sysModules) = false) (ho : IsD prog w o ks) (mx : (x, instObj 270 dx) ∈ ro) (md : (dx, dictOf [⟨hx, .str "table" tkx, .ref t⟩] n) ∈ ro) (mt : (t, o) ∈ ro) : CtrE prog w 11 148 [.ref x, .ref a] ro "ValueError" := by
  intro A₀ A s base h₀ outer L m env R C N h
  k_extra "j.enter"
  k_extra "j.steps"
  k_extra "j.raise"
theorem sub_e (ma : (a, listOf its c) ∈ ro) (lo : (t == sysModules) = false) (ho : IsD prog w o ks) (mx : (x, instObj 270 dx) ∈ ro) (md : (dx, dictOf [⟨hx, .str "table" tkx, .ref t⟩] n) ∈ ro) (mt : (t, o) ∈ ro) : CtrE prog w 11 155 [.ref x, .ref a] ro "ValueError" := by
  intro A₀ A s base h₀ outer L m env R C N h
  k_extra "j.enter"
  k_extra "j.steps"
  k_extra "j.raise"
theorem xor_e (ma : (a, listOf its c) ∈ ro) (lo : (t == sysModules) = false) (ho : IsD prog w o ks) (mx : (x, instObj 270 dx) ∈ ro) (md : (dx, dictOf [⟨hx, .str "table" tkx, .ref t⟩] n) ∈ ro) (mt : (t, o) ∈ ro) : CtrE prog w 11 162 [.ref x, .ref a] ro "ValueError" := by
  intro A₀ A s base h₀ outer L m env R C N h
  k_extra "j.enter"
  k_extra "j.steps"
  k_extra "j.raise"
theorem ior_e (ma : (a, listOf its c) ∈ ro) (lo : (t == sysModules) = false) (ho : IsD prog w o ks) (mx : (x, instObj 270 dx) ∈ ro) (md : (dx, dictOf [⟨hx, .str "table" tkx, .ref t⟩] n) ∈ ro) (mt : (t, o) ∈ ro) : CtrE prog w 6 169 [.ref x, .ref a] ro "ValueError" := by
  intro A₀ A s base h₀ outer L m env R C N h
  k_extra "j.enter"
  k_extra "j.steps"
  k_extra "j.raise"
theorem iand_e (ma : (a, listOf its c) ∈ ro) (lo : (t == sysModules) = false) (ho : IsD prog w o ks) (mx : (x, instObj 270 dx) ∈ ro) (md : (dx, dictOf [⟨hx, .str "table" tkx, .ref t⟩] n) ∈ ro) (mt : (t, o) ∈ ro) : CtrE prog w 6 176 [.ref x, .ref a] ro "ValueError" := by
  intro A₀ A s base h₀ outer L m env R C N h
  k_extra "j.enter"
  k_extra "j.steps"
  k_extra "j.raise"
theorem iadd_e (ma : (a, listOf its c) ∈ ro) (lo : (t == sysModules) = false) (ho : IsD prog w o ks) (mx : (x, instObj 270 dx) ∈ ro) (md : (dx, dictOf [⟨hx, .str "table" tkx, .ref t⟩] n) ∈ ro) (mt : (t, o) ∈ ro) : CtrE prog w 6 183 [.ref x, .ref a] ro "ValueError" := by
  intro A₀ A s base h₀ outer L m env R C N h
  k_extra "j.enter"
  k_extra "j.steps"
  k_extra "j.raise"
theorem isub_e (ma : (a, listOf its c) ∈ ro) (lo : (t == sysModules) = false) (ho : IsD prog w o ks) (mx : (x, instObj 270 dx) ∈ ro) (md : (dx, dictOf [⟨hx, .str "table" tkx, .ref t⟩] n) ∈ ro) (mt : (t, o) ∈ ro) : CtrE prog w 6 190 [.ref x, .ref a] ro "ValueError" := by
  intro A₀ A s base h₀ outer L m env R C N h
  k_extra "j.enter"
  k_extra "j.steps"
  k_extra "j.raise"
theorem ixor_e (ma : (a, listOf its c) ∈ ro) (lo : (t == sysModules) = false) (ho : IsD prog w o ks) (mx : (x, instObj 270 dx) ∈ ro) (md : (dx, dictOf [⟨hx, .str "table" tkx, .ref t⟩] n) ∈ ro) (mt : (t, o) ∈ ro) : CtrE prog w 6 197 [.ref x, .ref a] ro "ValueError" := by
  intro A₀ A s base h₀ outer L m env R C N h
  k_extra "j.enter"
  k_extra "j.steps"
  k_extra "j.raise"
end
theorem say16 : True := by
  k_with "j.call ref" => ((k_here; (with_reducible show wpAny _ _ (call (Value.ref 134) _) _ _ _); refine wpAny_call ?_; k_dflt (refine' (or_e ?ma_z93 ?lo_z93 ?ho_z93 ?mx_z93 ?md_z93 ?mt_z93) _ _ _ _ _ _ _ _ _ _ ?C_z93 ?N_z93 ?_; (case C_z93 => k_extra "j.cx"); (case N_z93 => k_asm); (case ma_z93 => k_mem); (case mx_z93 => k_mem); (case md_z93 => k_mem); (case mt_z93 => k_mem); (case lo_z93 => assumption); (case ho_z93 => assumption)); intro h'w tk'w e'w g'w FG'w RS'w U'w; (try dsimp only)))
  k_with "j.call ref" => ((k_here; (with_reducible show wpAny _ _ (call (Value.ref 141) _) _ _ _); refine wpAny_call ?_; k_dflt (refine' (and_e ?ma_z94 ?lo_z94 ?ho_z94 ?mx_z94 ?md_z94 ?mt_z94) _ _ _ _ _ _ _ _ _ _ ?C_z94 ?N_z94 ?_; (case C_z94 => k_extra "j.cx"); (case N_z94 => k_asm); (case ma_z94 => k_mem); (case mx_z94 => k_mem); (case md_z94 => k_mem); (case mt_z94 => k_mem); (case lo_z94 => assumption); (case ho_z94 => assumption)); intro h'w tk'w e'w g'w FG'w RS'w U'w; (try dsimp only)))
  k_with "j.call ref" => ((k_here; (with_reducible show wpAny _ _ (call (Value.ref 148) _) _ _ _); refine wpAny_call ?_; k_dflt (refine' (add_op_e ?ma_z95 ?lo_z95 ?ho_z95 ?mx_z95 ?md_z95 ?mt_z95) _ _ _ _ _ _ _ _ _ _ ?C_z95 ?N_z95 ?_; (case C_z95 => k_extra "j.cx"); (case N_z95 => k_asm); (case ma_z95 => k_mem); (case mx_z95 => k_mem); (case md_z95 => k_mem); (case mt_z95 => k_mem); (case lo_z95 => assumption); (case ho_z95 => assumption)); intro h'w tk'w e'w g'w FG'w RS'w U'w; (try dsimp only)))
  k_with "j.call ref" => ((k_here; (with_reducible show wpAny _ _ (call (Value.ref 155) _) _ _ _); refine wpAny_call ?_; k_dflt (refine' (sub_e ?ma_z96 ?lo_z96 ?ho_z96 ?mx_z96 ?md_z96 ?mt_z96) _ _ _ _ _ _ _ _ _ _ ?C_z96 ?N_z96 ?_; (case C_z96 => k_extra "j.cx"); (case N_z96 => k_asm); (case ma_z96 => k_mem); (case mx_z96 => k_mem); (case md_z96 => k_mem); (case mt_z96 => k_mem); (case lo_z96 => assumption); (case ho_z96 => assumption)); intro h'w tk'w e'w g'w FG'w RS'w U'w; (try dsimp only)))
  k_with "j.call ref" => ((k_here; (with_reducible show wpAny _ _ (call (Value.ref 162) _) _ _ _); refine wpAny_call ?_; k_dflt (refine' (xor_e ?ma_z97 ?lo_z97 ?ho_z97 ?mx_z97 ?md_z97 ?mt_z97) _ _ _ _ _ _ _ _ _ _ ?C_z97 ?N_z97 ?_; (case C_z97 => k_extra "j.cx"); (case N_z97 => k_asm); (case ma_z97 => k_mem); (case mx_z97 => k_mem); (case md_z97 => k_mem); (case mt_z97 => k_mem); (case lo_z97 => assumption); (case ho_z97 => assumption)); intro h'w tk'w e'w g'w FG'w RS'w U'w; (try dsimp only)))
  k_with "j.call ref" => ((k_here; (with_reducible show wpAny _ _ (call (Value.ref 169) _) _ _ _); refine wpAny_call ?_; k_dflt (refine' (ior_e ?ma_z98 ?lo_z98 ?ho_z98 ?mx_z98 ?md_z98 ?mt_z98) _ _ _ _ _ _ _ _ _ _ ?C_z98 ?N_z98 ?_; (case C_z98 => k_extra "j.cx"); (case N_z98 => k_asm); (case ma_z98 => k_mem); (case mx_z98 => k_mem); (case md_z98 => k_mem); (case mt_z98 => k_mem); (case lo_z98 => assumption); (case ho_z98 => assumption)); intro h'w tk'w e'w g'w FG'w RS'w U'w; (try dsimp only)))
  k_with "j.call ref" => ((k_here; (with_reducible show wpAny _ _ (call (Value.ref 176) _) _ _ _); refine wpAny_call ?_; k_dflt (refine' (iand_e ?ma_z99 ?lo_z99 ?ho_z99 ?mx_z99 ?md_z99 ?mt_z99) _ _ _ _ _ _ _ _ _ _ ?C_z99 ?N_z99 ?_; (case C_z99 => k_extra "j.cx"); (case N_z99 => k_asm); (case ma_z99 => k_mem); (case mx_z99 => k_mem); (case md_z99 => k_mem); (case mt_z99 => k_mem); (case lo_z99 => assumption); (case ho_z99 => assumption)); intro h'w tk'w e'w g'w FG'w RS'w U'w; (try dsimp only)))
  k_with "j.call ref" => ((k_here; (with_reducible show wpAny _ _ (call (Value.ref 183) _) _ _ _); refine wpAny_call ?_; k_dflt (refine' (iadd_e ?ma_z100 ?lo_z100 ?ho_z100 ?mx_z100 ?md_z100 ?mt_z100) _ _ _ _ _ _ _ _ _ _ ?C_z100 ?N_z100 ?_; (case C_z100 => k_extra "j.cx"); (case N_z100 => k_asm); (case ma_z100 => k_mem); (case mx_z100 => k_mem); (case md_z100 => k_mem); (case mt_z100 => k_mem); (case lo_z100 => assumption); (case ho_z100 => assumption)); intro h'w tk'w e'w g'w FG'w RS'w U'w; (try dsimp only)))
  k_with "j.call ref" => ((k_here; (with_reducible show wpAny _ _ (call (Value.ref 190) _) _ _ _); refine wpAny_call ?_; k_dflt (refine' (isub_e ?ma_z101 ?lo_z101 ?ho_z101 ?mx_z101 ?md_z101 ?mt_z101) _ _ _ _ _ _ _ _ _ _ ?C_z101 ?N_z101 ?_; (case C_z101 => k_extra "j.cx"); (case N_z101 => k_asm); (case ma_z101 => k_mem); (case mx_z101 => k_mem); (case md_z101 => k_mem); (case mt_z101 => k_mem); (case lo_z101 => assumption); (case ho_z101 => assumption)); intro h'w tk'w e'w g'w FG'w RS'w U'w; (try dsimp only)))
  k_with "j.call ref" => ((k_here; (with_reducible show wpAny _ _ (call (Value.ref 197) _) _ _ _); refine wpAny_call ?_; k_dflt (refine' (ixor_e ?ma_z102 ?lo_z102 ?ho_z102 ?mx_z102 ?md_z102 ?mt_z102) _ _ _ _ _ _ _ _ _ _ ?C_z102 ?N_z102 ?_; (case C_z102 => k_extra "j.cx"); (case N_z102 => k_asm); (case ma_z102 => k_mem); (case mx_z102 => k_mem); (case md_z102 => k_mem); (case mt_z102 => k_mem); (case lo_z102 => assumption); (case ho_z102 => assumption)); intro h'w tk'w e'w g'w FG'w RS'w U'w; (try dsimp only)))
  trivial

section
variable {prog : Program} {w : World} {x dx t y dy u : Nat} {n n' : Nat} {hx hy : Int} {tkx tky : Tok} {o p : Obj} {ks qs : List PK} {ro : List (Addr × Obj)} {a c : Nat} {its : Array Value}
theorem item_e {i : Int} {tk : Tok} (hi : i < -(ks.length : Int) ∨ (ks.length : Int) ≤ i) (lo : (t == sysModules) = false) (ho : IsD prog w o ks) (mx : (x, instObj 270 dx) ∈ ro) (md : (dx, dictOf [⟨hx, .str "table" tkx, .ref t⟩] n) ∈ ro) (mt : (t, o) ∈ ro) : CtrE prog w 4 239 [.ref x, .int i tk] ro "IndexError" := by
  rcases hi with hi | hi
  · have hz : i < 0 := by omega
    intro A₀ A s base h₀ outer L m env R C N h
    k_extra "j.enter"
    k_extra "j.steps"
    k_extra "j.raise"
  · have hz : ¬ i < 0 := by omega
    intro A₀ A s base h₀ outer L m env R C N h
    k_extra "j.enter"
    k_extra "j.steps"
    k_extra "j.raise"
end
theorem say17 : True := by
  k_with "j.call ref" => ((k_here; (with_reducible show wpAny _ _ (call (Value.ref 239) _) _ _ _); refine wpAny_call ?_; k_dflt (refine' (item_e ?hi_z103 ?lo_z103 ?ho_z103 ?mx_z103 ?md_z103 ?mt_z103) _ _ _ _ _ _ _ _ _ _ ?C_z103 ?N_z103 ?_; (case C_z103 => k_extra "j.cx"); (case N_z103 => k_asm); (case mx_z103 => k_mem); (case md_z103 => k_mem); (case mt_z103 => k_mem); (case lo_z103 => assumption); (case ho_z103 => assumption); (case hi_z103 => first | assumption | omega)); intro h'w tk'w e'w g'w FG'w RS'w U'w; (try dsimp only)))
  trivial

section
variable {prog : Program} {w : World} {x dx t y dy u : Nat} {n n' : Nat} {hx hy : Int} {tkx tky : Tok} {o p : Obj} {ks qs : List PK} {ro : List (Addr × Obj)} {a c : Nat} {its : Array Value}
theorem delitem_e {i : Int} {tk : Tok} (hi : i < -(ks.length : Int) ∨ (ks.length : Int) ≤ i) (lo : (t == sysModules) = false) (ho : IsD prog w o ks) (mx : (x, instObj 270 dx) ∈ ro) (md : (dx, dictOf [⟨hx, .str "table" tkx, .ref t⟩] n) ∈ ro) (mt : (t, o) ∈ ro) : CtrE prog w 6 246 [.ref x, .int i tk] ro "IndexError" := by
  intro A₀ A s base h₀ outer L m env R C N h
  k_extra "j.enter"
  k_extra "j.steps"
  k_extra "j.raise"
theorem pop_e (hks : ks = []) (lo : (t == sysModules) = false) (ho : IsD prog w o ks) (mx : (x, instObj 270 dx) ∈ ro) (md : (dx, dictOf [⟨hx, .str "table" tkx, .ref t⟩] n) ∈ ro) (mt : (t, o) ∈ ro) : CtrE prog w 4 57 [.ref x] ro "KeyError" := by
  subst hks
  intro A₀ A s base h₀ outer L m env R C N h
  k_extra "j.enter"
  k_extra "j.steps"
  k_extra "j.raise"
end
theorem say18 : True := by
  k_with "j.call ref" => ((k_here; (with_reducible show wpAny _ _ (call (Value.ref 246) _) _ _ _); refine wpAny_call ?_; k_dflt (refine' (delitem_e ?hi_z104 ?lo_z104 ?ho_z104 ?mx_z104 ?md_z104 ?mt_z104) _ _ _ _ _ _ _ _ _ _ ?C_z104 ?N_z104 ?_; (case C_z104 => k_extra "j.cx"); (case N_z104 => k_asm); (case mx_z104 => k_mem); (case md_z104 => k_mem); (case mt_z104 => k_mem); (case lo_z104 => assumption); (case ho_z104 => assumption); (case hi_z104 => first | assumption | omega)); intro h'w tk'w e'w g'w FG'w RS'w U'w; (try dsimp only)))
  k_with "j.call ref" => ((k_here; (with_reducible show wpAny _ _ (call (Value.ref 57) _) _ _ _); refine wpAny_call ?_; k_dflt (refine' (pop_e ?hks_z105 ?lo_z105 ?ho_z105 ?mx_z105 ?md_z105 ?mt_z105) _ _ _ _ _ _ _ _ _ _ ?C_z105 ?N_z105 ?_; (case C_z105 => k_extra "j.cx"); (case N_z105 => k_asm); (case mx_z105 => k_mem); (case md_z105 => k_mem); (case mt_z105 => k_mem); (case lo_z105 => assumption); (case ho_z105 => assumption); (case hks_z105 => assumption)); intro h'w tk'w e'w g'w FG'w RS'w U'w; (try dsimp only)))
  trivial

/-- what is kept but for the foot and the slots of the frames -/
def KeepsT (h h' : Heap) (as fs : List Addr) : Prop := ∀ b o, h.get? b = some o → b ∉ as → b ∉ fs → h'.get? b = some o
/-- a contract of a def that may catch inside: the ground is turned -/
def CtrT (prog : Program) (w : World) (l : Nat) (f : Addr) (args : List Value) (foot : List (Addr × Obj)) (post : Value → List (Addr × Obj) → Prop) : Prop :=
  ∀ (A₀ A : Around) (s : Shared) (base h₀ g₀ : Heap) (outer : List Env) (L : Addr) (m : Str → Option Value) (cn : Str) (cs : Scope) (ca : Addr) (ccd : Value) (R : Result → Shared → Prop),
    Cx w l A₀ A base outer h₀ L m (envOf cn cs L ca ccd) s.heap → News h₀ L s.heap foot → KtsTurn (outer.filterMap (·.frame)) g₀ h₀ →
    (∀ h' tk' v foot' h₀', post v foot' → KtsTurn (outer.filterMap (·.frame)) g₀ h₀' → Fr h₀' L h' m → News h₀' L h' foot' → Below A₀ base outer h₀' → KtsDicts (outer.filterMap (·.frame)) h₀' →
      KeepsT s.heap h' (foot.map (·.1)) ((envOf cn cs L ca ccd :: outer).filterMap (·.frame)) → (∀ b, h₀.get? b = none → h₀'.get? b = none) → (∀ p ∈ foot', p.1 ∉ foot.map (·.1) → s.heap.get? p.1 = none) → R (.ok (.ret v)) { s with heap := h', toks := tk' }) →
    codeAny (model prog w) A (.call (.ref f) ⟨args, []⟩) R s
def LeaveT (A₀ : Around) (base : Heap) (outer : List Env) (fs fs' : List Addr) (g₀ h₀ : Heap) (L : Addr) (m : Str → Option Value) (hs : Heap) (as : List Addr) (g : Heap) (R : Result → Shared → Prop) (v : Value) (s' : Shared) : Prop :=
  ∃ g' L' m' news', KtsTurn fs' g g' ∧ Fr g' L' s'.heap m' ∧ News g' L' s'.heap news' ∧
    (∀ h₀', KtsTurn fs g₀ h₀' → Fr h₀' L s'.heap m → News h₀' L s'.heap news' → Below A₀ base outer h₀' → KtsDicts fs h₀' → KeepsT hs s'.heap as fs' → (∀ b, h₀.get? b = none → h₀'.get? b = none) → (∀ p ∈ news', p.1 ∉ as → hs.get? p.1 = none) → R (.ok (.ret v)) s')
theorem LeaveT.mk {A₀ : Around} {base : Heap} {outer : List Env} {fs fs' : List Addr} {g₀ h₀ : Heap} {L : Addr} {m : Str → Option Value} {hs : Heap} {as : List Addr} {g : Heap} {R : Result → Shared → Prop} {v : Value} {s : Shared} {h' : Heap} {tk : Nat} {g' : Heap} {L' : Addr} {m' : Str → Option Value} {news' : List (Addr × Obj)}
    (T1 : KtsTurn fs' g g') (F : Fr g' L' h' m') (N : News g' L' h' news')
    (k : ∀ h₀', KtsTurn fs g₀ h₀' → Fr h₀' L h' m → News h₀' L h' news' → Below A₀ base outer h₀' → KtsDicts fs h₀' → KeepsT hs h' as fs' → (∀ b, h₀.get? b = none → h₀'.get? b = none) → (∀ p ∈ news', p.1 ∉ as → hs.get? p.1 = none) → R (.ok (.ret v)) { s with heap := h', toks := tk }) :
    LeaveT A₀ base outer fs fs' g₀ h₀ L m hs as g R v { s with heap := h', toks := tk } := ⟨g', L', m', news', T1, F, N, k⟩
section
variable {prog : Program} {w : World} {A₀ A : Around} {s : Shared} {base h₀ g₀ : Heap} {outer : List Env} {L ca : Addr} {m : Str → Option Value} {cn : Str} {cs : Scope} {ccd : Value} {news : List (Addr × Obj)} {l : Nat}
  {R : Result → Shared → Prop} {name qual : Str} {params : Arguments} {body : List Stmt} {scope : Scope} {dV kV doc pm cdv ct oc : Value} {an od : Option Addr} {osl : Array (Option Value)} {f : Addr} {args : Args} {binds : List (Str × Value)}
theorem enterT (C : Cx w l A₀ A base outer h₀ L m (envOf cn cs L ca ccd) s.heap) (N : News h₀ L s.heap news) (T0 : KtsTurn (outer.filterMap (·.frame)) g₀ h₀) (hl : 0 < l)
    (ho : (hd.heap_1 w.params).lookup f = some ⟨oc, od, .func (fnOf name qual params body scope dV kV doc pm an cdv ct), osl⟩) (hcd : codeIn (hd.heap_1 w.params) cdv qual = true)
    (hbind : BindsTo s (fnOf name qual params body scope dV kV doc pm an cdv ct) args binds) (hloc : ∀ y ∈ binds, scope.names.lookup y.1 = some .local)
    (hco : scope.isCoroutine = false) (hgen : scope.isGenerator = false) (hk : scope.kind = .function) (hcell : ∀ x ∈ scope.names, x.2 ≠ .cell)
    (h : ∀ g L' h₁ loose mean mg mb, (hd.heap_1 w.params).In base → Top hd.view_39 loose mean mg mb base → Fr h₀ L g m → Fr g L' h₁ (fun y => binds.reverse.lookup y) → News g L' h₁ news → Below A base (envOf cn cs L ca ccd :: outer) g → (hd.heap_1 w.params).In g → Top hd.view_39 loose mean mg mb g →
      A.depth + l < recursionLimit → A.units + 10 * l < cLine → A.handled = none → KtsDicts ((envOf cn cs L ca ccd :: outer).filterMap (·.frame)) g → Keeps s.heap g (news.map (·.1)) →
      wpAny (model prog w) (A.deeper (envOf qual scope L' f cdv)) (execs body (envOf qual scope L' f cdv))
        (fun fl s' => LeaveT A₀ base outer (outer.filterMap (·.frame)) ((envOf cn cs L ca ccd :: outer).filterMap (·.frame)) g₀ h₀ L m s.heap (news.map (·.1)) g R (match fl with | .ret v => v | _ => .none) s')
        (fun e s' => wpAny (model prog w) (A.deeper (envOf qual scope L' f cdv)) (leaving (envOf qual scope L' f cdv) e) (fun _ s'' => R (.error e) s'') (fun e' s'' => R (.error e') s'') s')
        { s with heap := h₁, toks := s.toks + binds.length }) : codeAny (model prog w) A (.call (.ref f) args) R s := by
  obtain ⟨B, F, X, ⟨loose, mean, mg, mb, T⟩, D, hA, hf, hke, room, units, hh⟩ := C
  obtain ⟨FG, BG, st, _⟩ := groundX (R := R) B F N hA hf hke
  have X₀ := X.keeps B.stays
  have T₀ := T.keeps B.stays
  have kp : Keeps s.heap (hideAll s.heap (news.map (·.1))) (news.map (·.1)) := fun b o e nm => hideAll_get _ e nm
  refine codeAny_call_def (fd := fnOf name qual params body scope dV kV doc pm an cdv ct) (body := body) (binds := binds) (by omega) ((X₀.keeps F.keep) _ _ ho) rfl (T₀.nolimit.keeps F.keep) (codeRec_of (X₀.keeps F.keep) hcd) rfl hbind hcell hloc (fun h₁ hns hk₁ => ?_) hco hgen hk
  refine wpAny_mono (h _ s.heap.objs.size h₁ loose mean mg mb X T FG ⟨hns, fun b o e => hk₁ b o (of_hideAll _ e), Nat.le_of_eq (hideAll_size _ _)⟩
    (fun p hp => ⟨hk₁ _ _ (N p hp).1, Nat.ne_of_lt (Heap.lt_size (N p hp).1), hideAll_none _ (List.mem_map_of_mem hp)⟩) BG (X₀.keeps st) (T₀.keeps st) room units hh ?_ kp) (fun fl s' hl => ?_) fun _ _ y => y
  · intro b' hb
    rcases kts_mem hb with rfl | z
    · obtain ⟨o, es, ep, ho, hd, _⟩ := FG.ns
      exact ⟨o, es, ep, ho, hd⟩
    · obtain ⟨o, es, n, ho, hd⟩ := D b' z
      exact ⟨o, es, n, FG.keep _ _ ho, hd⟩
  obtain ⟨g', L', m', news', T', F', N', k⟩ := hl
  have hup : (hideAll s.heap (news.map (·.1))).UpToSlots s'.heap := fun b o e _ => by
    obtain ⟨sl, hs⟩ := T'.up e
    exact ⟨sl, F'.keep _ _ hs⟩
  obtain ⟨h₀', T₁, F₁, B₁⟩ := kts_ground (B := hideAll (hideAll s.heap (news.map (·.1))) ((envOf cn cs L ca ccd :: outer).filterMap (·.frame))) B FG (fun b o e nm => hideAll_get _ e nm)
    (fun b o e => by
      by_cases hm : b ∈ (envOf cn cs L ca ccd :: outer).filterMap (·.frame)
      · rw [hideAll_none _ hm] at e; cases e
      · exact F'.keep _ _ (T'.other _ _ (of_hideAll _ e) hm)) hup
  obtain ⟨oL, es, ep, hLg, hLd, hLk, hLf⟩ := FG.ns
  have hL' : ∃ sl, g'.get? L = some { oL with slots := sl } := T'.up hLg
  refine k h₀' (T0.trans T₁) F₁ (fun p hp => ⟨(N' p hp).1, fun q => ?_, T₁.none_ _ ?_⟩) B₁ (D.turn T₁) (fun b o e nm nf => F'.keep _ _ (T'.other _ _ (kp b o e nm) nf)) T₁.none_ (fun p hp nm => ?_)
  · obtain ⟨sl, hs⟩ := hL'
    have := (N' p hp).2.2; rw [q, hs] at this; cases this
  · cases q : h₀.get? p.1 with
    | none => rfl
    | some o =>
      obtain ⟨sl, hs⟩ := T'.up (st _ _ q)
      have := (N' p hp).2.2; rw [hs] at this; cases this
  · cases q : s.heap.get? p.1 with
    | none => rfl
    | some o =>
      obtain ⟨sl, hs⟩ := T'.up (kp _ _ q nm)
      have := (N' p hp).2.2; rw [hs] at this; cases this
end
section
variable {prog : Program} {w : World} {A₀ A : Around} {s : Shared} {base h₀ g₀ : Heap} {outer : List Env} {L ca : Addr} {m : Str → Option Value} {cn : Str} {cs : Scope} {ccd : Value} {news foot : List (Addr × Obj)} {l : Nat}
  {R : Result → Shared → Prop} {f : Addr} {args : List Value} {post : Value → List (Addr × Obj) → Prop}
theorem news_off {h : Heap} (B : Below A₀ base outer h₀) (hA : A.frames = some (envOf cn cs L ca ccd :: outer)) (N : News h₀ L h news) {p : Addr × Obj} (hp : p ∈ news) : p.1 ∉ (envOf cn cs L ca ccd :: outer).filterMap (·.frame) := fun hm => by
  rcases kts_mem hm with e | z
  · exact (N p hp).2.1 e
  · obtain ⟨_, o, ho, _⟩ := B.frames.mem z
    rw [(N p hp).2.2] at ho; cases ho
theorem CtrT.use (c : CtrT prog w l f args foot post) (C : Cx w l A₀ A base outer h₀ L m (envOf cn cs L ca ccd) s.heap) (N : News h₀ L s.heap news) (T0 : KtsTurn (outer.filterMap (·.frame)) g₀ h₀) (hsub : ∀ p ∈ foot, p ∈ news)
    (h : ∀ h' tk' v foot' h₀', post v foot' → KtsTurn (outer.filterMap (·.frame)) g₀ h₀' → Fr h₀' L h' m → (∀ news', (∀ p ∈ news', p ∈ foot' ∨ (p ∈ news ∧ p.1 ∉ foot.map (·.1))) → News h₀' L h' news') → Below A₀ base outer h₀' → KtsDicts (outer.filterMap (·.frame)) h₀' → (∀ p ∈ foot', p.1 ∉ foot.map (·.1) → s.heap.get? p.1 = none) → R (.ok (.ret v)) { s with heap := h', toks := tk' }) :
    codeAny (model prog w) A (.call (.ref f) ⟨args, []⟩) R s :=
  c A₀ A s base h₀ g₀ outer L m cn cs ca ccd R C (fun p hp => N p (hsub p hp)) T0 fun h' tk' v foot' h₀' hp T' F' N' B' D' K' nn fr =>
    h h' tk' v foot' h₀' hp T' F' (fun _ hn p hq => (hn p hq).elim (fun q => N' p q) fun q => ⟨K' _ _ (N p q.1).1 q.2 (news_off C.B C.hA N q.1), (N p q.1).2.1, nn _ (N p q.1).2.2⟩) B' D' fr
/-- the foot is read alone -/
theorem CtrT.read {pst : Value → Prop} (c : CtrT prog w l f args foot (fun v ft => pst v ∧ ft = foot)) (C : Cx w l A₀ A base outer h₀ L m (envOf cn cs L ca ccd) s.heap) (N : News h₀ L s.heap news) (T0 : KtsTurn (outer.filterMap (·.frame)) g₀ h₀) (hsub : ∀ p ∈ foot, p ∈ news)
    (h : ∀ h' tk' v h₀', pst v → KtsTurn (outer.filterMap (·.frame)) g₀ h₀' → Fr h₀' L h' m → News h₀' L h' news → Below A₀ base outer h₀' → KtsDicts (outer.filterMap (·.frame)) h₀' → R (.ok (.ret v)) { s with heap := h', toks := tk' }) :
    codeAny (model prog w) A (.call (.ref f) ⟨args, []⟩) R s := by
  refine c.use C N T0 hsub fun h' tk' v ft h₀' hp T' F' nw B' D' _ => ?_
  obtain ⟨hp, rfl⟩ := hp
  refine h h' tk' v h₀' hp T' F' (nw _ fun p hq => ?_) B' D'
  by_cases hr : p.1 ∈ ft.map (·.1)
  · obtain ⟨q, hq', eq⟩ := List.mem_map.mp hr
    exact .inl (news_fun N (hsub q hq') hq eq ▸ hq')
  · exact .inr ⟨hq, hr⟩
end

section
variable {prog : Program} {w : World} {A : Around} {E : Value → Shared → Prop} {s : Shared} {h₀ : Heap} {L : Addr} {m : Str → Option Value}
def ROW : List Value := [.int 4 513, .int 21 514, .int 4060 515, .int 1231 516, .int 500 517, .int 9 518, .int 347 519, .int 20 520, .int 248 521, .int 352 522]
def ITEMS : List Value := [.int 3 503, .str "b" 504, .int 0 505, .str "" 506, .int 7 507, .str "a" 508, .int 12 509, .str "ab" 510, .int 255 511]
theorem row_lookup : (hd.heap_1 w.params).lookup 276 = some ⟨.type "tuple", none, .seq ROW.toArray 0, #[]⟩ := by k_is
theorem items_lookup : (hd.heap_1 w.params).lookup 275 = some ⟨.type "tuple", none, .seq ITEMS.toArray 0, #[]⟩ := by k_is
theorem idx_of {i : Int} {n : Nat} (h0 : 0 ≤ i) (h1 : i < n) : seqIndex? i n = some i.toNat := by
  unfold seqIndex?
  simp only [Int.not_lt.mpr h0, if_false]
  first | (rw [if_pos (by omega)]) | (rw [if_neg (by omega)]) | (simp; omega)
theorem tRow {value slice : PySem.Expr} {i : Int} {u : Tok} {Q : Value → Shared → Prop} (F : Fr h₀ L s.heap m) (X₀ : (hd.heap_1 w.params).In h₀) (h0 : 0 ≤ i) (h1 : i < 10) (h : ∀ n tk, Q (.int n tk) s)
    (hs : subscripted slice false (.ref 276) (.int i u) = operate [.ref 276, .int i u] (getItem (.ref 276) (.int i u)) := by with_unfolding_all rfl) :
    wpAny (model prog w) A (subscriptTail value slice (.ref 276) (.int i u)) Q E s := by
  obtain ⟨j, rfl⟩ := Int.eq_ofNat_of_zero_le h0
  have hj : j < 10 := by omega
  have hv : ∃ n tk, ROW[j]? = some (.int n tk) := by
    match j, hj with
    | 0, _ => exact ⟨_, _, rfl⟩
    | 1, _ => exact ⟨_, _, rfl⟩
    | 2, _ => exact ⟨_, _, rfl⟩
    | 3, _ => exact ⟨_, _, rfl⟩
    | 4, _ => exact ⟨_, _, rfl⟩
    | 5, _ => exact ⟨_, _, rfl⟩
    | 6, _ => exact ⟨_, _, rfl⟩
    | 7, _ => exact ⟨_, _, rfl⟩
    | 8, _ => exact ⟨_, _, rfl⟩
    | 9, _ => exact ⟨_, _, rfl⟩
    | j + 10, hj => omega
  obtain ⟨n, tk, e⟩ := hv
  exact topTup_K F X₀ row_lookup (by omega) (by omega) (idx_of h0 (by simpa [ROW] using h1)) (by simpa using e) (h n tk) hs
theorem tItems {value slice : PySem.Expr} {i : Int} {u : Tok} {Q : Value → Shared → Prop} (F : Fr h₀ L s.heap m) (X₀ : (hd.heap_1 w.params).In h₀) (h0 : 0 ≤ i) (h1 : i < 9) (h : ∀ k v, IsV k v → Q v s)
    (hs : subscripted slice false (.ref 275) (.int i u) = operate [.ref 275, .int i u] (getItem (.ref 275) (.int i u)) := by with_unfolding_all rfl) :
    wpAny (model prog w) A (subscriptTail value slice (.ref 275) (.int i u)) Q E s := by
  obtain ⟨j, rfl⟩ := Int.eq_ofNat_of_zero_le h0
  have hj : j < 9 := by omega
  have hv : ∃ k v, ITEMS[j]? = some v ∧ IsV k v := by
    match j, hj with
    | 0, _ => exact ⟨.int 3, _, rfl, by decide, by decide⟩
    | 1, _ => exact ⟨.str "b", _, rfl, by decide, by decide⟩
    | 2, _ => exact ⟨.int 0, _, rfl, by decide, by decide⟩
    | 3, _ => exact ⟨.str "", _, rfl, by decide, by decide⟩
    | 4, _ => exact ⟨.int 7, _, rfl, by decide, by decide⟩
    | 5, _ => exact ⟨.str "a", _, rfl, by decide, by decide⟩
    | 6, _ => exact ⟨.int 12, _, rfl, by decide, by decide⟩
    | 7, _ => exact ⟨.str "ab", _, rfl, by decide, by decide⟩
    | 8, _ => exact ⟨.int 255, _, rfl, by decide, by decide⟩
    | j + 9, hj => omega
  obtain ⟨k, v, e, hi⟩ := hv
  exact topTup_K F X₀ items_lookup (by omega) (by omega) (idx_of h0 (by simpa [ITEMS] using h1)) (by simpa using e) (h k v hi) hs
end
theorem say19 : True := by
  k_with "j.subscr" => ((k_here; (with_reducible show wpAny _ _ (subscriptTail _ _ (Value.ref 276) (Value.int _ _)) _ _ _); with_unfolding_all (refine' tRow ?F_z106 ?X_z106 ?a_z106 ?b_z106 ?_; (case F_z106 => k_asm); (case X_z106 => k_in); (case a_z106 => first | assumption | omega); (case b_z106 => first | assumption | omega)); intro n'w tk'w))
  k_with "j.subscr" => ((k_here; (with_reducible show wpAny _ _ (subscriptTail _ _ (Value.ref 275) (Value.int _ _)) _ _ _); with_unfolding_all (refine' tItems ?F_z107 ?X_z107 ?a_z107 ?b_z107 ?_; (case F_z107 => k_asm); (case X_z107 => k_in); (case a_z107 => first | assumption | omega); (case b_z107 => first | assumption | omega)); intro k'w v'w V'w))
  trivial

section
variable {prog : Program} {w : World} {A₀ A : Around} {s : Shared} {base h₀ : Heap} {outer : List Env} {L : Addr} {m : Str → Option Value} {env : Env} {news : List (Addr × Obj)} {R : Result → Shared → Prop}
theorem law_at_c {scr : Nat} {vs : List Value} {ns : List Int} {i : Int} {ti : Tok} (C : Cx w 4 A₀ A base outer h₀ L m env s.heap) (hS : base.IsList scr vs.toArray) (hI : IntsAre vs ns) (hlen : ns.length ≤ 63) (N : News h₀ L s.heap news) (h0 : 0 ≤ i) (h1 : i < 1000)
    (h : ∀ h' tk' r tk, 0 ≤ r → r < 1000000000000 → Fr h₀ L h' m → News h₀ L h' news → R (.ok (.ret (.int r tk))) { s with heap := h', toks := tk' }) :
    codeAny (model prog w) A (.call (.ref 283) ⟨[.ref scr, .int i ti], []⟩) R s := by
  k_extra "j.enter"
  rename Below _ _ _ _ => kB
  have hSg := hS.at fun o e => (Below.stays (by assumption : Below A base (env :: outer) _)) _ o e
  k_extra "j.steps"
  all_goals exact h _ _ _ _ (Int.fmod_nonneg_of_pos _ (by decide)) (Int.fmod_lt_of_pos _ (by decide)) (by assumption) (by assumption)
end

def NeA (a b : Nat) : Prop := a ≠ b
def AllNA (d : Nat) : List (Addr × Obj) → Prop
  | [] => True
  | p :: r => NeA p.1 d ∧ AllNA d r
theorem allNA_of {d : Nat} : ∀ {l : List (Addr × Obj)}, (∀ p ∈ l, p.1 ≠ d) → AllNA d l
  | [], _ => trivial
  | p :: _, h => ⟨h p (.head _), allNA_of fun q hq => h q (.tail _ hq)⟩
theorem allNA_ne {d : Nat} : ∀ {l : List (Addr × Obj)}, AllNA d l → ∀ p ∈ l, p.1 ≠ d
  | [], _, _, hp => nomatch hp
  | q :: r, ⟨h1, h2⟩, p, hp => by
    rcases List.mem_cons.mp hp with rfl | hp
    · exact h1
    · exact allNA_ne h2 p hp
theorem allNA_lt {d : Nat} {l : List (Addr × Obj)} (h : AllLt d l) : AllNA d l := allNA_of (allLt_ne h)
theorem allNA_at {d y : Nat} {o : Obj} {l : List (Addr × Obj)} (h : AllNA d l) (hm : (y, o) ∈ l) : y ≠ d := allNA_ne h _ hm
theorem IsL.snoc {ks : List PK} {k : PK} {vs : List Value} {v : Value} (h : IsL ks vs) (hv : IsV k v) : IsL (ks ++ [k]) (vs ++ [v]) := h.append (IsL.cons hv IsL.nil)
theorem IsL.nil_inv {vs : List Value} (h : IsL [] vs) : vs = [] := List.length_eq_zero_iff.mp h.1
theorem IsL.split : ∀ {pre : List PK} {k : PK} {post : List PK} {vs : List Value}, IsL (pre ++ k :: post) vs → ∃ a v b, vs = a ++ v :: b ∧ a.length = pre.length ∧ IsL pre a ∧ IsV k v ∧ IsL post b
  | [], k, post, vs, h => by
    obtain ⟨v, r, rfl, hv, hr⟩ := IsL.inv h
    exact ⟨[], v, r, rfl, rfl, IsL.nil, hv, hr⟩
  | q :: pre, k, post, vs, h => by
    obtain ⟨v, r, rfl, hv, hr⟩ := IsL.inv h
    obtain ⟨a, v', b, rfl, hl, ha, hv', hb⟩ := IsL.split hr
    exact ⟨v :: a, v', b, rfl, by simp [hl], IsL.cons hv ha, hv', hb⟩
theorem IsL.any_is : ∀ {ks : List PK} {vs : List Value} (k : PK), IsL ks vs → vs.any k.is = decide (k ∈ ks)
  | [], vs, k, h => by rw [h.nil_inv]; rfl
  | q :: ks, vs, k, h => by
    obtain ⟨v, r, rfl, hv, hr⟩ := IsL.inv h
    rw [List.any_cons, IsL.any_is k hr]
    by_cases e : k = q
    · subst e; simp [hv.1]
    · have : k.is v = false := by
        cases z : k.is v with
        | false => rfl
        | true => exact absurd (PK.inj v k q z hv.1) e
      simp [this, e]
theorem IsL.mem_v : ∀ {ks : List PK} {vs : List Value}, IsL ks vs → ∀ v ∈ vs, ∃ k ∈ ks, IsV k v
  | [], vs, h, v, hm => by rw [h.nil_inv] at hm; cases hm
  | q :: ks, vs, h, v, hm => by
    obtain ⟨v', r, rfl, hv, hr⟩ := IsL.inv h
    rcases List.mem_cons.mp hm with rfl | hm
    · exact ⟨q, by simp, hv⟩
    · obtain ⟨k, hk, z⟩ := IsL.mem_v hr v hm
      exact ⟨k, by simp [hk], z⟩
def lft (pz : PK → Bool) : Value → Bool
  | .int i _ => pz (.int i)
  | .str s _ => pz (.str s)
  | _ => false
theorem lft_is {pz : PK → Bool} {k : PK} {v : Value} (h : IsV k v) : lft pz v = pz k := by
  cases k with
  | int i => obtain ⟨t, rfl⟩ := PK.is_int h.1; rfl
  | str i => obtain ⟨t, rfl⟩ := PK.is_str h.1; rfl
theorem IsL.filter : ∀ {ks : List PK} {vs : List Value} (pz : PK → Bool), IsL ks vs → IsL (ks.filter pz) (vs.filter (lft pz))
  | [], vs, pz, h => by rw [h.nil_inv]; exact IsL.nil
  | q :: ks, vs, pz, h => by
    obtain ⟨v, r, rfl, hv, hr⟩ := IsL.inv h
    rw [List.filter_cons, List.filter_cons, lft_is hv]
    split
    · exact IsL.cons hv (IsL.filter pz hr)
    · exact IsL.filter pz hr
theorem paired_eq {ys : List Value} : ∀ {l : List Value}, Paired (fun v y => y = v) l ys → ys = l := by
  intro l h
  induction h with
  | nil => rfl
  | cons h _ ih => rw [h, ih]
section
variable {prog : Program} {w : World} {A : Around} {E : Value → Shared → Prop} {s : Shared} {h₀ : Heap} {L : Addr} {m : Str → Option Value} {news : List (Addr × Obj)} {l : Nat} {vs : List Value} {c : Nat} {ks : List PK} {k : PK} {v : Value}
theorem eqg (hi : IsL ks vs) (hv : IsV k v) : ∀ y, y ∈ vs.toArray → PySem.MeetsSeq.EqGives y v (k.is y) := by
  intro y hy prog w A E s Q h
  obtain ⟨q, _, hq⟩ := hi.mem_v y (by simpa using hy)
  refine PK.eqB hq.1 hv.1 ?_
  have : k.is y = decide (q = k) := by
    by_cases e : q = k
    · subst e; simp [hq.1]
    · simp only [e, decide_false]
      cases z : k.is y with
      | false => rfl
      | true => exact absurd (PK.inj y q k hq.1 z) e
  rw [← this]; exact h
theorem lIn {Q : Value → Shared → Prop} (N : News h₀ L s.heap news) (hm : (l, listOf vs.toArray c) ∈ news) (hi : IsL ks vs) (hv : IsV k v) (h : Q (.bool (decide (k ∈ ks))) s) :
    wpAny (model prog w) A (compareOp .In v (.ref l)) Q E s :=
  PySem.SeqRoads2.in_list k.is (eqg hi hv) (N _ hm).1 (by rw [List.any_toArray, hi.any_is]; exact h)
theorem lNotIn {Q : Value → Shared → Prop} (N : News h₀ L s.heap news) (hm : (l, listOf vs.toArray c) ∈ news) (hi : IsL ks vs) (hv : IsV k v) (h : Q (.bool (!decide (k ∈ ks))) s) :
    wpAny (model prog w) A (compareOp .NotIn v (.ref l)) Q E s :=
  PySem.SeqRoads2.notIn_list k.is (eqg hi hv) (N _ hm).1 (by rw [List.any_toArray, hi.any_is]; exact h)
theorem lIn_t {Q : Value → Shared → Prop} (N : News h₀ L s.heap news) (hm : (l, listOf vs.toArray c) ∈ news) (hi : IsL ks vs) (hv : IsV k v) (hk : k ∈ ks) (h : Q (.bool true) s) :
    wpAny (model prog w) A (compareOp .In v (.ref l)) Q E s := lIn N hm hi hv (by simpa [hk] using h)
theorem lIn_f {Q : Value → Shared → Prop} (N : News h₀ L s.heap news) (hm : (l, listOf vs.toArray c) ∈ news) (hi : IsL ks vs) (hv : IsV k v) (hk : k ∉ ks) (h : Q (.bool false) s) :
    wpAny (model prog w) A (compareOp .In v (.ref l)) Q E s := lIn N hm hi hv (by simpa [hk] using h)
theorem lNotIn_t {Q : Value → Shared → Prop} (N : News h₀ L s.heap news) (hm : (l, listOf vs.toArray c) ∈ news) (hi : IsL ks vs) (hv : IsV k v) (hk : k ∉ ks) (h : Q (.bool true) s) :
    wpAny (model prog w) A (compareOp .NotIn v (.ref l)) Q E s := lNotIn N hm hi hv (by simpa [hk] using h)
theorem lNotIn_f {Q : Value → Shared → Prop} (N : News h₀ L s.heap news) (hm : (l, listOf vs.toArray c) ∈ news) (hi : IsL ks vs) (hv : IsV k v) (hk : k ∈ ks) (h : Q (.bool false) s) :
    wpAny (model prog w) A (compareOp .NotIn v (.ref l)) Q E s := lNotIn N hm hi hv (by simpa [hk] using h)
theorem lAppend {g : Obj → List (Addr × Obj)} {Q : Value → Shared → Prop} (F : Fr h₀ L s.heap m) (N : News h₀ L s.heap news) (U : UpdF l (listOf vs.toArray c) news g) (hi : IsL ks vs) (hv : IsV k v) (hz : ks.length ≤ 100)
    (h : ∀ h' vs', Fr h₀ L h' m → News h₀ L h' (g (listOf vs'.toArray (c + 1))) → IsL (ks ++ [k]) vs' → Q .none { s with heap := h' }) : wpAny (model prog w) A (call (.builtin "list.append") [.ref l, v]) Q E s := by
  obtain ⟨pre, post, rfl, hg, a, b⟩ := U.split
  have z := N (l, listOf vs.toArray c) (List.mem_append.mpr (.inr (.head _)))
  have hs : vs.toArray.size ≤ sizeLine := by rw [List.size_toArray, hi.1, PySem.sizeLine_eq]; omega
  refine append_at (hsz := hs) z.1 fun h' hs ho' => ?_
  refine h h' (vs ++ [v]) (F.change hs z.2.1 z.2.2) ?_ (hi.snoc hv)
  rw [hg]
  refine news_set N a b hs ?_
  have e : vs.toArray.push v = (vs ++ [v]).toArray := by simp
  rw [← e]; exact ho'
theorem lPop {g : Obj → List (Addr × Obj)} {Q : Value → Shared → Prop} (F : Fr h₀ L s.heap m) (N : News h₀ L s.heap news) (U : UpdF l (listOf vs.toArray c) news g) (hi : IsL (ks ++ [k]) vs) (hz : ks.length ≤ 100)
    (h : ∀ h' vs' v, Fr h₀ L h' m → News h₀ L h' (g (listOf vs'.toArray (c + 1))) → IsL ks vs' → IsV k v → Q v { s with heap := h' }) : wpAny (model prog w) A (call (.builtin "list.pop") [.ref l]) Q E s := by
  obtain ⟨a, v, b, rfl, hla, ha, hv, hb⟩ := IsL.split (post := []) hi
  obtain rfl := hb.nil_inv
  obtain ⟨pre, post, rfl, hg, a1, b1⟩ := U.split
  refine kl_pop F N (p := a) (y := v) (by simpa using kpa_last v a) (news' := pre ++ (l, listOf a.toArray (c + 1)) :: post) (upd_mid a1 b1) (by rw [PySem.sizeLine_eq]; simp; omega) fun h' F' N' => h h' a v F' (by rw [hg]; exact N') ha hv
where
  upd_mid {D : Addr} {o o' : Obj} {pre post : List (Addr × Obj)} (h1 : ∀ p ∈ pre, p.1 ≠ D) (h2 : ∀ p ∈ post, p.1 ≠ D) : Upd D o o' (pre ++ (D, o) :: post) (pre ++ (D, o') :: post) := by
    induction pre with
    | nil => exact Upd.head h2
    | cons q r ih => exact Upd.tail (h1 q (by simp)) (ih fun p hp => h1 p (by simp [hp]))
theorem lPopAt {pre post : List PK} {i : Int} {u : Tok} {g : Obj → List (Addr × Obj)} {Q : Value → Shared → Prop} (F : Fr h₀ L s.heap m) (N : News h₀ L s.heap news) (U : UpdF l (listOf vs.toArray c) news g) (hi : IsL (pre ++ k :: post) vs) (hz : (pre ++ k :: post).length ≤ 100)
    (hx : (0 ≤ i ∧ i = pre.length) ∨ (i < 0 ∧ i + (pre ++ k :: post).length = pre.length))
    (h : ∀ h' vs' v, Fr h₀ L h' m → News h₀ L h' (g (listOf vs'.toArray (c + 1))) → IsL (pre ++ post) vs' → IsV k v → Q v { s with heap := h' }) : wpAny (model prog w) A (call (.builtin "list.pop") [.ref l, .int i u]) Q E s := by
  obtain ⟨a, v, b, rfl, hla, ha, hv, hb⟩ := IsL.split hi
  have hlb := hb.1
  obtain ⟨pr, po, rfl, hg, a1, b1⟩ := U.split
  have hlen : (a ++ v :: b).toArray.size = (pre ++ k :: post).length := by simp [hla, hlb]
  have hfit : Builtin.List.listFitsIndex i = true := by
    unfold Builtin.List.listFitsIndex
    simp only [List.length_append, List.length_cons] at hz hx
    simp; omega
  have hk : seqIndex? i (a ++ v :: b).toArray.size = some a.length := by
    rw [hlen, hla]
    rcases hx with ⟨h0, e⟩ | ⟨h0, e⟩
    · subst e
      unfold seqIndex?
      have : ¬ ((pre.length : Int) < 0) := by omega
      simp [this]
      omega
    · rw [PySem.MeetsSeq.seqIndex_neg h0 (by omega)]; congr 1; omega
  have hcut : kl_cut (a ++ v :: b) a.length = some (a, v, b) := by
    clear hi hx hfit hk hlen ha hla N U hlb hz a1 b1 hg
    induction a with
    | nil => rfl
    | cons q r ih => show (match kl_cut (r ++ v :: b) r.length with | some (p, y, z) => _ | none => _) = _; rw [ih]
  refine kl_popAt F N (p := a) (q := b) (y := v) (k := a.length) hfit hk (by simpa using hcut) (news' := pr ++ (l, listOf (a ++ b).toArray (c + 1)) :: po) (lPop.upd_mid a1 b1) (by rw [PySem.sizeLine_eq]; simp; simp at hz; omega) fun h' F' N' => h h' (a ++ b) v F' (by rw [hg]; exact N') (ha.append hb) hv
theorem lRemove {pre post : List PK} {g : Obj → List (Addr × Obj)} {Q : Value → Shared → Prop} (F : Fr h₀ L s.heap m) (N : News h₀ L s.heap news) (U : UpdF l (listOf vs.toArray c) news g) (hi : IsL (pre ++ k :: post) vs) (hz : (pre ++ k :: post).length ≤ 100) (hn : k ∉ pre) (hv : IsV k v)
    (h : ∀ h' vs', Fr h₀ L h' m → News h₀ L h' (g (listOf vs'.toArray (c + 1))) → IsL (pre ++ post) vs' → Q .none { s with heap := h' }) : wpAny (model prog w) A (call (.builtin "list.remove") [.ref l, v]) Q E s := by
  have he := eqg hi hv
  obtain ⟨a, v', b, rfl, hla, ha, hv', hb⟩ := IsL.split hi
  have hlb := hb.1
  obtain ⟨pr, po, rfl, hg, a1, b1⟩ := U.split
  have z := N (l, listOf (a ++ v' :: b).toArray c) (List.mem_append.mpr (.inr (.head _)))
  have hj : a.length < (a ++ v' :: b).toArray.size := by simp
  refine call_meets PySem.F.slot_list_remove ⟨_, z.1, rfl⟩ PySem.F.entry_list_remove (PySem.F.args_list_remove_2 _ _) (PySem.MeetsSeq.list_remove l _ c v k.is he a.length hj ?_ ?_ (by rw [PySem.sizeLine_eq]; simp; simp at hz; omega))
    ⟨z.1, h _ (a ++ b) (F.change (Heap.SameBut.update ..) z.2.1 z.2.2) ?_ (ha.append hb)⟩
  · simpa using hv'.1
  · intro j hj hlt
    have e : (a ++ v' :: b).toArray[j] = a[j] := by simp [List.getElem_append_left hlt]
    rw [e]
    obtain ⟨q, hq, hqv⟩ := ha.mem_v a[j] (List.getElem_mem hlt)
    cases y : k.is a[j] with
    | false => rfl
    | true => exact absurd (PK.inj _ k q y hqv.1 ▸ hq) hn
  · rw [hg]
    refine kl_turn _ N a1 b1 ?_ ?_
    · exact kl_erase a b v'
    · simp
theorem lConcat {l2 : Nat} {ws : List Value} {qs : List PK} {d : Nat} {Q : Value → Shared → Prop} (F : Fr h₀ L s.heap m) (N : News h₀ L s.heap news) (hm : (l, listOf vs.toArray c) ∈ news) (hi : IsL ks vs) (hm2 : (l2, listOf ws.toArray d) ∈ news) (hi2 : IsL qs ws) (hz : ks.length + qs.length ≤ 100)
    (h : ∀ (l' : Nat) h' vs', Fr h₀ L h' m → News h₀ L h' ((l', listOf vs'.toArray 0) :: news) → AllLt l' news → IsL (ks ++ qs) vs' → Q (.ref l') { s with heap := h' }) :
    wpAny (model prog w) A (binaryOp .Add (.ref l) (.ref l2)) Q E s :=
  add_lists (vs := vs) (ws := ws) (hsz := by rw [hi.1, hi2.1, PySem.sizeLine_eq]; omega) F N ⟨_, (N _ hm).1, rfl, _, rfl⟩ ⟨_, (N _ hm2).1, rfl, _, rfl⟩ fun h' F' N' => h _ h' _ F' N' (allLt_of fun p hp => Heap.lt_size (N p hp).1) (hi.append hi2)
theorem lLen {Q : Value → Shared → Prop} (N : News h₀ L s.heap news) (hm : (l, listOf vs.toArray c) ∈ news) (hi : IsL ks vs) (hz : ks.length ≤ 100)
    (h : ∀ tk t, Q (.int ks.length t) { s with toks := tk }) : wpAny (model prog w) A (call (.builtin "len") [.ref l]) Q E s := by
  have e : (vs.toArray.size : Int) = ks.length := by rw [List.size_toArray, hi.1]
  refine PySem.Calls.call_len_list ⟨_, (N _ hm).1, rfl, _, rfl⟩ (by rw [e]; omega) ?_
  rw [e]; exact h _ _
theorem lEqNil {l2 : Nat} {d : Nat} {Q : Value → Shared → Prop} (N : News h₀ L s.heap news) (hm : (l, listOf vs.toArray c) ∈ news) (hi : IsL ks vs) (hm2 : (l2, listOf #[] d) ∈ news) (hu : A.units < cLine)
    (h : Q (.bool (decide (ks = []))) s) : wpAny (model prog w) A (compareOp .Eq (.ref l) (.ref l2)) Q E s := by
  by_cases e : ks = []
  · subst e
    obtain rfl := hi.nil_inv
    refine PySem.SeqAt.eq_listAt (e := fun _ => true) (items := #[]) (items2 := #[]) ⟨_, (N _ hm).1, rfl, _, rfl⟩ ⟨_, (N _ hm2).1, rfl, _, rfl⟩ rfl hu (fun j h1 => absurd h1 (Nat.not_lt_zero _)) ?_
    simpa using h
  · refine PySem.SeqAt.eq_list_lengthsAt (items := vs.toArray) (items2 := #[]) ⟨_, (N _ hm).1, rfl, _, rfl⟩ ⟨_, (N _ hm2).1, rfl, _, rfl⟩ ?_ hu (by simpa [e] using h)
    have : ks.length ≠ 0 := fun z => e (List.length_eq_zero_iff.mp z)
    simp [← List.length_eq_zero_iff, hi.1, this]
theorem kms_pick_all (l : List Value) : kms_pick l none none = l := by
  simp [kms_pick, kms_lo, kms_hi]
theorem lSlice {value slice : PySem.Expr} {Q : Value → Shared → Prop} (F : Fr h₀ L s.heap m) (N : News h₀ L s.heap news) (hm : (l, listOf vs.toArray c) ∈ news) (hi : IsL ks vs) (hz : ks.length ≤ 100)
    (h : ∀ (l' : Nat) h', Fr h₀ L h' m → News h₀ L h' ((l', listOf vs.toArray 0) :: news) → AllLt l' news → Q (.ref l') { s with heap := h' })
    (hs : subscripted slice false (.ref l) (.ref s.heap.objs.size) = operate [.ref s.heap.objs.size, .ref l] (getItem (.ref l) (.ref s.heap.objs.size)) := by with_unfolding_all rfl) (ht : ∀ r, letTemporaryGo value (.ref l) r = pure () := by intro _; with_unfolding_all rfl) :
    wpAny (model prog w) A (subscriptTail value slice (.ref l) (.ref s.heap.objs.size)) Q E { s with heap := s.heap.push { cls := .type "slice", data := .fields #[.none, .none, .none] } } :=
  kms_slice_lit (lo := none) (hi := none) F N ⟨_, (N _ hm).1, rfl, _, rfl⟩ .none .none (kms_pick_all _) (fun D h' F' N' l1 => h D h' F' N' (allLt_of l1)) hs ht (by rw [List.size_toArray, hi.1, PySem.sizeLine_eq]; omega)
end
theorem say20 : True := by
  k_with "j.compareOp NotIn" => ((k_here; (with_reducible show wpAny _ _ (compareOp CmpOp.NotIn _ (Value.ref _)) _ _ _); k_dflt (first
      | (refine' lNotIn_t ?N_z108 ?m_z108 ?o_z108 ?v_z108 ?k_z108 ?_; (case N_z108 => k_asm); (case m_z108 => k_mem); (case o_z108 => assumption); (case v_z108 => assumption); (case k_z108 => assumption))
      | (refine' lNotIn_f ?N_z108 ?m_z108 ?o_z108 ?v_z108 ?k_z108 ?_; (case N_z108 => k_asm); (case m_z108 => k_mem); (case o_z108 => assumption); (case v_z108 => assumption); (case k_z108 => assumption)))))
  k_with "j.compareOp In" => ((k_here; (with_reducible show wpAny _ _ (compareOp CmpOp.In _ (Value.ref _)) _ _ _); k_dflt (first
      | (refine' lIn_t ?N_z109 ?m_z109 ?o_z109 ?v_z109 ?k_z109 ?_; (case N_z109 => k_asm); (case m_z109 => k_mem); (case o_z109 => assumption); (case v_z109 => assumption); (case k_z109 => assumption))
      | (refine' lIn_f ?N_z109 ?m_z109 ?o_z109 ?v_z109 ?k_z109 ?_; (case N_z109 => k_asm); (case m_z109 => k_mem); (case o_z109 => assumption); (case v_z109 => assumption); (case k_z109 => assumption)))))
  k_with "j.sz" => (first | assumption | omega | (simp only [List.length_append, List.length_cons, List.length_nil] at *; omega))
  k_with "j.call builtin:list.append" => ((k_here; k_dflt (refine' lAppend ?F_z111 ?N_z111 ?U_z111 ?i_z111 ?v_z111 ?z_z111 ?_; (case F_z111 => k_asm); (case N_z111 => k_asm); (case U_z111 => k_updF); (case i_z111 => assumption); (case v_z111 => assumption); (case z_z111 => k_extra "j.sz")); intro h'w vs'w F'w N'w I'w; (try dsimp only at N'w); (try k_sweep)))
  k_with "j.getMethod ref" => ((k_here; (with_reducible show wpAny _ _ (getMethod (Value.ref _) (PySem.Str.ofString "remove") _) _ _ _); k_dflt (refine' kl_method ?N_z112 ?m_z112 PySem.F.slot_list_remove PySem.F.type_list_remove ?_; (case N_z112 => k_asm); (case m_z112 => k_mem))))
  k_with "j.call builtin:len" => ((k_here; (with_reducible show wpAny _ _ (call (Value.builtin "len") [Value.ref _]) _ _ _); k_dflt (refine' lLen ?N_z113 ?m_z113 ?o_z113 ?z_z113 ?_; (case N_z113 => k_asm); (case m_z113 => k_mem); (case o_z113 => assumption); (case z_z113 => k_extra "j.sz")); intro tk'w t'w))
  k_with "j.call type:range" => ((k_here; k_dflt (first
      | (refine' range1_rows ?F_z114 ?N_z114 ?_; (case F_z114 => k_asm); (case N_z114 => k_asm))
      | (refine' range2_rows ?F_z114 ?N_z114 ?_; (case F_z114 => k_asm); (case N_z114 => k_asm))); intro h'w tk'w t1'w u1'w v1'w R'w F'w N'w K'w; (try k_sweep)))
  k_with "j.binaryOp Add ref ref" => ((k_here; k_dflt (refine' lConcat ?F_z115 ?N_z115 ?m_z115 ?i_z115 ?n_z115 ?j_z115 ?z_z115 ?_; (case F_z115 => k_asm); (case N_z115 => k_asm); (case m_z115 => k_mem); (case n_z115 => k_mem); (case i_z115 => assumption); (case j_z115 => assumption); (case z_z115 => k_extra "j.sz")); intro l'w h'w vs'w F'w N'w l1 I'w; (replace l1 := allNA_lt l1); (try simp only [AllNA, and_true] at l1); (try k_sweep)))
  trivial

section
variable {prog : Program} {w : World} {A : Around} {E : Value → Shared → Prop} {Q : Flow → Shared → Prop} {s : Shared} {h₀ : Heap} {env : Env} {x : Str} {body : List Stmt} {σ : Type}
  {mo : σ → Str → Option Value} {no : σ → List (Addr × Obj)} {Inv : Nat → σ → Prop} {m₀ : Str → Option Value} {a₀ : σ}
theorem loopW2 {I : Addr} {n : Nat} {P : Nat → Value → Prop} {St : Nat → Heap → Prop} {h : Heap}
    (W : Walks prog w A I [I] [I] n P St) (hI : ∀ i h, St i h → ∃ o, h.get? I = some o) (hIL : I ≠ env.locals) (hI₀ : h₀.get? I = none)
    (hnI : ∀ i a, Inv i a → ∀ p ∈ no a, p.1 ≠ I)
    (hst : St 0 h) (F : Fr h₀ env.locals h m₀) (N : News h₀ env.locals h (no a₀)) (hm : ∀ y, y ≠ x → m₀ y = mo a₀ y) (h0 : Inv 0 a₀)
    (turn : ∀ i a v h' tk oI, i < n → P i v → Inv i a → Fr h₀ env.locals h' (fun y => if y = x then some v else mo a y) → News h₀ env.locals h' ((I, oI) :: no a) →
      wpAny (model prog w) A (execs body env) (TurnEnd h₀ env.locals x [(I, oI)] mo no (Inv (i + 1)) Q { s with heap := h', toks := tk }) E { s with heap := h', toks := tk })
    (done : ∀ h' tk a u, Inv n a → Fr h₀ env.locals h' (fun y => if y = x then u else mo a y) → News h₀ env.locals h' (no a) → Q .next { s with heap := h', toks := tk }) :
    LoopAtV prog w A h₀ env x body Q E (.ref I) { s with heap := h } := by
  have hnI' : ∀ i a, Inv i a → ∀ p ∈ no a, p.1 ∉ [I] := fun i a hi p hp q => hnI i a hi p hp (List.mem_singleton.mp q)
  refine ⟨I, [I], [I], n, P, St, m₀, no a₀, fun i m news => ∃ a, Inv i a ∧ (∀ y, y ≠ x → m y = mo a y) ∧ news = no a, rfl, W, ?_, ?_, hnI' 0 a₀ h0, hst, F, N, ⟨a₀, h0, hm, rfl⟩, ?_, ?_⟩
  · intro q
    exact hIL (List.mem_singleton.mp q).symm
  · intro b hb; rw [List.mem_singleton.mp hb]; exact hI₀
  · rintro i v m₁ news₁ s₁ own ⟨h', tk, rfl⟩ hi hP ⟨a, ha, hma, rfl⟩ _ hfo hown hin hst₁ F₁ N₁
    obtain ⟨oI, hoI⟩ := hI _ _ hst₁
    have hIn : (I, oI) ∈ own := hin I (by simp) hI₀ oI hoI
    have hsub : ∀ p ∈ own, p = (I, oI) := fun p hp => by
      have e := List.mem_singleton.mp (hfo p hp)
      have := hown p hp
      rw [e, hoI] at this
      exact Prod.ext e (Option.some.inj this).symm
    rw [upd_canon hma] at F₁
    have N₂ : News h₀ env.locals h' ((I, oI) :: no a) := fun p hp => N₁ p (by
      rcases List.mem_cons.mp hp with rfl | q
      · exact List.mem_append_left _ hIn
      · exact List.mem_append_right _ q)
    refine wpAny_mono (turn i a v h' tk oI hi hP ha F₁ N₂) (fun f s₂ he => ?_) fun _ _ e => e
    have fin : (∃ h'' tk' m' a', s₂ = { s with heap := h'', toks := tk' } ∧ Fr h₀ env.locals h'' m' ∧ News h₀ env.locals h'' ([(I, oI)] ++ no a') ∧ (∀ y, y ≠ x → m' y = mo a' y) ∧ Inv (i + 1) a') →
        LoopStepU h₀ env.locals [I] own (fun m news => ∃ a, Inv (i + 1) a ∧ (∀ y, y ≠ x → m y = mo a y) ∧ news = no a) { s with heap := h', toks := tk } .next s₂ := by
      rintro ⟨h'', tk', m', a', rfl, F', N', hm', ha'⟩
      refine ⟨rfl, h'', tk', m', no a', rfl, F', fun p hp => ?_, hnI' _ _ ha', a', ha', hm', rfl⟩
      rcases List.mem_append.mp hp with q | q
      · rw [hsub p q]; exact N' _ (by simp)
      · exact N' p (List.mem_append_right _ q)
    cases f with
    | ret v => exact .ret he
    | brk => exact .brk he
    | next => exact .next (fin he)
    | cont => exact .cont (fin he)
  · rintro h' tk m' news' F' N' _ ⟨a, ha, hma, rfl⟩
    rw [self_canon hma] at F'
    exact done h' tk a _ ha F' N'
theorem loop_range {r : Addr} {p b : Int} {t u v : Tok} (a₀ : σ) (mo : σ → Str → Option Value) (no : σ → List (Addr × Obj)) (Inv : Nat → σ → Prop) (hh : A.handled = none) (hr : IsRange s.heap r p b 1 t u v) (n : Nat) (hp : 0 ≤ p) (hn : b = p + n) (hb : b ≤ 1000000)
    (F : Fr h₀ env.locals s.heap m₀) (N : News h₀ env.locals s.heap (no a₀)) (hnI : ∀ i a, Inv i a → ∀ p ∈ no a, p.1 ≠ s.heap.objs.size) (hm : ∀ y, y ≠ x → m₀ y = mo a₀ y) (h0 : Inv 0 a₀)
    (turn : ∀ (i : Nat) a h' tk oI tt, i < n → Inv i a → Fr h₀ env.locals h' (fun y => if y = x then some (.int (p + i) tt) else mo a y) → News h₀ env.locals h' ((s.heap.objs.size, oI) :: no a) →
      wpAny (model prog w) A (execs body env) (TurnEnd h₀ env.locals x [(s.heap.objs.size, oI)] mo no (Inv (i + 1)) Q { s with heap := h', toks := tk }) E { s with heap := h', toks := tk })
    (done : ∀ h' tk a u, Inv n a → Fr h₀ env.locals h' (fun y => if y = x then u else mo a y) → News h₀ env.locals h' (no a) → Q .next { s with heap := h', toks := tk }) :
    wpAny (model prog w) A (pyIter (.ref r)) (fun it s₂ => LoopAtV prog w A h₀ env x body Q E it s₂) E s := by
  have hsz : Builtin.Range.rangeSize p b 1 = (n : Int) := by rw [rangeSize_nat]; omega
  refine wpAny_pyIter_range hr (small_one (by omega) (by omega) (by omega) (by omega)) ?_
  have W : Walks prog w A s.heap.objs.size [s.heap.objs.size] [s.heap.objs.size] n (fun i v => ∃ t, v = .int (p + i * 1) t)
      (fun i h => IsRangeIter h s.heap.objs.size (p + (i : Nat) * 1) ((n : Int) - (i : Nat)) 1) := Walks.range hh _ p 1 n
  refine loopW2 W (fun i h st => ⟨_, st⟩) (Nat.ne_of_gt F.ns.lt) (none_at_size F) hnI (by show IsRangeIter _ _ _ _ _; rw [hsz]; simpa using Heap.get?_push_size _ rfl) (F.push _) (fun p hp => ⟨Heap.get?_push_of_some _ (N p hp).1, (N p hp).2⟩) hm h0 ?_ done
  rintro i a v h' tk oI hi ⟨tt, rfl⟩ ha F' N'
  rw [Int.mul_one] at F'
  exact turn i a h' tk oI tt hi ha F' N'
/-- a loop over a range that turns one object and one more local -/
theorem loop_range_UV {τ : Type} {r l : Nat} {p b : Int} {t u v : Tok} {news : List (Addr × Obj)} {g : Obj → List (Addr × Obj)} (z : Str) (ob : τ → Obj) (va : τ → Value) (a₀ : τ) (Inv : Nat → τ → Prop) (hh : A.handled = none) (hr : IsRange s.heap r p b 1 t u v) (n : Nat) (hp : 0 ≤ p) (hn : b = p + n) (hb : b ≤ 1000000)
    (F : Fr h₀ env.locals s.heap m₀) (N : News h₀ env.locals s.heap news) (U : UpdF l (ob a₀) news g) (hz : m₀ z = some (va a₀)) (h0 : Inv 0 a₀)
    (turn : ∀ (I i : Nat) a h' tk oI tt, i < n → Inv i a → AllLt I (g (ob a)) → Fr h₀ env.locals h' (fun y => if y = x then some (.int (p + i) tt) else if y = z then some (va a) else m₀ y) → News h₀ env.locals h' ((I, oI) :: g (ob a)) →
      wpAny (model prog w) A (execs body env) (TurnEnd h₀ env.locals x [(I, oI)] (fun a y => if y = z then some (va a) else m₀ y) (fun a => g (ob a)) (Inv (i + 1)) Q { s with heap := h', toks := tk }) E { s with heap := h', toks := tk })
    (done : ∀ h' tk a u, Inv n a → Fr h₀ env.locals h' (fun y => if y = x then u else if y = z then some (va a) else m₀ y) → News h₀ env.locals h' (g (ob a)) → Q .next { s with heap := h', toks := tk }) :
    wpAny (model prog w) A (pyIter (.ref r)) (fun it s₂ => LoopAtV prog w A h₀ env x body Q E it s₂) E s := by
  have lt : ∀ a, AllLt s.heap.objs.size (g (ob a)) := fun a => allLt_of fun q hq => by
    have hm : q.1 ∈ news.map (·.1) := by rw [← updF_adr U (ob a)]; exact List.mem_map_of_mem hq
    obtain ⟨q', hq', e⟩ := List.mem_map.mp hm
    rw [← e]; exact Heap.lt_size (N q' hq').1
  refine loop_range a₀ (fun a y => if y = z then some (va a) else m₀ y) (fun a => g (ob a)) Inv hh hr n hp hn hb F (by rw [updF_self U]; exact N) (fun i a _ q hq => Nat.ne_of_lt (allLt_lt (lt a) q hq)) (fun y _ => ?_) h0 (fun i a h' tk oI tt hi ha F' N' => turn _ i a h' tk oI tt hi ha (lt a) F' N') done
  by_cases e : y = z
  · subst e; simp [hz]
  · simp [e]
/-- a loop over a range that turns nothing -/
theorem loop_range_R {r : Nat} {p b : Int} {t u v : Tok} {news : List (Addr × Obj)} (hh : A.handled = none) (hr : IsRange s.heap r p b 1 t u v) (n : Nat) (hp : 0 ≤ p) (hn : b = p + n) (hb : b ≤ 1000000)
    (F : Fr h₀ env.locals s.heap m₀) (N : News h₀ env.locals s.heap news)
    (turn : ∀ (I i : Nat) h' tk oI tt, i < n → AllLt I news → Fr h₀ env.locals h' (fun y => if y = x then some (.int (p + i) tt) else m₀ y) → News h₀ env.locals h' ((I, oI) :: news) →
      wpAny (model prog w) A (execs body env) (TurnEnd h₀ env.locals x [(I, oI)] (fun (_ : Unit) => m₀) (fun _ => news) (fun _ => True) Q { s with heap := h', toks := tk }) E { s with heap := h', toks := tk })
    (done : ∀ h' tk u, Fr h₀ env.locals h' (fun y => if y = x then u else m₀ y) → News h₀ env.locals h' news → Q .next { s with heap := h', toks := tk }) :
    wpAny (model prog w) A (pyIter (.ref r)) (fun it s₂ => LoopAtV prog w A h₀ env x body Q E it s₂) E s := by
  have lt : AllLt s.heap.objs.size news := allLt_of fun q hq => Heap.lt_size (N q hq).1
  exact loop_range () (fun _ => m₀) (fun _ => news) (fun _ _ => True) hh hr n hp hn hb F N (fun i a _ q hq => Nat.ne_of_lt (allLt_lt lt q hq)) (fun y _ => rfl) trivial (fun i a h' tk oI tt hi _ F' N' => turn _ i h' tk oI tt hi lt F' N') (fun h' tk _ u _ F' N' => done h' tk u F' N')
end

section
variable {prog : Program} {w : World} {ro : List (Addr × Obj)}
/-- a call that makes a list of items, and turns nothing -/
def MakesL (P : List PK → Prop) (ro : List (Addr × Obj)) (v : Value) (ft : List (Addr × Obj)) : Prop :=
  ∃ (l : Nat) (ks : List PK) (vs : List Value) (c : Nat), v = .ref l ∧ P ks ∧ IsL ks vs ∧ AllNA l ro ∧ ft = (l, listOf vs.toArray c) :: ro
theorem law_items_c {num : Int} {sz : Nat} {t1 t2 : Tok} (hN : 0 ≤ num) (hs1 : sz ≤ 5) :
    Ctr prog w 4 290 [.int num t1, .int sz t2] ro (MakesL (fun ks => ks.length = sz) ro) := by
  intro A₀ A s base h₀ outer L m env R C N h
  k_extra "j.enter"
  k_extra "j.steps"
  refine' loop_range_UV (x := "place") "rest" (fun a : List PK × List Value × Nat × Int × Tok => listOf a.2.1.toArray a.2.2.1) (fun a => .int a.2.2.2.1 a.2.2.2.2) ([], [], 0, num, t1) (fun i a => IsL a.1 a.2.1 ∧ a.1.length = i ∧ 0 ≤ a.2.2.2.1) ?hh ?hr sz ?hp ?hn ?hb ?F ?N ?U ?hz ?h0 ?turn ?done
  case hh => assumption
  case hr => assumption
  case hp => decide
  case hn => omega
  case hb => omega
  case F => assumption
  case N => assumption
  case U => k_extra "j.upd"
  case hz => rfl
  case h0 => exact ⟨IsL.nil, rfl, hN⟩
  case turn =>
    rintro I i ⟨ks, vs, c, rest, tr⟩ h' tk oI tt hi ⟨hL, hlen, hr⟩ hlt F' N'
    dsimp only at hL hlen hr hlt F' N'
    simp only [AllLt] at hlt
    have hz : ks.length ≤ 100 := by omega
    have f0 := Int.fmod_nonneg_of_pos rest (b := 9) (by decide)
    have f1 := Int.fmod_lt_of_pos rest (b := 9) (by decide)
    k_extra "j.steps"
    refine' TurnEnd.fin (a := (_, _, _, _, _)) ?F ?N ?m ⟨?i, ?l, ?r⟩
    case F => assumption
    case N => assumption
    case m =>
      intro y hy
      by_cases e : y = "rest"
      · simp only [if_pos e]; rfl
      · simp only [if_neg hy, if_neg e]
    case i => assumption
    case l => rw [List.length_append, hlen]; rfl
    case r => exact Int.fdiv_nonneg hr (by decide)
  case done =>
    rintro h' tk ⟨ks, vs, c, rest, tr⟩ u ⟨hL, hlen, hr⟩ F' N'
    dsimp only at hL hlen hr F' N'
    k_extra "j.steps"
    exact h _ _ _ _ ⟨_, _, _, _, rfl, hlen, hL, allNA_lt (by k_extra "j.lt"), rfl⟩ (by assumption) (by assumption) (by assumption) (by assumption)
end
section
variable {prog : Program} {w : World} {l : Nat} {A₀ A : Around} {s : Shared} {base h₀ : Heap} {outer : List Env} {L : Addr} {m : Str → Option Value} {env : Env} {news foot : List (Addr × Obj)}
  {R : Result → Shared → Prop} {f : Addr} {args : List Value} {P : List PK → Prop}
theorem Ctr.makeL (c : Ctr prog w l f args news (MakesL P news)) (C : Cx w l A₀ A base outer h₀ L m env s.heap) (N : News h₀ L s.heap news)
    (h : ∀ h' tk' (l' : Nat) ks vs c', P ks → IsL ks vs → AllNA l' news → Fr h₀ L h' m → News h₀ L h' ((l', listOf vs.toArray c') :: news) → R (.ok (.ret (.ref l'))) { s with heap := h', toks := tk' }) :
    codeAny (model prog w) A (.call (.ref f) ⟨args, []⟩) R s := by
  refine c A₀ A s base h₀ outer L m env R C N fun h' tk' v ft hp F' N' _ _ => ?_
  obtain ⟨l', ks, vs, c', rfl, hP, hi, lt, rfl⟩ := hp
  exact h h' tk' l' ks vs c' hP hi lt F' N'
theorem fin_makeL {ro : List (Addr × Obj)} {hs h' : Heap} {tk : Nat} {l' : Nat} {ks : List PK} {vs : List Value} {c : Nat}
    (k : ∀ h' tk' v foot', MakesL P ro v foot' → Fr h₀ L h' m → News h₀ L h' foot' → Keeps hs h' (ro.map (·.1)) → (∀ p ∈ foot', p.1 ∉ ro.map (·.1) → hs.get? p.1 = none) → R (.ok (.ret v)) { s with heap := h', toks := tk' })
    (N : News h₀ L h' ((l', listOf vs.toArray c) :: ro)) (F : Fr h₀ L h' m) (K : Keeps hs h' (ro.map (·.1))) (f : ∀ p ∈ (l', listOf vs.toArray c) :: ro, p.1 ∉ ro.map (·.1) → hs.get? p.1 = none) (i : IsL ks vs) (p : P ks) (lt : AllNA l' ro) :
    R (.ok (.ret (.ref l'))) { s with heap := h', toks := tk } := k _ _ _ _ ⟨l', ks, vs, c, rfl, p, i, lt, rfl⟩ F N K f
end
theorem say21 : True := by
  k_with "j.na" => (((try simp only [AllNA, and_true] at *); repeat (rename _ ∧ _ => hcj; obtain ⟨hcj1, hcj2⟩ := hcj)))
  k_with "j.lpost" => ((intro h'w tk'w l'w ks'w vs'w c'w P'w I'w l1 F'w N'w; (try simp only [AllNA, and_true] at l1); (try dsimp only at P'w); (try subst P'w); (try dsimp only [PySem.W.CmpBack, PySem.W.LenBack, PySem.W.BoolBack]); (try k_sweep)))
  k_with "j.call ref" => ((k_here; (with_reducible show wpAny _ _ (call (Value.ref 290) _) _ _ _); refine wpAny_call ?_; k_dflt (refine' Ctr.makeL (law_items_c ?hN_z118 ?hs_z118) ?C_z118 ?N_z118 ?_; (case C_z118 => k_extra "j.cx"); (case N_z118 => k_asm); (case hN_z118 => first | assumption | omega); (case hs_z118 => omega)); k_extra "j.lpost"))
  trivial

theorem fold_len : ∀ {qs ks : List PK}, (qs.foldl ins ks).length ≤ ks.length + qs.length
  | [], ks => by simp
  | q :: r, ks => by
    rw [List.foldl_cons]
    have h1 := fold_len (qs := r) (ks := ins ks q)
    have h2 : (ins ks q).length ≤ ks.length + 1 := by unfold ins; split <;> simp
    simp only [List.length_cons]; omega
section
variable {prog : Program} {w : World} {ro : List (Addr × Obj)}
theorem law_once_c {l c : Nat} {vs : List Value} {ks : List PK} (hi : IsL ks vs) (hz : ks.length ≤ 100) (hm : (l, listOf vs.toArray c) ∈ ro) :
    Ctr prog w 4 297 [.ref l] ro (MakesL (fun qs => qs = ks.foldl ins []) ro) := by
  intro A₀ A s base h₀ outer L m env R C N h
  k_extra "j.enter"
  k_extra "j.steps"
  refine' loop_list_U (x := "item") (fun p o => ∃ vs c, o = listOf vs.toArray c ∧ IsL (p.foldl ins []) vs) ?hh ?hl hi ?h0 ?U ?ne ?F ?N ?turn ?done
  case hh => assumption
  case F => assumption
  case N => assumption
  case hl => k_mem
  case h0 => exact ⟨[], 0, rfl, IsL.nil⟩
  case U => k_extra "j.upd"
  case ne => exact allLt_at (by k_extra "j.lt") hm
  case turn =>
    rintro I pre k post o v h' tk oI e hv ⟨vs', c', rfl, hL⟩ hlt F' N'
    try dsimp only at hlt N'
    simp only [AllLt] at hlt
    have hz' : (pre.foldl ins []).length ≤ 100 := by
      have h1 := fold_len (qs := pre) (ks := [])
      rw [e] at hz; simp only [List.length_append, List.length_cons, List.length_nil] at hz h1; omega
    by_cases hk : k ∈ pre.foldl ins []
    · k_extra "j.steps"
      k_extra "j.turn"
      rw [List.foldl_append]
      exact ⟨_, _, rfl, by show IsL (ins (pre.foldl ins []) k) _; rw [ins_old hk]; exact hL⟩
    · k_extra "j.steps"
      k_extra "j.turn"
      rw [List.foldl_append]
      refine ⟨_, _, rfl, ?_⟩
      show IsL (ins (pre.foldl ins []) k) _
      rw [ins_new hk]; assumption
  case done =>
    rintro h' tk o u ⟨vs', c', rfl, hL⟩ F' N'
    try dsimp only at N'
    k_extra "j.steps"
    exact h _ _ _ _ ⟨_, _, _, _, rfl, rfl, hL, allNA_lt (by k_extra "j.lt"), rfl⟩ (by assumption) (by assumption) (by assumption) (by assumption)
end
theorem say22 : True := by
  k_with "j.call ref" => ((k_here; (with_reducible show wpAny _ _ (call (Value.ref 297) _) _ _ _); refine wpAny_call ?_; k_dflt (refine' Ctr.makeL (law_once_c ?i_z119 ?z_z119 ?m_z119) ?C_z119 ?N_z119 ?_; (case C_z119 => k_extra "j.cx"); (case N_z119 => k_asm); (case m_z119 => k_mem); (case i_z119 => assumption); (case z_z119 => k_extra "j.sz")); k_extra "j.lpost"))
  trivial

section
variable {prog : Program} {w : World} {A : Around} {E : Value → Shared → Prop} {s : Shared} {h₀ : Heap} {L : Addr} {m : Str → Option Value} {env : Env} {news : List (Addr × Obj)}
theorem lComp {x oth : Str} {p1 px p3 p4 p5 pos : Pos} {iter : PySem.Expr} {op : CmpOp} {scope : Scope} {cl : List (Str × Addr)} {l : Nat} {vs : List Value} {ks : List PK} {c q : Nat} {Q : Value → Shared → Prop} (pz : PK → Bool)
    (F : Fr h₀ L s.heap m) (N : News h₀ L s.heap news) (hh : A.handled = none) (hclos : closureFor scope env = pure cl) (hcell : ∀ y ∈ scope.names, y.2 ≠ .cell) (hkind : scope.kind = .function)
    (hnames : ∀ y ∈ scope.names, y.2 = .local → scope.names.lookup y.1 = some .local) (hx : scope.names.lookup x = some .local) (hb : (x == ("__debug__" : Str)) = false) (hm2 : behindInMarks op (.Name oth p4) = false)
    (hrow : ∀ Q : Value → Shared → Prop, Q (.ref l) s → wpAny (model prog w) A (eval iter env) Q E s)
    (hl : (l, listOf vs.toArray c) ∈ news) (hi : IsL ks vs) (hz : ks.length ≤ 100)
    (hoth : ∀ C (s' : Shared) (Q : Value → Shared → Prop) E', (∀ p ∈ news, s'.heap.get? p.1 = some p.2) → Q (.ref q) s' → wpAny (model prog w) A (eval (.Name oth p4) (compEnvC scope cl C env)) Q E' s')
    (hop : ∀ k v (s' : Shared) (Q : Value → Shared → Prop) E', (∀ p ∈ news, s'.heap.get? p.1 = some p.2) → IsV k v → Q (.bool (pz k)) s' → wpAny (model prog w) A (compareOp op v (.ref q)) Q E' s')
    (h : ∀ (l' : Nat) h' tk ys c', Fr h₀ L h' m → News h₀ L h' ((l', listOf ys.toArray c') :: news) → AllNA l' news → IsL (ks.filter pz) ys → Q (.ref l') { s with heap := h', toks := tk })
    (hs : ∀ x, foldedSetIterable iter env x = pure x) :
    wpAny (model prog w) A (eval (.ListComp (.Name x p1) [⟨.Name x px, iter, [.Compare (.Name x p3) [op] [.Name oth p4] p5], 0⟩] scope pos) env) Q E s := by
  have hls : s.heap.IsList l vs.toArray := ⟨_, (N _ hl).1, rfl, _, rfl⟩
  have hlt : l < s.heap.objs.size := Heap.lt_size (N _ hl).1
  refine wpAny_ListComp_free (lft pz) (fun v y => y = v) hclos hcell hkind hnames hx (hrow _ ?_) hs
  refine wpAny_pyIter_list hls ⟨s.heap.objs.size, [s.heap.objs.size, l], [s.heap.objs.size], vs.toArray.size, _, _, rfl, Walks.list hh _ _ (Nat.ne_of_lt hlt) vs.toArray, (by rw [List.size_toArray, hi.1, PySem.sizeLine_eq]; omega), ⟨⟨_, Heap.get?_push_size _ rfl, rfl, rfl⟩, hls.push _⟩, ?_, ⟨?_, ?_⟩, ?_⟩
  · intro b hb
    show b < (s.heap.push _).objs.size
    rw [Heap.size_push]
    rcases List.mem_cons.mp hb with rfl | hb
    · exact Nat.lt_succ_self _
    · rw [List.mem_singleton.mp hb]; exact Nat.lt_succ_of_lt hlt
  · intro C i v s₃ m₃ E' hC hP hn hm hk _
    have hv : v ∈ vs := by simpa using Array.mem_of_getElem? hP
    obtain ⟨k, _, hkv⟩ := hi.mem_v v hv
    have up : ∀ p ∈ news, s₃.heap.get? p.1 = some p.2 := fun p hp => hk p.1 p.2 (fun z => by rw [List.mem_singleton] at z; exact absurd (Heap.lt_size (N p hp).1) (by rw [z]; exact Nat.lt_irrefl _)) (Heap.get?_push_of_some _ (N p hp).1)
    refine wpAny_tests_one (wpAny_isTrue_Compare1 (wpAny_Name (wpAny_loadName_local (by simp [compEnvC, relabel, hkind]) (lookup_relabel_local hx) hn hm (hoth C _ _ _ up (hop k v _ _ _ up hkv (wpAny_truthy_bool ?_)))) hb) hm2)
    exact ⟨(lft_is hkv).symm, s₃.heap, s₃.toks, rfl, fun _ _ e => e⟩
  · intro C i v s₃ m₃ E' hC hP hp hn hm hk _
    exact wpAny_Name (wpAny_loadName_local (by simp [compEnvC, relabel, hkind]) (lookup_relabel_local hx) hn hm ⟨rfl, s₃.heap, s₃.toks, rfl, fun _ _ e => e⟩) hb
  · intro D h' tk ys vs' hnew hlD hplD hlen hP hF hk
    have e : vs' = vs := by simpa using list_of_places hlen hP
    subst e
    have keep : ∀ b o, s.heap.get? b = some o → h'.get? b = some o := fun b o e => hk b o (fun z => by rw [List.mem_singleton] at z; exact absurd (Heap.lt_size e) (by rw [z]; exact Nat.lt_irrefl _)) (Heap.get?_push_of_some _ e)
    have e2 : ys = (vs'.filter (lft pz)).toArray := by
      have := paired_eq hF
      rw [← this, Array.toArray_toList]
    subst e2
    obtain ⟨c', hD⟩ := hplD
    have hn0 : s.heap.get? D = none := by
      cases q : s.heap.get? D with
      | none => rfl
      | some o => rw [Heap.get?_push_of_some _ q] at hnew; cases hnew
    refine h D h' tk _ c' (F.keeps keep) (fun p hp => ?_) (allNA_of fun p hp z => ?_) (hi.filter pz)
    · rcases List.mem_cons.mp hp with rfl | hp
      · refine ⟨hD, fun z => ?_, ?_⟩
        · obtain ⟨o, _, _, ho, _⟩ := F.ns
          have z' : D = L := z
          rw [z', ho] at hn0; cases hn0
        · cases q : h₀.get? D with
          | none => rfl
          | some o => rw [F.keep _ _ q] at hn0; cases hn0
      · exact ⟨keep _ _ (N p hp).1, (N p hp).2⟩
    · rw [← z, (N p hp).1] at hn0; cases hn0
end
section
variable {prog : Program} {w : World} {A : Around} {news : List (Addr × Obj)} {env : Env} {scope : Scope} {cl : List (Str × Addr)}
theorem hoth_cell {oth : Str} {p4 : Pos} {cc : Addr} {oc : Obj} {q : Nat} (hc : cl.lookup oth = some cc) (hm : (cc, oc) ∈ news) (hd : oc.data = .cell (some (.ref q))) (hk : scope.kind = .function) (hx : (relabel scope env).names.lookup oth = some .cell) (hb : (oth == ("__debug__" : Str)) = false) :
    ∀ C (s' : Shared) (Q : Value → Shared → Prop) E', (∀ p ∈ news, s'.heap.get? p.1 = some p.2) → Q (.ref q) s' → wpAny (model prog w) A (eval (.Name oth p4) (compEnvC scope cl C env)) Q E' s' :=
  fun C s' Q E' up h => wpAny_Name (wpAny_loadName_cell (by simp [compEnvC, relabel, hk]) hx hc ⟨oc, up _ hm, hd⟩ h) hb
theorem hop_notIn {q d : Nat} {ws : List Value} {qs : List PK} (hi2 : IsL qs ws) (hm2 : (q, listOf ws.toArray d) ∈ news) :
    ∀ k v (s' : Shared) (Q : Value → Shared → Prop) E', (∀ p ∈ news, s'.heap.get? p.1 = some p.2) → IsV k v → Q (.bool (decide (k ∉ qs))) s' → wpAny (model prog w) A (compareOp .NotIn v (.ref q)) Q E' s' :=
  fun k v s' Q E' up hv h => PySem.SeqRoads2.notIn_list k.is (eqg hi2 hv) (up _ hm2) (by rw [List.any_toArray, hi2.any_is]; simpa using h)
theorem hop_in {q d : Nat} {ws : List Value} {qs : List PK} (hi2 : IsL qs ws) (hm2 : (q, listOf ws.toArray d) ∈ news) :
    ∀ k v (s' : Shared) (Q : Value → Shared → Prop) E', (∀ p ∈ news, s'.heap.get? p.1 = some p.2) → IsV k v → Q (.bool (decide (k ∈ qs))) s' → wpAny (model prog w) A (compareOp .In v (.ref q)) Q E' s' :=
  fun k v s' Q E' up hv h => PySem.SeqRoads2.in_list k.is (eqg hi2 hv) (up _ hm2) (by rw [List.any_toArray, hi2.any_is]; exact h)
end
theorem say23 : True := by
  k_with "j.eval ListComp" => ((k_here; k_dflt (refine' lComp ?_ ?F_z120 ?N_z120 ?hh_z120 ?hclos_z120 ?hcell_z120 ?hkind_z120 ?hnames_z120 ?hx_z120 ?hb_z120 ?hm2_z120 ?hrow_z120 ?hl_z120 ?hi_z120 ?hz_z120 ?hoth_z120 ?hop_z120 ?_ ?hs_z120; (case F_z120 => k_asm); (case N_z120 => k_asm); (case hh_z120 => assumption); (case hclos_z120 => with_unfolding_all rfl); (case hcell_z120 => decide); (case hkind_z120 => rfl); (case hnames_z120 => decide); (case hx_z120 => rfl); (case hb_z120 => decide); (case hm2_z120 => with_unfolding_all rfl); (case hs_z120 => (intro _; with_unfolding_all rfl)); (case hrow_z120 => (intro Qk hk; first | (refine' ld ?k1_z120 ?k2_z120 ?_; (case k1_z120 => k_asm); (case k2_z120 => exact rfl); exact hk) | (refine' nameX_L ?k1_z120 ?k2_z120 ?_; (case k1_z120 => k_asm); (case k2_z120 => exact rfl); exact hk))); (case hl_z120 => k_mem); (case hi_z120 => assumption); (case hz_z120 => k_extra "j.sz"); (case hoth_z120 => (refine' hoth_cell ?a_z120 ?b_z120 ?c_z120 ?d_z120 ?e_z120 ?f_z120; (case a_z120 => rfl); (case b_z120 => k_mem); (case c_z120 => assumption); (case d_z120 => rfl); (case e_z120 => with_unfolding_all rfl); (case f_z120 => decide))); (case hop_z120 => first | (refine' hop_notIn ?a_z120 ?b_z120; (case b_z120 => k_mem); (case a_z120 => assumption)) | (refine' hop_in ?a_z120 ?b_z120; (case b_z120 => k_mem); (case a_z120 => assumption)))); intro l'w h'w tk'w ys'w c'w F'w N'w l1 I'w; (try simp only [AllNA, and_true] at l1); (try k_sweep)))
  trivial

section
variable {prog : Program} {w : World} {A₀ A : Around} {s : Shared} {base h₀ : Heap} {outer : List Env} {L : Addr} {m : Str → Option Value} {env : Env} {news : List (Addr × Obj)} {l : Nat}
  {R : Result → Shared → Prop} {name qual : Str} {params : Arguments} {body : List Stmt} {scope : Scope} {dV kV doc pm cdv ct oc : Value} {an od : Option Addr} {osl : Array (Option Value)} {f : Addr} {args : Args} {binds : List (Str × Value)}
/-- a def with cells is entered -/
theorem enterX (C : Cx w l A₀ A base outer h₀ L m env s.heap) (N : News h₀ L s.heap news) (hl : 0 < l)
    (ho : (hd.heap_1 w.params).lookup f = some ⟨oc, od, .func (fnOf name qual params body scope dV kV doc pm an cdv ct), osl⟩) (hcd : codeIn (hd.heap_1 w.params) cdv qual = true)
    (hbind : BindsTo s (fnOf name qual params body scope dV kV doc pm an cdv ct) args binds) (hkind : (binds.all fun y => scope.names.lookup y.1 == some .local || scope.names.lookup y.1 == some .cell) = true)
    (hnd : ((cellsFrom 0 scope.names []).map (·.1)).Nodup)
    (hco : scope.isCoroutine = false) (hgen : scope.isGenerator = false) (hk : scope.kind = .function)
    (h : ∀ g L' h₁ tk cells loose mean mg mb, (hd.heap_1 w.params).In base → Top hd.view_39 loose mean mg mb base → Fr h₀ L g m → Fr g L' h₁ (bindL (envOfC qual scope L' f cdv).kindOf binds fun _ => none) → News g L' h₁ (cells ++ news) →
      CellsAre (bindC (envOfC qual scope L' f cdv).kindOf binds fun _ => none) (cellsFrom (L' + 1) scope.names []) cells → Below A base (env :: outer) g → (hd.heap_1 w.params).In g → Top hd.view_39 loose mean mg mb g →
      A.depth + l < recursionLimit → A.units + 10 * l < cLine → A.handled = none → KtsDicts ((env :: outer).filterMap (·.frame)) g → Keeps s.heap g (news.map (·.1)) →
      wpAny (model prog w) (A.deeper (envOfC qual scope L' f cdv)) (execs body (envOfC qual scope L' f cdv))
        (fun fl s' => LeaveF h₀ L m s.heap (news.map (·.1)) g R (match fl with | .ret v => v | _ => .none) s')
        (fun e s' => wpAny (model prog w) (A.deeper (envOfC qual scope L' f cdv)) (leaving (envOfC qual scope L' f cdv) e) (fun _ s'' => R (.error e) s'') (fun e' s'' => R (.error e') s'') s')
        { s with heap := h₁, toks := tk }) : codeAny (model prog w) A (.call (.ref f) args) R s := by
  obtain ⟨B, F, X, ⟨loose, mean, mg, mb, T⟩, D, hA, hf, hke, room, units, hh⟩ := C
  obtain ⟨FG, BG, st, lv⟩ := groundX (R := R) B F N hA hf hke
  have X₀ := X.keeps B.stays
  have T₀ := T.keeps B.stays
  have X₁ := X₀.keeps F.keep
  refine codeAny_call_function (by omega) (X₁ _ _ ho) rfl hco hgen rfl (codeRec_of X₁ hcd) (hbind _ _ _ _ ?_)
  refine wpAny_newFunctionEnv_cells hk (kindsX hkind _) fun env' he s' x => ?_
  subst he
  refine ⟨(T₀.nolimit.keeps F.keep).keeps x.toInCall.keep, codeAny_func ?_⟩
  obtain ⟨h₁, tk, rfl, _⟩ := x.done
  have hk₁ := x.toInCall.keep
  obtain ⟨cells, NC, Y⟩ := Cl.news (h₀ := s.heap) (Nat.le_refl _) fun n c hm => ⟨x.cell n c (lookup_of_mem_nodup (cellsFrom_names scope.names 0 (s.heap.objs.size + 1) [] [] rfl ▸ hnd) hm), x.above n c hm⟩
  refine wpAny_mono (h _ s.heap.objs.size h₁ tk cells loose mean mg mb X T FG ⟨x.toInCall.ns, fun b o e => hk₁ b o (of_hideAll _ e), Nat.le_of_eq (hideAll_size _ _)⟩ (fun p hp => ?_) Y BG (X₀.keeps st) (T₀.keeps st) room units hh ?_ fun b o e nm => hideAll_get _ e nm) (fun fl s' hl => ?_) fun _ _ y => y
  · rcases List.mem_append.mp hp with hp | hp
    · refine ⟨(NC p hp).1, (NC p hp).2.1, ?_⟩
      cases q : (hideAll s.heap (news.map (·.1))).get? p.1 with
      | none => rfl
      | some o => have := of_hideAll _ q; rw [(NC p hp).2.2] at this; cases this
    · exact ⟨hk₁ _ _ (N p hp).1, Nat.ne_of_lt (Heap.lt_size (N p hp).1), hideAll_none _ (List.mem_map_of_mem hp)⟩
  · intro b' hb
    obtain ⟨env', he, hf'⟩ := List.mem_filterMap.mp hb
    rcases List.mem_cons.mp he with rfl | he
    · obtain ⟨o, es, ep, ho, hd, _⟩ := FG.ns
      rw [hf] at hf'; cases hf'
      exact ⟨o, es, ep, ho, hd⟩
    · obtain ⟨o, es, n, ho, hd⟩ := D b' (List.mem_filterMap.mpr ⟨env', he, hf'⟩)
      exact ⟨o, es, n, FG.keep _ _ ho, hd⟩
  · obtain ⟨L', m', news', F', N', k⟩ := hl
    refine lv _ _ ⟨L', m', news', F', N', fun kF kN => k kF kN (fun b o e nm => F'.keep b o (hideAll_get _ e nm)) fun p hp nm => ?_⟩
    cases q : s.heap.get? p.1 with
    | none => rfl
    | some o => have := (N' p hp).2.2; rw [hideAll_get _ q nm] at this; cases this
end
theorem say24 : True := by
  k_with "j.enterX" => ((refine' enterX ?C_z121 ?N_z121 ?l_z121 ?k6_z121 ?k7_z121 ?k9_z121 ?kB_z121 ?kD_z121 ?c2_z121 ?c3_z121 ?c4_z121 ?_; (case C_z121 => assumption); (case N_z121 => assumption); (case l_z121 => decide); (case k6_z121 => k_is); (case k7_z121 => k_is); (case k9_z121 => first | exact BindsTo.of_eq rfl | exact binds_K (Cx.kin (by assumption)) rfl (by k_is) rfl rfl rfl); (case kB_z121 => exact rfl); (case kD_z121 => decide +kernel); (case c2_z121 => exact rfl); (case c3_z121 => exact rfl); (case c4_z121 => exact rfl); intro g'w L'w h'w tk'w cells'w lo'w me'w mg'w mb'w XB'w TB'w FG'w F'w N'w Y'w B'w X'w T'w room'w units'w hh'w D'w KP'w; k_cells Y'w; (try simp only [List.cons_append, List.nil_append] at N'w); (try dsimp only); (try k_fold)))
  trivial
section
variable {prog : Program} {w : World} {ro : List (Addr × Obj)} {l q c d : Nat} {vs ws : List Value} {ks qs : List PK}
theorem law_without_c (hi : IsL ks vs) (hz : ks.length ≤ 100) (hm : (l, listOf vs.toArray c) ∈ ro) (hi2 : IsL qs ws) (hm2 : (q, listOf ws.toArray d) ∈ ro) :
    Ctr prog w 4 302 [.ref l, .ref q] ro (MakesL (fun r => r = dif ks qs) ro) := by
  intro A₀ A s base h₀ outer L m env R C N h
  k_extra "j.enterX"
  k_extra "j.steps"
  k_extra "j.makeL"
  rfl
end
theorem say25 : True := by
  k_with "j.call ref" => ((k_here; (with_reducible show wpAny _ _ (call (Value.ref 302) _) _ _ _); refine wpAny_call ?_; k_dflt (refine' Ctr.makeL (law_without_c ?i_z122 ?z_z122 ?m_z122 ?j_z122 ?n_z122) ?C_z122 ?N_z122 ?_; (case C_z122 => k_extra "j.cx"); (case N_z122 => k_asm); (case m_z122 => k_mem); (case n_z122 => k_mem); (case i_z122 => assumption); (case j_z122 => assumption); (case z_z122 => k_extra "j.sz")); k_extra "j.lpost"))
  trivial

def joined (which : Int) (ks qs : List PK) : List PK := if which = 0 then ks ++ dif qs ks else if which = 1 then itr ks qs else if which = 2 then dif ks qs else dif ks qs ++ dif qs ks
theorem dif_len {ks qs : List PK} : (dif ks qs).length ≤ ks.length := List.length_filter_le ..
section
variable {prog : Program} {w : World} {ro : List (Addr × Obj)} {l q c d : Nat} {vs ws : List Value} {ks qs : List PK}
theorem law_join_c {which : Int} {t : Tok} (hi : IsL ks vs) (hz : ks.length ≤ 20) (hm : (l, listOf vs.toArray c) ∈ ro) (hi2 : IsL qs ws) (hz2 : qs.length ≤ 20) (hm2 : (q, listOf ws.toArray d) ∈ ro) :
    Ctr prog w 6 307 [.int which t, .ref l, .ref q] ro (MakesL (fun r => r = joined which ks qs) ro) := by
  intro A₀ A s base h₀ outer L m env R C N h
  have hz3 : (dif qs ks).length ≤ 20 := Nat.le_trans dif_len hz2
  have hz4 : (dif ks qs).length ≤ 20 := Nat.le_trans dif_len hz
  have hz5 : ks.length ≤ 100 := by omega
  have hz6 : qs.length ≤ 100 := by omega
  k_extra "j.enterX"
  k_extra "j.steps"
  all_goals k_extra "j.makeL"
  all_goals unfold joined
  all_goals first | rfl | simp_all [itr]
end
theorem say26 : True := by
  k_with "j.call ref" => ((k_here; (with_reducible show wpAny _ _ (call (Value.ref 307) _) _ _ _); refine wpAny_call ?_; k_dflt (refine' Ctr.makeL (law_join_c ?i_z123 ?z_z123 ?m_z123 ?j_z123 ?y_z123 ?n_z123) ?C_z123 ?N_z123 ?_; (case C_z123 => k_extra "j.cx"); (case N_z123 => k_asm); (case m_z123 => k_mem); (case n_z123 => k_mem); (case i_z123 => assumption); (case j_z123 => assumption); (case z_z123 => first | assumption | omega); (case y_z123 => first | assumption | omega)); k_extra "j.lpost"))
  trivial

def Pad : Prop := True
section
local macro_rules | `(tactic| walk_at "j.pad") => `(tactic| skip)
theorem padA1 : Pad := by first | walk1 | exact trivial
local macro_rules | `(tactic| walk_at "j.pad") => `(tactic| skip)
theorem padB1 : Pad := by first | walk1 | exact trivial
end
section
local macro_rules | `(tactic| walk_at "delItem ref") => `(tactic| k_extra "j.delItem ref.JRem")
local macro_rules | `(tactic| walk_at "noteFrame ref") => `(tactic| k_extra "j.noteFrame ref.JRem")
section
variable {prog : Program} {w : World} {A : Around} {E : Value → Shared → Prop} {s : Shared} {env : Env} {X N I : String}
theorem entry_unchain : entryFor table "proto.unchain" = some Builtin.«proto.unchain» := entryFor_of_fast (by kernel_rfl)
theorem code_unchain {e d : Addr} {od : Obj} {vs : Array Value} {R : Result → Shared → Prop} (hd : s.heap.get? d = some od) (hv : od.data = .fields vs) (h2 : vs[2]? = some .none) (h : R (.ok (.ret .none)) s) :
    codeAny (model prog w) A (.builtin "proto.unchain" ⟨[.ref e, .ref d, .ref d, .bool false], []⟩) R s := by
  refine codeAny_builtin entry_unchain ?_
  unfold Builtin.«proto.unchain»
  dsimp only
  refine wpAny_bind (wpAny_field hd hv h2 ?_)
  rw [if_pos (by decide)]
  exact wpAny_pure h
theorem raise_under {x : Str} {np pos : Pos} {Q : Flow → Shared → Prop} {d : Addr} {od : Obj} {vsd : Array Value} (hh : A.handled = some (.ref d)) (hod : s.heap.get? d = some od) (hvd : od.data = .fields vsd) (h2 : vsd[2]? = some .none) (hc : ExcClass X N I)
    (hself : isSubtype (.type X) (.type X) = pure true)
    (hx : wpAny (model prog w) A (eval (.Name x np) env) (fun v s₁ => v = .type X ∧ s₁ = s) E s)
    (h : ∀ h' e, Heap.NewExc s.heap h' e X → E (.ref e) { s with heap := h'.update e (Obj.mapFields (·.setIfInBounds 2 (.ref d))) }) :
    wpAny (model prog w) A (exec (.Raise (some (.Name x np)) none pos) env) Q E s := by
  show wpAny (model prog w) A (do standAt pos; raiseStmt env (some (do let v ← eval (.Name x np) env; standAt pos; pure v)) none) Q E s
  refine wpAny_bind (wpAny_standAt ?_)
  unfold raiseStmt
  dsimp only
  refine wpAny_bind (wpAny_bind (wpAny_mono hx (fun v s₁ h₁ => wpAny_bind (wpAny_standAt (wpAny_pure ?_))) fun _ _ e => e))
  obtain ⟨rfl, hs₁⟩ := h₁
  subst s₁
  refine wpAny_bind (wpAny_pure ?_)
  dsimp only
  refine wpAny_bind (wpAny_holding ?_)
  unfold excFromValue isExcClass
  refine wpAny_bind (wpAny_bind (wpAny_pure ?_))
  simp only [if_true]
  rw [hc.base]
  refine wpAny_pure ?_
  simp only [if_true]
  refine wpAny_bind (call_exc hc fun h' e hn => ?_)
  obtain ⟨ob, t, he, hcls, hd⟩ := hn.there
  have hT : ({ s with heap := h' } : Shared).TypeIs (.ref e) X := ⟨ob, he, hcls⟩
  refine wpAny_bind (wpAny_isInstance hT hc.base ?_)
  simp only [Bool.not_true, Bool.false_eq_true, if_false]
  refine wpAny_pure ?_
  first | (refine wpAny_bind (m := isType (.type X)) (wpAny_pure ?_)) | (refine wpAny_bind (wpAny_pure ?_))
  first | (rw [if_pos rfl]) | (simp only [if_true]) | dsimp only
  refine wpAny_bind (wpAny_holding ?_)
  unfold raisedFor
  first | (simp only [Bool.false_eq_true, if_false]) | (rw [if_neg (by decide)]) | skip
  first | (refine wpAny_bind (wpAny_typeOf hT ?_)) | (refine wpAny_bind ?_; refine wpAny_bind (wpAny_typeOf hT ?_))
  refine wpAny_bind (call_issubclass (issubclass_self hc hself) ?_)
  first | (refine wpAny_bind (wpAny_truthy_bool ?_)) | (refine wpAny_truthy_bool ?_) | (dsimp only [wants]; first | (refine wpAny_bind (wpAny_truthy_bool ?_)) | (refine wpAny_truthy_bool ?_))
  first | (rw [if_pos rfl]) | (simp only [if_true]) | skip
  refine wpAny_pure ?_
  unfold setFlight raiseNew
  refine wpAny_bind (wpAny_bind (wpAny_field (i := 1) (x := Value.none) he hd rfl ?_))
  rw [if_neg (by decide)]
  refine wpAny_pure (wpAny_bind (wpAny_handled ?_))
  rw [hh]
  have hne : d ≠ e := fun q => by have := hn.new; rw [← q, hod] at this; cases this
  have hne' : ((Value.ref d : Value) != Value.ref e) = true := by simpa using hne
  dsimp only
  rw [if_pos hne']
  refine wpAny_bind (wpAny_holding (wpAny_runValue (code_unchain (hn.keeps _ _ hod) hvd h2 ?_)))
  show wpAny _ _ (setField (.ref e) 2 (.ref d) >>= fun _ => throw (.ref e)) Q E _
  refine wpAny_bind (wpAny_setField he hd (by show 2 < 6; decide) (wpAny_throw (h _ _ hn)))
end
/-- what a raise with a context leaves: the very new exception, its place of the context written -/
theorem ctx_there {h h' : Heap} {e d : Addr} {X : String} (hn : Heap.NewExc h h' e X) : ∃ ob t, (h'.update e (Obj.mapFields (·.setIfInBounds 2 (.ref d)))).get? e = some ob ∧ ob.cls = .type X ∧ ob.data = .fields #[t, .none, .ref d, .none, .bool false, .none] := by
  obtain ⟨ob, t, he, hc, hd⟩ := hn.there
  have hd₃ := Obj.data_mapFields hd (·.setIfInBounds 2 (Value.ref d))
  exact ⟨_, t, Heap.get?_update_self _ he (Obj.isFreed_of_fields hd₃), (Obj.cls_mapFields _ _).trans hc, hd₃⟩
theorem ctx_keeps {h h' : Heap} {e d : Addr} {X : String} (hn : Heap.NewExc h h' e X) : ∀ b o, h.get? b = some o → (h'.update e (Obj.mapFields (·.setIfInBounds 2 (.ref d)))).get? b = some o := fun b o hb => by
  have hne : b ≠ e := fun q => by have := hn.new; rw [← q, hb] at this; cases this
  rw [Heap.get?_update_other _ _ (Ne.symm hne)]
  exact hn.keeps b o hb
/-- an exception that has been noted in this frame; c: its context -/
def OwnX (B : Heap) (l : List Env) (e : Addr) (c cls : Value) (h : Heap) : Prop :=
  ∃ t T oT ts oe, B.StaysIn h ∧ h.FunFrames B l ∧ h.get? e = some oe ∧ oe.cls = cls ∧ oe.data = .fields #[t, .ref T, c, .none, .bool false, .none] ∧ T ≠ e ∧ B.get? T = none ∧ h.get? T = some oT ∧ oT.data = .fields ts ∧ 3 < ts.size
section
variable {M : Model} {A : Around} {E : Value → Shared → Prop} {s : Shared}
theorem OwnX.off {B : Heap} {l : List Env} {e : Addr} {c cls : Value} {Q : Unit → Shared → Prop} (x : OwnX B l e c cls s.heap) (h : ∀ h', OwnX B l e c cls h' → s.heap.UpToSlots h' → Q () { s with heap := h' }) :
    wpAny M A (setFlight (.ref e) none) Q E s := by
  obtain ⟨t, T, oT, ts, oe, hB, hl, he, hc, hd, hTe, hTn, hT, hts, hsz⟩ := x
  have apart : ∀ b o, s.heap.get? b = some o → (∀ vs, o.data ≠ .fields vs) → b ≠ T := fun b o hb hnf q => by
    rw [q, hT] at hb; cases hb; exact hnf _ hts
  have up : ∀ b, b ≠ T → (s.heap.update T (Obj.mapFields (·.setIfInBounds 3 Value.none))).get? b = s.heap.get? b := fun b hb => Heap.get?_update_other _ _ (Ne.symm hb)
  have d₃ := Obj.data_mapFields hts (·.setIfInBounds 3 Value.none)
  refine wpAny_setFlight_none he hd rfl hT hts hsz (h _ ⟨t, T, _, _, oe, fun b o hb => (up b fun q => by rw [q, hTn] at hb; cases hb).trans (hB b o hb), hl.of_keeps fun b o hb hnf => ⟨o, (up b (apart b o hb hnf)).trans hb, rfl⟩,
    (up e (Ne.symm hTe)).trans he, hc, hd, hTe, hTn, Heap.get?_update_self _ hT (Obj.isFreed_of_fields d₃), d₃, by simpa using hsz⟩ fun b o hb hnf => ⟨o.slots, (up b (apart b o hb hnf)).trans hb⟩)
/-- an exception that has just been made is noted in the frame at hand; its other places stay -/
theorem noted_own {B : Heap} {env : Env} {outer : List Env} {L e : Addr} {oe : Obj} {t c : Value} {Q : Unit → Shared → Prop}
    (hfr : A.frames = some (env :: outer)) (hl : s.heap.FunFrames B (env :: outer)) (hf : env.frame = some L)
    (he : s.heap.get? e = some oe) (hkb : B.StaysIn s.heap) (hen : B.get? e = none) (hd : oe.data = .fields #[t, .none, c, .none, .bool false, .none])
    (h : ∀ h', OwnX B (env :: outer) e c oe.cls h' → s.heap.UpToSlots h' → Q () { s with heap := h' }) :
    wpAny M A (noteFrame (.ref e) env) Q E s := by
  have hene : e ∉ (env :: outer).filterMap (·.frame) := fun hm => by
    obtain ⟨_, o, ho, hnf⟩ := hl.mem hm
    rw [he] at ho; cases ho; exact hnf _ hd
  unfold noteFrame
  simp only [hf]
  refine wpAny_bind (wpAny_field (i := 1) (x := Value.none) he hd rfl ?_)
  rw [if_neg (by decide)]
  refine wpAny_bind (wpAny_frameOf_fun hfr hl hf fun h₁ sl => ?_)
  refine wpAny_bind (wpAny_entryPlaceOf fun pl hpl => ?_)
  unfold EntryCells.newEntry newFields
  refine wpAny_bind (wpAny_newObj_type ?_ (hpl.sizeOk5 _ _ _ _ _))
  have e₁ : h₁.get? e = some oe := (sl.2.1 e hene).trans he
  have k₁ : B.StaysIn h₁ := fun b o hb => (sl.2.1 b fun hm => by rw [(hl.mem hm).1] at hb; cases hb).trans (hkb b o hb)
  generalize hot : ({ cls := .type "traceback", dict := none, data := .fields ([Value.none, .ref L, .none, rawInt L, .none] ++ (if pl.isEmpty then List.replicate 6 Value.none else pl)).toArray } : Obj) = ot
  have hotd : ∃ ts, ot.data = .fields ts ∧ ts[3]? = some (rawInt L) := by
    rw [← hot]; exact ⟨_, rfl, by simp⟩
  obtain ⟨ts, hts, h3⟩ := hotd
  have e₂ := Heap.get?_push_of_some (h := h₁) ot e₁
  refine wpAny_setField e₂ hd (by show 1 < 6; decide) ?_
  have hTe : h₁.objs.size ≠ e := Nat.ne_of_gt (Heap.lt_size e₁)
  have d₃ := Obj.data_mapFields hd (·.setIfInBounds 1 (Value.ref h₁.objs.size))
  have up : ∀ b o, b ≠ e → h₁.get? b = some o → ((h₁.push ot).update e (Obj.mapFields (·.setIfInBounds 1 (Value.ref h₁.objs.size)))).get? b = some o := fun b o hbe hb => by
    rw [Heap.get?_update_other _ _ (Ne.symm hbe)]
    exact Heap.get?_push_of_some _ hb
  have hTn : (h₁.push ot).get? h₁.objs.size = some ot := Heap.get?_push_size h₁ (by rw [← hot]; rfl)
  have apart : ∀ b o, s.heap.get? b = some o → (∀ vs, o.data ≠ .fields vs) → b ≠ e := fun b o hb hnf q => by
    rw [q, he] at hb; cases hb; exact hnf _ hd
  refine h _ ⟨t, h₁.objs.size, ot, ts, _, fun b o hb => up b o (fun q => by rw [q, hen] at hb; cases hb) (k₁ b o hb), hl.of_keeps fun b o hb hnf => ?_,
    Heap.get?_update_self _ e₂ (Obj.isFreed_of_fields d₃), Obj.cls_mapFields _ _, d₃, hTe, ?_, ?_, hts, (Array.getElem?_eq_some_iff.mp h3).1⟩ fun b o hb hnf => ?_
  · obtain ⟨x, hx⟩ := sl.2.2 b o hb
    exact ⟨_, up b _ (apart b o hb hnf) hx, rfl⟩
  · cases q : B.get? h₁.objs.size with
    | none => rfl
    | some o => exact absurd (Heap.lt_size (k₁ _ _ q)) (Nat.lt_irrefl _)
  · rw [Heap.get?_update_other _ _ (Ne.symm hTe)]; exact hTn
  · obtain ⟨x, hx⟩ := sl.2.2 b o hb
    exact ⟨x, up b _ (apart b o hb hnf) hx⟩
end
section
variable {prog : Program} {w : World} {A₀ : Around} {E : Value → Shared → Prop} {s' : Shared} {base g g₀ h : Heap} {outer : List Env} {L a e : Addr} {m : Str → Option Value} {name : Str} {scope : Scope} {cd : Value}
  {b₀ : Stmt} {suite : List Stmt} {pos np : Pos} {rest : List ExceptHandler} {Q : Flow → Shared → Prop} {news : List (Addr × Obj)} {KF : Frag}
  {p : Program} {loose : List Str} {mean : ExcName → Option Value} {mg mb : Str → Option Value} {x : Str} {X T' : String}
theorem own_base (K : Below A₀ base outer g) (F : Fr g L h m) (N : News g L h news) (hk : scope.kind = .function) :
    ∃ B, base.StaysIn B ∧ (∀ b o, g.get? b = some o → b ∉ outer.filterMap (·.frame) → B.get? b = some o) ∧ (∀ b o, h.get? b = some o → b ∉ (envOf name scope L a cd :: outer).filterMap (·.frame) → B.get? b = some o) ∧ (∀ q ∈ news, B.get? q.1 = some q.2) ∧ (∀ b o, B.get? b = some o → h.get? b = some o) ∧ h.FunFrames B (envOf name scope L a cd :: outer) := by
  have K' := K.push (name := name) (a := a) (cd := cd) F hk
  have off : ∀ b o, h.get? b = some o → b ∉ (envOf name scope L a cd :: outer).filterMap (·.frame) → (hideAll h ((envOf name scope L a cd :: outer).filterMap (·.frame))).get? b = some o := fun b o q nm => hideAll_get _ q nm
  refine ⟨hideAll h ((envOf name scope L a cd :: outer).filterMap (·.frame)), fun b o q => off _ _ (K'.stays b o q) fun hm => ?_, fun b o q nm => off _ _ (F.keep b o q) fun hm => ?_, off, fun q hq => off _ _ (N q hq).1 fun hm => ?_, fun b o q => of_hideAll _ q, funFrames_hide K'.frames fun env he b hb => List.mem_filterMap.mpr ⟨env, he, hb⟩⟩
  · rw [(K'.frames.mem hm).1] at q; cases q
  · rcases kts_mem hm with z | z
    · rw [z, kts_self F] at q; cases q
    · exact nm z
  · rcases kts_mem hm with z | z
    · exact (N q hq).2.1 z
    · obtain ⟨_, o, ho, _⟩ := K.frames.mem z
      rw [(N q hq).2.2] at ho; cases ho
/-- an exception made in the very frame that catches it -/
theorem caught_own (K : Below A₀ base outer g) (hx : Heap.NewExc h s'.heap e X) (F : Fr g L h m) (N : News g L h news) (XB : KF.In base) (TB : Top p loose mean mg mb base)
    (D : KtsDicts (outer.filterMap (·.frame)) g) (T0 : KtsTurn (outer.filterMap (·.frame)) g₀ g)
    (ex : nsIn KF mainGlobals x = some none) (hv : bootBuiltins x = some (.type T')) (hn' : x ≠ "__name__")
    (hexc : isSubtype (.type T') (.type "BaseException") = pure true) (hnt : isSubtype (.type ((Manifest.find? T').elim "type" fun y => y.metatype)) (.type "tuple") = pure false) (hsub : isSubtype (.type X) (.type T') = pure true)
    (k : ∀ h' g' od vs, KtsTurn (outer.filterMap (·.frame)) g₀ g' → Fr g' L h' m → News g' L h' news → Below A₀ base outer g' → KF.In g' → Top p loose mean mg mb g' → KtsDicts (outer.filterMap (·.frame)) g' →
      h'.get? e = some od → od.data = .fields vs → vs[2]? = some .none →
      wpAny (model prog w) ((A₀.deeper (envOf name scope L a cd)).mark (some (.ref e))) (execs (b₀ :: suite) (envOf name scope L a cd)) Q E { s' with heap := h' })
    (hk : scope.kind = .function := by rfl) (hxk : (envOf name scope L a cd).kindOf x = some .globalImplicit := by rfl) (hd : (x == ("__debug__" : Str)) = false := by decide)
    (hE : PassesOwnAt (model prog w) ((A₀.deeper (envOf name scope L a cd)).mark (some (.ref e))) (A₀.deeper (envOf name scope L a cd)) (envOf name scope L a cd) E := by passes_own) :
    wpAny (model prog w) (A₀.deeper (envOf name scope L a cd)) (noteFrame (.ref e) (envOf name scope L a cd))
      (fun _ s₂ => wpAny (model prog w) (A₀.deeper (envOf name scope L a cd)) (setFlight (.ref e) none) (fun _ s₃ =>
        wpAny (model prog w) (A₀.deeper (envOf name scope L a cd)) (handleBy (.ref e) (envOf name scope L a cd) (.ExceptHandler (some (.Name x np)) none (b₀ :: suite) pos :: rest)) Q E s₃) E s₂) E s' := by
  obtain ⟨B, hB, hgB, hhB, hl, hBh, hfr⟩ := own_base (name := name) (scope := scope) (a := a) (cd := cd) K F N hk
  obtain ⟨ob, t, he, hcls, hdt⟩ := hx.there
  have hen : B.get? e = none := by
    cases q : B.get? e with
    | none => rfl
    | some o => have := hBh _ _ q; rw [hx.new] at this; cases this
  have hfr' : s'.heap.FunFrames B (envOf name scope L a cd :: outer) := hfr.of_keeps fun b o hb _ => ⟨o, hx.keeps b o hb, rfl⟩
  have hL : B.get? L = none := by
    obtain ⟨_, ⟨L', _, hf, hn', _⟩, _⟩ := hfr
    obtain rfl : L = L' := Option.some.inj hf
    exact hn'
  have sm₀ : h.UpToSlots s'.heap := Heap.UpToSlots.of_keeps hx.keeps
  refine noted_own (Around.frames_deeper K.stack) hfr' rfl he (fun b o q => hx.keeps b o (hBh b o q)) hen hdt fun h₄ O₄ sm₄ => ?_
  refine O₄.off fun h₅ O₅ sm₅' => ?_
  have sm₅ := (sm₀.trans sm₄).trans sm₅'
  obtain ⟨g₅, T₅, F₅, K₅⟩ := kts_ground K F hhB (by obtain ⟨_, _, _, _, _, q, _⟩ := O₅; exact q) sm₅
  have X₅ : KF.In g₅ := XB.keeps K₅.stays
  have P₅ : TopRead p loose mg mb g₅ := topRead_of (TB.keeps K₅.stays)
  have O₅' := O₅
  obtain ⟨_, _, _, _, oe₅, _, _, he₅, hc₅, _⟩ := O₅'
  refine wpAny_handleBy_builtin (X := X) (T := T') (b := true) hexc hnt hsub (name_B F₅ X₅ P₅ ex hv hn' ⟨rfl, ⟨oe₅, he₅, hc₅.trans hcls⟩, ?_⟩ hk hxk hd)
  refine O₅.off fun h₆ O₆ sm₆ => ?_
  obtain ⟨t₆, U₆, oU, us, oe₆, hB₆, hfr₆, he₆, hc₆, hd₆, _⟩ := O₆
  obtain ⟨g₆, T₆, F₆, K₆⟩ := kts_ground K F hhB hB₆ (sm₅.trans sm₆)
  have Nl : News g₆ L h₆ news := fun q hq => ⟨hB₆ _ _ (hl q hq), (N q hq).2.1, T₆.none_ _ (N q hq).2.2⟩
  exact wpAny_passesOwnAt hE (k h₆ g₆ oe₆ _ (T0.trans T₆) F₆ Nl K₆ (XB.keeps K₆.stays) (TB.keeps K₆.stays) (D.turn T₆) he₆ hd₆ rfl)
/-- an exception with a context leaves the frame that made it -/
theorem leave_newC {t c : Value} {ob : Obj} (K : Below A₀ base outer g) (F : Fr g L h m) (N : News g L h news) (hkeep : ∀ b o, h.get? b = some o → s'.heap.get? b = some o) (hnew : h.get? e = none)
    (he : s'.heap.get? e = some ob) (hcls : ob.cls = .type X) (hd : ob.data = .fields #[t, .none, c, .none, .bool false, .none]) {Q : Unit → Shared → Prop}
    (hQ : ∀ h', RaisedSN base g outer e (.type X) news h' → g.UpToSlots h' → Q () { s' with heap := h' }) (hk : scope.kind = .function := by rfl) :
    wpAny (model prog w) (A₀.deeper (envOf name scope L a cd)) (leaving (envOf name scope L a cd) (.ref e)) Q E s' := by
  obtain ⟨B, hB, hgB, hhB, hl, hBh, hfr⟩ := own_base (name := name) (scope := scope) (a := a) (cd := cd) K F N hk
  have hen : B.get? e = none := by
    cases q : B.get? e with
    | none => rfl
    | some o => have := hBh _ _ q; rw [hnew] at this; cases this
  refine wpAny_leaving_firstW (a0 := t) (Around.frames_deeper K.stack) (hfr.of_keeps fun b o hb _ => ⟨o, hkeep b o hb, rfl⟩) rfl he (fun b o q => hkeep b o (hBh b o q)) hen hd rfl rfl fun h' hL => ?_
  obtain ⟨k1, ⟨_, _, k2⟩, k3, k4⟩ := hL
  exact hQ h' ⟨B, t, hB, hgB, fun q hq => ⟨hl q hq, (N q hq).2.2, fresh_of_stays K.stays (N q hq).2.2⟩, k1, hen, k2, by rw [← hcls]; exact k3⟩ ((Heap.UpToSlots.of_keeps F.keep).trans ((Heap.UpToSlots.of_keeps hkeep).trans k4))
/-- the ground below was turned: the raise is told over the elder ground -/
theorem raised_elder {l : List Env} {cls : Value} {G : Heap} (T : KtsTurn (l.filterMap (·.frame)) g G) (R : RaisedSN base G l e cls news h) (hsm : G.UpToSlots h) : RaisedSN base g l e cls news h ∧ g.UpToSlots h := by
  obtain ⟨B, a0, hB, hBG, hl, hfl⟩ := R
  refine ⟨⟨B, a0, hB, fun b o q nm => hBG b o (T.other b o q nm) nm, fun q hq => ⟨(hl q hq).1, ?_, (hl q hq).2.2⟩, hfl⟩, fun b o q nf => ?_⟩
  · cases z : g.get? q.1 with
    | none => rfl
    | some o =>
      obtain ⟨sl, hs⟩ := T.up z
      have := (hl q hq).2.1; rw [hs] at this; cases this
  · obtain ⟨sl, hs⟩ := T.up q
    obtain ⟨sl', hs'⟩ := hsm b _ hs nf
    exact ⟨sl', hs'⟩
end
theorem say27 : True := by
  k_with "j.delItem ref.JRem" => ((k_here; k_dflt (refine' tDel_missing ?H_z124 ?N_z124 ?m_z124 ?o_z124 ?lo_z124 ?v_z124 ?k_z124 ?_; (case H_z124 => assumption); (case N_z124 => k_asm); (case m_z124 => k_mem); (case o_z124 => assumption); (case lo_z124 => assumption); (case v_z124 => assumption); (case k_z124 => assumption)); intro h'w e'w NX'w))
  k_with "j.noteFrame ref.JRem" => ((k_here; (rename Heap.NewExc _ _ _ _ => nxX); (k_dflt (refine' caught_own (T' := "KeyError") ?K_z125 ?hx_z125 ?F_z125 ?N_z125 ?XB_z125 ?TB_z125 ?D_z125 ?T0_z125 ?ex_z125 PyProof.Rows.Boot.«KeyError» ?hn_z125 kr_isExc_KeyError kr_notTuple_KeyError ?hs_z125 ?_; (case hx_z125 => exact nxX); (case F_z125 => assumption); (case N_z125 => assumption); (case K_z125 => assumption); (case XB_z125 => assumption); (case TB_z125 => assumption); (case D_z125 => assumption); (case T0_z125 => first | assumption | exact KtsTurn.refl); (case hs_z125 => kts_sub); (case ex_z125 => k_is); (case hn_z125 => decide))); intro h'w g'w od'w vs'w T'w F'w N'w K'w X'w P'w D'w he'w hd'w h2'w))
  trivial
section
variable {prog : Program} {w : World} {x dx t : Nat} {n : Nat} {hx : Int} {tkx : Tok} {o : Obj} {ks : List PK} {ro : List (Addr × Obj)} {k : PK} {v : Value}
theorem remove_e (hv : IsV k v) (hk : k ∉ ks) (lo : (t == sysModules) = false) (ho : IsD prog w o ks) (mx : (x, instObj 270 dx) ∈ ro) (md : (dx, dictOf [⟨hx, .str "table" tkx, .ref t⟩] n) ∈ ro) (mt : (t, o) ∈ ro) : CtrE prog w 4 43 [.ref x, v] ro "ValueError" := by
  intro A₀ A s base h₀ outer L m env R C N h
  k_extra "j.enter"
  k_extra "j.steps"
  (with_unfolding_all (refine' raise_under (Eq.refl _) ?he ?hd ?h2 excClass_ValueError ?hs ?hx ?_; (case he => assumption); (case hd => assumption); (case h2 => assumption); (case hs => (rw [isSubtype_type]; kernel_rfl))))
  case hx => k_dflt (refine' name_B ?q1 ?q2 ?q3 ?q4 PyProof.Rows.Boot.«ValueError» ?q5 ⟨rfl, rfl⟩; (case q1 => k_asm); (case q2 => k_asm); (case q3 => k_asm); (case q4 => k_is); (case q5 => decide))
  intro h2 e2 hn2
  obtain ⟨ob2, t2, he2, hc2, hd2⟩ := ctx_there hn2
  refine' leave_newC ?r1 ?r2 ?r3 (ctx_keeps hn2) hn2.new he2 hc2 hd2 ?_
  case r1 => assumption
  case r2 => assumption
  case r3 => assumption
  intro h3 R3 U3
  have z := raised_elder (by assumption) R3 U3
  exact h _ _ _ _ (by assumption) z.1 z.2
end
theorem say28 : True := by
  k_with "j.call ref" => ((k_here; (with_reducible show wpAny _ _ (call (Value.ref 43) _) _ _ _); refine wpAny_call ?_; k_dflt (refine' (remove_e ?hv_z126 ?hk_z126 ?lo_z126 ?ho_z126 ?mx_z126 ?md_z126 ?mt_z126) _ _ _ _ _ _ _ _ _ _ ?C_z126 ?N_z126 ?_; (case C_z126 => k_extra "j.cx"); (case N_z126 => k_asm); (case mx_z126 => k_mem); (case md_z126 => k_mem); (case mt_z126 => k_mem); (case lo_z126 => assumption); (case ho_z126 => assumption); (case hv_z126 => assumption); (case hk_z126 => assumption)); intro h'w tk'w e'w g'w FG'w RS'w U'w; (try dsimp only)))
  trivial

end
section
local macro_rules | `(tactic| walk_at "j.pad") => `(tactic| skip)
theorem padA2 : Pad := by first | walk1 | exact trivial
local macro_rules | `(tactic| walk_at "j.pad") => `(tactic| skip)
theorem padB2 : Pad := by first | walk1 | exact trivial
end
def PK.data : PK → PyData
  | .int i => .int i
  | .str x => .str x
/-- a tuple of two plain values -/
def Tup (o : Obj) (a b : PK) : Prop := ∃ u v, o = { cls := .type "tuple", data := .seq #[u, v] } ∧ a.is u = true ∧ b.is v = true ∧ a.data.canLay0 = true ∧ b.data.canLay0 = true
theorem PK.reads {h : Heap} {a : PK} {u : Value} (e : a.is u = true) : Reads h u a.data [] := by
  cases a with
  | int i => obtain ⟨t, rfl⟩ := PK.is_int e; exact Reads.int _ _
  | str x => obtain ⟨t, rfl⟩ := PK.is_str e; exact Reads.str _ _
theorem PK.flat (a : PK) : a.data.depth = 0 := by cases a <;> rfl
theorem PK.eqv (a b : PK) : PyData.eqv a.data b.data = decide (a = b) := by
  cases a <;> cases b
  · simp [PK.data, PyData.eqv]; rfl
  · simp [PK.data, PyData.eqv]
  · simp [PK.data, PyData.eqv]
  · simp [PK.data, PyData.eqv]; rfl
theorem PK.lay : ∀ k ∈ ALL, k.data.canLay0 = true := by
  simp only [ALL, List.forall_mem_cons, PK.data, PyData.canLay0]
  refine ⟨trivial, by decide +kernel, trivial, by decide +kernel, trivial, by decide +kernel, trivial, by decide +kernel, trivial, fun _ h => nomatch h⟩
theorem Tup.shaped {a b : PK} (ha : a.data.canLay0 = true) (hb : b.data.canLay0 = true) : SeqAt.shaped (.tuple [a.data, b.data]) = true := by
  simp [SeqAt.shaped, PyData.canLay0, PyData.canLayAll0, PyData.depth, PyData.depthAll, ha, hb, PK.flat]
theorem Tup.mk {u v : Value} {a b : PK} (ha : a.is u = true) (hb : b.is v = true) (la : a.data.canLay0 = true) (lb : b.data.canLay0 = true) : Tup { cls := .type "tuple", data := .seq #[u, v] } a b := ⟨u, v, rfl, ha, hb, la, lb⟩
theorem Tup.says {x : String} {tk : Tok} {v : Value} {b : PK} (hb : b.is v = true) (lx : (PK.str x).data.canLay0 = true) (lb : b.data.canLay0 = true) : Tup { cls := .type "tuple", data := .seq #[.str x tk, v] } (.str x) b := Tup.mk (by simp [PK.is]) hb lx lb
theorem Tup.sInt {x : String} {tk t : Tok} {i : Int} (lx : (PK.str x).data.canLay0 = true) : Tup { cls := .type "tuple", data := .seq #[.str x tk, .int i t] } (.str x) (.int i) := Tup.says (by simp [PK.is]) lx (by simp only [PK.data, PyData.canLay0])
theorem Tup.sStr {x y : String} {tk t : Tok} (lx : (PK.str x).data.canLay0 = true) (ly : (PK.str y).data.canLay0 = true) : Tup { cls := .type "tuple", data := .seq #[.str x tk, .str y t] } (.str x) (.str y) := Tup.says (by simp [PK.is]) lx ly
theorem Tup.sV {x : String} {tk : Tok} {v : Value} {k : PK} (hv : IsV k v) (lx : (PK.str x).data.canLay0 = true) : Tup { cls := .type "tuple", data := .seq #[.str x tk, v] } (.str x) k := Tup.says hv.1 lx (PK.lay _ hv.2)
section
variable {prog : Program} {w : World} {A : Around} {E : Value → Shared → Prop} {s : Shared} {h₀ : Heap} {L T U : Addr} {news : List (Addr × Obj)} {o p : Obj} {a b c d : PK}
theorem Tup.reads (N : News h₀ L s.heap news) (hm : (T, o) ∈ news) (ho : Tup o a b) : ∃ as, Reads s.heap (.ref T) (.tuple [a.data, b.data]) as := by
  obtain ⟨u, v, rfl, ha, hb, _⟩ := ho
  exact ⟨_, reads_tuple_at (N.get hm) rfl rfl (ReadsAll.cons (PK.reads ha) (ReadsAll.cons (PK.reads hb) ReadsAll.nil))⟩
theorem Tup.eqv : PyData.eqv (.tuple [a.data, b.data]) (.tuple [c.data, d.data]) = (decide (a = c) && decide (b = d)) := by
  simp [PyData.eqv, PyData.eqvAll, PK.eqv]
theorem tupEq {Q : Value → Shared → Prop} (N : News h₀ L s.heap news) (hm : (T, o) ∈ news) (ho : Tup o a b) (hm₂ : (U, p) ∈ news) (hp : Tup p c d) (hu : A.units + 64 < cLine) (h : Q (.bool (decide (a = c) && decide (b = d))) s) :
    wpAny (model prog w) A (compareOp .Eq (.ref T) (.ref U)) Q E s := by
  obtain ⟨as, ra⟩ := ho.reads N hm
  obtain ⟨bs, rb⟩ := hp.reads N hm₂
  obtain ⟨_, _, _, _, _, la, lb⟩ := ho
  obtain ⟨_, _, _, _, _, lc, ld⟩ := hp
  exact eq_dataH ra rb (Tup.shaped la lb) (Tup.shaped lc ld) hu (by rw [Tup.eqv]; exact h)
theorem tupNe {Q : Value → Shared → Prop} (N : News h₀ L s.heap news) (hm : (T, o) ∈ news) (ho : Tup o a b) (hm₂ : (U, p) ∈ news) (hp : Tup p c d) (hu : A.units + 64 < cLine) (h : Q (.bool (!(decide (a = c) && decide (b = d)))) s) :
    wpAny (model prog w) A (compareOp .NotEq (.ref T) (.ref U)) Q E s := by
  obtain ⟨as, ra⟩ := ho.reads N hm
  obtain ⟨bs, rb⟩ := hp.reads N hm₂
  obtain ⟨_, _, _, _, _, la, lb⟩ := ho
  obtain ⟨_, _, _, _, _, lc, ld⟩ := hp
  exact ne_dataH ra rb (Tup.shaped la lb) (Tup.shaped lc ld) hu (by rw [Tup.eqv]; exact h)
end
/-- a call that tells a tuple of two, and turns nothing -/
def MakesT (a b : PK) (ro : List (Addr × Obj)) (v : Value) (ft : List (Addr × Obj)) : Prop := ∃ (T : Nat) (o : Obj), v = .ref T ∧ Tup o a b ∧ AllNA T ro ∧ ft = (T, o) :: ro
section
variable {prog : Program} {w : World} {A₀ A : Around} {s : Shared} {base h₀ g₀ : Heap} {outer : List Env} {L ca : Addr} {m : Str → Option Value} {cn : Str} {cs : Scope} {ccd : Value} {news foot : List (Addr × Obj)} {l : Nat}
  {R : Result → Shared → Prop} {f : Addr} {args : List Value} {a b : PK}
theorem CtrT.tup (c : CtrT prog w l f args news (MakesT a b news)) (C : Cx w l A₀ A base outer h₀ L m (envOf cn cs L ca ccd) s.heap) (N : News h₀ L s.heap news) (T0 : KtsTurn (outer.filterMap (·.frame)) g₀ h₀)
    (h : ∀ h' tk' h₀' (T : Nat) o, Tup o a b → AllNA T news → KtsTurn (outer.filterMap (·.frame)) g₀ h₀' → Fr h₀' L h' m → News h₀' L h' ((T, o) :: news) → Below A₀ base outer h₀' → KtsDicts (outer.filterMap (·.frame)) h₀' → R (.ok (.ret (.ref T))) { s with heap := h', toks := tk' }) :
    codeAny (model prog w) A (.call (.ref f) ⟨args, []⟩) R s :=
  c.use C N T0 (fun _ hp => hp) fun h' tk' v ft h₀' hp T' F' nw B' D' _ => by
    obtain ⟨T, o, rfl, ho, hn, rfl⟩ := hp
    exact h h' tk' h₀' T o ho hn T' F' (nw _ fun p hq => .inl hq) B' D'
end
section
variable {prog : Program} {w : World} {A₀ : Around} {s : Shared} {hs h' base h₀ g₀ h₀' : Heap} {outer : List Env} {L : Addr} {m : Str → Option Value} {fs fs' : List Addr} {as : List Addr}
  {R : Result → Shared → Prop} {post : Value → List (Addr × Obj) → Prop} {foot' : List (Addr × Obj)} {v : Value} {tk' : Nat}
theorem fin_T (h : ∀ h' tk' v foot' h₀', post v foot' → KtsTurn fs g₀ h₀' → Fr h₀' L h' m → News h₀' L h' foot' → Below A₀ base outer h₀' → KtsDicts fs h₀' → KeepsT hs h' as fs' → (∀ b, h₀.get? b = none → h₀'.get? b = none) → (∀ p ∈ foot', p.1 ∉ as → hs.get? p.1 = none) → R (.ok (.ret v)) { s with heap := h', toks := tk' })
    (T : KtsTurn fs g₀ h₀') (F : Fr h₀' L h' m) (N : News h₀' L h' foot') (B : Below A₀ base outer h₀') (D : KtsDicts fs h₀') (K : KeepsT hs h' as fs') (n : ∀ b, h₀.get? b = none → h₀'.get? b = none) (f : ∀ p ∈ foot', p.1 ∉ as → hs.get? p.1 = none) (p : post v foot') :
    R (.ok (.ret v)) { s with heap := h', toks := tk' } := h _ _ _ _ _ p T F N B D K n f
theorem fin_TR {pst : Value → Prop} {ro : List (Addr × Obj)} (h : ∀ h' tk' v foot' h₀', (pst v ∧ foot' = ro) → KtsTurn fs g₀ h₀' → Fr h₀' L h' m → News h₀' L h' foot' → Below A₀ base outer h₀' → KtsDicts fs h₀' → KeepsT hs h' (ro.map (·.1)) fs' → (∀ b, h₀.get? b = none → h₀'.get? b = none) → (∀ p ∈ foot', p.1 ∉ ro.map (·.1) → hs.get? p.1 = none) → R (.ok (.ret v)) { s with heap := h', toks := tk' })
    (T : KtsTurn fs g₀ h₀') (F : Fr h₀' L h' m) (N : News h₀' L h' ro) (B : Below A₀ base outer h₀') (D : KtsDicts fs h₀') (K : KeepsT hs h' (ro.map (·.1)) fs') (n : ∀ b, h₀.get? b = none → h₀'.get? b = none) (p : pst v) :
    R (.ok (.ret v)) { s with heap := h', toks := tk' } := h _ _ _ _ _ ⟨p, rfl⟩ T F N B D K n fun p hp hn => absurd (List.mem_map_of_mem hp) hn
end
theorem say29 : True := by
  k_with "j.enterT" => ((refine' enterT ?C_z127 ?N_z127 ?T0_z127 ?l_z127 ?k6_z127 ?k7_z127 ?k9_z127 ?kB_z127 ?c2_z127 ?c3_z127 ?c4_z127 ?c5_z127 ?_; (case C_z127 => assumption); (case N_z127 => assumption); (case T0_z127 => assumption); (case l_z127 => decide); (case k6_z127 => k_is); (case k7_z127 => k_is); (case k9_z127 => first | exact BindsTo.of_eq rfl | exact binds_K (Cx.kin (by assumption)) rfl (by k_is) rfl rfl rfl); (case c5_z127 => decide); (case kB_z127 => exact locs rfl); (case c2_z127 => exact rfl); (case c3_z127 => exact rfl); (case c4_z127 => exact rfl); intro g'w L'w h'w lo'w me'w mg'w mb'w XB'w TB'w FG'w F'w N'w B'w X'w T'w room'w units'w hh'w D'w KP'w; (try dsimp only); (try k_fold)))
  k_with "j.LeaveT" => ((refine' LeaveT.mk ?T1_z128 ?F_z128 ?N_z128 ?_; (case F_z128 => assumption); (case N_z128 => assumption); (case T1_z128 => first | assumption | exact KtsTurn.refl); intro h0'w kT kF kN kB kD kK kn kf))
  k_with "j.lay" => (first | (simp only [PK.data, PyData.canLay0]; done) | (simp only [PK.data, PyData.canLay0]; decide +kernel))
  k_with "j.endT" => ((refine' fin_T (by assumption) ?T_z130 ?F_z130 ?N_z130 ?B_z130 ?D_z130 ?K_z130 ?n_z130 ?f_z130 ?pst_left; (case T_z130 => assumption); (case F_z130 => assumption); (case N_z130 => assumption); (case B_z130 => assumption); (case D_z130 => assumption); (case K_z130 => assumption); (case n_z130 => assumption); (case f_z130 => assumption)))
  k_with "j.readT" => ((refine' fin_TR (by assumption) ?T_z131 ?F_z131 ?N_z131 ?B_z131 ?D_z131 ?K_z131 ?n_z131 ?_; (case T_z131 => assumption); (case F_z131 => assumption); (case N_z131 => k_extra "j.tail"); (case B_z131 => assumption); (case D_z131 => assumption); (case K_z131 => assumption); (case n_z131 => assumption)))
  k_with "j.tupT" => ((refine ⟨_, _, rfl, ?is_z132, ?lt_z132, rfl⟩; (case is_z132 => k_extra "j.isT"); (case lt_z132 => exact allNA_lt (by k_extra "j.lt"))))
  k_with "j.compareOp Eq ref ref" => ((k_here; (with_reducible show wpAny _ _ (compareOp CmpOp.Eq (Value.ref _) (Value.ref _)) _ _ _); k_dflt (refine' tupEq ?N_z133 ?m_z133 ?o_z133 ?m2_z133 ?o2_z133 ?u_z133 ?_; (case N_z133 => k_asm); (case m_z133 => k_mem); (case o_z133 => k_extra "j.isT"); (case m2_z133 => k_mem); (case o2_z133 => k_extra "j.isT"); (case u_z133 => k_units))))
  k_with "j.compareOp NotEq ref ref" => ((k_here; (with_reducible show wpAny _ _ (compareOp CmpOp.NotEq (Value.ref _) (Value.ref _)) _ _ _); k_dflt (refine' tupNe ?N_z134 ?m_z134 ?o_z134 ?m2_z134 ?o2_z134 ?u_z134 ?_; (case N_z134 => k_asm); (case m_z134 => k_mem); (case o_z134 => k_extra "j.isT"); (case m2_z134 => k_mem); (case o2_z134 => k_extra "j.isT"); (case u_z134 => k_units))))
  k_with "j.isT" => (first | assumption | exact Tup.sInt (by k_extra "j.lay") | exact Tup.sStr (by k_extra "j.lay") (by k_extra "j.lay") | exact Tup.sV (by assumption) (by k_extra "j.lay"))
  trivial

section
variable {prog : Program} {w : World} {x dx t : Nat} {n : Nat} {hx : Int} {tkx : Tok} {o : Obj} {ks : List PK} {ro : List (Addr × Obj)} {k : PK}
theorem place_out {i : Int} {tk : Tok} (hi : i < -(ks.length : Int) ∨ (ks.length : Int) ≤ i) (lo : (t == sysModules) = false) (ho : IsD prog w o ks) (mx : (x, instObj 270 dx) ∈ ro) (md : (dx, dictOf [⟨hx, .str "table" tkx, .ref t⟩] n) ∈ ro) (mt : (t, o) ∈ ro) :
    CtrT prog w 6 328 [.ref x, .int i tk] ro (MakesT (.str "raised") (.int 0) ro) := by
  intro A₀ A s base h₀ g₀ outer L m cn cs ca ccd R C N T0 h
  k_extra "j.enterT"
  k_extra "j.steps"
  k_extra "j.endT"
  k_extra "j.tupT"
end
theorem say30 : True := by
  k_with "j.cxT" => (k_extra "j.cx")
  k_with "j.tpost" => ((intro h'w tk'w g'w T'w o'w O'w l1 T0'w F'w N'w B'w D'w; (have TG'w := Top.keeps (by assumption) (Below.stays B'w)); (have XG'w := Frag.In.keeps (by assumption) (Below.stays B'w)); (try simp only [AllNA, and_true] at l1); (try k_sweep)))
  k_with "j.rpost" => ((intro h'w tk'w v'w g'w P'w T0'w F'w N'w B'w D'w; (try subst P'w); (have TG'w := Top.keeps (by assumption) (Below.stays B'w)); (have XG'w := Frag.In.keeps (by assumption) (Below.stays B'w)); (try k_sweep)))
  k_with "j.call ref" => ((k_here; (with_reducible show wpAny _ _ (call (Value.ref 328) _) _ _ _); refine wpAny_call ?_; k_dflt (refine' CtrT.tup (place_out ?hi_z139 ?lo_z139 ?ho_z139 ?mx_z139 ?md_z139 ?mt_z139) ?C_z139 ?N_z139 ?T0_z139 ?_; (case C_z139 => k_extra "j.cx"); (case N_z139 => k_asm); (case T0_z139 => first | assumption | exact KtsTurn.refl); (case mx_z139 => k_mem); (case md_z139 => k_mem); (case mt_z139 => k_mem); (case lo_z139 => assumption); (case ho_z139 => assumption); (case hi_z139 => first | assumption | omega)); k_extra "j.tpost"))
  trivial

section
variable {prog : Program} {w : World} {A : Around} {E : Value → Shared → Prop} {s : Shared} {k : PK} {u v : Value}
theorem pkNe {Q : Value → Shared → Prop} (hu : IsV k u) (hv : IsV k v) (h : Q (.bool false) s) : wpAny (model prog w) A (compareOp .NotEq u v) Q E s := by
  refine cmp_ofNotEq ?_
  cases k with
  | int i =>
    obtain ⟨t, rfl⟩ := PK.is_int hu.1
    obtain ⟨t', rfl⟩ := PK.is_int hv.1
    exact PySem.SeqAt.RcNeAt.int_int _ _ _ _ prog w E Q (by simpa using h)
  | str x =>
    obtain ⟨t, rfl⟩ := PK.is_str hu.1
    obtain ⟨t', rfl⟩ := PK.is_str hv.1
    exact PySem.SeqAt.RcNeAt.str_str _ _ _ _ prog w E Q (by simpa using h)
end
theorem say31 : True := by
  k_with "j.compareOp NotEq" => ((k_here; (with_reducible show wpAny _ _ (compareOp CmpOp.NotEq _ _) _ _ _); refine' pkNe (by assumption) (by assumption) ?_))
  trivial
section
variable {prog : Program} {w : World} {x dx t l c : Nat} {n : Nat} {hx : Int} {tkx : Tok} {o : Obj} {ks : List PK} {vs : List Value} {ro : List (Addr × Obj)}
theorem law_is_c (hi : IsL ks vs) (hm : (l, listOf vs.toArray c) ∈ ro) (lo : (t == sysModules) = false) (ho : IsD prog w o ks) (mx : (x, instObj 270 dx) ∈ ro) (md : (dx, dictOf [⟨hx, .str "table" tkx, .ref t⟩] n) ∈ ro) (mt : (t, o) ∈ ro) :
    CtrT prog w 9 349 [.ref x, .ref l] ro (fun v ft => v = .bool true ∧ ft = ro) := by
  intro A₀ A s base h₀ g₀ outer L m cn cs ca ccd R C N T0 h
  have hz9 := ho.small
  have hz : ks.length ≤ 100 := by omega
  k_extra "j.enterT"
  k_extra "j.steps"
  all_goals try (exact absurd rfl (by assumption))
  refine' loop_range_R (x := "place") ?hh ?hr ks.length ?hp ?hn ?hb ?F ?N ?turn ?done
  case hh => assumption
  case hr => assumption
  case hp => decide
  case hn => omega
  case hb => omega
  case F => assumption
  case N => assumption
  case turn =>
    intro I i h' tk oI tt hlt lt F' N'
    have hk : ks[i]? = some ks[i] := by simp [hlt]
    have hki : ks[(0 + (i : Int)).toNat]? = some ks[i] := by simp [hlt]
    k_extra "j.steps"
    all_goals try (exact absurd rfl (by assumption))
    refine' TurnEnd.fin (a := ()) ?F ?N ?m trivial
    case F => assumption
    case N => assumption
    case m => (intro y hy; try simp only [if_neg hy])
  case done =>
    intro h' tk u F' N'
    k_extra "j.steps"
    k_extra "j.readT"
    first | rfl | simp
end
theorem say32 : True := by
  k_with "j.dead" => (first | exact absurd rfl (by assumption) | omega)
  k_with "j.call ref" => ((k_here; (with_reducible show wpAny _ _ (call (Value.ref 349) _) _ _ _); refine wpAny_call ?_; k_dflt (refine' CtrT.read (law_is_c ?hi_z142 ?hm_z142 ?lo_z142 ?ho_z142 ?mx_z142 ?md_z142 ?mt_z142) ?C_z142 ?N_z142 ?T0_z142 ?sub_z142 ?_; (case C_z142 => k_extra "j.cx"); (case N_z142 => k_asm); (case T0_z142 => first | assumption | exact KtsTurn.refl); (case sub_z142 => exact fun _ hp => hp); (case mx_z142 => k_mem); (case md_z142 => k_mem); (case mt_z142 => k_mem); (case hm_z142 => k_mem); (case lo_z142 => assumption); (case ho_z142 => assumption); (case hi_z142 => assumption)); k_extra "j.rpost"))
  trivial

def cmpd (way : Int) (ks qs : List PK) : Bool := if way = 0 then ks.all fun k => decide (k ∈ qs) else if way = 1 then qs.all fun k => decide (k ∈ ks) else qs.all fun k => decide (k ∉ ks)
section
variable {prog : Program} {w : World} {x dx t y dy u : Nat} {n n' : Nat} {hx hy : Int} {tkx tky : Tok} {o p : Obj} {ks qs : List PK} {ro : List (Addr × Obj)} {a c : Nat} {its : Array Value} {way : Int} {tw : Tok}
theorem compared_c (lo : (t == sysModules) = false) (lo2 : (u == sysModules) = false) (ho : IsD prog w o ks) (hp : IsD prog w p qs) (mx : (x, instObj 270 dx) ∈ ro) (md : (dx, dictOf [⟨hx, .str "table" tkx, .ref t⟩] n) ∈ ro) (mt : (t, o) ∈ ro) (my : (y, instObj 270 dy) ∈ ro) (me : (dy, dictOf [⟨hy, .str "table" tky, .ref u⟩] n') ∈ ro) (mu : (u, p) ∈ ro) :
    Ctr prog w 5 321 [.int way tw, .ref x, .ref y] ro (fun r ft => r = .bool (cmpd way ks qs) ∧ ft = ro) := by
  intro A₀ A s base h₀ outer L m env R C N h
  k_extra "j.enter"
  k_extra "j.steps"
  all_goals k_extra "j.read"
  all_goals simp_all [cmpd]
theorem compared_e (ma : (a, listOf its c) ∈ ro) (lo : (t == sysModules) = false) (ho : IsD prog w o ks) (mx : (x, instObj 270 dx) ∈ ro) (md : (dx, dictOf [⟨hx, .str "table" tkx, .ref t⟩] n) ∈ ro) (mt : (t, o) ∈ ro) :
    CtrT prog w 6 321 [.int way tw, .ref x, .ref a] ro (fun r ft => r = .none ∧ ft = ro) := by
  intro A₀ A s base h₀ g₀ outer L m cn cs ca ccd R C N T0 h
  k_extra "j.enterT"
  k_extra "j.steps"
  all_goals k_extra "j.readT"
  all_goals rfl
end
theorem say33 : True := by
  k_with "j.call ref" => ((k_here; (with_reducible show wpAny _ _ (call (Value.ref 321) _) _ _ _); refine wpAny_call ?_; k_dflt (refine' CtrT.read (compared_e ?ma_z143 ?lo_z143 ?ho_z143 ?mx_z143 ?md_z143 ?mt_z143) ?C_z143 ?N_z143 ?T0_z143 ?sub_z143 ?_; (case C_z143 => k_extra "j.cx"); (case N_z143 => k_asm); (case T0_z143 => first | assumption | exact KtsTurn.refl); (case sub_z143 => exact fun _ hp => hp); (case ma_z143 => k_mem); (case mx_z143 => k_mem); (case md_z143 => k_mem); (case mt_z143 => k_mem); (case lo_z143 => assumption); (case ho_z143 => assumption)); k_extra "j.rpost"))
  k_with "j.call ref" => ((k_here; (with_reducible show wpAny _ _ (call (Value.ref 321) _) _ _ _); refine wpAny_call ?_; k_dflt (refine' Ctr.read (compared_c ?lo_z144 ?lo2_z144 ?ho_z144 ?hp_z144 ?mx_z144 ?md_z144 ?mt_z144 ?my_z144 ?me_z144 ?mu_z144) ?C_z144 ?N_z144 ?sub_z144 ?_; (case C_z144 => k_extra "j.cx"); (case N_z144 => k_asm); (case sub_z144 => exact fun _ hp => hp); (case mx_z144 => k_mem); (case md_z144 => k_mem); (case mt_z144 => k_mem); (case my_z144 => k_mem); (case me_z144 => k_mem); (case mu_z144 => k_mem); (case lo_z144 => assumption); (case lo2_z144 => assumption); (case ho_z144 => assumption); (case hp_z144 => assumption)); intro h'w tk'w v'w e'w F'w N'w; subst e'w; (try dsimp only [PySem.W.CmpBack, PySem.W.LenBack, PySem.W.BoolBack]); (try k_sweep)))
  trivial

section
variable {M : Model} {A : Around} {E : Value → Shared → Prop} {s : Shared} {env : Env} {st : Stmt} {Q : Flow → Shared → Prop}
/-- one statement alone: no layer more around the end -/
theorem execs_one (h : wpAny M A (exec st env) Q E s) : wpAny M A (execs [st] env) Q E s :=
  wpAny_execs_cons (wpAny_mono h (fun f s' h' => by cases f <;> first | exact wpAny_execs_nil h' | exact h') fun _ _ x => x)
end
/-- a test «x == c» -/
def tstOne : PySem.Expr → Option (Str × Int)
  | .Compare (.Name x _) [.Eq] [.Constant (.int c) _ _] _ => some (x, c)
  | _ => none
def tstAll : List PySem.Expr → Option (List (Str × Int))
  | [] => some []
  | e :: r => match tstOne e, tstAll r with
    | some p, some q => some (p :: q)
    | _, _ => none
def tst : PySem.Expr → Option (List (Str × Int))
  | .BoolOp .And vs _ => tstAll vs
  | e => match tstOne e with
    | some p => some [p]
    | none => none
/-- what the tests say where the names hold whole numbers -/
def said (vals : List (Str × Int)) : List (Str × Int) → Option Bool
  | [] => some true
  | (x, c) :: r => match vals.lookup x with
    | some i => if i = c then said vals r else some false
    | none => none
/-- the arm that a chain of ifs takes -/
def arm (vals : List (Str × Int)) : Nat → List Stmt → List Stmt
  | 0, l => l
  | n + 1, l => match l with
    | [.If test body orelse p] => match tst test with
      | some ts => match said vals ts with
        | some true => body
        | some false => arm vals n orelse
        | none => [.If test body orelse p]
      | none => [.If test body orelse p]
    | l => l
section
variable {prog : Program} {w : World} {A : Around} {E : Value → Shared → Prop} {h₀ : Heap} {L a : Addr} {m : Str → Option Value} {name : Str} {scope : Scope} {cd : Value} {vals : List (Str × Int)}
def Holds (scope : Scope) (name : Str) (L a : Addr) (cd : Value) (m : Str → Option Value) (vals : List (Str × Int)) : Prop :=
  scope.kind = .function ∧ ∀ x i, vals.lookup x = some i → (x == ("__debug__" : Str)) = false ∧ (envOf name scope L a cd).kindOf x = some .local ∧ ∃ t, m x = some (.int i t)
theorem holds_nil (hk : scope.kind = .function) : Holds scope name L a cd m [] := ⟨hk, fun _ _ h => nomatch h⟩
theorem holds_cons {x : Str} {i : Int} {t : Tok} (hd : (x == ("__debug__" : Str)) = false) (hl : (envOf name scope L a cd).kindOf x = some .local) (hm : m x = some (.int i t)) (H : Holds scope name L a cd m vals) : Holds scope name L a cd m ((x, i) :: vals) := by
  refine ⟨H.1, fun y j h => ?_⟩
  rw [List.lookup_cons] at h
  by_cases e : y = x
  · subst e
    simp at h
    exact ⟨hd, hl, t, h ▸ hm⟩
  · have e' : (y == x) = false := by simpa using e
    rw [e'] at h
    exact H.2 y j h
theorem holds_cons' {x : Str} {i j : Int} {t : Tok} (hd : (x == ("__debug__" : Str)) = false) (hl : (envOf name scope L a cd).kindOf x = some .local) (hm : m x = some (.int j t)) (e : j = i) (H : Holds scope name L a cd m vals) : Holds scope name L a cd m ((x, i) :: vals) := holds_cons hd hl (e ▸ hm) H
theorem one_ok {e : PySem.Expr} {x : Str} {c i : Int} {whole : Sem Value} {s : Shared} {Q : Bool → Shared → Prop} (H : Holds scope name L a cd m vals) (F : Fr h₀ L s.heap m) (he : tstOne e = some (x, c)) (hi : vals.lookup x = some i)
    (h : Q (i == c) { s with toks := s.toks + 1 }) : wpAny (model prog w) A (isTrue e (envOf name scope L a cd) whole) Q E s := by
  unfold tstOne at he
  split at he
  · cases he
    obtain ⟨hd, hl, t, hm⟩ := H.2 _ _ hi
    exact wpAny_isTrue_Compare1 (ld F hm (wpAny_Constant_int (eq_int (wpAny_truthy_bool h))) H.1 hl hd) (by with_unfolding_all rfl)
  · cases he
theorem all_ok {whole : Sem Value} {p : Pos} : ∀ {es : List PySem.Expr} {ts : List (Str × Int)} {b : Bool} {s : Shared} {Q : Bool → Shared → Prop}, Holds scope name L a cd m vals → Fr h₀ L s.heap m → tstAll es = some ts → said vals ts = some b →
    (∀ tk, Q b { s with toks := tk }) → wpAny (model prog w) A (isTrue (.BoolOp .And es p) (envOf name scope L a cd) whole) Q E s
  | [], ts, b, s, Q, H, F, he, hs, h => by
    cases he; cases hs
    exact isTrue_and_nil (h s.toks)
  | e :: r, ts, b, s, Q, H, F, he, hs, h => by
    unfold tstAll at he
    split at he
    · rename_i pc q h1 h2
      obtain ⟨x, c⟩ := pc
      cases he
      unfold said at hs
      split at hs
      · rename_i i hi
        refine isTrue_and (one_ok H F h1 hi ?_)
        split at hs
        · rename_i hc
          subst hc
          simp only [beq_self_eq_true, if_true]
          exact all_ok H F h2 hs fun tk => h tk
        · rename_i hc
          cases hs
          have : (i == c) = false := by simpa using hc
          rw [this]
          exact h _
      · cases hs
    · cases he
theorem tst_ok {e : PySem.Expr} {ts : List (Str × Int)} {b : Bool} {whole : Sem Value} {s : Shared} {Q : Bool → Shared → Prop} (H : Holds scope name L a cd m vals) (F : Fr h₀ L s.heap m) (he : tst e = some ts) (hs : said vals ts = some b)
    (h : ∀ tk, Q b { s with toks := tk }) : wpAny (model prog w) A (isTrue e (envOf name scope L a cd) whole) Q E s := by
  unfold tst at he
  split at he
  · exact all_ok H F he hs h
  · split at he
    · rename_i pc h1
      obtain ⟨x, c⟩ := pc
      cases he
      unfold said at hs
      split at hs
      · rename_i i hi
        refine one_ok H F h1 hi ?_
        split at hs
        · rename_i hc
          cases hs
          subst hc
          simpa using h _
        · rename_i hc
          cases hs
          have : (i == c) = false := by simpa using hc
          rw [this]
          exact h _
      · cases hs
    · cases he
theorem arm_ok : ∀ (n : Nat) {l : List Stmt} {s : Shared} {Q : Flow → Shared → Prop}, Holds scope name L a cd m vals → Fr h₀ L s.heap m →
    (∀ tk, wpAny (model prog w) A (execs (arm vals n l) (envOf name scope L a cd)) Q E { s with toks := tk }) → wpAny (model prog w) A (execs l (envOf name scope L a cd)) Q E s
  | 0, l, s, Q, _, _, h => by
    have := h s.toks
    unfold arm at this
    exact this
  | n + 1, l, s, Q, H, F, h => by
    unfold arm at h
    split at h
    · split at h
      · rename_i ts ht
        split at h
        · rename_i hs
          refine execs_one (wpAny_If (tst_ok H F ht hs fun tk => ?_))
          simpa using h tk
        · rename_i hs
          refine execs_one (wpAny_If (tst_ok H F ht hs fun tk => ?_))
          simp only [Bool.false_eq_true, if_false]
          exact arm_ok n H F fun tk' => h tk'
        · exact h s.toks
      · exact h s.toks
    · exact h s.toks
end
section
variable {prog : Program} {w : World} {a c : Nat} {its : Array Value}
theorem looks_list {M : Model} {h : Heap} (e : h.get? a = some (listOf its c)) : Looks M h (typeOf (.ref a)) (.type "list") := (Looks.ld e).andThen .now
theorem bin_list {A : Around} {E : Value → Shared → Prop} {s : Shared} {K : Frag} {x C L f : Addr} {h₀ : Heap} {m : Str → Option Value} {ox : Obj} {od : Option Obj} {op : Operator} {b : Value} {T : String} {fo ro : Option Value} {Q : Value → Shared → Prop} (F : Fr h₀ L s.heap m) (X₀ : K.In h₀) (I : InstAt s.heap x ox C od) (hb : Looks (model prog w) s.heap (typeOf b) (.type T)) (hc : selfFirst K C = true)
    (hs : findIn K (.ref C) (PySem.dunder op.info.2) = some (some (.ref f))) (hf : isFn K (.ref f) = true) (h1 : findIn K (.type T) (PySem.dunder op.info.2) = some fo) (h2 : findIn K (.type T) (dunderR op.info.2) = some ro) (hr : ((fo.isSome && !isSeqSlot fo) || (ro.isSome && !isSeqSlot ro)) = false)
    (h : wpAny (model prog w) A (call (.ref f) [.ref x, b]) (PySem.W.CmpBack Q) E s) : wpAny (model prog w) A (binaryOp op (.ref x) b) Q E s := by
  have X := X₀.keeps F.keep
  obtain ⟨cd, rest, hcd, hm⟩ := ksp_first hc
  have hne : (Value.ref C == Value.type T) = false := Bool.eq_false_iff.mpr fun q => by cases beq_iff_eq.mp q
  have right := ksp_fillsT (M := model prog w) X h1 h2
  rw [hr] at right
  unfold binaryOp binaryOp1
  refine wpAny_holding (wpAny_bind (wpAny_bind (I.type.here (wpAny_bind (hb.here (wpAny_bind ((fills_K X hcd hm hs).here ?_)))))))
  simp only [hne, Bool.false_eq_true, if_false]
  refine wpAny_bind (right.here ?_)
  simp only [Bool.and_false, Bool.false_eq_true, if_false, Bool.false_and]
  refine wpAny_bind (wpAny_pure ?_)
  simp only [Bool.false_eq_true, if_false, if_true]
  refine wpAny_bind (wpAny_mono (ksp_try X I hs hf h) (fun r s' z => ?_) fun _ _ e => e)
  obtain ⟨v, rfl, hq⟩ := z
  exact wpAny_pure (wpAny_pure hq)
end
theorem say34 : True := by
  k_with "j.execs cons" => (((try k_gentoks); with_reducible refine execs_one ?_; (try dsimp only)))
  k_with "j.bl" => ((k_here; (with_reducible show wpAny _ _ (binaryOp _ (Value.ref _) (Value.ref _)) _ _ _); k_dflt (refine' bin_list (T := "list") ?F_z146 ?X_z146 ?I_z146 ?hb_z146 ?hc_z146 ?hs_z146 ?hf_z146 ?h1_z146 ?h2_z146 ?hr_z146 ?_; (case F_z146 => k_asm); (case X_z146 => k_asm); (case I_z146 => k_inst); (case hb_z146 => exact looks_list (News.get (by k_asm) (by k_mem))); (case hc_z146 => k_is); (case hs_z146 => k_is); (case hf_z146 => k_is); (case h1_z146 => k_is); (case h2_z146 => k_is); (case hr_z146 => exact rfl); k_whole)))
  k_with "j.binaryOp BitXor" => ((k_here; (with_reducible show wpAny _ _ (binaryOp _ (Value.ref _) (Value.ref _)) _ _ _); k_dflt (refine' binop_K ?k1_z147 ?k2_z147 ?k3_z147 ?k4_z147 ?k5_z147 ?k6_z147 ?k7_z147 ?_; (case k1_z147 => k_asm); (case k2_z147 => k_asm); (case k3_z147 => k_inst); (case k4_z147 => k_typeOf); (case k5_z147 => k_is); (case k6_z147 => k_is); (case k7_z147 => k_is); k_whole)))
  k_with "j.binaryOp Add" => (k_extra "j.bl")
  k_with "j.binaryOp Sub" => (k_extra "j.bl")
  k_with "j.binaryOp BitOr" => (k_extra "j.bl")
  k_with "j.binaryOp BitAnd" => (k_extra "j.bl")
  k_with "j.binaryOp BitXor" => (k_extra "j.bl")
  trivial

theorem say35 : True := by
  k_with "j.steps.JNew" => (repeat' (first | ((fail_if_success (first | (with_reducible show wpAny _ _ (execs [Stmt.If _ _ _ _] _) _ _ _) | (k_extra "j.stop"))); first | (k_unfold; (try dsimp only)) | (k_end; wrow_close) | walk1 | (dsimp only; walk1) | (leave1; walk_say "STEP leave1"; try dsimp only)) | fail "no step"))
  k_with "j.upto.JNew" => (repeat' (first | ((fail_if_success (first | (first | (with_reducible show wpAny _ _ (execs [Stmt.If _ _ _ _] _) _ _ _) | (k_extra "j.stop")) | with_reducible show wpAny _ _ (execs (Stmt.If _ _ _ _ :: _) _) _ _ _)); first | (k_unfold; (try dsimp only)) | (k_end; wrow_close) | walk1 | (dsimp only; walk1) | (leave1; walk_say "STEP leave1"; try dsimp only)) | fail "no step"))
  trivial
section
variable {prog : Program} {w : World} {x dx t y dy u : Nat} {n n' : Nat} {hx hy : Int} {tkx tky : Tok} {o p : Obj} {ks qs : List PK} {ro : List (Addr × Obj)} {way which : Int} {tw th : Tok} {a c : Nat} {its : Array Value}
theorem joined_new_c (hw : (way = 0 ∧ which = 0) ∨ (way = 0 ∧ which = 1) ∨ (way = 0 ∧ which = 2) ∨ (way = 0 ∧ which = 3) ∨ (way = 2 ∧ which = 0) ∨ (way = 2 ∧ which = 1) ∨ (way = 2 ∧ which = 2) ∨ (way = 2 ∧ which = 3) ∨ (way = 4 ∧ which = 0)) (lo : (t == sysModules) = false) (lo2 : (u == sysModules) = false) (ho : IsD prog w o ks) (hp : IsD prog w p qs) (mx : (x, instObj 270 dx) ∈ ro) (md : (dx, dictOf [⟨hx, .str "table" tkx, .ref t⟩] n) ∈ ro) (mt : (t, o) ∈ ro) (my : (y, instObj 270 dy) ∈ ro) (me : (dy, dictOf [⟨hy, .str "table" tky, .ref u⟩] n') ∈ ro) (mu : (u, p) ∈ ro) :
    Ctr prog w 17 314 [.int way tw, .int which th, .ref x, .ref y] ro (Makes prog w (joined which ks qs) ro) := by
  intro A₀ A s base h₀ outer L m env R C N h
  k_extra "j.enter"
  k_extra "j.steps.JNew"
  rcases hw with ⟨ha, hb⟩ | ⟨ha, hb⟩ | ⟨ha, hb⟩ | ⟨ha, hb⟩ | ⟨ha, hb⟩ | ⟨ha, hb⟩ | ⟨ha, hb⟩ | ⟨ha, hb⟩ | ⟨ha, hb⟩
  all_goals
    (k_dflt ((refine' arm_ok 20 (holds_cons' (x := "way") ?d1 ?l1 ?m1 ha (holds_cons' (x := "which") ?d2 ?l2 ?m2 hb (holds_nil ?k))) ?F ?_; (case F => k_asm); (case k => exact rfl); (case d1 => decide); (case d2 => decide); (case l1 => exact rfl); (case l2 => exact rfl); (case m1 => exact @Eq.refl (Option Value) (some _)); (case m2 => exact @Eq.refl (Option Value) (some _))); intro tk'; (conv in (arm _ _ _) => whnf)))
    k_extra "j.steps.JNew"
    refine' fin_make (by assumption) ?N ?F ?K ?f ?lo ?D ?xd ?xt ?lt
    case N => assumption
    case F => assumption
    case K => assumption
    case f => assumption
    case lo => assumption
    case D => rw [hb]; with_unfolding_all assumption
    case xd => omega
    case xt => omega
    case lt => first | assumption | exact allLt_of_and (by assumption)
end
theorem say36 : True := by
  k_with "j.call ref" => ((k_here; (with_reducible show wpAny _ _ (call (Value.ref 314) _) _ _ _); refine wpAny_call ?_; k_dflt (refine' Ctr.make (joined_new_c ?hw_z155 ?lo_z155 ?lo2_z155 ?ho_z155 ?hp_z155 ?mx_z155 ?md_z155 ?mt_z155 ?my_z155 ?me_z155 ?mu_z155) ?C_z155 ?N_z155 ?_; (case C_z155 => k_extra "j.cx"); (case N_z155 => k_asm); (case hw_z155 => assumption); (case mx_z155 => k_mem); (case md_z155 => k_mem); (case mt_z155 => k_mem); (case my_z155 => k_mem); (case me_z155 => k_mem); (case mu_z155 => k_mem); (case lo_z155 => assumption); (case lo2_z155 => assumption); (case ho_z155 => assumption); (case hp_z155 => assumption)); k_extra "j.mkpost"))
  trivial

theorem say37 : True := by
  k_with "j.steps.JUp" => (repeat' (first | ((fail_if_success (first | (with_reducible show wpAny _ _ (execs [Stmt.If _ _ _ _] _) _ _ _) | (k_extra "j.stop"))); first | (k_unfold; (try dsimp only)) | (k_end; wrow_close) | walk1 | (dsimp only; walk1) | (leave1; walk_say "STEP leave1"; try dsimp only)) | fail "no step"))
  k_with "j.upto.JUp" => (repeat' (first | ((fail_if_success (first | (first | (with_reducible show wpAny _ _ (execs [Stmt.If _ _ _ _] _) _ _ _) | (k_extra "j.stop")) | with_reducible show wpAny _ _ (execs (Stmt.If _ _ _ _ :: _) _) _ _ _)); first | (k_unfold; (try dsimp only)) | (k_end; wrow_close) | walk1 | (dsimp only; walk1) | (leave1; walk_say "STEP leave1"; try dsimp only)) | fail "no step"))
  trivial
section
variable {prog : Program} {w : World} {x dx t y dy u : Nat} {n n' : Nat} {hx hy : Int} {tkx tky : Tok} {o p : Obj} {ks qs : List PK} {ro : List (Addr × Obj)} {way which : Int} {tw th : Tok} {a c : Nat} {its : Array Value}
theorem joined_up_c (hw : (way = 1 ∧ which = 0) ∨ (way = 1 ∧ which = 1) ∨ (way = 1 ∧ which = 2) ∨ (way = 1 ∧ which = 3) ∨ (way = 3 ∧ which = 0) ∨ (way = 3 ∧ which = 1) ∨ (way = 3 ∧ which = 2) ∨ (way = 3 ∧ which = 3) ∨ (way = 5 ∧ which = 0)) (lo : (t == sysModules) = false) (lo2 : (u == sysModules) = false) (ho : IsD prog w o ks) (hp : IsD prog w p qs) (xt : x ≠ t) (dt : dx ≠ t) (yt : y ≠ t) (et : dy ≠ t) (ut : u ≠ t) (xy : x ≠ y) :
    Ctr prog w 16 314 [.int way tw, .int which th, .ref x, .ref y] [(t, o), (x, instObj 270 dx), (dx, dictOf [⟨hx, .str "table" tkx, .ref t⟩] n), (y, instObj 270 dy), (dy, dictOf [⟨hy, .str "table" tky, .ref u⟩] n'), (u, p)]
      (fun r ft => ∃ o', (r = .ref x ∧ IsD prog w o' (joined which ks qs)) ∧ ft = [(t, o'), (x, instObj 270 dx), (dx, dictOf [⟨hx, .str "table" tkx, .ref t⟩] n), (y, instObj 270 dy), (dy, dictOf [⟨hy, .str "table" tky, .ref u⟩] n'), (u, p)]) := by
  intro A₀ A s base h₀ outer L m env R C N h
  k_extra "j.enter"
  k_extra "j.steps.JUp"
  rcases hw with ⟨ha, hb⟩ | ⟨ha, hb⟩ | ⟨ha, hb⟩ | ⟨ha, hb⟩ | ⟨ha, hb⟩ | ⟨ha, hb⟩ | ⟨ha, hb⟩ | ⟨ha, hb⟩ | ⟨ha, hb⟩
  all_goals
    (k_dflt ((refine' arm_ok 20 (holds_cons' (x := "way") ?d1 ?l1 ?m1 ha (holds_cons' (x := "which") ?d2 ?l2 ?m2 hb (holds_nil ?k))) ?F ?_; (case F => k_asm); (case k => exact rfl); (case d1 => decide); (case d2 => decide); (case l1 => exact rfl); (case l2 => exact rfl); (case m1 => exact @Eq.refl (Option Value) (some _)); (case m2 => exact @Eq.refl (Option Value) (some _))); intro tk'; (conv in (arm _ _ _) => whnf)))
    k_extra "j.steps.JUp"
    exact h _ _ _ _ ⟨_, ⟨rfl, by rw [hb]; with_unfolding_all assumption⟩, rfl⟩ (by assumption) (by assumption) (by assumption) (by assumption)
end
theorem say38 : True := by
  k_with "j.call ref" => ((k_here; (with_reducible show wpAny _ _ (call (Value.ref 314) _) _ _ _); refine wpAny_call ?_; k_dflt (refine' Ctr.turn (joined_up_c ?hw_z158 ?lo_z158 ?lo2_z158 ?ho_z158 ?hp_z158 ?xt_z158 ?dt_z158 ?yt_z158 ?et_z158 ?ut_z158 ?xy_z158) ?C_z158 ?N_z158 ?sub_z158 ?U_z158 ?_; (case C_z158 => k_extra "j.cx"); (case N_z158 => k_asm); (case hw_z158 => assumption); (case sub_z158 => k_extra "j.sub"); (case U_z158 => k_updF); (case lo_z158 => assumption); (case lo2_z158 => assumption); (case ho_z158 => assumption); (case hp_z158 => assumption); (case xt_z158 => k_extra "j.ne"); (case dt_z158 => k_extra "j.ne"); (case yt_z158 => k_extra "j.ne"); (case et_z158 => k_extra "j.ne"); (case ut_z158 => k_extra "j.ne"); (case xy_z158 => k_extra "j.ne")); intro h'w tk'w v'w o'w P'w F'w N'w; obtain ⟨e'w, D'w⟩ := P'w; subst e'w; (try dsimp only at N'w); (try k_sweep)))
  trivial

theorem say39 : True := by
  k_with "j.steps.JSame" => (repeat' (first | ((fail_if_success (first | (with_reducible show wpAny _ _ (execs [Stmt.If _ _ _ _] _) _ _ _) | (k_extra "j.stop"))); first | (k_unfold; (try dsimp only)) | (k_end; wrow_close) | walk1 | (dsimp only; walk1) | (leave1; walk_say "STEP leave1"; try dsimp only)) | fail "no step"))
  k_with "j.upto.JSame" => (repeat' (first | ((fail_if_success (first | (first | (with_reducible show wpAny _ _ (execs [Stmt.If _ _ _ _] _) _ _ _) | (k_extra "j.stop")) | with_reducible show wpAny _ _ (execs (Stmt.If _ _ _ _ :: _) _) _ _ _)); first | (k_unfold; (try dsimp only)) | (k_end; wrow_close) | walk1 | (dsimp only; walk1) | (leave1; walk_say "STEP leave1"; try dsimp only)) | fail "no step"))
  trivial
section
variable {prog : Program} {w : World} {x dx t y dy u : Nat} {n n' : Nat} {hx hy : Int} {tkx tky : Tok} {o p : Obj} {ks qs : List PK} {ro : List (Addr × Obj)} {way which : Int} {tw th : Tok} {a c : Nat} {its : Array Value}
theorem joined_self0 {which : Int} (ks : List PK) : joined which ks ks = if which = 0 then ks else if which = 1 then ks else [] := by
  have d : dif ks ks = [] := List.filter_eq_nil_iff.mpr fun k hk => by simp [hk]
  have i : itr ks ks = ks := List.filter_eq_self.mpr fun k hk => by simp [hk]
  unfold joined
  rw [d, i]
  split <;> (try simp) <;> split <;> simp
theorem joined_same_c (hw : (way = 1 ∧ which = 0) ∨ (way = 1 ∧ which = 1) ∨ (way = 1 ∧ which = 2) ∨ (way = 1 ∧ which = 3) ∨ (way = 3 ∧ which = 0) ∨ (way = 3 ∧ which = 1) ∨ (way = 3 ∧ which = 2) ∨ (way = 3 ∧ which = 3) ∨ (way = 5 ∧ which = 0)) (lo : (t == sysModules) = false) (ho : IsD prog w o ks) (xt : x ≠ t) (dt : dx ≠ t) :
    Ctr prog w 16 314 [.int way tw, .int which th, .ref x, .ref x] [(t, o), (x, instObj 270 dx), (dx, dictOf [⟨hx, .str "table" tkx, .ref t⟩] n)]
      (fun r ft => ∃ o', (r = .ref x ∧ IsD prog w o' (joined which ks ks)) ∧ ft = [(t, o'), (x, instObj 270 dx), (dx, dictOf [⟨hx, .str "table" tkx, .ref t⟩] n)]) := by
  intro A₀ A s base h₀ outer L m env R C N h
  rw [joined_self0] at h
  k_extra "j.enter"
  k_extra "j.steps.JSame"
  rcases hw with ⟨ha, hb⟩ | ⟨ha, hb⟩ | ⟨ha, hb⟩ | ⟨ha, hb⟩ | ⟨ha, hb⟩ | ⟨ha, hb⟩ | ⟨ha, hb⟩ | ⟨ha, hb⟩ | ⟨ha, hb⟩
  all_goals
    (k_dflt ((refine' arm_ok 20 (holds_cons' (x := "way") ?d1 ?l1 ?m1 ha (holds_cons' (x := "which") ?d2 ?l2 ?m2 hb (holds_nil ?k))) ?F ?_; (case F => k_asm); (case k => exact rfl); (case d1 => decide); (case d2 => decide); (case l1 => exact rfl); (case l2 => exact rfl); (case m1 => exact @Eq.refl (Option Value) (some _)); (case m2 => exact @Eq.refl (Option Value) (some _))); intro tk'; (conv in (arm _ _ _) => whnf)))
    k_extra "j.steps.JSame"
    exact h _ _ _ _ ⟨_, ⟨rfl, by rw [hb]; with_unfolding_all assumption⟩, rfl⟩ (by assumption) (by assumption) (by assumption) (by assumption)
end
theorem say40 : True := by
  k_with "j.call ref" => ((k_here; (with_reducible show wpAny _ _ (call (Value.ref 314) _) _ _ _); refine wpAny_call ?_; k_dflt (refine' Ctr.turn (joined_same_c ?hw_z161 ?lo_z161 ?ho_z161 ?xt_z161 ?dt_z161) ?C_z161 ?N_z161 ?sub_z161 ?U_z161 ?_; (case C_z161 => k_extra "j.cx"); (case N_z161 => k_asm); (case hw_z161 => assumption); (case sub_z161 => k_extra "j.sub"); (case U_z161 => k_updF); (case lo_z161 => assumption); (case ho_z161 => assumption); (case xt_z161 => k_extra "j.ne"); (case dt_z161 => k_extra "j.ne")); intro h'w tk'w v'w o'w P'w F'w N'w; obtain ⟨e'w, D'w⟩ := P'w; subst e'w; (try dsimp only at N'w); (try k_sweep)))
  trivial

theorem say41 : True := by
  k_with "j.steps.JJe" => (repeat' (first | ((fail_if_success (first | (with_reducible show wpAny _ _ (execs [Stmt.If _ _ _ _] _) _ _ _) | (k_extra "j.stop"))); first | (k_unfold; (try dsimp only)) | (k_end; wrow_close) | walk1 | (dsimp only; walk1) | (leave1; walk_say "STEP leave1"; try dsimp only)) | fail "no step"))
  k_with "j.upto.JJe" => (repeat' (first | ((fail_if_success (first | (first | (with_reducible show wpAny _ _ (execs [Stmt.If _ _ _ _] _) _ _ _) | (k_extra "j.stop")) | with_reducible show wpAny _ _ (execs (Stmt.If _ _ _ _ :: _) _) _ _ _)); first | (k_unfold; (try dsimp only)) | (k_end; wrow_close) | walk1 | (dsimp only; walk1) | (leave1; walk_say "STEP leave1"; try dsimp only)) | fail "no step"))
  trivial
section
variable {prog : Program} {w : World} {x dx t y dy u : Nat} {n n' : Nat} {hx hy : Int} {tkx tky : Tok} {o p : Obj} {ks qs : List PK} {ro : List (Addr × Obj)} {way which : Int} {tw th : Tok} {a c : Nat} {its : Array Value}
theorem joined_e (hw : (way = 0 ∧ which = 0) ∨ (way = 0 ∧ which = 1) ∨ (way = 0 ∧ which = 2) ∨ (way = 0 ∧ which = 3) ∨ (way = 1 ∧ which = 0) ∨ (way = 1 ∧ which = 1) ∨ (way = 1 ∧ which = 2) ∨ (way = 1 ∧ which = 3) ∨ (way = 2 ∧ which = 0) ∨ (way = 2 ∧ which = 1) ∨ (way = 2 ∧ which = 2) ∨ (way = 2 ∧ which = 3) ∨ (way = 3 ∧ which = 0) ∨ (way = 3 ∧ which = 1) ∨ (way = 3 ∧ which = 2) ∨ (way = 3 ∧ which = 3) ∨ (way = 4 ∧ which = 0) ∨ (way = 4 ∧ which = 1) ∨ (way = 4 ∧ which = 2) ∨ (way = 4 ∧ which = 3) ∨ (way = 5 ∧ which = 0) ∨ (way = 5 ∧ which = 1) ∨ (way = 5 ∧ which = 2) ∨ (way = 5 ∧ which = 3)) (ma : (a, listOf its c) ∈ ro) (lo : (t == sysModules) = false) (ho : IsD prog w o ks) (mx : (x, instObj 270 dx) ∈ ro) (md : (dx, dictOf [⟨hx, .str "table" tkx, .ref t⟩] n) ∈ ro) (mt : (t, o) ∈ ro) :
    CtrT prog w 16 314 [.int way tw, .int which th, .ref x, .ref a] ro (fun r ft => r = .none ∧ ft = ro) := by
  intro A₀ A s base h₀ g₀ outer L m cn cs ca ccd R C N T0 h
  k_extra "j.enterT"
  k_extra "j.steps.JJe"
  rcases hw with ⟨ha, hb⟩ | ⟨ha, hb⟩ | ⟨ha, hb⟩ | ⟨ha, hb⟩ | ⟨ha, hb⟩ | ⟨ha, hb⟩ | ⟨ha, hb⟩ | ⟨ha, hb⟩ | ⟨ha, hb⟩ | ⟨ha, hb⟩ | ⟨ha, hb⟩ | ⟨ha, hb⟩ | ⟨ha, hb⟩ | ⟨ha, hb⟩ | ⟨ha, hb⟩ | ⟨ha, hb⟩ | ⟨ha, hb⟩ | ⟨ha, hb⟩ | ⟨ha, hb⟩ | ⟨ha, hb⟩ | ⟨ha, hb⟩ | ⟨ha, hb⟩ | ⟨ha, hb⟩ | ⟨ha, hb⟩
  all_goals
    (k_dflt ((refine' arm_ok 20 (holds_cons' (x := "way") ?d1 ?l1 ?m1 ha (holds_cons' (x := "which") ?d2 ?l2 ?m2 hb (holds_nil ?k))) ?F ?_; (case F => k_asm); (case k => exact rfl); (case d1 => decide); (case d2 => decide); (case l1 => exact rfl); (case l2 => exact rfl); (case m1 => exact @Eq.refl (Option Value) (some _)); (case m2 => exact @Eq.refl (Option Value) (some _))); intro tk'; (conv in (arm _ _ _) => whnf)))
    k_extra "j.steps.JJe"
    k_extra "j.readT"
    rfl
end
theorem say42 : True := by
  k_with "j.call ref" => ((k_here; (with_reducible show wpAny _ _ (call (Value.ref 314) _) _ _ _); refine wpAny_call ?_; k_dflt (refine' CtrT.read (joined_e ?hw_z164 ?ma_z164 ?lo_z164 ?ho_z164 ?mx_z164 ?md_z164 ?mt_z164) ?C_z164 ?N_z164 ?T0_z164 ?sub_z164 ?_; (case C_z164 => k_extra "j.cx"); (case N_z164 => k_asm); (case hw_z164 => assumption); (case T0_z164 => first | assumption | exact KtsTurn.refl); (case sub_z164 => exact fun _ hp => hp); (case ma_z164 => k_mem); (case mx_z164 => k_mem); (case md_z164 => k_mem); (case mt_z164 => k_mem); (case lo_z164 => assumption); (case ho_z164 => assumption)); k_extra "j.rpost"))
  trivial

section
local macro_rules | `(tactic| walk_at "j.pad") => `(tactic| skip)
theorem padA3 : Pad := by first | walk1 | exact trivial
local macro_rules | `(tactic| walk_at "j.pad") => `(tactic| skip)
theorem padB3 : Pad := by first | walk1 | exact trivial
end
section
local macro_rules | `(tactic| walk_at "delItem ref") => `(tactic| k_extra "j.delItem ref.JSingle")
local macro_rules | `(tactic| walk_at "call ref") => `(tactic| k_extra "j.call ref.JSingle")
local macro_rules | `(tactic| walk_at "execs cons") => `(tactic| k_extra "j.execs cons.JSingle")
/-- a call that turns one table and tells a tuple of two -/
def TurnT (prog : Program) (w : World) (ks : List PK) (a b : PK) (t : Nat) (ro : List (Addr × Obj)) (v : Value) (ft : List (Addr × Obj)) : Prop :=
  ∃ (o' : Obj) (T : Nat) (q : Obj), IsD prog w o' ks ∧ v = .ref T ∧ Tup q a b ∧ AllNA T ((t, o') :: ro) ∧ ft = (T, q) :: (t, o') :: ro
section
variable {prog : Program} {w : World} {l : Nat} {A₀ A : Around} {s : Shared} {base h₀ : Heap} {outer : List Env} {L : Addr} {m : Str → Option Value} {env : Env} {news ro : List (Addr × Obj)}
  {R : Result → Shared → Prop} {f : Addr} {args : List Value} {t : Nat} {o : Obj} {ks : List PK} {a b : PK}
theorem allNA_mem {d : Nat} {l : List (Addr × Obj)} (h : AllNA d l) : d ∉ l.map (·.1) := fun hm => by
  obtain ⟨p, hp, e⟩ := List.mem_map.mp hm
  exact allNA_ne h p hp e
theorem Ctr.turnT {g : Obj → List (Addr × Obj)} (c : Ctr prog w l f args ((t, o) :: ro) (TurnT prog w ks a b t ro)) (C : Cx w l A₀ A base outer h₀ L m env s.heap) (N : News h₀ L s.heap news) (hsub : ∀ p ∈ ro, p ∈ news) (U : UpdF t o news g)
    (h : ∀ h' tk' o' (T : Nat) q, IsD prog w o' ks → Tup q a b → AllNA T (g o') → Fr h₀ L h' m → News h₀ L h' ((T, q) :: g o') → R (.ok (.ret (.ref T))) { s with heap := h', toks := tk' }) :
    codeAny (model prog w) A (.call (.ref f) ⟨args, []⟩) R s := by
  obtain ⟨pre, pos, e, hg, a1, b1⟩ := U.split
  have hm : (t, o) ∈ news := by rw [e]; simp
  have hsub' : ∀ p ∈ (t, o) :: ro, p ∈ news := fun p hp => by
    rcases List.mem_cons.mp hp with rfl | q
    · exact hm
    · exact hsub p q
  refine c.use C N hsub' fun h' tk' v ft hp F' nw K fr => ?_
  obtain ⟨o', T, q, hd, rfl, hq, na, rfl⟩ := hp
  have hadr : ∀ p ∈ g o', ∃ p' ∈ news, p'.1 = p.1 := fun p hp => by
    have : p.1 ∈ news.map (·.1) := by rw [← updF_adr U o']; exact List.mem_map_of_mem hp
    exact List.mem_map.mp this
  have hT : s.heap.get? T = none := fr (T, q) (.head _) (by have := allNA_mem na; simpa using this)
  refine h h' tk' o' T q hd hq (allNA_of fun p hp z => ?_) F' (nw _ fun p hp => ?_)
  · obtain ⟨p', hp', e'⟩ := hadr p hp
    have := (N p' hp').1
    rw [e', z, hT] at this; cases this
  · rcases List.mem_cons.mp hp with rfl | hp
    · exact .inl (.head _)
    rw [hg] at hp
    have old : p ∈ news → p.1 ≠ t → p ∈ (T, q) :: (t, o') :: ro ∨ (p ∈ news ∧ p.1 ∉ ((t, o) :: ro).map (·.1)) := fun hpn hne => by
      by_cases hr : p.1 ∈ ((t, o) :: ro).map (·.1)
      · obtain ⟨z, hz, eq⟩ := List.mem_map.mp hr
        rcases List.mem_cons.mp hz with rfl | hz
        · exact absurd eq.symm hne
        · have := news_fun N (hsub z hz) hpn eq
          exact .inl (.tail _ (.tail _ (this ▸ hz)))
      · exact .inr ⟨hpn, hr⟩
    rcases List.mem_append.mp hp with z | z
    · exact old (by rw [e]; simp [z]) (a1 p z)
    · rcases List.mem_cons.mp z with rfl | z
      · exact .inl (.tail _ (.head _))
      · exact old (by rw [e]; simp [z]) (b1 p z)
theorem fin_turnT {hs h' : Heap} {as : List Addr} {tk' T : Nat} {q o' : Obj} (h : ∀ h' tk' v foot', TurnT prog w ks a b t ro v foot' → Fr h₀ L h' m → News h₀ L h' foot' → Keeps hs h' as → (∀ p ∈ foot', p.1 ∉ as → hs.get? p.1 = none) → R (.ok (.ret v)) { s with heap := h', toks := tk' })
    (F : Fr h₀ L h' m) (N : News h₀ L h' ((T, q) :: (t, o') :: ro)) (K : Keeps hs h' as) (fr : ∀ p ∈ (T, q) :: (t, o') :: ro, p.1 ∉ as → hs.get? p.1 = none) (D : IsD prog w o' ks) (Q : Tup q a b) (na : AllNA T ((t, o') :: ro)) :
    R (.ok (.ret (.ref T))) { s with heap := h', toks := tk' } := h h' tk' _ _ ⟨o', T, q, D, rfl, Q, na, rfl⟩ F N K fr
end
section
variable {M : Model} {A : Around} {E : Value → Shared → Prop} {s : Shared} {K : Frag} {x C L f : Addr} {h₀ : Heap} {m : Str → Option Value} {ox : Obj} {od : Option Obj} {i : Value}
/-- del of a place of an own object -/
theorem own_delItem {Q : Unit → Shared → Prop} (F : Fr h₀ L s.heap m) (X₀ : K.In h₀) (I : InstAt s.heap x ox C od) (hq : noSeq K C = true) (hs : findIn K (.ref C) "__delitem__" = some (some (.ref f))) (hf : isFn K (.ref f) = true)
    (h : wpAny M A (call (.ref f) [.ref x, i]) (fun _ s' => Q () s') E s) : wpAny M A (delItem (.ref x) i) Q E s := by
  unfold delItem
  refine wpAny_holding (wpAny_bind ?_)
  unfold sequenceKey
  refine wpAny_bind (I.type.here (wpAny_bind ((anyM_none (X₀.keeps F.keep) hq).here ?_)))
  simp only [Bool.not_false, if_true]
  exact wpAny_pure (wpAny_bind (special_fn (X₀.keeps F.keep) I hs (beq_iff_eq.mp hf) (wpAny_mono h (fun _ _ z => wpAny_pure z) fun _ _ z => z)))
end
theorem say43 : True := by
  k_with "j.delItem ref.JSingle" => ((k_here; (with_reducible show wpAny _ _ (delItem (Value.ref _) _) _ _ _); k_dflt (refine' own_delItem ?F_z165 ?X_z165 ?I_z165 ?hQ_z165 ?hS_z165 ?hF_z165 ?_; (case F_z165 => k_asm); (case X_z165 => k_asm); (case I_z165 => k_inst); (case hS_z165 => k_is); (case hF_z165 => k_is); (case hQ_z165 => k_is); k_whole)))
  k_with "j.call ref.JSingle" => ((k_here; (with_reducible show wpAny _ _ (call (Value.ref 57) _) _ _ _); refine wpAny_call ?_; k_dflt (refine' Ctr.turn (pop_c ?lo_z166 ?ho_z166 ?xt_z166 ?dt_z166 ?hk_z166 ?hne_z166 ?hlen_z166) ?C_z166 ?N_z166 ?sub_z166 ?U_z166 ?_; (case C_z166 => k_extra "j.cx"); (case N_z166 => k_asm); (case sub_z166 => k_extra "j.sub"); (case U_z166 => k_updF); (case lo_z166 => assumption); (case ho_z166 => assumption); (case hk_z166 => assumption); (case hne_z166 => assumption); (case hlen_z166 => first | assumption | omega); (case xt_z166 => k_extra "j.ne"); (case dt_z166 => k_extra "j.ne")); intro h'w tk'w v'w o'w P'w F'w N'w; obtain ⟨V'w, D'w⟩ := P'w; (try dsimp only at N'w); (try k_sweep)))
  k_with "j.call ref.JSingle" => ((k_here; (with_reducible show wpAny _ _ (call (Value.ref 43) _) _ _ _); refine wpAny_call ?_; k_dflt (refine' Ctr.turn (remove_c ?lo_z167 ?ho_z167 ?xt_z167 ?dt_z167 ?hv_z167 ?hk_z167) ?C_z167 ?N_z167 ?sub_z167 ?U_z167 ?_; (case C_z167 => k_extra "j.cx"); (case N_z167 => k_asm); (case sub_z167 => k_extra "j.sub"); (case U_z167 => k_updF); (case lo_z167 => assumption); (case ho_z167 => assumption); (case hv_z167 => assumption); (case hk_z167 => assumption); (case xt_z167 => k_extra "j.ne"); (case dt_z167 => k_extra "j.ne")); intro h'w tk'w v'w o'w P'w F'w N'w; obtain ⟨e'w, D'w⟩ := P'w; subst e'w; (try dsimp only at N'w); (try k_sweep)))
  k_with "j.call ref.JSingle" => ((k_here; (with_reducible show wpAny _ _ (call (Value.ref 246) _) _ _ _); refine wpAny_call ?_; k_dflt (refine' Ctr.turn (delitem_c ?lo_z168 ?ho_z168 ?xt_z168 ?dt_z168 ?hi_z168 ?hk_z168) ?C_z168 ?N_z168 ?sub_z168 ?U_z168 ?_; (case C_z168 => k_extra "j.cx"); (case N_z168 => k_asm); (case sub_z168 => k_extra "j.sub"); (case U_z168 => k_updF); (case lo_z168 => assumption); (case ho_z168 => assumption); (case hi_z168 => assumption); (case hk_z168 => assumption); (case xt_z168 => k_extra "j.ne"); (case dt_z168 => k_extra "j.ne")); intro h'w tk'w v'w o'w P'w F'w N'w; obtain ⟨e'w, D'w⟩ := P'w; subst e'w; (try dsimp only at N'w); (try k_sweep)))
  k_with "j.execs cons.JSingle" => ((k_here; (with_reducible show wpAny _ _ (execs [Stmt.If _ _ _ _] _) _ _ _); k_dflt ((refine' arm_ok 20 (holds_cons (x := "kind") ?d1_z169 ?l1_z169 ?m1_z169 (holds_nil ?k_z169)) ?F_z169 ?_; (case F_z169 => k_asm); (case k_z169 => exact rfl); (case d1_z169 => decide); (case l1_z169 => exact rfl); (case m1_z169 => exact rfl)); intro tk'w; (conv in (arm _ _ _) => whnf))))
  k_with "j.endTT.JSingle" => ((refine' fin_turnT (by assumption) ?F_z170 ?N_z170 ?K_z170 ?f_z170 ?D_z170 ?Q_z170 ?na_z170; (case F_z170 => assumption); (case N_z170 => assumption); (case K_z170 => assumption); (case f_z170 => assumption); (case D_z170 => assumption); (case Q_z170 => k_extra "j.isT"); (case na_z170 => first | exact allNA_lt (by k_extra "j.lt") | (simp only [AllNA, NeA, and_true]; omega))))
  trivial
section
variable {prog : Program} {w : World} {x dx t : Nat} {n : Nat} {hx : Int} {tkx tk tp : Tok} {o : Obj} {ks : List PK} {ro : List (Addr × Obj)} {k : PK} {v : Value} {i : Int}
theorem single_add (hv : IsV k v) (lo : (t == sysModules) = false) (ho : IsD prog w o ks) (xt : x ≠ t) (dt : dx ≠ t) :
    Ctr prog w 8 335 [.int 0 tk, .ref x, v, .int i tp] [(t, o), (x, instObj 270 dx), (dx, dictOf [⟨hx, .str "table" tkx, .ref t⟩] n)] (TurnT prog w (ins ks k) (.str "told") (.int 0) t [(x, instObj 270 dx), (dx, dictOf [⟨hx, .str "table" tkx, .ref t⟩] n)]) := by
  intro A₀ A s base h₀ outer L m env R C N h
  k_extra "j.enter"
  k_extra "j.steps"
  k_extra "j.endTT.JSingle"
theorem single_rem (hv : IsV k v) (hk : k ∈ ks) (lo : (t == sysModules) = false) (ho : IsD prog w o ks) (xt : x ≠ t) (dt : dx ≠ t) :
    Ctr prog w 8 335 [.int 1 tk, .ref x, v, .int i tp] [(t, o), (x, instObj 270 dx), (dx, dictOf [⟨hx, .str "table" tkx, .ref t⟩] n)] (TurnT prog w (del ks k) (.str "told") (.int 0) t [(x, instObj 270 dx), (dx, dictOf [⟨hx, .str "table" tkx, .ref t⟩] n)]) := by
  intro A₀ A s base h₀ outer L m env R C N h
  k_extra "j.enter"
  k_extra "j.steps"
  k_extra "j.endTT.JSingle"
theorem single_disc (hv : IsV k v) (lo : (t == sysModules) = false) (ho : IsD prog w o ks) (xt : x ≠ t) (dt : dx ≠ t) :
    Ctr prog w 8 335 [.int 2 tk, .ref x, v, .int i tp] [(t, o), (x, instObj 270 dx), (dx, dictOf [⟨hx, .str "table" tkx, .ref t⟩] n)] (TurnT prog w (del ks k) (.str "told") (.int 0) t [(x, instObj 270 dx), (dx, dictOf [⟨hx, .str "table" tkx, .ref t⟩] n)]) := by
  intro A₀ A s base h₀ outer L m env R C N h
  k_extra "j.enter"
  k_extra "j.steps"
  k_extra "j.endTT.JSingle"
theorem single_pop (hk : ks[(-1 + (ks.length : Int)).toNat]? = some k) (hne : ks ≠ []) (hlen : -(ks.length : Int) ≤ -1) (lo : (t == sysModules) = false) (ho : IsD prog w o ks) (xt : x ≠ t) (dt : dx ≠ t) :
    Ctr prog w 8 335 [.int 3 tk, .ref x, v, .int i tp] [(t, o), (x, instObj 270 dx), (dx, dictOf [⟨hx, .str "table" tkx, .ref t⟩] n)] (TurnT prog w (del ks k) (.str "told") k t [(x, instObj 270 dx), (dx, dictOf [⟨hx, .str "table" tkx, .ref t⟩] n)]) := by
  intro A₀ A s base h₀ outer L m env R C N h
  k_extra "j.enter"
  k_extra "j.steps"
  k_extra "j.endTT.JSingle"
theorem single_del {j : Nat} (hi : i = j ∨ i = (j : Int) - ks.length) (hk : ks[j]? = some k) (lo : (t == sysModules) = false) (ho : IsD prog w o ks) (xt : x ≠ t) (dt : dx ≠ t) :
    Ctr prog w 8 335 [.int 4 tk, .ref x, v, .int i tp] [(t, o), (x, instObj 270 dx), (dx, dictOf [⟨hx, .str "table" tkx, .ref t⟩] n)] (TurnT prog w (del ks k) (.str "told") (.int 0) t [(x, instObj 270 dx), (dx, dictOf [⟨hx, .str "table" tkx, .ref t⟩] n)]) := by
  intro A₀ A s base h₀ outer L m env R C N h
  k_extra "j.enter"
  k_extra "j.steps"
  k_extra "j.endTT.JSingle"
theorem single_rem_e (hv : IsV k v) (hk : k ∉ ks) (lo : (t == sysModules) = false) (ho : IsD prog w o ks) (mx : (x, instObj 270 dx) ∈ ro) (md : (dx, dictOf [⟨hx, .str "table" tkx, .ref t⟩] n) ∈ ro) (mt : (t, o) ∈ ro) :
    CtrT prog w 8 335 [.int 1 tk, .ref x, v, .int i tp] ro (MakesT (.str "raised") (.str "value") ro) := by
  intro A₀ A s base h₀ g₀ outer L m cn cs ca ccd R C N T0 h
  k_extra "j.enterT"
  k_extra "j.steps"
  k_extra "j.endT"
  k_extra "j.tupT"
theorem single_pop_e (hks : ks = []) (lo : (t == sysModules) = false) (ho : IsD prog w o ks) (mx : (x, instObj 270 dx) ∈ ro) (md : (dx, dictOf [⟨hx, .str "table" tkx, .ref t⟩] n) ∈ ro) (mt : (t, o) ∈ ro) :
    CtrT prog w 8 335 [.int 3 tk, .ref x, v, .int i tp] ro (MakesT (.str "raised") (.str "key") ro) := by
  intro A₀ A s base h₀ g₀ outer L m cn cs ca ccd R C N T0 h
  k_extra "j.enterT"
  k_extra "j.steps"
  k_extra "j.endT"
  k_extra "j.tupT"
theorem single_del_e (hi : i < -(ks.length : Int) ∨ (ks.length : Int) ≤ i) (lo : (t == sysModules) = false) (ho : IsD prog w o ks) (mx : (x, instObj 270 dx) ∈ ro) (md : (dx, dictOf [⟨hx, .str "table" tkx, .ref t⟩] n) ∈ ro) (mt : (t, o) ∈ ro) :
    CtrT prog w 8 335 [.int 4 tk, .ref x, v, .int i tp] ro (MakesT (.str "raised") (.str "place") ro) := by
  intro A₀ A s base h₀ g₀ outer L m cn cs ca ccd R C N T0 h
  k_extra "j.enterT"
  k_extra "j.steps"
  k_extra "j.endT"
  k_extra "j.tupT"
end
theorem say44 : True := by
  k_with "j.call ref" => ((k_here; (with_reducible show wpAny _ _ (call (Value.ref 335) (Value.int 0 _ :: _)) _ _ _); refine wpAny_call ?_; k_dflt (refine' Ctr.turnT (single_add ?hv_z171 ?lo_z171 ?ho_z171 ?xt_z171 ?dt_z171) ?C_z171 ?N_z171 ?sub_z171 ?U_z171 ?_; (case C_z171 => k_extra "j.cx"); (case N_z171 => k_asm); (case sub_z171 => k_extra "j.sub"); (case U_z171 => k_updF); (case ho_z171 => assumption); (case hv_z171 => assumption); (case lo_z171 => assumption); (case xt_z171 => k_extra "j.ne"); (case dt_z171 => k_extra "j.ne")); intro h'w tk'w o'w T'w q'w D'w Q'w l1 F'w N'w; (try simp only [AllNA, and_true] at l1); (try dsimp only at N'w); (try k_sweep)))
  k_with "j.call ref" => ((k_here; (with_reducible show wpAny _ _ (call (Value.ref 335) (Value.int 1 _ :: _)) _ _ _); refine wpAny_call ?_; k_dflt (refine' Ctr.turnT (single_rem ?hv_z172 ?hk_z172 ?lo_z172 ?ho_z172 ?xt_z172 ?dt_z172) ?C_z172 ?N_z172 ?sub_z172 ?U_z172 ?_; (case C_z172 => k_extra "j.cx"); (case N_z172 => k_asm); (case sub_z172 => k_extra "j.sub"); (case U_z172 => k_updF); (case ho_z172 => assumption); (case hv_z172 => assumption); (case hk_z172 => assumption); (case lo_z172 => assumption); (case xt_z172 => k_extra "j.ne"); (case dt_z172 => k_extra "j.ne")); intro h'w tk'w o'w T'w q'w D'w Q'w l1 F'w N'w; (try simp only [AllNA, and_true] at l1); (try dsimp only at N'w); (try k_sweep)))
  k_with "j.call ref" => ((k_here; (with_reducible show wpAny _ _ (call (Value.ref 335) (Value.int 2 _ :: _)) _ _ _); refine wpAny_call ?_; k_dflt (refine' Ctr.turnT (single_disc ?hv_z173 ?lo_z173 ?ho_z173 ?xt_z173 ?dt_z173) ?C_z173 ?N_z173 ?sub_z173 ?U_z173 ?_; (case C_z173 => k_extra "j.cx"); (case N_z173 => k_asm); (case sub_z173 => k_extra "j.sub"); (case U_z173 => k_updF); (case ho_z173 => assumption); (case hv_z173 => assumption); (case lo_z173 => assumption); (case xt_z173 => k_extra "j.ne"); (case dt_z173 => k_extra "j.ne")); intro h'w tk'w o'w T'w q'w D'w Q'w l1 F'w N'w; (try simp only [AllNA, and_true] at l1); (try dsimp only at N'w); (try k_sweep)))
  k_with "j.call ref" => ((k_here; (with_reducible show wpAny _ _ (call (Value.ref 335) (Value.int 3 _ :: _)) _ _ _); refine wpAny_call ?_; k_dflt (refine' Ctr.turnT (single_pop ?hk_z174 ?hne_z174 ?hlen_z174 ?lo_z174 ?ho_z174 ?xt_z174 ?dt_z174) ?C_z174 ?N_z174 ?sub_z174 ?U_z174 ?_; (case C_z174 => k_extra "j.cx"); (case N_z174 => k_asm); (case sub_z174 => k_extra "j.sub"); (case U_z174 => k_updF); (case ho_z174 => assumption); (case hk_z174 => assumption); (case hne_z174 => assumption); (case hlen_z174 => first | assumption | omega); (case lo_z174 => assumption); (case xt_z174 => k_extra "j.ne"); (case dt_z174 => k_extra "j.ne")); intro h'w tk'w o'w T'w q'w D'w Q'w l1 F'w N'w; (try simp only [AllNA, and_true] at l1); (try dsimp only at N'w); (try k_sweep)))
  k_with "j.call ref" => ((k_here; (with_reducible show wpAny _ _ (call (Value.ref 335) (Value.int 4 _ :: _)) _ _ _); refine wpAny_call ?_; k_dflt (refine' Ctr.turnT (single_del ?hi_z175 ?hk_z175 ?lo_z175 ?ho_z175 ?xt_z175 ?dt_z175) ?C_z175 ?N_z175 ?sub_z175 ?U_z175 ?_; (case C_z175 => k_extra "j.cx"); (case N_z175 => k_asm); (case sub_z175 => k_extra "j.sub"); (case U_z175 => k_updF); (case ho_z175 => assumption); (case hi_z175 => assumption); (case hk_z175 => assumption); (case lo_z175 => assumption); (case xt_z175 => k_extra "j.ne"); (case dt_z175 => k_extra "j.ne")); intro h'w tk'w o'w T'w q'w D'w Q'w l1 F'w N'w; (try simp only [AllNA, and_true] at l1); (try dsimp only at N'w); (try k_sweep)))
  k_with "j.call ref" => ((k_here; (with_reducible show wpAny _ _ (call (Value.ref 335) (Value.int 1 _ :: _)) _ _ _); refine wpAny_call ?_; k_dflt (refine' CtrT.tup (single_rem_e ?hv_z176 ?hk_z176 ?lo_z176 ?ho_z176 ?mx_z176 ?md_z176 ?mt_z176) ?C_z176 ?N_z176 ?T0_z176 ?_; (case C_z176 => k_extra "j.cx"); (case N_z176 => k_asm); (case T0_z176 => first | assumption | exact KtsTurn.refl); (case mx_z176 => k_mem); (case md_z176 => k_mem); (case mt_z176 => k_mem); (case hv_z176 => assumption); (case hk_z176 => assumption); (case lo_z176 => assumption); (case ho_z176 => assumption)); k_extra "j.tpost"))
  k_with "j.call ref" => ((k_here; (with_reducible show wpAny _ _ (call (Value.ref 335) (Value.int 3 _ :: _)) _ _ _); refine wpAny_call ?_; k_dflt (refine' CtrT.tup (single_pop_e ?hks_z177 ?lo_z177 ?ho_z177 ?mx_z177 ?md_z177 ?mt_z177) ?C_z177 ?N_z177 ?T0_z177 ?_; (case C_z177 => k_extra "j.cx"); (case N_z177 => k_asm); (case T0_z177 => first | assumption | exact KtsTurn.refl); (case mx_z177 => k_mem); (case md_z177 => k_mem); (case mt_z177 => k_mem); (case hks_z177 => assumption); (case lo_z177 => assumption); (case ho_z177 => assumption)); k_extra "j.tpost"))
  k_with "j.call ref" => ((k_here; (with_reducible show wpAny _ _ (call (Value.ref 335) (Value.int 4 _ :: _)) _ _ _); refine wpAny_call ?_; k_dflt (refine' CtrT.tup (single_del_e ?hi_z178 ?lo_z178 ?ho_z178 ?mx_z178 ?md_z178 ?mt_z178) ?C_z178 ?N_z178 ?T0_z178 ?_; (case C_z178 => k_extra "j.cx"); (case N_z178 => k_asm); (case T0_z178 => first | assumption | exact KtsTurn.refl); (case mx_z178 => k_mem); (case md_z178 => k_mem); (case mt_z178 => k_mem); (case lo_z178 => assumption); (case ho_z178 => assumption); (case hi_z178 => first | assumption | omega)); k_extra "j.tpost"))
  trivial

end
section
local macro_rules | `(tactic| walk_at "j.pad") => `(tactic| skip)
theorem padA4 : Pad := by first | walk1 | exact trivial
local macro_rules | `(tactic| walk_at "j.pad") => `(tactic| skip)
theorem padB4 : Pad := by first | walk1 | exact trivial
end
theorem em_of {k : PK} {v : Value} (_h : IsV k v) (ks : List PK) : k ∈ ks ∨ k ∉ ks := Classical.em _
theorem del_split : ∀ {pre post : List PK} {k : PK}, (pre ++ k :: post).Nodup → del (pre ++ k :: post) k = pre ++ post
  | [], post, k, h => by
    have hk : k ∉ post := (List.nodup_cons.mp h).1
    have e : del post k = post := List.filter_eq_self.mpr fun y hy => decide_eq_true fun e => hk (e ▸ hy)
    show del (k :: post) k = post
    unfold del at e ⊢
    rw [List.filter_cons]
    simpa using e
  | a :: pre, post, k, h => by
    have ha : a ≠ k := fun e => (List.nodup_cons.mp h).1 (by rw [e]; simp)
    show del (a :: (pre ++ k :: post)) k = a :: (pre ++ post)
    have ih := del_split (List.nodup_cons.mp h).2
    unfold del at ih ⊢
    rw [List.filter_cons]
    simp only [ne_eq, ha, not_false_eq_true, decide_true, if_true]
    rw [← ih]
theorem split_of {ks : List PK} {k : PK} (hn : ks.Nodup) (h : k ∈ ks) : ∃ pre post, ks = pre ++ k :: post ∧ k ∉ pre ∧ del ks k = pre ++ post := by
  obtain ⟨pre, post, rfl⟩ := List.append_of_mem h
  refine ⟨pre, post, rfl, fun hk => ?_, del_split hn⟩
  exact (List.nodup_append.mp hn).2.2 k hk k (by simp) rfl
theorem del_not {ks : List PK} {k : PK} (h : k ∉ ks) : del ks k = ks := List.filter_eq_self.mpr fun y hy => decide_eq_true fun e => h (e ▸ hy)
section
variable {prog : Program} {w : World} {A : Around} {E : Value → Shared → Prop} {s : Shared} {h₀ : Heap} {L : Addr} {m : Str → Option Value} {news : List (Addr × Obj)} {l l2 c d : Nat} {vs : List Value} {ks : List PK}
theorem lEqNil_t {Q : Value → Shared → Prop} (e : ks = []) (N : News h₀ L s.heap news) (hm : (l, listOf vs.toArray c) ∈ news) (hi : IsL ks vs) (hm2 : (l2, listOf #[] d) ∈ news) (hu : A.units < cLine) (h : Q (.bool true) s) : wpAny (model prog w) A (compareOp .Eq (.ref l) (.ref l2)) Q E s :=
  lEqNil N hm hi hm2 hu (by simpa [e] using h)
theorem lEqNil_f {Q : Value → Shared → Prop} (e : ks ≠ []) (N : News h₀ L s.heap news) (hm : (l, listOf vs.toArray c) ∈ news) (hi : IsL ks vs) (hm2 : (l2, listOf #[] d) ∈ news) (hu : A.units < cLine) (h : Q (.bool false) s) : wpAny (model prog w) A (compareOp .Eq (.ref l) (.ref l2)) Q E s :=
  lEqNil N hm hi hm2 hu (by simpa [e] using h)
end
theorem say45 : True := by
  k_with "j.compareOp Eq ref ref" => ((k_here; (with_reducible show wpAny _ _ (compareOp CmpOp.Eq (Value.ref _) (Value.ref _)) _ _ _); k_dflt (first
      | (refine' lEqNil_t ?e_z179 ?N_z179 ?m_z179 ?i_z179 ?m2_z179 ?u_z179 ?_; (case e_z179 => assumption); (case i_z179 => assumption); (case N_z179 => k_asm); (case m_z179 => k_mem); (case m2_z179 => k_mem); (case u_z179 => k_units))
      | (refine' lEqNil_f ?e_z179 ?N_z179 ?m_z179 ?i_z179 ?m2_z179 ?u_z179 ?_; (case e_z179 => assumption); (case i_z179 => assumption); (case N_z179 => k_asm); (case m_z179 => k_mem); (case m2_z179 => k_mem); (case u_z179 => k_units)))))
  k_with "j.call builtin:list.pop" => ((k_here; (with_reducible show wpAny _ _ (call (Value.builtin "list.pop") [Value.ref _]) _ _ _); k_dflt (refine' lPop ?F_z180 ?N_z180 ?U_z180 ?i_z180 ?z_z180 ?_; (case F_z180 => k_asm); (case N_z180 => k_asm); (case U_z180 => k_updF); (case i_z180 => assumption); (case z_z180 => k_extra "j.sz")); intro h'w vs'w v'w F'w N'w I'w V'w; (try dsimp only at N'w); (try k_sweep)))
  k_with "j.call builtin:list.pop" => ((k_here; (with_reducible show wpAny _ _ (call (Value.builtin "list.pop") [Value.ref _, Value.int _ _]) _ _ _); k_dflt (refine' lPopAt ?F_z181 ?N_z181 ?U_z181 ?i_z181 ?z_z181 ?x_z181 ?_; (case F_z181 => k_asm); (case N_z181 => k_asm); (case U_z181 => k_updF); (case i_z181 => assumption); (case z_z181 => k_extra "j.sz"); (case x_z181 => assumption)); intro h'w vs'w v'w F'w N'w I'w V'w; (try dsimp only at N'w); (try k_sweep)))
  k_with "j.call builtin:list.remove" => ((k_here; k_dflt (refine' lRemove ?F_z182 ?N_z182 ?U_z182 ?i_z182 ?z_z182 ?n_z182 ?v_z182 ?_; (case F_z182 => k_asm); (case N_z182 => k_asm); (case U_z182 => k_updF); (case v_z182 => assumption); (case n_z182 => assumption); (case i_z182 => assumption); (case z_z182 => k_extra "j.sz")); intro h'w vs'w F'w N'w I'w; (try dsimp only at N'w); (try k_sweep)))
  trivial
/-- what a single deed leaves -/
def DeedS (prog : Program) (w : World) (t l : Nat) (ro : List (Addr × Obj)) (v : Value) (ft : List (Addr × Obj)) : Prop :=
  ∃ (o' : Obj) (ks' : List PK) (vs' : List Value) (c' : Nat), v = .bool true ∧ IsD prog w o' ks' ∧ IsL ks' vs' ∧ ft = (t, o') :: (l, listOf vs'.toArray c') :: ro
section
variable {prog : Program} {w : World} {A₀ : Around} {s : Shared} {hs h' base h₀ g₀ h₀' : Heap} {outer : List Env} {L : Addr} {m : Str → Option Value} {fs fs' : List Addr} {as : List Addr}
  {R : Result → Shared → Prop} {v : Value} {tk' t l c' : Nat} {ro : List (Addr × Obj)} {o' : Obj} {ks' : List PK} {vs' : List Value}
theorem fin_DS (h : ∀ h' tk' v foot' h₀', DeedS prog w t l ro v foot' → KtsTurn fs g₀ h₀' → Fr h₀' L h' m → News h₀' L h' foot' → Below A₀ base outer h₀' → KtsDicts fs h₀' → KeepsT hs h' as fs' → (∀ b, h₀.get? b = none → h₀'.get? b = none) → (∀ p ∈ foot', p.1 ∉ as → hs.get? p.1 = none) → R (.ok (.ret v)) { s with heap := h', toks := tk' })
    (T : KtsTurn fs g₀ h₀') (F : Fr h₀' L h' m) (N : News h₀' L h' ((t, o') :: (l, listOf vs'.toArray c') :: ro)) (B : Below A₀ base outer h₀') (D : KtsDicts fs h₀') (K : KeepsT hs h' as fs') (n : ∀ b, h₀.get? b = none → h₀'.get? b = none)
    (f : ∀ p ∈ (t, o') :: (l, listOf vs'.toArray c') :: ro, p.1 ∉ as → hs.get? p.1 = none) (d : IsD prog w o' ks') (i : IsL ks' vs') (e : v = .bool true) : R (.ok (.ret v)) { s with heap := h', toks := tk' } :=
  h _ _ _ _ _ ⟨o', ks', vs', c', e, d, i, rfl⟩ T F N B D K n f
end
theorem say46 : True := by
  k_with "j.endDS" => ((refine' fin_DS (by assumption) ?T_z183 ?F_z183 ?N_z183 ?B_z183 ?D_z183 ?K_z183 ?n_z183 ?f_z183 ?d_left ?i_left ?e_z183; (case T_z183 => assumption); (case F_z183 => assumption); (case B_z183 => assumption); (case D_z183 => assumption); (case K_z183 => assumption); (case n_z183 => assumption); (case N_z183 => (refine news_sub (by assumption) ?_; k_extra "j.sub2")); (case f_z183 => (refine fresh_sub (by assumption) ?_; k_extra "j.sub2")); (case e_z183 => first | rfl | simp)))
  trivial

section
variable {prog : Program} {w : World} {x dx t l c : Nat} {n : Nat} {hx : Int} {tkx tk tn : Tok} {o : Obj} {ks : List PK} {vs : List Value} {num kind : Int}
theorem ds_c (h0 : 0 ≤ kind) (h5 : kind < 5) (hN : 0 ≤ num) (hi : IsL ks vs) (lo : (t == sysModules) = false) (ho : IsD prog w o ks) (xt : x ≠ t) (dt : dx ≠ t) (lt : l ≠ t) (lx : l ≠ x) (ldx : l ≠ dx) :
    CtrT prog w 12 342 [.int kind tk, .ref x, .ref l, .int num tn] [(t, o), (l, listOf vs.toArray c), (x, instObj 270 dx), (dx, dictOf [⟨hx, .str "table" tkx, .ref t⟩] n)]
      (DeedS prog w t l [(x, instObj 270 dx), (dx, dictOf [⟨hx, .str "table" tkx, .ref t⟩] n)]) := by
  intro A₀ A s base h₀ g₀ outer L m cn cs ca ccd R C N T0 h
  have hz9 := ho.small
  have hz : ks.length ≤ 100 := by omega
  have f0 := Int.fmod_nonneg_of_pos num (b := 9) (by decide)
  have f1 := Int.fmod_lt_of_pos num (b := 9) (by decide)
  have p0 := Int.fmod_nonneg_of_pos (num.fdiv 9) (b := (ks.length + ks.length + 2 : Int)) (by omega)
  have p1 := Int.fmod_lt_of_pos (num.fdiv 9) (b := (ks.length + ks.length + 2 : Int)) (by omega)
  k_extra "j.enterT"
  k_extra "j.upto"
  rename IsV _ _ => hv
  rcases (by omega : kind = 0 ∨ kind = 1 ∨ kind = 2 ∨ kind = 3 ∨ kind = 4) with rfl | rfl | rfl | rfl | rfl
  · clear p0 p1
    rcases em_of hv ks with hk | hk
    · k_extra "j.steps"
      k_extra "j.endDS"
      case d_left => assumption
      case i_left => rw [ins_old hk]; assumption
    · k_extra "j.steps"
      k_extra "j.endDS"
      case d_left => assumption
      case i_left => rw [ins_new hk]; assumption
  · clear p0 p1
    rcases em_of hv ks with hk | hk
    · obtain ⟨pre, post, e, hkp, hdl⟩ := split_of ho.nodup hk
      have hi2 := hi
      have hz2 := hz
      rw [e] at hi2 hz2
      have hk3 := e ▸ hk
      k_extra "j.steps"
      k_extra "j.endDS"
      case d_left => assumption
      case i_left => rw [hdl]; assumption
    · k_extra "j.steps"
      k_extra "j.endDS"
      case d_left => assumption
      case i_left => assumption
  · clear p0 p1
    rcases em_of hv ks with hk | hk
    · obtain ⟨pre, post, e, hkp, hdl⟩ := split_of ho.nodup hk
      have hi2 := hi
      have hz2 := hz
      rw [e] at hi2 hz2
      have hk3 := e ▸ hk
      k_extra "j.steps"
      k_extra "j.endDS"
      case d_left => assumption
      case i_left => rw [hdl]; assumption
    · k_extra "j.steps"
      k_extra "j.endDS"
      case d_left => assumption
      case i_left => rw [del_not hk]; assumption
  · clear p0 p1
    rcases List.eq_nil_or_concat ks with e | ⟨ini, last, e⟩
    · k_extra "j.steps"
      k_extra "j.endDS"
      case d_left => assumption
      case i_left => assumption
    · rw [List.concat_eq_append] at e
      have hne : ks ≠ [] := by rw [e]; simp
      have hi2 := hi
      rw [e] at hi2
      have hln : ks.length = ini.length + 1 := by rw [e]; simp
      have hzi : ini.length ≤ 100 := by omega
      have hlen : -(ks.length : Int) ≤ -1 := by omega
      have hk : ks[(-1 + (ks.length : Int)).toNat]? = some last := by
        have : (-1 + (ks.length : Int)).toNat = ini.length := by omega
        rw [this, e]; simp
      have hdl : del ks last = ini := by
        have := ho.nodup
        rw [e] at this ⊢
        have := del_split this
        simpa using this
      k_extra "j.steps"
      k_extra "j.endDS"
      case d_left => assumption
      case i_left => rw [hdl]; assumption
  ·
    k_extra "j.steps"
    · k_extra "j.endDS"
      case d_left => assumption
      case i_left => assumption
    · k_extra "j.endDS"
      case d_left => assumption
      case i_left => assumption
    · generalize hpl : (num.fdiv 9).fmod (ks.length + ks.length + 2) - ks.length - 1 = pl at *
      obtain ⟨j, hj, hlt⟩ : ∃ j : Nat, (pl = j ∨ pl = (j : Int) - ks.length) ∧ j < ks.length := by
        by_cases q : pl < 0
        · exact ⟨(pl + ks.length).toNat, .inr (by omega), by omega⟩
        · exact ⟨pl.toNat, .inl (by omega), by omega⟩
      have hk : ks[j]? = some ks[j] := by simp [hlt]
      have e : ks = ks.take j ++ ks[j] :: ks.drop (j + 1) := by rw [← List.drop_eq_getElem_cons hlt, List.take_append_drop]
      have hi2 := hi
      have hz2 := hz
      have hdl := ho.nodup
      have hx2 : (0 ≤ pl ∧ pl = (ks.take j).length) ∨ (pl < 0 ∧ pl + (ks.take j ++ ks[j] :: ks.drop (j + 1)).length = (ks.take j).length) := by
        have l1 : (ks.take j).length = j := by rw [List.length_take]; omega
        have l2 : (ks.take j ++ ks[j] :: ks.drop (j + 1)).length = ks.length := by rw [← e]
        rw [l1, l2]; omega
      rw [e] at hi2 hz2 hdl
      have hdl2 := del_split hdl
      rw [← e] at hdl2
      generalize ks.take j = pre at *
      generalize ks.drop (j + 1) = post at *
      generalize ks[j] = kk at *
      k_extra "j.steps"
      k_extra "j.endDS"
      case d_left => assumption
      case i_left => rw [hdl2]; assumption
end

theorem say47 : True := by
  k_with "j.call ref" => ((k_here; (with_reducible show wpAny _ _ (call (Value.ref 225) _) _ _ _); refine wpAny_call ?_; k_dflt (refine' Ctr.read (ne_c ?lo_z184 ?lo2_z184 ?ho_z184 ?hp_z184 ?mx_z184 ?md_z184 ?mt_z184 ?my_z184 ?me_z184 ?mu_z184) ?C_z184 ?N_z184 ?sub_z184 ?_; (case C_z184 => k_extra "j.cx"); (case N_z184 => k_asm); (case sub_z184 => exact fun _ hp => hp); (case mx_z184 => k_mem); (case md_z184 => k_mem); (case mt_z184 => k_mem); (case my_z184 => k_mem); (case me_z184 => k_mem); (case mu_z184 => k_mem); (case lo_z184 => assumption); (case lo2_z184 => assumption); (case ho_z184 => assumption); (case hp_z184 => assumption)); intro h'w tk'w v'w e'w F'w N'w; subst e'w; (try dsimp only [PySem.W.CmpBack, PySem.W.LenBack, PySem.W.BoolBack]); (try k_sweep)))
  trivial
theorem dif_nil_iff {ks qs : List PK} : (dif ks qs).length = 0 ↔ ∀ k ∈ ks, k ∈ qs := by
  rw [List.length_eq_zero_iff]
  unfold dif
  rw [List.filter_eq_nil_iff]
  simp
theorem all_iff {ks qs : List PK} : (ks.all fun k => decide (k ∈ qs)) = (((dif ks qs).length : Int) == 0) := by
  rw [Bool.eq_iff_iff, List.all_eq_true, beq_iff_eq, Int.natCast_eq_zero, dif_nil_iff]
  simp
theorem same_len {ks qs : List PK} (hk : ks.Nodup) (hq : qs.Nodup) (h : ∀ k ∈ ks, k ∈ qs) : ks.length = qs.length ↔ ∀ k ∈ qs, k ∈ ks := by
  constructor
  · intro e k hkq
    refine Classical.byContradiction fun hn => ?_
    have h1 := nodup_len (l' := qs.erase k) hk fun y hy => (List.mem_erase_of_ne fun (e : y = k) => hn (e ▸ hy)).mpr (h y hy)
    rw [List.length_erase_of_mem hkq] at h1
    have := List.length_pos_of_mem hkq
    omega
  · intro h2
    have a := nodup_len hk h
    have b := nodup_len hq h2
    omega
theorem cmp0 {ks qs : List PK} : (cmpd 0 ks qs != (((dif ks qs).length : Int) == 0)) = false := by
  simp only [cmpd, if_true]
  rw [all_iff]; simp
theorem cmp1 {ks qs : List PK} : (cmpd 1 ks qs != (((dif qs ks).length : Int) == 0)) = false := by
  have : cmpd 1 ks qs = qs.all fun k => decide (k ∈ ks) := rfl
  rw [this, all_iff]; simp
theorem cmp2 {ks qs : List PK} : (cmpd 2 ks qs != (((dif ks qs).length : Int) == (ks.length : Int))) = false := by
  have : cmpd 2 ks qs = qs.all fun k => decide (k ∉ ks) := rfl
  rw [this]
  have e : (qs.all fun k => decide (k ∉ ks)) = (((dif ks qs).length : Int) == (ks.length : Int)) := by
    rw [Bool.eq_iff_iff, List.all_eq_true, beq_iff_eq, Int.natCast_inj]
    unfold dif
    rw [List.length_filter_eq_length_iff]
    constructor
    · intro h k hk
      exact decide_eq_true fun hq => absurd hk (of_decide_eq_true (h k hq))
    · intro h k hk
      exact decide_eq_true fun hq => absurd hk (of_decide_eq_true (h k hq))
  rw [e]; simp
theorem alike_t {ks qs : List PK} (hk : ks.Nodup) (hq : qs.Nodup) (h : ((dif ks qs).length : Int) = 0) : (ks.length == qs.length && ks.all fun k => decide (k ∈ qs)) = (((dif qs ks).length : Int) == 0) := by
  have h' : ∀ k ∈ ks, k ∈ qs := dif_nil_iff.mp (by omega)
  have e1 : (ks.all fun k => decide (k ∈ qs)) = true := by rw [all_iff, h]; rfl
  rw [e1, Bool.and_true, ← all_iff, Bool.eq_iff_iff, beq_iff_eq, List.all_eq_true, same_len hk hq h']
  simp
theorem alike_f {ks qs : List PK} (h : ((dif ks qs).length : Int) ≠ 0) : (ks.length == qs.length && ks.all fun k => decide (k ∈ qs)) = (((dif ks qs).length : Int) == 0) := by
  have e1 : (((dif ks qs).length : Int) == 0) = false := by simpa using h
  rw [all_iff, e1, Bool.and_false]
section
variable {prog : Program} {w : World} {x dx t y dy u l q c d : Nat} {n n' : Nat} {hx hy : Int} {tkx tky : Tok} {o p : Obj} {ks qs : List PK} {vs ws : List Value} {ro : List (Addr × Obj)}
theorem law_two_c (hi : IsL ks vs) (hm : (l, listOf vs.toArray c) ∈ ro) (hj : IsL qs ws) (hm2 : (q, listOf ws.toArray d) ∈ ro) (lo : (t == sysModules) = false) (lo2 : (u == sysModules) = false) (ho : IsD prog w o ks) (hp : IsD prog w p qs) (mx : (x, instObj 270 dx) ∈ ro) (md : (dx, dictOf [⟨hx, .str "table" tkx, .ref t⟩] n) ∈ ro) (mt : (t, o) ∈ ro) (my : (y, instObj 270 dy) ∈ ro) (me : (dy, dictOf [⟨hy, .str "table" tky, .ref u⟩] n') ∈ ro) (mu : (u, p) ∈ ro) :
    Ctr prog w 9 356 [.ref x, .ref y, .ref l, .ref q] ro (fun r ft => r = .bool true ∧ ft = ro) := by
  intro A₀ A s base h₀ outer L m env R C N h
  have z1 := ho.small
  have z2 := hp.small
  have z3 : (dif ks qs).length ≤ ks.length := dif_len
  have z4 : (dif qs ks).length ≤ qs.length := dif_len
  have c0 := cmp0 (ks := ks) (qs := qs)
  have c1 := cmp1 (ks := ks) (qs := qs)
  have c2 := cmp2 (ks := ks) (qs := qs)
  have c3 := alike_t ho.nodup hp.nodup
  have c4 := alike_f (ks := ks) (qs := qs)
  k_extra "j.enter"
  k_extra "j.steps"
  all_goals k_extra "j.read"
  · rw [c3 (by assumption)]; simp
  · exfalso
    have e := c3 (by assumption)
    rename (_ == _) = false => hf
    rw [e] at hf
    simp at hf
  · rw [c4 (by assumption)]; simp
  · exfalso
    have e := c4 (by assumption)
    rename (_ == _) = false => hf
    rw [e] at hf
    simp at hf
end
theorem say48 : True := by
  k_with "j.call ref" => ((k_here; (with_reducible show wpAny _ _ (call (Value.ref 356) _) _ _ _); refine wpAny_call ?_; k_dflt (refine' Ctr.read (law_two_c ?hi_z185 ?hm_z185 ?hj_z185 ?hm2_z185 ?lo_z185 ?lo2_z185 ?ho_z185 ?hp_z185 ?mx_z185 ?md_z185 ?mt_z185 ?my_z185 ?me_z185 ?mu_z185) ?C_z185 ?N_z185 ?sub_z185 ?_; (case C_z185 => k_extra "j.cx"); (case N_z185 => k_asm); (case sub_z185 => exact fun _ hp => hp); (case mx_z185 => k_mem); (case md_z185 => k_mem); (case mt_z185 => k_mem); (case my_z185 => k_mem); (case me_z185 => k_mem); (case mu_z185 => k_mem); (case hm_z185 => k_mem); (case hm2_z185 => k_mem); (case lo_z185 => assumption); (case lo2_z185 => assumption); (case ho_z185 => assumption); (case hp_z185 => assumption); (case hi_z185 => assumption); (case hj_z185 => assumption)); intro h'w tk'w v'w e'w F'w N'w; subst e'w; (try dsimp only [PySem.W.CmpBack, PySem.W.LenBack, PySem.W.BoolBack]); (try k_sweep)))
  trivial

section
variable {prog : Program} {w : World} {A : Around} {E : Value → Shared → Prop} {s : Shared} {h₀ : Heap} {L : Addr} {m : Str → Option Value} {news : List (Addr × Obj)} {l : Nat} {ts : List Value} {c : Nat} {v : Value} {i : Int} {u : Tok}
/-- an item of a list of anything -/
theorem lRef {value slice : PySem.Expr} {Q : Value → Shared → Prop} (N : News h₀ L s.heap news) (hm : (l, listOf ts.toArray c) ∈ news) (h0 : 0 ≤ i) (hk : ts[i.toNat]? = some v) (hfit : i < 2 ^ 63) (h : Q v s)
    (hs : subscripted slice false (.ref l) (.int i u) = operate [.ref l, .int i u] (getItem (.ref l) (.int i u)) := by with_unfolding_all rfl) : wpAny (model prog w) A (subscriptTail value slice (.ref l) (.int i u)) Q E s := by
  have hl : s.heap.IsList l ts.toArray := ⟨_, (N _ hm).1, rfl, _, rfl⟩
  exact tail_any hl.typeIs slot_list_getitem.lookup (wpAny_getItem_list hl h0 hfit (by simpa using hk) h) hs
/-- an item of a list of anything is laid anew -/
theorem lSet {g : Obj → List (Addr × Obj)} {Q : Unit → Shared → Prop} (F : Fr h₀ L s.heap m) (N : News h₀ L s.heap news) (U : UpdF l (listOf ts.toArray c) news g) (h0 : 0 ≤ i) (h1 : i < ts.length) (hz : ts.length ≤ 100)
    (h : ∀ h', Fr h₀ L h' m → News h₀ L h' (g (listOf (ts.set i.toNat v).toArray c)) → Q () { s with heap := h' }) : wpAny (model prog w) A (setItem (.ref l) (.int i u) v) Q E s := by
  obtain ⟨pre, post, rfl, hg, a, b⟩ := U.split
  have z := N (l, listOf ts.toArray c) (List.mem_append.mpr (.inr (.head _)))
  refine ki_setAt z.1 h0 (by omega) (by simpa using h1) (h _ (F.change (Heap.SameBut.update ..) z.2.1 z.2.2) ?_)
  rw [hg]
  exact kl_turn0 _ N a b (by simp) (by simp)
end
/-- all addresses of a ledger are apart -/
def NDL : List (Addr × Obj) → Prop
  | [] => True
  | p :: r => AllNA p.1 r ∧ NDL r
theorem allNA_iff {d : Nat} {l : List (Addr × Obj)} : AllNA d l ↔ d ∉ l.map (·.1) := ⟨allNA_mem, fun h => allNA_of fun p hp e => h (e ▸ List.mem_map_of_mem hp)⟩
theorem ndl_iff : ∀ {l : List (Addr × Obj)}, NDL l ↔ (l.map (·.1)).Nodup
  | [] => by simp [NDL]
  | p :: r => by rw [NDL, ndl_iff (l := r), List.map_cons, List.nodup_cons, allNA_iff]
theorem NeA.symm {a b : Nat} (h : NeA a b) : NeA b a := fun e => h e.symm
theorem neA_of {a b : Nat} (h : a ≠ b) : NeA a b := h
theorem neA_out {a b : Nat} (h : NeA a b) : a ≠ b := h
theorem AllNA.tl {d : Nat} {p : Addr × Obj} {r : List (Addr × Obj)} (h : AllNA d (p :: r)) : AllNA d r := h.2
theorem AllNA.hd {d : Nat} {p : Addr × Obj} {r : List (Addr × Obj)} (h : AllNA d (p :: r)) : NeA p.1 d := h.1
theorem AllNA.cons {d a : Nat} {o : Obj} {r : List (Addr × Obj)} (h : NeA a d) (t : AllNA d r) : AllNA d ((a, o) :: r) := ⟨h, t⟩
theorem allNA_map {d : Nat} {l l' : List (Addr × Obj)} (e : l.map (·.1) = l'.map (·.1)) (h : AllNA d l) : AllNA d l' := allNA_iff.mpr (e ▸ allNA_iff.mp h)
theorem ndl_map {l l' : List (Addr × Obj)} (e : l.map (·.1) = l'.map (·.1)) (h : NDL l) : NDL l' := by rw [ndl_iff] at h ⊢; rw [← e]; exact h
theorem NDL.cons {a : Nat} {o : Obj} {r : List (Addr × Obj)} (h : AllNA a r) (n : NDL r) : NDL ((a, o) :: r) := ⟨h, n⟩
/-- where an object stands in a ledger -/
inductive UpdP (a : Addr) (o : Obj) : List (Addr × Obj) → (Obj → List (Addr × Obj)) → Prop
  | head {r} : UpdP a o ((a, o) :: r) (fun o' => (a, o') :: r)
  | tail {p r g} : UpdP a o r g → UpdP a o (p :: r) (fun o' => p :: g o')
theorem UpdP.mem {a : Addr} {o : Obj} {l : List (Addr × Obj)} {g : Obj → List (Addr × Obj)} (h : UpdP a o l g) : (a, o) ∈ l := by
  induction h with
  | head => exact .head _
  | tail _ ih => exact .tail _ ih
theorem updF_nd {a : Addr} {o : Obj} {l : List (Addr × Obj)} {g : Obj → List (Addr × Obj)} (nd : NDL l) (h : UpdP a o l g) : UpdF a o l g := by
  induction h with
  | head => exact .head (allNA_ne nd.1)
  | tail h ih => exact .tail (fun e => allNA_at nd.1 h.mem e.symm) (ih nd.2)
/-- the four objects of a thing and its row -/
abbrev B4 (x dx t : Nat) (n : Nat) (hx : Int) (tk : Tok) (o : Obj) (l : Nat) (vs : List Value) (c : Nat) (r : List (Addr × Obj)) : List (Addr × Obj) :=
  (t, o) :: (x, instObj 270 dx) :: (dx, dictOf [⟨hx, .str "table" tk, .ref t⟩] n) :: (l, listOf vs.toArray c) :: r
section
variable {x dx t l x' dx' t' l' c c' c₂ : Nat} {n n' n₂ : Nat} {hx hx' hx₂ : Int} {tk tk' tk₂ : Tok} {o o' o₂ : Obj} {vs vs' vs₂ : List Value} {r r' r₂ : List (Addr × Obj)} {p1 p2 p3 : Obj}
theorem nd_xt (h : NDL (B4 x dx t n hx tk o l vs c r)) : NeA x t := h.1.1
theorem nd_dt (h : NDL (B4 x dx t n hx tk o l vs c r)) : NeA dx t := h.1.2.1
theorem nd_lt (h : NDL (B4 x dx t n hx tk o l vs c r)) : NeA l t := h.1.2.2.1
theorem nd_lx (h : NDL (B4 x dx t n hx tk o l vs c r)) : NeA l x := h.2.1.2.1
theorem nd_ld (h : NDL (B4 x dx t n hx tk o l vs c r)) : NeA l dx := h.2.2.1.1
theorem nd_row (e : r.map (·.1) = r'.map (·.1)) (f : AllNA l' (B4 x dx t n₂ hx₂ tk₂ o₂ l vs₂ c₂ r)) (nd : NDL (B4 x dx t n hx tk o l vs c r)) : NDL (B4 x dx t n' hx' tk' o' l' vs' c' r') := by
  refine ndl_map (l := B4 x dx t n hx tk o l' vs' c' r) (by simp [B4, e]) ?_
  obtain ⟨⟨a1, a2, a3, a4⟩, ⟨b1, b2, b3⟩, ⟨c1, c2⟩, d1, d2⟩ := nd
  obtain ⟨f1, f2, f3, f4, f5⟩ := f
  exact ⟨⟨a1, a2, f1.symm, a4⟩, ⟨b1, f2.symm, b3⟩, ⟨f3.symm, c2⟩, f5, d2⟩
theorem nd_set (e : r.map (·.1) = r'.map (·.1)) (xd : dx' < x') (xt : x' < t') (ax : AllNA x' (B4 x dx t n₂ hx₂ tk₂ o₂ l vs₂ c₂ r)) (ad : AllNA dx' (B4 x dx t n₂ hx₂ tk₂ o₂ l vs₂ c₂ r)) (at_ : AllNA t' (B4 x dx t n₂ hx₂ tk₂ o₂ l vs₂ c₂ r)) (nd : NDL (B4 x dx t n hx tk o l vs c r)) : NDL (B4 x' dx' t' n' hx' tk' o' l vs' c' r') := by
  refine ndl_map (l := B4 x' dx' t' n hx tk o l vs' c' r) (by simp [B4, e]) ?_
  obtain ⟨_, _, _, d1, d2⟩ := nd
  obtain ⟨_, _, _, a4, a5⟩ := ax
  obtain ⟨_, _, _, b4, b5⟩ := ad
  obtain ⟨_, _, _, c4, c5⟩ := at_
  have e1 : NeA x' t' := Nat.ne_of_lt xt
  have e2 : NeA dx' t' := Nat.ne_of_lt (Nat.lt_trans xd xt)
  have e3 : NeA dx' x' := Nat.ne_of_lt xd
  exact ⟨⟨e1, e2, c4, c5⟩, ⟨e3, a4, a5⟩, ⟨b4, b5⟩, d1, d2⟩
theorem nd_new (e : r.map (·.1) = r'.map (·.1)) (xd : dx' < x') (xt : x' < t') (ax : AllNA x' (B4 x dx t n₂ hx₂ tk₂ o₂ l vs₂ c₂ r)) (ad : AllNA dx' (B4 x dx t n₂ hx₂ tk₂ o₂ l vs₂ c₂ r)) (at_ : AllNA t' (B4 x dx t n₂ hx₂ tk₂ o₂ l vs₂ c₂ r)) (f : AllNA l' ((x', p1) :: (dx', p2) :: (t', p3) :: B4 x dx t n₂ hx₂ tk₂ o₂ l vs₂ c₂ r)) (nd : NDL (B4 x dx t n hx tk o l vs c r)) : NDL (B4 x' dx' t' n' hx' tk' o' l' vs' c' r') := by
  refine ndl_map (l := B4 x' dx' t' n hx tk o l' vs' c' r) (by simp [B4, e]) ?_
  obtain ⟨_, _, _, d1, d2⟩ := nd
  obtain ⟨_, _, _, a4, a5⟩ := ax
  obtain ⟨_, _, _, b4, b5⟩ := ad
  obtain ⟨_, _, _, c4, c5⟩ := at_
  obtain ⟨f1, f2, f3, _, _, _, _, f8⟩ := f
  have e1 : NeA x' t' := Nat.ne_of_lt xt
  have e2 : NeA dx' t' := Nat.ne_of_lt (Nat.lt_trans xd xt)
  have e3 : NeA dx' x' := Nat.ne_of_lt xd
  exact ⟨⟨e1, e2, f3.symm, c5⟩, ⟨e3, f1.symm, a5⟩, ⟨f2.symm, b5⟩, f8, d2⟩
/-- it stands in the ledger, whatever the table and the two lists hold -/
def InB (p : Addr × Obj) (x dx t n : Nat) (hx : Int) (tk : Tok) (l : Nat) (vs : List Value) (c T RR : Nat) (ro : List (Addr × Obj)) : Prop := ∀ o oT oR, p ∈ B4 x dx t n hx tk o l vs c ((T, oT) :: (RR, oR) :: ro)
theorem InB.at {p : Addr × Obj} {T RR : Nat} {oT oR : Obj} {ro : List (Addr × Obj)} (h : InB p x dx t n hx tk l vs c T RR ro) : p ∈ B4 x dx t n hx tk o l vs c ((T, oT) :: (RR, oR) :: ro) := h _ _ _
theorem InB.of {p : Addr × Obj} {T RR : Nat} {ro : List (Addr × Obj)} (h : p ∈ ro) : InB p x dx t n hx tk l vs c T RR ro := fun _ _ _ => by simp [B4, h]
end
/-- what a deed leaves -/
def DeedP (prog : Program) (w : World) (ts rs : List Value) (i T R : Nat) (ro : List (Addr × Obj)) (v : Value) (ft : List (Addr × Obj)) : Prop :=
  ∃ (x' dx' t' : Nat) (n' : Nat) (hx' : Int) (tk' : Tok) (o' : Obj) (ks' : List PK) (l' : Nat) (vs' : List Value) (c' cT cR : Nat), v = .bool true ∧ IsD prog w o' ks' ∧ IsL ks' vs' ∧ (t' == sysModules) = false ∧
    NDL (B4 x' dx' t' n' hx' tk' o' l' vs' c' ((T, listOf (ts.set i (.ref x')).toArray cT) :: (R, listOf (rs.set i (.ref l')).toArray cR) :: ro)) ∧
    ft = B4 x' dx' t' n' hx' tk' o' l' vs' c' ((T, listOf (ts.set i (.ref x')).toArray cT) :: (R, listOf (rs.set i (.ref l')).toArray cR) :: ro)
section
variable {prog : Program} {w : World} {A₀ : Around} {s : Shared} {hs h' base h₀ g₀ h₀' : Heap} {outer : List Env} {L : Addr} {m : Str → Option Value} {fs fs' : List Addr} {as : List Addr}
  {R : Result → Shared → Prop} {v : Value} {tk' i T RR x' dx' t' n' l' c' cT cR : Nat} {hx' : Int} {tkx' : Tok} {ro : List (Addr × Obj)} {o' : Obj} {ks' : List PK} {vs' ts rs : List Value}
theorem fin_DP (h : ∀ h' tk' v foot' h₀', DeedP prog w ts rs i T RR ro v foot' → KtsTurn fs g₀ h₀' → Fr h₀' L h' m → News h₀' L h' foot' → Below A₀ base outer h₀' → KtsDicts fs h₀' → KeepsT hs h' as fs' → (∀ b, h₀.get? b = none → h₀'.get? b = none) → (∀ p ∈ foot', p.1 ∉ as → hs.get? p.1 = none) → R (.ok (.ret v)) { s with heap := h', toks := tk' })
    (T' : KtsTurn fs g₀ h₀') (F : Fr h₀' L h' m) (N : News h₀' L h' (B4 x' dx' t' n' hx' tkx' o' l' vs' c' ((T, listOf (ts.set i (.ref x')).toArray cT) :: (RR, listOf (rs.set i (.ref l')).toArray cR) :: ro))) (B : Below A₀ base outer h₀') (D : KtsDicts fs h₀') (K : KeepsT hs h' as fs') (n : ∀ b, h₀.get? b = none → h₀'.get? b = none)
    (f : ∀ p ∈ B4 x' dx' t' n' hx' tkx' o' l' vs' c' ((T, listOf (ts.set i (.ref x')).toArray cT) :: (RR, listOf (rs.set i (.ref l')).toArray cR) :: ro), p.1 ∉ as → hs.get? p.1 = none) (d : IsD prog w o' ks') (j : IsL ks' vs') (lo : (t' == sysModules) = false)
    (nd : NDL (B4 x' dx' t' n' hx' tkx' o' l' vs' c' ((T, listOf (ts.set i (.ref x')).toArray cT) :: (RR, listOf (rs.set i (.ref l')).toArray cR) :: ro))) (e : v = .bool true) : R (.ok (.ret v)) { s with heap := h', toks := tk' } :=
  h _ _ _ _ _ ⟨x', dx', t', n', hx', tkx', o', ks', l', vs', c', cT, cR, e, d, j, lo, nd, rfl⟩ T' F N B D K n f
end
section
variable {prog : Program} {w : World} {A₀ : Around} {s : Shared} {hs h' base h₀ g₀ h₀' : Heap} {outer : List Env} {L : Addr} {m : Str → Option Value} {fs fs' : List Addr} {as : List Addr}
  {R : Result → Shared → Prop} {tk' i T RR x dx t n l c x' dx' t' n' l' c' cT cR cT0 cR0 n₂ c₂ : Nat} {hx hx' hx₂ : Int} {tkx tkx' tk₂ : Tok} {ro : List (Addr × Obj)} {o o' o₂ oT oR p1 p2 p3 : Obj} {ks' : List PK} {vs vs' vs₂ ts rs ts0 rs0 : List Value} {big : List (Addr × Obj)}
/-- the thing and its row are the old ones -/
theorem fin_same (es : ts.set i (.ref x) = ts) (er : rs.set i (.ref l) = rs) (nd : NDL (B4 x dx t n hx tkx o l vs c ((T, listOf ts.toArray cT0) :: (RR, listOf rs.toArray cR0) :: ro))) (h : ∀ h' tk' v foot' h₀', DeedP prog w ts rs i T RR ro v foot' → KtsTurn fs g₀ h₀' → Fr h₀' L h' m → News h₀' L h' foot' → Below A₀ base outer h₀' → KtsDicts fs h₀' → KeepsT hs h' as fs' → (∀ b, h₀.get? b = none → h₀'.get? b = none) → (∀ p ∈ foot', p.1 ∉ as → hs.get? p.1 = none) → R (.ok (.ret v)) { s with heap := h', toks := tk' }) (T' : KtsTurn fs g₀ h₀') (F : Fr h₀' L h' m) (N : News h₀' L h' big) (B : Below A₀ base outer h₀') (D : KtsDicts fs h₀') (K : KeepsT hs h' as fs') (n : ∀ b, h₀.get? b = none → h₀'.get? b = none) (f : ∀ p ∈ big, p.1 ∉ as → hs.get? p.1 = none) (sub : ∀ p ∈ B4 x dx t n' hx' tkx' o' l vs' c' ((T, listOf ts.toArray cT) :: (RR, listOf rs.toArray cR) :: ro), p ∈ big) (d : IsD prog w o' ks') (j : IsL ks' vs') (lo : (t == sysModules) = false) : R (.ok (.ret (.bool true))) { s with heap := h', toks := tk' } :=
  fin_DP (x' := x) (dx' := dx) (t' := t) (l' := l) (n' := n') (hx' := hx') (tkx' := tkx') (c' := c') (cT := cT) (cR := cR) (o' := o') (vs' := vs') h T' F (by rw [es, er]; exact news_sub N sub) B D K n (by rw [es, er]; exact fresh_sub f sub) d j lo (ndl_map rfl nd) rfl
/-- the thing is the old one, its row is new -/
theorem fin_row (es : ts.set i (.ref x) = ts) (nd : NDL (B4 x dx t n hx tkx o l vs c ((T, listOf ts.toArray cT0) :: (RR, listOf rs.toArray cR0) :: ro))) (h : ∀ h' tk' v foot' h₀', DeedP prog w ts rs i T RR ro v foot' → KtsTurn fs g₀ h₀' → Fr h₀' L h' m → News h₀' L h' foot' → Below A₀ base outer h₀' → KtsDicts fs h₀' → KeepsT hs h' as fs' → (∀ b, h₀.get? b = none → h₀'.get? b = none) → (∀ p ∈ foot', p.1 ∉ as → hs.get? p.1 = none) → R (.ok (.ret v)) { s with heap := h', toks := tk' }) (T' : KtsTurn fs g₀ h₀') (F : Fr h₀' L h' m) (N : News h₀' L h' big) (B : Below A₀ base outer h₀') (D : KtsDicts fs h₀') (K : KeepsT hs h' as fs') (n : ∀ b, h₀.get? b = none → h₀'.get? b = none) (f : ∀ p ∈ big, p.1 ∉ as → hs.get? p.1 = none) (sub : ∀ p ∈ B4 x dx t n' hx' tkx' o' l' vs' c' ((T, listOf ts.toArray cT) :: (RR, listOf (rs.set i (.ref l')).toArray cR) :: ro), p ∈ big) (al : AllNA l' (B4 x dx t n₂ hx₂ tk₂ o₂ l vs₂ c₂ ((T, oT) :: (RR, oR) :: ro))) (d : IsD prog w o' ks') (j : IsL ks' vs') (lo : (t == sysModules) = false) : R (.ok (.ret (.bool true))) { s with heap := h', toks := tk' } :=
  fin_DP (x' := x) (dx' := dx) (t' := t) (l' := l') (n' := n') (hx' := hx') (tkx' := tkx') (c' := c') (cT := cT) (cR := cR) (o' := o') (vs' := vs') h T' F (by rw [es]; exact news_sub N sub) B D K n (by rw [es]; exact fresh_sub f sub) d j lo (nd_row rfl al nd) rfl
/-- the thing is new, its row the old one -/
theorem fin_set (er : rs.set i (.ref l) = rs) (nd : NDL (B4 x dx t n hx tkx o l vs c ((T, listOf ts.toArray cT0) :: (RR, listOf rs.toArray cR0) :: ro))) (h : ∀ h' tk' v foot' h₀', DeedP prog w ts rs i T RR ro v foot' → KtsTurn fs g₀ h₀' → Fr h₀' L h' m → News h₀' L h' foot' → Below A₀ base outer h₀' → KtsDicts fs h₀' → KeepsT hs h' as fs' → (∀ b, h₀.get? b = none → h₀'.get? b = none) → (∀ p ∈ foot', p.1 ∉ as → hs.get? p.1 = none) → R (.ok (.ret v)) { s with heap := h', toks := tk' }) (T' : KtsTurn fs g₀ h₀') (F : Fr h₀' L h' m) (N : News h₀' L h' big) (B : Below A₀ base outer h₀') (D : KtsDicts fs h₀') (K : KeepsT hs h' as fs') (n : ∀ b, h₀.get? b = none → h₀'.get? b = none) (f : ∀ p ∈ big, p.1 ∉ as → hs.get? p.1 = none) (sub : ∀ p ∈ B4 x' dx' t' n' hx' tkx' o' l vs' c' ((T, listOf (ts.set i (.ref x')).toArray cT) :: (RR, listOf rs.toArray cR) :: ro), p ∈ big) (xd : dx' < x') (xt : x' < t') (ax : AllNA x' (B4 x dx t n₂ hx₂ tk₂ o₂ l vs₂ c₂ ((T, oT) :: (RR, oR) :: ro))) (ad : AllNA dx' (B4 x dx t n₂ hx₂ tk₂ o₂ l vs₂ c₂ ((T, oT) :: (RR, oR) :: ro))) (at_ : AllNA t' (B4 x dx t n₂ hx₂ tk₂ o₂ l vs₂ c₂ ((T, oT) :: (RR, oR) :: ro))) (d : IsD prog w o' ks') (j : IsL ks' vs') (lo : (t' == sysModules) = false) : R (.ok (.ret (.bool true))) { s with heap := h', toks := tk' } :=
  fin_DP (x' := x') (dx' := dx') (t' := t') (l' := l) (n' := n') (hx' := hx') (tkx' := tkx') (c' := c') (cT := cT) (cR := cR) (o' := o') (vs' := vs') h T' F (by rw [er]; exact news_sub N sub) B D K n (by rw [er]; exact fresh_sub f sub) d j lo (nd_set rfl xd xt ax ad at_ nd) rfl
/-- both are new -/
theorem fin_new (nd : NDL (B4 x dx t n hx tkx o l vs c ((T, listOf ts.toArray cT0) :: (RR, listOf rs.toArray cR0) :: ro))) (h : ∀ h' tk' v foot' h₀', DeedP prog w ts rs i T RR ro v foot' → KtsTurn fs g₀ h₀' → Fr h₀' L h' m → News h₀' L h' foot' → Below A₀ base outer h₀' → KtsDicts fs h₀' → KeepsT hs h' as fs' → (∀ b, h₀.get? b = none → h₀'.get? b = none) → (∀ p ∈ foot', p.1 ∉ as → hs.get? p.1 = none) → R (.ok (.ret v)) { s with heap := h', toks := tk' }) (T' : KtsTurn fs g₀ h₀') (F : Fr h₀' L h' m) (N : News h₀' L h' big) (B : Below A₀ base outer h₀') (D : KtsDicts fs h₀') (K : KeepsT hs h' as fs') (n : ∀ b, h₀.get? b = none → h₀'.get? b = none) (f : ∀ p ∈ big, p.1 ∉ as → hs.get? p.1 = none) (sub : ∀ p ∈ B4 x' dx' t' n' hx' tkx' o' l' vs' c' ((T, listOf (ts.set i (.ref x')).toArray cT) :: (RR, listOf (rs.set i (.ref l')).toArray cR) :: ro), p ∈ big) (xd : dx' < x') (xt : x' < t') (ax : AllNA x' (B4 x dx t n₂ hx₂ tk₂ o₂ l vs₂ c₂ ((T, oT) :: (RR, oR) :: ro))) (ad : AllNA dx' (B4 x dx t n₂ hx₂ tk₂ o₂ l vs₂ c₂ ((T, oT) :: (RR, oR) :: ro))) (at_ : AllNA t' (B4 x dx t n₂ hx₂ tk₂ o₂ l vs₂ c₂ ((T, oT) :: (RR, oR) :: ro))) (al : AllNA l' ((x', p1) :: (dx', p2) :: (t', p3) :: B4 x dx t n₂ hx₂ tk₂ o₂ l vs₂ c₂ ((T, oT) :: (RR, oR) :: ro))) (d : IsD prog w o' ks') (j : IsL ks' vs') (lo : (t' == sysModules) = false) : R (.ok (.ret (.bool true))) { s with heap := h', toks := tk' } :=
  fin_DP (x' := x') (dx' := dx') (t' := t') (l' := l') (n' := n') (hx' := hx') (tkx' := tkx') (c' := c') (cT := cT) (cR := cR) (o' := o') (vs' := vs') h T' F (news_sub N sub) B D K n (fresh_sub f sub) d j lo (nd_new rfl xd xt ax ad at_ al nd) rfl
end
theorem sub_B4 {x' dx' t' n' l' c' : Nat} {hx' : Int} {tk' : Tok} {o' : Obj} {vs' : List Value} {T RR : Addr} {oT oR : Obj} {ro news : List (Addr × Obj)} (mT : (T, oT) ∈ news) (mR : (RR, oR) ∈ news) (mx : (x', instObj 270 dx') ∈ news) (md : (dx', dictOf [⟨hx', .str "table" tk', .ref t'⟩] n') ∈ news) (mt : (t', o') ∈ news) (ml : (l', listOf vs'.toArray c') ∈ news) (mro : ∀ p ∈ ro, p ∈ news) :
    ∀ p ∈ B4 x' dx' t' n' hx' tk' o' l' vs' c' ((T, oT) :: (RR, oR) :: ro), p ∈ news := by
  intro p hp
  simp only [B4, List.mem_cons] at hp
  rcases hp with rfl | rfl | rfl | rfl | rfl | rfl | hp
  · exact mt
  · exact mx
  · exact md
  · exact ml
  · exact mT
  · exact mR
  · exact mro p hp
theorem set_same {ts : List Value} {i : Nat} {v : Value} (h : ts[i]? = some v) : ts.set i v = ts := by
  obtain ⟨hlt, e⟩ := List.getElem?_eq_some_iff.mp h
  rw [← e]; exact List.set_getElem_self hlt
section
variable {prog : Program} {w : World} {A₀ A : Around} {s : Shared} {base h₀ g₀ : Heap} {outer : List Env} {L ca : Addr} {m : Str → Option Value} {cn : Str} {cs : Scope} {ccd : Value} {news ro : List (Addr × Obj)} {lv : Nat}
  {R : Result → Shared → Prop} {f : Addr} {args : List Value} {t l c : Nat} {o : Obj} {vs : List Value}
/-- a single deed within a ledger -/
theorem CtrT.deedS (k : CtrT prog w lv f args ((t, o) :: (l, listOf vs.toArray c) :: ro) (DeedS prog w t l ro)) (C : Cx w lv A₀ A base outer h₀ L m (envOf cn cs L ca ccd) s.heap) (N : News h₀ L s.heap ((t, o) :: (l, listOf vs.toArray c) :: ro ++ news)) (T0 : KtsTurn (outer.filterMap (·.frame)) g₀ h₀)
    (ht : AllNA t news) (hl : AllNA l news)
    (h : ∀ h' tk' h₀' o' ks' vs' c', IsD prog w o' ks' → IsL ks' vs' → KtsTurn (outer.filterMap (·.frame)) g₀ h₀' → Fr h₀' L h' m → News h₀' L h' ((t, o') :: (l, listOf vs'.toArray c') :: ro ++ news) → Below A₀ base outer h₀' → KtsDicts (outer.filterMap (·.frame)) h₀' → R (.ok (.ret (.bool true))) { s with heap := h', toks := tk' }) :
    codeAny (model prog w) A (.call (.ref f) ⟨args, []⟩) R s := by
  refine k.use C N T0 (fun p hp => List.mem_append_left _ hp) fun h' tk' v ft h₀' hp T' F' nw B' D' _ => ?_
  obtain ⟨o', ks', vs', c', rfl, d, i, rfl⟩ := hp
  refine h h' tk' h₀' o' ks' vs' c' d i T' F' (nw _ fun p hp => ?_) B' D'
  rcases List.mem_append.mp hp with hp | hp
  · exact .inl hp
  · by_cases hr : p.1 ∈ ((t, o) :: (l, listOf vs.toArray c) :: ro).map (·.1)
    · obtain ⟨z, hz, eq⟩ := List.mem_map.mp hr
      rcases List.mem_cons.mp hz with rfl | hz
      · exact absurd eq.symm (allNA_ne ht p hp)
      · rcases List.mem_cons.mp hz with rfl | hz
        · exact absurd eq.symm (allNA_ne hl p hp)
        · have := news_fun N (List.mem_append_left _ (List.mem_cons_of_mem _ (List.mem_cons_of_mem _ hz))) (List.mem_append_right _ hp) eq
          exact .inl (List.mem_cons_of_mem _ (List.mem_cons_of_mem _ (this ▸ hz)))
    · exact .inr ⟨List.mem_append_right _ hp, hr⟩
end
section
variable {prog : Program} {w : World} {ro : List (Addr × Obj)} {num : Int} {t1 t2 : Tok}
theorem items2 (hN : 0 ≤ num) : Ctr prog w 4 290 [.int num t1, .int 2 t2] ro (MakesL (fun ks => ks.length = 2) ro) := law_items_c (sz := 2) hN (by decide)
theorem items3 (hN : 0 ≤ num) : Ctr prog w 4 290 [.int num t1, .int 3 t2] ro (MakesL (fun ks => ks.length = 3) ro) := law_items_c (sz := 3) hN (by decide)
theorem items4 (hN : 0 ≤ num) : Ctr prog w 4 290 [.int num t1, .int 4 t2] ro (MakesL (fun ks => ks.length = 4) ro) := law_items_c (sz := 4) hN (by decide)
theorem items5 (hN : 0 ≤ num) : Ctr prog w 4 290 [.int num t1, .int 5 t2] ro (MakesL (fun ks => ks.length = 5) ro) := law_items_c (sz := 5) hN (by decide)
end
theorem allNA_sub {d : Nat} {l : List (Addr × Obj)} (h : AllLt d l) : AllNA d l := allNA_lt h
section
variable {prog : Program} {w : World} {A : Around} {E : Value → Shared → Prop} {s : Shared} {h₀ : Heap} {L : Addr} {news : List (Addr × Obj)} {a b da db : Nat} {Q : Value → Shared → Prop}
theorem is_apart (N : News h₀ L s.heap news) (ma : (a, instObj 270 da) ∈ news) (mb : (b, instObj 270 db) ∈ news) (h : NeA a b) (q : Q (.bool false) s) : wpAny (model prog w) A (compareOp .Is (.ref a) (.ref b)) Q E s :=
  kto_is (N _ ma).1 (N _ mb).1 h (fun e => nomatch e) q
end
section
variable {prog : Program} {w : World} {A₀ A : Around} {s : Shared} {base h₀ g₀ : Heap} {outer : List Env} {L ca : Addr} {m : Str → Option Value} {cn : Str} {cs : Scope} {ccd : Value} {news ro : List (Addr × Obj)} {lv : Nat}
  {R : Result → Shared → Prop} {f : Addr} {args : List Value} {t l c : Nat} {o : Obj} {vs : List Value}
/-- a single deed within any ledger -/
theorem CtrT.deedU {g1 : Obj → List (Addr × Obj)} {g2 : Obj → Obj → List (Addr × Obj)} (k : CtrT prog w lv f args ((t, o) :: (l, listOf vs.toArray c) :: ro) (DeedS prog w t l ro)) (C : Cx w lv A₀ A base outer h₀ L m (envOf cn cs L ca ccd) s.heap) (N : News h₀ L s.heap news) (T0 : KtsTurn (outer.filterMap (·.frame)) g₀ h₀)
    (hl : (l, listOf vs.toArray c) ∈ news) (hsub : ∀ p ∈ ro, p ∈ news) (U1 : UpdF t o news g1) (U2 : ∀ o', UpdF l (listOf vs.toArray c) (g1 o') (g2 o'))
    (h : ∀ h' tk' h₀' o' ks' vs' c', IsD prog w o' ks' → IsL ks' vs' → KtsTurn (outer.filterMap (·.frame)) g₀ h₀' → Fr h₀' L h' m → News h₀' L h' (g2 o' (listOf vs'.toArray c')) → Below A₀ base outer h₀' → KtsDicts (outer.filterMap (·.frame)) h₀' → R (.ok (.ret (.bool true))) { s with heap := h', toks := tk' }) :
    codeAny (model prog w) A (.call (.ref f) ⟨args, []⟩) R s := by
  obtain ⟨pre, pos, e, hg, a1, b1⟩ := U1.split
  have hm : (t, o) ∈ news := by rw [e]; simp
  refine k.use C N T0 (fun p hp => ?_) fun h' tk' v ft h₀' hp T' F' nw B' D' _ => ?_
  · rcases List.mem_cons.mp hp with rfl | hp
    · exact hm
    · rcases List.mem_cons.mp hp with rfl | hp
      · exact hl
      · exact hsub p hp
  obtain ⟨o', ks', vs', c', rfl, d, i, rfl⟩ := hp
  refine h h' tk' h₀' o' ks' vs' c' d i T' F' (nw _ fun p hp => ?_) B' D'
  obtain ⟨pre2, pos2, e2, hg2, a2, b2⟩ := (U2 o').split
  rw [hg2] at hp
  have last : p ∈ news → p.1 ≠ t → p.1 ≠ l → p ∈ (t, o') :: (l, listOf vs'.toArray c') :: ro ∨ (p ∈ news ∧ p.1 ∉ ((t, o) :: (l, listOf vs.toArray c) :: ro).map (·.1)) := fun hpn nt nl => by
    by_cases hr : p.1 ∈ ((t, o) :: (l, listOf vs.toArray c) :: ro).map (·.1)
    · obtain ⟨z, hz, eq⟩ := List.mem_map.mp hr
      rcases List.mem_cons.mp hz with rfl | hz
      · exact absurd eq.symm nt
      · rcases List.mem_cons.mp hz with rfl | hz
        · exact absurd eq.symm nl
        · have := news_fun N (hsub z hz) hpn eq
          exact .inl (List.mem_cons_of_mem _ (List.mem_cons_of_mem _ (this ▸ hz)))
    · exact .inr ⟨hpn, hr⟩
  have mid : p ∈ g1 o' → p.1 ≠ l → p ∈ (t, o') :: (l, listOf vs'.toArray c') :: ro ∨ (p ∈ news ∧ p.1 ∉ ((t, o) :: (l, listOf vs.toArray c) :: ro).map (·.1)) := fun hpg nl => by
    rw [hg] at hpg
    rcases List.mem_append.mp hpg with z | z
    · exact last (by rw [e]; simp [z]) (a1 p z) nl
    · rcases List.mem_cons.mp z with rfl | z
      · exact .inl (.head _)
      · exact last (by rw [e]; simp [z]) (b1 p z) nl
  rcases List.mem_append.mp hp with z | z
  · exact mid (by rw [e2]; simp [z]) (a2 p z)
  · rcases List.mem_cons.mp z with rfl | z
    · exact .inl (.tail _ (.head _))
    · exact mid (by rw [e2]; simp [z]) (b2 p z)
end
theorem say49 : True := by
  k_with "j.subscr" => ((k_here; (with_reducible show wpAny _ _ (subscriptTail _ _ (Value.ref _) (Value.int _ _)) _ _ _); with_unfolding_all (refine' lRef ?N_z186 ?m_z186 ?z_z186 ?k_z186 ?f_z186 ?_; (case N_z186 => k_asm); (case m_z186 => k_mem); (case k_z186 => assumption); (case z_z186 => omega); (case f_z186 => omega))))
  k_with "j.setItem ref int" => ((k_here; (with_reducible show wpAny _ _ (setItem (Value.ref _) (Value.int _ _) _) _ _ _); k_dflt (refine' lSet ?F_z187 ?N_z187 ?U_z187 ?z_z187 ?o_z187 ?h_z187 ?_; (case F_z187 => k_asm); (case N_z187 => k_asm); (case U_z187 => k_updF); (case z_z187 => first | assumption | omega); (case o_z187 => first | assumption | omega); (case h_z187 => first | assumption | omega)); intro h'w F'w N'w; (try dsimp only at N'w); (try k_sweep)))
  k_with "j.ne" => (first | assumption | exact neA_out (by assumption) | exact (neA_out (by assumption)).symm | exact allNA_at (by assumption) (by k_mem) | exact (allNA_at (by assumption) (by k_mem)).symm | omega)
  k_with "j.path" => (first | exact UpdP.head | (refine' UpdP.tail ?b_z189; (case b_z189 => k_extra "j.path")))
  k_with "j.ana" => (first | assumption | exact trivial | (refine' allNA_map ?e_z190 ?h_z190; (case h_z190 => assumption); (case e_z190 => exact rfl)) | (refine' AllNA.cons ?n_z190 ?r_z190; (case n_z190 => first | assumption | exact NeA.symm (by assumption) | exact neA_of (by omega)); (case r_z190 => k_extra "j.ana")))
  k_with "j.ndl" => (first | assumption | exact trivial | (refine' ndl_map ?e_z191 ?h_z191; (case h_z191 => assumption); (case e_z191 => exact rfl)) | (refine' NDL.cons ?a_z191 ?b_z191; (case a_z191 => k_extra "j.ana"); (case b_z191 => k_extra "j.ndl")))
  trivial
local macro_rules | `(tactic| k_updF) => `(tactic| (refine' updF_nd ?nd ?p; (case p => k_extra "j.path"); (case nd => k_extra "j.ndl")))
local macro_rules | `(tactic| k_mem) => `(tactic| first | exact InB.at (by assumption) | fail "no place")
theorem say50 : True := by
  k_with "j.lpost" => ((intro h'w tk'w l'w ks'w vs'w c'w P'w I'w l1 F'w N'w; (try dsimp only at P'w); (try subst P'w); (try dsimp only [PySem.W.CmpBack, PySem.W.LenBack, PySem.W.BoolBack]); (try k_sweep)))
  k_with "j.binaryOp Add ref ref" => ((k_here; k_dflt (refine' lConcat ?F_z193 ?N_z193 ?m_z193 ?i_z193 ?n_z193 ?j_z193 ?z_z193 ?_; (case F_z193 => k_asm); (case N_z193 => k_asm); (case m_z193 => k_mem); (case n_z193 => k_mem); (case i_z193 => assumption); (case j_z193 => assumption); (case z_z193 => k_extra "j.sz")); intro l'w h'w vs'w F'w N'w l1 I'w; (replace l1 := allNA_lt l1); (try k_sweep)))
  k_with "j.newList" => ((k_here; k_dflt (refine' newList_K ?k1_z194 ?k2_z194 ?_; (case k1_z194 => k_asm); (case k2_z194 => k_asm); k_whole); intro l'w h'w F'w N'w l1; (replace l1 := allNA_lt (allLt_of l1)); (try k_sweep)))
  k_with "j.endS" => ((refine' fin_same ?es_z195 ?er_z195 ?nd_z195 (by assumption) ?T_z195 ?F_z195 ?N_z195 ?B_z195 ?D_z195 ?K_z195 ?n_z195 ?f_z195 ?sub_z195 ?d_z195 ?j_left ?lo_z195; (case es_z195 => assumption); (case er_z195 => assumption); (case nd_z195 => assumption); (case T_z195 => assumption); (case F_z195 => assumption); (case N_z195 => assumption); (case B_z195 => assumption); (case D_z195 => assumption); (case K_z195 => assumption); (case n_z195 => assumption); (case f_z195 => assumption); (case sub_z195 => k_extra "j.sB"); (case lo_z195 => assumption); (case d_z195 => assumption)))
  k_with "j.endR" => ((refine' fin_row ?es_z196 ?nd_z196 (by assumption) ?T_z196 ?F_z196 ?N_z196 ?B_z196 ?D_z196 ?K_z196 ?n_z196 ?f_z196 ?sub_z196 ?al_z196 ?d_z196 ?j_left ?lo_z196; (case es_z196 => assumption); (case nd_z196 => assumption); (case T_z196 => assumption); (case F_z196 => assumption); (case N_z196 => assumption); (case B_z196 => assumption); (case D_z196 => assumption); (case K_z196 => assumption); (case n_z196 => assumption); (case f_z196 => assumption); (case sub_z196 => k_extra "j.sB"); (case lo_z196 => assumption); (case d_z196 => assumption); (case al_z196 => first | assumption | exact AllNA.tl (by assumption) | exact AllNA.tl (AllNA.tl (by assumption)) | exact AllNA.tl (AllNA.tl (AllNA.tl (by assumption))) | exact AllNA.tl (AllNA.tl (AllNA.tl (AllNA.tl (by assumption)))))))
  k_with "j.endX" => ((refine' fin_set ?er_z197 ?nd_z197 (by assumption) ?T_z197 ?F_z197 ?N_z197 ?B_z197 ?D_z197 ?K_z197 ?n_z197 ?f_z197 ?sub_z197 ?xd_z197 ?xt_z197 ?ax_z197 ?ad_z197 ?aT_z197 ?d_z197 ?j_left ?lo_z197; (case er_z197 => assumption); (case nd_z197 => assumption); (case T_z197 => assumption); (case F_z197 => assumption); (case N_z197 => assumption); (case B_z197 => assumption); (case D_z197 => assumption); (case K_z197 => assumption); (case n_z197 => assumption); (case f_z197 => assumption); (case sub_z197 => k_extra "j.sB"); (case lo_z197 => assumption); (case d_z197 => assumption); (case xd_z197 => assumption); (case xt_z197 => assumption); (case ax_z197 => assumption); (case ad_z197 => assumption); (case aT_z197 => assumption)))
  k_with "j.endN" => ((refine' fin_new ?nd_z198 (by assumption) ?T_z198 ?F_z198 ?N_z198 ?B_z198 ?D_z198 ?K_z198 ?n_z198 ?f_z198 ?sub_z198 ?xd_z198 ?xt_z198 ?ax_z198 ?ad_z198 ?aT_z198 ?al_z198 ?d_z198 ?j_left ?lo_z198; (case nd_z198 => assumption); (case T_z198 => assumption); (case F_z198 => assumption); (case N_z198 => assumption); (case B_z198 => assumption); (case D_z198 => assumption); (case K_z198 => assumption); (case n_z198 => assumption); (case f_z198 => assumption); (case sub_z198 => k_extra "j.sB"); (case lo_z198 => assumption); (case d_z198 => assumption); (case xd_z198 => assumption); (case xt_z198 => assumption); (case ax_z198 => assumption); (case ad_z198 => assumption); (case aT_z198 => assumption); (case al_z198 => assumption)))
  k_with "j.call ref" => ((k_here; (with_reducible show wpAny _ _ (call (Value.ref 290) [Value.int _ _, Value.int 2 _]) _ _ _); refine wpAny_call ?_; k_dflt (refine' Ctr.makeL (items2 ?hN_z199) ?C_z199 ?N_z199 ?_; (case C_z199 => k_extra "j.cx"); (case N_z199 => k_asm); (case hN_z199 => first | assumption | omega)); k_extra "j.lpost"))
  k_with "j.call ref" => ((k_here; (with_reducible show wpAny _ _ (call (Value.ref 290) [Value.int _ _, Value.int 3 _]) _ _ _); refine wpAny_call ?_; k_dflt (refine' Ctr.makeL (items3 ?hN_z200) ?C_z200 ?N_z200 ?_; (case C_z200 => k_extra "j.cx"); (case N_z200 => k_asm); (case hN_z200 => first | assumption | omega)); k_extra "j.lpost"))
  k_with "j.call ref" => ((k_here; (with_reducible show wpAny _ _ (call (Value.ref 290) [Value.int _ _, Value.int 4 _]) _ _ _); refine wpAny_call ?_; k_dflt (refine' Ctr.makeL (items4 ?hN_z201) ?C_z201 ?N_z201 ?_; (case C_z201 => k_extra "j.cx"); (case N_z201 => k_asm); (case hN_z201 => first | assumption | omega)); k_extra "j.lpost"))
  k_with "j.call ref" => ((k_here; (with_reducible show wpAny _ _ (call (Value.ref 290) [Value.int _ _, Value.int 5 _]) _ _ _); refine wpAny_call ?_; k_dflt (refine' Ctr.makeL (items5 ?hN_z202) ?C_z202 ?N_z202 ?_; (case C_z202 => k_extra "j.cx"); (case N_z202 => k_asm); (case hN_z202 => first | assumption | omega)); k_extra "j.lpost"))
  k_with "j.compareOp Is ref ref" => ((k_here; (with_reducible show wpAny _ _ (compareOp CmpOp.Is (Value.ref _) (Value.ref _)) _ _ _); k_dflt (refine' is_apart ?N_z203 ?a_z203 ?b_z203 ?n_z203 ?_; (case N_z203 => k_asm); (case a_z203 => k_mem); (case b_z203 => k_mem); (case n_z203 => k_extra "j.na1"))))
  k_with "j.na1" => (first | assumption | exact NeA.symm (by assumption) | exact neA_of (allNA_at (by assumption) (by k_mem)) | exact NeA.symm (neA_of (allNA_at (by assumption) (by k_mem))))
  k_with "j.subscriptTail Name Slice ref ref" => ((k_here; k_dflt (refine' lSlice ?F_z205 ?N_z205 ?m_z205 ?i_z205 ?z_z205 ?_; (case F_z205 => k_asm); (case N_z205 => k_asm); (case m_z205 => k_mem); (case i_z205 => assumption); (case z_z205 => k_extra "j.sz")); intro l'w h'w F'w N'w l1; (replace l1 := allNA_lt l1); (try k_sweep)))
  k_with "j.mkpost" => ((intro h'w tk'w x'w dx'w t'w n'w hx'w tkx'w o'w S'w l1 F'w N'w; (have xd'w := NewS.xd S'w); (have xt'w := NewS.xt S'w); (have lo'w := NewS.lo S'w); (have D'w := NewS.dict S'w); (have n1'w := allNA_lt (allLt_low l1 (Nat.le_of_lt xd'w))); (have n2'w := allNA_lt (allLt_low l1 (Nat.le_of_lt (Nat.lt_trans xd'w xt'w)))); (have n3'w := allNA_lt l1); (have e1'w := neA_of (Nat.ne_of_lt xd'w)); (have e2'w := neA_of (Nat.ne_of_lt xt'w)); (have e3'w := neA_of (Nat.ne_of_lt (Nat.lt_trans xd'w xt'w))); (try k_sweep)))
  k_with "j.dpostU" => ((intro h'w tk'w g'w o'w ks'w vs'w c'w D0'w I'w T0'w F'w N'w B'w D'w; (have TG'w := Top.keeps (by assumption) (Below.stays B'w)); (have XG'w := Frag.In.keeps (by assumption) (Below.stays B'w)); (try dsimp only at N'w); (try k_sweep)))
  k_with "j.call ref" => ((k_here; (with_reducible show wpAny _ _ (call (Value.ref 342) _) _ _ _); refine wpAny_call ?_; k_dflt (refine' CtrT.deedU (ds_c ?h0_z208 ?h5_z208 ?hN_z208 ?hi_z208 ?lo_z208 ?ho_z208 ?xt_z208 ?dt_z208 ?lt_z208 ?lx_z208 ?ldx_z208) ?C_z208 ?N_z208 ?T0_z208 ?hl_z208 ?sub_z208 ?U1_z208 ?U2_z208 ?_; (case C_z208 => k_extra "j.cx"); (case N_z208 => k_asm); (case T0_z208 => first | assumption | exact KtsTurn.refl); (case hl_z208 => k_mem); (case sub_z208 => k_extra "j.sub"); (case U1_z208 => k_updF); (case U2_z208 => (intro o'w; k_updF)); (case ho_z208 => assumption); (case lo_z208 => assumption); (case hi_z208 => assumption); (case h0_z208 => first | assumption | omega); (case h5_z208 => first | assumption | omega); (case hN_z208 => first | assumption | omega); (case xt_z208 => k_extra "j.ne"); (case dt_z208 => k_extra "j.ne"); (case lt_z208 => k_extra "j.ne"); (case lx_z208 => k_extra "j.ne"); (case ldx_z208 => k_extra "j.ne")); k_extra "j.dpostU"))
  k_with "j.sB" => ((refine' sub_B4 ?mT_z209 ?mR_z209 ?mx_z209 ?md_z209 ?mt_z209 ?ml_z209 ?mro_z209; (case mT_z209 => k_mem); (case mR_z209 => k_mem); (case mx_z209 => k_mem); (case md_z209 => k_mem); (case mt_z209 => k_mem); (case ml_z209 => k_mem); (case mro_z209 => (intro p hp; repeat (first | exact hp | apply List.mem_cons_of_mem)))))
  trivial

theorem say51 : True := by
  k_with "j.steps.JD" => (repeat' (first | ((fail_if_success (first | (with_reducible show wpAny _ _ (isTrue (PySem.Expr.BoolOp BoolOp.Or _ _) _ _) _ _ _) | (with_reducible show wpAny _ _ (execs (Stmt.If (PySem.Expr.Compare (PySem.Expr.Name ("way" : Str) _) _ [PySem.Expr.Constant _ _ _] _) _ _ _ :: _) _) _ _ _) | (k_extra "j.stop"))); first | (k_unfold; (try dsimp only)) | (k_end; wrow_close) | walk1 | (dsimp only; walk1) | (leave1; walk_say "STEP leave1"; try dsimp only)) | fail "no step"))
  k_with "j.upto.JD" => (repeat' (first | ((fail_if_success (first | (first | (with_reducible show wpAny _ _ (isTrue (PySem.Expr.BoolOp BoolOp.Or _ _) _ _) _ _ _) | (with_reducible show wpAny _ _ (execs (Stmt.If (PySem.Expr.Compare (PySem.Expr.Name ("way" : Str) _) _ [PySem.Expr.Constant _ _ _] _) _ _ _ :: _) _) _ _ _) | (k_extra "j.stop")) | with_reducible show wpAny _ _ (execs (Stmt.If _ _ _ _ :: _) _) _ _ _)); first | (k_unfold; (try dsimp only)) | (k_end; wrow_close) | walk1 | (dsimp only; walk1) | (leave1; walk_say "STEP leave1"; try dsimp only)) | fail "no step"))
  trivial
theorem kinds_even {k : Int} (h : (12 ≤ k ∧ k < 16) ∨ (20 ≤ k ∧ k < 24)) : ((k - 12).fdiv 4 = 0 ∧ k.fmod 4 = 0) ∨ ((k - 12).fdiv 4 = 0 ∧ k.fmod 4 = 1) ∨ ((k - 12).fdiv 4 = 0 ∧ k.fmod 4 = 2) ∨ ((k - 12).fdiv 4 = 0 ∧ k.fmod 4 = 3) ∨ ((k - 12).fdiv 4 = 2 ∧ k.fmod 4 = 0) ∨ ((k - 12).fdiv 4 = 2 ∧ k.fmod 4 = 1) ∨ ((k - 12).fdiv 4 = 2 ∧ k.fmod 4 = 2) ∨ ((k - 12).fdiv 4 = 2 ∧ k.fmod 4 = 3) ∨ ((k - 12).fdiv 4 = 4 ∧ k.fmod 4 = 0) := by
  rcases (by omega : k = 12 ∨ k = 13 ∨ k = 14 ∨ k = 15 ∨ k = 20 ∨ k = 21 ∨ k = 22 ∨ k = 23) with rfl | rfl | rfl | rfl | rfl | rfl | rfl | rfl <;> decide
theorem kinds_odd {k : Int} (h : (16 ≤ k ∧ k < 20) ∨ (24 ≤ k ∧ k < 28)) : ((k - 12).fdiv 4 = 1 ∧ k.fmod 4 = 0) ∨ ((k - 12).fdiv 4 = 1 ∧ k.fmod 4 = 1) ∨ ((k - 12).fdiv 4 = 1 ∧ k.fmod 4 = 2) ∨ ((k - 12).fdiv 4 = 1 ∧ k.fmod 4 = 3) ∨ ((k - 12).fdiv 4 = 3 ∧ k.fmod 4 = 0) ∨ ((k - 12).fdiv 4 = 3 ∧ k.fmod 4 = 1) ∨ ((k - 12).fdiv 4 = 3 ∧ k.fmod 4 = 2) ∨ ((k - 12).fdiv 4 = 3 ∧ k.fmod 4 = 3) ∨ ((k - 12).fdiv 4 = 5 ∧ k.fmod 4 = 0) := by
  rcases (by omega : k = 16 ∨ k = 17 ∨ k = 18 ∨ k = 19 ∨ k = 24 ∨ k = 25 ∨ k = 26 ∨ k = 27) with rfl | rfl | rfl | rfl | rfl | rfl | rfl | rfl <;> decide
theorem way_even {k : Int} (h : (12 ≤ k ∧ k < 16) ∨ (20 ≤ k ∧ k < 24)) : ((k - 12).fdiv 4 == 4) = false ∧ (((k - 12).fdiv 4).fmod 2 == 1) = false := by
  rcases (by omega : k = 12 ∨ k = 13 ∨ k = 14 ∨ k = 15 ∨ k = 20 ∨ k = 21 ∨ k = 22 ∨ k = 23) with rfl | rfl | rfl | rfl | rfl | rfl | rfl | rfl <;> decide
theorem way_odd {k : Int} (h : (16 ≤ k ∧ k < 20) ∨ (24 ≤ k ∧ k < 28)) : ((k - 12).fdiv 4 == 4) = false ∧ (((k - 12).fdiv 4).fmod 2 == 1) = true := by
  rcases (by omega : k = 16 ∨ k = 17 ∨ k = 18 ∨ k = 19 ∨ k = 24 ∨ k = 25 ∨ k = 26 ∨ k = 27) with rfl | rfl | rfl | rfl | rfl | rfl | rfl | rfl <;> decide
theorem way_last {k : Int} (h : 28 ≤ k ∧ k < 32) : ((k - 12).fdiv 4 == 4) = true := by
  rcases (by omega : k = 28 ∨ k = 29 ∨ k = 30 ∨ k = 31) with rfl | rfl | rfl | rfl <;> decide
theorem last_even {k : Int} (h : k = 28 ∨ k = 30) : ((4 + (k.fmod 4).fmod 2 = 0 ∧ (0 : Int) = 0) ∨ (4 + (k.fmod 4).fmod 2 = 0 ∧ (0 : Int) = 1) ∨ (4 + (k.fmod 4).fmod 2 = 0 ∧ (0 : Int) = 2) ∨ (4 + (k.fmod 4).fmod 2 = 0 ∧ (0 : Int) = 3) ∨ (4 + (k.fmod 4).fmod 2 = 2 ∧ (0 : Int) = 0) ∨ (4 + (k.fmod 4).fmod 2 = 2 ∧ (0 : Int) = 1) ∨ (4 + (k.fmod 4).fmod 2 = 2 ∧ (0 : Int) = 2) ∨ (4 + (k.fmod 4).fmod 2 = 2 ∧ (0 : Int) = 3) ∨ (4 + (k.fmod 4).fmod 2 = 4 ∧ (0 : Int) = 0)) ∧ ((4 + (k.fmod 4).fmod 2).fmod 2 == 1) = false := by
  rcases h with rfl | rfl <;> decide
theorem last_odd {k : Int} (h : k = 29 ∨ k = 31) : ((4 + (k.fmod 4).fmod 2 = 1 ∧ (0 : Int) = 0) ∨ (4 + (k.fmod 4).fmod 2 = 1 ∧ (0 : Int) = 1) ∨ (4 + (k.fmod 4).fmod 2 = 1 ∧ (0 : Int) = 2) ∨ (4 + (k.fmod 4).fmod 2 = 1 ∧ (0 : Int) = 3) ∨ (4 + (k.fmod 4).fmod 2 = 3 ∧ (0 : Int) = 0) ∨ (4 + (k.fmod 4).fmod 2 = 3 ∧ (0 : Int) = 1) ∨ (4 + (k.fmod 4).fmod 2 = 3 ∧ (0 : Int) = 2) ∨ (4 + (k.fmod 4).fmod 2 = 3 ∧ (0 : Int) = 3) ∨ (4 + (k.fmod 4).fmod 2 = 5 ∧ (0 : Int) = 0)) ∧ ((4 + (k.fmod 4).fmod 2).fmod 2 == 1) = true := by
  rcases h with rfl | rfl <;> decide
theorem hw_every {way which : Int} (h0 : 0 ≤ way) (h1 : way < 6) (h2 : 0 ≤ which) (h3 : which < 4) : (way = 0 ∧ which = 0) ∨ (way = 0 ∧ which = 1) ∨ (way = 0 ∧ which = 2) ∨ (way = 0 ∧ which = 3) ∨ (way = 1 ∧ which = 0) ∨ (way = 1 ∧ which = 1) ∨ (way = 1 ∧ which = 2) ∨ (way = 1 ∧ which = 3) ∨ (way = 2 ∧ which = 0) ∨ (way = 2 ∧ which = 1) ∨ (way = 2 ∧ which = 2) ∨ (way = 2 ∧ which = 3) ∨ (way = 3 ∧ which = 0) ∨ (way = 3 ∧ which = 1) ∨ (way = 3 ∧ which = 2) ∨ (way = 3 ∧ which = 3) ∨ (way = 4 ∧ which = 0) ∨ (way = 4 ∧ which = 1) ∨ (way = 4 ∧ which = 2) ∨ (way = 4 ∧ which = 3) ∨ (way = 5 ∧ which = 0) ∨ (way = 5 ∧ which = 1) ∨ (way = 5 ∧ which = 2) ∨ (way = 5 ∧ which = 3) := by
  obtain ⟨a, rfl⟩ := Int.eq_ofNat_of_zero_le h0
  obtain ⟨b, rfl⟩ := Int.eq_ofNat_of_zero_le h2
  have all : ∀ a : Fin 6, ∀ b : Fin 4, (((a.1 : Nat) : Int) = 0 ∧ ((b.1 : Nat) : Int) = 0) ∨ (((a.1 : Nat) : Int) = 0 ∧ ((b.1 : Nat) : Int) = 1) ∨ (((a.1 : Nat) : Int) = 0 ∧ ((b.1 : Nat) : Int) = 2) ∨ (((a.1 : Nat) : Int) = 0 ∧ ((b.1 : Nat) : Int) = 3) ∨ (((a.1 : Nat) : Int) = 1 ∧ ((b.1 : Nat) : Int) = 0) ∨ (((a.1 : Nat) : Int) = 1 ∧ ((b.1 : Nat) : Int) = 1) ∨ (((a.1 : Nat) : Int) = 1 ∧ ((b.1 : Nat) : Int) = 2) ∨ (((a.1 : Nat) : Int) = 1 ∧ ((b.1 : Nat) : Int) = 3) ∨ (((a.1 : Nat) : Int) = 2 ∧ ((b.1 : Nat) : Int) = 0) ∨ (((a.1 : Nat) : Int) = 2 ∧ ((b.1 : Nat) : Int) = 1) ∨ (((a.1 : Nat) : Int) = 2 ∧ ((b.1 : Nat) : Int) = 2) ∨ (((a.1 : Nat) : Int) = 2 ∧ ((b.1 : Nat) : Int) = 3) ∨ (((a.1 : Nat) : Int) = 3 ∧ ((b.1 : Nat) : Int) = 0) ∨ (((a.1 : Nat) : Int) = 3 ∧ ((b.1 : Nat) : Int) = 1) ∨ (((a.1 : Nat) : Int) = 3 ∧ ((b.1 : Nat) : Int) = 2) ∨ (((a.1 : Nat) : Int) = 3 ∧ ((b.1 : Nat) : Int) = 3) ∨ (((a.1 : Nat) : Int) = 4 ∧ ((b.1 : Nat) : Int) = 0) ∨ (((a.1 : Nat) : Int) = 4 ∧ ((b.1 : Nat) : Int) = 1) ∨ (((a.1 : Nat) : Int) = 4 ∧ ((b.1 : Nat) : Int) = 2) ∨ (((a.1 : Nat) : Int) = 4 ∧ ((b.1 : Nat) : Int) = 3) ∨ (((a.1 : Nat) : Int) = 5 ∧ ((b.1 : Nat) : Int) = 0) ∨ (((a.1 : Nat) : Int) = 5 ∧ ((b.1 : Nat) : Int) = 1) ∨ (((a.1 : Nat) : Int) = 5 ∧ ((b.1 : Nat) : Int) = 2) ∨ (((a.1 : Nat) : Int) = 5 ∧ ((b.1 : Nat) : Int) = 3) := by decide
  exact all ⟨a, by omega⟩ ⟨b, by omega⟩
theorem way_cases {k : Int} (h : 12 ≤ k) (h2 : k < 32) (h4 : ((k - 12).fdiv 4 == 4) = false) : (((((k - 12).fdiv 4 = 0 ∧ k.fmod 4 = 0) ∨ ((k - 12).fdiv 4 = 0 ∧ k.fmod 4 = 1) ∨ ((k - 12).fdiv 4 = 0 ∧ k.fmod 4 = 2) ∨ ((k - 12).fdiv 4 = 0 ∧ k.fmod 4 = 3) ∨ ((k - 12).fdiv 4 = 2 ∧ k.fmod 4 = 0) ∨ ((k - 12).fdiv 4 = 2 ∧ k.fmod 4 = 1) ∨ ((k - 12).fdiv 4 = 2 ∧ k.fmod 4 = 2) ∨ ((k - 12).fdiv 4 = 2 ∧ k.fmod 4 = 3) ∨ ((k - 12).fdiv 4 = 4 ∧ k.fmod 4 = 0)) ∧ (((k - 12).fdiv 4).fmod 2 == 1) = false) ∨ ((((k - 12).fdiv 4 = 1 ∧ k.fmod 4 = 0) ∨ ((k - 12).fdiv 4 = 1 ∧ k.fmod 4 = 1) ∨ ((k - 12).fdiv 4 = 1 ∧ k.fmod 4 = 2) ∨ ((k - 12).fdiv 4 = 1 ∧ k.fmod 4 = 3) ∨ ((k - 12).fdiv 4 = 3 ∧ k.fmod 4 = 0) ∨ ((k - 12).fdiv 4 = 3 ∧ k.fmod 4 = 1) ∨ ((k - 12).fdiv 4 = 3 ∧ k.fmod 4 = 2) ∨ ((k - 12).fdiv 4 = 3 ∧ k.fmod 4 = 3) ∨ ((k - 12).fdiv 4 = 5 ∧ k.fmod 4 = 0)) ∧ (((k - 12).fdiv 4).fmod 2 == 1) = true)) := by
  have h4' : ¬ (28 ≤ k) := fun q => by rw [way_last ⟨q, h2⟩] at h4; cases h4
  by_cases e : (12 ≤ k ∧ k < 16) ∨ (20 ≤ k ∧ k < 24)
  · exact .inl ⟨kinds_even e, (way_even e).2⟩
  · have o : (16 ≤ k ∧ k < 20) ∨ (24 ≤ k ∧ k < 28) := by omega
    exact .inr ⟨kinds_odd o, (way_odd o).2⟩
theorem last_cases {k : Int} (h : 12 ≤ k) (h2 : k < 32) (h4 : ((k - 12).fdiv 4 == 4) = true) : ((((4 + (k.fmod 4).fmod 2 = 0 ∧ (0 : Int) = 0) ∨ (4 + (k.fmod 4).fmod 2 = 0 ∧ (0 : Int) = 1) ∨ (4 + (k.fmod 4).fmod 2 = 0 ∧ (0 : Int) = 2) ∨ (4 + (k.fmod 4).fmod 2 = 0 ∧ (0 : Int) = 3) ∨ (4 + (k.fmod 4).fmod 2 = 2 ∧ (0 : Int) = 0) ∨ (4 + (k.fmod 4).fmod 2 = 2 ∧ (0 : Int) = 1) ∨ (4 + (k.fmod 4).fmod 2 = 2 ∧ (0 : Int) = 2) ∨ (4 + (k.fmod 4).fmod 2 = 2 ∧ (0 : Int) = 3) ∨ (4 + (k.fmod 4).fmod 2 = 4 ∧ (0 : Int) = 0)) ∧ ((4 + (k.fmod 4).fmod 2).fmod 2 == 1) = false) ∨ (((4 + (k.fmod 4).fmod 2 = 1 ∧ (0 : Int) = 0) ∨ (4 + (k.fmod 4).fmod 2 = 1 ∧ (0 : Int) = 1) ∨ (4 + (k.fmod 4).fmod 2 = 1 ∧ (0 : Int) = 2) ∨ (4 + (k.fmod 4).fmod 2 = 1 ∧ (0 : Int) = 3) ∨ (4 + (k.fmod 4).fmod 2 = 3 ∧ (0 : Int) = 0) ∨ (4 + (k.fmod 4).fmod 2 = 3 ∧ (0 : Int) = 1) ∨ (4 + (k.fmod 4).fmod 2 = 3 ∧ (0 : Int) = 2) ∨ (4 + (k.fmod 4).fmod 2 = 3 ∧ (0 : Int) = 3) ∨ (4 + (k.fmod 4).fmod 2 = 5 ∧ (0 : Int) = 0)) ∧ ((4 + (k.fmod 4).fmod 2).fmod 2 == 1) = true)) := by
  have h4' : 28 ≤ k := by
    refine Classical.byContradiction fun q => ?_
    have q' : k < 28 := by omega
    have : ((k - 12).fdiv 4 == 4) = false := by
      by_cases e : (12 ≤ k ∧ k < 16) ∨ (20 ≤ k ∧ k < 24)
      · exact (way_even e).1
      · exact (way_odd (by omega)).1
    rw [this] at h4; cases h4
  by_cases e : k = 28 ∨ k = 30
  · exact .inl (last_even e)
  · exact .inr (last_odd (by omega))
theorem fold_app {ks more : List PK} (h : ks.Nodup) : (ks ++ more).foldl ins [] = more.foldl ins ks := by rw [List.foldl_append, fold_ins_nil h]
section
variable {prog : Program} {w : World} {A₀ A : Around} {s : Shared} {base h₀ : Heap} {outer : List Env} {L : Addr} {m : Str → Option Value} {env : Env} {news : List (Addr × Obj)} {R : Result → Shared → Prop}
  {x dx t y dy u : Nat} {n n' : Nat} {hx hy : Int} {tkx tky : Tok} {o p : Obj} {ks qs : List PK} {way which : Int} {tw th : Tok}
/-- a join in place, with another or with itself -/
theorem joined_turn {g : Obj → List (Addr × Obj)} (hw : (way = 1 ∧ which = 0) ∨ (way = 1 ∧ which = 1) ∨ (way = 1 ∧ which = 2) ∨ (way = 1 ∧ which = 3) ∨ (way = 3 ∧ which = 0) ∨ (way = 3 ∧ which = 1) ∨ (way = 3 ∧ which = 2) ∨ (way = 3 ∧ which = 3) ∨ (way = 5 ∧ which = 0)) (lo : (t == sysModules) = false) (lo2 : (u == sysModules) = false) (ho : IsD prog w o ks) (hp : IsD prog w p qs) (xt : x ≠ t) (dt : dx ≠ t) (alt : (y = x ∧ qs = ks) ∨ (NeA x y ∧ NeA y t ∧ NeA dy t ∧ NeA u t))
    (C : Cx w 16 A₀ A base outer h₀ L m env s.heap) (N : News h₀ L s.heap news) (mx : (x, instObj 270 dx) ∈ news) (md : (dx, dictOf [⟨hx, .str "table" tkx, .ref t⟩] n) ∈ news) (my : (y, instObj 270 dy) ∈ news) (me : (dy, dictOf [⟨hy, .str "table" tky, .ref u⟩] n') ∈ news) (mu : (u, p) ∈ news) (U : UpdF t o news g)
    (h : ∀ h' tk' o', IsD prog w o' (joined which ks qs) → Fr h₀ L h' m → News h₀ L h' (g o') → R (.ok (.ret (.ref x))) { s with heap := h', toks := tk' }) :
    codeAny (model prog w) A (.call (.ref 314) ⟨[.int way tw, .int which th, .ref x, .ref y], []⟩) R s := by
  rcases alt with ⟨rfl, rfl⟩ | ⟨a, b, c, d⟩
  · refine Ctr.turn (ro := [(y, instObj 270 dx), (dx, dictOf [⟨hx, .str "table" tkx, .ref t⟩] n)]) (pst := fun r o' => r = .ref y ∧ IsD prog w o' (joined which qs qs)) (joined_same_c hw lo ho xt dt) C N ?_ U fun h' tk' v o' P F' N' => ?_
    · k_extra "j.sub"
    · obtain ⟨rfl, D⟩ := P; exact h h' tk' o' D F' N'
  · refine Ctr.turn (ro := [(x, instObj 270 dx), (dx, dictOf [⟨hx, .str "table" tkx, .ref t⟩] n), (y, instObj 270 dy), (dy, dictOf [⟨hy, .str "table" tky, .ref u⟩] n'), (u, p)]) (pst := fun r o' => r = .ref x ∧ IsD prog w o' (joined which ks qs)) (joined_up_c hw lo lo2 ho hp xt dt b c d a) C N ?_ U fun h' tk' v o' P F' N' => ?_
    · k_extra "j.sub"
    · obtain ⟨rfl, D⟩ := P; exact h h' tk' o' D F' N'
end
section
variable {M : Model} {A : Around} {E : Value → Shared → Prop} {s : Shared} {g : Heap} {L : Addr} {m : Str → Option Value} {news : List (Addr × Obj)} {st : Stmt} {rest : List Stmt} {env : Env} {Q : Flow → Shared → Prop}
/-- two names are stored on some ways, and the ways meet -/
def Met (x y : Str) (P : Int → Int → Prop) (g : Heap) (L : Addr) (m : Str → Option Value) (news : List (Addr × Obj)) (s : Shared) (fl : Flow) (s' : Shared) : Prop :=
  fl = .next ∧ ∃ a ta b tb h' tk m', P a b ∧ m' x = some (.int a ta) ∧ m' y = some (.int b tb) ∧ (∀ z, z ≠ x → z ≠ y → m' z = m z) ∧ Fr g L h' m' ∧ News g L h' news ∧ s' = { s with heap := h', toks := tk }
theorem Met.mk {x y : Str} {P : Int → Int → Prop} {a b : Int} {ta tb : Tok} {h' : Heap} {tk : Nat} {m' : Str → Option Value} (p : P a b) (hx : m' x = some (.int a ta)) (hy : m' y = some (.int b tb)) (hz : ∀ z, z ≠ x → z ≠ y → m' z = m z) (F : Fr g L h' m') (N : News g L h' news) :
    Met x y P g L m news s .next { s with heap := h', toks := tk } := ⟨rfl, a, ta, b, tb, h', tk, m', p, hx, hy, hz, F, N, rfl⟩
theorem meet2 (x y : Str) (P : Int → Int → Prop) (F : Fr g L s.heap m) (N : News g L s.heap news) (h1 : wpAny M A (exec st env) (Met x y P g L m news s) E s)
    (h2 : ∀ a ta b tb h' tk, P a b → Fr g L h' (fun z => if z = x then some (.int a ta) else if z = y then some (.int b tb) else m z) → News g L h' news → wpAny M A (execs rest env) Q E { s with heap := h', toks := tk }) : wpAny M A (execs (st :: rest) env) Q E s := by
  refine wpAny_execs_cons (wpAny_mono h1 (fun fl s' z => ?_) fun _ _ e => e)
  obtain ⟨rfl, a, ta, b, tb, h', tk, m', hP, hx, hy, hz, F, N, rfl⟩ := z
  refine h2 a ta b tb h' tk hP ?_ N
  have : (fun z => if z = x then some (Value.int a ta) else if z = y then some (Value.int b tb) else m z) = m' := by
    funext z
    by_cases e : z = x
    · rw [if_pos e, e, hx]
    · rw [if_neg e]
      by_cases e2 : z = y
      · rw [if_pos e2, e2, hy]
      · rw [if_neg e2, hz z e e2]
  rw [this]; exact F
/-- a test whose ways all say yes -/
theorem test_yes {test : PySem.Expr} {whole : Sem Value} {Q : Bool → Shared → Prop} (h1 : wpAny M A (isTrue test env whole) (fun b s' => b = true ∧ ∃ tk, s' = { s with toks := tk }) E s) (h2 : ∀ tk, Q true { s with toks := tk }) : wpAny M A (isTrue test env whole) Q E s := by
  refine wpAny_mono h1 (fun b s' z => ?_) fun _ _ e => e
  obtain ⟨rfl, tk, rfl⟩ := z
  exact h2 tk
end
theorem say52 : True := by
  k_with "j.call ref" => ((k_here; (with_reducible show wpAny _ _ (call (Value.ref 204) _) _ _ _); refine wpAny_call ?_; k_dflt (refine' Ctr.turn (update_c ?lo_z212 ?ho_z212 ?hv_z212 ?xt_z212 ?dt_z212 ?lt_z212) ?C_z212 ?N_z212 ?sub_z212 ?U_z212 ?_; (case C_z212 => k_extra "j.cx"); (case N_z212 => k_asm); (case sub_z212 => k_extra "j.sub"); (case U_z212 => k_updF); (case ho_z212 => assumption); (case lo_z212 => assumption); (case hv_z212 => assumption); (case xt_z212 => k_extra "j.ne"); (case dt_z212 => k_extra "j.ne"); (case lt_z212 => k_extra "j.ne")); intro h'w tk'w v'w o'w P'w F'w N'w; obtain ⟨e'w, D'w⟩ := P'w; subst e'w; (try dsimp only at N'w); (try k_sweep)))
  k_with "j.call ref" => ((k_here; (with_reducible show wpAny _ _ (call (Value.ref 211) _) _ _ _); refine wpAny_call ?_; k_dflt (refine' Ctr.turn (clear_c ?ho_z213 ?xt_z213 ?dt_z213) ?C_z213 ?N_z213 ?sub_z213 ?U_z213 ?_; (case C_z213 => k_extra "j.cx"); (case N_z213 => k_asm); (case sub_z213 => k_extra "j.sub"); (case U_z213 => k_updF); (case ho_z213 => assumption); (case xt_z213 => k_extra "j.ne"); (case dt_z213 => k_extra "j.ne")); intro h'w tk'w v'w o'w P'w F'w N'w; obtain ⟨e'w, D'w⟩ := P'w; subst e'w; (try dsimp only at N'w); (try k_sweep)))
  k_with "j.call ref" => ((k_here; (with_reducible show wpAny _ _ (call (Value.ref 71) _) _ _ _); refine wpAny_call ?_; k_dflt (refine' Ctr.make (copy_c ?lo_z214 ?ho_z214 ?mx_z214 ?md_z214 ?mt_z214) ?C_z214 ?N_z214 ?_; (case C_z214 => k_extra "j.cx"); (case N_z214 => k_asm); (case mx_z214 => k_mem); (case md_z214 => k_mem); (case mt_z214 => k_mem); (case lo_z214 => assumption); (case ho_z214 => assumption)); k_extra "j.mkpost"))
  k_with "j.call ref" => ((k_here; (with_reducible show wpAny _ _ (call (Value.ref 314) _) _ _ _); refine wpAny_call ?_; k_dflt (refine' joined_turn ?hw_z215 ?lo_z215 ?lo2_z215 ?ho_z215 ?hp_z215 ?xt_z215 ?dt_z215 ?alt_z215 ?C_z215 ?N_z215 ?mx_z215 ?md_z215 ?my_z215 ?me_z215 ?mu_z215 ?U_z215 ?_; (case hw_z215 => assumption); (case alt_z215 => assumption); (case C_z215 => k_extra "j.cx"); (case N_z215 => k_asm); (case mx_z215 => k_mem); (case md_z215 => k_mem); (case my_z215 => k_mem); (case me_z215 => k_mem); (case mu_z215 => first | assumption | k_mem); (case U_z215 => k_updF); (case lo_z215 => assumption); (case lo2_z215 => assumption); (case ho_z215 => assumption); (case hp_z215 => assumption); (case xt_z215 => k_extra "j.ne"); (case dt_z215 => k_extra "j.ne")); intro h'w tk'w o'w D'w F'w N'w; (try dsimp only at N'w); (try k_sweep)))
  k_with "j.stepsO" => (repeat' (first | ((fail_if_success (with_reducible show wpAny _ _ (execs (Stmt.If (PySem.Expr.Compare (PySem.Expr.Name ("way" : Str) _) _ [PySem.Expr.Constant _ _ _] _) _ _ _ :: _) _) _ _ _)); first | (k_unfold; (try dsimp only)) | (k_end; wrow_close) | walk1 | (dsimp only; walk1) | (leave1; walk_say "STEP leave1"; try dsimp only)) | fail "no step"))
  trivial
section
variable {prog : Program} {w : World} {x dx t l c y dy u q d T RR cT cR : Nat} {n n' : Nat} {hx hy : Int} {tkx tky tn : Tok} {o p : Obj} {ks qs : List PK} {vs ws ts rs : List Value} {num : Int} {ro : List (Addr × Obj)}
theorem deed_c (hN : 0 ≤ num) (hs : ts[(num.fmod 3).toNat]? = some (.ref x)) (hs2 : ts[((num.fdiv 3).fmod 3).toNat]? = some (.ref y)) (hr : rs[(num.fmod 3).toNat]? = some (.ref l)) (hr2 : rs[((num.fdiv 3).fmod 3).toNat]? = some (.ref q)) (hts : ts.length = 3) (hrs : rs.length = 3)
    (hi : IsL ks vs) (lo : (t == sysModules) = false) (ho : IsD prog w o ks) (nd : NDL (B4 x dx t n hx tkx o l vs c ((T, listOf ts.toArray cT) :: (RR, listOf rs.toArray cR) :: ro)))
    (hj : IsL qs ws) (lo2 : (u == sysModules) = false) (hp : IsD prog w p qs) (my : InB (y, instObj 270 dy) x dx t n hx tkx l vs c T RR ro) (me : InB (dy, dictOf [⟨hy, .str "table" tky, .ref u⟩] n') x dx t n hx tkx l vs c T RR ro) (mq : InB (q, listOf ws.toArray d) x dx t n hx tkx l vs c T RR ro)
    (mu : (u, p) ∈ B4 x dx t n hx tkx o l vs c ((T, listOf ts.toArray cT) :: (RR, listOf rs.toArray cR) :: ro)) (alt : (y = x ∧ qs = ks) ∨ (NeA x y ∧ NeA y t ∧ NeA dy t ∧ NeA u t)) :
    CtrT prog w 30 363 [.int num tn, .ref T, .ref RR] (B4 x dx t n hx tkx o l vs c ((T, listOf ts.toArray cT) :: (RR, listOf rs.toArray cR) :: ro)) (DeedP prog w ts rs (num.fmod 3).toNat T RR ro) := by
  intro A₀ A s base h₀ g₀ outer L m cn cs ca ccd R C N T0 h
  have hz9 := ho.small
  have hz : ks.length ≤ 100 := by omega
  have hz20 : ks.length ≤ 20 := by omega
  have g0 := Int.fmod_nonneg_of_pos num (b := 3) (by decide)
  have g1 := Int.fmod_lt_of_pos num (b := 3) (by decide)
  have g2 := Int.fmod_nonneg_of_pos (num.fdiv 3) (b := 3) (by decide)
  have g3 := Int.fmod_lt_of_pos (num.fdiv 3) (b := 3) (by decide)
  have g4 := Int.fmod_nonneg_of_pos (num.fdiv 9) (b := 32) (by decide)
  have g5 := Int.fmod_lt_of_pos (num.fdiv 9) (b := 32) (by decide)
  have g6 := Int.fdiv_nonneg hN (b := 288) (by decide)
  have es := set_same hs
  have er := set_same hr
  have xt := nd_xt nd
  have dt := nd_dt nd
  have lt := nd_lt nd
  have lx := nd_lx nd
  have ld := nd_ld nd
  k_extra "j.enterT"
  k_extra "j.upto.JD"
  by_cases k5 : (num.fdiv 9).fmod 32 < 5
  · k_extra "j.steps.JD"
    k_extra "j.endS"
    case j_left => assumption
  by_cases k7 : (num.fdiv 9).fmod 32 = 5 ∨ (num.fdiv 9).fmod 32 = 6
  · have b7 : ((num.fdiv 9).fmod 32 == 7) = false := beq_eq_false_iff_ne.mpr (by omega)
    k_extra "j.steps.JD"
    refine' test_yes ?h1 ?h2
    case h1 =>
      rcases k7 with k7 | k7
      · have b5 : ((num.fdiv 9).fmod 32 == 5) = true := beq_iff_eq.mpr k7
        k_extra "j.stepsO"
        all_goals exact ⟨rfl, _, rfl⟩
      · have b5 : ((num.fdiv 9).fmod 32 == 5) = false := beq_eq_false_iff_ne.mpr (by omega)
        have b6 : ((num.fdiv 9).fmod 32 == 6) = true := beq_iff_eq.mpr k7
        k_extra "j.stepsO"
        all_goals exact ⟨rfl, _, rfl⟩
    case h2 =>
      intro tk2
      k_extra "j.stepsO"
      k_extra "j.endR"
      case j_left => rw [← fold_app ho.nodup]; assumption
  have b5 : ((num.fdiv 9).fmod 32 == 5) = false := beq_eq_false_iff_ne.mpr (by omega)
  have b6 : ((num.fdiv 9).fmod 32 == 6) = false := beq_eq_false_iff_ne.mpr (by omega)
  by_cases k8 : (num.fdiv 9).fmod 32 = 7
  · have b7 : ((num.fdiv 9).fmod 32 == 7) = true := beq_iff_eq.mpr k8
    by_cases z : (num.fdiv 288).fmod 3 = 0
    · have b0 : ((num.fdiv 288).fmod 3 == 0) = true := beq_iff_eq.mpr z
      k_extra "j.stepsO"
      k_extra "j.endR"
      case j_left => exact IsL.nil
    · have b0 : ((num.fdiv 288).fmod 3 == 0) = false := beq_eq_false_iff_ne.mpr z
      have g7 := Int.fmod_nonneg_of_pos (num.fdiv 288) (b := 5) (by decide)
      have g8 := Int.fmod_lt_of_pos (num.fdiv 288) (b := 5) (by decide)
      have g9 := Int.fdiv_nonneg g6 (b := 5) (by decide)
      k_extra "j.stepsO"
      k_extra "j.endX"
      case j_left => assumption
  have b7 : ((num.fdiv 9).fmod 32 == 7) = false := beq_eq_false_iff_ne.mpr k8
  by_cases k12 : (num.fdiv 9).fmod 32 < 12
  · have g7 := Int.fmod_nonneg_of_pos (num.fdiv 288) (b := 6) (by decide)
    have g8 := Int.fmod_lt_of_pos (num.fdiv 288) (b := 6) (by decide)
    have g9 := Int.fdiv_nonneg g6 (b := 6) (by decide)
    have hw := hw_every g7 g8 (which := (num.fdiv 9).fmod 32 - 8) (by omega) (by omega)
    k_extra "j.stepsO"
    k_extra "j.endS"
    case j_left => assumption
  have y1 := hp.small
  have y2 : qs.length ≤ 20 := by omega
  k_extra "j.stepsO"
  refine' meet2 ("which" : Str) ("way" : Str) (fun b a => ((((a = 0 ∧ b = 0) ∨ (a = 0 ∧ b = 1) ∨ (a = 0 ∧ b = 2) ∨ (a = 0 ∧ b = 3) ∨ (a = 2 ∧ b = 0) ∨ (a = 2 ∧ b = 1) ∨ (a = 2 ∧ b = 2) ∨ (a = 2 ∧ b = 3) ∨ (a = 4 ∧ b = 0)) ∧ (a.fmod 2 == 1) = false) ∨ (((a = 1 ∧ b = 0) ∨ (a = 1 ∧ b = 1) ∨ (a = 1 ∧ b = 2) ∨ (a = 1 ∧ b = 3) ∨ (a = 3 ∧ b = 0) ∨ (a = 3 ∧ b = 1) ∨ (a = 3 ∧ b = 2) ∨ (a = 3 ∧ b = 3) ∨ (a = 5 ∧ b = 0)) ∧ (a.fmod 2 == 1) = true))) ?F ?N ?h1 ?h2
  case F => assumption
  case N => assumption
  case h1 =>
    rcases hb4 : (((num.fdiv 9).fmod 32 - 12).fdiv 4 == 4) with _ | _
    · have hc := way_cases (by omega) g5 hb4
      k_extra "j.stepsO"
      exact Met.mk hc rfl rfl (fun _ _ _ => rfl) (by assumption) (by assumption)
    · have hc := last_cases (by omega) g5 hb4
      k_extra "j.stepsO"
      exact Met.mk hc rfl rfl (fun _ e1 e2 => (if_neg e1).trans (if_neg e2)) (by assumption) (by assumption)
  case h2 =>
    intro b tb a ta h2 tk2 hc F2 N2
    rcases hc with ⟨hw, w2⟩ | ⟨hw, w2⟩
    · k_extra "j.stepsO"
      k_extra "j.endN"
      case j_left => assumption
    · k_extra "j.stepsO"
      k_extra "j.endR"
      case j_left => assumption
end

structure Blk where
  (x dx t n : Nat) (hx : Int) (tk : Tok) (o : Obj) (ks : List PK) (l : Nat) (vs : List Value) (c : Nat)
def Blk.four (b : Blk) (r : List (Addr × Obj)) : List (Addr × Obj) := B4 b.x b.dx b.t b.n b.hx b.tk b.o b.l b.vs b.c r
structure Blk.Ok (prog : Program) (w : World) (b : Blk) : Prop where
  dict : IsD prog w b.o b.ks
  row : IsL b.ks b.vs
  lo : (b.t == sysModules) = false
theorem four_app (b : Blk) (r : List (Addr × Obj)) : b.four r = b.four [] ++ r := rfl
/-- three things, their rows, and the two lists that hold them -/
structure Good (prog : Program) (w : World) (T RR : Nat) (ts rs : List Value) (cT cR : Nat) (b : Nat → Blk) (news : List (Addr × Obj)) : Prop where
  nd : NDL news
  mT : (T, listOf ts.toArray cT) ∈ news
  mR : (RR, listOf rs.toArray cR) ∈ news
  lT : ts.length = 3
  lR : rs.length = 3
  at_ : ∀ i < 3, ts[i]? = some (.ref (b i).x) ∧ rs[i]? = some (.ref (b i).l)
  ok : ∀ i < 3, (b i).Ok prog w
  sub : ∀ i < 3, ∀ p ∈ (b i).four [], p ∈ news
  apart : ∀ i < 3, NDL ((b i).four [(T, listOf ts.toArray cT), (RR, listOf rs.toArray cR)])
  off : ∀ i < 3, ∀ j < 3, j ≠ i → ∀ p ∈ (b j).four [], p.1 ∉ ((b i).four []).map (·.1)
theorem ndl_sub {l l' : List (Addr × Obj)} (s : List.Sublist l' l) (h : NDL l) : NDL l' := by rw [ndl_iff] at h ⊢; exact h.sublist (s.map _)
theorem ndl_app {a b : List (Addr × Obj)} : NDL (a ++ b) ↔ NDL a ∧ NDL b ∧ ∀ p ∈ a, ∀ q ∈ b, p.1 ≠ q.1 := by
  rw [ndl_iff, ndl_iff, ndl_iff, List.map_append, List.nodup_append]
  constructor
  · rintro ⟨h1, h2, h3⟩
    exact ⟨h1, h2, fun p hp q hq => h3 _ (List.mem_map_of_mem hp) _ (List.mem_map_of_mem hq)⟩
  · rintro ⟨h1, h2, h3⟩
    refine ⟨h1, h2, fun x hx y hy => ?_⟩
    obtain ⟨p, hp, rfl⟩ := List.mem_map.mp hx
    obtain ⟨q, hq, rfl⟩ := List.mem_map.mp hy
    exact h3 p hp q hq
/-- the rest of a ledger behind some of its rows -/
theorem peel {news hd : List (Addr × Obj)} (h : NDL news) (hh : NDL hd) : ∃ ro, (∀ p ∈ ro, p ∈ news) ∧ NDL (hd ++ ro) ∧ ∀ p ∈ news, p.1 ∉ hd.map (·.1) → p ∈ ro := by
  refine ⟨news.filter fun p => decide (p.1 ∉ hd.map (·.1)), fun p hp => (List.mem_filter.mp hp).1, ndl_app.mpr ⟨hh, ndl_sub List.filter_sublist h, fun p hp q hq e => ?_⟩, fun p hp hn => List.mem_filter.mpr ⟨hp, decide_eq_true hn⟩⟩
  exact of_decide_eq_true (List.mem_filter.mp hq).2 (e ▸ List.mem_map_of_mem hp)
section
variable {prog : Program} {w : World} {T RR cT cR : Nat} {ts rs : List Value} {b : Nat → Blk} {news : List (Addr × Obj)}
theorem Good.view (G : Good prog w T RR ts rs cT cR b news) {i : Nat} (hi : i < 3) {I : Nat} {oI : Obj} (na : AllNA I news) : ∃ ro, (∀ p ∈ ro, p ∈ news) ∧ NDL ((b i).four ((T, listOf ts.toArray cT) :: (RR, listOf rs.toArray cR) :: (I, oI) :: ro)) ∧
    (∀ p ∈ (b i).four ((T, listOf ts.toArray cT) :: (RR, listOf rs.toArray cR) :: (I, oI) :: ro), p ∈ (I, oI) :: news) ∧ ∀ j < 3, j ≠ i → ∀ p ∈ (b j).four [], p ∈ ro := by
  obtain ⟨ro, h1, h2, h3⟩ := peel G.nd (G.apart i hi)
  have hs : ∀ p ∈ (b i).four [(T, listOf ts.toArray cT), (RR, listOf rs.toArray cR)], p ∈ news := fun p hp => by
    rw [four_app] at hp
    rcases List.mem_append.mp hp with q | q
    · exact G.sub i hi p q
    · rcases List.mem_cons.mp q with rfl | q
      · exact G.mT
      · rw [List.mem_singleton.mp q]; exact G.mR
  have e : (b i).four ((T, listOf ts.toArray cT) :: (RR, listOf rs.toArray cR) :: (I, oI) :: ro) = (b i).four [(T, listOf ts.toArray cT), (RR, listOf rs.toArray cR)] ++ ((I, oI) :: ro) := rfl
  obtain ⟨a1, a2, a3⟩ := ndl_app.mp h2
  refine ⟨ro, h1, ?_, fun p hp => ?_, fun j hj hne p hp => h3 p (G.sub j hj p hp) ?_⟩
  · rw [e, ndl_app]
    refine ⟨a1, ⟨allNA_of fun p hp => allNA_ne na p (h1 p hp), a2⟩, fun p hp q hq => ?_⟩
    rcases List.mem_cons.mp hq with rfl | hq
    · exact allNA_ne na p (hs p hp)
    · exact a3 p hp q hq
  · rw [e] at hp
    rcases List.mem_append.mp hp with q | q
    · exact .tail _ (hs p q)
    · rcases List.mem_cons.mp q with rfl | q
      · exact .head _
      · exact .tail _ (h1 p q)
  · have o1 := G.off i hi j hj hne p hp
    have o2 := G.apart j hj
    rw [four_app, ndl_app] at o2
    rw [four_app, List.map_append, List.mem_append, not_or]
    refine ⟨o1, fun hm => ?_⟩
    obtain ⟨q, hq, e⟩ := List.mem_map.mp hm
    exact o2.2.2 p hp q hq e.symm
theorem Good.next (G : Good prog w T RR ts rs cT cR b news) {i : Nat} (hi : i < 3) {I : Nat} {oI : Obj} {ro : List (Addr × Obj)} (h4 : ∀ j < 3, j ≠ i → ∀ p ∈ (b j).four [], p ∈ ro) {b' : Blk} {cT' cR' : Nat} (ok : b'.Ok prog w)
    (nd : NDL (b'.four ((T, listOf (ts.set i (.ref b'.x)).toArray cT') :: (RR, listOf (rs.set i (.ref b'.l)).toArray cR') :: (I, oI) :: ro))) :
    Good prog w T RR (ts.set i (.ref b'.x)) (rs.set i (.ref b'.l)) cT' cR' (fun j => if j = i then b' else b j) (b'.four ((T, listOf (ts.set i (.ref b'.x)).toArray cT') :: (RR, listOf (rs.set i (.ref b'.l)).toArray cR') :: ro)) ∧
    AllNA I (b'.four ((T, listOf (ts.set i (.ref b'.x)).toArray cT') :: (RR, listOf (rs.set i (.ref b'.l)).toArray cR') :: ro)) := by
  generalize hT' : (T, listOf (ts.set i (.ref b'.x)).toArray cT') = eT at *
  generalize hR' : (RR, listOf (rs.set i (.ref b'.l)).toArray cR') = eR at *
  have e1 : b'.four (eT :: eR :: (I, oI) :: ro) = b'.four [eT, eR] ++ ((I, oI) :: ro) := rfl
  have e2 : b'.four (eT :: eR :: ro) = b'.four [eT, eR] ++ ro := rfl
  rw [e1, ndl_app] at nd
  obtain ⟨n1, n2, n3⟩ := nd
  have n4 := n1
  rw [four_app, ndl_app] at n4
  rw [e2]
  refine ⟨⟨?_, ?_, ?_, by simp [G.lT], by simp [G.lR], fun j hj => ?_, fun j hj => ?_, fun j hj p hp => ?_, fun j hj => ?_, fun j hj k hk hne p hp => ?_⟩, ?_⟩
  · exact ndl_app.mpr ⟨n1, n2.2, fun p hp q hq => n3 p hp q (.tail _ hq)⟩
  · rw [hT', four_app]; simp
  · rw [hR', four_app]; simp
  · obtain ⟨q1, q2⟩ := G.at_ j hj
    by_cases e : j = i
    · subst e
      simp [G.lT, G.lR, hj]
    · have e' : i ≠ j := fun z => e z.symm
      simp only [if_neg e, List.getElem?_set_ne e']
      exact ⟨q1, q2⟩
  · by_cases e : j = i
    · simp only [if_pos e]; exact ok
    · simp only [if_neg e]; exact G.ok j hj
  · by_cases e : j = i
    · simp only [if_pos e] at hp
      exact List.mem_append_left _ (by rw [four_app]; exact List.mem_append_left _ hp)
    · simp only [if_neg e] at hp
      exact List.mem_append_right _ (h4 j hj e p hp)
  · rw [hT', hR']
    by_cases e : j = i
    · simp only [if_pos e]; exact n1
    · simp only [if_neg e]
      rw [← hT', ← hR']
      exact ndl_map rfl (G.apart j hj)
  · by_cases e : j = i
    · by_cases e3 : k = i
      · exact absurd (e3.trans e.symm) hne
      · simp only [if_pos e, if_neg e3] at hp ⊢
        have := h4 k hk e3 p hp
        intro hm
        obtain ⟨q, hq, ee⟩ := List.mem_map.mp hm
        exact n3 q (by rw [four_app]; exact List.mem_append_left _ hq) p (.tail _ this) ee
    · by_cases e3 : k = i
      · simp only [if_neg e, if_pos e3] at hp ⊢
        intro hm
        obtain ⟨q, hq, ee⟩ := List.mem_map.mp hm
        exact n3 p (by rw [four_app]; exact List.mem_append_left _ hp) q (.tail _ (h4 j hj e q hq)) ee.symm
      · simp only [if_neg e, if_neg e3] at hp ⊢
        exact G.off j hj k hk hne p hp
  · refine allNA_of fun p hp => ?_
    rcases List.mem_append.mp hp with q | q
    · exact n3 p q (I, oI) (.head _)
    · exact allNA_ne n2.1 p q
end
def GoodE (prog : Program) (w : World) (m : Str → Option Value) (news : List (Addr × Obj)) : Prop :=
  ∃ T RR ts rs cT cR b, m "things" = some (.ref T) ∧ m "rows" = some (.ref RR) ∧ Good prog w T RR ts rs cT cR b news

section
variable {prog : Program} {w : World} {A : Around} {E : Value → Shared → Prop} {Q : Flow → Shared → Prop} {s : Shared} {h₀ : Heap} {env : Env} {x : Str} {body : List Stmt} {m₀ : Str → Option Value} {news : List (Addr × Obj)}
abbrev mLaw (m₀ : Str → Option Value) (a : List (Addr × Obj) × Option Value × Option Value × Option Value) (y : Str) : Option Value := if y = "number" then a.2.1 else if y = "one" then a.2.2.1 else if y = "two" then a.2.2.2 else m₀ y
theorem law_loop {r : Addr} {p e : Int} {t u v : Tok} (hh : A.handled = none) (hr : IsRange s.heap r p e 1 t u v) (n : Nat) (hp : 0 ≤ p) (hn : e = p + n) (hb : e ≤ 1000000) (F : Fr h₀ env.locals s.heap m₀) (N : News h₀ env.locals s.heap news) (G : GoodE prog w m₀ news)
    (turn : ∀ (I i : Nat) news (v1 v2 v3 : Option Value) h' tk oI tt, i < n → GoodE prog w m₀ news → AllNA I news → Fr h₀ env.locals h' (fun y => if y = x then some (.int (p + i) tt) else mLaw m₀ (news, v1, v2, v3) y) → News h₀ env.locals h' ((I, oI) :: news) →
      wpAny (model prog w) A (execs body env) (TurnEnd h₀ env.locals x [(I, oI)] (mLaw m₀) (fun a => a.1) (fun a => GoodE prog w m₀ a.1 ∧ AllNA I a.1) Q { s with heap := h', toks := tk }) E { s with heap := h', toks := tk })
    (done : ∀ h' tk news v1 v2 v3 u, GoodE prog w m₀ news → Fr h₀ env.locals h' (fun y => if y = x then u else mLaw m₀ (news, v1, v2, v3) y) → News h₀ env.locals h' news → Q .next { s with heap := h', toks := tk }) :
    wpAny (model prog w) A (pyIter (.ref r)) (fun it s₂ => LoopAtV prog w A h₀ env x body Q E it s₂) E s := by
  refine loop_range (news, m₀ "number", m₀ "one", m₀ "two") (mLaw m₀) (fun a => a.1) (fun _ a => GoodE prog w m₀ a.1 ∧ AllNA s.heap.objs.size a.1) hh hr n hp hn hb F N (fun i a h p hp => allNA_ne h.2 p hp) (fun y _ => ?_) ⟨G, allNA_of fun p hp => Nat.ne_of_lt (Heap.lt_size (N p hp).1)⟩
    (fun i a h' tk oI tt hi ha F' N' => turn _ i a.1 a.2.1 a.2.2.1 a.2.2.2 h' tk oI tt hi ha.1 ha.2 F' N') (fun h' tk a u ha F' N' => done h' tk a.1 a.2.1 a.2.2.1 a.2.2.2 u ha.1 F' N')
  show m₀ y = if y = "number" then _ else _
  split
  · rename_i e; rw [e]
  · split
    · rename_i e; rw [e]
    · split
      · rename_i e; rw [e]
      · rfl
theorem law_loop2 {r : Addr} {p e : Int} {t u v : Tok} (hh : A.handled = none) (hr : IsRange s.heap r p e 1 t u v) (hp : 0 ≤ p) (hn : p ≤ e) (hb : e ≤ 20) (F : Fr h₀ env.locals s.heap m₀) (N : News h₀ env.locals s.heap news) (G : GoodE prog w m₀ news)
    (turn : ∀ (I i : Nat) news (v1 v2 v3 : Option Value) h' tk oI tt, 0 ≤ p + (i : Int) → p + (i : Int) < 20 → GoodE prog w m₀ news → AllNA I news → Fr h₀ env.locals h' (fun y => if y = x then some (.int (p + i) tt) else mLaw m₀ (news, v1, v2, v3) y) → News h₀ env.locals h' ((I, oI) :: news) →
      wpAny (model prog w) A (execs body env) (TurnEnd h₀ env.locals x [(I, oI)] (mLaw m₀) (fun a => a.1) (fun a => GoodE prog w m₀ a.1 ∧ AllNA I a.1) Q { s with heap := h', toks := tk }) E { s with heap := h', toks := tk })
    (done : ∀ h' tk news v1 v2 v3 u, GoodE prog w m₀ news → Fr h₀ env.locals h' (fun y => if y = x then u else mLaw m₀ (news, v1, v2, v3) y) → News h₀ env.locals h' news → Q .next { s with heap := h', toks := tk }) :
    wpAny (model prog w) A (pyIter (.ref r)) (fun it s₂ => LoopAtV prog w A h₀ env x body Q E it s₂) E s :=
  law_loop hh hr (e - p).toNat hp (by omega) (by omega) F N G (fun I i news v1 v2 v3 h' tk oI tt hi G na F' N' => turn I i news v1 v2 v3 h' tk oI tt (by omega) (by omega) G na F' N') done
theorem law_end {L : Addr} {I : Nat} {oI : Obj} {h' : Heap} {tk : Nat} {m' : Str → Option Value} {s₁ : Shared} {news' : List (Addr × Obj)} (F : Fr h₀ L h' m') (N : News h₀ L h' ((I, oI) :: news')) (hm : ∀ y, y ≠ x → y ≠ "number" → y ≠ "one" → y ≠ "two" → m' y = m₀ y) (G : GoodE prog w m₀ news') (na : AllNA I news') :
    TurnEnd h₀ L x [(I, oI)] (mLaw m₀) (fun a => a.1) (fun a => GoodE prog w m₀ a.1 ∧ AllNA I a.1) Q s₁ .next { s₁ with heap := h', toks := tk } := by
  refine TurnEnd.fin (a := (news', m' "number", m' "one", m' "two")) F N (fun y hy => ?_) ⟨G, na⟩
  show m' y = if y = "number" then _ else _
  split
  · rename_i e; rw [e]
  · split
    · rename_i e; rw [e]
    · split
      · rename_i e; rw [e]
      · rename_i a b c; exact hm y hy a b c
end
section
variable {g g' h : Heap} {L : Addr} {m : Str → Option Value} {news : List (Addr × Obj)}
theorem back_F (T : KtsTurn [] g g') (F : Fr g' L h m) : Fr g L h m := ⟨F.ns, fun b o e => F.keep b o (T.other b o e (fun z => nomatch z)), by rw [← T.size]; exact F.above⟩
theorem back_N (T : KtsTurn [] g g') (N : News g' L h news) : News g L h news := fun p hp => ⟨(N p hp).1, (N p hp).2.1, by
  cases q : g.get? p.1 with
  | none => rfl
  | some o => have := T.other _ _ q (fun z => nomatch z); rw [(N p hp).2.2] at this; cases this⟩
end
section
variable {prog : Program} {w : World} {A₀ A : Around} {s : Shared} {base h₀ g₀ : Heap} {outer : List Env} {L ca : Addr} {m : Str → Option Value} {cn : Str} {cs : Scope} {ccd : Value} {news ro : List (Addr × Obj)} {lv : Nat}
  {R : Result → Shared → Prop} {f : Addr} {args : List Value} {T RR i j : Nat} {ts rs : List Value}
theorem CtrT.deedP (k : CtrT prog w lv f args news (DeedP prog w ts rs i T RR ro)) (hij : i = j) (C : Cx w lv A₀ A base outer h₀ L m (envOf cn cs L ca ccd) s.heap) (N : News h₀ L s.heap news) (T0 : KtsTurn (outer.filterMap (·.frame)) g₀ h₀)
    (h : ∀ h' tk' h₀' (b' : Blk) cT cR, b'.Ok prog w → NDL (b'.four ((T, listOf (ts.set j (.ref b'.x)).toArray cT) :: (RR, listOf (rs.set j (.ref b'.l)).toArray cR) :: ro)) → KtsTurn (outer.filterMap (·.frame)) g₀ h₀' → Fr h₀' L h' m → News h₀' L h' (b'.four ((T, listOf (ts.set j (.ref b'.x)).toArray cT) :: (RR, listOf (rs.set j (.ref b'.l)).toArray cR) :: ro)) → Below A₀ base outer h₀' → KtsDicts (outer.filterMap (·.frame)) h₀' → R (.ok (.ret (.bool true))) { s with heap := h', toks := tk' }) :
    codeAny (model prog w) A (.call (.ref f) ⟨args, []⟩) R s := by
  subst hij
  refine k.use C N T0 (fun _ hp => hp) fun h' tk' v ft h₀' hp T' F' nw B' D' _ => ?_
  obtain ⟨x', dx', t', n', hx', tk', o', ks', l', vs', c', cT, cR, rfl, d, r, lo, nd, rfl⟩ := hp
  exact h h' _ h₀' ⟨x', dx', t', n', hx', tk', o', ks', l', vs', c'⟩ cT cR ⟨d, r, lo⟩ nd T' F' (nw _ fun p hp => .inl hp) B' D'
end
section
variable {prog : Program} {w : World} {A₀ A : Around} {s : Shared} {base h₀ : Heap} {outer : List Env} {L ca : Addr} {m : Str → Option Value} {cn : Str} {cs : Scope} {ccd : Value} {news : List (Addr × Obj)}
  {R : Result → Shared → Prop} {T RR i j I cT cR : Nat} {oI : Obj} {ts rs : List Value} {b : Nat → Blk} {r : Int} {tn : Tok}
theorem Good.mems (G : Good prog w T RR ts rs cT cR b news) (hi : i < 3) : ((b i).t, (b i).o) ∈ (I, oI) :: news ∧ ((b i).x, instObj 270 (b i).dx) ∈ (I, oI) :: news ∧ ((b i).dx, dictOf [⟨(b i).hx, .str "table" (b i).tk, .ref (b i).t⟩] (b i).n) ∈ (I, oI) :: news ∧ ((b i).l, listOf (b i).vs.toArray (b i).c) ∈ (I, oI) :: news :=
  have s := G.sub i hi
  ⟨.tail _ (s _ (.head _)), .tail _ (s _ (.tail _ (.head _))), .tail _ (s _ (.tail _ (.tail _ (.head _)))), .tail _ (s _ (.tail _ (.tail _ (.tail _ (.head _)))))⟩
/-- one deed of the law, upon the three things -/
theorem turn_deed (G : Good prog w T RR ts rs cT cR b news) (na : AllNA I news) (hi : i < 3) (hj : j < 3) (e3 : (r.fmod 3).toNat = i) (e4 : ((r.fdiv 3).fmod 3).toNat = j) (r0 : 0 ≤ r)
    (C : Cx w 30 A₀ A base outer h₀ L m (envOf cn cs L ca ccd) s.heap) (N : News h₀ L s.heap ((I, oI) :: news))
    (h : ∀ h' tk' h₀' news' ts' rs' cT' cR' (b' : Nat → Blk), Good prog w T RR ts' rs' cT' cR' b' news' → AllNA I news' → KtsTurn (outer.filterMap (·.frame)) h₀ h₀' → Fr h₀' L h' m → News h₀' L h' ((I, oI) :: news') → Below A₀ base outer h₀' → KtsDicts (outer.filterMap (·.frame)) h₀' → R (.ok (.ret (.bool true))) { s with heap := h', toks := tk' }) :
    codeAny (model prog w) A (.call (.ref 363) ⟨[.int r tn, .ref T, .ref RR], []⟩) R s := by
  obtain ⟨ro, w1, nd, w3, w4⟩ := G.view hi (oI := oI) na
  have q1 := G.at_ i hi
  have q2 := G.at_ j hj
  have ok1 := G.ok i hi
  have okj := G.ok j hj
  have inb : ∀ p ∈ (b j).four [], p.1 ≠ (b i).t → InB p (b i).x (b i).dx (b i).t (b i).n (b i).hx (b i).tk (b i).l (b i).vs (b i).c T RR ((I, oI) :: ro) := fun p hp hn => by
    by_cases e : j = i
    · rw [e] at hp
      intro o oT oR
      simp only [Blk.four, B4, List.mem_cons, List.not_mem_nil, or_false] at hp ⊢
      rcases hp with rfl | hp
      · exact absurd rfl hn
      · rcases hp with h | h | h <;> simp [h]
    · exact InB.of (.tail _ (w4 j hj e p hp))
  have nt : ∀ p ∈ (b j).four [], p.1 ≠ (b j).t → p.1 ≠ (b i).t := fun p hp hn => by
    by_cases e : j = i
    · rw [← e]; exact hn
    · exact allNA_ne nd.1 p (.tail _ (.tail _ (.tail _ (.tail _ (.tail _ (.tail _ (w4 j hj e p hp)))))))
  have ndj : NDL ((b j).four []) := by
    have := G.apart j hj
    rw [four_app, ndl_app] at this
    exact this.1
  have mx : ((b j).x, instObj 270 (b j).dx) ∈ (b j).four [] := by simp [Blk.four, B4]
  have md : ((b j).dx, dictOf [⟨(b j).hx, .str "table" (b j).tk, .ref (b j).t⟩] (b j).n) ∈ (b j).four [] := by simp [Blk.four, B4]
  have ml : ((b j).l, listOf (b j).vs.toArray (b j).c) ∈ (b j).four [] := by simp [Blk.four, B4]
  have mt : ((b j).t, (b j).o) ∈ (b j).four [] := by simp [Blk.four, B4]
  have mu : ((b j).t, (b j).o) ∈ B4 (b i).x (b i).dx (b i).t (b i).n (b i).hx (b i).tk (b i).o (b i).l (b i).vs (b i).c ((T, listOf ts.toArray cT) :: (RR, listOf rs.toArray cR) :: (I, oI) :: ro) := by
    by_cases e : j = i
    · rw [e]; exact .head _
    · exact .tail _ (.tail _ (.tail _ (.tail _ (.tail _ (.tail _ (.tail _ (w4 j hj e _ mt)))))))
  have alt : ((b j).x = (b i).x ∧ (b j).ks = (b i).ks) ∨ (NeA (b i).x (b j).x ∧ NeA (b j).x (b i).t ∧ NeA (b j).dx (b i).t ∧ NeA (b j).t (b i).t) := by
    by_cases e : j = i
    · rw [e]; exact .inl ⟨rfl, rfl⟩
    · have f : ∀ p ∈ (b j).four [], p ∈ (b i).four ((T, listOf ts.toArray cT) :: (RR, listOf rs.toArray cR) :: (I, oI) :: ro) := fun p hp => .tail _ (.tail _ (.tail _ (.tail _ (.tail _ (.tail _ (.tail _ (w4 j hj e p hp)))))))
      have g : ∀ p ∈ (b j).four [], p.1 ≠ (b i).t := fun p hp => allNA_ne nd.1 p (.tail _ (.tail _ (.tail _ (.tail _ (.tail _ (.tail _ (w4 j hj e p hp)))))))
      exact .inr ⟨fun e2 => allNA_ne nd.2.1 _ (.tail _ (.tail _ (.tail _ (.tail _ (.tail _ (w4 j hj e _ mx)))))) e2.symm, g _ mx, g _ md, g _ mt⟩
  have N3 := news_sub N w3
  refine CtrT.deedP (deed_c r0 (by rw [e3]; exact q1.1) (by rw [e4]; exact q2.1) (by rw [e3]; exact q1.2) (by rw [e4]; exact q2.2) G.lT G.lR ok1.row ok1.lo ok1.dict nd okj.row okj.lo okj.dict
    (inb _ mx (nt _ mx (nd_xt ndj))) (inb _ md (nt _ md (nd_dt ndj))) (inb _ ml (nt _ ml (nd_lt ndj))) mu alt) e3 C N3 KtsTurn.refl fun h' tk' h₀' b' cT2 cR2 ok2 nd2 T' F' N' B' D' => ?_
  obtain ⟨G2, na2⟩ := G.next hi w4 ok2 nd2
  refine h h' tk' h₀' _ _ _ cT2 cR2 _ G2 na2 T' F' (news_sub N' fun p hp => ?_) B' D'
  rw [four_app] at hp ⊢
  simp only [List.mem_cons, List.mem_append] at hp ⊢
  rcases hp with h | h | h | h | h <;> simp [h]
end
theorem turn_facts {r : Int} (_h : 0 ≤ r) : ∃ i j : Nat, i < 3 ∧ j < 3 ∧ (r.fmod 3).toNat = i ∧ ((r.fdiv 3).fmod 3).toNat = j ∧ 0 ≤ r.fmod 3 ∧ r.fmod 3 < 3 ∧ 0 ≤ (r.fdiv 3).fmod 3 ∧ (r.fdiv 3).fmod 3 < 3 := by
  have g0 := Int.fmod_nonneg_of_pos r (b := 3) (by decide)
  have g1 := Int.fmod_lt_of_pos r (b := 3) (by decide)
  have g2 := Int.fmod_nonneg_of_pos (r.fdiv 3) (b := 3) (by decide)
  have g3 := Int.fmod_lt_of_pos (r.fdiv 3) (b := 3) (by decide)
  exact ⟨_, _, by omega, by omega, rfl, rfl, g0, g1, g2, g3⟩
section
variable {prog : Program} {w : World} {T RR cT cR : Nat} {ts rs : List Value} {b0 b1 b2 : Blk}
theorem cases3 {P : Nat → Prop} (h0 : P 0) (h1 : P 1) (h2 : P 2) : ∀ i < 3, P i
  | 0, _ => h0
  | 1, _ => h1
  | 2, _ => h2
  | i + 3, h => absurd h (by omega)
theorem good3 {eT eR : Addr × Obj} (hT : eT = (T, listOf ts.toArray cT)) (hR : eR = (RR, listOf rs.toArray cR)) (nd : NDL (b0.four (b1.four (b2.four [eT, eR])))) (hts : ts = [.ref b0.x, .ref b1.x, .ref b2.x]) (hrs : rs = [.ref b0.l, .ref b1.l, .ref b2.l]) (k0 : b0.Ok prog w) (k1 : b1.Ok prog w) (k2 : b2.Ok prog w) :
    Good prog w T RR ts rs cT cR (fun i => match i with | 0 => b0 | 1 => b1 | _ => b2) (b0.four (b1.four (b2.four [eT, eR]))) := by
  have e0 : ∀ r, b0.four r = b0.four [] ++ r := fun _ => rfl
  have e1 : ∀ r, b1.four r = b1.four [] ++ r := fun _ => rfl
  have e2 : ∀ r, b2.four r = b2.four [] ++ r := fun _ => rfl
  have nd' := nd
  rw [e0, e1, e2] at nd
  obtain ⟨n0, z0, d0⟩ := ndl_app.mp nd
  obtain ⟨n1, z1, d1⟩ := ndl_app.mp z0
  obtain ⟨n2, z2, d2⟩ := ndl_app.mp z1
  have mB : ∀ {p}, p ∈ [eT, eR] → p ∈ b0.four (b1.four (b2.four [eT, eR])) := fun {p} h => by
    rw [e0, e1, e2]; exact List.mem_append_right _ (List.mem_append_right _ (List.mem_append_right _ h))
  have s0 : ∀ p ∈ b0.four [], p ∈ b0.four (b1.four (b2.four [eT, eR])) := fun p h => by rw [e0 (b1.four _)]; exact List.mem_append_left _ h
  have s1 : ∀ p ∈ b1.four [], p ∈ b0.four (b1.four (b2.four [eT, eR])) := fun p h => by rw [e0 (b1.four _), e1 (b2.four _)]; exact List.mem_append_right _ (List.mem_append_left _ h)
  have s2 : ∀ p ∈ b2.four [], p ∈ b0.four (b1.four (b2.four [eT, eR])) := fun p h => by rw [e0 (b1.four _), e1 (b2.four _), e2 [eT, eR]]; exact List.mem_append_right _ (List.mem_append_right _ (List.mem_append_left _ h))
  have x01 : ∀ p ∈ b0.four [], ∀ q ∈ b1.four [], p.1 ≠ q.1 := fun p hp q hq => d0 p hp q (List.mem_append_left _ hq)
  have x02 : ∀ p ∈ b0.four [], ∀ q ∈ b2.four [], p.1 ≠ q.1 := fun p hp q hq => d0 p hp q (List.mem_append_right _ (List.mem_append_left _ hq))
  have x12 : ∀ p ∈ b1.four [], ∀ q ∈ b2.four [], p.1 ≠ q.1 := fun p hp q hq => d1 p hp q (List.mem_append_left _ hq)
  have of : ∀ {a c : List (Addr × Obj)}, (∀ p ∈ a, ∀ q ∈ c, p.1 ≠ q.1) → ∀ p ∈ c, p.1 ∉ a.map (·.1) := fun h p hp hm => by
    obtain ⟨q, hq, e⟩ := List.mem_map.mp hm
    exact h q hq p hp e
  have fo : ∀ {a c : List (Addr × Obj)}, (∀ p ∈ a, ∀ q ∈ c, p.1 ≠ q.1) → ∀ p ∈ a, p.1 ∉ c.map (·.1) := fun h p hp hm => by
    obtain ⟨q, hq, e⟩ := List.mem_map.mp hm
    exact h p hp q hq e.symm
  subst hT hR hts hrs
  refine ⟨nd', mB (.head _), mB (.tail _ (.head _)), rfl, rfl, cases3 ⟨rfl, rfl⟩ ⟨rfl, rfl⟩ ⟨rfl, rfl⟩, cases3 k0 k1 k2, cases3 s0 s1 s2, cases3 ?_ ?_ ?_, cases3 (cases3 (fun h => absurd rfl h) (fun _ => of x01) (fun _ => of x02)) (cases3 (fun _ => fo x01) (fun h => absurd rfl h) (fun _ => of x12)) (cases3 (fun _ => fo x02) (fun _ => fo x12) (fun h => absurd rfl h))⟩
  · show NDL (b0.four _); rw [e0]; exact ndl_app.mpr ⟨n0, z2, fun p hp q hq => d0 p hp q (List.mem_append_right _ (List.mem_append_right _ hq))⟩
  · show NDL (b1.four _); rw [e1]; exact ndl_app.mpr ⟨n1, z2, fun p hp q hq => d1 p hp q (List.mem_append_right _ hq)⟩
  · show NDL (b2.four _); rw [e2]; exact ndl_app.mpr ⟨n2, z2, fun p hp q hq => d2 p hp q hq⟩
end
section
variable {prog : Program} {w : World} {h₀ h : Heap} {L : Addr} {m : Str → Option Value} {T RR a0 a1 a2 x0 x1 x2 dx0 dx1 dx2 t0 t1 t2 f1 f2 n0 n1 n2 c0 c1 : Nat} {v0 v1 : List Value} {o0 o1 o2 of1 of2 : Obj} {hx0 hx1 hx2 : Int} {tk0 tk1 tk2 : Tok} {k0 k1 : List PK}
theorem ndl_order (nd : NDL [(RR, listOf #[.ref a0, .ref a1, .ref a2] 0), (a2, listOf #[] 0), (a1, listOf v1.toArray c1), (a0, listOf v0.toArray c0), (T, listOf #[.ref x0, .ref x1, .ref x2] 0), (x2, instObj 270 dx2), (dx2, dictOf [⟨hx2, .str "table" tk2, .ref t2⟩] n2), (t2, o2), (x1, instObj 270 dx1), (dx1, dictOf [⟨hx1, .str "table" tk1, .ref t1⟩] n1), (t1, o1), (x0, instObj 270 dx0), (dx0, dictOf [⟨hx0, .str "table" tk0, .ref t0⟩] n0), (t0, o0), (f1, of1), (f2, of2)]) :
    NDL (B4 x0 dx0 t0 n0 hx0 tk0 o0 a0 v0 c0 (B4 x1 dx1 t1 n1 hx1 tk1 o1 a1 v1 c1 (B4 x2 dx2 t2 n2 hx2 tk2 o2 a2 [] 0 [(T, listOf #[.ref x0, .ref x1, .ref x2] 0), (RR, listOf #[.ref a0, .ref a1, .ref a2] 0)]))) := by
  rw [ndl_iff] at nd ⊢
  simp only [B4, List.map_cons, List.map_nil] at nd ⊢
  have sub : List.Nodup [RR, a2, a1, a0, T, x2, dx2, t2, x1, dx1, t1, x0, dx0, t0] := nd.sublist (List.sublist_append_left [RR, a2, a1, a0, T, x2, dx2, t2, x1, dx1, t1, x0, dx0, t0] [f1, f2])
  refine (List.Perm.nodup_iff (List.perm_iff_count.mpr fun a => ?_)).mp sub
  simp only [List.count_cons, List.count_nil]
  omega
theorem init_pack (_F : Fr h₀ L h m) (N : News h₀ L h [(RR, listOf #[.ref a0, .ref a1, .ref a2] 0), (a2, listOf #[] 0), (a1, listOf v1.toArray c1), (a0, listOf v0.toArray c0), (T, listOf #[.ref x0, .ref x1, .ref x2] 0), (x2, instObj 270 dx2), (dx2, dictOf [⟨hx2, .str "table" tk2, .ref t2⟩] n2), (t2, o2), (x1, instObj 270 dx1), (dx1, dictOf [⟨hx1, .str "table" tk1, .ref t1⟩] n1), (t1, o1), (x0, instObj 270 dx0), (dx0, dictOf [⟨hx0, .str "table" tk0, .ref t0⟩] n0), (t0, o0), (f1, of1), (f2, of2)])
    (nd : NDL [(RR, listOf #[.ref a0, .ref a1, .ref a2] 0), (a2, listOf #[] 0), (a1, listOf v1.toArray c1), (a0, listOf v0.toArray c0), (T, listOf #[.ref x0, .ref x1, .ref x2] 0), (x2, instObj 270 dx2), (dx2, dictOf [⟨hx2, .str "table" tk2, .ref t2⟩] n2), (t2, o2), (x1, instObj 270 dx1), (dx1, dictOf [⟨hx1, .str "table" tk1, .ref t1⟩] n1), (t1, o1), (x0, instObj 270 dx0), (dx0, dictOf [⟨hx0, .str "table" tk0, .ref t0⟩] n0), (t0, o0), (f1, of1), (f2, of2)])
    (mT : m "things" = some (.ref T)) (mR : m "rows" = some (.ref RR)) (D0 : IsD prog w o0 k0) (D1 : IsD prog w o1 k1) (D2 : IsD prog w o2 []) (I0 : IsL k0 v0) (I1 : IsL k1 v1) (l0 : (t0 == sysModules) = false) (l1 : (t1 == sysModules) = false) (l2 : (t2 == sysModules) = false) :
    ∃ news, News h₀ L h news ∧ GoodE prog w m news := by
  refine ⟨_, news_sub N ?_, T, RR, _, _, 0, 0, _, mT, mR, good3 (b0 := ⟨x0, dx0, t0, n0, hx0, tk0, o0, k0, a0, v0, c0⟩) (b1 := ⟨x1, dx1, t1, n1, hx1, tk1, o1, k1, a1, v1, c1⟩) (b2 := ⟨x2, dx2, t2, n2, hx2, tk2, o2, [], a2, [], 0⟩) rfl rfl (ndl_order nd) rfl rfl ⟨D0, I0, l0⟩ ⟨D1, I1, l1⟩ ⟨D2, IsL.nil, l2⟩⟩
  dsimp only [Blk.four, B4]
  k_extra "j.sub"
end

theorem say53 : True := by
  k_with "j.steps.JLaw" => (repeat' (first | ((fail_if_success (first | (with_reducible show wpAny _ _ (call (Value.ref 363) _) _ _ _) | (with_reducible show wpAny _ _ (call (Value.ref 349) _) _ _ _) | (with_reducible show wpAny _ _ (call (Value.ref 356) _) _ _ _) | (k_extra "j.stop"))); first | (k_unfold; (try dsimp only)) | (k_end; wrow_close) | walk1 | (dsimp only; walk1) | (leave1; walk_say "STEP leave1"; try dsimp only)) | fail "no step"))
  k_with "j.upto.JLaw" => (repeat' (first | ((fail_if_success (first | (first | (with_reducible show wpAny _ _ (call (Value.ref 363) _) _ _ _) | (with_reducible show wpAny _ _ (call (Value.ref 349) _) _ _ _) | (with_reducible show wpAny _ _ (call (Value.ref 356) _) _ _ _) | (k_extra "j.stop")) | with_reducible show wpAny _ _ (execs (Stmt.If _ _ _ _ :: _) _) _ _ _)); first | (k_unfold; (try dsimp only)) | (k_end; wrow_close) | walk1 | (dsimp only; walk1) | (leave1; walk_say "STEP leave1"; try dsimp only)) | fail "no step"))
  trivial
theorem say54 : True := by
  k_with "j.call ref" => ((k_here; (with_reducible show wpAny _ _ (call (Value.ref 283) _) _ _ _); refine wpAny_call ?_; k_dflt (refine' law_at_c ?C_z219 ?S_z219 ?I_z219 ?len_z219 ?N_z219 ?h0_z219 ?h1_z219 ?_; (case C_z219 => k_extra "j.cx"); (case S_z219 => assumption); (case I_z219 => assumption); (case len_z219 => omega); (case N_z219 => k_asm); (case h0_z219 => omega); (case h1_z219 => omega)); intro h'w tk'w r'w tkr'w r0'w r1'w F'w N'w; (try k_sweep)))
  k_with "j.call ref" => ((k_here; (with_reducible show wpAny _ _ (call (Value.ref 270) (_ :: _)) _ _ _); (try dsimp only [List.append_nil]); k_dflt (refine' newSet1 ?C_z220 ?N_z220 ?m_z220 ?v_z220 ?_; (case C_z220 => k_extra "j.cx"); (case N_z220 => k_asm); (case m_z220 => k_mem); (case v_z220 => assumption)); intro h'w tk'w x'w dx'w t'w n'w hx'w tkx'w o'w NS'w l1 F'w N'w; obtain ⟨lo'w, D'w, xd'w, xt'w⟩ := NS'w; (have n1'w := allNA_lt (allLt_low l1 (Nat.le_of_lt xd'w))); (have n2'w := allNA_lt (allLt_low l1 (Nat.le_of_lt (Nat.lt_trans xd'w xt'w)))); (have n3'w := allNA_lt l1); (have e1'w := neA_of (Nat.ne_of_lt xd'w)); (have e2'w := neA_of (Nat.ne_of_lt xt'w)); (have e3'w := neA_of (Nat.ne_of_lt (Nat.lt_trans xd'w xt'w))); dsimp only [S3] at N'w; (try dsimp only [PySem.W.CmpBack, PySem.W.LenBack, PySem.W.BoolBack]); (try k_sweep)))
  k_with "j.is" => ((refine wpAny_call ?_; refine' CtrT.read (law_is_c ?hi_z221 ?hm_z221 ?lo_z221 ?ho_z221 ?mx_z221 ?md_z221 ?mt_z221) ?C_z221 ?N_z221 ?T0_z221 ?sub_z221 ?_; (case C_z221 => k_extra "j.cx"); (case N_z221 => k_asm); (case T0_z221 => assumption); (case sub_z221 => exact fun _ hp => hp); (case mx_z221 => k_mem); (case md_z221 => k_mem); (case mt_z221 => k_mem); (case hm_z221 => k_mem); (case lo_z221 => assumption); (case ho_z221 => assumption); (case hi_z221 => assumption); k_extra "j.rpost"; (try dsimp only)))
  k_with "j.two" => ((refine wpAny_call ?_; refine' Ctr.read (law_two_c ?hi_z222 ?hm_z222 ?hj_z222 ?hm2_z222 ?lo_z222 ?lo2_z222 ?ho_z222 ?hp_z222 ?mx_z222 ?md_z222 ?mt_z222 ?my_z222 ?me_z222 ?mu_z222) ?C_z222 ?N_z222 ?sub_z222 ?_; (case C_z222 => k_extra "j.cx"); (case N_z222 => k_asm); (case sub_z222 => exact fun _ hp => hp); (case mx_z222 => k_mem); (case md_z222 => k_mem); (case mt_z222 => k_mem); (case my_z222 => k_mem); (case me_z222 => k_mem); (case mu_z222 => k_mem); (case hm_z222 => k_mem); (case hm2_z222 => k_mem); (case lo_z222 => assumption); (case lo2_z222 => assumption); (case ho_z222 => assumption); (case hp_z222 => assumption); (case hi_z222 => assumption); (case hj_z222 => assumption); intro h'w tk'w v'w e'w F'w N'w; subst e'w; (try k_sweep); (try dsimp only)))
  trivial
set_option maxHeartbeats 8000000 in
theorem law_holds : PySem.Challenge.rw_ji0013_01.Holds := hd (by
  k_go0
  all_goals try k_fold
  rename IntsAre _ _ => hInts
  rename Heap.IsList _ _ _ => hScr
  have dp : callerA.depth + 60 < recursionLimit := by decide +kernel
  have un : callerA.units + 600 < cLine := by decide +kernel
  have hhA : callerA.handled = none := rfl
  rename Below _ _ _ _ => hB0
  rename Top _ _ _ _ _ _ => hTop
  rename Frag.In _ _ => hKX
  rename ¬ _ < _ => hlen
  have D0 : KtsDicts (List.filterMap (fun x : Env => x.frame) []) (Top.heap hTop) := ktsDicts_nil
  k_extra "j.steps.JLaw"
  refine' Exists.elim (init_pack (by assumption) (by assumption) ?nd ?mT ?mR (by assumption) (by assumption) (by assumption) (by assumption) (by assumption) (by assumption) (by assumption) (by assumption)) ?go
  case nd => k_extra "j.ndl"
  case mT => exact rfl
  case mR => exact rfl
  rintro news ⟨hN, hG⟩
  refine' law_loop2 ?hh ?hr ?hp ?hn ?hb ?F hN hG ?turn ?done
  case hh => assumption
  case hr => assumption
  case hp => decide
  case hn => (split <;> (try split) <;> omega)
  case hb => (split <;> (try split) <;> omega)
  case F => assumption
  case turn =>
    rintro I i news v1 v2 v3 h' tk oI tt hi0 hi1 ⟨T, RR, ts, rs, cT, cR, b, hmT, hmR, G⟩ na F' N'
    cases hmT
    cases hmR
    repeat ((with_reducible rename _ ∧ _ => hz); clear hz)
    k_extra "j.steps.JLaw"
    rename Int => r
    rename 0 ≤ r => r0
    rename News _ _ _ _ => NB
    obtain ⟨i3, j3, hi3, hj3, e3, e4, g0, g1, g2, g3⟩ := turn_facts r0
    refine wpAny_call ?_
    refine' turn_deed G na hi3 hj3 e3 e4 r0 ?C NB ?_
    case C => k_extra "j.cx"
    intro h8 tk8 g8 nw ts' rs' cT' cR' b' G2 na2 T8 F8 N8 B8 D8
    have TG8 := Top.keeps hTop (Below.stays B8)
    have XG8 := Frag.In.keeps hKX (Below.stays B8)
    have s1 : ts'[(r.fmod 3).toNat]? = some (Value.ref (b' i3).x) := by rw [e3]; exact (G2.at_ i3 hi3).1
    have s3 : rs'[(r.fmod 3).toNat]? = some (Value.ref (b' i3).l) := by rw [e3]; exact (G2.at_ i3 hi3).2
    have s2 : ts'[((r.fdiv 3).fmod 3).toNat]? = some (Value.ref (b' j3).x) := by rw [e4]; exact (G2.at_ j3 hj3).1
    have s4 : rs'[((r.fdiv 3).fmod 3).toNat]? = some (Value.ref (b' j3).l) := by rw [e4]; exact (G2.at_ j3 hj3).2
    have mT2 := List.mem_cons_of_mem (I, oI) G2.mT
    have mR2 := List.mem_cons_of_mem (I, oI) G2.mR
    have lT2 := G2.lT
    have lR2 := G2.lR
    obtain ⟨d1, r1, lo1⟩ := G2.ok i3 hi3
    obtain ⟨d2, r2, lo2⟩ := G2.ok j3 hj3
    obtain ⟨mt1, mx1, md1, ml1⟩ := G2.mems hi3 (oI := oI) (I := I)
    obtain ⟨mt2, mx2, md2, ml2⟩ := G2.mems hj3 (oI := oI) (I := I)
    generalize b' i3 = B1 at s1 s3 d1 r1 lo1 mt1 mx1 md1 ml1
    generalize b' j3 = B2 at s2 s4 d2 r2 lo2 mt2 mx2 md2 ml2
    clear G
    k_extra "j.steps.JLaw"
    k_extra "j.is"
    k_extra "j.steps.JLaw"
    k_extra "j.is"
    k_extra "j.steps.JLaw"
    k_extra "j.two"
    k_extra "j.steps.JLaw"
    k_extra "j.two"
    k_extra "j.steps.JLaw"
    rename KtsTurn _ _ _ => hT9
    rename Fr _ _ _ _ => hF9
    rename News _ _ _ _ => hN9
    refine' law_end (back_F hT9 hF9) (back_N hT9 hN9) ?m ⟨_, _, _, _, _, _, _, rfl, rfl, G2⟩ na2
    case m =>
      intro y h1 h2 h3 h4
      simp only [mLaw, if_neg h1, if_neg h2, if_neg h3, if_neg h4]
  case done =>
    rintro h' tk news v1 v2 v3 u ⟨T, RR, ts, rs, cT, cR, b, hmT, hmR, G⟩ F' N'
    cases hmT
    cases hmR
    repeat ((with_reducible rename _ ∧ _ => hz); clear hz)
    k_extra "j.steps.JLaw"
    refine' loop_range_R (x := "spot") ?hh2 ?hr2 3 ?hp2 ?hn2 ?hb2 ?F2 ?N2 ?turn2 ?done2
    case hh2 => assumption
    case hr2 => assumption
    case hp2 => decide
    case hn2 => decide
    case hb2 => decide
    case F2 => assumption
    case N2 => assumption
    case turn2 =>
      intro I i h2 tk2 oI tt hi lt F2 N2
      have q1 := G.at_ i hi
      have ok1 := G.ok i hi
      have d1 := ok1.dict
      have r1 := ok1.row
      have lo1 := ok1.lo
      have hz9 := d1.small
      obtain ⟨mu, mx, me, mq⟩ := G.mems hi (oI := oI) (I := I)
      have mT := List.mem_cons_of_mem (I, oI) G.mT
      have mR := List.mem_cons_of_mem (I, oI) G.mR
      have lT := G.lT
      have lR := G.lR
      have s1 : ts[(0 + (i : Int)).toNat]? = some (Value.ref (b i).x) := by rw [show (0 + (i : Int)).toNat = i by omega]; exact q1.1
      have s2 : rs[(0 + (i : Int)).toNat]? = some (Value.ref (b i).l) := by rw [show (0 + (i : Int)).toNat = i by omega]; exact q1.2
      clear q1
      k_extra "j.steps.JLaw"
      refine wpAny_call ?_
      refine' CtrT.read (law_is_c (ro := (I, oI) :: news) r1 mq lo1 d1 mx me mu) ?C ?N ?T0 ?sub ?_
      case C => k_extra "j.cx"
      case N => k_asm
      case T0 => exact KtsTurn.refl
      case sub => exact fun _ hp => hp
      k_extra "j.rpost"
      (try dsimp only)
      k_extra "j.steps.JLaw"
      rename KtsTurn _ _ _ => hT9
      rename Fr _ _ _ _ => hF9
      rename News _ _ _ _ => hN9
      refine' TurnEnd.fin (a := ()) (back_F hT9 hF9) (back_N hT9 hN9) ?m trivial
      case m => (intro y hy; try simp only [if_neg hy])
    case done2 =>
      intro h2 tk2 u2 F2 N2
      k_extra "j.steps.JLaw"
)

end Mine
theorem PySem.Challenge.cw_ji0013_01_holds : PySem.Challenge.rw_ji0013_01.Holds :=
  Mine.law_holds
