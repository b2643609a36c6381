import PyProof.Rows.All
import Wide.All
import OpenK.AllK
import Wide.FinOn
import PyProof.Rows.StrSplitCount
import PySem.Challenge.RW_be0012_01
open PySem PySem.W PySem.Calls PyProof.Rows
set_option Elab.async false
set_option maxRecDepth 100000
set_option linter.all false
namespace Mine
noncomputable section
noncomputable abbrev Loc := List (Str × Value)
noncomputable abbrev Led := List (Addr × Obj)
theorem i_a {α β γ : Type} {Q : α → β → Prop} {f : γ → α} {n : β} (h : ∀ t, Q (f t) n) : ∀ v N', (∃ t, v = f t) ∧ N' = n → Q v N' := fun _ _ ⟨⟨t, e⟩, e'⟩ => e ▸ e' ▸ h t
theorem i_b {α β : Type} {Q : α → β → Prop} {c : α} {n : β} (h : Q c n) : ∀ v N', v = c ∧ N' = n → Q v N' := fun _ _ ⟨e, e'⟩ => e ▸ e' ▸ h
theorem i_c {α β : Type} {Q : α → β → Prop} {p : α → Prop} {n : β} (h : ∀ v, p v → Q v n) : ∀ v N', p v ∧ N' = n → Q v N' := fun v _ ⟨e, e'⟩ => e' ▸ h v e
theorem i_d {α β γ : Type} {Q : α → β → Prop} {p : α → Prop} {F : γ → β} (h : ∀ v, p v → ∀ u, Q v (F u)) : ∀ v N', (p v ∧ ∃ u, N' = F u) → Q v N' := fun v _ ⟨e, u, e'⟩ => e' ▸ h v e u
theorem i_e {α β γ δ : Type} {Q : α → β → Prop} {f : δ → α} {F : γ → β} (h : ∀ t u, Q (f t) (F u)) : ∀ v N', ((∃ t, v = f t) ∧ ∃ u, N' = F u) → Q v N' := fun _ _ ⟨⟨t, e⟩, u, e'⟩ => e ▸ e' ▸ h t u
theorem i_f {α ε : Type} {Q : α → List ε → Prop} {p : α → List ε → Prop} {n : List ε} (h : ∀ v C, p v C → Q v (C ++ n)) : ∀ v N', (∃ C, p v C ∧ N' = C ++ n) → Q v N' := fun v _ ⟨C, k, e⟩ => e ▸ h v C k
theorem i_g {α β γ : Type} {Q : α → β → Prop} {f : γ → α} {p : γ → β → Prop} (h : ∀ t N', p t N' → Q (f t) N') : ∀ v N', (∃ t, v = f t ∧ p t N') → Q v N' := fun _ N' ⟨t, e, k⟩ => e ▸ h t N' k
theorem i_h {α β : Type} {Q : α → β → Prop} {c : α} {p : β → Prop} (h : ∀ N', p N' → Q c N') : ∀ v N', v = c ∧ p N' → Q v N' := fun _ N' ⟨e, k⟩ => e ▸ h N' k
theorem i_k {β a : Type} {Q : β → Prop} {p : a → Prop} {F : a → β} (h : ∀ x, p x → Q (F x)) : ∀ N', (∃ x, p x ∧ N' = F x) → Q N' := fun _ ⟨x, k, e⟩ => e ▸ h x k
theorem i_0 {β : Type} {Q : β → Prop} {n : β} (h : Q n) : ∀ N', N' = n → Q N' := fun _ e => e ▸ h
theorem i_1 {β a : Type} {Q : β → Prop} {F : a → β} (h : ∀ x, Q (F x)) : ∀ N', (∃ x, N' = F x) → Q N' := fun _ ⟨x, e⟩ => e ▸ h x
theorem i_2 {β a b : Type} {Q : β → Prop} {F : a → b → β} (h : ∀ x y, Q (F x y)) : ∀ N', (∃ x y, N' = F x y) → Q N' := fun _ ⟨x, y, e⟩ => e ▸ h x y
theorem i_3 {β a b c : Type} {Q : β → Prop} {F : a → b → c → β} (h : ∀ x y z, Q (F x y z)) : ∀ N', (∃ x y z, N' = F x y z) → Q N' := fun _ ⟨x, y, z, e⟩ => e ▸ h x y z
theorem i_4 {β a b c d : Type} {Q : β → Prop} {F : a → b → c → d → β} (h : ∀ x y z u, Q (F x y z u)) : ∀ N', (∃ x y z u, N' = F x y z u) → Q N' := fun _ ⟨x, y, z, u, e⟩ => e ▸ h x y z u
theorem i_5 {β a b c d e : Type} {Q : β → Prop} {F : a → b → c → d → e → β} (h : ∀ x y z u v, Q (F x y z u v)) : ∀ N', (∃ x y z u v, N' = F x y z u v) → Q N' := fun _ ⟨x, y, z, u, v, e⟩ => e ▸ h x y z u v
noncomputable def lk (m : Loc) : Str → Option Value := fun x => m.lookup x
theorem lk_cons (m : Loc) (x : Str) (v : Value) : (fun y => if y = x then some v else lk m y) = lk ((x, v) :: m) := by
 funext y
 show (if y = x then some v else lk m y) = List.lookup y ((x, v) :: m)
 rw [List.lookup_cons]
 by_cases h : y = x
 · rw [if_pos h, h, beq_self_eq_true]
 · rw [if_neg h, beq_false_of_ne h]; rfl
structure Bs (K : Frag) (g : Heap) : Prop where
 X : K.In g
 T : ∃ p loose mg mb, TopRead p loose mg mb g
 D : ∃ mc, g.Ns cStatics mc ∧ mc "sys.int_max_str_digits" = none
theorem Bs.keeps {K : Frag} {g g' : Heap} (B : Bs K g) (k : ∀ b o, g.get? b = some o → g'.get? b = some o) : Bs K g' :=
 ⟨B.X.keeps k, let ⟨p, l, mg, mb, T⟩ := B.T; ⟨p, l, mg, mb, T.keeps k⟩, let ⟨mc, h1, h2⟩ := B.D; ⟨mc, h1.keeps k, h2⟩⟩
theorem Bs.nolimit {K : Frag} {g : Heap} (B : Bs K g) : g.NoLimit := let ⟨_, _, _, _, T⟩ := B.T; T.nolimit
structure Wf (g : Heap) (L : Addr) (h : Heap) (m : Loc) (N : Led) : Prop where
 fr : Fr g L h (lk m)
 nw : News g L h N
 nd : (N.map (·.1)).Nodup
noncomputable def Ev {α : Type} (M : Model) (A : Around) (g : Heap) (L : Addr) (m : Loc) (N : Led) (t : Sem α) (P : α → Led → Prop) : Prop :=
 ∀ (s : Shared) (Q : α → Shared → Prop) (E : Value → Shared → Prop), Wf g L s.heap m N →
  (∀ v h' tk' N', P v N' → Wf g L h' m N' → Q v { s with heap := h', toks := tk' }) → wpAny M A t Q E s
noncomputable abbrev EvP {α : Type} (M : Model) (A : Around) (g : Heap) (L : Addr) (m : Loc) (N : Led) (t : Sem α) (p : α → Prop) : Prop :=
 Ev M A g L m N t (fun v N' => p v ∧ N' = N)
noncomputable def Xs (M : Model) (A : Around) (g : Heap) (L : Addr) (m : Loc) (N : Led) (t : Sem Flow) (R : Flow → Loc → Led → Prop) : Prop :=
 ∀ (s : Shared) (Q : Flow → Shared → Prop) (E : Value → Shared → Prop), Wf g L s.heap m N →
  (∀ fl h' tk' m' N', R fl m' N' → Wf g L h' m' N' → Q fl { s with heap := h', toks := tk' }) → wpAny M A t Q E s
noncomputable def flowV : Flow → Value
 | .ret v => v
 | _ => .none
noncomputable abbrev Bd (M : Model) (A : Around) (g : Heap) (L : Addr) (m : Loc) (N : Led) (t : Sem Flow) (P : Value → Led → Prop) : Prop :=
 Xs M A g L m N t (fun fl _ N' => P (flowV fl) N')
section
variable {α β : Type} {M : Model} {A : Around} {g : Heap} {L : Addr} {m : Loc} {N : Led}
theorem ev_pure {a : α} {P : α → Led → Prop} (h : P a N) : Ev M A g L m N (pure a) P := fun s _ _ W k => wpAny_pure (k a s.heap s.toks N h W)
theorem ev_bind {t : Sem α} {f : α → Sem β} {P : α → Led → Prop} {R : β → Led → Prop} (h : Ev M A g L m N t P) (k : ∀ v N', P v N' → Ev M A g L m N' (f v) R) : Ev M A g L m N (t >>= f) R :=
 fun s Q E W q => wpAny_bind (h s _ E W fun v h' tk' N' p W' => k v N' p _ Q E W' fun v2 h2 tk2 N2 p2 W2 => q v2 h2 tk2 N2 p2 W2)
theorem ev_mono {t : Sem α} {P R : α → Led → Prop} (h : Ev M A g L m N t P) (k : ∀ v N', P v N' → R v N') : Ev M A g L m N t R :=
 fun s Q E W q => h s Q E W fun v h' tk' N' p W' => q v h' tk' N' (k v N' p) W'
theorem ev_holding {vs : List Value} {t : Sem α} {P : α → Led → Prop} (h : Ev M A g L m N t P) : Ev M A g L m N (holding vs t) P := fun s Q E W q => wpAny_holding (h s Q E W q)
theorem ev_standAt {p : Pos} {P : Unit → Led → Prop} (h : P () N) : Ev M A g L m N (standAt p) P := fun s _ _ W q => wpAny_standAt (q () s.heap s.toks N h W)
theorem ev_rule {tag : String} {P : Unit → Led → Prop} (h : P () N) : Ev M A g L m N (rule tag) P := fun s _ _ W q => wpAny_rule (q () s.heap s.toks N h W)
theorem ev_point {P : Unit → Led → Prop} (h : P () N) : Ev M A g L m N point P := fun s _ _ W q => wpAny_point (q () s.heap s.toks N h W)
theorem ev_looks {t : Sem α} {a : α} {P : α → Led → Prop} (x : Looks M g t a) (h : P a N) : Ev M A g L m N t P := fun s Q E W q => x A Q E s W.fr.keep (q a s.heap s.toks N h W)
theorem ev_eq {t t' : Sem α} {P : α → Led → Prop} (e : t = t') (h : Ev M A g L m N t' P) : Ev M A g L m N t P := e ▸ h
theorem ev_at {t : Sem α} {p : Pos} {P : α → Led → Prop} (h : Ev M A g L m N t P) : Ev M A g L m N (standAt p >>= fun _ => t) P := ev_bind (P := fun _ N' => N' = N) (ev_standAt rfl) fun _ _ e => e ▸ h
theorem ev_perm {N₁ : Led} {t : Sem α} {P : α → Led → Prop} (p : N.Perm N₁) (h : Ev M A g L m N₁ t P) : Ev M A g L m N t P :=
 fun s Q E W q => h s Q E ⟨W.fr, fun x hx => W.nw x (p.mem_iff.mpr hx), (p.map _).nodup_iff.mp W.nd⟩ q
theorem xs_mono {t : Sem Flow} {P R : Flow → Loc → Led → Prop} (h : Xs M A g L m N t P) (k : ∀ fl m' N', P fl m' N' → R fl m' N') : Xs M A g L m N t R :=
 fun s Q E W q => h s Q E W fun fl h' tk' m' N' p W' => q fl h' tk' m' N' (k fl m' N' p) W'
end
section
variable {prog : Program} {w : World} {A : Around} {g : Heap} {L : Addr} {m : Loc} {K : Frag}
 {name qual : Str} {params : Arguments} {body : List Stmt} {scope : Scope} {dV kV doc pm cdv ct oc : Value} {an od : Option Addr} {osl : Array (Option Value)} {f : Addr} {pos : List Value} {kw : List (Str × Value)} {binds : List (Str × Value)}
theorem Wf.hide {s : Shared} {C R : Led} (W : Wf g L s.heap m (C ++ R)) :
 (∀ b o, g.get? b = some o → (hideAll s.heap (C.map (·.1))).get? b = some o) ∧ (∀ p ∈ R, (hideAll s.heap (C.map (·.1))).get? p.1 = some p.2) ∧
 ∀ L' h' m' C', Wf (hideAll s.heap (C.map (·.1))) L' h' m' C' → Wf g L h' m (C' ++ R) := by
 have nm : ∀ b o, g.get? b = some o → b ∉ C.map (·.1) := fun b o e q => by
  obtain ⟨p, hp, rfl⟩ := List.mem_map.mp q
  rw [(W.nw p (List.mem_append_left _ hp)).2.2] at e; cases e
 have st : ∀ b o, g.get? b = some o → (hideAll s.heap (C.map (·.1))).get? b = some o := fun b o e => hideAll_get _ (W.fr.keep b o e) (nm b o e)
 have nd := W.nd
 rw [List.map_append, List.nodup_append] at nd
 have sr : ∀ p ∈ R, (hideAll s.heap (C.map (·.1))).get? p.1 = some p.2 := fun p hp => hideAll_get _ (W.nw p (List.mem_append_right _ hp)).1 fun q => nd.2.2 p.1 q p.1 (List.mem_map_of_mem hp) rfl
 refine ⟨st, sr, fun L' h' m' C' W' => ?_⟩
 obtain ⟨oL, es, ep, hL, hLd, hLk, hLf⟩ := W.fr.ns
 have nL : L ∉ C.map (·.1) := fun q => by
  obtain ⟨p, hp, e⟩ := List.mem_map.mp q
  exact (W.nw p (List.mem_append_left _ hp)).2.1 e
 have hLg := hideAll_get (C.map (·.1)) hL nL
 refine ⟨⟨⟨oL, es, ep, W'.fr.keep L oL hLg, hLd, hLk, hLf⟩, fun b o e => W'.fr.keep b o (st b o e), W.fr.above⟩, fun p hp => ?_, ?_⟩
 · rcases List.mem_append.mp hp with hp | hp
   · refine ⟨(W'.nw p hp).1, fun q => ?_, ?_⟩
     · have := (W'.nw p hp).2.2; rw [q, hLg] at this; cases this
     · cases q : g.get? p.1 with
       | none => rfl
       | some o => have := (W'.nw p hp).2.2; rw [st _ _ q] at this; cases this
   · exact ⟨W'.fr.keep _ _ (sr p hp), (W.nw p (List.mem_append_right _ hp)).2⟩
 · rw [List.map_append, List.nodup_append]
   refine ⟨W'.nd, nd.2.1, fun a ha b hb => ?_⟩
   obtain ⟨p, hp, rfl⟩ := List.mem_map.mp ha
   obtain ⟨r, hr, rfl⟩ := List.mem_map.mp hb
   intro q
   have := (W'.nw p hp).2.2
   rw [q, sr r hr] at this; cases this
theorem code_enter {s : Shared} {C R : Led} {P : Value → Led → Prop} {S : Result → Shared → Prop} (W : Wf g L s.heap m (C ++ R)) (B : Bs K g)
 (ho : K.lookup f = some ⟨oc, od, .func (fnX name qual params body scope [] dV kV doc pm an cdv ct), osl⟩) (hcd : codeIn K cdv qual = true) (hroom : A.depth < recursionLimit)
 (hbind : K.In s.heap → BindsTo s (fnX name qual params body scope [] dV kV doc pm an cdv ct) ⟨pos, kw⟩ binds) (hloc : ∀ x ∈ binds, scope.names.lookup x.1 = some .local)
 (hb : ∀ h₀ L', (∀ b o, g.get? b = some o → h₀.get? b = some o) → (∀ p ∈ R, h₀.get? p.1 = some p.2) → Bs K h₀ →
  Bd (model prog w) (A.deeper (envX qual scope L' f cdv [])) h₀ L' binds.reverse C (execs body (envX qual scope L' f cdv [])) P)
 (k : ∀ v h' tk' C', P v C' → Wf g L h' m (C' ++ R) → S (.ok (.ret v)) { s with heap := h', toks := tk' })
 (hcell : ∀ x ∈ scope.names, x.2 ≠ .cell) (hco : scope.isCoroutine = false := by rfl) (hgen : scope.isGenerator = false := by rfl) (hk : scope.kind = .function := by rfl) :
 codeAny (model prog w) A (.call (.ref f) ⟨pos, kw⟩) S s := by
 have X := B.X.keeps W.fr.keep
 obtain ⟨st, sr, bk⟩ := W.hide
 refine codeAny_call_def (fd := fnX name qual params body scope [] dV kV doc pm an cdv ct) (body := body) (binds := binds) hroom (X _ _ ho) rfl (B.nolimit.keeps W.fr.keep) (codeRec_of X hcd) rfl (hbind X) hcell hloc (fun h₁ hns hk₁ => ?_) hco hgen hk
 have W₁ : Wf (hideAll s.heap (C.map (·.1))) s.heap.objs.size h₁ binds.reverse C :=
  ⟨⟨hns, fun b o e => hk₁ b o (of_hideAll _ e), Nat.le_of_eq (hideAll_size _ _)⟩, fun p hp => ⟨hk₁ _ _ (W.nw p (List.mem_append_left _ hp)).1, Nat.ne_of_lt (Heap.lt_size (W.nw p (List.mem_append_left _ hp)).1), hideAll_none _ (List.mem_map_of_mem hp)⟩, by
   have := W.nd; rw [List.map_append, List.nodup_append] at this; exact this.1⟩
 exact hb _ s.heap.objs.size st sr (B.keeps st) _ _ _ W₁ fun fl h' tk' m' C' p W' => k _ h' tk' C' p (bk _ _ _ _ W')
end
noncomputable def en (P : Params) (x : Str) (t : Tok) (v : Value) : DictEntry := ⟨PyData.keyHash P x, .str x t, v⟩
noncomputable def IsI (n : Int) (v : Value) : Prop := ∃ t, v = .int n t
noncomputable def IsB (b : List UInt8) (v : Value) : Prop := ∃ t, v = .bytes b.toArray t
noncomputable def IsS (x : Str) (v : Value) : Prop := ∃ t, v = .str x t
noncomputable def IsT (b : Bool) (v : Value) : Prop := v = .bool b
noncomputable def IsV (u : Value) (v : Value) : Prop := v = u
section
variable {prog : Program} {w : World} {M : Model} {A : Around} {g : Heap} {L a : Addr} {m : Loc} {N : Led} {K : Frag} {cn : Str} {cs : Scope} {ccd : Value} {cl : List (Str × Addr)} {env : Env}
theorem ev_release {vs keep : List Value} {P : Unit → Led → Prop} (h : P () N) : Ev M A g L m N (release vs keep) P := by
 unfold release
 generalize vs.filter _ = l
 induction l with
 | nil => exact ev_pure h
 | cons x r ih =>
  cases r with
  | nil => exact ev_pure h
  | cons y r => exact ev_bind (P := fun _ N' => N' = N) (ev_holding (ev_point rfl)) fun _ N' e => e ▸ ih
theorem ev_operate {ops : List Value} {t : Sem Value} {P : Value → Led → Prop} (h : Ev M A g L m N t P) : Ev M A g L m N (operate ops t) P := by
 unfold operate
 refine ev_bind (ev_holding h) fun v N' p => ?_
 exact ev_bind (P := fun _ N2 => N2 = N') (ev_release rfl) fun _ _ e => e ▸ ev_pure p
theorem ev_int {i : Int} {k : Nat} {p : Pos} : EvP M A g L m N (eval (.Constant (.int i) k p) env) (IsI i) := fun s _ _ W q => wpAny_Constant_int (q _ s.heap (s.toks + 1) N ⟨⟨_, rfl⟩, rfl⟩ W)
theorem ev_str {x : Str} {k : Nat} {p : Pos} : EvP M A g L m N (eval (.Constant (.str x) k p) env) (IsS x) := fun s _ _ W q => Constant_str (q _ s.heap (s.toks + 1) N ⟨⟨_, rfl⟩, rfl⟩ W)
theorem ev_bytes {x : List UInt8} {k : Nat} {p : Pos} : EvP M A g L m N (eval (.Constant (.bytes x) k p) env) (IsB x) := fun s _ _ W q => by
 show wpAny M A (mkTextBytes x.toArray) _ _ s
 exact fun _ _ _ => q _ s.heap (s.toks + 1) N ⟨⟨_, rfl⟩, rfl⟩ W
theorem ev_none {k : Nat} {p : Pos} : EvP M A g L m N (eval (.Constant .none k p) env) (IsV .none) := fun s _ _ W q => wpAny_Constant_none (q _ s.heap s.toks N ⟨rfl, rfl⟩ W)
theorem ev_bool {b : Bool} {k : Nat} {p : Pos} : EvP M A g L m N (eval (.Constant (.bool b) k p) env) (IsT b) := fun s _ _ W q => wpAny_Constant_bool (q _ s.heap s.toks N ⟨rfl, rfl⟩ W)
theorem ev_local {x : Str} {p : Pos} {v : Value} (hv : lk m x = some v) (hk : cs.kind = .function := by rfl) (hx : (envX cn cs L a ccd cl).kindOf x = some .local := by rfl) (hd : (x == ("__debug__" : Str)) = false := by decide) :
 EvP M A g L m N (eval (.Name x p) (envX cn cs L a ccd cl)) (IsV v) := fun s _ _ W q => nameX_L W.fr hv (q v s.heap s.toks N ⟨rfl, rfl⟩ W) hk hx hd
theorem ev_localI {x : Str} {p : Pos} {n : Int} {t : Tok} (hv : lk m x = some (.int n t)) (hk : cs.kind = .function := by rfl) (hx : (envX cn cs L a ccd cl).kindOf x = some .local := by rfl) (hd : (x == ("__debug__" : Str)) = false := by decide) :
 EvP M A g L m N (eval (.Name x p) (envX cn cs L a ccd cl)) (IsI n) := ev_mono (ev_local hv hk hx hd) fun v _ e => ⟨⟨t, e.1⟩, e.2⟩
theorem ev_localB {x : Str} {p : Pos} {n : List UInt8} {t : Tok} (hv : lk m x = some (.bytes n.toArray t)) (hk : cs.kind = .function := by rfl) (hx : (envX cn cs L a ccd cl).kindOf x = some .local := by rfl) (hd : (x == ("__debug__" : Str)) = false := by decide) :
 EvP M A g L m N (eval (.Name x p) (envX cn cs L a ccd cl)) (IsB n) := ev_mono (ev_local hv hk hx hd) fun v _ e => ⟨⟨t, e.1⟩, e.2⟩
theorem ev_localS {x : Str} {p : Pos} {n : Str} {t : Tok} (hv : lk m x = some (.str n t)) (hk : cs.kind = .function := by rfl) (hx : (envX cn cs L a ccd cl).kindOf x = some .local := by rfl) (hd : (x == ("__debug__" : Str)) = false := by decide) :
 EvP M A g L m N (eval (.Name x p) (envX cn cs L a ccd cl)) (IsS n) := ev_mono (ev_local hv hk hx hd) fun v _ e => ⟨⟨t, e.1⟩, e.2⟩
theorem ev_global {x : Str} {p : Pos} {v : Value} (B : Bs K g) (e : nsIn K mainGlobals x = some (some v)) (hk : cs.kind = .function := by rfl) (hx : (envX cn cs L a ccd cl).kindOf x = some .globalImplicit := by rfl) (hd : (x == ("__debug__" : Str)) = false := by decide) :
 EvP M A g L m N (eval (.Name x p) (envX cn cs L a ccd cl)) (IsV v) := fun s _ _ W q => by
 obtain ⟨_, _, _, _, T⟩ := B.T
 exact nameX_K W.fr B.X T e (q v s.heap s.toks N ⟨rfl, rfl⟩ W) hk hx hd
theorem ev_globalI {x : Str} {p : Pos} {n : Int} {t : Tok} (B : Bs K g) (e : nsIn K mainGlobals x = some (some (.int n t))) (hk : cs.kind = .function := by rfl) (hx : (envX cn cs L a ccd cl).kindOf x = some .globalImplicit := by rfl) (hd : (x == ("__debug__" : Str)) = false := by decide) :
 EvP M A g L m N (eval (.Name x p) (envX cn cs L a ccd cl)) (IsI n) := ev_mono (ev_global B e hk hx hd) fun v _ e => ⟨⟨t, e.1⟩, e.2⟩
theorem ev_globalS {x : Str} {p : Pos} {n : Str} {t : Tok} (B : Bs K g) (e : nsIn K mainGlobals x = some (some (.str n t))) (hk : cs.kind = .function := by rfl) (hx : (envX cn cs L a ccd cl).kindOf x = some .globalImplicit := by rfl) (hd : (x == ("__debug__" : Str)) = false := by decide) :
 EvP M A g L m N (eval (.Name x p) (envX cn cs L a ccd cl)) (IsS n) := ev_mono (ev_global B e hk hx hd) fun v _ e => ⟨⟨t, e.1⟩, e.2⟩
theorem ev_builtin {x : Str} {p : Pos} {v : Value} (B : Bs K g) (e : nsIn K mainGlobals x = some none) (hv : bootBuiltins x = some v) (hn : x ≠ "__name__" := by decide) (hk : cs.kind = .function := by rfl) (hx : (envX cn cs L a ccd cl).kindOf x = some .globalImplicit := by rfl) (hd : (x == ("__debug__" : Str)) = false := by decide) :
 EvP M A g L m N (eval (.Name x p) (envX cn cs L a ccd cl)) (IsV v) := fun s _ _ W q => by
 obtain ⟨_, _, _, _, T⟩ := B.T
 exact nameX_B W.fr B.X T e hv hn (q v s.heap s.toks N ⟨rfl, rfl⟩ W) hk hx hd
theorem ev_BinOp {l r : Expr} {op : Operator} {p : Pos} {p1 p2 : Value → Prop} {P : Value → Led → Prop} (h1 : EvP M A g L m N (eval l env) p1) (h2 : EvP M A g L m N (eval r env) p2)
 (h : ∀ x y, p1 x → p2 y → Ev M A g L m N (binaryOp op x y) P) : Ev M A g L m N (eval (.BinOp l op r p) env) P := by
 rw [arm_eval_BinOp]
 refine ev_bind h1 fun x N1 e1 => ?_
 obtain ⟨e1, rfl⟩ := e1
 refine ev_bind (ev_holding h2) fun y N2 e2 => ?_
 obtain ⟨e2, rfl⟩ := e2
 exact ev_at (ev_operate (h x y e1 e2))
theorem ev_add {l r : Expr} {p : Pos} {x y : Int} (h1 : EvP (model prog w) A g L m N (eval l env) (IsI x)) (h2 : EvP (model prog w) A g L m N (eval r env) (IsI y)) : EvP (model prog w) A g L m N (eval (.BinOp l .Add r p) env) (IsI (x + y)) :=
 ev_BinOp h1 h2 fun _ _ ⟨_, e1⟩ ⟨_, e2⟩ => e1 ▸ e2 ▸ fun s _ _ W q => PySem.P.add_int (q _ s.heap (s.toks + 1) N ⟨⟨_, rfl⟩, rfl⟩ W)
theorem ev_sub {l r : Expr} {p : Pos} {x y : Int} (h1 : EvP (model prog w) A g L m N (eval l env) (IsI x)) (h2 : EvP (model prog w) A g L m N (eval r env) (IsI y)) : EvP (model prog w) A g L m N (eval (.BinOp l .Sub r p) env) (IsI (x - y)) :=
 ev_BinOp h1 h2 fun _ _ ⟨_, e1⟩ ⟨_, e2⟩ => e1 ▸ e2 ▸ fun s _ _ W q => PySem.P.sub_int (q _ s.heap (s.toks + 1) N ⟨⟨_, rfl⟩, rfl⟩ W)
theorem ev_mul {l r : Expr} {p : Pos} {x y : Int} (h1 : EvP (model prog w) A g L m N (eval l env) (IsI x)) (h2 : EvP (model prog w) A g L m N (eval r env) (IsI y)) (hm : IntMulOk x y) : EvP (model prog w) A g L m N (eval (.BinOp l .Mult r p) env) (IsI (x * y)) :=
 ev_BinOp h1 h2 fun _ _ ⟨_, e1⟩ ⟨_, e2⟩ => e1 ▸ e2 ▸ fun s _ _ W q => PySem.P.mul_int (q _ s.heap (s.toks + 1) N ⟨⟨_, rfl⟩, rfl⟩ W) hm
theorem ev_mod {l r : Expr} {p : Pos} {x y : Int} (h1 : EvP (model prog w) A g L m N (eval l env) (IsI x)) (h2 : EvP (model prog w) A g L m N (eval r env) (IsI y)) (hy : y ≠ 0) : EvP (model prog w) A g L m N (eval (.BinOp l .Mod r p) env) (IsI (x.fmod y)) :=
 ev_BinOp h1 h2 fun _ _ ⟨_, e1⟩ ⟨_, e2⟩ => e1 ▸ e2 ▸ fun s _ _ W q => PyProof.Rows.mod_int hy (q _ s.heap (s.toks + 1) N ⟨⟨_, rfl⟩, rfl⟩ W)
theorem ev_fdiv {l r : Expr} {p : Pos} {x y : Int} (h1 : EvP (model prog w) A g L m N (eval l env) (IsI x)) (h2 : EvP (model prog w) A g L m N (eval r env) (IsI y)) (hy : y ≠ 0) (hp : Builtin.divisionGoesByPylong x y = false) : EvP (model prog w) A g L m N (eval (.BinOp l .FloorDiv r p) env) (IsI (x.fdiv y)) :=
 ev_BinOp h1 h2 fun _ _ ⟨_, e1⟩ ⟨_, e2⟩ => e1 ▸ e2 ▸ fun s _ _ W q => PyProof.Rows.floordiv_int hy (q _ s.heap (s.toks + 1) N ⟨⟨_, rfl⟩, rfl⟩ W) (.inl hp)
theorem ev_pow {l r : Expr} {p : Pos} {x y : Int} (h1 : EvP (model prog w) A g L m N (eval l env) (IsI x)) (h2 : EvP (model prog w) A g L m N (eval r env) (IsI y)) (h0 : 0 ≤ y) (hy : y ≤ 1000000) (hx : x.natAbs < 2 ^ 64) : EvP (model prog w) A g L m N (eval (.BinOp l .Pow r p) env) (IsI (x ^ y.toNat)) :=
 ev_BinOp h1 h2 fun _ _ ⟨_, e1⟩ ⟨_, e2⟩ => e1 ▸ e2 ▸ fun s _ _ W q => PyProof.Rows.pow_int_small h0 hy hx (q _ s.heap (s.toks + 1) N ⟨⟨_, rfl⟩, rfl⟩ W)
theorem ev_cmp1 {l r : Expr} {op : CmpOp} {p : Pos} {p1 p2 : Value → Prop} {P : Value → Led → Prop} (h1 : EvP M A g L m N (eval l env) p1) (h2 : EvP M A g L m N (eval r env) p2)
 (h : ∀ x y, p1 x → p2 y → Ev M A g L m N (compareOp op x y) P) (hm : behindInMarks op r = false := by with_unfolding_all rfl) : Ev M A g L m N (eval (.Compare l [op] [r] p) env) P :=
 fun s Q E W q => wpAny_Compare1 (h1 s _ E W fun x h' tk' N1 e1 W1 => by
  obtain ⟨e1, rfl⟩ := e1
  exact h2 _ _ E W1 fun y h2' tk2 N2 e2 W2 => by
   obtain ⟨e2, rfl⟩ := e2
   exact h x y e1 e2 _ Q E W2 fun v h3 tk3 N3 p3 W3 => q v h3 tk3 N3 p3 W3) hm
noncomputable abbrev Tst (M : Model) (A : Around) (g : Heap) (L : Addr) (m : Loc) (N : Led) (e : Expr) (env : Env) (b : Bool) : Prop := EvP M A g L m N (isTrue e env (eval e env)) (fun c => c = b)
noncomputable abbrev Tru (M : Model) (A : Around) (g : Heap) (L : Addr) (m : Loc) (N : Led) (v : Value) (b : Bool) : Prop := EvP M A g L m N (truthy v) (fun c => c = b)
theorem tru_bool {b : Bool} : Tru M A g L m N (.bool b) b := fun s _ _ W q => wpAny_truthy_bool (q b s.heap s.toks N ⟨rfl, rfl⟩ W)
theorem tru_none : Tru M A g L m N .none false := fun s _ _ W q => truthy_none (q _ s.heap s.toks N ⟨rfl, rfl⟩ W)
theorem tst_plain {e : Expr} {p : Value → Prop} {b : Bool} (h : EvP M A g L m N (eval e env) p) (ht : ∀ v, p v → Tru M A g L m N v b)
 (he : ∀ whole, isTrue e env whole = (do let v ← whole; standAt e.pos; holding [v] (truthy v)) := by intro _; rfl) : Tst M A g L m N e env b := by
 unfold Tst
 rw [he]
 refine ev_bind h fun v N' e1 => ?_
 obtain ⟨e1, rfl⟩ := e1
 exact ev_at (ev_holding (ht v e1))
theorem tst_not {e : Expr} {p : Pos} {b : Bool} (h : Tst M A g L m N e env b) : Tst M A g L m N (.UnaryOp .Not e p) env (!b) := fun s Q E W q =>
 isTrue_not (h s _ E W fun c h' tk' N' e1 W' => by obtain ⟨rfl, rfl⟩ := e1; exact q _ h' tk' _ ⟨rfl, rfl⟩ W')
theorem tst_and {e : Expr} {r : List Expr} {p : Pos} {b c : Bool} (h : Tst M A g L m N e env b) (hr : b = true → Tst M A g L m N (.BoolOp .And r p) env c) : Tst M A g L m N (.BoolOp .And (e :: r) p) env (b && c) := fun s Q E W q =>
 isTrue_and (h s _ E W fun c' h' tk' N' e1 W' => by
  obtain ⟨rfl, rfl⟩ := e1
  cases c' with
  | false => exact q false h' tk' _ ⟨rfl, rfl⟩ W'
  | true => exact hr rfl _ Q E W' fun c2 h2 tk2 N2 e2 W2 => q c2 h2 tk2 N2 (by simpa using e2) W2)
theorem tst_and0 {p : Pos} : Tst M A g L m N (.BoolOp .And [] p) env true := fun s Q E W q => isTrue_and_nil (q true s.heap s.toks N ⟨rfl, rfl⟩ W)
theorem tst_or {e : Expr} {r : List Expr} {p : Pos} {b c : Bool} (h : Tst M A g L m N e env b) (hr : b = false → Tst M A g L m N (.BoolOp .Or r p) env c) : Tst M A g L m N (.BoolOp .Or (e :: r) p) env (b || c) := fun s Q E W q =>
 isTrue_or (h s _ E W fun c' h' tk' N' e1 W' => by
  obtain ⟨rfl, rfl⟩ := e1
  cases c' with
  | true => exact q true h' tk' _ ⟨rfl, rfl⟩ W'
  | false => exact hr rfl _ Q E W' fun c2 h2 tk2 N2 e2 W2 => q c2 h2 tk2 N2 (by simpa using e2) W2)
theorem tst_or0 {p : Pos} : Tst M A g L m N (.BoolOp .Or [] p) env false := fun s Q E W q => isTrue_or_nil (q false s.heap s.toks N ⟨rfl, rfl⟩ W)
theorem tst_cmp1 {l r : Expr} {op : CmpOp} {p : Pos} {p1 p2 : Value → Prop} {b : Bool} (h1 : EvP M A g L m N (eval l env) p1) (h2 : EvP M A g L m N (eval r env) p2)
 (h : ∀ x y, p1 x → p2 y → EvP M A g L m N (compareOp op x y) (IsT b)) (hm : behindInMarks op r = false := by with_unfolding_all rfl) : Tst M A g L m N (.Compare l [op] [r] p) env b :=
 fun s Q E W q => wpAny_isTrue_Compare1 (h1 s _ E W fun x h' tk' N1 e1 W1 => by
  obtain ⟨e1, rfl⟩ := e1
  exact h2 _ _ E W1 fun y h2' tk2 N2 e2 W2 => by
   obtain ⟨e2, rfl⟩ := e2
   exact h x y e1 e2 _ _ E W2 fun v h3 tk3 N3 p3 W3 => by
    obtain ⟨p3, rfl⟩ := p3
    obtain rfl : v = .bool b := p3
    exact wpAny_truthy_bool (q b h3 tk3 _ ⟨rfl, rfl⟩ W3)) hm
theorem co_lt {x y : Int} {v u : Value} (h1 : IsI x v) (h2 : IsI y u) : EvP (model prog w) A g L m N (compareOp .Lt v u) (IsT (decide (x < y))) := by
 obtain ⟨_, rfl⟩ := h1; obtain ⟨_, rfl⟩ := h2; exact fun s _ _ W q => P.lt_int (q _ s.heap s.toks N ⟨rfl, rfl⟩ W)
theorem co_gt {x y : Int} {v u : Value} (h1 : IsI x v) (h2 : IsI y u) : EvP (model prog w) A g L m N (compareOp .Gt v u) (IsT (decide (y < x))) := by
 obtain ⟨_, rfl⟩ := h1; obtain ⟨_, rfl⟩ := h2; exact fun s _ _ W q => P.gt_int (q _ s.heap s.toks N ⟨rfl, rfl⟩ W)
theorem co_eq {x y : Int} {v u : Value} (h1 : IsI x v) (h2 : IsI y u) : EvP (model prog w) A g L m N (compareOp .Eq v u) (IsT (x == y)) := by
 obtain ⟨_, rfl⟩ := h1; obtain ⟨_, rfl⟩ := h2; exact fun s _ _ W q => P.eq_int (q _ s.heap s.toks N ⟨rfl, rfl⟩ W)
theorem co_ne {x y : Int} {v u : Value} (h1 : IsI x v) (h2 : IsI y u) : EvP (model prog w) A g L m N (compareOp .NotEq v u) (IsT (x != y)) := by
 obtain ⟨_, rfl⟩ := h1; obtain ⟨_, rfl⟩ := h2; exact fun s _ _ W q => P.ne_int (q _ s.heap s.toks N ⟨rfl, rfl⟩ W)
noncomputable def Nx (M : Model) (A : Around) (g : Heap) (L : Addr) (env : Env) (rest : List Stmt) (R : Flow → Loc → Led → Prop) (fl : Flow) (m : Loc) (N : Led) : Prop := match fl with
 | .next => Xs M A g L m N (execs rest env) R
 | fl => R fl m N
theorem xs_nil {R : Flow → Loc → Led → Prop} (h : R .next m N) : Xs M A g L m N (execs [] env) R := fun s _ _ W q => wpAny_execs_nil (q _ s.heap s.toks m N h W)
theorem xs_cons {st : Stmt} {rest : List Stmt} {R : Flow → Loc → Led → Prop} (h : Xs M A g L m N (exec st env) (Nx M A g L env rest R)) : Xs M A g L m N (execs (st :: rest) env) R := fun s Q E W q =>
 wpAny_execs_cons (h s _ E W fun fl h' tk' m' N' p W' => by
  cases fl with
  | next => exact p _ Q E W' fun fl2 h2 tk2 m2 N2 p2 W2 => q fl2 h2 tk2 m2 N2 p2 W2
  | _ => exact q _ h' tk' m' N' p W')
theorem xs_return {e : Expr} {p : Pos} {rest : List Stmt} {P : Value → Led → Prop} {R : Flow → Loc → Led → Prop} (h : Ev M A g L m N (eval e env) P) (k : ∀ v N', P v N' → R (.ret v) m N') : Xs M A g L m N (execs (.Return (some e) p :: rest) env) R :=
 xs_cons fun s Q E W q => wpAny_Return_some (h s _ E W fun v h' tk' N' p1 W' => q _ h' tk' m N' (k v N' p1) W')
theorem xs_assign {x : Str} {e : Expr} {p p' : Pos} {rest : List Stmt} {P : Value → Led → Prop} {R : Flow → Loc → Led → Prop} (h : Ev M A g L m N (eval e (envX cn cs L a ccd cl)) P)
 (k : ∀ v N', P v N' → Xs M A g L ((x, v) :: m) N' (execs rest (envX cn cs L a ccd cl)) R)
 (hs : swapsWith e (some (.Name x p')) p.line (envX cn cs L a ccd cl) = pure false := by rfl) (hk : cs.kind = .function := by rfl) (hx : (envX cn cs L a ccd cl).kindOf x = some .local := by rfl) :
 Xs M A g L m N (execs (.Assign [.Name x p'] e p :: rest) (envX cn cs L a ccd cl)) R :=
 xs_cons fun s Q E W q => wpAny_Assign_Name (h s _ E W fun v h' tk' N' p1 W' =>
  storeX_L W'.fr W'.nw (fun h2 F2 n2 => q .next h2 (tk' + 1) _ N' (k v N' p1) ⟨lk_cons m x v ▸ F2, n2, W'.nd⟩) hk hx) hs
theorem xs_if {t : Expr} {b o : List Stmt} {p : Pos} {rest : List Stmt} {c : Bool} {R : Flow → Loc → Led → Prop} (h : Tst M A g L m N t env c)
 (ht : c = true → Xs M A g L m N (execs b env) (Nx M A g L env rest R)) (hf : c = false → Xs M A g L m N (execs o env) (Nx M A g L env rest R)) : Xs M A g L m N (execs (.If t b o p :: rest) env) R :=
 xs_cons fun s Q E W q => by
  rw [arm_exec_If]
  refine wpAny_bind (wpAny_standAt (wpAny_bind (h s _ E W fun c' h' tk' N' p1 W' => ?_)))
  obtain ⟨rfl, rfl⟩ := p1
  cases c' with
  | true => exact ht rfl _ Q E W' q
  | false => exact hf rfl _ Q E W' q
theorem nx_nil {rest : List Stmt} {R : Flow → Loc → Led → Prop} (h : Xs M A g L m N (execs rest env) R) : Xs M A g L m N (execs [] env) (Nx M A g L env rest R) := xs_nil h
noncomputable def Kp (K : Frag) (f : Value) : Prop := ∀ (M : Model) (h : Heap), K.In h → ∃ k, (k = Keeper.frame ∨ k = Keeper.machine ∨ k = Keeper.boundFrame) ∧ Looks M h (keeperOf f) k
theorem kp_K {f : Value} (e : keepIn K f = true) : Kp K f := fun M h X => keeps_K e h X
theorem kp_b {n : String} : Kp K (.builtin n) := fun _ _ _ => ⟨_, .inr (.inl rfl), Looks.of_pure rfl⟩
theorem kp_t {n : String} : Kp K (.type n) := fun _ _ _ => ⟨_, .inr (.inl rfl), Looks.of_pure rfl⟩
theorem ar_nil {p : Pos} {PA : List Value → Led → Prop} (h : PA [] N) : Ev M A g L m N (spliced (backTo p (starEach [] env))) PA := fun s Q E W q => args_nil (q [] s.heap s.toks N h W)
theorem ar_cons {e : Expr} {r : List Expr} {p : Pos} {P : Value → Led → Prop} {PA : List Value → Led → Prop} (h : Ev M A g L m N (eval e env) P) (k : ∀ v N', P v N' → Ev M A g L m N' (spliced (backTo p (starEach r env))) (fun vs N2 => PA (v :: vs) N2))
 (he : starEach (e :: r) env = (false, eval e env) :: starEach r env := by rfl) : Ev M A g L m N (spliced (backTo p (starEach (e :: r) env))) PA := fun s Q E W q =>
 args_cons (h s _ E W fun v h' tk' N' p1 W' => k v N' p1 _ _ E W' fun vs h2 tk2 N2 p2 W2 => q _ h2 tk2 N2 p2 W2) he
theorem ev_callWith {p : Pos} {f : Value} {first : List Value} {e : Expr} {r : List Expr} {PA : List Value → Led → Prop} {P : Value → Led → Prop} (B : Bs K g) (hk : Kp K f) (ha : Ev M A g L m N (spliced (backTo p (starEach (e :: r) env))) PA)
 (hc : ∀ vs N', PA vs N' → Ev M A g L m N' (call f (first ++ vs)) P)
 (he : starEach (e :: r) env = (false, eval e env) :: starEach r env := by rfl) (hplain : (backTo p (starEach r env)).any (·.1) = false := by rfl) : Ev M A g L m N (callWith p f first (backTo p (starEach (e :: r) env)) []) P := fun s Q E W q => by
 rw [he] at ha ⊢
 refine callWith_of (P := K.In) (by show ((false || (backTo p (starEach r env)).any (·.1)) || false) = false; rw [hplain]; rfl) (fun h X => hk M h X) (evalArgs_plain ?_)
 exact ha s _ E W fun vs h' tk' N' p1 W' => ⟨B.X.keeps W'.fr.keep, hc vs N' p1 _ Q E W' q⟩
theorem ev_callWith0 {p : Pos} {f : Value} {first : List Value} {P : Value → Led → Prop} (B : Bs K g) (hk : Kp K f) (hc : Ev M A g L m N (call f first) P) : Ev M A g L m N (callWith p f first (backTo p (starEach [] env)) []) P := fun s Q E W q =>
 callWith_of (P := K.In) rfl (fun h X => hk M h X) (evalArgs_nil3 ⟨B.X.keeps W.fr.keep, by rw [List.append_nil]; exact hc s Q E W q⟩)
theorem ev_Call {fe : Expr} {args : List Expr} {p : Pos} {f : Value} {P : Value → Led → Prop} (hf : EvP M A g L m N (eval fe env) (IsV f)) (h : Ev M A g L m N (callWith p f [] (backTo p (starEach args env)) []) P)
 (he : eval (.Call fe args [] p) env = (do callWith p (← eval fe env) [] (backTo p (starEach args env)) (backToKw p (keywordEach [] env))) := by rfl) : Ev M A g L m N (eval (.Call fe args [] p) env) P := by
 rw [he]
 refine ev_bind hf fun v N' e => ?_
 obtain ⟨rfl, rfl⟩ := e
 exact h
theorem ev_Call1 {fe e1 : Expr} {p : Pos} {f : Value} {p1 : Value → Prop} {P : Value → Led → Prop} (B : Bs K g) (hf : EvP M A g L m N (eval fe env) (IsV f)) (hk : Kp K f) (h1 : EvP M A g L m N (eval e1 env) p1) (hc : ∀ v, p1 v → Ev M A g L m N (call f [v]) P)
 (he : eval (.Call fe [e1] [] p) env = (do callWith p (← eval fe env) [] (backTo p (starEach [e1] env)) (backToKw p (keywordEach [] env))) := by rfl)
 (he1 : starEach [e1] env = (false, eval e1 env) :: starEach [] env := by rfl) : Ev M A g L m N (eval (.Call fe [e1] [] p) env) P :=
 ev_Call hf (ev_callWith (PA := fun vs N' => (∃ v, vs = [v] ∧ p1 v) ∧ N' = N) B hk (ar_cons h1 (fun v N' e => e.2 ▸ ar_nil ⟨⟨v, rfl, e.1⟩, rfl⟩) he1) (fun vs N' e => by obtain ⟨⟨v, rfl, e⟩, rfl⟩ := e; exact hc v e) he1) he
theorem ev_Call2 {fe e1 e2 : Expr} {p : Pos} {f : Value} {p1 p2 : Value → Prop} {P : Value → Led → Prop} (B : Bs K g) (hf : EvP M A g L m N (eval fe env) (IsV f)) (hk : Kp K f) (h1 : EvP M A g L m N (eval e1 env) p1) (h2 : EvP M A g L m N (eval e2 env) p2)
 (hc : ∀ v u, p1 v → p2 u → Ev M A g L m N (call f [v, u]) P)
 (he : eval (.Call fe [e1, e2] [] p) env = (do callWith p (← eval fe env) [] (backTo p (starEach [e1, e2] env)) (backToKw p (keywordEach [] env))) := by rfl)
 (he1 : starEach [e1, e2] env = (false, eval e1 env) :: starEach [e2] env := by rfl) (he2 : starEach [e2] env = (false, eval e2 env) :: starEach [] env := by rfl) (hplain : (backTo p (starEach [e2] env)).any (·.1) = false := by rfl) : Ev M A g L m N (eval (.Call fe [e1, e2] [] p) env) P :=
 ev_Call hf (ev_callWith (PA := fun vs N' => (∃ v u, vs = [v, u] ∧ p1 v ∧ p2 u) ∧ N' = N) B hk (by
  refine ar_cons h1 (fun v N' e => ?_) he1
  obtain ⟨e, rfl⟩ := e
  refine ar_cons h2 (fun u N2 e' => ?_) he2
  obtain ⟨e', rfl⟩ := e'
  exact ar_nil ⟨⟨v, u, rfl, e, e'⟩, rfl⟩)
  (fun vs N' e => by obtain ⟨⟨v, u, rfl, e1, e2⟩, rfl⟩ := e; exact hc v u e1 e2) he1 hplain) he
end
noncomputable def nth : List Stmt → Nat → Stmt
 | [], _ => .Pass ⟨0, 0, 0, 0⟩
 | s :: _, 0 => s
 | _ :: r, n + 1 => nth r n
noncomputable def bodyOf : Stmt → List Stmt
 | .FunctionDef _ _ b _ _ _ _ _ _ _ => b
 | .ClassDef _ _ _ b _ _ _ _ _ _ _ => b
 | _ => []
noncomputable def parsOf : Stmt → Arguments
 | .FunctionDef _ a _ _ _ _ _ _ _ _ => a
 | _ => ⟨[], [], none, [], [], none, []⟩
noncomputable def scopeOf : Stmt → Scope
 | .FunctionDef _ _ _ _ _ _ s _ _ _ => s
 | _ => { kind := .function, names := [], isGenerator := false, isCoroutine := false, more := [] }
noncomputable def st1 (i : Nat) : Stmt := nth PySem.Challenge.pw_be0012_01.main.body i
noncomputable def st2 (i j : Nat) : Stmt := nth (bodyOf (st1 i)) j
noncomputable def fb1 (i : Nat) : List Stmt := bodyOf (st1 i)
noncomputable def fp1 (i : Nat) : Arguments := parsOf (st1 i)
noncomputable def fs1 (i : Nat) : Scope := scopeOf (st1 i)
noncomputable def fb2 (i j : Nat) : List Stmt := bodyOf (st2 i j)
noncomputable def fp2 (i j : Nat) : Arguments := parsOf (st2 i j)
noncomputable def fs2 (i j : Nat) : Scope := scopeOf (st2 i j)
noncomputable abbrev sm (l : List Nat) : Str := Str.mk (Array.mk l)
noncomputable def nx0 : Str := sm [116, 121, 112, 101, 46, 95, 95, 115, 117, 98, 99, 108, 97, 115, 115, 101, 115, 95, 95, 46, 69, 120, 99, 101, 112, 116, 105, 111, 110, 46, 48]
noncomputable def nx1 : Str := sm [116, 121, 112, 101, 46, 95, 95, 115, 117, 98, 99, 108, 97, 115, 115, 101, 115, 95, 95, 46, 69, 120, 99, 101, 112, 116, 105, 111, 110, 46, 110]
noncomputable def nx2 : Str := sm [116, 121, 112, 101, 46, 95, 95, 115, 117, 98, 99, 108, 97, 115, 115, 101, 115, 95, 95, 46, 79, 83, 69, 114, 114, 111, 114, 46, 48]
noncomputable def nx3 : Str := sm [116, 121, 112, 101, 46, 95, 95, 115, 117, 98, 99, 108, 97, 115, 115, 101, 115, 95, 95, 46, 79, 83, 69, 114, 114, 111, 114, 46, 110]
noncomputable def nx4 : Str := sm [95, 95, 110, 97, 109, 101, 95, 95]
noncomputable def n_law_be0012_01 : Str := sm [108, 97, 119, 95, 98, 101, 48, 48, 49, 50, 95, 48, 49]
noncomputable def nx6 : Str := sm [95, 95, 100, 111, 99, 95, 95]
noncomputable def nx7 : Str := sm [95, 95, 112, 97, 99, 107, 97, 103, 101, 95, 95]
noncomputable def nx8 : Str := sm [95, 95, 108, 111, 97, 100, 101, 114, 95, 95]
noncomputable def nx9 : Str := sm [95, 95, 115, 112, 101, 99, 95, 95]
noncomputable def nx10 : Str := sm [95, 95, 97, 110, 110, 111, 116, 97, 116, 105, 111, 110, 115, 95, 95]
noncomputable def nx11 : Str := sm [95, 95, 98, 117, 105, 108, 116, 105, 110, 115, 95, 95]
noncomputable def nx12 : Str := sm [95, 95, 102, 105, 108, 101, 95, 95]
noncomputable def nx13 : Str := sm [47, 99, 108, 97, 105, 109, 47, 99, 117, 116, 46, 112, 121]
noncomputable def nx14 : Str := sm [95, 95, 99, 97, 99, 104, 101, 100, 95, 95]
noncomputable def nx15 : Str := sm [95, 119, 97, 108, 108]
noncomputable def n_hexlify : Str := sm [104, 101, 120, 108, 105, 102, 121]
noncomputable def n_Sha256 : Str := sm [83, 104, 97, 50, 53, 54]
noncomputable def n_Sha512 : Str := sm [83, 104, 97, 53, 49, 50]
noncomputable def n_hashlib : Str := sm [104, 97, 115, 104, 108, 105, 98]
noncomputable def n_hmac : Str := sm [104, 109, 97, 99]
noncomputable def n_ripemd160 : Str := sm [114, 105, 112, 101, 109, 100, 49, 54, 48]
noncomputable def n_copy : Str := sm [99, 111, 112, 121]
noncomputable def n_double_sha256 : Str := sm [100, 111, 117, 98, 108, 101, 95, 115, 104, 97, 50, 53, 54]
noncomputable def n_hash160 : Str := sm [104, 97, 115, 104, 49, 54, 48]
noncomputable def n_B58_DIGITS : Str := sm [66, 53, 56, 95, 68, 73, 71, 73, 84, 83]
noncomputable def nx26 : Str := sm [49, 50, 51, 52, 53, 54, 55, 56, 57, 65, 66, 67, 68, 69, 70, 71, 72, 74, 75, 76, 77, 78, 80, 81, 82, 83, 84, 85, 86, 87, 88, 89, 90, 97, 98, 99, 100, 101, 102, 103, 104, 105, 106, 107, 109, 110, 111, 112, 113, 114, 115, 116, 117, 118, 119, 120, 121, 122]
noncomputable def n_encode : Str := sm [101, 110, 99, 111, 100, 101]
noncomputable def n_decode : Str := sm [100, 101, 99, 111, 100, 101]
noncomputable def n_encode_check : Str := sm [101, 110, 99, 111, 100, 101, 95, 99, 104, 101, 99, 107]
noncomputable def n_decode_check : Str := sm [100, 101, 99, 111, 100, 101, 95, 99, 104, 101, 99, 107]
noncomputable def n_EC_COMPRESSED : Str := sm [69, 67, 95, 67, 79, 77, 80, 82, 69, 83, 83, 69, 68]
noncomputable def n_EC_UNCOMPRESSED : Str := sm [69, 67, 95, 85, 78, 67, 79, 77, 80, 82, 69, 83, 83, 69, 68]
noncomputable def nx33 : Str := sm [95, 80, 82, 73, 77, 69]
noncomputable def nx34 : Str := sm [95, 66, 65, 83, 69]
noncomputable def nx35 : Str := sm [95, 110, 117, 109, 98, 101, 114]
noncomputable def nx36 : Str := sm [95, 111, 99, 116, 101, 116, 115]
noncomputable def n_ec_seckey_verify : Str := sm [101, 99, 95, 115, 101, 99, 107, 101, 121, 95, 118, 101, 114, 105, 102, 121]
noncomputable def n_ec_pubkey_create : Str := sm [101, 99, 95, 112, 117, 98, 107, 101, 121, 95, 99, 114, 101, 97, 116, 101]
noncomputable def n_ec_pubkey_serialize : Str := sm [101, 99, 95, 112, 117, 98, 107, 101, 121, 95, 115, 101, 114, 105, 97, 108, 105, 122, 101]
noncomputable def n_ec_pubkey_parse : Str := sm [101, 99, 95, 112, 117, 98, 107, 101, 121, 95, 112, 97, 114, 115, 101]
noncomputable def n_ec_privkey_add : Str := sm [101, 99, 95, 112, 114, 105, 118, 107, 101, 121, 95, 97, 100, 100]
noncomputable def n_ec_pubkey_add : Str := sm [101, 99, 95, 112, 117, 98, 107, 101, 121, 95, 97, 100, 100]
noncomputable def n_NETWORKS : Str := sm [78, 69, 84, 87, 79, 82, 75, 83]
noncomputable def n_EmbitError : Str := sm [69, 109, 98, 105, 116, 69, 114, 114, 111, 114]
noncomputable def nx45 : Str := sm [95, 119, 104, 101, 110, 99, 101]
noncomputable def nx46 : Str := sm [95, 105, 110, 100, 101, 120]
noncomputable def n_UnsupportedOperation : Str := sm [85, 110, 115, 117, 112, 112, 111, 114, 116, 101, 100, 79, 112, 101, 114, 97, 116, 105, 111, 110]
noncomputable def n_IOBase : Str := sm [73, 79, 66, 97, 115, 101]
noncomputable def n_BufferedIOBase : Str := sm [66, 117, 102, 102, 101, 114, 101, 100, 73, 79, 66, 97, 115, 101]
noncomputable def n_TextIOBase : Str := sm [84, 101, 120, 116, 73, 79, 66, 97, 115, 101]
noncomputable def n_BytesIO : Str := sm [66, 121, 116, 101, 115, 73, 79]
noncomputable def n_StringIO : Str := sm [83, 116, 114, 105, 110, 103, 73, 79]
noncomputable def n_EmbitBase : Str := sm [69, 109, 98, 105, 116, 66, 97, 115, 101]
noncomputable def n_EmbitKey : Str := sm [69, 109, 98, 105, 116, 75, 101, 121]
noncomputable def n_ECError : Str := sm [69, 67, 69, 114, 114, 111, 114]
noncomputable def n_PublicKey : Str := sm [80, 117, 98, 108, 105, 99, 75, 101, 121]
noncomputable def n_PrivateKey : Str := sm [80, 114, 105, 118, 97, 116, 101, 75, 101, 121]
noncomputable def n_HARDENED_INDEX : Str := sm [72, 65, 82, 68, 69, 78, 69, 68, 95, 73, 78, 68, 69, 88]
noncomputable def n_HDError : Str := sm [72, 68, 69, 114, 114, 111, 114]
noncomputable def n_HDKey : Str := sm [72, 68, 75, 101, 121]
noncomputable def nx61 : Str := sm [95, 112, 97, 114, 115, 101, 95, 100, 101, 114, 95, 105, 116, 101, 109]
noncomputable def n_parse_path : Str := sm [112, 97, 114, 115, 101, 95, 112, 97, 116, 104]
noncomputable def n_path_to_str : Str := sm [112, 97, 116, 104, 95, 116, 111, 95, 115, 116, 114]
noncomputable def nx64 : Str := sm [95, 108, 97, 119, 95, 110, 117, 109, 98, 101, 114]
noncomputable def nx65 : Str := sm [95, 108, 97, 119, 95, 111, 99, 116, 101, 116, 115]
noncomputable def nx66 : Str := sm [95, 108, 97, 119, 95, 114, 101, 102, 117, 115, 101, 100]
noncomputable def nx67 : Str := sm [95, 108, 97, 119, 95, 114, 97, 119]
noncomputable def nx68 : Str := sm [95, 108, 97, 119, 95, 99, 104, 105, 108, 100]
noncomputable def nx69 : Str := sm [95, 108, 97, 119, 95, 114, 105, 103, 104, 116]
noncomputable def nx70 : Str := sm [95, 108, 97, 119, 95, 115, 97, 109, 101]
noncomputable def n_law : Str := sm [108, 97, 119]
noncomputable def nx72 : Str := sm [95, 95, 105, 110, 105, 116, 95, 95]
noncomputable def nx73 : Str := sm [83, 104, 97, 50, 53, 54, 46, 95, 95, 105, 110, 105, 116, 95, 95]
noncomputable def nx74 : Str := sm [101, 109, 98, 105, 116, 46, 109, 105, 115, 99]
noncomputable def n_digest : Str := sm [100, 105, 103, 101, 115, 116]
noncomputable def nx76 : Str := sm [83, 104, 97, 50, 53, 54, 46, 100, 105, 103, 101, 115, 116]
noncomputable def nx77 : Str := sm [95, 95, 109, 111, 100, 117, 108, 101, 95, 95]
noncomputable def nx78 : Str := sm [95, 95, 102, 105, 114, 115, 116, 108, 105, 110, 101, 110, 111, 95, 95]
noncomputable def n_update : Str := sm [117, 112, 100, 97, 116, 101]
noncomputable def nx80 : Str := sm [95, 95, 115, 116, 97, 116, 105, 99, 95, 97, 116, 116, 114, 105, 98, 117, 116, 101, 115, 95, 95]
noncomputable def nx81 : Str := sm [95, 95, 100, 105, 99, 116, 95, 95]
noncomputable def nx82 : Str := sm [95, 95, 119, 101, 97, 107, 114, 101, 102, 95, 95]
noncomputable def nx83 : Str := sm [83, 104, 97, 53, 49, 50, 46, 100, 105, 103, 101, 115, 116]
noncomputable def n_sha256 : Str := sm [115, 104, 97, 50, 53, 54]
noncomputable def nx85 : Str := sm [104, 97, 115, 104, 108, 105, 98, 46, 115, 104, 97, 50, 53, 54]
noncomputable def n_pbkdf2_hmac : Str := sm [112, 98, 107, 100, 102, 50, 95, 104, 109, 97, 99]
noncomputable def n_new : Str := sm [110, 101, 119]
noncomputable def nx88 : Str := sm [104, 109, 97, 99, 46, 110, 101, 119]
noncomputable def nx89 : Str := sm [101, 109, 98, 105, 116, 46, 104, 97, 115, 104, 101, 115]
noncomputable def nx90 : Str := sm [101, 109, 98, 105, 116, 46, 98, 97, 115, 101, 53, 56]
noncomputable def nx91 : Str := sm [101, 109, 98, 105, 116, 46, 117, 116, 105, 108, 46, 115, 101, 99, 112, 50, 53, 54, 107, 49]
noncomputable def n_main : Str := sm [109, 97, 105, 110]
noncomputable def n_test : Str := sm [116, 101, 115, 116]
noncomputable def n_regtest : Str := sm [114, 101, 103, 116, 101, 115, 116]
noncomputable def n_signet : Str := sm [115, 105, 103, 110, 101, 116]
noncomputable def n_name : Str := sm [110, 97, 109, 101]
noncomputable def n_Mainnet : Str := sm [77, 97, 105, 110, 110, 101, 116]
noncomputable def n_wif : Str := sm [119, 105, 102]
noncomputable def n_p2pkh : Str := sm [112, 50, 112, 107, 104]
noncomputable def n_p2sh : Str := sm [112, 50, 115, 104]
noncomputable def n_bech32 : Str := sm [98, 101, 99, 104, 51, 50]
noncomputable def n_bc : Str := sm [98, 99]
noncomputable def n_xprv : Str := sm [120, 112, 114, 118]
noncomputable def n_xpub : Str := sm [120, 112, 117, 98]
noncomputable def n_yprv : Str := sm [121, 112, 114, 118]
noncomputable def n_zprv : Str := sm [122, 112, 114, 118]
noncomputable def n_Yprv : Str := sm [89, 112, 114, 118]
noncomputable def n_Zprv : Str := sm [90, 112, 114, 118]
noncomputable def n_ypub : Str := sm [121, 112, 117, 98]
noncomputable def n_zpub : Str := sm [122, 112, 117, 98]
noncomputable def n_Ypub : Str := sm [89, 112, 117, 98]
noncomputable def n_Zpub : Str := sm [90, 112, 117, 98]
noncomputable def n_Testnet : Str := sm [84, 101, 115, 116, 110, 101, 116]
noncomputable def n_tb : Str := sm [116, 98]
noncomputable def n_Regtest : Str := sm [82, 101, 103, 116, 101, 115, 116]
noncomputable def n_bcrt : Str := sm [98, 99, 114, 116]
noncomputable def n_Signet : Str := sm [83, 105, 103, 110, 101, 116]
noncomputable def nx118 : Str := sm [101, 109, 98, 105, 116, 46, 98, 97, 115, 101]
noncomputable def n_io : Str := sm [105, 111]
noncomputable def nx120 : Str := sm [95, 95, 110, 101, 119, 95, 95]
noncomputable def nx121 : Str := sm [73, 79, 66, 97, 115, 101, 46, 95, 95, 110, 101, 119, 95, 95]
noncomputable def nx122 : Str := sm [66, 121, 116, 101, 115, 73, 79, 46, 95, 95, 105, 110, 105, 116, 95, 95]
noncomputable def nx123 : Str := sm [95, 95, 99, 104, 101, 99, 107]
noncomputable def nx124 : Str := sm [66, 121, 116, 101, 115, 73, 79, 46, 95, 95, 99, 104, 101, 99, 107]
noncomputable def n_getvalue : Str := sm [103, 101, 116, 118, 97, 108, 117, 101]
noncomputable def nx126 : Str := sm [66, 121, 116, 101, 115, 73, 79, 46, 103, 101, 116, 118, 97, 108, 117, 101]
noncomputable def n_read : Str := sm [114, 101, 97, 100]
noncomputable def nx128 : Str := sm [66, 121, 116, 101, 115, 73, 79, 46, 114, 101, 97, 100]
noncomputable def n_write : Str := sm [119, 114, 105, 116, 101]
noncomputable def nx130 : Str := sm [66, 121, 116, 101, 115, 73, 79, 46, 119, 114, 105, 116, 101]
noncomputable def nx131 : Str := sm [95, 105, 111]
noncomputable def nx132 : Str := sm [95, 66, 121, 116, 101, 115, 73, 79, 95, 95, 99, 104, 101, 99, 107]
noncomputable def nx133 : Str := sm [95, 66, 121, 116, 101, 115, 73, 79, 95, 95, 108, 105, 110, 101]
noncomputable def n_closed : Str := sm [99, 108, 111, 115, 101, 100]
noncomputable def n_close : Str := sm [99, 108, 111, 115, 101]
noncomputable def nx136 : Str := sm [95, 95, 101, 110, 116, 101, 114, 95, 95]
noncomputable def nx137 : Str := sm [95, 95, 101, 120, 105, 116, 95, 95]
noncomputable def n_readable : Str := sm [114, 101, 97, 100, 97, 98, 108, 101]
noncomputable def n_writable : Str := sm [119, 114, 105, 116, 97, 98, 108, 101]
noncomputable def n_seekable : Str := sm [115, 101, 101, 107, 97, 98, 108, 101]
noncomputable def n_isatty : Str := sm [105, 115, 97, 116, 116, 121]
noncomputable def n_flush : Str := sm [102, 108, 117, 115, 104]
noncomputable def n_fileno : Str := sm [102, 105, 108, 101, 110, 111]
noncomputable def n_detach : Str := sm [100, 101, 116, 97, 99, 104]
noncomputable def n_getbuffer : Str := sm [103, 101, 116, 98, 117, 102, 102, 101, 114]
noncomputable def n_tell : Str := sm [116, 101, 108, 108]
noncomputable def n_seek : Str := sm [115, 101, 101, 107]
noncomputable def n_truncate : Str := sm [116, 114, 117, 110, 99, 97, 116, 101]
noncomputable def n_read1 : Str := sm [114, 101, 97, 100, 49]
noncomputable def n_readinto : Str := sm [114, 101, 97, 100, 105, 110, 116, 111]
noncomputable def n_readinto1 : Str := sm [114, 101, 97, 100, 105, 110, 116, 111, 49]
noncomputable def n_readline : Str := sm [114, 101, 97, 100, 108, 105, 110, 101]
noncomputable def n_readlines : Str := sm [114, 101, 97, 100, 108, 105, 110, 101, 115]
noncomputable def nx154 : Str := sm [95, 95, 105, 116, 101, 114, 95, 95]
noncomputable def nx155 : Str := sm [95, 95, 110, 101, 120, 116, 95, 95]
noncomputable def n_writelines : Str := sm [119, 114, 105, 116, 101, 108, 105, 110, 101, 115]
noncomputable def nx157 : Str := sm [95, 95, 114, 101, 112, 114, 95, 95]
noncomputable def n_parse : Str := sm [112, 97, 114, 115, 101]
noncomputable def nx159 : Str := sm [69, 109, 98, 105, 116, 66, 97, 115, 101, 46, 112, 97, 114, 115, 101]
noncomputable def n_serialize : Str := sm [115, 101, 114, 105, 97, 108, 105, 122, 101]
noncomputable def nx161 : Str := sm [69, 109, 98, 105, 116, 66, 97, 115, 101, 46, 115, 101, 114, 105, 97, 108, 105, 122, 101]
noncomputable def n_read_from : Str := sm [114, 101, 97, 100, 95, 102, 114, 111, 109]
noncomputable def n_write_to : Str := sm [119, 114, 105, 116, 101, 95, 116, 111]
noncomputable def n_to_string : Str := sm [116, 111, 95, 115, 116, 114, 105, 110, 103]
noncomputable def n_from_string : Str := sm [102, 114, 111, 109, 95, 115, 116, 114, 105, 110, 103]
noncomputable def nx166 : Str := sm [95, 95, 115, 116, 114, 95, 95]
noncomputable def nx167 : Str := sm [95, 95, 101, 113, 95, 95]
noncomputable def nx168 : Str := sm [95, 95, 110, 101, 95, 95]
noncomputable def nx169 : Str := sm [95, 95, 104, 97, 115, 104, 95, 95]
noncomputable def n_sec : Str := sm [115, 101, 99]
noncomputable def n_xonly : Str := sm [120, 111, 110, 108, 121]
noncomputable def n_is_private : Str := sm [105, 115, 95, 112, 114, 105, 118, 97, 116, 101]
noncomputable def nx173 : Str := sm [95, 95, 108, 116, 95, 95]
noncomputable def nx174 : Str := sm [95, 95, 103, 116, 95, 95]
noncomputable def nx175 : Str := sm [101, 109, 98, 105, 116, 46, 101, 99]
noncomputable def nx176 : Str := sm [80, 117, 98, 108, 105, 99, 75, 101, 121, 46, 95, 95, 105, 110, 105, 116, 95, 95]
noncomputable def nx177 : Str := sm [80, 117, 98, 108, 105, 99, 75, 101, 121, 46, 114, 101, 97, 100, 95, 102, 114, 111, 109]
noncomputable def nx178 : Str := sm [80, 117, 98, 108, 105, 99, 75, 101, 121, 46, 115, 101, 99]
noncomputable def nx179 : Str := sm [80, 117, 98, 108, 105, 99, 75, 101, 121, 46, 119, 114, 105, 116, 101, 95, 116, 111]
noncomputable def nx180 : Str := sm [80, 117, 98, 108, 105, 99, 75, 101, 121, 46, 115, 101, 114, 105, 97, 108, 105, 122, 101]
noncomputable def nx181 : Str := sm [80, 117, 98, 108, 105, 99, 75, 101, 121, 46, 105, 115, 95, 112, 114, 105, 118, 97, 116, 101]
noncomputable def n_taproot_tweak : Str := sm [116, 97, 112, 114, 111, 111, 116, 95, 116, 119, 101, 97, 107]
noncomputable def n_verify : Str := sm [118, 101, 114, 105, 102, 121]
noncomputable def nx184 : Str := sm [95, 120, 111, 110, 108, 121]
noncomputable def n_from_xonly : Str := sm [102, 114, 111, 109, 95, 120, 111, 110, 108, 121]
noncomputable def n_schnorr_verify : Str := sm [115, 99, 104, 110, 111, 114, 114, 95, 118, 101, 114, 105, 102, 121]
noncomputable def nx187 : Str := sm [80, 114, 105, 118, 97, 116, 101, 75, 101, 121, 46, 95, 95, 105, 110, 105, 116, 95, 95]
noncomputable def n_secret : Str := sm [115, 101, 99, 114, 101, 116]
noncomputable def nx189 : Str := sm [80, 114, 105, 118, 97, 116, 101, 75, 101, 121, 46, 115, 101, 99, 114, 101, 116]
noncomputable def nx190 : Str := sm [80, 114, 105, 118, 97, 116, 101, 75, 101, 121, 46, 115, 101, 99]
noncomputable def n_get_public_key : Str := sm [103, 101, 116, 95, 112, 117, 98, 108, 105, 99, 95, 107, 101, 121]
noncomputable def nx192 : Str := sm [80, 114, 105, 118, 97, 116, 101, 75, 101, 121, 46, 103, 101, 116, 95, 112, 117, 98, 108, 105, 99, 95, 107, 101, 121]
noncomputable def nx193 : Str := sm [80, 114, 105, 118, 97, 116, 101, 75, 101, 121, 46, 119, 114, 105, 116, 101, 95, 116, 111]
noncomputable def nx194 : Str := sm [80, 114, 105, 118, 97, 116, 101, 75, 101, 121, 46, 114, 101, 97, 100, 95, 102, 114, 111, 109]
noncomputable def nx195 : Str := sm [80, 114, 105, 118, 97, 116, 101, 75, 101, 121, 46, 105, 115, 95, 112, 114, 105, 118, 97, 116, 101]
noncomputable def n_from_wif : Str := sm [102, 114, 111, 109, 95, 119, 105, 102]
noncomputable def n_to_base58 : Str := sm [116, 111, 95, 98, 97, 115, 101, 53, 56]
noncomputable def n_from_base58 : Str := sm [102, 114, 111, 109, 95, 98, 97, 115, 101, 53, 56]
noncomputable def n_to_public : Str := sm [116, 111, 95, 112, 117, 98, 108, 105, 99]
noncomputable def n_sign : Str := sm [115, 105, 103, 110]
noncomputable def n_schnorr_sign : Str := sm [115, 99, 104, 110, 111, 114, 114, 95, 115, 105, 103, 110]
noncomputable def nx202 : Str := sm [101, 109, 98, 105, 116, 46, 98, 105, 112, 51, 50]
noncomputable def nx203 : Str := sm [72, 68, 75, 101, 121, 46, 95, 95, 105, 110, 105, 116, 95, 95]
noncomputable def nx204 : Str := sm [72, 68, 75, 101, 121, 46, 102, 114, 111, 109, 95, 98, 97, 115, 101, 53, 56]
noncomputable def n_my_fingerprint : Str := sm [109, 121, 95, 102, 105, 110, 103, 101, 114, 112, 114, 105, 110, 116]
noncomputable def nx206 : Str := sm [72, 68, 75, 101, 121, 46, 109, 121, 95, 102, 105, 110, 103, 101, 114, 112, 114, 105, 110, 116]
noncomputable def nx207 : Str := sm [72, 68, 75, 101, 121, 46, 105, 115, 95, 112, 114, 105, 118, 97, 116, 101]
noncomputable def nx208 : Str := sm [72, 68, 75, 101, 121, 46, 115, 101, 99, 114, 101, 116]
noncomputable def nx209 : Str := sm [72, 68, 75, 101, 121, 46, 119, 114, 105, 116, 101, 95, 116, 111]
noncomputable def nx210 : Str := sm [72, 68, 75, 101, 121, 46, 116, 111, 95, 98, 97, 115, 101, 53, 56]
noncomputable def nx211 : Str := sm [72, 68, 75, 101, 121, 46, 114, 101, 97, 100, 95, 102, 114, 111, 109]
noncomputable def nx212 : Str := sm [72, 68, 75, 101, 121, 46, 116, 111, 95, 112, 117, 98, 108, 105, 99]
noncomputable def nx213 : Str := sm [72, 68, 75, 101, 121, 46, 115, 101, 99]
noncomputable def n_child : Str := sm [99, 104, 105, 108, 100]
noncomputable def nx215 : Str := sm [72, 68, 75, 101, 121, 46, 99, 104, 105, 108, 100]
noncomputable def n_derive : Str := sm [100, 101, 114, 105, 118, 101]
noncomputable def nx217 : Str := sm [72, 68, 75, 101, 121, 46, 100, 101, 114, 105, 118, 101]
noncomputable def nx218 : Str := sm [72, 68, 75, 101, 121, 46, 95, 95, 101, 113, 95, 95]
noncomputable def n_from_seed : Str := sm [102, 114, 111, 109, 95, 115, 101, 101, 100]
noncomputable def KF : Params → Frag := fun P => [
 (2, ⟨.none, none, .dict #[en P nx0 728 (.int 269 0), en P nx1 729 (.int 1 0), en P nx2 768 (.int 296 0), en P nx3 769 (.int 1 0)] 4, #[]⟩),
 (3, ⟨.type "dict", none, .dict #[en P nx4 165 (.str n_law_be0012_01 2376), en P nx6 166 (.none), en P nx7 167 (.none), en P nx8 168 (.builtin "__main__.__loader__#opaque"), en P nx9 169 (.none), en P nx10 170 (.ref 6), en P nx11 171 (.ref 4), en P nx12 173 (.str nx13 172), en P nx14 174 (.none), en P nx15 193 (.ref 21), en P n_hexlify 201 (.ref 26), en P n_Sha256 247 (.ref 58), en P n_Sha512 270 (.ref 79), en P n_hashlib 333 (.ref 112), en P n_hmac 374 (.ref 137), en P n_ripemd160 381 (.ref 148), en P n_copy 388 (.ref 155), en P n_double_sha256 397 (.ref 162), en P n_hash160 404 (.ref 169), en P n_B58_DIGITS 408 (.str nx26 407), en P n_encode 421 (.ref 176), en P n_decode 433 (.ref 183), en P n_encode_check 440 (.ref 190), en P n_decode_check 449 (.ref 197), en P n_EC_COMPRESSED 453 (.int 258 452), en P n_EC_UNCOMPRESSED 455 (.int 2 454), en P nx33 457 (.int 57896044618658097711785492504343953926634992332820282019728792003956564819949 456), en P nx34 459 (.int 47962653777612059811531418077271348761744880276845910084186123193600379925034 458), en P nx35 466 (.ref 204), en P nx36 473 (.ref 211), en P n_ec_seckey_verify 480 (.ref 218), en P n_ec_pubkey_create 487 (.ref 225), en P n_ec_pubkey_serialize 496 (.ref 233), en P n_ec_pubkey_parse 504 (.ref 240), en P n_ec_privkey_add 512 (.ref 247), en P n_ec_pubkey_add 520 (.ref 254), en P n_NETWORKS 709 (.ref 255), en P n_EmbitError 731 (.ref 269), en P nx45 741 (.ref 279), en P nx46 749 (.ref 286), en P n_UnsupportedOperation 771 (.ref 296), en P n_IOBase 803 (.ref 316), en P n_BufferedIOBase 821 (.ref 331), en P n_TextIOBase 839 (.ref 343), en P n_BytesIO 1101 (.ref 573), en P n_StringIO 1388 (.ref 820), en P n_EmbitBase 1538 (.ref 911), en P n_EmbitKey 1599 (.ref 968), en P n_ECError 1617 (.ref 980), en P n_PublicKey 1818 (.ref 1130), en P n_PrivateKey 2029 (.ref 1284), en P n_HARDENED_INDEX 2033 (.int 2147483648 2032), en P n_HDError 2049 (.ref 1296), en P n_HDKey 2352 (.ref 1499), en P nx61 2359 (.ref 1508), en P n_parse_path 2365 (.ref 1513), en P n_path_to_str 2375 (.ref 1521), en P nx64 2385 (.ref 1528), en P nx65 2392 (.ref 1535), en P nx66 2401 (.ref 1542), en P nx67 2410 (.ref 1549), en P nx68 2419 (.ref 1556), en P nx69 2429 (.ref 1563), en P nx70 2437 (.ref 1570), en P n_law 2443 (.ref 1575)] 65, #[]⟩),
 (34, ⟨.type "tuple", none, .seq #[.bytes #[] 214] 0, #[]⟩),
 (40, ⟨.type "code", none, .fields #[.str nx72 215, .str nx73 216, .str nx13 217, .int 10 0, .int 2 0, .int 0 0, .int 0 0, .int 3 0, .ref 35, .bool true, .int 181 0, .ref 36, .none, .ref 37, .ref 38, .ref 39, .int 220 0, .int 10 0, .str nx13 221], #[]⟩),
 (41, ⟨.type "function", none, .func ⟨nx72, nx73, fp2 3 0, .stmts (fb2 3 0), fs2 3 0, 3, [], .ref 34, .none, .none, .str nx74 194, none, .ref 40, .none, 0⟩, #[]⟩),
 (54, ⟨.type "code", none, .fields #[.str n_digest 231, .str nx76 232, .str nx13 233, .int 16 0, .int 1 0, .int 0 0, .int 0 0, .int 3 0, .ref 49, .bool true, .int 181 0, .ref 50, .none, .ref 51, .ref 52, .ref 53, .int 236 0, .int 16 0, .str nx13 237], #[]⟩),
 (55, ⟨.type "function", none, .func ⟨n_digest, nx76, fp2 3 2, .stmts (fb2 3 2), fs2 3 2, 3, [], .none, .none, .none, .str nx74 194, none, .ref 54, .none, 0⟩, #[]⟩),
 (57, ⟨.type "dict", none, .dict #[en P nx77 209 (.str nx74 194), en P nx78 213 (.int 8 212), en P nx72 222 (.ref 41), en P n_update 230 (.ref 48), en P n_digest 238 (.ref 55), en P nx80 240 (.ref 56), en P nx81 242 (.ref 59), en P nx82 244 (.ref 60), en P nx6 245 (.none)] 4, #[]⟩),
 (58, ⟨.type "type", none, .cls ⟨n_Sha256, [.type "object"], [.ref 58, .type "object"], 57, n_Sha256, true, [], [.ref 79], false, none, false⟩, #[none, none, (some (.str n_Sha256 202)), (some (.str n_Sha256 210)), (some (.builtin "object.__new__")), (some (.bool true))]⟩),
 (75, ⟨.type "code", none, .fields #[.str n_digest 260, .str nx83 261, .str nx13 262, .int 21 0, .int 1 0, .int 0 0, .int 0 0, .int 3 0, .ref 70, .bool true, .int 181 0, .ref 71, .none, .ref 72, .ref 73, .ref 74, .int 264 0, .int 21 0, .str nx13 265], #[]⟩),
 (76, ⟨.type "function", none, .func ⟨n_digest, nx83, fp2 4 0, .stmts (fb2 4 0), fs2 4 0, 3, [], .none, .none, .none, .str nx74 194, none, .ref 75, .none, 0⟩, #[]⟩),
 (78, ⟨.type "dict", none, .dict #[en P nx77 255 (.str nx74 194), en P nx78 259 (.int 19 258), en P n_digest 266 (.ref 76), en P nx80 267 (.ref 77), en P nx6 268 (.none)] 2, #[]⟩),
 (79, ⟨.type "type", none, .cls ⟨n_Sha512, [.ref 58], [.ref 79, .ref 58, .type "object"], 78, n_Sha512, true, [], [], false, none, false⟩, #[(some (.ref 63)), none, (some (.str n_Sha512 248)), (some (.str n_Sha512 256)), (some (.builtin "object.__new__")), (some (.bool true))]⟩),
 (89, ⟨.type "tuple", none, .seq #[.bytes #[] 283] 0, #[]⟩),
 (95, ⟨.type "code", none, .fields #[.str n_sha256 284, .str nx85 285, .str nx13 286, .int 25 0, .int 1 0, .int 0 0, .int 0 0, .int 3 0, .ref 90, .bool true, .int 181 0, .ref 91, .none, .ref 92, .ref 93, .ref 94, .int 288 0, .int 25 0, .str nx13 289], #[]⟩),
 (96, ⟨.type "function", none, .func ⟨n_sha256, nx85, fp2 5 0, .stmts (fb2 5 0), fs2 5 0, 3, [], .ref 89, .none, .none, .str nx74 194, (some (99)), .ref 95, .none, 0⟩, #[]⟩),
 (98, ⟨.type "staticmethod", (some (97)), .fields #[.ref 96, .bool false], #[]⟩),
 (111, ⟨.type "dict", none, .dict #[en P nx77 278 (.str nx74 194), en P nx78 282 (.int 23 281), en P n_sha256 302 (.ref 98), en P n_pbkdf2_hmac 325 (.ref 108), en P nx80 326 (.ref 110), en P nx81 328 (.ref 113), en P nx82 330 (.ref 114), en P nx6 331 (.none)] 4, #[]⟩),
 (112, ⟨.type "type", none, .cls ⟨n_hashlib, [.type "object"], [.ref 112, .type "object"], 111, n_hashlib, true, [], [], false, none, false⟩, #[none, none, (some (.str n_hashlib 271)), (some (.str n_hashlib 279)), (some (.builtin "object.__new__")), (some (.bool true))]⟩),
 (124, ⟨.type "tuple", none, .seq #[.none] 0, #[]⟩),
 (130, ⟨.type "code", none, .fields #[.str n_new 346, .str nx88 347, .str nx13 348, .int 34 0, .int 3 0, .int 0 0, .int 0 0, .int 3 0, .ref 125, .bool true, .int 181 0, .ref 126, .none, .ref 127, .ref 128, .ref 129, .int 352 0, .int 34 0, .str nx13 353], #[]⟩),
 (131, ⟨.type "function", none, .func ⟨n_new, nx88, fp2 6 0, .stmts (fb2 6 0), fs2 6 0, 3, [], .ref 124, .none, .none, .str nx74 194, (some (134)), .ref 130, .none, 0⟩, #[]⟩),
 (133, ⟨.type "staticmethod", (some (132)), .fields #[.ref 131, .bool false], #[]⟩),
 (136, ⟨.type "dict", none, .dict #[en P nx77 341 (.str nx74 194), en P nx78 345 (.int 32 344), en P n_new 366 (.ref 133), en P nx80 367 (.ref 135), en P nx81 369 (.ref 138), en P nx82 371 (.ref 139), en P nx6 372 (.none)] 4, #[]⟩),
 (137, ⟨.type "type", none, .cls ⟨n_hmac, [.type "object"], [.ref 137, .type "object"], 136, n_hmac, true, [], [], false, none, false⟩, #[none, none, (some (.str n_hmac 334)), (some (.str n_hmac 342)), (some (.builtin "object.__new__")), (some (.bool true))]⟩),
 (147, ⟨.type "code", none, .fields #[.str n_ripemd160 375, .str n_ripemd160 376, .str nx13 377, .int 37 0, .int 1 0, .int 0 0, .int 0 0, .int 3 0, .ref 142, .bool true, .int 181 0, .ref 143, .none, .ref 144, .ref 145, .ref 146, .int 379 0, .int 37 0, .str nx13 380], #[]⟩),
 (148, ⟨.type "function", none, .func ⟨n_ripemd160, n_ripemd160, fp1 7, .stmts (fb1 7), fs1 7, 3, [], .none, .none, .none, .str nx74 194, none, .ref 147, .none, 0⟩, #[]⟩),
 (154, ⟨.type "code", none, .fields #[.str n_copy 382, .str n_copy 383, .str nx13 384, .int 39 0, .int 1 0, .int 0 0, .int 0 0, .int 3 0, .ref 149, .bool true, .int 181 0, .ref 150, .none, .ref 151, .ref 152, .ref 153, .int 386 0, .int 39 0, .str nx13 387], #[]⟩),
 (155, ⟨.type "function", none, .func ⟨n_copy, n_copy, fp1 8, .stmts (fb1 8), fs1 8, 3, [], .none, .none, .none, .str nx74 194, none, .ref 154, .none, 0⟩, #[]⟩),
 (161, ⟨.type "code", none, .fields #[.str n_double_sha256 391, .str n_double_sha256 392, .str nx13 393, .int 44 0, .int 1 0, .int 0 0, .int 0 0, .int 3 0, .ref 156, .bool true, .int 181 0, .ref 157, .none, .ref 158, .ref 159, .ref 160, .int 395 0, .int 44 0, .str nx13 396], #[]⟩),
 (162, ⟨.type "function", none, .func ⟨n_double_sha256, n_double_sha256, fp1 10, .stmts (fb1 10), fs1 10, 3, [], .none, .none, .none, .str nx89 389, none, .ref 161, .none, 0⟩, #[]⟩),
 (168, ⟨.type "code", none, .fields #[.str n_hash160 398, .str n_hash160 399, .str nx13 400, .int 46 0, .int 1 0, .int 0 0, .int 0 0, .int 3 0, .ref 163, .bool true, .int 181 0, .ref 164, .none, .ref 165, .ref 166, .ref 167, .int 402 0, .int 46 0, .str nx13 403], #[]⟩),
 (169, ⟨.type "function", none, .func ⟨n_hash160, n_hash160, fp1 11, .stmts (fb1 11), fs1 11, 3, [], .none, .none, .none, .str nx89 389, none, .ref 168, .none, 0⟩, #[]⟩),
 (175, ⟨.type "code", none, .fields #[.str n_encode 409, .str n_encode 410, .str nx13 411, .int 50 0, .int 1 0, .int 0 0, .int 0 0, .int 3 0, .ref 170, .bool true, .int 181 0, .ref 171, .none, .ref 172, .ref 173, .ref 174, .int 419 0, .int 50 0, .str nx13 420], #[]⟩),
 (176, ⟨.type "function", none, .func ⟨n_encode, n_encode, fp1 14, .stmts (fb1 14), fs1 14, 3, [], .none, .none, .none, .str nx90 405, none, .ref 175, .none, 0⟩, #[]⟩),
 (182, ⟨.type "code", none, .fields #[.str n_decode 422, .str n_decode 423, .str nx13 424, .int 64 0, .int 1 0, .int 0 0, .int 0 0, .int 3 0, .ref 177, .bool true, .int 181 0, .ref 178, .none, .ref 179, .ref 180, .ref 181, .int 431 0, .int 64 0, .str nx13 432], #[]⟩),
 (183, ⟨.type "function", none, .func ⟨n_decode, n_decode, fp1 15, .stmts (fb1 15), fs1 15, 3, [], .none, .none, .none, .str nx90 405, none, .ref 182, .none, 0⟩, #[]⟩),
 (189, ⟨.type "code", none, .fields #[.str n_encode_check 434, .str n_encode_check 435, .str nx13 436, .int 82 0, .int 1 0, .int 0 0, .int 0 0, .int 3 0, .ref 184, .bool true, .int 181 0, .ref 185, .none, .ref 186, .ref 187, .ref 188, .int 438 0, .int 82 0, .str nx13 439], #[]⟩),
 (190, ⟨.type "function", none, .func ⟨n_encode_check, n_encode_check, fp1 16, .stmts (fb1 16), fs1 16, 3, [], .none, .none, .none, .str nx90 405, none, .ref 189, .none, 0⟩, #[]⟩),
 (196, ⟨.type "code", none, .fields #[.str n_decode_check 441, .str n_decode_check 442, .str nx13 443, .int 84 0, .int 1 0, .int 0 0, .int 0 0, .int 3 0, .ref 191, .bool true, .int 181 0, .ref 192, .none, .ref 193, .ref 194, .ref 195, .int 447 0, .int 84 0, .str nx13 448], #[]⟩),
 (197, ⟨.type "function", none, .func ⟨n_decode_check, n_decode_check, fp1 17, .stmts (fb1 17), fs1 17, 3, [], .none, .none, .none, .str nx90 405, none, .ref 196, .none, 0⟩, #[]⟩),
 (203, ⟨.type "code", none, .fields #[.str nx35 460, .str nx35 461, .str nx13 462, .int 95 0, .int 1 0, .int 0 0, .int 0 0, .int 3 0, .ref 198, .bool true, .int 181 0, .ref 199, .none, .ref 200, .ref 201, .ref 202, .int 464 0, .int 95 0, .str nx13 465], #[]⟩),
 (204, ⟨.type "function", none, .func ⟨nx35, nx35, fp1 23, .stmts (fb1 23), fs1 23, 3, [], .none, .none, .none, .str nx91 450, none, .ref 203, .none, 0⟩, #[]⟩),
 (210, ⟨.type "code", none, .fields #[.str nx36 467, .str nx36 468, .str nx13 469, .int 97 0, .int 1 0, .int 0 0, .int 0 0, .int 3 0, .ref 205, .bool true, .int 181 0, .ref 206, .none, .ref 207, .ref 208, .ref 209, .int 471 0, .int 97 0, .str nx13 472], #[]⟩),
 (211, ⟨.type "function", none, .func ⟨nx36, nx36, fp1 24, .stmts (fb1 24), fs1 24, 3, [], .none, .none, .none, .str nx91 450, none, .ref 210, .none, 0⟩, #[]⟩),
 (217, ⟨.type "code", none, .fields #[.str n_ec_seckey_verify 474, .str n_ec_seckey_verify 475, .str nx13 476, .int 99 0, .int 1 0, .int 0 0, .int 0 0, .int 3 0, .ref 212, .bool true, .int 181 0, .ref 213, .none, .ref 214, .ref 215, .ref 216, .int 478 0, .int 99 0, .str nx13 479], #[]⟩),
 (218, ⟨.type "function", none, .func ⟨n_ec_seckey_verify, n_ec_seckey_verify, fp1 25, .stmts (fb1 25), fs1 25, 3, [], .none, .none, .none, .str nx91 450, none, .ref 217, .none, 0⟩, #[]⟩),
 (224, ⟨.type "code", none, .fields #[.str n_ec_pubkey_create 481, .str n_ec_pubkey_create 482, .str nx13 483, .int 101 0, .int 1 0, .int 0 0, .int 0 0, .int 3 0, .ref 219, .bool true, .int 181 0, .ref 220, .none, .ref 221, .ref 222, .ref 223, .int 485 0, .int 101 0, .str nx13 486], #[]⟩),
 (225, ⟨.type "function", none, .func ⟨n_ec_pubkey_create, n_ec_pubkey_create, fp1 26, .stmts (fb1 26), fs1 26, 3, [], .none, .none, .none, .str nx91 450, none, .ref 224, .none, 0⟩, #[]⟩),
 (226, ⟨.type "tuple", none, .seq #[.int 258 452] 0, #[]⟩),
 (232, ⟨.type "code", none, .fields #[.str n_ec_pubkey_serialize 488, .str n_ec_pubkey_serialize 489, .str nx13 490, .int 103 0, .int 2 0, .int 0 0, .int 0 0, .int 3 0, .ref 227, .bool true, .int 181 0, .ref 228, .none, .ref 229, .ref 230, .ref 231, .int 494 0, .int 103 0, .str nx13 495], #[]⟩),
 (233, ⟨.type "function", none, .func ⟨n_ec_pubkey_serialize, n_ec_pubkey_serialize, fp1 27, .stmts (fb1 27), fs1 27, 3, [], .ref 226, .none, .none, .str nx91 450, none, .ref 232, .none, 0⟩, #[]⟩),
 (239, ⟨.type "code", none, .fields #[.str n_ec_pubkey_parse 497, .str n_ec_pubkey_parse 498, .str nx13 499, .int 108 0, .int 1 0, .int 0 0, .int 0 0, .int 3 0, .ref 234, .bool true, .int 181 0, .ref 235, .none, .ref 236, .ref 237, .ref 238, .int 502 0, .int 108 0, .str nx13 503], #[]⟩),
 (240, ⟨.type "function", none, .func ⟨n_ec_pubkey_parse, n_ec_pubkey_parse, fp1 28, .stmts (fb1 28), fs1 28, 3, [], .none, .none, .none, .str nx91 450, none, .ref 239, .none, 0⟩, #[]⟩),
 (246, ⟨.type "code", none, .fields #[.str n_ec_privkey_add 505, .str n_ec_privkey_add 506, .str nx13 507, .int 113 0, .int 2 0, .int 0 0, .int 0 0, .int 3 0, .ref 241, .bool true, .int 181 0, .ref 242, .none, .ref 243, .ref 244, .ref 245, .int 510 0, .int 113 0, .str nx13 511], #[]⟩),
 (247, ⟨.type "function", none, .func ⟨n_ec_privkey_add, n_ec_privkey_add, fp1 29, .stmts (fb1 29), fs1 29, 3, [], .none, .none, .none, .str nx91 450, none, .ref 246, .none, 0⟩, #[]⟩),
 (253, ⟨.type "code", none, .fields #[.str n_ec_pubkey_add 513, .str n_ec_pubkey_add 514, .str nx13 515, .int 115 0, .int 2 0, .int 0 0, .int 0 0, .int 3 0, .ref 248, .bool true, .int 181 0, .ref 249, .none, .ref 250, .ref 251, .ref 252, .int 518 0, .int 115 0, .str nx13 519], #[]⟩),
 (254, ⟨.type "function", none, .func ⟨n_ec_pubkey_add, n_ec_pubkey_add, fp1 30, .stmts (fb1 30), fs1 30, 3, [], .none, .none, .none, .str nx91 450, none, .ref 253, .none, 0⟩, #[]⟩),
 (255, ⟨.type "dict", none, .dict #[en P n_main 521 (.ref 256), en P n_test 567 (.ref 257), en P n_regtest 613 (.ref 258), en P n_signet 659 (.ref 259)] 4, #[]⟩),
 (256, ⟨.type "dict", none, .dict #[en P n_name 522 (.str n_Mainnet 523), en P n_wif 524 (.bytes #[128] 525), en P n_p2pkh 526 (.bytes #[0] 527), en P n_p2sh 528 (.bytes #[5] 529), en P n_bech32 530 (.str n_bc 531), en P n_xprv 532 (.bytes #[4, 136, 173, 228] 533), en P n_xpub 534 (.bytes #[4, 136, 178, 30] 535), en P n_yprv 536 (.bytes #[4, 157, 120, 120] 537), en P n_zprv 538 (.bytes #[4, 178, 67, 12] 539), en P n_Yprv 540 (.bytes #[2, 149, 176, 5] 541), en P n_Zprv 542 (.bytes #[2, 170, 122, 153] 543), en P n_ypub 544 (.bytes #[4, 157, 124, 178] 545), en P n_zpub 546 (.bytes #[4, 178, 71, 70] 547), en P n_Ypub 548 (.bytes #[2, 149, 180, 63] 549), en P n_Zpub 550 (.bytes #[2, 170, 126, 211] 551)] 15, #[]⟩),
 (257, ⟨.type "dict", none, .dict #[en P n_name 568 (.str n_Testnet 569), en P n_wif 570 (.bytes #[239] 571), en P n_p2pkh 572 (.bytes #[111] 573), en P n_p2sh 574 (.bytes #[196] 575), en P n_bech32 576 (.str n_tb 577), en P n_xprv 578 (.bytes #[4, 53, 131, 148] 579), en P n_xpub 580 (.bytes #[4, 53, 135, 207] 581), en P n_yprv 582 (.bytes #[4, 74, 78, 40] 583), en P n_zprv 584 (.bytes #[4, 95, 24, 188] 585), en P n_Yprv 586 (.bytes #[2, 66, 133, 181] 587), en P n_Zprv 588 (.bytes #[2, 87, 80, 72] 589), en P n_ypub 590 (.bytes #[4, 74, 82, 98] 591), en P n_zpub 592 (.bytes #[4, 95, 28, 246] 593), en P n_Ypub 594 (.bytes #[2, 66, 137, 239] 595), en P n_Zpub 596 (.bytes #[2, 87, 84, 131] 597)] 15, #[]⟩),
 (258, ⟨.type "dict", none, .dict #[en P n_name 614 (.str n_Regtest 615), en P n_wif 616 (.bytes #[239] 617), en P n_p2pkh 618 (.bytes #[111] 619), en P n_p2sh 620 (.bytes #[196] 621), en P n_bech32 622 (.str n_bcrt 623), en P n_xprv 624 (.bytes #[4, 53, 131, 148] 625), en P n_xpub 626 (.bytes #[4, 53, 135, 207] 627), en P n_yprv 628 (.bytes #[4, 74, 78, 40] 629), en P n_zprv 630 (.bytes #[4, 95, 24, 188] 631), en P n_Yprv 632 (.bytes #[2, 66, 133, 181] 633), en P n_Zprv 634 (.bytes #[2, 87, 80, 72] 635), en P n_ypub 636 (.bytes #[4, 74, 82, 98] 637), en P n_zpub 638 (.bytes #[4, 95, 28, 246] 639), en P n_Ypub 640 (.bytes #[2, 66, 137, 239] 641), en P n_Zpub 642 (.bytes #[2, 87, 84, 131] 643)] 15, #[]⟩),
 (259, ⟨.type "dict", none, .dict #[en P n_name 660 (.str n_Signet 661), en P n_wif 662 (.bytes #[239] 663), en P n_p2pkh 664 (.bytes #[111] 665), en P n_p2sh 666 (.bytes #[196] 667), en P n_bech32 668 (.str n_tb 669), en P n_xprv 670 (.bytes #[4, 53, 131, 148] 671), en P n_xpub 672 (.bytes #[4, 53, 135, 207] 673), en P n_yprv 674 (.bytes #[4, 74, 78, 40] 675), en P n_zprv 676 (.bytes #[4, 95, 24, 188] 677), en P n_Yprv 678 (.bytes #[2, 66, 133, 181] 679), en P n_Zprv 680 (.bytes #[2, 87, 80, 72] 681), en P n_ypub 682 (.bytes #[4, 74, 82, 98] 683), en P n_zpub 684 (.bytes #[4, 95, 28, 246] 685), en P n_Ypub 686 (.bytes #[2, 66, 137, 239] 687), en P n_Zpub 688 (.bytes #[2, 87, 84, 131] 689)] 15, #[]⟩),
 (268, ⟨.type "dict", none, .dict #[en P nx77 719 (.str nx118 710), en P nx78 723 (.int 119 722), en P nx80 724 (.ref 267), en P nx82 726 (.ref 270), en P nx6 727 (.none)] 3, #[]⟩),
 (269, ⟨.type "type", none, .cls ⟨n_EmbitError, [.type "Exception"], [.ref 269, .type "Exception", .type "BaseException", .type "object"], 268, n_EmbitError, true, [], [.ref 980, .ref 1296], false, none, false⟩, #[(some (.ref 260)), none, (some (.str n_EmbitError 712)), (some (.str n_EmbitError 720)), (some (.builtin "Exception.__new__")), (some (.bool true))]⟩),
 (285, ⟨.type "code", none, .fields #[.str nx46 742, .str nx46 743, .str nx13 744, .int 127 0, .int 2 0, .int 0 0, .int 0 0, .int 3 0, .ref 280, .bool true, .int 181 0, .ref 281, .none, .ref 282, .ref 283, .ref 284, .int 747 0, .int 127 0, .str nx13 748], #[]⟩),
 (286, ⟨.type "function", none, .func ⟨nx46, nx46, fp1 36, .stmts (fb1 36), fs1 36, 3, [], .none, .none, .none, .str n_io 732, none, .ref 285, .none, 0⟩, #[]⟩),
 (312, ⟨.type "code", none, .fields #[.str nx120 786, .str nx121 787, .str nx13 788, .int 139 0, .int 1 0, .int 1 0, .int 0 0, .int 15 0, .ref 307, .bool true, .int 181 0, .ref 308, .none, .ref 309, .ref 310, .ref 311, .int 792 0, .int 139 0, .str nx13 793], #[]⟩),
 (313, ⟨.type "function", none, .func ⟨nx120, nx121, fp2 38 1, .stmts (fb2 38 1), fs2 38 1, 3, [], .none, .none, .none, .str n_io 732, none, .ref 312, .none, 0⟩, #[]⟩),
 (315, ⟨.type "dict", none, .dict #[en P nx77 779 (.str n_io 784), en P nx78 783 (.int 136 782), en P nx120 794 (.ref 317), en P nx80 795 (.ref 314), en P nx81 798 (.ref 318), en P nx82 800 (.ref 319), en P nx6 801 (.none)] 4, #[]⟩),
 (316, ⟨.type "type", none, .cls ⟨n_IOBase, [.type "object"], [.ref 316, .type "object"], 315, n_IOBase, true, [], [.ref 331, .ref 343], false, none, false⟩, #[none, none, (some (.str n_IOBase 772)), (some (.str n_IOBase 780)), (some (.none)), (some (.bool true))]⟩),
 (317, ⟨.type "staticmethod", none, .fields #[.ref 313], #[]⟩),
 (330, ⟨.type "dict", none, .dict #[en P nx77 811 (.str n_io 816), en P nx78 815 (.int 143 814), en P nx80 818 (.ref 329), en P nx6 819 (.none)] 2, #[]⟩),
 (331, ⟨.type "type", none, .cls ⟨n_BufferedIOBase, [.ref 316], [.ref 331, .ref 316, .type "object"], 330, n_BufferedIOBase, true, [], [.ref 573], false, none, false⟩, #[(some (.ref 322)), none, (some (.str n_BufferedIOBase 804)), (some (.str n_BufferedIOBase 812)), (some (.none)), (some (.bool true))]⟩),
 (353, ⟨.type "tuple", none, .seq #[.none] 0, #[]⟩),
 (359, ⟨.type "code", none, .fields #[.str nx72 854, .str nx122 855, .str nx13 856, .int 150 0, .int 2 0, .int 0 0, .int 0 0, .int 3 0, .ref 354, .bool true, .int 181 0, .ref 355, .none, .ref 356, .ref 357, .ref 358, .int 859 0, .int 150 0, .str nx13 860], #[]⟩),
 (360, ⟨.type "function", none, .func ⟨nx72, nx122, fp2 41 1, .stmts (fb2 41 1), fs2 41 1, 3, [], .ref 353, .none, .none, .str n_io 732, none, .ref 359, .none, 0⟩, #[]⟩),
 (366, ⟨.type "code", none, .fields #[.str nx123 862, .str nx124 863, .str nx13 864, .int 156 0, .int 1 0, .int 0 0, .int 0 0, .int 3 0, .ref 361, .bool true, .int 181 0, .ref 362, .none, .ref 363, .ref 364, .ref 365, .int 866 0, .int 156 0, .str nx13 867], #[]⟩),
 (367, ⟨.type "function", none, .func ⟨nx123, nx124, fp2 41 2, .stmts (fb2 41 2), fs2 41 2, 3, [], .none, .none, .none, .str n_io 732, none, .ref 366, .none, 0⟩, #[]⟩),
 (458, ⟨.type "code", none, .fields #[.str n_getvalue 959, .str nx126 960, .str nx13 961, .int 212 0, .int 1 0, .int 0 0, .int 0 0, .int 3 0, .ref 453, .bool true, .int 181 0, .ref 454, .none, .ref 455, .ref 456, .ref 457, .int 963 0, .int 212 0, .str nx13 964], #[]⟩),
 (459, ⟨.type "function", none, .func ⟨n_getvalue, nx126, fp2 41 15, .stmts (fb2 41 15), fs2 41 15, 3, [], .none, .none, .none, .str n_io 732, none, .ref 458, .none, 0⟩, #[]⟩),
 (490, ⟨.type "tuple", none, .seq #[.int (-1) 999] 0, #[]⟩),
 (496, ⟨.type "code", none, .fields #[.str n_read 1000, .str nx128 1001, .str nx13 1002, .int 243 0, .int 2 0, .int 2 0, .int 0 0, .int 3 0, .ref 491, .bool true, .int 181 0, .ref 492, .none, .ref 493, .ref 494, .ref 495, .int 1007 0, .int 243 0, .str nx13 1008], #[]⟩),
 (497, ⟨.type "function", none, .func ⟨n_read, nx128, fp2 41 20, .stmts (fb2 41 20), fs2 41 20, 3, [], .ref 490, .none, .none, .str n_io 732, none, .ref 496, .none, 0⟩, #[]⟩),
 (555, ⟨.type "code", none, .fields #[.str n_write 1071, .str nx130 1072, .str nx13 1073, .int 297 0, .int 2 0, .int 2 0, .int 0 0, .int 3 0, .ref 550, .bool true, .int 181 0, .ref 551, .none, .ref 552, .ref 553, .ref 554, .int 1078 0, .int 297 0, .str nx13 1079], #[]⟩),
 (556, ⟨.type "function", none, .func ⟨n_write, nx130, fp2 41 28, .stmts (fb2 41 28), fs2 41 28, 3, [], .none, .none, .none, .str n_io 732, none, .ref 555, .none, 0⟩, #[]⟩),
 (572, ⟨.type "dict", none, .dict #[en P nx77 847 (.str nx131 852), en P nx78 851 (.int 147 850), en P nx72 861 (.ref 360), en P nx132 868 (.ref 367), en P nx133 879 (.ref 374), en P n_closed 887 (.ref 382), en P n_close 894 (.ref 389), en P nx136 901 (.ref 396), en P nx137 909 (.ref 403), en P n_readable 916 (.ref 410), en P n_writable 923 (.ref 417), en P n_seekable 930 (.ref 424), en P n_isatty 937 (.ref 431), en P n_flush 944 (.ref 438), en P n_fileno 951 (.ref 445), en P n_detach 958 (.ref 452), en P n_getvalue 965 (.ref 459), en P n_getbuffer 972 (.ref 466), en P n_tell 979 (.ref 473), en P n_seek 989 (.ref 481), en P n_truncate 997 (.ref 489), en P n_read 1009 (.ref 497), en P n_read1 1019 (.ref 505), en P n_readinto 1029 (.ref 512), en P n_readinto1 1037 (.ref 519), en P n_readline 1047 (.ref 527), en P n_readlines 1055 (.ref 535), en P nx154 1062 (.ref 542), en P nx155 1070 (.ref 549), en P n_write 1080 (.ref 556), en P n_writelines 1088 (.ref 563), en P nx157 1095 (.ref 570), en P nx80 1098 (.ref 571), en P nx6 1099 (.none)] 2, #[]⟩),
 (573, ⟨.type "type", none, .cls ⟨n_BytesIO, [.ref 331], [.ref 573, .ref 331, .ref 316, .type "object"], 572, n_BytesIO, true, [], [], false, none, false⟩, #[(some (.ref 346)), none, (some (.str n_BytesIO 840)), (some (.str n_BytesIO 848)), (some (.none)), (some (.bool true))]⟩),
 (845, ⟨.type "code", none, .fields #[.str n_parse 1425, .str nx159 1426, .str nx13 1427, .int 531 0, .int 2 0, .int 0 0, .int 0 0, .int 15 0, .ref 840, .bool true, .int 181 0, .ref 841, .none, .ref 842, .ref 843, .ref 844, .int 1434 0, .int 531 0, .str nx13 1435], #[]⟩),
 (846, ⟨.type "function", none, .func ⟨n_parse, nx159, fp2 44 1, .stmts (fb2 44 1), fs2 44 1, 3, [], .none, .none, .none, .str nx118 1389, (some (849)), .ref 845, .none, 0⟩, #[]⟩),
 (848, ⟨.type "classmethod", (some (847)), .fields #[.ref 846, .bool false], #[]⟩),
 (862, ⟨.type "code", none, .fields #[.str n_serialize 1459, .str nx161 1460, .str nx13 1461, .int 542 0, .int 1 0, .int 0 0, .int 0 0, .int 15 0, .ref 857, .bool true, .int 181 0, .ref 858, .none, .ref 859, .ref 860, .ref 861, .int 1466 0, .int 542 0, .str nx13 1467], #[]⟩),
 (863, ⟨.type "function", none, .func ⟨n_serialize, nx161, fp2 44 3, .stmts (fb2 44 3), fs2 44 3, 3, [], .none, .none, .none, .str nx118 1389, none, .ref 862, .none, 0⟩, #[]⟩),
 (910, ⟨.type "dict", none, .dict #[en P nx77 1398 (.str nx118 1389), en P nx78 1402 (.int 525 1401), en P n_read_from 1424 (.ref 838), en P n_parse 1448 (.ref 848), en P n_write_to 1458 (.ref 856), en P n_serialize 1468 (.ref 863), en P n_to_string 1478 (.ref 870), en P n_from_string 1500 (.ref 879), en P nx166 1507 (.ref 887), en P nx167 1515 (.ref 894), en P nx168 1523 (.ref 901), en P nx169 1530 (.ref 908), en P nx80 1531 (.ref 909), en P nx81 1533 (.ref 912), en P nx82 1535 (.ref 913), en P nx6 1536 (.none)] 4, #[]⟩),
 (911, ⟨.type "type", none, .cls ⟨n_EmbitBase, [.type "object"], [.ref 911, .type "object"], 910, n_EmbitBase, true, [], [.ref 968], false, none, false⟩, #[none, none, (some (.str n_EmbitBase 1391)), (some (.str n_EmbitBase 1399)), (some (.builtin "object.__new__")), (some (.bool true))]⟩),
 (967, ⟨.type "dict", none, .dict #[en P nx77 1546 (.str nx118 1389), en P nx78 1550 (.int 572 1549), en P n_sec 1557 (.ref 929), en P n_xonly 1564 (.ref 936), en P n_is_private 1572 (.ref 944), en P nx173 1580 (.ref 951), en P nx174 1588 (.ref 958), en P nx169 1595 (.ref 965), en P nx80 1596 (.ref 966), en P nx6 1597 (.none)] 2, #[]⟩),
 (968, ⟨.type "type", none, .cls ⟨n_EmbitKey, [.ref 911], [.ref 968, .ref 911, .type "object"], 967, n_EmbitKey, true, [], [.ref 1130, .ref 1284, .ref 1499], false, none, false⟩, #[(some (.ref 916)), none, (some (.str n_EmbitKey 1539)), (some (.str n_EmbitKey 1547)), (some (.builtin "object.__new__")), (some (.bool true))]⟩),
 (979, ⟨.type "dict", none, .dict #[en P nx77 1609 (.str nx175 1600), en P nx78 1613 (.int 593 1612), en P nx80 1614 (.ref 978), en P nx6 1615 (.none)] 2, #[]⟩),
 (980, ⟨.type "type", none, .cls ⟨n_ECError, [.ref 269], [.ref 980, .ref 269, .type "Exception", .type "BaseException", .type "object"], 979, n_ECError, true, [], [], false, none, false⟩, #[(some (.ref 971)), none, (some (.str n_ECError 1602)), (some (.str n_ECError 1610)), (some (.builtin "Exception.__new__")), (some (.bool true))]⟩),
 (990, ⟨.type "tuple", none, .seq #[.bool true] 0, #[]⟩),
 (996, ⟨.type "code", none, .fields #[.str nx72 1630, .str nx176 1631, .str nx13 1632, .int 597 0, .int 3 0, .int 0 0, .int 0 0, .int 3 0, .ref 991, .bool true, .int 181 0, .ref 992, .none, .ref 993, .ref 994, .ref 995, .int 1636 0, .int 597 0, .str nx13 1637], #[]⟩),
 (997, ⟨.type "function", none, .func ⟨nx72, nx176, fp2 48 0, .stmts (fb2 48 0), fs2 48 0, 3, [], .ref 990, .none, .none, .str nx175 1600, none, .ref 996, .none, 0⟩, #[]⟩),
 (1003, ⟨.type "code", none, .fields #[.str n_read_from 1639, .str nx177 1640, .str nx13 1641, .int 601 0, .int 2 0, .int 0 0, .int 0 0, .int 3 0, .ref 998, .bool true, .int 181 0, .ref 999, .none, .ref 1000, .ref 1001, .ref 1002, .int 1648 0, .int 601 0, .str nx13 1649], #[]⟩),
 (1004, ⟨.type "function", none, .func ⟨n_read_from, nx177, fp2 48 1, .stmts (fb2 48 1), fs2 48 1, 3, [], .none, .none, .none, .str nx175 1600, (some (1007)), .ref 1003, .none, 0⟩, #[]⟩),
 (1006, ⟨.type "classmethod", (some (1005)), .fields #[.ref 1004, .bool false], #[]⟩),
 (1013, ⟨.type "code", none, .fields #[.str n_sec 1663, .str nx178 1664, .str nx13 1665, .int 617 0, .int 1 0, .int 0 0, .int 0 0, .int 3 0, .ref 1008, .bool true, .int 181 0, .ref 1009, .none, .ref 1010, .ref 1011, .ref 1012, .int 1668 0, .int 617 0, .str nx13 1669], #[]⟩),
 (1014, ⟨.type "function", none, .func ⟨n_sec, nx178, fp2 48 2, .stmts (fb2 48 2), fs2 48 2, 3, [], .none, .none, .none, .str nx175 1600, none, .ref 1013, .none, 0⟩, #[]⟩),
 (1035, ⟨.type "code", none, .fields #[.str n_write_to 1687, .str nx179 1688, .str nx13 1689, .int 627 0, .int 2 0, .int 0 0, .int 0 0, .int 3 0, .ref 1030, .bool true, .int 181 0, .ref 1031, .none, .ref 1032, .ref 1033, .ref 1034, .int 1692 0, .int 627 0, .str nx13 1693], #[]⟩),
 (1036, ⟨.type "function", none, .func ⟨n_write_to, nx179, fp2 48 5, .stmts (fb2 48 5), fs2 48 5, 3, [], .none, .none, .none, .str nx175 1600, none, .ref 1035, .none, 0⟩, #[]⟩),
 (1042, ⟨.type "code", none, .fields #[.str n_serialize 1695, .str nx180 1696, .str nx13 1697, .int 630 0, .int 1 0, .int 0 0, .int 0 0, .int 3 0, .ref 1037, .bool true, .int 181 0, .ref 1038, .none, .ref 1039, .ref 1040, .ref 1041, .int 1699 0, .int 630 0, .str nx13 1700], #[]⟩),
 (1043, ⟨.type "function", none, .func ⟨n_serialize, nx180, fp2 48 6, .stmts (fb2 48 6), fs2 48 6, 3, [], .none, .none, .none, .str nx175 1600, none, .ref 1042, .none, 0⟩, #[]⟩),
 (1090, ⟨.type "code", none, .fields #[.str n_is_private 1767, .str nx181 1768, .str nx13 1769, .int 650 0, .int 1 0, .int 0 0, .int 0 0, .int 3 0, .ref 1085, .bool true, .int 181 0, .ref 1086, .none, .ref 1087, .ref 1088, .ref 1089, .int 1771 0, .int 650 0, .str nx13 1772], #[]⟩),
 (1091, ⟨.type "function", none, .func ⟨n_is_private, nx181, fp2 48 12, .stmts (fb2 48 12), fs2 48 12, 3, [], .none, .none, .none, .str nx175 1600, none, .ref 1090, .none, 0⟩, #[]⟩),
 (1092, ⟨.type "property", none, .fields #[.ref 1091, .none, .none, .none, .str n_is_private 1774, .bool false], #[]⟩),
 (1129, ⟨.type "dict", none, .dict #[en P nx77 1625 (.str nx175 1600), en P nx78 1629 (.int 595 1628), en P nx72 1638 (.ref 997), en P n_read_from 1662 (.ref 1006), en P n_sec 1670 (.ref 1014), en P n_xonly 1677 (.ref 1021), en P n_taproot_tweak 1686 (.ref 1029), en P n_write_to 1694 (.ref 1036), en P n_serialize 1701 (.ref 1043), en P n_verify 1710 (.ref 1050), en P nx184 1717 (.ref 1057), en P n_from_xonly 1737 (.ref 1066), en P n_schnorr_verify 1746 (.ref 1074), en P n_from_string 1766 (.ref 1083), en P n_is_private 1774 (.ref 1092), en P n_to_string 1781 (.ref 1099), en P nx173 1789 (.ref 1106), en P nx174 1797 (.ref 1113), en P nx167 1805 (.ref 1120), en P nx169 1812 (.ref 1127), en P nx80 1815 (.ref 1128), en P nx6 1816 (.none)] 2, #[]⟩),
 (1130, ⟨.type "type", none, .cls ⟨n_PublicKey, [.ref 968], [.ref 1130, .ref 968, .ref 911, .type "object"], 1129, n_PublicKey, true, [], [], false, none, false⟩, #[(some (.ref 983)), none, (some (.str n_PublicKey 1618)), (some (.str n_PublicKey 1626)), (some (.builtin "object.__new__")), (some (.bool true))]⟩),
 (1140, ⟨.type "tuple", none, .seq #[.bool true, .ref 256] 0, #[]⟩),
 (1146, ⟨.type "code", none, .fields #[.str nx72 1833, .str nx187 1834, .str nx13 1835, .int 670 0, .int 4 0, .int 0 0, .int 0 0, .int 3 0, .ref 1141, .bool true, .int 181 0, .ref 1142, .none, .ref 1143, .ref 1144, .ref 1145, .int 1840 0, .int 670 0, .str nx13 1841], #[]⟩),
 (1147, ⟨.type "function", none, .func ⟨nx72, nx187, fp2 49 0, .stmts (fb2 49 0), fs2 49 0, 3, [], .ref 1140, .none, .none, .str nx175 1600, none, .ref 1146, .none, 0⟩, #[]⟩),
 (1161, ⟨.type "code", none, .fields #[.str n_secret 1853, .str nx189 1854, .str nx13 1855, .int 688 0, .int 1 0, .int 0 0, .int 0 0, .int 3 0, .ref 1156, .bool true, .int 181 0, .ref 1157, .none, .ref 1158, .ref 1159, .ref 1160, .int 1857 0, .int 688 0, .str nx13 1858], #[]⟩),
 (1162, ⟨.type "function", none, .func ⟨n_secret, nx189, fp2 49 2, .stmts (fb2 49 2), fs2 49 2, 3, [], .none, .none, .none, .str nx175 1600, none, .ref 1161, .none, 0⟩, #[]⟩),
 (1163, ⟨.type "property", none, .fields #[.ref 1162, .none, .none, .none, .str n_secret 1860, .bool false], #[]⟩),
 (1169, ⟨.type "code", none, .fields #[.str n_sec 1861, .str nx190 1862, .str nx13 1863, .int 692 0, .int 1 0, .int 0 0, .int 0 0, .int 3 0, .ref 1164, .bool true, .int 181 0, .ref 1165, .none, .ref 1166, .ref 1167, .ref 1168, .int 1865 0, .int 692 0, .str nx13 1866], #[]⟩),
 (1170, ⟨.type "function", none, .func ⟨n_sec, nx190, fp2 49 3, .stmts (fb2 49 3), fs2 49 3, 3, [], .none, .none, .none, .str nx175 1600, none, .ref 1169, .none, 0⟩, #[]⟩),
 (1219, ⟨.type "code", none, .fields #[.str n_get_public_key 1938, .str nx192 1939, .str nx13 1940, .int 727 0, .int 1 0, .int 0 0, .int 0 0, .int 3 0, .ref 1214, .bool true, .int 181 0, .ref 1215, .none, .ref 1216, .ref 1217, .ref 1218, .int 1942 0, .int 727 0, .str nx13 1943], #[]⟩),
 (1220, ⟨.type "function", none, .func ⟨n_get_public_key, nx192, fp2 49 9, .stmts (fb2 49 9), fs2 49 9, 3, [], .none, .none, .none, .str nx175 1600, none, .ref 1219, .none, 0⟩, #[]⟩),
 (1262, ⟨.type "code", none, .fields #[.str n_write_to 1987, .str nx193 1988, .str nx13 1989, .int 745 0, .int 2 0, .int 0 0, .int 0 0, .int 3 0, .ref 1257, .bool true, .int 181 0, .ref 1258, .none, .ref 1259, .ref 1260, .ref 1261, .int 1992 0, .int 745 0, .str nx13 1993], #[]⟩),
 (1263, ⟨.type "function", none, .func ⟨n_write_to, nx193, fp2 49 15, .stmts (fb2 49 15), fs2 49 15, 3, [], .none, .none, .none, .str nx175 1600, none, .ref 1262, .none, 0⟩, #[]⟩),
 (1269, ⟨.type "code", none, .fields #[.str n_read_from 1995, .str nx194 1996, .str nx13 1997, .int 748 0, .int 2 0, .int 0 0, .int 0 0, .int 3 0, .ref 1264, .bool true, .int 181 0, .ref 1265, .none, .ref 1266, .ref 1267, .ref 1268, .int 2000 0, .int 748 0, .str nx13 2001], #[]⟩),
 (1270, ⟨.type "function", none, .func ⟨n_read_from, nx194, fp2 49 16, .stmts (fb2 49 16), fs2 49 16, 3, [], .none, .none, .none, .str nx175 1600, (some (1273)), .ref 1269, .none, 0⟩, #[]⟩),
 (1272, ⟨.type "classmethod", (some (1271)), .fields #[.ref 1270, .bool false], #[]⟩),
 (1279, ⟨.type "code", none, .fields #[.str n_is_private 2015, .str nx195 2016, .str nx13 2017, .int 752 0, .int 1 0, .int 0 0, .int 0 0, .int 3 0, .ref 1274, .bool true, .int 181 0, .ref 1275, .none, .ref 1276, .ref 1277, .ref 1278, .int 2019 0, .int 752 0, .str nx13 2020], #[]⟩),
 (1280, ⟨.type "function", none, .func ⟨n_is_private, nx195, fp2 49 17, .stmts (fb2 49 17), fs2 49 17, 3, [], .none, .none, .none, .str nx175 1600, none, .ref 1279, .none, 0⟩, #[]⟩),
 (1281, ⟨.type "property", none, .fields #[.ref 1280, .none, .none, .none, .str n_is_private 2022, .bool false], #[]⟩),
 (1283, ⟨.type "dict", none, .dict #[en P nx77 1826 (.str nx175 1600), en P nx78 1830 (.int 668 1829), en P nx72 1842 (.ref 1147), en P n_wif 1852 (.ref 1155), en P n_secret 1860 (.ref 1163), en P n_sec 1867 (.ref 1170), en P n_xonly 1874 (.ref 1177), en P n_taproot_tweak 1883 (.ref 1185), en P n_from_wif 1909 (.ref 1194), en P n_to_base58 1917 (.ref 1203), en P n_from_base58 1937 (.ref 1212), en P n_get_public_key 1944 (.ref 1220), en P n_to_public 1951 (.ref 1227), en P n_sign 1960 (.ref 1235), en P n_schnorr_sign 1968 (.ref 1242), en P n_verify 1977 (.ref 1249), en P n_schnorr_verify 1986 (.ref 1256), en P n_write_to 1994 (.ref 1263), en P n_read_from 2014 (.ref 1272), en P n_is_private 2022 (.ref 1281), en P nx80 2026 (.ref 1282), en P nx6 2027 (.none)] 2, #[]⟩),
 (1284, ⟨.type "type", none, .cls ⟨n_PrivateKey, [.ref 968], [.ref 1284, .ref 968, .ref 911, .type "object"], 1283, n_PrivateKey, true, [], [], false, none, false⟩, #[(some (.ref 1133)), none, (some (.str n_PrivateKey 1819)), (some (.str n_PrivateKey 1827)), (some (.builtin "object.__new__")), (some (.bool true))]⟩),
 (1295, ⟨.type "dict", none, .dict #[en P nx77 2041 (.str nx202 2030), en P nx78 2045 (.int 757 2044), en P nx80 2046 (.ref 1294), en P nx6 2047 (.none)] 2, #[]⟩),
 (1296, ⟨.type "type", none, .cls ⟨n_HDError, [.ref 269], [.ref 1296, .ref 269, .type "Exception", .type "BaseException", .type "object"], 1295, n_HDError, true, [], [], false, none, false⟩, #[(some (.ref 1287)), none, (some (.str n_HDError 2034)), (some (.str n_HDError 2042)), (some (.builtin "Exception.__new__")), (some (.bool true))]⟩),
 (1306, ⟨.type "tuple", none, .seq #[.none, .int 0 2062, .bytes #[0, 0, 0, 0] 2063, .int 0 2064] 0, #[]⟩),
 (1312, ⟨.type "code", none, .fields #[.str nx72 2065, .str nx203 2066, .str nx13 2067, .int 761 0, .int 7 0, .int 0 0, .int 0 0, .int 3 0, .ref 1307, .bool true, .int 181 0, .ref 1308, .none, .ref 1309, .ref 1310, .ref 1311, .int 2075 0, .int 761 0, .str nx13 2076], #[]⟩),
 (1313, ⟨.type "function", none, .func ⟨nx72, nx203, fp2 53 0, .stmts (fb2 53 0), fs2 53 0, 3, [], .ref 1306, .none, .none, .str nx202 2030, none, .ref 1312, .none, 0⟩, #[]⟩),
 (1330, ⟨.type "code", none, .fields #[.str n_from_base58 2103, .str nx204 2104, .str nx13 2105, .int 785 0, .int 2 0, .int 0 0, .int 0 0, .int 3 0, .ref 1325, .bool true, .int 181 0, .ref 1326, .none, .ref 1327, .ref 1328, .ref 1329, .int 2109 0, .int 785 0, .str nx13 2110], #[]⟩),
 (1331, ⟨.type "function", none, .func ⟨n_from_base58, nx204, fp2 53 2, .stmts (fb2 53 2), fs2 53 2, 3, [], .none, .none, .none, .str nx202 2030, (some (1334)), .ref 1330, .none, 0⟩, #[]⟩),
 (1333, ⟨.type "classmethod", (some (1332)), .fields #[.ref 1331, .bool false], #[]⟩),
 (1340, ⟨.type "code", none, .fields #[.str n_my_fingerprint 2124, .str nx206 2125, .str nx13 2126, .int 790 0, .int 1 0, .int 0 0, .int 0 0, .int 3 0, .ref 1335, .bool true, .int 181 0, .ref 1336, .none, .ref 1337, .ref 1338, .ref 1339, .int 2129 0, .int 790 0, .str nx13 2130], #[]⟩),
 (1341, ⟨.type "function", none, .func ⟨n_my_fingerprint, nx206, fp2 53 3, .stmts (fb2 53 3), fs2 53 3, 3, [], .none, .none, .none, .str nx202 2030, none, .ref 1340, .none, 0⟩, #[]⟩),
 (1342, ⟨.type "property", none, .fields #[.ref 1341, .none, .none, .none, .str n_my_fingerprint 2132, .bool false], #[]⟩),
 (1348, ⟨.type "code", none, .fields #[.str n_is_private 2133, .str nx207 2134, .str nx13 2135, .int 797 0, .int 1 0, .int 0 0, .int 0 0, .int 3 0, .ref 1343, .bool true, .int 181 0, .ref 1344, .none, .ref 1345, .ref 1346, .ref 1347, .int 2137 0, .int 797 0, .str nx13 2138], #[]⟩),
 (1349, ⟨.type "function", none, .func ⟨n_is_private, nx207, fp2 53 4, .stmts (fb2 53 4), fs2 53 4, 3, [], .none, .none, .none, .str nx202 2030, none, .ref 1348, .none, 0⟩, #[]⟩),
 (1350, ⟨.type "property", none, .fields #[.ref 1349, .none, .none, .none, .str n_is_private 2140, .bool false], #[]⟩),
 (1356, ⟨.type "code", none, .fields #[.str n_secret 2141, .str nx208 2142, .str nx13 2143, .int 801 0, .int 1 0, .int 0 0, .int 0 0, .int 3 0, .ref 1351, .bool true, .int 181 0, .ref 1352, .none, .ref 1353, .ref 1354, .ref 1355, .int 2145 0, .int 801 0, .str nx13 2146], #[]⟩),
 (1357, ⟨.type "function", none, .func ⟨n_secret, nx208, fp2 53 5, .stmts (fb2 53 5), fs2 53 5, 3, [], .none, .none, .none, .str nx202 2030, none, .ref 1356, .none, 0⟩, #[]⟩),
 (1358, ⟨.type "property", none, .fields #[.ref 1357, .none, .none, .none, .str n_secret 2148, .bool false], #[]⟩),
 (1359, ⟨.type "tuple", none, .seq #[.none] 0, #[]⟩),
 (1365, ⟨.type "code", none, .fields #[.str n_write_to 2149, .str nx209 2150, .str nx13 2151, .int 807 0, .int 3 0, .int 0 0, .int 0 0, .int 3 0, .ref 1360, .bool true, .int 181 0, .ref 1361, .none, .ref 1362, .ref 1363, .ref 1364, .int 2156 0, .int 807 0, .str nx13 2157], #[]⟩),
 (1366, ⟨.type "function", none, .func ⟨n_write_to, nx209, fp2 53 6, .stmts (fb2 53 6), fs2 53 6, 3, [], .ref 1359, .none, .none, .str nx202 2030, none, .ref 1365, .none, 0⟩, #[]⟩),
 (1367, ⟨.type "tuple", none, .seq #[.none] 0, #[]⟩),
 (1373, ⟨.type "code", none, .fields #[.str n_to_base58 2159, .str nx210 2160, .str nx13 2161, .int 820 0, .int 2 0, .int 0 0, .int 0 0, .int 3 0, .ref 1368, .bool true, .int 181 0, .ref 1369, .none, .ref 1370, .ref 1371, .ref 1372, .int 2166 0, .int 820 0, .str nx13 2167], #[]⟩),
 (1374, ⟨.type "function", none, .func ⟨n_to_base58, nx210, fp2 53 7, .stmts (fb2 53 7), fs2 53 7, 3, [], .ref 1367, .none, .none, .str nx202 2030, none, .ref 1373, .none, 0⟩, #[]⟩),
 (1398, ⟨.type "code", none, .fields #[.str n_read_from 2197, .str nx211 2198, .str nx13 2199, .int 836 0, .int 2 0, .int 0 0, .int 0 0, .int 3 0, .ref 1393, .bool true, .int 181 0, .ref 1394, .none, .ref 1395, .ref 1396, .ref 1397, .int 2211 0, .int 836 0, .str nx13 2212], #[]⟩),
 (1399, ⟨.type "function", none, .func ⟨n_read_from, nx211, fp2 53 10, .stmts (fb2 53 10), fs2 53 10, 3, [], .none, .none, .none, .str nx202 2030, (some (1402)), .ref 1398, .none, 0⟩, #[]⟩),
 (1401, ⟨.type "classmethod", (some (1400)), .fields #[.ref 1399, .bool false], #[]⟩),
 (1403, ⟨.type "tuple", none, .seq #[.none] 0, #[]⟩),
 (1409, ⟨.type "code", none, .fields #[.str n_to_public 2226, .str nx212 2227, .str nx13 2228, .int 860 0, .int 2 0, .int 0 0, .int 0 0, .int 3 0, .ref 1404, .bool true, .int 181 0, .ref 1405, .none, .ref 1406, .ref 1407, .ref 1408, .int 2233 0, .int 860 0, .str nx13 2234], #[]⟩),
 (1410, ⟨.type "function", none, .func ⟨n_to_public, nx212, fp2 53 11, .stmts (fb2 53 11), fs2 53 11, 3, [], .ref 1403, .none, .none, .str nx202 2030, none, .ref 1409, .none, 0⟩, #[]⟩),
 (1423, ⟨.type "code", none, .fields #[.str n_sec 2243, .str nx213 2244, .str nx13 2245, .int 876 0, .int 1 0, .int 0 0, .int 0 0, .int 3 0, .ref 1418, .bool true, .int 181 0, .ref 1419, .none, .ref 1420, .ref 1421, .ref 1422, .int 2247 0, .int 876 0, .str nx13 2248], #[]⟩),
 (1424, ⟨.type "function", none, .func ⟨n_sec, nx213, fp2 53 13, .stmts (fb2 53 13), fs2 53 13, 3, [], .none, .none, .none, .str nx202 2030, none, .ref 1423, .none, 0⟩, #[]⟩),
 (1440, ⟨.type "tuple", none, .seq #[.bool false] 0, #[]⟩),
 (1446, ⟨.type "code", none, .fields #[.str n_child 2266, .str nx215 2267, .str nx13 2268, .int 885 0, .int 3 0, .int 0 0, .int 0 0, .int 3 0, .ref 1441, .bool true, .int 181 0, .ref 1442, .none, .ref 1443, .ref 1444, .ref 1445, .int 2280 0, .int 885 0, .str nx13 2281], #[]⟩),
 (1447, ⟨.type "function", none, .func ⟨n_child, nx215, fp2 53 16, .stmts (fb2 53 16), fs2 53 16, 3, [], .ref 1440, .none, .none, .str nx202 2030, none, .ref 1446, .none, 0⟩, #[]⟩),
 (1453, ⟨.type "code", none, .fields #[.str n_derive 2283, .str nx217 2284, .str nx13 2285, .int 912 0, .int 2 0, .int 0 0, .int 0 0, .int 3 0, .ref 1448, .bool true, .int 181 0, .ref 1449, .none, .ref 1450, .ref 1451, .ref 1452, .int 2290 0, .int 912 0, .str nx13 2291], #[]⟩),
 (1454, ⟨.type "function", none, .func ⟨n_derive, nx217, fp2 53 17, .stmts (fb2 53 17), fs2 53 17, 3, [], .none, .none, .none, .str nx202 2030, none, .ref 1453, .none, 0⟩, #[]⟩),
 (1488, ⟨.type "code", none, .fields #[.str nx167 2327, .str nx218 2328, .str nx13 2329, .int 932 0, .int 2 0, .int 0 0, .int 0 0, .int 3 0, .ref 1483, .bool true, .int 181 0, .ref 1484, .none, .ref 1485, .ref 1486, .ref 1487, .int 2332 0, .int 932 0, .str nx13 2333], #[]⟩),
 (1489, ⟨.type "function", none, .func ⟨nx167, nx218, fp2 53 22, .stmts (fb2 53 22), fs2 53 22, 3, [], .none, .none, .none, .str nx202 2030, none, .ref 1488, .none, 0⟩, #[]⟩),
 (1498, ⟨.type "dict", none, .dict #[en P nx77 2057 (.str nx202 2030), en P nx78 2061 (.int 759 2060), en P nx72 2077 (.ref 1313), en P n_from_seed 2102 (.ref 1323), en P n_from_base58 2123 (.ref 1333), en P n_my_fingerprint 2132 (.ref 1342), en P n_is_private 2140 (.ref 1350), en P n_secret 2148 (.ref 1358), en P n_write_to 2158 (.ref 1366), en P n_to_base58 2168 (.ref 1374), en P n_from_string 2188 (.ref 1383), en P n_to_string 2196 (.ref 1392), en P n_read_from 2225 (.ref 1401), en P n_to_public 2235 (.ref 1410), en P n_get_public_key 2242 (.ref 1417), en P n_sec 2249 (.ref 1424), en P n_xonly 2256 (.ref 1431), en P n_taproot_tweak 2265 (.ref 1439), en P n_child 2282 (.ref 1447), en P n_derive 2292 (.ref 1454), en P n_sign 2300 (.ref 1461), en P n_schnorr_sign 2308 (.ref 1468), en P n_verify 2317 (.ref 1475), en P n_schnorr_verify 2326 (.ref 1482), en P nx167 2334 (.ref 1489), en P nx169 2341 (.ref 1496), en P nx80 2349 (.ref 1497), en P nx6 2350 (.none)] 2, #[]⟩),
 (1499, ⟨.type "type", none, .cls ⟨n_HDKey, [.ref 968], [.ref 1499, .ref 968, .ref 911, .type "object"], 1498, n_HDKey, true, [], [], false, none, false⟩, #[(some (.ref 1299)), none, (some (.str n_HDKey 2050)), (some (.str n_HDKey 2058)), (some (.builtin "object.__new__")), (some (.bool true))]⟩),
 (1507, ⟨.type "code", none, .fields #[.str nx61 2353, .str nx61 2354, .str nx13 2355, .int 937 0, .int 1 0, .int 0 0, .int 0 0, .int 3 0, .ref 1502, .bool true, .int 181 0, .ref 1503, .none, .ref 1504, .ref 1505, .ref 1506, .int 2357 0, .int 937 0, .str nx13 2358], #[]⟩),
 (1508, ⟨.type "function", none, .func ⟨nx61, nx61, fp1 54, .stmts (fb1 54), fs1 54, 3, [], .none, .none, .none, .str nx202 2030, none, .ref 1507, .none, 0⟩, #[]⟩),
 (1512, ⟨.type "code", none, .fields #[.str n_parse_path 2360, .str n_parse_path 2361, .str nx13 2362, .int 942 0, .int 1 0, .int 0 0, .int 0 0, .int 3 0, .ref 1509, .bool true, .int 181 0, .ref 1510, .none, .none, .none, .ref 1511, .int 2363 0, .int 942 0, .str nx13 2364], #[]⟩),
 (1513, ⟨.type "function", none, .func ⟨n_parse_path, n_parse_path, fp1 55, .stmts (fb1 55), fs1 55, 3, [], .none, .none, .none, .str nx202 2030, none, .ref 1512, .none, 0⟩, #[]⟩),
 (1514, ⟨.type "tuple", none, .seq #[.none] 0, #[]⟩),
 (1520, ⟨.type "code", none, .fields #[.str n_path_to_str 2366, .str n_path_to_str 2367, .str nx13 2368, .int 949 0, .int 2 0, .int 0 0, .int 0 0, .int 3 0, .ref 1515, .bool true, .int 181 0, .ref 1516, .none, .ref 1517, .ref 1518, .ref 1519, .int 2373 0, .int 949 0, .str nx13 2374], #[]⟩),
 (1521, ⟨.type "function", none, .func ⟨n_path_to_str, n_path_to_str, fp1 56, .stmts (fb1 56), fs1 56, 3, [], .ref 1514, .none, .none, .str nx202 2030, none, .ref 1520, .none, 0⟩, #[]⟩),
 (1527, ⟨.type "code", none, .fields #[.str nx64 2378, .str nx64 2379, .str nx13 2380, .int 958 0, .int 2 0, .int 0 0, .int 0 0, .int 3 0, .ref 1522, .bool true, .int 181 0, .ref 1523, .none, .ref 1524, .ref 1525, .ref 1526, .int 2383 0, .int 958 0, .str nx13 2384], #[]⟩),
 (1528, ⟨.type "function", none, .func ⟨nx64, nx64, fp1 58, .stmts (fb1 58), fs1 58, 3, [], .none, .none, .none, .str n_law_be0012_01 2376, none, .ref 1527, .none, 0⟩, #[]⟩),
 (1534, ⟨.type "code", none, .fields #[.str nx65 2386, .str nx65 2387, .str nx13 2388, .int 960 0, .int 1 0, .int 0 0, .int 0 0, .int 3 0, .ref 1529, .bool true, .int 181 0, .ref 1530, .none, .ref 1531, .ref 1532, .ref 1533, .int 2390 0, .int 960 0, .str nx13 2391], #[]⟩),
 (1535, ⟨.type "function", none, .func ⟨nx65, nx65, fp1 59, .stmts (fb1 59), fs1 59, 3, [], .none, .none, .none, .str n_law_be0012_01 2376, none, .ref 1534, .none, 0⟩, #[]⟩),
 (1541, ⟨.type "code", none, .fields #[.str nx66 2393, .str nx66 2394, .str nx13 2395, .int 962 0, .int 3 0, .int 0 0, .int 0 0, .int 3 0, .ref 1536, .bool true, .int 181 0, .ref 1537, .none, .ref 1538, .ref 1539, .ref 1540, .int 2399 0, .int 962 0, .str nx13 2400], #[]⟩),
 (1542, ⟨.type "function", none, .func ⟨nx66, nx66, fp1 60, .stmts (fb1 60), fs1 60, 3, [], .none, .none, .none, .str n_law_be0012_01 2376, none, .ref 1541, .none, 0⟩, #[]⟩),
 (1548, ⟨.type "code", none, .fields #[.str nx67 2402, .str nx67 2403, .str nx13 2404, .int 973 0, .int 2 0, .int 0 0, .int 0 0, .int 3 0, .ref 1543, .bool true, .int 181 0, .ref 1544, .none, .ref 1545, .ref 1546, .ref 1547, .int 2408 0, .int 973 0, .str nx13 2409], #[]⟩),
 (1549, ⟨.type "function", none, .func ⟨nx67, nx67, fp1 61, .stmts (fb1 61), fs1 61, 3, [], .none, .none, .none, .str n_law_be0012_01 2376, none, .ref 1548, .none, 0⟩, #[]⟩),
 (1555, ⟨.type "code", none, .fields #[.str nx68 2411, .str nx68 2412, .str nx13 2413, .int 976 0, .int 3 0, .int 0 0, .int 0 0, .int 3 0, .ref 1550, .bool true, .int 181 0, .ref 1551, .none, .ref 1552, .ref 1553, .ref 1554, .int 2417 0, .int 976 0, .str nx13 2418], #[]⟩),
 (1556, ⟨.type "function", none, .func ⟨nx68, nx68, fp1 62, .stmts (fb1 62), fs1 62, 3, [], .none, .none, .none, .str n_law_be0012_01 2376, none, .ref 1555, .none, 0⟩, #[]⟩),
 (1562, ⟨.type "code", none, .fields #[.str nx69 2420, .str nx69 2421, .str nx13 2422, .int 981 0, .int 3 0, .int 0 0, .int 0 0, .int 3 0, .ref 1557, .bool true, .int 181 0, .ref 1558, .none, .ref 1559, .ref 1560, .ref 1561, .int 2427 0, .int 981 0, .str nx13 2428], #[]⟩),
 (1563, ⟨.type "function", none, .func ⟨nx69, nx69, fp1 63, .stmts (fb1 63), fs1 63, 3, [], .none, .none, .none, .str n_law_be0012_01 2376, none, .ref 1562, .none, 0⟩, #[]⟩),
 (1569, ⟨.type "code", none, .fields #[.str nx70 2430, .str nx70 2431, .str nx13 2432, .int 986 0, .int 2 0, .int 0 0, .int 0 0, .int 3 0, .ref 1564, .bool true, .int 181 0, .ref 1565, .none, .ref 1566, .ref 1567, .ref 1568, .int 2435 0, .int 986 0, .str nx13 2436], #[]⟩),
 (1570, ⟨.type "function", none, .func ⟨nx70, nx70, fp1 64, .stmts (fb1 64), fs1 64, 3, [], .none, .none, .none, .str n_law_be0012_01 2376, none, .ref 1569, .none, 0⟩, #[]⟩),
 (1574, ⟨.type "code", none, .fields #[.str n_law 2438, .str n_law 2439, .str nx13 2440, .int 988 0, .int 1 0, .int 0 0, .int 0 0, .int 3 0, .ref 1571, .bool true, .int 181 0, .ref 1572, .none, .none, .none, .ref 1573, .int 2441 0, .int 988 0, .str nx13 2442], #[]⟩),
 (1575, ⟨.type "function", none, .func ⟨n_law, n_law, fp1 65, .stmts (fb1 65), fs1 65, 3, [], .none, .none, .none, .str n_law_be0012_01 2376, none, .ref 1574, .none, 0⟩, #[]⟩)
]
noncomputable abbrev PR : Program := PySem.Challenge.pw_be0012_01
theorem gl_Sha256 (P : Params) : nsIn (KF P) mainGlobals "Sha256" = some (some (.ref 58)) := by kernel_rfl
theorem kp_Sha256 (P : Params) : Kp (KF P) (.ref 58) := kp_K (by kernel_rfl)
theorem gl_Sha512 (P : Params) : nsIn (KF P) mainGlobals "Sha512" = some (some (.ref 79)) := by kernel_rfl
theorem kp_Sha512 (P : Params) : Kp (KF P) (.ref 79) := kp_K (by kernel_rfl)
theorem gl_hashlib (P : Params) : nsIn (KF P) mainGlobals "hashlib" = some (some (.ref 112)) := by kernel_rfl
theorem kp_hashlib (P : Params) : Kp (KF P) (.ref 112) := kp_K (by kernel_rfl)
theorem gl_hmac (P : Params) : nsIn (KF P) mainGlobals "hmac" = some (some (.ref 137)) := by kernel_rfl
theorem kp_hmac (P : Params) : Kp (KF P) (.ref 137) := kp_K (by kernel_rfl)
theorem gl_ripemd160 (P : Params) : nsIn (KF P) mainGlobals "ripemd160" = some (some (.ref 148)) := by kernel_rfl
theorem kp_ripemd160 (P : Params) : Kp (KF P) (.ref 148) := kp_K (by kernel_rfl)
theorem gl_copy (P : Params) : nsIn (KF P) mainGlobals "copy" = some (some (.ref 155)) := by kernel_rfl
theorem kp_copy (P : Params) : Kp (KF P) (.ref 155) := kp_K (by kernel_rfl)
theorem gl_double_sha256 (P : Params) : nsIn (KF P) mainGlobals "double_sha256" = some (some (.ref 162)) := by kernel_rfl
theorem kp_double_sha256 (P : Params) : Kp (KF P) (.ref 162) := kp_K (by kernel_rfl)
theorem gl_hash160 (P : Params) : nsIn (KF P) mainGlobals "hash160" = some (some (.ref 169)) := by kernel_rfl
theorem kp_hash160 (P : Params) : Kp (KF P) (.ref 169) := kp_K (by kernel_rfl)
theorem gl_B58_DIGITS (P : Params) : nsIn (KF P) mainGlobals "B58_DIGITS" = some (some (.str nx26 407)) := by kernel_rfl
theorem gl_encode (P : Params) : nsIn (KF P) mainGlobals "encode" = some (some (.ref 176)) := by kernel_rfl
theorem kp_encode (P : Params) : Kp (KF P) (.ref 176) := kp_K (by kernel_rfl)
theorem gl_decode (P : Params) : nsIn (KF P) mainGlobals "decode" = some (some (.ref 183)) := by kernel_rfl
theorem kp_decode (P : Params) : Kp (KF P) (.ref 183) := kp_K (by kernel_rfl)
theorem gl_encode_check (P : Params) : nsIn (KF P) mainGlobals "encode_check" = some (some (.ref 190)) := by kernel_rfl
theorem kp_encode_check (P : Params) : Kp (KF P) (.ref 190) := kp_K (by kernel_rfl)
theorem gl_decode_check (P : Params) : nsIn (KF P) mainGlobals "decode_check" = some (some (.ref 197)) := by kernel_rfl
theorem kp_decode_check (P : Params) : Kp (KF P) (.ref 197) := kp_K (by kernel_rfl)
theorem gl_EC_COMPRESSED (P : Params) : nsIn (KF P) mainGlobals "EC_COMPRESSED" = some (some (.int 258 452)) := by kernel_rfl
theorem gl_EC_UNCOMPRESSED (P : Params) : nsIn (KF P) mainGlobals "EC_UNCOMPRESSED" = some (some (.int 2 454)) := by kernel_rfl
theorem gl_PRIME (P : Params) : nsIn (KF P) mainGlobals "_PRIME" = some (some (.int 57896044618658097711785492504343953926634992332820282019728792003956564819949 456)) := by kernel_rfl
theorem gl_BASE (P : Params) : nsIn (KF P) mainGlobals "_BASE" = some (some (.int 47962653777612059811531418077271348761744880276845910084186123193600379925034 458)) := by kernel_rfl
theorem gl_number (P : Params) : nsIn (KF P) mainGlobals "_number" = some (some (.ref 204)) := by kernel_rfl
theorem kp_number (P : Params) : Kp (KF P) (.ref 204) := kp_K (by kernel_rfl)
theorem gl_octets (P : Params) : nsIn (KF P) mainGlobals "_octets" = some (some (.ref 211)) := by kernel_rfl
theorem kp_octets (P : Params) : Kp (KF P) (.ref 211) := kp_K (by kernel_rfl)
theorem gl_ec_seckey_verify (P : Params) : nsIn (KF P) mainGlobals "ec_seckey_verify" = some (some (.ref 218)) := by kernel_rfl
theorem kp_ec_seckey_verify (P : Params) : Kp (KF P) (.ref 218) := kp_K (by kernel_rfl)
theorem gl_ec_pubkey_create (P : Params) : nsIn (KF P) mainGlobals "ec_pubkey_create" = some (some (.ref 225)) := by kernel_rfl
theorem kp_ec_pubkey_create (P : Params) : Kp (KF P) (.ref 225) := kp_K (by kernel_rfl)
theorem gl_ec_pubkey_serialize (P : Params) : nsIn (KF P) mainGlobals "ec_pubkey_serialize" = some (some (.ref 233)) := by kernel_rfl
theorem kp_ec_pubkey_serialize (P : Params) : Kp (KF P) (.ref 233) := kp_K (by kernel_rfl)
theorem gl_ec_pubkey_parse (P : Params) : nsIn (KF P) mainGlobals "ec_pubkey_parse" = some (some (.ref 240)) := by kernel_rfl
theorem kp_ec_pubkey_parse (P : Params) : Kp (KF P) (.ref 240) := kp_K (by kernel_rfl)
theorem gl_ec_privkey_add (P : Params) : nsIn (KF P) mainGlobals "ec_privkey_add" = some (some (.ref 247)) := by kernel_rfl
theorem kp_ec_privkey_add (P : Params) : Kp (KF P) (.ref 247) := kp_K (by kernel_rfl)
theorem gl_ec_pubkey_add (P : Params) : nsIn (KF P) mainGlobals "ec_pubkey_add" = some (some (.ref 254)) := by kernel_rfl
theorem kp_ec_pubkey_add (P : Params) : Kp (KF P) (.ref 254) := kp_K (by kernel_rfl)
theorem gl_NETWORKS (P : Params) : nsIn (KF P) mainGlobals "NETWORKS" = some (some (.ref 255)) := by kernel_rfl
theorem gl_EmbitError (P : Params) : nsIn (KF P) mainGlobals "EmbitError" = some (some (.ref 269)) := by kernel_rfl
theorem gl_index (P : Params) : nsIn (KF P) mainGlobals "_index" = some (some (.ref 286)) := by kernel_rfl
theorem kp_index (P : Params) : Kp (KF P) (.ref 286) := kp_K (by kernel_rfl)
theorem gl_IOBase (P : Params) : nsIn (KF P) mainGlobals "IOBase" = some (some (.ref 316)) := by kernel_rfl
theorem gl_BytesIO (P : Params) : nsIn (KF P) mainGlobals "BytesIO" = some (some (.ref 573)) := by kernel_rfl
theorem kp_BytesIO (P : Params) : Kp (KF P) (.ref 573) := kp_K (by kernel_rfl)
theorem gl_ECError (P : Params) : nsIn (KF P) mainGlobals "ECError" = some (some (.ref 980)) := by kernel_rfl
theorem gl_PublicKey (P : Params) : nsIn (KF P) mainGlobals "PublicKey" = some (some (.ref 1130)) := by kernel_rfl
theorem kp_PublicKey (P : Params) : Kp (KF P) (.ref 1130) := kp_K (by kernel_rfl)
theorem gl_PrivateKey (P : Params) : nsIn (KF P) mainGlobals "PrivateKey" = some (some (.ref 1284)) := by kernel_rfl
theorem kp_PrivateKey (P : Params) : Kp (KF P) (.ref 1284) := kp_K (by kernel_rfl)
theorem gl_HARDENED_INDEX (P : Params) : nsIn (KF P) mainGlobals "HARDENED_INDEX" = some (some (.int 2147483648 2032)) := by kernel_rfl
theorem gl_HDError (P : Params) : nsIn (KF P) mainGlobals "HDError" = some (some (.ref 1296)) := by kernel_rfl
theorem gl_HDKey (P : Params) : nsIn (KF P) mainGlobals "HDKey" = some (some (.ref 1499)) := by kernel_rfl
theorem kp_HDKey (P : Params) : Kp (KF P) (.ref 1499) := kp_K (by kernel_rfl)
theorem gl_parse_der_item (P : Params) : nsIn (KF P) mainGlobals "_parse_der_item" = some (some (.ref 1508)) := by kernel_rfl
theorem kp_parse_der_item (P : Params) : Kp (KF P) (.ref 1508) := kp_K (by kernel_rfl)
theorem gl_parse_path (P : Params) : nsIn (KF P) mainGlobals "parse_path" = some (some (.ref 1513)) := by kernel_rfl
theorem kp_parse_path (P : Params) : Kp (KF P) (.ref 1513) := kp_K (by kernel_rfl)
theorem gl_path_to_str (P : Params) : nsIn (KF P) mainGlobals "path_to_str" = some (some (.ref 1521)) := by kernel_rfl
theorem kp_path_to_str (P : Params) : Kp (KF P) (.ref 1521) := kp_K (by kernel_rfl)
theorem gl_law_number (P : Params) : nsIn (KF P) mainGlobals "_law_number" = some (some (.ref 1528)) := by kernel_rfl
theorem kp_law_number (P : Params) : Kp (KF P) (.ref 1528) := kp_K (by kernel_rfl)
theorem gl_law_octets (P : Params) : nsIn (KF P) mainGlobals "_law_octets" = some (some (.ref 1535)) := by kernel_rfl
theorem kp_law_octets (P : Params) : Kp (KF P) (.ref 1535) := kp_K (by kernel_rfl)
theorem gl_law_refused (P : Params) : nsIn (KF P) mainGlobals "_law_refused" = some (some (.ref 1542)) := by kernel_rfl
theorem kp_law_refused (P : Params) : Kp (KF P) (.ref 1542) := kp_K (by kernel_rfl)
theorem gl_law_raw (P : Params) : nsIn (KF P) mainGlobals "_law_raw" = some (some (.ref 1549)) := by kernel_rfl
theorem kp_law_raw (P : Params) : Kp (KF P) (.ref 1549) := kp_K (by kernel_rfl)
theorem gl_law_child (P : Params) : nsIn (KF P) mainGlobals "_law_child" = some (some (.ref 1556)) := by kernel_rfl
theorem kp_law_child (P : Params) : Kp (KF P) (.ref 1556) := kp_K (by kernel_rfl)
theorem gl_law_right (P : Params) : nsIn (KF P) mainGlobals "_law_right" = some (some (.ref 1563)) := by kernel_rfl
theorem kp_law_right (P : Params) : Kp (KF P) (.ref 1563) := kp_K (by kernel_rfl)
theorem gl_law_same (P : Params) : nsIn (KF P) mainGlobals "_law_same" = some (some (.ref 1570)) := by kernel_rfl
theorem kp_law_same (P : Params) : Kp (KF P) (.ref 1570) := kp_K (by kernel_rfl)
theorem gl_law (P : Params) : nsIn (KF P) mainGlobals "law" = some (some (.ref 1575)) := by kernel_rfl
theorem kp_law (P : Params) : Kp (KF P) (.ref 1575) := kp_K (by kernel_rfl)
theorem no_int (P : Params) : nsIn (KF P) mainGlobals "int" = some none := by kernel_rfl
theorem no_bytes (P : Params) : nsIn (KF P) mainGlobals "bytes" = some none := by kernel_rfl
theorem no_len (P : Params) : nsIn (KF P) mainGlobals "len" = some none := by kernel_rfl
theorem no_divmod (P : Params) : nsIn (KF P) mainGlobals "divmod" = some none := by kernel_rfl
theorem no_ValueError (P : Params) : nsIn (KF P) mainGlobals "ValueError" = some none := by kernel_rfl
theorem no_Exception (P : Params) : nsIn (KF P) mainGlobals "Exception" = some none := by kernel_rfl
theorem no_str (P : Params) : nsIn (KF P) mainGlobals "str" = some none := by kernel_rfl
theorem no_min (P : Params) : nsIn (KF P) mainGlobals "min" = some none := by kernel_rfl
theorem no_isinstance (P : Params) : nsIn (KF P) mainGlobals "isinstance" = some none := by kernel_rfl
theorem no_range (P : Params) : nsIn (KF P) mainGlobals "range" = some none := by kernel_rfl
theorem no_object (P : Params) : nsIn (KF P) mainGlobals "object" = some none := by kernel_rfl
theorem no_type (P : Params) : nsIn (KF P) mainGlobals "type" = some none := by kernel_rfl
theorem no_bytearray (P : Params) : nsIn (KF P) mainGlobals "bytearray" = some none := by kernel_rfl
theorem no_bool (P : Params) : nsIn (KF P) mainGlobals "bool" = some none := by kernel_rfl
noncomputable def asKF : List Addr := [2, 3, 34, 40, 41, 54, 55, 57, 58, 75, 76, 78, 79, 89, 95, 96, 98, 111, 112, 124, 130, 131, 133, 136, 137, 147, 148, 154, 155, 161, 162, 168, 169, 175, 176, 182, 183, 189, 190, 196, 197, 203, 204, 210, 211, 217, 218, 224, 225, 226, 232, 233, 239, 240, 246, 247, 253, 254, 255, 256, 257, 258, 259, 268, 269, 285, 286, 312, 313, 315, 316, 317, 330, 331, 353, 359, 360, 366, 367, 458, 459, 490, 496, 497, 555, 556, 572, 573, 845, 846, 848, 862, 863, 910, 911, 967, 968, 979, 980, 990, 996, 997, 1003, 1004, 1006, 1013, 1014, 1035, 1036, 1042, 1043, 1090, 1091, 1092, 1129, 1130, 1140, 1146, 1147, 1161, 1162, 1163, 1169, 1170, 1219, 1220, 1262, 1263, 1269, 1270, 1272, 1279, 1280, 1281, 1283, 1284, 1295, 1296, 1306, 1312, 1313, 1330, 1331, 1333, 1340, 1341, 1342, 1348, 1349, 1350, 1356, 1357, 1358, 1359, 1365, 1366, 1367, 1373, 1374, 1398, 1399, 1401, 1403, 1409, 1410, 1423, 1424, 1440, 1446, 1447, 1453, 1454, 1488, 1489, 1498, 1499, 1507, 1508, 1512, 1513, 1514, 1520, 1521, 1527, 1528, 1534, 1535, 1541, 1542, 1548, 1549, 1555, 1556, 1562, 1563, 1569, 1570, 1574, 1575]
theorem asKF_eq : ∀ P, asKF = (KF P).map (·.1) := fun _ => by kernel_rfl
noncomputable abbrev HK : Hook := kHook KF asKF asKF_eq
noncomputable def topRunG (ok : Thread → Bool) (st : SharedT → Thread → Option (SharedT × Thread)) : Nat → SharedT → Thread → Option SharedT
 | 0, _, _ => none
 | n + 1, s, t => match through t with
  | true => some s
  | false => match ok t with
   | false => none
   | true => match st s t with
    | some (s', t') => topRunG ok st n s' t'
    | none => none
theorem topRun_of {tb : String → Option Builtin} {p : Program} {w : World} {n₀ : Nat} {ann : Option Value} : ∀ {n : Nat} {s s' : SharedT} {t : Thread}, topRunG (stepOk n₀ ann) (stepT (denote tb) p w) n s t = some s' → topRun tb p w n₀ ann n s.abs t = some s'.abs
 | 0, _, _, _, h => by cases h
 | n + 1, s, s', t, h => by
  unfold topRunG at h
  unfold topRun
  cases ht : through t with
  | true => rw [ht] at h; cases h; rfl
  | false =>
   rw [ht] at h
   cases hk : stepOk n₀ ann t with
   | false => rw [hk] at h; cases h
   | true =>
    rw [hk] at h
    cases hs : stepT (denote tb) p w s t with
    | none => rw [hs] at h; cases h
    | some r => obtain ⟨s₂, t₂⟩ := r; rw [hs] at h; rw [stepT_spec hs]; exact topRun_of h
noncomputable def getR (t : BT) : Nat → Option Obj := @BT.rec (fun _ => Nat → Option Obj) (fun _ => none) (fun v _ _ ihl ihr i => @Bool.rec (fun _ => Option Obj) (@Bool.rec (fun _ => Option Obj) (ihr (Nat.sub (Nat.div i 2) 1)) (ihl (Nat.div i 2)) (Nat.beq (Nat.mod i 2) 1)) (some v) (Nat.beq i 0)) t
noncomputable def insR (t : BT) : Nat → Obj → BT := @BT.rec (fun _ => Nat → Obj → BT) (fun _ o => .node o .nil .nil) (fun v l r ihl ihr i o => @Bool.rec (fun _ => BT) (@Bool.rec (fun _ => BT) (.node v l (ihr (Nat.sub (Nat.div i 2) 1) o)) (.node v (ihl (Nat.div i 2) o) r) (Nat.beq (Nat.mod i 2) 1)) (.node o l r) (Nat.beq i 0)) t
noncomputable def setR (t : BT) : Nat → (Obj → Obj) → BT := @BT.rec (fun _ => Nat → (Obj → Obj) → BT) (fun _ _ => .nil) (fun v l r ihl ihr i f => @Bool.rec (fun _ => BT) (@Bool.rec (fun _ => BT) (.node v l (ihr (Nat.sub (Nat.div i 2) 1) f)) (.node v (ihl (Nat.div i 2) f) r) (Nat.beq (Nat.mod i 2) 1)) (.node (f v) l r) (Nat.beq i 0)) t
theorem getR_eq : ∀ (t : BT) (i : Nat), getR t i = t.get i
 | .nil, _ => rfl
 | .node v l r, i => by
  show @Bool.rec (fun _ => Option Obj) (@Bool.rec (fun _ => Option Obj) (getR r (i / 2 - 1)) (getR l (i / 2)) (Nat.beq (i % 2) 1)) (some v) (Nat.beq i 0) = (match Nat.beq i 0 with | true => some v | false => match Nat.beq (i % 2) 1 with | true => l.get (i / 2) | false => r.get (i / 2 - 1))
  rw [getR_eq l, getR_eq r]
  cases Nat.beq i 0 <;> cases Nat.beq (i % 2) 1 <;> rfl
theorem insR_eq : ∀ (t : BT) (i : Nat) (o : Obj), insR t i o = t.ins i o
 | .nil, _, _ => rfl
 | .node v l r, i, o => by
  show @Bool.rec (fun _ => BT) (@Bool.rec (fun _ => BT) (.node v l (insR r (i / 2 - 1) o)) (.node v (insR l (i / 2) o) r) (Nat.beq (i % 2) 1)) (.node o l r) (Nat.beq i 0) = (match Nat.beq i 0 with | true => .node o l r | false => match Nat.beq (i % 2) 1 with | true => .node v (l.ins (i / 2) o) r | false => .node v l (r.ins (i / 2 - 1) o))
  rw [insR_eq l, insR_eq r]
  cases Nat.beq i 0 <;> cases Nat.beq (i % 2) 1 <;> rfl
theorem setR_eq : ∀ (t : BT) (i : Nat) (f : Obj → Obj), setR t i f = t.set i f
 | .nil, _, _ => rfl
 | .node v l r, i, f => by
  show @Bool.rec (fun _ => BT) (@Bool.rec (fun _ => BT) (.node v l (setR r (i / 2 - 1) f)) (.node v (setR l (i / 2) f) r) (Nat.beq (i % 2) 1)) (.node (f v) l r) (Nat.beq i 0) = (match Nat.beq i 0 with | true => .node (f v) l r | false => match Nat.beq (i % 2) 1 with | true => .node v (l.set (i / 2) f) r | false => .node v l (r.set (i / 2 - 1) f))
  rw [setR_eq l, setR_eq r]
  cases Nat.beq i 0 <;> cases Nat.beq (i % 2) 1 <;> rfl
noncomputable abbrev Kt := SharedT → Thread → Option SharedT
noncomputable abbrev Md := Kt → Kt → Kt → (Nat → Bool) → BT → Nat → Life → Array GenState → Drawn → Nat → OsState → Code → Pos → List Frame → Option SharedT
noncomputable def jmp (c : Sem Fin) : Md := Sem.rec (motive := fun _ => Md)
 (pure := fun f => @PySem.Fin.rec (fun _ => Md)
  (fun f slow mid go ua T n life g d k os code pos st => @List.rec Frame (fun _ => Option SharedT) (slow ⟨T, n, life, g, d, k, os⟩ ⟨.pure (.done f), code, pos, st⟩) (fun fr rest _ => @Frame.rec (fun _ => Option SharedT) (fun kk _ _ _ c p _ => go ⟨T, n, life, g, d, k, os⟩ ⟨kk (.ok f), c, p, rest⟩) (fun _ _ _ _ _ => slow ⟨T, n, life, g, d, k, os⟩ ⟨.pure (.done f), code, pos, st⟩) fr) st)
  (fun c slow mid go ua T n life g d k os code pos st => slow ⟨T, n, life, g, d, k, os⟩ ⟨.pure (.again c), code, pos, st⟩) f)
 (raise := fun e slow mid go ua T n life g d k os code pos st => slow ⟨T, n, life, g, d, k, os⟩ ⟨.raise e, code, pos, st⟩)
 (unsupported := fun _ slow mid go ua T n life g d k os code pos st => none)
 (finish := fun _ slow mid go ua T n life g d k os code pos st => none)
 (rule := fun _ kk _ slow mid go ua T n life g d k os code pos st => go ⟨T, n, life, g, d, k, os⟩ ⟨kk (), code, pos, st⟩)
 («at» := fun p kk _ slow mid go ua T n life g d k os code pos st => go ⟨T, n, life, g, d, k, os⟩ ⟨kk (), code, p, st⟩)
 (load := fun a _ kk _ slow mid go ua T n life g d k os code pos st => @Bool.rec (fun _ => Option SharedT) none (@Option.rec Obj (fun _ => Option SharedT) none (fun o => @Option.rec Obj (fun _ => Option SharedT) none (fun o' => go ⟨T, n, life, g, d, k, os⟩ ⟨kk o', code, pos, st⟩) (alive o)) (getR T a)) (Nat.blt a n))
 (update := fun a _ f kk _ slow mid go ua T n life g d k os code pos st => @Bool.rec (fun _ => Option SharedT) none (@Bool.rec (fun _ => Option SharedT) none (@Option.rec Obj (fun _ => Option SharedT) none (fun o => @Option.rec Obj (fun _ => Option SharedT) none (fun _ => go ⟨setR T a f, n, life, g, d, k, os⟩ ⟨kk (), code, pos, st⟩) (alive o)) (getR T a)) (Nat.blt a n)) (ua a))
 (alloc := fun o kk _ slow mid go ua T n life g d k os code pos st => @Option.rec Obj (fun _ => Option SharedT) none (fun _ => go ⟨insR T n o, Nat.succ n, life, g, d, k, os⟩ ⟨kk n, code, pos, st⟩) (getR (insR T n o) n))
 (loadIfAlive := fun a kk _ slow mid go ua T n life g d k os code pos st => mid ⟨T, n, life, g, d, k, os⟩ ⟨.loadIfAlive a kk, code, pos, st⟩)
 (point := fun _ kk _ slow mid go ua T n life g d k os code pos st => go ⟨T, n, life, g, d, k, os⟩ ⟨kk (), code, pos, st⟩)
 (register := fun _ _ _ slow mid go ua T n life g d k os code pos st => none)
 (fresh := fun kk _ slow mid go ua T n life g d k os code pos st => go ⟨T, n, life, g, d, Nat.succ k, os⟩ ⟨kk k, code, pos, st⟩)
 (ask := fun kk _ slow mid go ua T n life g d k os code pos st => mid ⟨T, n, life, g, d, k, os⟩ ⟨.ask kk, code, pos, st⟩)
 (choose := fun _ _ _ _ slow mid go ua T n life g d k os code pos st => none)
 (os := fun _ _ _ _ slow mid go ua T n life g d k os code pos st => none)
 (call := fun c h gd l kk _ slow mid go ua T n life g d k os code pos st => mid ⟨T, n, life, g, d, k, os⟩ ⟨.call c h gd l kk, code, pos, st⟩)
 (handled := fun o kk _ slow mid go ua T n life g d k os code pos st => mid ⟨T, n, life, g, d, k, os⟩ ⟨.handled o kk, code, pos, st⟩)
 (newGen := fun c kk _ slow mid go ua T n life g d k os code pos st => mid ⟨T, n, life, g, d, k, os⟩ ⟨.newGen c kk, code, pos, st⟩)
 (genState := fun a kk _ slow mid go ua T n life g d k os code pos st => mid ⟨T, n, life, g, d, k, os⟩ ⟨.genState a kk, code, pos, st⟩)
 (resume := fun a r l kk _ slow mid go ua T n life g d k os code pos st => mid ⟨T, n, life, g, d, k, os⟩ ⟨.resume a r l kk, code, pos, st⟩)
 (yield := fun v gd l kk _ slow mid go ua T n life g d k os code pos st => slow ⟨T, n, life, g, d, k, os⟩ ⟨.yield v gd l kk, code, pos, st⟩)
 (stack := fun kk _ slow mid go ua T n life g d k os code pos st => mid ⟨T, n, life, g, d, k, os⟩ ⟨.stack kk, code, pos, st⟩)
 (fork := fun _ _ _ slow mid go ua T n life g d k os code pos st => none)
 (thread := fun kk _ slow mid go ua T n life g d k os code pos st => mid ⟨T, n, life, g, d, k, os⟩ ⟨.thread kk, code, pos, st⟩)
 (await := fun _ _ _ _ _ _ slow mid go ua T n life g d k os code pos st => none)
 c
noncomputable def midR (st : SharedT → Thread → Option (SharedT × Thread)) (go : Kt) : Kt := fun s t => @Option.rec (SharedT × Thread) (fun _ => Option SharedT) none (fun x => @Prod.rec SharedT Thread (fun _ => Option SharedT) (fun s' t' => go s' t') x) (st s t)
noncomputable def slowR (ok : Thread → Bool) (st : SharedT → Thread → Option (SharedT × Thread)) (go : Kt) : Kt := fun s t => @Bool.rec (fun _ => Option SharedT) (@Bool.rec (fun _ => Option SharedT) none (midR st go s t) (ok t)) (some s) (through t)
noncomputable def runR (ok : Thread → Bool) (st : SharedT → Thread → Option (SharedT × Thread)) (ua : Nat → Bool) : Nat → Kt := @Nat.rec (fun _ => Kt) (fun _ _ => none) fun _ ih s t =>
 @SharedT.rec (fun _ => Option SharedT) (fun T n life g d k os => @Thread.rec (fun _ => Option SharedT) (fun cur code pos stk => jmp cur (slowR ok st ih) (midR st ih) ih ua T n life g d k os code pos stk) t) s
section
variable {tb : String → Option Builtin} {p : Program} {w : World} {n₀ : Nat} {ann : Option Value} {r : SharedT}
theorem tg_step {ok : Thread → Bool} {st : SharedT → Thread → Option (SharedT × Thread)} {n : Nat} {s s2 : SharedT} {t t2 : Thread} (h1 : through t = false) (h2 : ok t = true) (h3 : st s t = some (s2, t2)) (h : topRunG ok st n s2 t2 = some r) : topRunG ok st (n + 1) s t = some r := by
 unfold topRunG
 rw [h1, h2, h3]
 exact h
noncomputable def uaR (n₀ : Nat) (ann : Option Value) (a : Nat) : Bool := Nat.ble n₀ a || a == mainNs || a == cStatics || ann == some (.ref a)
theorem mid_of {n : Nat} {s : SharedT} {t : Thread} {go : Kt} (hg : ∀ s t, go s t = some r → topRunG (stepOk n₀ ann) (stepT (denote tb) p w) n s t = some r) (h1 : through t = false) (h2 : stepOk n₀ ann t = true) (h : midR (stepT (denote tb) p w) go s t = some r) : topRunG (stepOk n₀ ann) (stepT (denote tb) p w) (n + 1) s t = some r := by
 unfold midR at h
 cases e : stepT (denote tb) p w s t with
 | none => rw [e] at h; cases h
 | some x => obtain ⟨s', t'⟩ := x; rw [e] at h; exact tg_step h1 h2 e (hg _ _ h)
theorem slow_of {n : Nat} {s : SharedT} {t : Thread} {go : Kt} (hg : ∀ s t, go s t = some r → topRunG (stepOk n₀ ann) (stepT (denote tb) p w) n s t = some r) (h : slowR (stepOk n₀ ann) (stepT (denote tb) p w) go s t = some r) : topRunG (stepOk n₀ ann) (stepT (denote tb) p w) (n + 1) s t = some r := by
 unfold slowR at h
 cases e : through t with
 | true => rw [e] at h; unfold topRunG; rw [e]; exact h
 | false =>
  rw [e] at h
  cases e2 : stepOk n₀ ann t with
  | false => rw [e2] at h; cases h
  | true => rw [e2] at h; exact mid_of hg e e2 h
theorem thr {cur : Sem Fin} {code : Code} {pos : Pos} {st : List Frame} (h : ∀ f, cur ≠ .pure (.done f)) : through ⟨cur, code, pos, st⟩ = false := by
 unfold through
 cases st with
 | cons => rfl
 | nil =>
  cases cur with
  | pure f => cases f with
   | done f => exact absurd rfl (h f)
   | again => rfl
  | _ => rfl
theorem runR_of : ∀ (n : Nat) (s : SharedT) (t : Thread), runR (stepOk n₀ ann) (stepT (denote tb) p w) (uaR n₀ ann) n s t = some r → topRunG (stepOk n₀ ann) (stepT (denote tb) p w) n s t = some r
 | 0, _, _, h => by cases h
 | n + 1, ⟨T, m, life, g, d, k, os⟩, ⟨cur, code, pos, st⟩, h => by
  have hg := fun s t => runR_of n s t
  cases cur with
  | pure f =>
   cases f with
   | done f =>
    cases st with
    | nil => exact slow_of hg h
    | cons fr rest =>
     cases fr with
     | ret => exact tg_step rfl rfl rfl (hg _ _ h)
     | gen => exact slow_of hg h
   | again c => exact slow_of hg h
  | raise e => exact slow_of hg h
  | unsupported | finish | register | choose | os | fork | await => cases h
  | rule | «at» | point | fresh => exact tg_step (thr fun f e => by cases e) rfl rfl (hg _ _ h)
  | load a q kk =>
   have h : @Bool.rec (fun _ => Option SharedT) none (@Option.rec Obj (fun _ => Option SharedT) none (fun o => @Option.rec Obj (fun _ => Option SharedT) none (fun o' => runR (stepOk n₀ ann) (stepT (denote tb) p w) (uaR n₀ ann) n ⟨T, m, life, g, d, k, os⟩ ⟨kk o', code, pos, st⟩) (alive o)) (getR T a)) (Nat.blt a m) = some r := h
   rw [getR_eq] at h
   cases e1 : Nat.blt a m with
   | false => rw [e1] at h; cases h
   | true =>
    rw [e1] at h
    cases e2 : T.get a with
    | none => rw [e2] at h; cases h
    | some o =>
     rw [e2] at h
     cases e3 : alive o with
     | none => simp only [e3] at h; cases h
     | some o' =>
      simp only [e3] at h
      refine tg_step (thr fun f e => by cases e) rfl ?_ (hg _ _ h)
      simp only [stepT, e1, e2, e3]
  | update a q f kk =>
   have h : @Bool.rec (fun _ => Option SharedT) none (@Bool.rec (fun _ => Option SharedT) none (@Option.rec Obj (fun _ => Option SharedT) none (fun o => @Option.rec Obj (fun _ => Option SharedT) none (fun _ => runR (stepOk n₀ ann) (stepT (denote tb) p w) (uaR n₀ ann) n ⟨setR T a f, m, life, g, d, k, os⟩ ⟨kk (), code, pos, st⟩) (alive o)) (getR T a)) (Nat.blt a m)) (uaR n₀ ann a) = some r := h
   rw [getR_eq, setR_eq] at h
   cases e0 : uaR n₀ ann a with
   | false => rw [e0] at h; cases h
   | true =>
    rw [e0] at h
    cases e1 : Nat.blt a m with
    | false => rw [e1] at h; cases h
    | true =>
     rw [e1] at h
     cases e2 : T.get a with
     | none => rw [e2] at h; cases h
     | some o =>
      rw [e2] at h
      cases e3 : alive o with
      | none => simp only [e3] at h; cases h
      | some o' =>
       simp only [e3] at h
       refine tg_step (thr fun f e => by cases e) e0 ?_ (hg _ _ h)
       simp only [stepT, e1, e2, e3]
  | alloc o kk =>
   have h : @Option.rec Obj (fun _ => Option SharedT) none (fun _ => runR (stepOk n₀ ann) (stepT (denote tb) p w) (uaR n₀ ann) n ⟨insR T m o, m + 1, life, g, d, k, os⟩ ⟨kk m, code, pos, st⟩) (getR (insR T m o) m) = some r := h
   rw [getR_eq, insR_eq] at h
   cases e1 : (T.ins m o).get m with
   | none => rw [e1] at h; cases h
   | some x =>
    rw [e1] at h
    refine tg_step (thr fun f e => by cases e) rfl ?_ (hg _ _ h)
    simp only [stepT, e1, Option.isSome_some]
  | «yield» => exact slow_of hg h
  | loadIfAlive | ask | call | handled | newGen | genState | resume | stack | thread => exact mid_of hg (thr fun f e => by cases e) rfl h
end
noncomputable def lookG {α β : Type} (p : Program) (seen₁ : Shared → α) (obs : SharedT → β) (h₀ : Heap) (s : SharedT) : Bool × α × β :=
 (staticsOk (importedModules p.main.body) h₀ s.abs.heap && namesBound p s.abs.heap && gensDone s.abs && laidKept h₀ s.abs.heap, seen₁ s.abs, obs s)
theorem left_oneshot {p q : Program} {loose : List Str} {Xt : Shared → Bool} {α : Type} {Yf : Shared → α} {Ya : World → α} {obs : SharedT → α} {N : Nat} {H₀ : Params → Heap} {T₀ : Params → BT} {m₀ : Nat} {life : Life} {gs₀ : Array GenState} {d₀ : Drawn} {k₀ : Nat} {ann : Option Value} {M : Nat}
 (open_ : ∀ w : World, (fencedOpening treeTable p w N).map (fun s => (s.heap, s.gens, s.drawn, s.toks)) = some (H₀ w.params, gs₀, d₀, k₀))
 (tree : ∀ P : Params, H₀ P = absHeap (T₀ P) m₀ life) (hobs : ∀ s w, obs s = Ya w → Yf s.abs = Ya w)
 (size : ∀ w : World, ((H₀ w.params).isNs mainGlobals && gs₀.size == 0, (H₀ w.params).objs.size, (H₀ w.params).nsMap mainGlobals "__annotations__") = (true, m₀, ann)) (le : Nat.ble M N = true)
 (run : ∀ (w : World) (os : OsState), (runR (stepOk m₀ ann) (stepT (denote treeTable) p w) (uaR m₀ ann) M ⟨T₀ w.params, m₀, life, gs₀, d₀, k₀, os⟩ (topStub p)).map (lookG p (openSeen q loose (importedModules p.main.body) Xt true) obs (H₀ w.params)) = some (true, openGood q loose, Ya w)) : LeftO p q loose Xt Yf Ya N := fun w => by
 obtain ⟨⟨h, gs, d, k, os⟩, e, e'⟩ := Option.map_eq_some_iff.mp (open_ w)
 obtain ⟨rfl, rfl, rfl, rfl⟩ : h = H₀ w.params ∧ gs = gs₀ ∧ d = d₀ ∧ k = k₀ := by simpa using e'
 obtain ⟨z1, z2, z3⟩ : _ ∧ _ ∧ _ := by simpa only [Prod.mk.injEq] using size w
 obtain ⟨s, hs, hl⟩ := Option.map_eq_some_iff.mp (run w os)
 obtain ⟨l1, l2⟩ := Prod.mk.inj hl
 obtain ⟨l2, l3⟩ := Prod.mk.inj l2
 have r := topRun_of (runR_of _ _ _ hs)
 rw [show (⟨T₀ w.params, m₀, life, gs, d, k, os⟩ : SharedT).abs = ⟨H₀ w.params, gs, d, k, os⟩ by rw [tree]; rfl] at r
 have r := topRun_mono (N - M) _ _ _ _ r
 rw [show M + (N - M) = N by have := Nat.le_of_ble_eq_true le; omega] at r
 have t : topFrom treeTable p w N ⟨H₀ w.params, gs, d, k, os⟩ = some s.abs := by
  unfold topFrom
  rw [z1, z2, z3, r]
  show (match staticsOk (importedModules p.main.body) (H₀ w.params) s.abs.heap && namesBound p s.abs.heap && gensDone s.abs && laidKept (H₀ w.params) s.abs.heap with | true => _ | false => _) = _
  rw [l1]
 unfold openEnds
 rw [e]
 show (topFrom treeTable p w N _).map _ = _
 rw [t]
 exact congrArg some (Prod.ext l2 (hobs _ _ l3))
noncomputable def obsT (s : SharedT) (a : Nat) : Option Obj := @Bool.rec (fun _ => Option Obj) none (@Option.rec Obj (fun _ => Option Obj) none (fun o => alive o) (getR s.tree a)) (Nat.blt a s.n)
theorem obsT_of {s : SharedT} {a : Nat} {o : Obj} (h : obsT s a = some o) : s.abs.heap.get? a = some o := by
 unfold obsT at h
 rw [getR_eq] at h
 cases e1 : Nat.blt a s.n with
 | false => rw [e1] at h; cases h
 | true =>
  rw [e1] at h
  cases e2 : s.tree.get a with
  | none => rw [e2] at h; cases h
  | some x => rw [e2] at h; exact (abs_get (Nat.le_of_ble_eq_true e1) e2).trans h
theorem obs_of {s : SharedT} : ∀ (l : List Nat) (K : Frag), l.map (obsT s) = K.map (fun p => some p.2) → l.map s.abs.heap.get? = K.map (fun p => some p.2)
 | [], [], _ => rfl
 | a :: l, x :: K, h => by
  rw [List.map_cons, List.map_cons] at h
  obtain ⟨h1, h2⟩ := List.cons.inj h
  rw [List.map_cons, List.map_cons, obs_of l K h2, obsT_of h1]
 | [], _ :: _, h => by cases h
 | _ :: _, [], h => by cases h
noncomputable def bootL (P : Params) : List Obj := [boot_o_0 P, boot_o_1 P, boot_o_2 P, boot_o_3 P, boot_o_4 P, boot_o_5 P, boot_o_6 P, boot_o_7 P, boot_o_8 P, boot_o_9 P, boot_o_10 P]
noncomputable def insAll : List Obj → Nat → BT → BT
 | [], _, t => t
 | o :: r, n, t => insAll r (n + 1) (t.ins n o)
noncomputable def bootT (P : Params) : BT := insAll (bootL P) 0 .nil
noncomputable abbrev pwL : Program := PySem.Challenge.pw_be0012_01
noncomputable def qvL : Program := { pwL with main := { pwL.main with body := pwL.main.body.drop 65 } }
noncomputable def looseL : List Str := (pwL.main.scope.names.map (·.1)).filter fun x => x != Str.ofString "law"
theorem boot_tree (P : Params) : boot_heap P = absHeap (bootT P) 11 (boot_heap P).life := by kernel_rfl
theorem boot_open_ (N : Nat) (hN : Nat.ble 600 N = true) : ∀ w : World, (fencedOpening treeTable pwL w N).map (fun s => (s.heap, s.gens, s.drawn, s.toks)) = some (boot_heap w.params, #[], boot_drawn, boot_toks) :=
 boot_open (by kernel_rfl) hN (fun s => by kernel_rfl)
theorem boot_size (w : World) : ((boot_heap w.params).isNs mainGlobals && (#[] : Array GenState).size == 0, (boot_heap w.params).objs.size, (boot_heap w.params).nsMap mainGlobals "__annotations__") = (true, 11, some (.ref 6)) := by kernel_rfl
noncomputable abbrev runAt (w : World) (os : OsState) := (runR (PySem.W.Fast.tw6613529449190102663 11 (some (.ref 6))) (PySem.W.Fast.tw10156331382660048174 (PySem.W.Fast.tw11892475500146522536 PySem.W.Fast.tw14364793385576792824) pwL w) (uaR 11 (some (.ref 6))) 14000 ⟨bootT w.params, 11, {}, #[], boot_drawn, boot_toks, os⟩ (topStub pwL)).map
 (lookG pwL (PySem.W.Fast.tw4187177175401517315 qvL looseL (PySem.W.Fast.tw5923862056798008813 pwL.main.body) (fun _ => true) true) (fun s => asKF.map (obsT s)) (boot_heap w.params))
theorem run_f (w : World) (os : OsState) : runAt (w.withFollow "special-get-raises" false) os = some (true, openGood qvL looseL, HK.val (w.withFollow "special-get-raises" false)) := by kernel_rfl
theorem run_t (w : World) (os : OsState) : runAt (w.withFollow "special-get-raises" true) os = some (true, openGood qvL looseL, HK.val (w.withFollow "special-get-raises" true)) := by kernel_rfl
theorem run_all (w : World) (os : OsState) : (runR (stepOk 11 (some (.ref 6))) (stepT (denote treeTable) pwL w) (uaR 11 (some (.ref 6))) 14000 ⟨bootT w.params, 11, {}, #[], boot_drawn, boot_toks, os⟩ (topStub pwL)).map
 (lookG pwL (openSeen qvL looseL (importedModules pwL.main.body) (fun _ => true) true) (fun s => asKF.map (obsT s)) (boot_heap w.params)) = some (true, openGood qvL looseL, HK.val w) := by
 have h : ∀ b, runAt (w.withFollow "special-get-raises" b) os = some (true, openGood qvL looseL, HK.val (w.withFollow "special-get-raises" b)) := fun b => by
  cases b
  · exact run_f w os
  · exact run_t w os
 have h := h (w.params.followText "special-get-raises")
 rw [World.withFollow_self] at h
 rw [PySem.W.Fast.te6613529449190102663, PySem.W.Fast.te10156331382660048174, PySem.W.Fast.te11892475500146522536, PySem.W.Fast.te14364793385576792824, PySem.W.Fast.te4187177175401517315, PySem.W.Fast.te5923862056798008813]
 exact h
theorem left_all : LeftO pwL qvL looseL (fun _ => true) HK.obs HK.val 14000 :=
 left_oneshot (T₀ := bootT) (life := {}) (obs := fun s => asKF.map (obsT s)) (boot_open_ 14000 (by decide)) (fun P => boot_tree P) (fun s w h => obs_of _ _ h) boot_size (by decide) run_all
set_option maxHeartbeats 2000000 in
theorem said_looks : looksOpen pwL = true := by
 rw [PySem.W.Fast.te12908688711261696721]
 delta PySem.W.Fast.tw12908688711261696721
 dsimp only
 refine look_both ?_ ?_
 · refine look_both ?_ ?_
   · refine look_both ?_ ?_
     · refine look_both ?_ ?_
       · kernel_rfl
       · decide +kernel
     · kernel_rfl
   · decide +kernel
 · decide +kernel
theorem said_part : PySem.Challenge.rw_be0012_01.row.partSaid = true := by
 have h := said_looks
 rw [PySem.W.Fast.te12908688711261696721] at h
 rw [PySem.W.Fast.te2436336058641802641]
 delta PySem.W.Fast.tw2436336058641802641
 rw [show PySem.W.Fast.tw12908688711261696721 PySem.Challenge.rw_be0012_01.row.prog = true from h]
 decide +kernel
theorem said_row : PySem.Challenge.rw_be0012_01.row.wellSaid = true := by
 have h := said_part
 rw [PySem.W.Fast.te2436336058641802641] at h
 rw [PySem.W.Fast.te17960256430627541270]
 delta PySem.W.Fast.tw17960256430627541270
 rw [h]
 decide +kernel
theorem said_all : PySem.Challenge.rw_be0012_01.wellSaid = true := by
 have h := said_row
 rw [PySem.W.Fast.te17960256430627541270, PySem.W.Fast.te2368527892694137696] at h
 rw [PySem.W.Fast.te9446332074065402090]
 delta PySem.W.Fast.tw9446332074065402090
 rw [h]
 decide +kernel
noncomputable def dL : DefRec := ⟨n_law, fp1 65, fb1 65, fs1 65, { line := 988, col := 0, endLine := 1022, endCol := 165 }⟩
theorem d_of : defOf qvL PySem.Challenge.rw_be0012_01.row.name = some (dL, []) := by kernel_rfl
theorem d_the : PySem.Challenge.rw_be0012_01.row.prog.theDef PySem.Challenge.rw_be0012_01.row.name = some (dL.params, dL.body, dL.scope) := by kernel_rfl
theorem d_kw : kwWritten? dL.params.kwonlyargs dL.params.kw_defaults = some [] := by kernel_rfl
theorem d_ok : (chainsOk qvL && opensWell PySem.Challenge.rw_be0012_01.row.prog && (frees PySem.Challenge.rw_be0012_01.row.toRowW && PySem.Challenge.rw_be0012_01.row.within.isEmpty)) = true := by kernel_rfl
theorem d_prom : PySem.Challenge.rw_be0012_01.row.toRowW.promised := by w_witness2
variable (P : Params)
theorem cm_Sha256 : makesIn (KF P) 58 = true := by kernel_rfl
theorem ci_Sha256 : findIn (KF P) (.ref 58) "__init__" = some (some (.ref 41)) := by kernel_rfl
theorem cg_Sha256 (x : Str) : plainGet (KF P) 58 x = true := by kernel_rfl
theorem ch_Sha256 : hasDictIn (KF P) 58 = true := by kernel_rfl
theorem cs_Sha256 : findIn (KF P) (.ref 58) "__setattr__" = some (some (.builtin "object.__setattr__")) := by kernel_rfl
theorem cp_Sha256 : plainOver (KF P) 58 = true := by kernel_rfl
theorem ff_Sha256_data : findIn (KF P) (.ref 58) "data" = some none := by kernel_rfl
theorem ft_Sha256_data : takerIn (KF P) 58 "data" = some none := by kernel_rfl
theorem fm_Sha256_digest : findIn (KF P) (.ref 58) "digest" = some (some (.ref 55)) := by kernel_rfl
theorem cm_Sha512 : makesIn (KF P) 79 = true := by kernel_rfl
theorem ci_Sha512 : findIn (KF P) (.ref 79) "__init__" = some (some (.ref 41)) := by kernel_rfl
theorem cg_Sha512 (x : Str) : plainGet (KF P) 79 x = true := by kernel_rfl
theorem ch_Sha512 : hasDictIn (KF P) 79 = true := by kernel_rfl
theorem cs_Sha512 : findIn (KF P) (.ref 79) "__setattr__" = some (some (.builtin "object.__setattr__")) := by kernel_rfl
theorem cp_Sha512 : plainOver (KF P) 79 = true := by kernel_rfl
theorem ff_Sha512_data : findIn (KF P) (.ref 79) "data" = some none := by kernel_rfl
theorem ft_Sha512_data : takerIn (KF P) 79 "data" = some none := by kernel_rfl
theorem fm_Sha512_digest : findIn (KF P) (.ref 79) "digest" = some (some (.ref 76)) := by kernel_rfl
theorem cg_BytesIO (x : Str) : plainGet (KF P) 573 x = true := by kernel_rfl
theorem ch_BytesIO : hasDictIn (KF P) 573 = true := by kernel_rfl
theorem cs_BytesIO : findIn (KF P) (.ref 573) "__setattr__" = some (some (.builtin "object.__setattr__")) := by kernel_rfl
theorem cp_BytesIO : plainOver (KF P) 573 = true := by kernel_rfl
theorem ff_BytesIO_BytesIO__buf : findIn (KF P) (.ref 573) "_BytesIO__buf" = some none := by kernel_rfl
theorem ft_BytesIO_BytesIO__buf : takerIn (KF P) 573 "_BytesIO__buf" = some none := by kernel_rfl
theorem ff_BytesIO_BytesIO__pos : findIn (KF P) (.ref 573) "_BytesIO__pos" = some none := by kernel_rfl
theorem ft_BytesIO_BytesIO__pos : takerIn (KF P) 573 "_BytesIO__pos" = some none := by kernel_rfl
theorem fm_BytesIO_BytesIO__check : findIn (KF P) (.ref 573) "_BytesIO__check" = some (some (.ref 367)) := by kernel_rfl
theorem fm_BytesIO_getvalue : findIn (KF P) (.ref 573) "getvalue" = some (some (.ref 459)) := by kernel_rfl
theorem fm_BytesIO_read : findIn (KF P) (.ref 573) "read" = some (some (.ref 497)) := by kernel_rfl
theorem fm_BytesIO_write : findIn (KF P) (.ref 573) "write" = some (some (.ref 556)) := by kernel_rfl
theorem cm_PublicKey : makesIn (KF P) 1130 = true := by kernel_rfl
theorem ci_PublicKey : findIn (KF P) (.ref 1130) "__init__" = some (some (.ref 997)) := by kernel_rfl
theorem cg_PublicKey (x : Str) : plainGet (KF P) 1130 x = true := by kernel_rfl
theorem ch_PublicKey : hasDictIn (KF P) 1130 = true := by kernel_rfl
theorem cs_PublicKey : findIn (KF P) (.ref 1130) "__setattr__" = some (some (.builtin "object.__setattr__")) := by kernel_rfl
theorem cp_PublicKey : plainOver (KF P) 1130 = true := by kernel_rfl
theorem ff_PublicKey_point : findIn (KF P) (.ref 1130) "_point" = some none := by kernel_rfl
theorem ft_PublicKey_point : takerIn (KF P) 1130 "_point" = some none := by kernel_rfl
theorem ff_PublicKey_compressed : findIn (KF P) (.ref 1130) "compressed" = some none := by kernel_rfl
theorem ft_PublicKey_compressed : takerIn (KF P) 1130 "compressed" = some none := by kernel_rfl
theorem fm_PublicKey_sec : findIn (KF P) (.ref 1130) "sec" = some (some (.ref 1014)) := by kernel_rfl
theorem fm_PublicKey_write_to : findIn (KF P) (.ref 1130) "write_to" = some (some (.ref 1036)) := by kernel_rfl
theorem fm_PublicKey_serialize : findIn (KF P) (.ref 1130) "serialize" = some (some (.ref 1043)) := by kernel_rfl
theorem fp_PublicKey_is_private : findIn (KF P) (.ref 1130) "is_private" = some (some (.ref 1092)) := by kernel_rfl
theorem cm_PrivateKey : makesIn (KF P) 1284 = true := by kernel_rfl
theorem ci_PrivateKey : findIn (KF P) (.ref 1284) "__init__" = some (some (.ref 1147)) := by kernel_rfl
theorem cg_PrivateKey (x : Str) : plainGet (KF P) 1284 x = true := by kernel_rfl
theorem ch_PrivateKey : hasDictIn (KF P) 1284 = true := by kernel_rfl
theorem cs_PrivateKey : findIn (KF P) (.ref 1284) "__setattr__" = some (some (.builtin "object.__setattr__")) := by kernel_rfl
theorem cp_PrivateKey : plainOver (KF P) 1284 = true := by kernel_rfl
theorem ff_PrivateKey_compressed : findIn (KF P) (.ref 1284) "compressed" = some none := by kernel_rfl
theorem ft_PrivateKey_compressed : takerIn (KF P) 1284 "compressed" = some none := by kernel_rfl
theorem ff_PrivateKey_secret : findIn (KF P) (.ref 1284) "_secret" = some none := by kernel_rfl
theorem ft_PrivateKey_secret : takerIn (KF P) 1284 "_secret" = some none := by kernel_rfl
theorem ff_PrivateKey_network : findIn (KF P) (.ref 1284) "network" = some none := by kernel_rfl
theorem ft_PrivateKey_network : takerIn (KF P) 1284 "network" = some none := by kernel_rfl
theorem fm_PrivateKey_sec : findIn (KF P) (.ref 1284) "sec" = some (some (.ref 1170)) := by kernel_rfl
theorem fm_PrivateKey_get_public_key : findIn (KF P) (.ref 1284) "get_public_key" = some (some (.ref 1220)) := by kernel_rfl
theorem fm_PrivateKey_write_to : findIn (KF P) (.ref 1284) "write_to" = some (some (.ref 1263)) := by kernel_rfl
theorem fm_PrivateKey_serialize : findIn (KF P) (.ref 1284) "serialize" = some (some (.ref 863)) := by kernel_rfl
theorem fp_PrivateKey_is_private : findIn (KF P) (.ref 1284) "is_private" = some (some (.ref 1281)) := by kernel_rfl
theorem fp_PrivateKey_secret : findIn (KF P) (.ref 1284) "secret" = some (some (.ref 1163)) := by kernel_rfl
theorem cm_HDKey : makesIn (KF P) 1499 = true := by kernel_rfl
theorem ci_HDKey : findIn (KF P) (.ref 1499) "__init__" = some (some (.ref 1313)) := by kernel_rfl
theorem cg_HDKey (x : Str) : plainGet (KF P) 1499 x = true := by kernel_rfl
theorem ch_HDKey : hasDictIn (KF P) 1499 = true := by kernel_rfl
theorem cs_HDKey : findIn (KF P) (.ref 1499) "__setattr__" = some (some (.builtin "object.__setattr__")) := by kernel_rfl
theorem cp_HDKey : plainOver (KF P) 1499 = true := by kernel_rfl
theorem ff_HDKey_key : findIn (KF P) (.ref 1499) "key" = some none := by kernel_rfl
theorem ft_HDKey_key : takerIn (KF P) 1499 "key" = some none := by kernel_rfl
theorem ff_HDKey_version : findIn (KF P) (.ref 1499) "version" = some none := by kernel_rfl
theorem ft_HDKey_version : takerIn (KF P) 1499 "version" = some none := by kernel_rfl
theorem ff_HDKey_chain_code : findIn (KF P) (.ref 1499) "chain_code" = some none := by kernel_rfl
theorem ft_HDKey_chain_code : takerIn (KF P) 1499 "chain_code" = some none := by kernel_rfl
theorem ff_HDKey_depth : findIn (KF P) (.ref 1499) "depth" = some none := by kernel_rfl
theorem ft_HDKey_depth : takerIn (KF P) 1499 "depth" = some none := by kernel_rfl
theorem ff_HDKey_fingerprint : findIn (KF P) (.ref 1499) "fingerprint" = some none := by kernel_rfl
theorem ft_HDKey_fingerprint : takerIn (KF P) 1499 "fingerprint" = some none := by kernel_rfl
theorem ff_HDKey_my_fingerprint : findIn (KF P) (.ref 1499) "_my_fingerprint" = some none := by kernel_rfl
theorem ft_HDKey_my_fingerprint : takerIn (KF P) 1499 "_my_fingerprint" = some none := by kernel_rfl
theorem ff_HDKey_child_number : findIn (KF P) (.ref 1499) "child_number" = some none := by kernel_rfl
theorem ft_HDKey_child_number : takerIn (KF P) 1499 "child_number" = some none := by kernel_rfl
theorem fm_HDKey_serialize : findIn (KF P) (.ref 1499) "serialize" = some (some (.ref 863)) := by kernel_rfl
theorem fm_HDKey_write_to : findIn (KF P) (.ref 1499) "write_to" = some (some (.ref 1366)) := by kernel_rfl
theorem fm_HDKey_to_base58 : findIn (KF P) (.ref 1499) "to_base58" = some (some (.ref 1374)) := by kernel_rfl
theorem fm_HDKey_to_public : findIn (KF P) (.ref 1499) "to_public" = some (some (.ref 1410)) := by kernel_rfl
theorem fm_HDKey_sec : findIn (KF P) (.ref 1499) "sec" = some (some (.ref 1424)) := by kernel_rfl
theorem fm_HDKey_child : findIn (KF P) (.ref 1499) "child" = some (some (.ref 1447)) := by kernel_rfl
theorem fm_HDKey_derive : findIn (KF P) (.ref 1499) "derive" = some (some (.ref 1454)) := by kernel_rfl
theorem fm_HDKey_eq : findIn (KF P) (.ref 1499) "__eq__" = some (some (.ref 1489)) := by kernel_rfl
theorem fp_HDKey_is_private : findIn (KF P) (.ref 1499) "is_private" = some (some (.ref 1350)) := by kernel_rfl
theorem fp_HDKey_secret : findIn (KF P) (.ref 1499) "secret" = some (some (.ref 1358)) := by kernel_rfl
theorem fp_HDKey_my_fingerprint : findIn (KF P) (.ref 1499) "my_fingerprint" = some (some (.ref 1342)) := by kernel_rfl
theorem pn_1092 : specialIn (KF P) (.ref 1092) "__get__" = some (some (.builtin "property.__get__")) := by kernel_rfl
theorem pt_1092 : takesIn (KF P) (.ref 1092) = some true := by kernel_rfl
theorem pn_1163 : specialIn (KF P) (.ref 1163) "__get__" = some (some (.builtin "property.__get__")) := by kernel_rfl
theorem pt_1163 : takesIn (KF P) (.ref 1163) = some true := by kernel_rfl
theorem pn_1281 : specialIn (KF P) (.ref 1281) "__get__" = some (some (.builtin "property.__get__")) := by kernel_rfl
theorem pt_1281 : takesIn (KF P) (.ref 1281) = some true := by kernel_rfl
theorem pn_1342 : specialIn (KF P) (.ref 1342) "__get__" = some (some (.builtin "property.__get__")) := by kernel_rfl
theorem pt_1342 : takesIn (KF P) (.ref 1342) = some true := by kernel_rfl
theorem pn_1350 : specialIn (KF P) (.ref 1350) "__get__" = some (some (.builtin "property.__get__")) := by kernel_rfl
theorem pt_1350 : takesIn (KF P) (.ref 1350) = some true := by kernel_rfl
theorem pn_1358 : specialIn (KF P) (.ref 1358) "__get__" = some (some (.builtin "property.__get__")) := by kernel_rfl
theorem pt_1358 : takesIn (KF P) (.ref 1358) = some true := by kernel_rfl
theorem fn_41 : isFn (KF P) (.ref 41) = true := by kernel_rfl
theorem fn_55 : isFn (KF P) (.ref 55) = true := by kernel_rfl
theorem fn_76 : isFn (KF P) (.ref 76) = true := by kernel_rfl
theorem fn_367 : isFn (KF P) (.ref 367) = true := by kernel_rfl
theorem fn_459 : isFn (KF P) (.ref 459) = true := by kernel_rfl
theorem fn_497 : isFn (KF P) (.ref 497) = true := by kernel_rfl
theorem fn_556 : isFn (KF P) (.ref 556) = true := by kernel_rfl
theorem fn_863 : isFn (KF P) (.ref 863) = true := by kernel_rfl
theorem fn_997 : isFn (KF P) (.ref 997) = true := by kernel_rfl
theorem fn_1014 : isFn (KF P) (.ref 1014) = true := by kernel_rfl
theorem fn_1036 : isFn (KF P) (.ref 1036) = true := by kernel_rfl
theorem fn_1043 : isFn (KF P) (.ref 1043) = true := by kernel_rfl
theorem fn_1147 : isFn (KF P) (.ref 1147) = true := by kernel_rfl
theorem fn_1170 : isFn (KF P) (.ref 1170) = true := by kernel_rfl
theorem fn_1220 : isFn (KF P) (.ref 1220) = true := by kernel_rfl
theorem fn_1263 : isFn (KF P) (.ref 1263) = true := by kernel_rfl
theorem fn_1313 : isFn (KF P) (.ref 1313) = true := by kernel_rfl
theorem fn_1366 : isFn (KF P) (.ref 1366) = true := by kernel_rfl
theorem fn_1374 : isFn (KF P) (.ref 1374) = true := by kernel_rfl
theorem fn_1410 : isFn (KF P) (.ref 1410) = true := by kernel_rfl
theorem fn_1424 : isFn (KF P) (.ref 1424) = true := by kernel_rfl
theorem fn_1447 : isFn (KF P) (.ref 1447) = true := by kernel_rfl
theorem fn_1454 : isFn (KF P) (.ref 1454) = true := by kernel_rfl
theorem fn_1489 : isFn (KF P) (.ref 1489) = true := by kernel_rfl
theorem kp_41 : Kp (KF P) (.ref 41) := kp_K (by kernel_rfl)
theorem kp_55 : Kp (KF P) (.ref 55) := kp_K (by kernel_rfl)
theorem kp_76 : Kp (KF P) (.ref 76) := kp_K (by kernel_rfl)
theorem kp_367 : Kp (KF P) (.ref 367) := kp_K (by kernel_rfl)
theorem kp_459 : Kp (KF P) (.ref 459) := kp_K (by kernel_rfl)
theorem kp_497 : Kp (KF P) (.ref 497) := kp_K (by kernel_rfl)
theorem kp_556 : Kp (KF P) (.ref 556) := kp_K (by kernel_rfl)
theorem kp_863 : Kp (KF P) (.ref 863) := kp_K (by kernel_rfl)
theorem kp_997 : Kp (KF P) (.ref 997) := kp_K (by kernel_rfl)
theorem kp_1014 : Kp (KF P) (.ref 1014) := kp_K (by kernel_rfl)
theorem kp_1036 : Kp (KF P) (.ref 1036) := kp_K (by kernel_rfl)
theorem kp_1043 : Kp (KF P) (.ref 1043) := kp_K (by kernel_rfl)
theorem kp_1147 : Kp (KF P) (.ref 1147) := kp_K (by kernel_rfl)
theorem kp_1170 : Kp (KF P) (.ref 1170) := kp_K (by kernel_rfl)
theorem kp_1220 : Kp (KF P) (.ref 1220) := kp_K (by kernel_rfl)
theorem kp_1263 : Kp (KF P) (.ref 1263) := kp_K (by kernel_rfl)
theorem kp_1313 : Kp (KF P) (.ref 1313) := kp_K (by kernel_rfl)
theorem kp_1366 : Kp (KF P) (.ref 1366) := kp_K (by kernel_rfl)
theorem kp_1374 : Kp (KF P) (.ref 1374) := kp_K (by kernel_rfl)
theorem kp_1410 : Kp (KF P) (.ref 1410) := kp_K (by kernel_rfl)
theorem kp_1424 : Kp (KF P) (.ref 1424) := kp_K (by kernel_rfl)
theorem kp_1447 : Kp (KF P) (.ref 1447) := kp_K (by kernel_rfl)
theorem kp_1454 : Kp (KF P) (.ref 1454) := kp_K (by kernel_rfl)
theorem kp_1489 : Kp (KF P) (.ref 1489) := kp_K (by kernel_rfl)
theorem sg_hashlib : specialIn (KF P) (.ref 112) "__getattribute__" = some (some (.builtin "type.__getattribute__")) := by kernel_rfl
theorem sm_hashlib : typeIn (KF P) (.ref 112) = some (.type "type") := by kernel_rfl
theorem sr_hashlib : readsIn (KF P) 112 (.type "type") = true := by kernel_rfl
theorem sf_hashlib : findCls (KF P) (.ref 112) (.type "type") "sha256" = some (.get (.builtin "staticmethod.__get__") (.ref 98) .none (.ref 112)) := by kernel_rfl
theorem sp_hashlib : recIn (KF P) 98 "staticmethod" = some [.ref 96, .bool false] := by kernel_rfl
theorem kp_96 : Kp (KF P) (.ref 96) := kp_K (by kernel_rfl)
theorem sg_hmac : specialIn (KF P) (.ref 137) "__getattribute__" = some (some (.builtin "type.__getattribute__")) := by kernel_rfl
theorem sm_hmac : typeIn (KF P) (.ref 137) = some (.type "type") := by kernel_rfl
theorem sr_hmac : readsIn (KF P) 137 (.type "type") = true := by kernel_rfl
theorem sf_hmac : findCls (KF P) (.ref 137) (.type "type") "new" = some (.get (.builtin "staticmethod.__get__") (.ref 133) .none (.ref 137)) := by kernel_rfl
theorem sp_hmac : recIn (KF P) 133 "staticmethod" = some [.ref 131, .bool false] := by kernel_rfl
theorem kp_131 : Kp (KF P) (.ref 131) := kp_K (by kernel_rfl)
theorem sg_PrivateKey : specialIn (KF P) (.ref 1284) "__getattribute__" = some (some (.builtin "type.__getattribute__")) := by kernel_rfl
theorem sm_PrivateKey : typeIn (KF P) (.ref 1284) = some (.type "type") := by kernel_rfl
theorem sr_PrivateKey : readsIn (KF P) 1284 (.type "type") = true := by kernel_rfl
theorem sf_PrivateKey_parse : findCls (KF P) (.ref 1284) (.type "type") "parse" = some (.get (.builtin "classmethod.__get__") (.ref 848) .none (.ref 1284)) := by kernel_rfl
theorem sg_PublicKey : specialIn (KF P) (.ref 1130) "__getattribute__" = some (some (.builtin "type.__getattribute__")) := by kernel_rfl
theorem sm_PublicKey : typeIn (KF P) (.ref 1130) = some (.type "type") := by kernel_rfl
theorem sr_PublicKey : readsIn (KF P) 1130 (.type "type") = true := by kernel_rfl
theorem sf_PublicKey_parse : findCls (KF P) (.ref 1130) (.type "type") "parse" = some (.get (.builtin "classmethod.__get__") (.ref 848) .none (.ref 1130)) := by kernel_rfl
theorem sg_HDKey : specialIn (KF P) (.ref 1499) "__getattribute__" = some (some (.builtin "type.__getattribute__")) := by kernel_rfl
theorem sm_HDKey : typeIn (KF P) (.ref 1499) = some (.type "type") := by kernel_rfl
theorem sr_HDKey : readsIn (KF P) 1499 (.type "type") = true := by kernel_rfl
theorem sf_HDKey_parse : findCls (KF P) (.ref 1499) (.type "type") "parse" = some (.get (.builtin "classmethod.__get__") (.ref 848) .none (.ref 1499)) := by kernel_rfl
theorem sf_HDKey_from_base58 : findCls (KF P) (.ref 1499) (.type "type") "from_base58" = some (.get (.builtin "classmethod.__get__") (.ref 1333) .none (.ref 1499)) := by kernel_rfl
theorem sf_PrivateKey_read_from : findCls (KF P) (.ref 1284) (.type "type") "read_from" = some (.get (.builtin "classmethod.__get__") (.ref 1272) .none (.ref 1284)) := by kernel_rfl
theorem sf_PublicKey_read_from : findCls (KF P) (.ref 1130) (.type "type") "read_from" = some (.get (.builtin "classmethod.__get__") (.ref 1006) .none (.ref 1130)) := by kernel_rfl
theorem sf_HDKey_read_from : findCls (KF P) (.ref 1499) (.type "type") "read_from" = some (.get (.builtin "classmethod.__get__") (.ref 1401) .none (.ref 1499)) := by kernel_rfl
theorem sp_848 : recIn (KF P) 848 "classmethod" = some [.ref 846, .bool false] := by kernel_rfl
theorem sp_1333 : recIn (KF P) 1333 "classmethod" = some [.ref 1331, .bool false] := by kernel_rfl
theorem sp_1272 : recIn (KF P) 1272 "classmethod" = some [.ref 1270, .bool false] := by kernel_rfl
theorem sp_1006 : recIn (KF P) 1006 "classmethod" = some [.ref 1004, .bool false] := by kernel_rfl
theorem sp_1401 : recIn (KF P) 1401 "classmethod" = some [.ref 1399, .bool false] := by kernel_rfl
section
open PySem.Builtin.Int (intBits)
noncomputable def num (b : List UInt8) : Nat := b.foldl (fun a c => a * 256 + c.toNat) 0
noncomputable def le : Nat → Nat → List UInt8
 | 0, _ => []
 | n + 1, x => UInt8.ofNat (x % 256) :: le n (x / 256)
noncomputable def be (n x : Nat) : List UInt8 := (le n x).reverse
theorem le_length : ∀ n x, (le n x).length = n
 | 0, _ => rfl
 | n + 1, x => by rw [le, List.length_cons, le_length n]
theorem be_length (n x : Nat) : (be n x).length = n := by rw [be, List.length_reverse, le_length]
theorem le_get : ∀ (n x i : Nat) (h : i < (le n x).length), (le n x)[i] = UInt8.ofNat (x / 256 ^ i % 256)
 | n + 1, x, 0, _ => by simp [le]
 | n + 1, x, i + 1, h => by
  have := le_get n (x / 256) i (by simpa [le] using h)
  simp only [le, List.getElem_cons_succ, this, Nat.div_div_eq_div_mul, Nat.pow_succ, Nat.mul_comm]
section
variable {α : Type} {prog : Program} {w : World} {M : Model} {A : Around} {g : Heap} {L a : Addr} {m : Loc} {N : Led} {K : Frag} {cn : Str} {cs : Scope} {ccd : Value} {cl : List (Str × Addr)} {env : Env}
theorem wp_not {E : Value → Shared → Prop} {s : Shared} {c : Bool} {a b : Sem α} {Q : α → Shared → Prop} (hc : c = false) (h : wpAny M A b Q E s) : wpAny M A (if c = true then a else b) Q E s := by subst hc; exact h
theorem wp_so {E : Value → Shared → Prop} {s : Shared} {c : Bool} {a b : Sem α} {Q : α → Shared → Prop} (hc : c = true) (h : wpAny M A a Q E s) : wpAny M A (if c = true then a else b) Q E s := by subst hc; exact h
theorem low_is {x k : Nat} (hx : x < 256 ^ k) : KTBy.low (x : Int) k = le k x := by
 have h := KTBy.low_ints (x := (x : Int)) (n := k) (by omega) (by rw [KTBy.p256]; exact Int.ofNat_lt.mpr hx)
 refine List.ext_getElem (by rw [KTBy.low_length, le_length]) fun i h1 h2 => ?_
 rw [le_get]
 have e : ((KTBy.low (x : Int) k).map (fun c => ((c.toNat : Nat) : Int)))[i]'(by simpa using h1) = ((List.range k).map fun i => (x : Int) / 256 ^ i % 256)[i]'(by rw [KTBy.low_length] at h1; simpa using h1) := by
  simp only [h]
 rw [List.getElem_map, List.getElem_map, List.getElem_range, KTBy.p256] at e
 have e' : ((KTBy.low (x : Int) k)[i]).toNat = x / 256 ^ i % 256 := by exact_mod_cast e
 rw [← e', UInt8.ofNat_toNat]
theorem call_to_bytes {x k : Nat} {t u v : Tok} {Q : Value → Shared → Prop} {E : Value → Shared → Prop} {s : Shared} (hk : k ≤ 1000) (hx : x < 256 ^ k) (h : Q (.bytes (be k x).toArray s.toks) { s with toks := s.toks + 1 }) :
 wpAny (model prog w) A (call (.builtin "int.to_bytes") [.int (x : Int) t, .int (k : Int) u, .str (Str.ofString "big") v]) Q E s := by
 have hb : intBits (x : Int) ≤ 8 * k := KTBy.bits_le (k := k) rfl (by omega) (by rw [KTBy.p256]; exact Int.ofNat_lt.mpr hx)
 refine wpAny_call_entry KTBy.slot (typeIs_int s x t) KTBy.entry ?_ (KTBy.args _ _ _)
 show wpAny _ _ (Builtin.Int.intOfSelf (.int x t) >>= fun y => _) _ _ s
 refine wpAny_bind (wpAny_of_eq (a := (x : Int)) rfl ?_)
 show wpAny _ _ (Builtin.Int.intBindNamed "to_bytes" ["length", "byteorder", "signed"] 0 2 [.int (k : Int) u, .str (Str.ofString "big") v] [] >>= fun l => _) _ _ s
 refine wpAny_bind (wpAny_of_eq (a := [some (.int (k : Int) u), some (.str (Str.ofString "big") v), none]) (by kernel_rfl) ?_)
 show wpAny _ _ (Builtin.Int.intIndex "int.to_bytes" (.int (k : Int) u) >>= fun n => _) _ _ s
 refine wpAny_bind (wpAny_of_eq (a := (k : Int)) rfl ?_)
 refine wp_not (by show (decide ((k : Int) < -(2 ^ 63 : Int)) || decide ((k : Int) ≥ 2 ^ 63)) = false; rw [Bool.or_eq_false_iff]; exact ⟨decide_eq_false (by omega), decide_eq_false (by omega)⟩) ?_
 refine wpAny_bind (wpAny_of_eq (a := Str.ofString "big") (by kernel_rfl) ?_)
 refine wpAny_bind (wpAny_of_eq (a := false) rfl ?_)
 refine wpAny_bind (wpAny_of_eq (a := false) (by kernel_rfl) ?_)
 refine wpAny_ite_false (decide_eq_false (show ¬ ((k : Int) < 0) by omega)) ?_
 refine wpAny_ite_false (decide_eq_false (show ¬ ((k : Int) > 2 ^ 63 - 1 - 33) by omega)) ?_
 refine wpAny_ite_false (decide_eq_false (show ¬ ((k : Int) > (sizeLine : Int)) by rw [sizeLine_eq]; omega)) ?_
 refine wp_not (by show (decide ((x : Int) < 0) && !false) = false; rw [decide_eq_false (show ¬ (x : Int) < 0 by omega)]; rfl) ?_
 refine wp_not (by show (_ && decide ((intBits (x : Int) : Int) > 8 * (k : Int))) = false; rw [decide_eq_false (show ¬ ((intBits (x : Int) : Int) > 8 * (k : Int)) by omega), Bool.and_false]) ?_
 have e : List.toArray (List.reverse (KTBy.low (x : Int) (Int.toNat (k : Int)))) = (be k x).toArray := by rw [Int.toNat_natCast, low_is hx, be]
 refine wpAny_bind (wpAny_mkBytes (b := List.toArray (List.reverse (KTBy.low (x : Int) (Int.toNat (k : Int))))) (wpAny_pure ⟨_, rfl, by rw [e]; exact h⟩) (by rw [e, List.size_toArray, be_length, sizeLine_eq]; omega))
theorem num_lt (b : List UInt8) : num b < 256 ^ b.length := by
 have := KFB.fold_lt b 0
 simpa [num] using this
theorem wp_grown {n : Nat} {k : Nat} {Q : Value → Shared → Prop} {E : Value → Shared → Prop} {s : Shared} (hn : n < 2 ^ k) (hk : k ≤ 100000) (h : Q (.int (n : Int) s.toks) { s with toks := s.toks + 1 }) : wpAny M A (mkIntGrown (n : Int)) Q E s := by
 unfold mkIntGrown
 rw [if_neg]
 · exact wpAny_mkInt h
 · rw [Int.natAbs_natCast]
   have hb : bitsLine = 134217728 := by decide
   by_cases hz : n = 0
   · subst hz; rw [hb]; decide
   · have h1 := (Nat.log2_lt hz).mpr hn
     omega
theorem tree_from {b : Array UInt8} {t u : Tok} {P : Fin → Shared → Prop} {E : Value → Shared → Prop} {s : Shared} (hl : b.size ≤ 1000) (h : P (.done (.ret (.int (num b.toList : Int) s.toks))) { s with toks := s.toks + 1 }) :
 wpAny M A (Builtin.«int.from_bytes» ⟨[.type "int", .bytes b t, .str (Str.ofString "big") u], []⟩) P E s := by
 have hn : num b.toList < 2 ^ (8 * 1000) := by
  have h1 := num_lt b.toList
  rw [Array.length_toList] at h1
  have e2 : (2 : Nat) ^ 8 = 256 := by decide
  rw [Nat.pow_mul, e2]
  exact Nat.lt_of_lt_of_le h1 (Nat.pow_le_pow_right (by decide) hl)
 unfold Builtin.«int.from_bytes»
 refine wpAny_bind (wpAny_of_eq (a := true) KFB.type_int ?_)
 refine wp_not rfl ?_
 refine wpAny_bind (wpAny_of_eq (a := true) F.conv_sub_int ?_)
 refine wp_not rfl ?_
 refine wpAny_bind (wpAny_of_eq (a := [some (.bytes b t), some (.str (Str.ofString "big") u), none]) (by kernel_rfl) ?_)
 refine wpAny_bind (wpAny_of_eq (a := Str.ofString "big") (by kernel_rfl) ?_)
 refine wpAny_bind (wpAny_of_eq (a := false) rfl ?_)
 refine wpAny_bind (wpAny_of_eq (a := false) (by kernel_rfl) ?_)
 refine wpAny_bind (wpAny_of_eq (a := b) rfl ?_)
 show wpAny _ _ (mkIntGrown (b.toList.foldl (fun (acc : Int) (b : UInt8) => acc * 256 + (b.toNat : Int)) ((0 : Nat) : Int)) >>= fun v => _) _ _ _
 rw [KFB.foldI_eq]
 refine wpAny_bind (wp_grown hn (by omega) ?_)
 refine wp_so (by decide +kernel) ?_
 exact wpAny_bind (wpAny_pure (wpAny_pure h))
theorem ev_MCall {o : Expr} {name : Str} {apos p : Pos} {args : List Expr} {pl : Sem Bool} {Po : Value → Led → Prop} {PM : Value → (Value × List Value) → Led → Prop} {P : Value → Led → Prop} (ho : Ev M A g L m N (eval o env) Po)
 (hm : ∀ ov N1, Po ov N1 → Ev M A g L m N1 (getMethod ov name pl) (PM ov))
 (hc : ∀ ov f first N2, PM ov (f, first) N2 → Ev M A g L m N2 (callWith p f first (backTo p (starEach args env)) []) P)
 (he : eval (.Call (.Attribute o name apos) args [] p) env = (do
  let ov ← eval o env
  standAt apos.atName
  let (f, first) ← holding [ov] (getMethod ov name pl)
  callWith p f first (backTo p (starEach args env)) []) := by rfl) : Ev M A g L m N (eval (.Call (.Attribute o name apos) args [] p) env) P := by
 rw [he]
 exact ev_bind ho fun ov N1 p1 => ev_at (ev_bind (ev_holding (hm ov N1 p1)) fun fx N2 p2 => hc ov fx.1 fx.2 N2 p2)
theorem ev_weaken {t : Sem α} {P R : α → Led → Prop} (h : Ev M A g L m N t P) (k : ∀ v N', P v N' → ∃ N2, N2.Sublist N' ∧ R v N2) : Ev M A g L m N t R := fun s Q E W q =>
 h s Q E W fun v h' tk' N' p W' => by
  obtain ⟨N2, hs, r⟩ := k v N' p
  exact q v h' tk' N2 r ⟨W'.fr, fun x hx => W'.nw x (hs.subset hx), (hs.map _).nodup W'.nd⟩
theorem nodup_push {h : Heap} (W : Wf g L h m N) {x : Addr} {h' : Heap} {o : Obj} (l : ∀ p ∈ N, p.1 < x) (F : Fr g L h' (lk m)) (n : News g L h' ((x, o) :: N)) : Wf g L h' m ((x, o) :: N) :=
 ⟨F, n, by
  rw [List.map_cons, List.nodup_cons]
  refine ⟨fun q => ?_, W.nd⟩
  obtain ⟨p, hp, e⟩ := List.mem_map.mp q
  exact Nat.lt_irrefl _ (e ▸ l p hp)⟩
theorem ev_from {e1 e2 : Expr} {p1 apos p : Pos} {b : List UInt8} (B : Bs K g) (hI : nsIn K mainGlobals "int" = some none) (hF : findCls K (.type "int") (.type "type") (Str.ofString "from_bytes") = some (.get (.builtin "classmethod_descriptor.__get__") (.builtin "int.from_bytes") .none (.type "int")))
 (h1 : ∀ N, EvP (model prog w) A g L m N (eval e1 (envX cn cs L a ccd cl)) (IsB b)) (h2 : ∀ N, EvP (model prog w) A g L m N (eval e2 (envX cn cs L a ccd cl)) (IsS "big")) (hl : b.length ≤ 1000) {pl : Sem Bool}
 (hk : cs.kind = .function := by rfl) (hx : (envX cn cs L a ccd cl).kindOf "int" = some .globalImplicit := by rfl)
 (he : eval (.Call (.Attribute (.Name "int" p1) "from_bytes" apos) [e1, e2] [] p) (envX cn cs L a ccd cl) = (do
  let ov ← eval (.Name "int" p1) (envX cn cs L a ccd cl)
  standAt apos.atName
  let (f, first) ← holding [ov] (getMethod ov "from_bytes" pl)
  callWith p f first (backTo p (starEach [e1, e2] (envX cn cs L a ccd cl))) []) := by rfl)
 (he1 : starEach [e1, e2] (envX cn cs L a ccd cl) = (false, eval e1 (envX cn cs L a ccd cl)) :: starEach [e2] (envX cn cs L a ccd cl) := by rfl) (he2 : starEach [e2] (envX cn cs L a ccd cl) = (false, eval e2 (envX cn cs L a ccd cl)) :: starEach [] (envX cn cs L a ccd cl) := by rfl)
 (hplain : (backTo p (starEach [e2] (envX cn cs L a ccd cl))).any (·.1) = false := by rfl) :
 EvP (model prog w) A g L m N (eval (.Call (.Attribute (.Name "int" p1) "from_bytes" apos) [e1, e2] [] p) (envX cn cs L a ccd cl)) (IsI (num b)) := by
 refine ev_weaken (P := fun v N' => IsI (num b) v ∧ ∃ x, N' = (x, KFB.bound) :: N) (ev_MCall (PM := fun _ fx N' => ∃ x, fx = (.ref x, []) ∧ N' = (x, KFB.bound) :: N) (ev_builtin B hI (by rfl) (by decide) hk hx) ?_ ?_ he) fun v N' ⟨h, x, e⟩ => ⟨N, by rw [e]; exact List.sublist_cons_self _ _, h, rfl⟩
 · rintro ov N1 ⟨rfl, rfl⟩ s Q E W q
   exact KFB.getm W.fr W.nw B.X hF fun x h' F' n' l => q _ h' _ _ ⟨x, rfl, rfl⟩ (nodup_push W l F' n')
 · rintro ov f first N2 ⟨x, e, rfl⟩
   obtain ⟨rfl, rfl⟩ := Prod.mk.inj e
   intro s Q E W q
   refine KFB.callWith_bound W.nw (.head _) ?_ he1 hplain
   refine (ar_cons (PA := fun vs N' => (∃ t u, vs = [.bytes b.toArray t, .str "big" u]) ∧ N' = (x, KFB.bound) :: N) (h1 _) ?_ he1) s _ E W ?_
   · refine i_a fun t => ?_
     refine ar_cons (h2 _) ?_ he2
     refine i_a fun u => ?_
     exact ar_nil ⟨⟨t, u, rfl⟩, rfl⟩
   · rintro vs h' tk' N' ⟨⟨t, u, rfl⟩, rfl⟩ W'
     exact ⟨KFB.at_of W'.nw (.head _), KFB.call_of (KFB.at_of W'.nw (.head _)) (fun z => tree_from (by simpa using hl) z) (q _ h' _ _ ⟨⟨_, rfl⟩, x, rfl⟩ W')⟩
theorem ev_to {o e1 e2 : Expr} {apos p : Pos} {x k : Nat} (B : Bs K g) (ho : EvP (model prog w) A g L m N (eval o env) (IsI x)) (h1 : EvP (model prog w) A g L m N (eval e1 env) (IsI k)) (h2 : EvP (model prog w) A g L m N (eval e2 env) (IsS "big")) (hk : k ≤ 1000) (hx : x < 256 ^ k) {pl : Sem Bool}
 (he : eval (.Call (.Attribute o "to_bytes" apos) [e1, e2] [] p) env = (do
  let ov ← eval o env
  standAt apos.atName
  let (f, first) ← holding [ov] (getMethod ov "to_bytes" pl)
  callWith p f first (backTo p (starEach [e1, e2] env)) []) := by rfl)
 (he1 : starEach [e1, e2] env = (false, eval e1 env) :: starEach [e2] env := by rfl) (he2 : starEach [e2] env = (false, eval e2 env) :: starEach [] env := by rfl) (hplain : (backTo p (starEach [e2] env)).any (·.1) = false := by rfl) :
 EvP (model prog w) A g L m N (eval (.Call (.Attribute o "to_bytes" apos) [e1, e2] [] p) env) (IsB (be k x)) := by
 refine ev_MCall (PM := fun ov fx N' => (∃ t, fx = (.builtin "int.to_bytes", [.int (x : Int) t])) ∧ N' = N) ho ?_ ?_ he
 · rintro ov N1 ⟨⟨t, rfl⟩, rfl⟩ s Q E W q
   exact KTBy.method (q _ s.heap s.toks _ ⟨⟨t, rfl⟩, rfl⟩ W)
 · rintro ov f first N2 ⟨⟨t, e⟩, rfl⟩
   obtain ⟨rfl, rfl⟩ := Prod.mk.inj e
   refine ev_callWith (PA := fun vs N' => (∃ u v, vs = [.int (k : Int) u, .str "big" v]) ∧ N' = N2) B kp_b ?_ ?_ he1 hplain
   · refine ar_cons h1 ?_ he1
     refine i_a fun u => ?_
     refine ar_cons h2 ?_ he2
     refine i_a fun u' => ?_
     exact ar_nil ⟨⟨u, u', rfl⟩, rfl⟩
   · rintro vs N' ⟨⟨u, v, rfl⟩, rfl⟩ s Q E W q
     exact call_to_bytes hk hx (q _ s.heap (s.toks + 1) _ ⟨⟨_, rfl⟩, rfl⟩ W)
end
end
section
open PySem.Builtin.Int (intBits)
noncomputable def sl (b : List UInt8) (lo hi : Option Int) : List UInt8 := (b.drop (lo.elim 0 (clipAt b.length))).take (hi.elim b.length (clipAt b.length) - lo.elim 0 (clipAt b.length))
theorem sl_from (b : List UInt8) (k : Nat) : sl b (some (k : Int)) none = b.drop k := by
 unfold sl
 simp only [Option.elim_some, Option.elim_none, clipAt_nat]
 by_cases h : k ≤ b.length
 · rw [Nat.min_eq_left h, List.take_of_length_le (by simp)]
 · rw [Nat.min_eq_right (by omega), List.drop_length, List.take_nil, List.drop_of_length_le (by omega)]
theorem sl_to (b : List UInt8) (k : Nat) : sl b none (some (k : Int)) = b.take k := by
 unfold sl
 simp only [Option.elim_some, Option.elim_none, clipAt_nat, List.drop_zero, Nat.sub_zero]
 by_cases h : k ≤ b.length
 · rw [Nat.min_eq_left h]
 · rw [Nat.min_eq_right (by omega), List.take_length, List.take_of_length_le (by omega)]
theorem sl_mid (b : List UInt8) (j k : Nat) (h : k ≤ b.length) (hj : j ≤ k) : sl b (some (j : Int)) (some (k : Int)) = (b.drop j).take (k - j) := by
 unfold sl
 simp only [Option.elim_some, clipAt_nat]
 rw [Nat.min_eq_left h, Nat.min_eq_left (by omega)]
theorem sl_toEnd (b : List UInt8) (k : Nat) (h : k ≤ b.length) (hk : 0 < k) : sl b none (some (-(k : Int))) = b.take (b.length - k) := by
 unfold sl
 simp only [Option.elim_some, Option.elim_none, List.drop_zero, Nat.sub_zero]
 congr 1
 unfold clipAt
 rw [if_pos (by omega)]
 omega
theorem sl_fromEnd (b : List UInt8) (k : Nat) (h : k ≤ b.length) (hk : 0 < k) : sl b (some (-(k : Int))) none = b.drop (b.length - k) := by
 unfold sl
 simp only [Option.elim_some, Option.elim_none]
 have : clipAt b.length (-(k : Int)) = b.length - k := by
  unfold clipAt
  rw [if_pos (by omega)]
  omega
 rw [this, List.take_of_length_le (by simp)]
theorem picked_list (b : List UInt8) (lo hi : Option Int) : KBy.picked b.toArray lo hi = (sl b lo hi).toArray := by
 rw [KBc.picked_eq]; simp [sl]
theorem sl_len (b : List UInt8) (lo hi : Option Int) : (sl b lo hi).length ≤ b.length := by
 unfold sl; rw [List.length_take, List.length_drop]; omega
section
variable {prog : Program} {w : World} {M : Model} {A : Around} {g : Heap} {L : Addr} {m : Loc} {N : Led} {env : Env}
theorem ev_addB {l r : Expr} {p : Pos} {x y : List UInt8} (h1 : EvP (model prog w) A g L m N (eval l env) (IsB x)) (h2 : EvP (model prog w) A g L m N (eval r env) (IsB y)) (hz : x.length + y.length ≤ 16777216) : EvP (model prog w) A g L m N (eval (.BinOp l .Add r p) env) (IsB (x ++ y)) :=
 ev_BinOp h1 h2 fun _ _ ⟨_, e1⟩ ⟨_, e2⟩ => e1 ▸ e2 ▸ fun s _ _ W q => KBy.add_bytes (by simpa using hz) fun t' k => by
  rw [List.append_toArray]
  exact q _ s.heap k N ⟨⟨_, rfl⟩, rfl⟩ W
noncomputable def Part (M : Model) (A : Around) (g : Heap) (L : Addr) (m : Loc) (N : Led) (e : Option Expr) (env : Env) (x : Option Int) : Prop := EvP M A g L m N (evalPart e env) (fun v => IsPart v x)
theorem pt_none : Part M A g L m N none env none := ev_pure ⟨.none, rfl⟩
theorem pt_int {e : Expr} {i : Int} (h : EvP M A g L m N (eval e env) (IsI i)) : Part M A g L m N (some e) env (some i) := ev_mono h fun v N' ⟨⟨t, e⟩, r⟩ => ⟨e ▸ .int i t, r⟩
theorem ev_slB {v : Expr} {lo hi : Option Expr} {p p' : Pos} {b : List UInt8} {x y : Option Int} (h : EvP (model prog w) A g L m N (eval v env) (IsB b)) (hlo : Part (model prog w) A g L m N lo env x) (hhi : Part (model prog w) A g L m N hi env y) (hz : b.length ≤ 16777216) :
 EvP (model prog w) A g L m N (eval (.Subscript v (.Slice lo hi none p) p') env) (IsB (sl b x y)) := fun s Q E W q =>
 Subscript_ (h s _ E W fun o h1 tk1 N1 e1 W1 => by
  obtain ⟨⟨t, rfl⟩, rfl⟩ := e1
  refine wpAny_Slice (hlo _ _ E W1 fun l h2 tk2 N2 e2 W2 => ?_)
  obtain ⟨e2, rfl⟩ := e2
  refine hhi _ _ E W2 fun u h3 tk3 N3 e3 W3 => ?_
  obtain ⟨e3, rfl⟩ := e3
  refine wpAny_pure ?_
  refine KBc.slice_K (s := { s with heap := h3, toks := tk3 }) W3.fr W3.nw rfl e2 e3 (by rw [KBw.ints_length]; simpa using hz) (fun h' t' k F' n' _ => ?_) (by with_unfolding_all rfl) (by intro _; cases v <;> with_unfolding_all rfl)
  rw [picked_list]
  exact q _ h' k N3 ⟨⟨_, rfl⟩, rfl⟩ ⟨F', n', W3.nd⟩)
theorem ev_ixB {v e : Expr} {p' : Pos} {b : List UInt8} {i : Nat} {i' : Int} (h : EvP (model prog w) A g L m N (eval v env) (IsB b)) (hi : EvP (model prog w) A g L m N (eval e env) (IsI i')) (ei : i' = (i : Int)) (hl : i < b.length) (hz : b.length ≤ 16777216)
 (hs : ∀ b t i u, subscripted e false (.bytes b t) (.int i u) = operate [.bytes b t, .int i u] (getItem (.bytes b t) (.int i u)) := by intro _ _ _ _; with_unfolding_all rfl) :
 EvP (model prog w) A g L m N (eval (.Subscript v e p') env) (IsI ((b.getD i 0).toNat : Int)) := fun s Q E W q =>
 Subscript_ (h s _ E W fun o h1 tk1 N1 e1 W1 => by
  obtain ⟨⟨t, rfl⟩, rfl⟩ := e1
  refine hi _ _ E W1 fun l h2 tk2 N2 e2 W2 => ?_
  obtain ⟨⟨u, rfl⟩, rfl⟩ := e2
  subst ei
  refine subscriptTail_builtin (typeIs_bytes _ _ _) FB.slot_bytes_getitem.lookup ?_ (hs _ _ _ _) (by intro _; cases v <;> with_unfolding_all rfl)
  refine getItem_bytes (by omega) (by omega) (by omega) ?_
  rw [Int.toNat_natCast]
  exact q _ h2 (tk2 + 1) N2 ⟨⟨tk2, rfl⟩, rfl⟩ W2)
theorem call_lenB {b : List UInt8} {v : Value} (hv : IsB b v) (hz : b.length ≤ 16777216) : EvP (model prog w) A g L m N (call (.builtin "len") [v]) (IsI (b.length : Int)) := by
 obtain ⟨t, rfl⟩ := hv
 exact fun s Q E W q => len_bytes (by simpa using Nat.le_trans hz (by decide)) (q _ s.heap (s.toks + 1 + 1) N ⟨⟨s.toks + 1, by simp⟩, rfl⟩ W)
theorem tru_B {b : List UInt8} {v : Value} (hv : IsB b v) (hz : b.length ≤ 16777216) : Tru (model prog w) A g L m N v (!b.isEmpty) := by
 obtain ⟨t, rfl⟩ := hv
 exact fun s Q E W q => truthy_bytes (by simpa using Nat.le_trans hz (by decide)) (q _ s.heap (s.toks + 1 + 1) N ⟨by cases b <;> simp <;> omega, rfl⟩ W)
theorem co_eqB {x y : List UInt8} {v u : Value} (h1 : IsB x v) (h2 : IsB y u) : EvP (model prog w) A g L m N (compareOp .Eq v u) (IsT (x == y)) := by
 obtain ⟨_, rfl⟩ := h1; obtain ⟨_, rfl⟩ := h2; exact fun s _ _ W q => eq_bytes (q _ s.heap s.toks N ⟨rfl, rfl⟩ W)
theorem co_neB {x y : List UInt8} {v u : Value} (h1 : IsB x v) (h2 : IsB y u) : EvP (model prog w) A g L m N (compareOp .NotEq v u) (IsT (x != y)) := by
 obtain ⟨_, rfl⟩ := h1; obtain ⟨_, rfl⟩ := h2; exact fun s _ _ W q => ne_bytes (q _ s.heap s.toks N ⟨rfl, rfl⟩ W)
end
end
structure Rm (A : Around) (n : Nat) : Prop where
 h : A.handled = none
 d : A.depth + 2 * n < recursionLimit
 u : A.units + 8 * n < cLine
theorem Rm.le {A : Around} {d d' : Nat} (r : Rm A d) (h : d' ≤ d := by first | decide | omega) : Rm A d' := ⟨r.h, by have := r.d; omega, by have := r.u; omega⟩
theorem Rm.deep {A : Around} {d d' : Nat} {env : Env} (r : Rm A d) (h : d' + 1 ≤ d := by first | decide | omega) : Rm (A.deeper env) d' :=
 ⟨r.h, by have := r.d; show A.depth + 1 + 2 * d' < recursionLimit; omega, by have := r.u; show A.units + 3 + 8 * d' < cLine; omega⟩
theorem Rm.room {A : Around} {d : Nat} (r : Rm A d) : A.depth < recursionLimit := by have := r.d; omega
theorem Rm.units {A : Around} {d : Nat} (r : Rm A d) : A.units < cLine := by have := r.u; omega
section
variable {w : World} {A : Around} {g : Heap} {L a : Addr} {m : Loc} {N : Led} {K : Frag} {cn : Str} {cs : Scope} {ccd : Value} {cl : List (Str × Addr)} {env : Env} {prog : Program}
theorem ev_cmp2lt {l r1 r2 : Expr} {p : Pos} {x y z : Int} (h0 : EvP (model prog w) A g L m N (eval l env) (IsI x)) (h1 : EvP (model prog w) A g L m N (eval r1 env) (IsI y)) (h2 : EvP (model prog w) A g L m N (eval r2 env) (IsI z)) (hm : behindInMarks .Lt r2 = false := by with_unfolding_all rfl) :
 EvP (model prog w) A g L m N (eval (.Compare l [.Lt, .Lt] [r1, r2] p) env) (IsT (decide (x < y) && decide (y < z))) := by
 rw [arm_eval_Compare]
 have e : markedEach [.Lt, .Lt] [r1, r2] (evalEach [r1, r2] env) = [eval r1 env, markedBehindIn .Lt r2 (eval r2 env)] := rfl
 rw [e, markedBehindIn_of_false hm]
 refine ev_bind h0 fun v0 N0 e0 => ?_
 obtain ⟨e0, rfl⟩ := e0
 refine ev_bind (ev_holding h1) fun v1 N1 e1 => ?_
 obtain ⟨e1, rfl⟩ := e1
 refine ev_at (ev_bind (ev_holding (co_lt e0 e1)) fun c N2 e2 => ?_)
 obtain ⟨rfl, rfl⟩ := e2
 refine ev_bind (P := fun _ N' => N' = N2) (ev_release rfl) fun _ N3 e3 => ?_
 subst e3
 refine ev_bind (ev_holding tru_bool) fun b N4 e4 => ?_
 obtain ⟨rfl, rfl⟩ := e4
 by_cases hc : x < y
 · rw [decide_eq_true hc]
   refine ev_bind (ev_holding h2) fun v2 N5 e5 => ?_
   obtain ⟨e5, rfl⟩ := e5
   exact ev_at (ev_operate (co_lt e1 e5))
 · rw [decide_eq_false hc]
   exact ev_pure ⟨rfl, rfl⟩
theorem ev_addN {l r : Expr} {p : Pos} {x y : Nat} {x' y' : Int} (h1 : EvP (model prog w) A g L m N (eval l env) (IsI x')) (h2 : EvP (model prog w) A g L m N (eval r env) (IsI y')) (e : y' = (y : Int)) (e' : x' = (x : Int) := by rfl) : EvP (model prog w) A g L m N (eval (.BinOp l .Add r p) env) (IsI ((x + y : Nat) : Int)) := by
 subst e e'; rw [Int.natCast_add]; exact ev_add h1 h2
theorem ev_mulN {l r : Expr} {p : Pos} {x y : Nat} {x' y' : Int} (h1 : EvP (model prog w) A g L m N (eval l env) (IsI x')) (h2 : EvP (model prog w) A g L m N (eval r env) (IsI y')) (e : y' = (y : Int)) (hm : IntMulOk (x : Int) (y : Int)) (e' : x' = (x : Int) := by rfl) : EvP (model prog w) A g L m N (eval (.BinOp l .Mult r p) env) (IsI ((x * y : Nat) : Int)) := by
 subst e e'; rw [Int.natCast_mul]; exact ev_mul h1 h2 hm
theorem ev_modN {l r : Expr} {p : Pos} {x y : Nat} {x' y' : Int} (h1 : EvP (model prog w) A g L m N (eval l env) (IsI x')) (h2 : EvP (model prog w) A g L m N (eval r env) (IsI y')) (e : y' = (y : Int)) (hy : y ≠ 0) (e' : x' = (x : Int) := by rfl) : EvP (model prog w) A g L m N (eval (.BinOp l .Mod r p) env) (IsI ((x % y : Nat) : Int)) := by
 subst e e'; rw [Int.natCast_emod, ← Int.fmod_eq_emod_of_nonneg _ (by omega)]; exact ev_mod h1 h2 (by omega)
theorem ev_subN {l r : Expr} {p : Pos} {x y : Nat} {x' y' : Int} (h1 : EvP (model prog w) A g L m N (eval l env) (IsI x')) (h2 : EvP (model prog w) A g L m N (eval r env) (IsI y')) (e' : x' = (x : Int)) (hxy : y ≤ x) (e : y' = (y : Int) := by rfl) : EvP (model prog w) A g L m N (eval (.BinOp l .Sub r p) env) (IsI ((x - y : Nat) : Int)) := by
 subst e e'; rw [Int.natCast_sub hxy]; exact ev_sub h1 h2
theorem mulOk {x y i j : Nat} (hx : x < 2 ^ i) (hy : y < 2 ^ j) (h : i + j ≤ 10000000 := by omega) : IntMulOk (x : Int) (y : Int) := by
 unfold IntMulOk
 have h1 : Builtin.Int.intBits (x : Int) ≤ i := intBits_le_iff.mpr (by simpa using hx)
 have h2 : Builtin.Int.intBits (y : Int) ≤ j := intBits_le_iff.mpr (by simpa using hy)
 have : Builtin.Int.intTooBig (Builtin.Int.intBits (x : Int) + Builtin.Int.intBits (y : Int)) = false := by
  unfold Builtin.Int.intTooBig
  have hb : bitsLine = 134217728 := by decide
  rw [hb]
  exact decide_eq_false (by omega)
 rw [this]; simp
theorem ev_ifexp {t b o : Expr} {p : Pos} {c : Bool} {P : Value → Led → Prop} {M : Model} (h : Tst M A g L m N t env c) (ht : c = true → Ev M A g L m N (eval b env) P) (hf : c = false → Ev M A g L m N (eval o env) P) : Ev M A g L m N (eval (.IfExp t b o p) env) P := by
 rw [arm_eval_IfExp]
 refine ev_bind h fun c' N' e => ?_
 obtain ⟨rfl, rfl⟩ := e
 cases c' with
 | true => exact ht rfl
 | false => exact hf rfl
theorem call_min {x y : Nat} {v u : Value} (r : Rm A 0) (h1 : IsI (x : Int) v) (h2 : IsI (y : Int) u) : EvP (model prog w) A g L m N (call (.builtin "min") [v, u]) (IsI ((min x y : Nat) : Int)) := by
 obtain ⟨t, rfl⟩ := h1; obtain ⟨u, rfl⟩ := h2
 intro s Q E W q
 refine min_two_N r.h W.fr W.nw fun h' tk F' n' => q _ h' tk N ⟨⟨(if (y : Int) < x then u else t), ?_⟩, rfl⟩ ⟨F', n', W.nd⟩
 congr 1
 split <;> omega
theorem ev_list {es : List Expr} {p : Pos} {PA : List Value → Led → Prop} {P : Value → Led → Prop} {M : Model} (h : Ev M A g L m N (spliced (backTo p (starEach es env))) PA) (k : ∀ vs N', PA vs N' → Ev M A g L m N' (newList vs) P) : Ev M A g L m N (eval (.List es p) env) P := by
 show Ev M A g L m N (do standAt p; newList (← spliced (backTo p (starEach es env)))) P
 exact ev_at (ev_bind h k)
theorem ev_newList {vs : List Value} {M : Model} (hz : vs.length ≤ sizeLine) : Ev M A g L m N (newList vs) (fun v N' => ∃ D, v = .ref D ∧ N' = (D, listOf vs.toArray 0) :: N) := fun s Q E W q =>
 newList_N W.fr W.nw (fun h' F' n' => q _ h' s.toks _ ⟨_, rfl, rfl⟩ (nodup_push W (fun p hp => Heap.lt_size (W.nw p hp).1) F' n')) hz
theorem ev_bytes1 {e : Expr} {p1 p2 p : Pos} {n : Nat} {n' : Int} (B : Bs K g) (r : Rm A 0) (hB : nsIn K mainGlobals "bytes" = some none) (h : EvP (model prog w) A g L m N (eval e (envX cn cs L a ccd cl)) (IsI n')) (en : n' = (n : Int)) (hn : n < 256)
 (hk : cs.kind = .function := by rfl) (hx : (envX cn cs L a ccd cl).kindOf "bytes" = some .globalImplicit := by rfl)
 (he : eval (.Call (.Name "bytes" p1) [.List [e] p2] [] p) (envX cn cs L a ccd cl) = (do callWith p (← eval (.Name "bytes" p1) (envX cn cs L a ccd cl)) [] (backTo p (starEach [.List [e] p2] (envX cn cs L a ccd cl))) (backToKw p (keywordEach [] (envX cn cs L a ccd cl)))) := by rfl)
 (he1 : starEach [.List [e] p2] (envX cn cs L a ccd cl) = (false, eval (.List [e] p2) (envX cn cs L a ccd cl)) :: starEach [] (envX cn cs L a ccd cl) := by rfl)
 (he2 : starEach [e] (envX cn cs L a ccd cl) = (false, eval e (envX cn cs L a ccd cl)) :: starEach [] (envX cn cs L a ccd cl) := by rfl) :
 EvP (model prog w) A g L m N (eval (.Call (.Name "bytes" p1) [.List [e] p2] [] p) (envX cn cs L a ccd cl)) (IsB [UInt8.ofNat n]) := by
 subst en
 refine ev_weaken (P := fun v N' => IsB [UInt8.ofNat n] v ∧ ∃ D o, N' = (D, o) :: N) (ev_Call (ev_builtin B hB (by rfl) (by decide) hk hx) (ev_callWith (PA := fun vs N' => ∃ D t, vs = [.ref D] ∧ N' = (D, listOf [.int (n : Int) t].toArray 0) :: N) B kp_t ?_ ?_ he1) he) fun v N' ⟨h, D, o, e⟩ => ⟨N, by rw [e]; exact List.sublist_cons_self _ _, h, rfl⟩
 · refine ar_cons (P := fun v N' => ∃ D t, v = .ref D ∧ N' = (D, listOf [.int (n : Int) t].toArray 0) :: N) (ev_list (PA := fun vs N' => (∃ t, vs = [.int (n : Int) t]) ∧ N' = N) ?_ ?_) ?_ he1
   · refine ar_cons h ?_ he2
     refine i_a fun t => ?_
     exact ar_nil ⟨⟨t, rfl⟩, rfl⟩
   · refine i_a fun t => ?_
     exact ev_mono (ev_newList (by simp [sizeLine_eq])) fun v N' ⟨D, e1, e2⟩ => ⟨D, t, e1, e2⟩
   · rintro v N' ⟨D, t, rfl, rfl⟩
     exact ar_nil ⟨D, t, rfl, rfl⟩
 · rintro vs N' ⟨D, t, rfl, rfl⟩ s Q E W q
   refine KBa.make_K (ns := [(n : Int)]) W.fr W.nw r.h ⟨_, (W.nw _ (.head _)).1, rfl, _, rfl⟩ (.cons _ _ .nil) (by intro k hk'; simp at hk'; omega) (by simp) fun h' t' k F' n' _ => ?_
   refine q _ h' k _ ⟨⟨t', ?_⟩, D, _, rfl⟩ ⟨F', n', W.nd⟩
   simp [byteArr]
end
noncomputable def Ob (g : Heap) (N : Led) (a : Addr) (o : Obj) : Prop := (a, o) ∈ N ∨ g.get? a = some o
noncomputable def Cd (M : Model) (A : Around) (g : Heap) (L : Addr) (m : Loc) (N : Led) (c : Code) (P : Value → Led → Prop) : Prop :=
 ∀ (s : Shared) (S : Result → Shared → Prop), Wf g L s.heap m N →
  (∀ v h' tk' N', P v N' → Wf g L h' m N' → S (.ok (.ret v)) { s with heap := h', toks := tk' }) → codeAny M A c S s
noncomputable abbrev CdP (M : Model) (A : Around) (g : Heap) (L : Addr) (m : Loc) (N : Led) (c : Code) (p : Value → Prop) : Prop := Cd M A g L m N c (fun v N' => p v ∧ N' = N)
section
variable {w : World} {M : Model} {A : Around} {g : Heap} {L a : Addr} {m : Loc} {N : Led} {K : Frag} {env : Env} {prog : Program} {C x dx : Addr} {es : List DictEntry} {n : Nat} {o : Obj} {nm : Str}
theorem Ob.at {h : Heap} (O : Ob g N a o) (W : Wf g L h m N) : h.get? a = some o := O.elim (fun e => (W.nw _ e).1) (W.fr.keep _ _)
theorem Ob.inst {h : Heap} {od : Obj} (O : Ob g N x (instObj C dx)) (D : Ob g N dx od) (W : Wf g L h m N) : InstAt h x (instObj C dx) C (some od) := ⟨O.at W, rfl, rfl, D.at W⟩
theorem ob_in (h : (a, o) ∈ N) : Ob g N a o := .inl h
theorem ob_old (h : g.get? a = some o) : Ob g N a o := .inr h
theorem Ob.mono {g' : Heap} {N' : Led} (O : Ob g N a o) (hg : ∀ b o, g.get? b = some o → g'.get? b = some o) (hN : ∀ p ∈ N, p ∈ N' ∨ g'.get? p.1 = some p.2) : Ob g' N' a o :=
 O.elim (fun e => (hN _ e).elim .inl .inr) fun e => .inr (hg _ _ e)
theorem ev_of_cd {f : Value} {pos : List Value} {kw : List (Str × Value)} {P : Value → Led → Prop} (h : Cd M A g L m N (.call f ⟨pos, kw⟩) P) : Ev M A g L m N (call f pos kw) P := fun s Q E W q => wpAny_call (h s _ W q)
theorem cd_mono {c : Code} {P R : Value → Led → Prop} (h : Cd M A g L m N c P) (k : ∀ v N', P v N' → R v N') : Cd M A g L m N c R := fun s S W q => h s S W fun v h' tk' N' p W' => q v h' tk' N' (k v N' p) W'
theorem cd_weaken {c : Code} {P R : Value → Led → Prop} (h : Cd M A g L m N c P) (k : ∀ v N', P v N' → ∃ N2, N2.Sublist N' ∧ R v N2) : Cd M A g L m N c R := fun s S W q =>
 h s S W fun v h' tk' N' p W' => by
  obtain ⟨N2, hs, r⟩ := k v N' p
  exact q v h' tk' N2 r ⟨W'.fr, fun x hx => W'.nw x (hs.subset hx), (hs.map _).nodup W'.nd⟩
theorem cd_call {name qual : Str} {params : Arguments} {body : List Stmt} {scope : Scope} {dV kV doc pm cdv ct oc : Value} {an od : Option Addr} {osl : Array (Option Value)} {f : Addr} {pos : List Value} {kw : List (Str × Value)} (binds : List (Str × Value)) {P : Value → Led → Prop} {d : Nat} {C R : Led}
 (B : Bs K g) (r : Rm A (d + 1)) (ho : K.lookup f = some ⟨oc, od, .func (fnX name qual params body scope [] dV kV doc pm an cdv ct), osl⟩) (hcd : codeIn K cdv qual = true)
 (hbind : ∀ s : Shared, K.In s.heap → BindsTo s (fnX name qual params body scope [] dV kV doc pm an cdv ct) ⟨pos, kw⟩ binds) (hloc : (binds.all fun x => decide (scope.names.lookup x.1 = some .local)) = true)
 (hb : ∀ h₀ L' A', Rm A' d → (∀ b o, g.get? b = some o → h₀.get? b = some o) → (∀ p ∈ R, h₀.get? p.1 = some p.2) → Bs K h₀ →
  Bd (model prog w) A' h₀ L' binds.reverse C (execs body (envX qual scope L' f cdv [])) P)
 (hcell : ∀ x ∈ scope.names, x.2 ≠ .cell) (hco : scope.isCoroutine = false := by rfl) (hgen : scope.isGenerator = false := by rfl) (hk : scope.kind = .function := by rfl) :
 Cd (model prog w) A g L m (C ++ R) (.call (.ref f) ⟨pos, kw⟩) (fun v N' => ∃ C', P v C' ∧ N' = C' ++ R) := fun s S W q =>
 code_enter W B ho hcd r.room (hbind s) (locs hloc) (fun h₀ L' st sr B' => hb h₀ L' _ r.deep st sr B') (fun v h' tk' C' p W' => q v h' tk' _ ⟨C', p, rfl⟩ W') hcell hco hgen hk
theorem cd_pcall {name qual : Str} {params : Arguments} {body : List Stmt} {scope : Scope} {dV kV doc pm cdv ct oc : Value} {an od : Option Addr} {osl : Array (Option Value)} {f : Addr} {pos : List Value} {kw : List (Str × Value)} (binds : List (Str × Value)) {P : Value → Prop} {d : Nat}
 (B : Bs K g) (r : Rm A (d + 1)) (ho : K.lookup f = some ⟨oc, od, .func (fnX name qual params body scope [] dV kV doc pm an cdv ct), osl⟩) (hcd : codeIn K cdv qual = true)
 (hbind : ∀ s : Shared, K.In s.heap → BindsTo s (fnX name qual params body scope [] dV kV doc pm an cdv ct) ⟨pos, kw⟩ binds) (hloc : (binds.all fun x => decide (scope.names.lookup x.1 = some .local)) = true)
 (hb : ∀ h₀ L' A', Rm A' d → (∀ b o, g.get? b = some o → h₀.get? b = some o) → (∀ p ∈ N, h₀.get? p.1 = some p.2) → Bs K h₀ →
  Bd (model prog w) A' h₀ L' binds.reverse [] (execs body (envX qual scope L' f cdv [])) (fun v _ => P v))
 (hcell : ∀ x ∈ scope.names, x.2 ≠ .cell) (hco : scope.isCoroutine = false := by rfl) (hgen : scope.isGenerator = false := by rfl) (hk : scope.kind = .function := by rfl) :
 CdP (model prog w) A g L m N (.call (.ref f) ⟨pos, kw⟩) P :=
 cd_weaken (cd_call (C := []) (R := N) (P := fun v _ => P v) binds B r ho hcd hbind hloc hb hcell hco hgen hk) fun v N' ⟨C', p, e⟩ => ⟨N, e ▸ List.sublist_append_right _ _, p, rfl⟩
theorem ev_Attr {e : Expr} {p : Pos} {Po : Value → Led → Prop} {P : Value → Led → Prop} (h : Ev (model prog w) A g L m N (eval e env) Po) (k : ∀ o N', Po o N' → Ev (model prog w) A g L m N' (getAttr o nm true) P)
 (he : eval (.Attribute e nm p) env = (do
  let o ← eval e env
  standAt p.atName
  let r ← holding [o] (getAttr o nm true)
  letTemporaryGo e o r
  pure r) := by rfl) : Ev (model prog w) A g L m N (eval (.Attribute e nm p) env) P := fun s Q E W q =>
 Attribute_any_ (h s _ E W fun o h' tk' N' p1 W' => k o N' p1 _ Q E W' q) he
theorem ga_own {v : Value} (B : Bs K g) (hx : Ob g N x (instObj C dx)) (hd : Ob g N dx (dictOf es n)) (hg : plainGet K C nm = true) (hh : hasDictIn K C = true) (ha : findIn K (.ref C) nm = some none) (hl : getL nm es = some (some v)) (hv : handedIn v = true) {b : Bool} :
 EvP (model prog w) A g L m N (getAttr (.ref x) nm b) (IsV v) := fun s Q E W q =>
 get_own W.fr B.X (hx.inst hd W) hg hh ha rfl hl hv (q v s.heap (s.toks + 1) N ⟨rfl, rfl⟩ W)
theorem ev_own {e : Expr} {p : Pos} {v : Value} (B : Bs K g) (h : EvP (model prog w) A g L m N (eval e env) (IsV (.ref x))) (hx : Ob g N x (instObj C dx)) (hd : Ob g N dx (dictOf es n)) (hg : plainGet K C nm = true) (hh : hasDictIn K C = true) (ha : findIn K (.ref C) nm = some none) (hl : getL nm es = some (some v)) (hv : handedIn v = true)
 (he : eval (.Attribute e nm p) env = (do
  let o ← eval e env
  standAt p.atName
  let r ← holding [o] (getAttr o nm true)
  letTemporaryGo e o r
  pure r) := by rfl) : EvP (model prog w) A g L m N (eval (.Attribute e nm p) env) (IsV v) :=
 ev_Attr h (fun o N' e => by obtain ⟨rfl, rfl⟩ := e; exact ga_own B hx hd hg hh ha hl hv) he
theorem is_I {i : Int} {t : Tok} {tr : Sem Value} (h : EvP M A g L m N tr (IsV (.int i t))) : EvP M A g L m N tr (IsI i) := ev_mono h fun v N' e => ⟨⟨t, e.1⟩, e.2⟩
theorem is_B {b : List UInt8} {t : Tok} {tr : Sem Value} (h : EvP M A g L m N tr (IsV (.bytes b.toArray t))) : EvP M A g L m N tr (IsB b) := ev_mono h fun v N' e => ⟨⟨t, e.1⟩, e.2⟩
theorem is_S {b : Str} {t : Tok} {tr : Sem Value} (h : EvP M A g L m N tr (IsV (.str b t))) : EvP M A g L m N tr (IsS b) := ev_mono h fun v N' e => ⟨⟨t, e.1⟩, e.2⟩
theorem is_T {b : Bool} {tr : Sem Value} (h : EvP M A g L m N tr (IsV (.bool b))) : EvP M A g L m N tr (IsT b) := ev_mono h fun v N' e => ⟨e.1, e.2⟩
theorem ga_prop {p fget : Addr} {rest : List Value} {od : Obj} {P : Value → Prop} (B : Bs K g) (hx : Ob g N x (instObj C dx)) (hd : Ob g N dx od) (hg : plainGet K C nm = true) (hh : hasDictIn K C = true)
 (ha : findIn K (.ref C) nm = some (some (.ref p))) (hn : specialIn K (.ref p) "__get__" = some (some (.builtin "property.__get__"))) (ht : takesIn K (.ref p) = some true) (hp : recIn K p "property" = some (.ref fget :: rest))
 (h : CdP (model prog w) A.in1 g L m N (.call (.ref fget) ⟨[.ref x], []⟩) P) (hv : ∀ v, P v → handedIn v = true) {b : Bool} : EvP (model prog w) A g L m N (getAttr (.ref x) nm b) P := fun s Q E W q =>
 get_prop W.fr B.X (hx.inst hd W) hg hh ha hn ht hp (h _ _ W fun v h' tk' N' p1 W' => handed_on (hv v p1.1) (q v h' tk' N' p1 W'))
theorem gm_inst {f : Addr} {pl : Sem Bool} (B : Bs K g) (hx : Ob g N x (instObj C dx)) (hd : Ob g N dx (dictOf es n)) (hg : plainGet K C nm = true) (hf : findIn K (.ref C) nm = some (some (.ref f))) (ht : isFn K (.ref f) = true) (hl : getL nm es = some none) :
 Ev (model prog w) A g L m N (getMethod (.ref x) nm pl) (fun fx N' => fx = (.ref f, [.ref x]) ∧ N' = N) := fun s Q E W q =>
 method_inst W.fr B.X (hx.inst hd W) hg hf ht hl (q _ s.heap s.toks N ⟨rfl, rfl⟩ W)
theorem gm_static {f : Value} {mc : Value} {p : Addr} {rest : List Value} {pl : Sem Bool} (B : Bs K g) (hg : specialIn K (.ref C) "__getattribute__" = some (some (.builtin "type.__getattribute__"))) (hm : typeIn K (.ref C) = some mc) (hr : readsIn K C mc = true)
 (e : findCls K (.ref C) mc nm = some (.get (.builtin "staticmethod.__get__") (.ref p) .none (.ref C))) (hp : recIn K p "staticmethod" = some (f :: rest)) (hv : handedIn f = true) :
 Ev (model prog w) A g L m N (getMethod (.ref C) nm pl) (fun fx N' => fx = (f, []) ∧ N' = N) := fun s Q E W q =>
 method_of_cls W.fr B.X hg (cls_sm W.fr B.X hm hr e hp hv (q _ s.heap (s.toks + 1) N ⟨rfl, rfl⟩ W))
theorem gm_class {f : Value} {mc : Value} {p : Addr} {rest : List Value} {pl : Sem Bool} (B : Bs K g) (hg : specialIn K (.ref C) "__getattribute__" = some (some (.builtin "type.__getattribute__"))) (hm : typeIn K (.ref C) = some mc) (hr : readsIn K C mc = true)
 (e : findCls K (.ref C) mc nm = some (.get (.builtin "classmethod.__get__") (.ref p) .none (.ref C))) (hp : recIn K p "classmethod" = some (f :: rest)) :
 Ev (model prog w) A g L m N (getMethod (.ref C) nm pl) (fun fx N' => ∃ q, fx = (.ref q, []) ∧ N' = (q, methodObj f (.ref C)) :: N) := fun s Q E W q =>
 method_of_cls W.fr B.X hg (cls_cm W.fr B.X W.nw hm hr e hp fun x h' F' n' l => q _ h' _ _ ⟨x, rfl, rfl⟩ (nodup_push W l F' n'))
theorem Rm.made {d d' : Nat} {C : Addr} {pos : List Value} {kw : List (Str × Value)} (r : Rm A d) (h : d' + 1 ≤ d := by first | decide | omega) : Rm (A.under (.builtin "type.__call__" ⟨.ref C :: pos, kw⟩)) d' := by
 have hw : (Code.builtin "type.__call__" ⟨.ref C :: pos, kw⟩).weight ≤ 2 := by
  have hg : (Code.builtin "type.__call__" ⟨.ref C :: pos, kw⟩).isGuard = false := by show guardIds.contains "type.__call__" = false; decide
  have hc : (Code.builtin "type.__call__" ⟨.ref C :: pos, kw⟩).isCaller = false := by rfl
  have hf : (Code.builtin "type.__call__" ⟨.ref C :: pos, kw⟩).frames = 0 := by
   kernel_rfl
  unfold Code.weight; rw [hg, hc]; simp; split <;> omega
 have hu : (Code.builtin "type.__call__" ⟨.ref C :: pos, kw⟩).cUnits ≤ 8 := by
  have hf : (Code.builtin "type.__call__" ⟨.ref C :: pos, kw⟩).frames = 0 := by
   kernel_rfl
  show 1 + 3 * (Code.builtin "type.__call__" ⟨.ref C :: pos, kw⟩).frames ≤ 8
  omega
 refine ⟨r.h, ?_, ?_⟩
 · have := r.d; show A.depth + _ + 2 * d' < _; omega
 · have := r.u; show A.units + _ + 8 * d' < _; omega
theorem Rm.in1 {d d' : Nat} (r : Rm A d) (h : d' + 1 ≤ d := by first | decide | omega) : Rm A.in1 d' := ⟨r.h, by have := r.d; show A.depth + 2 * d' < _; omega, by have := r.u; show A.units + 1 + 8 * d' < _; omega⟩
theorem cd_make {pos : List Value} {kw : List (Str × Value)} {fI : Addr} {P : Addr → Addr → Led → Prop} (B : Bs K g) (hm : makesIn K C = true) (hi : findIn K (.ref C) "__init__" = some (some (.ref fI))) (hf : isFn K (.ref fI) = true)
 (h : ∀ x dx, Cd (model prog w) (A.under (.builtin "type.__call__" ⟨.ref C :: pos, kw⟩)) g L m ((x, instObj C dx) :: (dx, dictOf [] 0) :: N) (.call (.ref fI) ⟨.ref x :: pos, kw⟩) (fun v N' => v = .none ∧ P x dx N')) :
 Cd (model prog w) A g L m N (.call (.ref C) ⟨pos, kw⟩) (fun v N' => ∃ x dx, v = .ref x ∧ P x dx N') := fun s S W q =>
 make_K W.fr W.nw (B.X.keeps W.fr.keep) hm hi (beq_iff_eq.mp hf) fun x dx h' F' n' l1 l2 =>
  h x dx { s with heap := h' } _ ⟨F', n', by
   simp only [List.map_cons, List.nodup_cons]
   refine ⟨?_, ?_, W.nd⟩
   · intro hq
     rcases List.mem_cons.mp hq with e | hq
     · exact Nat.lt_irrefl _ (e ▸ l2)
     · obtain ⟨p, hp, e⟩ := List.mem_map.mp hq
       exact Nat.lt_irrefl _ (Nat.lt_trans (e ▸ l1 p hp) l2)
   · intro hq
     obtain ⟨p, hp, e⟩ := List.mem_map.mp hq
     exact Nat.lt_irrefl _ (e ▸ l1 p hp)⟩ fun v h2 tk2 N2 p2 W2 => ⟨p2.1, q _ h2 tk2 N2 ⟨x, dx, rfl, p2.2⟩ W2⟩
end
theorem putL_nil {P : Params} {x : Str} {t : Tok} {v : Value} : putL x (PyData.keyHash P x) (.str x t) v [] = [en P x t v] := rfl
section
variable {w : World} {M : Model} {A : Around} {g : Heap} {L : Addr} {m : Loc} {N : Led} {K : Frag} {env : Env} {prog : Program} {C x dx : Addr} {es : List DictEntry} {n : Nat} {o : Obj} {nm : Str}
theorem upd_at {N : Led} {i : Nat} {d : Addr} {o o' : Obj} (hN : N[i]? = some (d, o)) (nd : (N.map (·.1)).Nodup) : Upd d o o' N (N.set i (d, o')) := by
 induction N generalizing i with
 | nil => simp at hN
 | cons p r ih =>
  rw [List.map_cons, List.nodup_cons] at nd
  cases i with
  | zero =>
   simp only [List.getElem?_cons_zero, Option.some.injEq] at hN
   subst hN
   exact .head fun p hp e => nd.1 (List.mem_map.mpr ⟨p, hp, e⟩)
  | succ i =>
   simp only [List.getElem?_cons_succ] at hN
   rw [List.set_cons_succ]
   exact .tail (fun e => nd.1 (List.mem_map.mpr ⟨(d, o), List.mem_of_getElem? hN, e.symm⟩)) (ih hN nd.2)
theorem nodup_set {N : Led} {i : Nat} {d : Addr} {o o' : Obj} (hN : N[i]? = some (d, o)) (nd : (N.map (·.1)).Nodup) : ((N.set i (d, o')).map (·.1)).Nodup := by
 have e : (N.set i (d, o')).map (·.1) = N.map (·.1) := by
  rw [List.map_set]
  refine List.ext_getElem? fun j => ?_
  rw [List.getElem?_set]
  split
  · rename_i e; subst e
    rw [List.getElem?_map, hN]
    have := (List.getElem?_eq_some_iff.mp hN).1
    simp [this]
  · rfl
 rw [e]; exact nd
theorem sa_own {v : Value} {i : Nat} (B : Bs K g) (hx : Ob g N x (instObj C dx)) (hN : N[i]? = some (dx, dictOf es n)) (hs : findIn K (.ref C) "__setattr__" = some (some (.builtin "object.__setattr__"))) (hp : plainOver K C = true) (ht : takerIn K C nm = some none) (hh : hasDictIn K C = true)
 (hl : (getL nm es).isSome = true) (hz : es.length < 1000) :
 Ev (model prog w) A g L m N (setAttr (.ref x) nm v) (fun _ N' => ∃ t, N' = N.set i (dx, dictOf (putL nm (PyData.keyHash w.params nm) (.str nm t) v es) (putN nm es n))) := fun s Q E W q => by
 have hlen : ∀ (es : List DictEntry) (k : Value) (hsh : Int), (putL nm hsh k v es).length ≤ es.length + 1 := by
  intro es k hsh
  induction es with
  | nil => simp [putL]
  | cons e r ih => unfold putL; split <;> simp <;> omega
 exact set_dict (s := s) W.fr B.X W.nw (hx.inst (.inl (List.mem_of_getElem? hN)) W) rfl hs hp ht hh hl rfl (upd_at hN W.nd) (by have := hlen es (.str nm (s.toks + 1)) (PyData.keyHash w.params nm); omega)
  fun h' F' n' => q _ h' _ _ ⟨_, rfl⟩ ⟨F', n', nodup_set hN W.nd⟩
theorem xs_setattr {e oe : Expr} {p1 p2 : Pos} {rest : List Stmt} {i : Nat} {pv : Value → Prop} {R : Flow → Loc → Led → Prop} (B : Bs K g) (hv : EvP (model prog w) A g L m N (eval e env) pv) (ho : EvP (model prog w) A g L m N (eval oe env) (IsV (.ref x)))
 (hx : Ob g N x (instObj C dx)) (hN : N[i]? = some (dx, dictOf es n)) (hs : findIn K (.ref C) "__setattr__" = some (some (.builtin "object.__setattr__"))) (hp : plainOver K C = true) (ht : takerIn K C nm = some none) (hh : hasDictIn K C = true)
 (hl : (getL nm es).isSome = true) (hz : es.length < 1000)
 (k : ∀ v t, pv v → Xs (model prog w) A g L m (N.set i (dx, dictOf (putL nm (PyData.keyHash w.params nm) (.str nm t) v es) (putN nm es n))) (execs rest env) R)
 (hsw : swapsWith e (some (.Attribute oe nm p1)) p2.line env = pure false := by rfl) : Xs (model prog w) A g L m N (execs (.Assign [.Attribute oe nm p1] e p2 :: rest) env) R :=
 xs_cons fun s Q E W q => plainObj_wpAny_Assign_Attribute (hv s _ E W fun v h1 tk1 N1 e1 W1 => by
  obtain ⟨e1, rfl⟩ := e1
  refine ho _ _ E W1 fun ov h2 tk2 N2 e2 W2 => ?_
  obtain ⟨rfl, rfl⟩ := e2
  refine sa_own B hx hN hs hp ht hh hl hz _ _ E W2 fun u h3 tk3 N3 e3 W3 => ?_
  obtain ⟨t, rfl⟩ := e3
  exact q .next h3 tk3 m _ (k v t e1) W3) hsw
theorem xs_done {rest : List Stmt} {R : Flow → Loc → Led → Prop} (h : R .next m N) : Xs M A g L m N (execs [] env) R := xs_nil h
end
theorem eqGives_bytes (a b : List UInt8) (t u : Tok) : MeetsSeq.EqGives (.bytes a.toArray t) (.bytes b.toArray u) (a == b) := fun prog w A E s Q h => by
 unfold eqBool
 refine wpAny_holding ?_
 show wpAny _ _ (if (Value.bytes a.toArray t == Value.bytes b.toArray u) = true then _ else _) Q E s
 by_cases hab : (Value.bytes a.toArray t == Value.bytes b.toArray u) = true
 · rw [if_pos hab]
   have e : a = b := by
    have := eq_of_beq hab
    injection this with h1 h2
    simpa using h1
   subst e
   exact wpAny_bind (wpAny_rule (wpAny_pure (by simpa using h)))
 · rw [if_neg hab]
   refine wpAny_bind ?_
   have := eq_bytes (prog := prog) (w := w) (A := A) (E := E) (s := s) (b := a.toArray) (c := b.toArray) (t := t) (u := u) (Q := fun v s' => wpAny (model prog w) A (truthOfDropped v) Q E s') (by
    show wpAny _ _ (truthOfDropped (.bool _)) _ _ _
    exact wpAny_truthy_bool h)
   exact this
inductive BsAre : List Value → List (List UInt8) → Prop
 | nil : BsAre [] []
 | cons (b : List UInt8) (t : Tok) {vs bs} : BsAre vs bs → BsAre (.bytes b.toArray t :: vs) (b :: bs)
noncomputable def isBytes (k : List UInt8) : Value → Bool
 | .bytes i _ => i.toList == k
 | _ => false
theorem any_isBytes (k : List UInt8) : ∀ {vs : List Value} {bs : List (List UInt8)}, BsAre vs bs → vs.any (isBytes k) = bs.any (· == k)
 | _, _, .nil => rfl
 | _, _, .cons n t h => by simp only [List.any_cons, isBytes, any_isBytes k h]
theorem eq_isBytes (k : List UInt8) (t : Tok) : ∀ {vs : List Value} {bs : List (List UInt8)}, BsAre vs bs → ∀ y, y ∈ vs → MeetsSeq.EqGives y (.bytes k.toArray t) (isBytes k y)
 | _, _, .nil, _, hy => nomatch hy
 | _, _, .cons n u h, y, hy => by
  rcases List.mem_cons.mp hy with rfl | hy
  · exact eqGives_bytes n k u t
  · exact eq_isBytes k t h y hy
section
variable {w : World} {M : Model} {A : Around} {g : Heap} {L : Addr} {m : Loc} {N : Led} {env : Env} {prog : Program}
theorem isList_of {h : Heap} {D : Addr} {vs : List Value} {n : Nat} (e : h.get? D = some (listOf vs.toArray n)) : h.IsList D vs.toArray := ⟨_, e, rfl, _, rfl⟩
theorem tst_notin {l : Expr} {es : List Expr} {p p' : Pos} {p1 : Value → Prop} {PA : List Value → Prop} {b : Bool} (h1 : EvP (model prog w) A g L m N (eval l env) p1) (h2 : Ev (model prog w) A g L m N (spliced (backTo p' (starEach es env))) (fun vs N' => PA vs ∧ N' = N))
 (hz : ∀ vs, PA vs → vs.length ≤ sizeLine)
 (h : ∀ v vs, p1 v → PA vs → ∀ (D : Addr) (s : Shared) (Q : Value → Shared → Prop) (E : Value → Shared → Prop), s.heap.IsList D vs.toArray → Q (.bool b) s → wpAny (model prog w) A (compareOp .NotIn v (.ref D)) Q E s) :
 Tst (model prog w) A g L m N (.Compare l [.NotIn] [.List es p'] p) env b := fun s Q E W q =>
 wpAny_isTrue_Compare1 (h1 s _ E W fun x h' tk' N1 e1 W1 => by
  obtain ⟨e1, rfl⟩ := e1
  refine ev_list h2 (P := fun v N' => ∃ D vs, v = .ref D ∧ PA vs ∧ N' = (D, listOf vs.toArray 0) :: N1) (fun vs N' e => ?_) _ _ E W1 fun y h2' tk2 N2 e2 W2 => ?_
  · obtain ⟨e, rfl⟩ := e
    exact ev_mono (ev_newList (hz vs e)) fun v N' ⟨D, e1, e2⟩ => ⟨D, vs, e1, e, e2⟩
  · obtain ⟨D, vs, rfl, e, rfl⟩ := e2
    exact h x vs e1 e D _ _ E (isList_of (W2.nw _ (.head _)).1) (wpAny_truthy_bool (q b h2' tk2 _ ⟨rfl, rfl⟩ ⟨W2.fr, fun p hp => W2.nw p (.tail _ hp), (List.nodup_cons.mp W2.nd).2⟩))) rfl
theorem tst_notinI {l : Expr} {es : List Expr} {p p' : Pos} {k : Int} {ns : List Int} (h1 : EvP (model prog w) A g L m N (eval l env) (IsI k)) (h2 : Ev (model prog w) A g L m N (spliced (backTo p' (starEach es env))) (fun vs N' => IntsAre vs ns ∧ N' = N)) (hz : ns.length ≤ 1000) :
 Tst (model prog w) A g L m N (.Compare l [.NotIn] [.List es p'] p) env (!(ns.any (· == k))) :=
 tst_notin h1 h2 (fun vs h => by rw [h.length, sizeLine_eq]; omega) fun v vs e1 e2 D s Q E hl q => by obtain ⟨t, rfl⟩ := e1; exact notin_list_ints hl e2 q
theorem tst_notinB {l : Expr} {es : List Expr} {p p' : Pos} {k : List UInt8} {bs : List (List UInt8)} (h1 : EvP (model prog w) A g L m N (eval l env) (IsB k)) (h2 : Ev (model prog w) A g L m N (spliced (backTo p' (starEach es env))) (fun vs N' => BsAre vs bs ∧ N' = N)) (hz : bs.length ≤ 1000) :
 Tst (model prog w) A g L m N (.Compare l [.NotIn] [.List es p'] p) env (!(bs.any (· == k))) :=
 tst_notin h1 h2 (fun vs h => by
  have : vs.length = bs.length := by clear h1 h2 hz; induction h <;> simp_all
  rw [this, sizeLine_eq]; omega) fun v vs e1 e2 D s Q E hl q => by
   obtain ⟨t, rfl⟩ := e1
   exact SeqInW.notIn_listW (isBytes k) (fun y hy => eq_isBytes k t e2 y (by simpa using hy)) hl (by rw [← Array.any_toList, show vs.toArray.toList = vs from rfl, any_isBytes k e2]; exact q)
theorem ai_nil {p : Pos} : Ev M A g L m N (spliced (backTo p (starEach [] env))) (fun vs N' => IntsAre vs [] ∧ N' = N) := ar_nil ⟨.nil, rfl⟩
theorem ai_cons {e : Expr} {r : List Expr} {p : Pos} {k : Int} {ns : List Int} (h : EvP M A g L m N (eval e env) (IsI k)) (hr : Ev M A g L m N (spliced (backTo p (starEach r env))) (fun vs N' => IntsAre vs ns ∧ N' = N)) (he : starEach (e :: r) env = (false, eval e env) :: starEach r env := by rfl) :
 Ev M A g L m N (spliced (backTo p (starEach (e :: r) env))) (fun vs N' => IntsAre vs (k :: ns) ∧ N' = N) :=
 ar_cons h (fun v N' e => by obtain ⟨⟨t, rfl⟩, rfl⟩ := e; exact ev_mono hr fun vs N' e => ⟨.cons k t e.1, e.2⟩) he
theorem ab_nil {p : Pos} : Ev M A g L m N (spliced (backTo p (starEach [] env))) (fun vs N' => BsAre vs [] ∧ N' = N) := ar_nil ⟨.nil, rfl⟩
theorem ab_cons {e : Expr} {r : List Expr} {p : Pos} {k : List UInt8} {ns : List (List UInt8)} (h : EvP M A g L m N (eval e env) (IsB k)) (hr : Ev M A g L m N (spliced (backTo p (starEach r env))) (fun vs N' => BsAre vs ns ∧ N' = N)) (he : starEach (e :: r) env = (false, eval e env) :: starEach r env := by rfl) :
 Ev M A g L m N (spliced (backTo p (starEach (e :: r) env))) (fun vs N' => BsAre vs (k :: ns) ∧ N' = N) :=
 ar_cons h (fun v N' e => by obtain ⟨⟨t, rfl⟩, rfl⟩ := e; exact ev_mono hr fun vs N' e => ⟨.cons k t e.1, e.2⟩) he
end
section
variable {w : World} {M : Model} {A : Around} {g : Heap} {L : Addr} {m : Loc} {N : Led} {K : Frag} {env : Env} {prog : Program}
theorem ak_nil {p : Pos} {PA : List Value → Led → Prop} (h : PA [] N) : Ev M A g L m N (evalAll ((backToKw p (keywordEach [] env)).map (·.2))) PA := fun s Q E W q => kwAll_nil (q [] s.heap s.toks N h W)
theorem ak_cons {p p' : Pos} {name : Str} {e : Expr} {rest : List Keyword} {P : Value → Led → Prop} {PA : List Value → Led → Prop} (h : Ev M A g L m N (eval e env) P) (k : ∀ v N', P v N' → Ev M A g L m N' (evalAll ((backToKw p (keywordEach rest env)).map (·.2))) (fun vs N2 => PA (v :: vs) N2)) :
 Ev M A g L m N (evalAll ((backToKw p (keywordEach (⟨some name, e, p'⟩ :: rest) env)).map (·.2))) PA := fun s Q E W q =>
 kwAll_cons (h s _ E W fun v h' tk' N' p1 W' => k v N' p1 _ _ E W' fun vs h2 tk2 N2 p2 W2 => q _ h2 tk2 N2 p2 W2)
theorem ev_callWithK {p : Pos} {f : Value} {first : List Value} {e : Expr} {r : List Expr} {kws : List Keyword} {PA : List Value → Led → Prop} {PK : List Value → List Value → Led → Prop} {P : Value → Led → Prop} (B : Bs K g) (hk : Kp K f)
 (ha : Ev M A g L m N (spliced (backTo p (starEach (e :: r) env))) PA) (hk2 : ∀ vs N', PA vs N' → Ev M A g L m N' (evalAll ((backToKw p (keywordEach kws env)).map (·.2))) (PK vs))
 (hc : ∀ vs ks N', PK vs ks N' → Ev M A g L m N' (call f (first ++ vs) (((backToKw p (keywordEach kws env)).filterMap (·.1)).zip ks)) P)
 (hall : (backToKw p (keywordEach kws env)).all (·.1.isSome) = true := by rfl) (hplain : ((backTo p (starEach (e :: r) env)).any (·.1) || (backToKw p (keywordEach kws env)).any (·.1.isNone)) = false := by rfl) (he : starEach (e :: r) env = (false, eval e env) :: starEach r env := by rfl) :
 Ev M A g L m N (callWith p f first (backTo p (starEach (e :: r) env)) (backToKw p (keywordEach kws env))) P := fun s Q E W q =>
 callWith_of (P := K.In) hplain (fun h X => hk M h X) (evalArgs_kw2 hall (ha s _ E W fun vs h' tk' N' p1 W' => hk2 vs N' p1 _ _ E W' fun ks h2 tk2 N2 p2 W2 => ⟨B.X.keeps W2.fr.keep, hc vs ks N2 p2 _ Q E W2 q⟩) he)
theorem ev_MCallK {o : Expr} {name : Str} {apos p : Pos} {args : List Expr} {kws : List Keyword} {pl : Sem Bool} {Po : Value → Led → Prop} {PM : Value → (Value × List Value) → Led → Prop} {P : Value → Led → Prop} (ho : Ev M A g L m N (eval o env) Po)
 (hm : ∀ ov N1, Po ov N1 → Ev M A g L m N1 (getMethod ov name pl) (PM ov))
 (hc : ∀ ov f first N2, PM ov (f, first) N2 → Ev M A g L m N2 (callWith p f first (backTo p (starEach args env)) (backToKw p (keywordEach kws env))) P)
 (he : eval (.Call (.Attribute o name apos) args kws p) env = (do
  let ov ← eval o env
  standAt apos.atName
  let (f, first) ← holding [ov] (getMethod ov name pl)
  callWith p f first (backTo p (starEach args env)) (backToKw p (keywordEach kws env))) := by rfl) : Ev M A g L m N (eval (.Call (.Attribute o name apos) args kws p) env) P := by
 rw [he]
 exact ev_bind ho fun ov N1 p1 => ev_at (ev_bind (ev_holding (hm ov N1 p1)) fun fx N2 p2 => hc ov fx.1 fx.2 N2 p2)
theorem ev_m0 {o : Expr} {name : Str} {apos p : Pos} {pl : Sem Bool} {Po : Value → Led → Prop} {P : Value → Led → Prop} (B : Bs K g) (ho : Ev (model prog w) A g L m N (eval o env) Po)
 (hm : ∀ ov N1, Po ov N1 → ∃ x C dx f es n, ov = .ref x ∧ Ob g N1 x (instObj C dx) ∧ Ob g N1 dx (dictOf es n) ∧ plainGet K C name = true ∧ findIn K (.ref C) name = some (some (.ref f)) ∧ isFn K (.ref f) = true ∧ getL name es = some none ∧ Kp K (.ref f) ∧
  Cd (model prog w) A g L m N1 (.call (.ref f) ⟨[.ref x], []⟩) P)
 (he : eval (.Call (.Attribute o name apos) [] [] p) env = (do
  let ov ← eval o env
  standAt apos.atName
  let (f, first) ← holding [ov] (getMethod ov name pl)
  callWith p f first (backTo p (starEach [] env)) []) := by rfl) : Ev (model prog w) A g L m N (eval (.Call (.Attribute o name apos) [] [] p) env) P := by
 refine ev_MCall (PM := fun ov fx N2 => ∃ f x, fx = (.ref f, [.ref x]) ∧ Kp K (.ref f) ∧ Cd (model prog w) A g L m N2 (.call (.ref f) ⟨[.ref x], []⟩) P) ho ?_ ?_ he
 · intro ov N1 p1
   obtain ⟨x, C, dx, f, es, n, rfl, h1, h2, h3, h4, h5, h6, h7, h8⟩ := hm ov N1 p1
   exact ev_mono (gm_inst B h1 h2 h3 h4 h5 h6) fun fx N' e => ⟨f, x, e.1, h7, e.2 ▸ h8⟩
 · rintro ov f first N2 ⟨f', x, e, hk, hc⟩
   obtain ⟨rfl, rfl⟩ := Prod.mk.inj e
   exact ev_callWith0 B hk (ev_of_cd hc)
end
noncomputable def gP : Nat := 57896044618658097711785492504343953926634992332820282019728792003956564819949
noncomputable def gB : Nat := 47962653777612059811531418077271348761744880276845910084186123193600379925034
theorem gP_pos : 0 < gP := by decide
theorem gP_lt : gP < 2 ^ 255 := by decide
theorem gB_lt : gB < 2 ^ 255 := by decide
theorem gP_256 : gP < 256 ^ 32 := by decide
section
variable {w : World} {M : Model} {A : Around} {g : Heap} {L : Addr} {m : Loc} {N : Led} {K : Frag} {env : Env} {x : Addr} {n : Nat}
theorem ev_g1 {fe e1 : Expr} {p : Pos} {f : Value} {p1 : Value → Prop} {P : Value → Led → Prop} (B : Bs K g) (hf : EvP M A g L m N (eval fe env) (IsV f)) (hk : Kp K f) (h1 : EvP M A g L m N (eval e1 env) p1) (hc : ∀ v, p1 v → Cd M A g L m N (.call f ⟨[v], []⟩) P)
 (he : eval (.Call fe [e1] [] p) env = (do callWith p (← eval fe env) [] (backTo p (starEach [e1] env)) (backToKw p (keywordEach [] env))) := by rfl)
 (he1 : starEach [e1] env = (false, eval e1 env) :: starEach [] env := by rfl) : Ev M A g L m N (eval (.Call fe [e1] [] p) env) P := ev_Call1 B hf hk h1 (fun v h => ev_of_cd (hc v h)) he he1
theorem ev_g2 {fe e1 e2 : Expr} {p : Pos} {f : Value} {p1 p2 : Value → Prop} {P : Value → Led → Prop} (B : Bs K g) (hf : EvP M A g L m N (eval fe env) (IsV f)) (hk : Kp K f) (h1 : EvP M A g L m N (eval e1 env) p1) (h2 : EvP M A g L m N (eval e2 env) p2)
 (hc : ∀ v u, p1 v → p2 u → Cd M A g L m N (.call f ⟨[v, u], []⟩) P)
 (he : eval (.Call fe [e1, e2] [] p) env = (do callWith p (← eval fe env) [] (backTo p (starEach [e1, e2] env)) (backToKw p (keywordEach [] env))) := by rfl)
 (he1 : starEach [e1, e2] env = (false, eval e1 env) :: starEach [e2] env := by rfl) (he2 : starEach [e2] env = (false, eval e2 env) :: starEach [] env := by rfl) (hplain : (backTo p (starEach [e2] env)).any (·.1) = false := by rfl) : Ev M A g L m N (eval (.Call fe [e1, e2] [] p) env) P :=
 ev_Call2 B hf hk h1 h2 (fun v u h h' => ev_of_cd (hc v u h h')) he he1 he2 hplain
theorem from_cls (P : Params) : findCls (KF P) (.type "int") (.type "type") (Str.ofString "from_bytes") = some (.get (.builtin "classmethod_descriptor.__get__") (.builtin "int.from_bytes") .none (.type "int")) := by kernel_rfl
theorem s_number {b : List UInt8} {v : Value} (B : Bs (KF w.params) g) (r : Rm A 1) (hl : b.length ≤ 1000) (hv : IsB b v) : CdP (model PR w) A g L m N (.call (.ref 204) ⟨[v], []⟩) (IsI (num b)) := by
 obtain ⟨t, rfl⟩ := hv
 refine cd_pcall [("octets", .bytes b.toArray t)] B r rfl (by kernel_rfl) (fun s X => BindsTo.of_eq rfl) (by rfl) ?_ (by decide)
 intro h₀ L' A' r st sr B
 exact xs_return (ev_from B (no_int _) (from_cls _) (fun N => ev_localB rfl) (fun N => ev_str) hl) fun v N' h => h.1
theorem s_octets {x : Nat} {v : Value} (B : Bs (KF w.params) g) (r : Rm A 1) (hv : IsI x v) : CdP (model PR w) A g L m N (.call (.ref 211) ⟨[v], []⟩) (IsB (be 32 (x % gP))) := by
 obtain ⟨t, rfl⟩ := hv
 refine cd_pcall [("number", .int x t)] B r rfl (by kernel_rfl) (fun s X => BindsTo.of_eq rfl) (by rfl) ?_ (by decide)
 intro h₀ L' A' r st sr B
 exact xs_return (ev_to (k := 32) B (ev_modN (y := gP) (ev_localI rfl) (ev_globalI B (gl_PRIME _)) (by rfl) (by decide)) ev_int ev_str (by decide) (Nat.lt_trans (Nat.mod_lt _ gP_pos) gP_256)) fun v N' h => h.1
theorem s_verify {b : List UInt8} {v : Value} (B : Bs (KF w.params) g) (r : Rm A 2) (hl : b.length ≤ 1000) (hv : IsB b v) : CdP (model PR w) A g L m N (.call (.ref 218) ⟨[v], []⟩) (IsT (decide ((0 : Int) < num b) && decide ((num b : Int) < gP))) := by
 obtain ⟨t, rfl⟩ := hv
 refine cd_pcall [("secret", .bytes b.toArray t)] B r rfl (by kernel_rfl) (fun s X => BindsTo.of_eq rfl) (by rfl) ?_ (by decide)
 intro h₀ L' A' r st sr B
 exact xs_return (ev_cmp2lt ev_int (ev_g1 B (ev_global B (gl_number _)) (kp_number _) (ev_localB rfl) fun v h => s_number B r hl h) (ev_globalI B (gl_PRIME _))) fun v N' h => h.1
theorem num_lt2 {b : List UInt8} {k : Nat} (h : b.length ≤ k) : num b < 2 ^ (8 * k) := by
 refine Nat.lt_of_lt_of_le (num_lt b) ?_
 have e2 : (2 : Nat) ^ 8 = 256 := by decide
 rw [Nat.pow_mul, e2]
 exact Nat.pow_le_pow_right (by decide) h
theorem s_create {b : List UInt8} {v : Value} (B : Bs (KF w.params) g) (r : Rm A 2) (hl : b.length ≤ 1000) (hv : IsB b v) : CdP (model PR w) A g L m N (.call (.ref 225) ⟨[v], []⟩) (IsB (be 32 (num b * gB % gP))) := by
 obtain ⟨t, rfl⟩ := hv
 refine cd_pcall [("secret", .bytes b.toArray t)] B r rfl (by kernel_rfl) (fun s X => BindsTo.of_eq rfl) (by rfl) ?_ (by decide)
 intro h₀ L' A' r st sr B
 exact xs_return (ev_g1 B (ev_global B (gl_octets _)) (kp_octets _) (ev_mulN (y := gB) (ev_g1 B (ev_global B (gl_number _)) (kp_number _) (ev_localB rfl) fun v h => s_number B r hl h) (ev_globalI B (gl_BASE _)) (by rfl) (mulOk (num_lt2 hl) gB_lt)) fun v h => s_octets B r h) fun v N' h => h.1
theorem s_privadd {b c : List UInt8} {v u : Value} (B : Bs (KF w.params) g) (r : Rm A 2) (hl : b.length ≤ 1000) (hl' : c.length ≤ 1000) (hv : IsB b v) (hu : IsB c u) : CdP (model PR w) A g L m N (.call (.ref 247) ⟨[v, u], []⟩) (IsB (be 32 ((num b + num c) % gP))) := by
 obtain ⟨t, rfl⟩ := hv; obtain ⟨t', rfl⟩ := hu
 refine cd_pcall [("secret", .bytes b.toArray t), ("tweak", .bytes c.toArray t')] B r rfl (by kernel_rfl) (fun s X => BindsTo.of_eq rfl) (by rfl) ?_ (by decide)
 intro h₀ L' A' r st sr B
 exact xs_return (ev_g1 B (ev_global B (gl_octets _)) (kp_octets _) (ev_addN (ev_g1 B (ev_global B (gl_number _)) (kp_number _) (ev_localB rfl) fun v h => s_number B r hl h) (ev_g1 B (ev_global B (gl_number _)) (kp_number _) (ev_localB rfl) fun v h => s_number B r hl' h) rfl) fun v h => s_octets B r h) fun v N' h => h.1
theorem s_pubadd {b c : List UInt8} {v u : Value} (B : Bs (KF w.params) g) (r : Rm A 2) (hl : b.length ≤ 1000) (hl' : c.length ≤ 1000) (hv : IsB b v) (hu : IsB c u) : CdP (model PR w) A g L m N (.call (.ref 254) ⟨[v, u], []⟩) (IsB (be 32 ((num b + num c * gB) % gP))) := by
 obtain ⟨t, rfl⟩ := hv; obtain ⟨t', rfl⟩ := hu
 refine cd_pcall [("point", .bytes b.toArray t), ("tweak", .bytes c.toArray t')] B r rfl (by kernel_rfl) (fun s X => BindsTo.of_eq rfl) (by rfl) ?_ (by decide)
 intro h₀ L' A' r st sr B
 exact xs_return (ev_g1 B (ev_global B (gl_octets _)) (kp_octets _) (ev_addN (ev_g1 B (ev_global B (gl_number _)) (kp_number _) (ev_localB rfl) fun v h => s_number B r hl h) (ev_mulN (y := gB) (ev_g1 B (ev_global B (gl_number _)) (kp_number _) (ev_localB rfl) fun v h => s_number B r hl' h) (ev_globalI B (gl_BASE _)) (by rfl) (mulOk (num_lt2 hl') gB_lt)) rfl) fun v h => s_octets B r h) fun v N' h => h.1
noncomputable def psec (x : Nat) : List UInt8 := UInt8.ofNat (if 2 * x < gP then 2 else 3) :: be 32 (min x (gP - x) % gP)
theorem s_pser {b : List UInt8} {v u : Value} {t2 : Tok} (B : Bs (KF w.params) g) (r : Rm A 3) (hl : b.length ≤ 1000) (hv : IsB b v) (hb : num b ≤ gP) : CdP (model PR w) A g L m N (.call (.ref 233) ⟨[v, .int 258 t2], []⟩) (IsB (psec (num b))) := by
 obtain ⟨t, rfl⟩ := hv
 refine cd_pcall [("point", .bytes b.toArray t), ("flag", .int 258 t2)] B r rfl (by kernel_rfl) (fun s X => binds_K X rfl rfl rfl rfl rfl) (by rfl) ?_ (by decide)
 intro h₀ L' A' r st sr B
 refine xs_assign (ev_g1 B (ev_global B (gl_number _)) (kp_number _) (ev_localB rfl) fun v h => s_number B r.le hl h) ?_
 refine i_a fun t3 => ?_
 refine xs_if (c := (258 : Int) == 2) (tst_cmp1 (ev_localI rfl) (ev_globalI B (gl_EC_UNCOMPRESSED _)) fun x y h h' => co_eq h h') (fun h => absurd h (by decide)) fun _ => nx_nil ?_
 refine xs_return (ev_addB (x := [UInt8.ofNat (if 2 * num b < gP then 2 else 3)]) (ev_bytes1 (n := if 2 * num b < gP then 2 else 3) B r.le (no_bytes _) (ev_ifexp (c := decide (((2 * num b : Nat) : Int) < gP)) (P := fun v N' => IsI ((if 2 * num b < gP then 2 else 3 : Nat) : Int) v ∧ N' = []) (tst_cmp1 (ev_mulN (x := 2) ev_int (ev_localI rfl) rfl (.of_left (by decide))) (ev_globalI B (gl_PRIME _)) fun x y h h' => co_lt h h') (fun h => ?_) (fun h => ?_)) rfl (by split <;> decide))
  (ev_g1 B (ev_global B (gl_octets _)) (kp_octets _) (ev_Call2 B (ev_builtin B (no_min _) (by rfl)) kp_b (ev_localI rfl) (ev_subN (x := gP) (ev_globalI B (gl_PRIME _)) (ev_localI rfl) rfl hb) fun x y h h' => call_min r.le h h') fun v h => s_octets B r.le h) (by simp [be_length])) fun v N' h => h.1
 · have : 2 * num b < gP := by have := of_decide_eq_true h; omega
   rw [if_pos this]; exact ev_int
 · have : ¬ 2 * num b < gP := by have := of_decide_eq_false h; omega
   rw [if_neg this]; exact ev_int
end
section
variable {w : World} {M : Model} {A : Around} {g : Heap} {L : Addr} {m : Loc} {N : Led} {env : Env} {C x dx : Addr}
theorem tst_eq {e : Expr} {b c : Bool} (h : Tst M A g L m N e env b) (q : b = c) : Tst M A g L m N e env c := q ▸ h
theorem evI_eq {t : Sem Value} {x y : Int} (h : EvP M A g L m N t (IsI x)) (q : x = y) : EvP M A g L m N t (IsI y) := q ▸ h
theorem evB_eq {t : Sem Value} {x y : List UInt8} (h : EvP M A g L m N t (IsB x)) (q : x = y) : EvP M A g L m N t (IsB y) := q ▸ h
theorem evT_eq {t : Sem Value} {x y : Bool} (h : EvP M A g L m N t (IsT x)) (q : x = y) : EvP M A g L m N t (IsT y) := q ▸ h
noncomputable def pnum (b : List UInt8) : Nat := if (b.getD 0 0).toNat = 2 then num (sl b (some 1) (some 33)) else gP - num (sl b (some 1) (some 33))
theorem s_pparse {b : List UInt8} {v : Value} (B : Bs (KF w.params) g) (r : Rm A 3) (hl : b.length = 33) (hv : IsB b v) (h0 : num (sl b (some 1) (some 33)) ≠ 0) (h1 : 2 * num (sl b (some 1) (some 33)) ≤ gP) : CdP (model PR w) A g L m N (.call (.ref 240) ⟨[v], []⟩) (IsB (be 32 (pnum b % gP))) := by
 obtain ⟨t, rfl⟩ := hv
 refine cd_pcall [("sec", .bytes b.toArray t)] B r rfl (by kernel_rfl) (fun s X => BindsTo.of_eq rfl) (by rfl) ?_ (by decide)
 intro h₀ L' A' r st sr B
 have hz := sl_len b (some 1) (some 33)
 refine xs_assign (ev_g1 B (ev_global B (gl_number _)) (kp_number _) (ev_slB (ev_localB rfl) (pt_int ev_int) (pt_int ev_int) (by omega)) fun v h => s_number B r.le (by omega) h) ?_
 refine i_a fun t3 => ?_
 have hlen : ∀ {e p p'} {N : Led}, EvP (model PR w) A' h₀ L' [("number", .int (num (sl b (some 1) (some 33))) t3), ("sec", .bytes b.toArray t)] N (eval (.Call (.Name "len" p) [.Name "sec" p'] [] e) (envX n_ec_pubkey_parse (fs1 28) L' 240 (.ref 239) [])) (IsI 33) := fun {e p p' N} =>
  evI_eq (ev_Call1 B (ev_builtin B (no_len _) (by rfl)) kp_b (ev_localB rfl) fun v h => call_lenB h (by omega)) (by rw [hl]; rfl)
 refine xs_if (c := false) (tst_or (b := false) (c := false) (tst_eq (tst_notinI hlen (ai_cons ev_int (ai_cons ev_int ai_nil)) (by decide)) (by decide)) fun _ => tst_or (b := false) (c := false) (tst_eq (tst_cmp1 (ev_localI rfl) ev_int fun x y h h' => co_eq h h') ?_) fun _ =>
  tst_or (b := false) (c := false) (tst_eq (tst_cmp1 (ev_mulN (x := 2) ev_int (ev_localI rfl) rfl (.of_left (by decide))) (ev_globalI B (gl_PRIME _)) fun x y h h' => co_gt h h') ?_) fun _ => tst_or0) (fun h => nomatch h) fun _ => nx_nil ?_
 · exact beq_false_of_ne (by omega)
 · exact decide_eq_false (by show ¬ ((gP : Int) < _); omega)
 refine xs_return (P := fun v N' => IsB (be 32 (pnum b % gP)) v ∧ N' = []) (ev_ifexp (c := (33 : Int) == 65) (tst_cmp1 hlen ev_int fun x y h h' => co_eq h h') (fun h => absurd h (by decide)) fun _ => ?_) fun v N' h => h.1
 refine ev_g1 B (ev_global B (gl_octets _)) (kp_octets _) (p1 := IsI (pnum b)) ?_ fun v h => s_octets B r.le h
 refine ev_ifexp (c := ((b.getD 0 0).toNat : Int) == 2) (tst_cmp1 (ev_ixB (i := 0) (ev_localB rfl) ev_int rfl (by omega) (by omega)) ev_int fun x y h h' => co_eq h h') (fun h => ?_) fun h => ?_
 · refine evI_eq (ev_localI rfl) ?_
   unfold pnum
   rw [if_pos (by have := eq_of_beq h; omega)]
 · refine evI_eq (ev_subN (x := gP) (y := num (sl b (some 1) (some 33))) (ev_globalI B (gl_PRIME _)) (ev_localI rfl) rfl (by omega)) ?_
   unfold pnum
   rw [if_neg (fun e => by rw [e] at h; exact absurd h (by decide))]
noncomputable def hC : Nat := 48181483302151357469556550866566148933
noncomputable def sha (d : List UInt8) : List UInt8 := be 32 (num (1 :: d) * num (1 :: d) * hC % (2 ^ 255 - 19))
theorem sha_length (d : List UInt8) : (sha d).length = 32 := be_length _ _
noncomputable def sha2 (d : List UInt8) : List UInt8 := sha (108 :: d) ++ sha (114 :: d)
theorem sha2_length (d : List UInt8) : (sha2 d).length = 64 := by simp [sha2, sha_length]
noncomputable def ShaN (P : Params) (C : Addr) (d : List UInt8) (x : Addr) (N N' : Led) : Prop := ∃ dx t u, N' = (x, instObj C dx) :: (dx, dictOf [en P "data" t (.bytes d.toArray u)] 1) :: N
theorem s_shainit {C : Addr} {d : List UInt8} {v : Value} (B : Bs (KF w.params) g) (r : Rm A 1) (hv : IsB d v) (hs : findIn (KF w.params) (.ref C) "__setattr__" = some (some (.builtin "object.__setattr__"))) (hp : plainOver (KF w.params) C = true) (ht : takerIn (KF w.params) C "data" = some none) (hh : hasDictIn (KF w.params) C = true) :
 Cd (model PR w) A g L m ((x, instObj C dx) :: (dx, dictOf [] 0) :: N) (.call (.ref 41) ⟨[.ref x, v], []⟩) (fun v N' => v = .none ∧ ∃ t u, N' = (x, instObj C dx) :: (dx, dictOf [en w.params "data" t (.bytes d.toArray u)] 1) :: N) := by
 obtain ⟨u, rfl⟩ := hv
 refine cd_mono (cd_call (C := [(x, instObj C dx), (dx, dictOf [] 0)]) (R := N) (P := fun v C' => v = .none ∧ ∃ t, C' = [(x, instObj C dx), (dx, dictOf [en w.params "data" t (.bytes d.toArray u)] 1)]) [("self", .ref x), ("data", .bytes d.toArray u)] B r rfl (by kernel_rfl) (fun s X => binds_K X rfl rfl rfl rfl rfl) (by rfl) ?_ (by decide)) ?_
 · intro h₀ L' A' r st sr B
   refine xs_setattr (i := 1) B (ev_local rfl) (ev_local rfl) (.inl (.head _)) rfl hs hp ht hh rfl (by decide) fun v t e => ?_
   obtain rfl : v = _ := e
   exact xs_nil ⟨rfl, t, rfl⟩
 · refine i_f (i_h (i_1 fun t => ?_))
   exact ⟨rfl, t, u, rfl⟩
theorem s_shanew {d : List UInt8} {v : Value} (B : Bs (KF w.params) g) (r : Rm A 2) (hv : IsB d v) : Cd (model PR w) A g L m N (.call (.ref 58) ⟨[v], []⟩) (fun v N' => ∃ x, v = .ref x ∧ ShaN w.params 58 d x N N') :=
 cd_mono (cd_make (P := fun x dx N' => ∃ t u, N' = (x, instObj 58 dx) :: (dx, dictOf [en w.params "data" t (.bytes d.toArray u)] 1) :: N) B (cm_Sha256 _) (ci_Sha256 _) (fn_41 _) fun x dx => s_shainit B r.made hv (cs_Sha256 _) (cp_Sha256 _) (ft_Sha256_data _) (ch_Sha256 _)) fun v N' ⟨x, dx, e, t, u, h⟩ => ⟨x, e, dx, t, u, h⟩
theorem s_sha5new {d : List UInt8} {v : Value} (B : Bs (KF w.params) g) (r : Rm A 2) (hv : IsB d v) : Cd (model PR w) A g L m N (.call (.ref 79) ⟨[v], []⟩) (fun v N' => ∃ x, v = .ref x ∧ ShaN w.params 79 d x N N') :=
 cd_mono (cd_make (P := fun x dx N' => ∃ t u, N' = (x, instObj 79 dx) :: (dx, dictOf [en w.params "data" t (.bytes d.toArray u)] 1) :: N) B (cm_Sha512 _) (ci_Sha512 _) (fn_41 _) fun x dx => s_shainit B r.made hv (cs_Sha512 _) (cp_Sha512 _) (ft_Sha512_data _) (ch_Sha512 _)) fun v N' ⟨x, dx, e, t, u, h⟩ => ⟨x, e, dx, t, u, h⟩
theorem s_digest {d : List UInt8} {t u : Tok} (B : Bs (KF w.params) g) (r : Rm A 1) (hl : d.length ≤ 900) (hx : Ob g N x (instObj 58 dx)) (hd : Ob g N dx (dictOf [en w.params "data" t (.bytes d.toArray u)] 1)) :
 CdP (model PR w) A g L m N (.call (.ref 55) ⟨[.ref x], []⟩) (IsB (sha d)) := by
 refine cd_pcall [("self", .ref x)] B r rfl (by kernel_rfl) (fun s X => BindsTo.of_eq rfl) (by rfl) ?_ (by decide)
 intro h₀ L' A' r st sr B
 have hx := hx.mono (N' := []) st fun p hp => .inr (sr p hp)
 have hd := hd.mono (N' := []) st fun p hp => .inr (sr p hp)
 refine xs_assign (ev_from (b := 1 :: d) B (no_int _) (from_cls _) (fun N => ev_addB (x := [1]) (y := d) ev_bytes (is_B (ev_own B (ev_local rfl) (hx.mono (fun _ _ e => e) fun _ h => nomatch h) (hd.mono (fun _ _ e => e) fun _ h => nomatch h) (cg_Sha256 _ _) (ch_Sha256 _) (ff_Sha256_data _) rfl rfl)) (by simp; omega)) (fun N => ev_str) (by simp; omega)) ?_
 refine i_a fun t3 => ?_
 have hn : num (1 :: d) < 2 ^ (8 * 901) := num_lt2 (by simp; omega)
 have hn2 : num (1 :: d) * num (1 :: d) < 2 ^ (8 * 901 + 8 * 901) := by rw [Nat.pow_add]; exact Nat.mul_lt_mul'' hn hn
 exact xs_return (ev_to (k := 32) B (ev_modN (y := 2 ^ 255 - 19) (ev_mulN (y := hC) (ev_mulN (ev_localI rfl) (ev_localI rfl) rfl (mulOk hn hn)) ev_int (by rfl) (mulOk hn2 (show hC < 2 ^ 128 by decide))) (ev_sub (ev_pow ev_int ev_int (by decide) (by decide) (by decide)) ev_int) (by decide) (by decide)) ev_int ev_str (by decide) (Nat.lt_trans (Nat.mod_lt _ (by decide)) (by decide))) fun v N' h => h.1
end
section
variable {w : World} {A : Around} {g : Heap} {L a : Addr} {m : Loc} {N : Led} {cn : Str} {cs : Scope} {ccd : Value} {env : Env} {C x dx : Addr}
theorem ev_dig {oe : Expr} {apos p : Pos} {pl : Sem Bool} {C f : Addr} {d h : List UInt8} (B : Bs (KF w.params) g) (ho : Ev (model PR w) A g L m N (eval oe env) (fun v N' => ∃ x, v = .ref x ∧ ShaN w.params C d x N N'))
 (hg : plainGet (KF w.params) C "digest" = true) (hf : findIn (KF w.params) (.ref C) "digest" = some (some (.ref f))) (ht : isFn (KF w.params) (.ref f) = true) (hk : Kp (KF w.params) (.ref f))
 (hc : ∀ x dx t u (N' : Led), Ob g N' x (instObj C dx) → Ob g N' dx (dictOf [en w.params "data" t (.bytes d.toArray u)] 1) → CdP (model PR w) A g L m N' (.call (.ref f) ⟨[.ref x], []⟩) (IsB h))
 (he : eval (.Call (.Attribute oe "digest" apos) [] [] p) env = (do
  let ov ← eval oe env
  standAt apos.atName
  let (f, first) ← holding [ov] (getMethod ov "digest" pl)
  callWith p f first (backTo p (starEach [] env)) []) := by rfl) : EvP (model PR w) A g L m N (eval (.Call (.Attribute oe "digest" apos) [] [] p) env) (IsB h) := by
 refine ev_weaken (P := fun v N' => IsB h v ∧ ∃ a b, N' = a :: b :: N) (ev_m0 B ho ?_ he) fun v N' ⟨h1, a, b, e⟩ => ⟨N, by rw [e]; exact (List.sublist_cons_self _ _).trans (List.sublist_cons_self _ _), h1, rfl⟩
 refine i_g fun x => i_3 fun dx t u => ?_
 exact ⟨x, C, dx, f, _, _, rfl, .inl (.head _), .inl (.tail _ (.head _)), hg, hf, ht, rfl, hk, cd_mono (hc x dx t u _ (.inl (.head _)) (.inl (.tail _ (.head _)))) fun v N' e => ⟨e.1, _, _, e.2⟩⟩
theorem ev_sha {e : Expr} {p1 apos p p' : Pos} {pl : Sem Bool} {d : List UInt8} (B : Bs (KF w.params) g) (r : Rm A 2) (hl : d.length ≤ 900) (h : EvP (model PR w) A g L m N (eval e (envX cn cs L a ccd [])) (IsB d))
 (hk : cs.kind = .function := by rfl) (hx : (envX cn cs L a ccd []).kindOf "Sha256" = some .globalImplicit := by rfl)
 (he : eval (.Call (.Attribute (.Call (.Name "Sha256" p1) [e] [] p') "digest" apos) [] [] p) (envX cn cs L a ccd []) = (do
  let ov ← eval (.Call (.Name "Sha256" p1) [e] [] p') (envX cn cs L a ccd [])
  standAt apos.atName
  let (f, first) ← holding [ov] (getMethod ov "digest" pl)
  callWith p f first (backTo p (starEach [] (envX cn cs L a ccd []))) []) := by rfl)
 (he0 : eval (.Call (.Name "Sha256" p1) [e] [] p') (envX cn cs L a ccd []) = (do callWith p' (← eval (.Name "Sha256" p1) (envX cn cs L a ccd [])) [] (backTo p' (starEach [e] (envX cn cs L a ccd []))) (backToKw p' (keywordEach [] (envX cn cs L a ccd [])))) := by rfl)
 (he1 : starEach [e] (envX cn cs L a ccd []) = (false, eval e (envX cn cs L a ccd [])) :: starEach [] (envX cn cs L a ccd []) := by rfl) :
 EvP (model PR w) A g L m N (eval (.Call (.Attribute (.Call (.Name "Sha256" p1) [e] [] p') "digest" apos) [] [] p) (envX cn cs L a ccd [])) (IsB (sha d)) :=
 ev_dig B (ev_g1 B (ev_global B (gl_Sha256 _) hk hx) (kp_Sha256 _) h (fun v h => s_shanew B r h) he0 he1) (cg_Sha256 _ _) (fm_Sha256_digest _) (fn_55 _) (kp_55 _) (fun x dx t u N' h1 h2 => s_digest B r.le hl h1 h2) he
theorem s_digest5 {d : List UInt8} {t u : Tok} (B : Bs (KF w.params) g) (r : Rm A 3) (hl : d.length ≤ 800) (hx : Ob g N x (instObj 79 dx)) (hd : Ob g N dx (dictOf [en w.params "data" t (.bytes d.toArray u)] 1)) :
 CdP (model PR w) A g L m N (.call (.ref 76) ⟨[.ref x], []⟩) (IsB (sha2 d)) := by
 refine cd_pcall [("self", .ref x)] B r rfl (by kernel_rfl) (fun s X => BindsTo.of_eq rfl) (by rfl) ?_ (by decide)
 intro h₀ L' A' r st sr B
 have hx := hx.mono (N' := []) st fun p hp => .inr (sr p hp)
 have hd := hd.mono (N' := []) st fun p hp => .inr (sr p hp)
 have hdat : ∀ {p p' : Pos}, EvP (model PR w) A' h₀ L' [("self", .ref x)] [] (eval (.Attribute (.Name "self" p') "data" p) (envX (sm [83, 104, 97, 53, 49, 50, 46, 100, 105, 103, 101, 115, 116]) (fs2 4 0) L' 76 (.ref 75) [])) (IsB d) := fun {p p'} =>
  is_B (ev_own B (ev_local rfl) hx hd (cg_Sha512 _ _) (ch_Sha512 _) (ff_Sha512_data _) rfl rfl)
 refine xs_return (ev_addB (ev_sha B r.le (by simp; omega) (ev_addB (x := [108]) ev_bytes hdat (by simp; omega))) (ev_sha B r.le (by simp; omega) (ev_addB (x := [114]) ev_bytes hdat (by simp; omega))) (by rw [sha_length, sha_length]; decide)) fun v N' h => h.1
theorem s_hsha {d : List UInt8} {v : Value} (B : Bs (KF w.params) g) (r : Rm A 3) (hv : IsB d v) : Cd (model PR w) A g L m N (.call (.ref 96) ⟨[v], []⟩) (fun v N' => ∃ x, v = .ref x ∧ ShaN w.params 58 d x N N') := by
 obtain ⟨t, rfl⟩ := hv
 refine cd_mono (cd_call (C := []) (R := N) (P := fun v C' => ∃ x, v = .ref x ∧ ShaN w.params 58 d x [] C') [("data", .bytes d.toArray t)] B r rfl (by kernel_rfl) (fun s X => binds_K X rfl rfl rfl rfl rfl) (by rfl) ?_ (by decide)) ?_
 · intro h₀ L' A' r st sr B
   exact xs_return (ev_g1 B (ev_global B (gl_Sha256 _)) (kp_Sha256 _) (ev_localB rfl) fun v h => s_shanew B r h) fun v N' h => h
 · refine i_f (i_g fun x => i_3 fun dx t u => ?_)
   exact ⟨x, rfl, dx, t, u, rfl⟩
theorem ev_hsha {e : Expr} {p1 apos apos2 p p' : Pos} {pl pl2 : Sem Bool} {d : List UInt8} (B : Bs (KF w.params) g) (r : Rm A 3) (hl : d.length ≤ 900) (h : EvP (model PR w) A g L m N (eval e (envX cn cs L a ccd [])) (IsB d))
 (hk : cs.kind = .function := by rfl) (hx : (envX cn cs L a ccd []).kindOf "hashlib" = some .globalImplicit := by rfl)
 (he : eval (.Call (.Attribute (.Call (.Attribute (.Name "hashlib" p1) "sha256" apos2) [e] [] p') "digest" apos) [] [] p) (envX cn cs L a ccd []) = (do
  let ov ← eval (.Call (.Attribute (.Name "hashlib" p1) "sha256" apos2) [e] [] p') (envX cn cs L a ccd [])
  standAt apos.atName
  let (f, first) ← holding [ov] (getMethod ov "digest" pl)
  callWith p f first (backTo p (starEach [] (envX cn cs L a ccd []))) []) := by rfl)
 (he0 : eval (.Call (.Attribute (.Name "hashlib" p1) "sha256" apos2) [e] [] p') (envX cn cs L a ccd []) = (do
  let ov ← eval (.Name "hashlib" p1) (envX cn cs L a ccd [])
  standAt apos2.atName
  let (f, first) ← holding [ov] (getMethod ov "sha256" pl2)
  callWith p' f first (backTo p' (starEach [e] (envX cn cs L a ccd []))) []) := by rfl)
 (he1 : starEach [e] (envX cn cs L a ccd []) = (false, eval e (envX cn cs L a ccd [])) :: starEach [] (envX cn cs L a ccd []) := by rfl) :
 EvP (model PR w) A g L m N (eval (.Call (.Attribute (.Call (.Attribute (.Name "hashlib" p1) "sha256" apos2) [e] [] p') "digest" apos) [] [] p) (envX cn cs L a ccd [])) (IsB (sha d)) := by
 refine ev_dig B (ev_MCall (PM := fun _ fx N' => fx = (.ref 96, []) ∧ N' = N) (ev_global B (gl_hashlib _) hk hx) ?_ ?_ he0) (cg_Sha256 _ _) (fm_Sha256_digest _) (fn_55 _) (kp_55 _) (fun x dx t u N' h1 h2 => s_digest B r.le hl h1 h2) he
 · refine i_b ?_
   exact gm_static B (sg_hashlib _) (sm_hashlib _) (sr_hashlib _) (sf_hashlib _) (sp_hashlib _) rfl
 · rintro ov f first N2 ⟨e, rfl⟩
   obtain ⟨rfl, rfl⟩ := Prod.mk.inj e
   refine ev_callWith (PA := fun vs N' => (∃ v, vs = [v] ∧ IsB d v) ∧ N' = N2) B (kp_96 _) (ar_cons h (fun v N' e => ?_) he1) (fun vs N' e => ?_) he1
   · obtain ⟨e, rfl⟩ := e; exact ar_nil ⟨⟨v, rfl, e⟩, rfl⟩
   · obtain ⟨⟨v, rfl, e⟩, rfl⟩ := e; exact ev_of_cd (s_hsha B r e)
noncomputable def ripe (d : List UInt8) : List UInt8 := (sha ([114, 105, 112, 101, 109, 100, 49, 54, 48] ++ d)).take 20
noncomputable def h160 (d : List UInt8) : List UInt8 := ripe (sha d)
noncomputable def dsha (d : List UInt8) : List UInt8 := sha (sha d)
theorem s_ripe {d : List UInt8} {v : Value} (B : Bs (KF w.params) g) (r : Rm A 3) (hl : d.length ≤ 800) (hv : IsB d v) : CdP (model PR w) A g L m N (.call (.ref 148) ⟨[v], []⟩) (IsB (ripe d)) := by
 obtain ⟨t, rfl⟩ := hv
 refine cd_pcall [("msg", .bytes d.toArray t)] B r rfl (by kernel_rfl) (fun s X => BindsTo.of_eq rfl) (by rfl) ?_ (by decide)
 intro h₀ L' A' r st sr B
 exact xs_return (evB_eq (ev_slB (ev_sha B r (by simp; omega) (ev_addB ev_bytes (ev_localB rfl) (by simp; omega))) pt_none (pt_int ev_int) (by rw [sha_length]; decide)) (sl_to _ 20)) fun v N' h => h.1
theorem s_dsha {d : List UInt8} {v : Value} (B : Bs (KF w.params) g) (r : Rm A 4) (hl : d.length ≤ 800) (hv : IsB d v) : CdP (model PR w) A g L m N (.call (.ref 162) ⟨[v], []⟩) (IsB (dsha d)) := by
 obtain ⟨t, rfl⟩ := hv
 refine cd_pcall [("msg", .bytes d.toArray t)] B r rfl (by kernel_rfl) (fun s X => BindsTo.of_eq rfl) (by rfl) ?_ (by decide)
 intro h₀ L' A' r st sr B
 exact xs_return (ev_hsha B r (by rw [sha_length]; decide) (ev_hsha B r (by omega) (ev_localB rfl))) fun v N' h => h.1
theorem s_h160 {d : List UInt8} {v : Value} (B : Bs (KF w.params) g) (r : Rm A 4) (hl : d.length ≤ 800) (hv : IsB d v) : CdP (model PR w) A g L m N (.call (.ref 169) ⟨[v], []⟩) (IsB (h160 d)) := by
 obtain ⟨t, rfl⟩ := hv
 refine cd_pcall [("msg", .bytes d.toArray t)] B r rfl (by kernel_rfl) (fun s X => BindsTo.of_eq rfl) (by rfl) ?_ (by decide)
 intro h₀ L' A' r st sr B
 exact xs_return (ev_g1 B (ev_global B (gl_ripemd160 _)) (kp_ripemd160 _) (ev_hsha B r (by omega) (ev_localB rfl)) fun v h => s_ripe B r (by rw [sha_length]; decide) h) fun v N' h => h.1
theorem s_copy {d : List UInt8} {v : Value} (B : Bs (KF w.params) g) (r : Rm A 2) (hl : d.length ≤ 1000) (h0 : 0 < d.length) (hv : IsB d v) : CdP (model PR w) A g L m N (.call (.ref 155) ⟨[v], []⟩) (IsB d) := by
 obtain ⟨t, rfl⟩ := hv
 refine cd_pcall [("a", .bytes d.toArray t)] B r rfl (by kernel_rfl) (fun s X => BindsTo.of_eq rfl) (by rfl) ?_ (by decide)
 intro h₀ L' A' r st sr B
 refine xs_if (tst_cmp1 (ev_Call1 B (ev_builtin B (no_len _) (by rfl)) kp_b (ev_localB rfl) fun v h => call_lenB h (by omega)) ev_int fun x y h h' => co_eq h h') (fun h => ?_) fun _ => nx_nil ?_
 · have := eq_of_beq h; omega
 · exact xs_return (evB_eq (ev_addB (ev_slB (ev_localB rfl) pt_none (pt_int ev_int) (by omega)) (ev_slB (ev_localB rfl) (pt_int ev_int) pt_none (by omega)) (by have := sl_len d none (some 1); have := sl_len d (some 1) none; omega)) (by
    rw [show (1 : Int) = ((1 : Nat) : Int) from rfl, sl_to, sl_from, List.take_append_drop])) fun v N' h => h.1
end
section
variable {w : World} {M : Model} {A : Around} {g : Heap} {L a : Addr} {m : Loc} {N : Led} {K : Frag} {cn : Str} {cs : Scope} {ccd : Value} {cl : List (Str × Addr)} {env : Env} {prog : Program}
theorem Wf.sub {h : Heap} {N' : Led} (W : Wf g L h m N) (hs : N'.Sublist N) : Wf g L h m N' := ⟨W.fr, fun x hx => W.nw x (hs.subset hx), (hs.map _).nodup W.nd⟩
theorem xs_while {test : Expr} {body rest : List Stmt} {p : Pos} {R : Flow → Loc → Led → Prop} (I : Nat → Loc → Led → Prop) {n₀ : Nat} (h0 : I n₀ m N)
 (turn : ∀ n m N, I n m N → ∃ b, Tst (model prog w) A g L m N test env b ∧ (b = true → Xs (model prog w) A g L m N (execs body env) (fun fl m' N' => fl = .next ∧ ∃ n', n' < n ∧ I n' m' N')) ∧ (b = false → Xs (model prog w) A g L m N (execs rest env) R)) :
 Xs (model prog w) A g L m N (execs (.While test body [] p :: rest) env) R := by
 refine xs_cons fun s Q E W q => ?_
 refine wpAny_mono (While_inv (E := fun _ _ => False) (Q := Q) (h₀ := g) (L := L) (m := lk m) (news := N) (fun n m₁ N₁ => ∃ m', m₁ = lk m' ∧ (N₁.map (·.1)).Nodup ∧ I n m' N₁) (n₀ := n₀) W.fr W.nw ⟨m, rfl, W.nd, h0⟩ ?_ (fun _ _ h => h.elim)) (fun _ _ h => h) fun _ _ h => h.elim
 rintro n m₁ N₁ h₁ tk₁ F₁ n₁ ⟨m', rfl, nd, hI⟩
 obtain ⟨b, ht, h1, h2⟩ := turn n m' N₁ hI
 refine ht { s with heap := h₁, toks := tk₁ } _ _ ⟨F₁, n₁, nd⟩ fun b' h' tk' N' e W' => ?_
 obtain ⟨rfl, rfl⟩ := e
 cases b' with
 | true =>
  rw [if_pos rfl]
  refine h1 rfl _ _ _ W' fun fl h'' tk'' m'' N'' e W'' => ?_
  obtain ⟨rfl, n', hn, hI'⟩ := e
  exact WhileStep.intro W''.fr W''.nw hn ⟨m'', rfl, W''.nd, hI'⟩
 | false =>
  rw [if_neg Bool.false_ne_true]
  exact q .next h' tk' m' N' (h2 rfl) W'
theorem xs_expr {e : Expr} {p : Pos} {rest : List Stmt} {P : Value → Led → Prop} {R : Flow → Loc → Led → Prop} (h : Ev (model prog w) A g L m N (eval e env) P) (k : ∀ v N', P v N' → Xs (model prog w) A g L m N' (execs rest env) R)
 (hi : interactive env = false := by rfl) (hs : swapsWith e none p.line env = pure false := by rfl) : Xs (model prog w) A g L m N (execs (.Expr e p :: rest) env) R :=
 xs_cons fun s Q E W q => wpAny_Expr_any (h s _ E W fun v h' tk' N' p1 W' => q .next h' tk' m N' (k v N' p1) W') hi hs
theorem xs_aug {x : Str} {op : Operator} {e : Expr} {p p' : Pos} {rest : List Stmt} {v0 : Value} {pv : Value → Prop} {P : Value → Led → Prop} {R : Flow → Loc → Led → Prop} (hv : lk m x = some v0) (he : EvP M A g L m N (eval e (envX cn cs L a ccd cl)) pv)
 (hop : ∀ v, pv v → Ev M A g L m N (inplaceOp op v0 v) P) (k : ∀ v N', P v N' → Xs M A g L ((x, v) :: m) N' (execs rest (envX cn cs L a ccd cl)) R)
 (hk : cs.kind = .function := by rfl) (hx : (envX cn cs L a ccd cl).kindOf x = some .local := by rfl) : Xs M A g L m N (execs (.AugAssign (.Name x p') op e p :: rest) (envX cn cs L a ccd cl)) R :=
 xs_cons fun s Q E W q => wpAny_AugAssign_Name (wpAny_loadName_local hk hx W.fr.ns hv (he s _ E W fun v h' tk' N' e1 W' => by
  obtain ⟨e1, rfl⟩ := e1
  exact hop v e1 _ _ E W' fun r h2 tk2 N2 e2 W2 => storeX_L W2.fr W2.nw (fun h3 F3 n3 => q .next h3 (tk2 + 1) _ N2 (k r N2 e2) ⟨lk_cons m x r ▸ F3, n3, W2.nd⟩) hk hx))
theorem xs_tup2 {x y : Str} {e : Expr} {k : Nat} {p p1 p2 p3 : Pos} {rest : List Stmt} {P : Value → Value → Led → Prop} {R : Flow → Loc → Led → Prop} (r : Rm A 0) (he : Ev (model prog w) A g L m N (eval e (envX cn cs L a ccd cl)) (fun v N' => ∃ D v1 v2 n N2, v = .ref D ∧ N' = (D, { cls := .type "tuple", data := .seq #[v1, v2] n }) :: N2 ∧ P v1 v2 N2))
 (kk : ∀ v1 v2 N', P v1 v2 N' → Xs (model prog w) A g L ((y, v2) :: (x, v1) :: m) N' (execs rest (envX cn cs L a ccd cl)) R)
 (hs : swapsWithSole [.Tuple [.Name x p1, .Name y p2] k p3] e p.line (envX cn cs L a ccd cl) = pure false := by rfl) (hw : swappedStores [.Tuple [.Name x p1, .Name y p2] k p3] e (envX cn cs L a ccd cl) = pure none := by rfl)
 (hk : cs.kind = .function := by rfl) (hx : (envX cn cs L a ccd cl).kindOf x = some .local := by rfl) (hy : (envX cn cs L a ccd cl).kindOf y = some .local := by rfl) :
 Xs (model prog w) A g L m N (execs (.Assign [.Tuple [.Name x p1, .Name y p2] k p3] e p :: rest) (envX cn cs L a ccd cl)) R :=
 xs_cons fun s Q E W q => Assign_Tuple (he s _ E W fun v h' tk' N' e1 W' => by
  obtain ⟨D, v1, v2, n, N2, rfl, rfl, hP⟩ := e1
  refine unpackN_ W'.fr W'.nw (W'.nw.isTup (.head _)) r.h rfl rfl fun h2 F2 n2 => ?_
  refine assignInOrder_cons ?_
  show wpAny _ _ (do standAt p1; bindName (envX cn cs L a ccd cl) x v1) _ _ _
  refine wpAny_bind (wpAny_standAt ?_)
  refine wpAny_bind (wpAny_holding (wpAny_point (wpAny_bind (storeX_L F2 n2 (fun h3 F3 n3 => wpAny_point ?_) hk hx))))
  have F3 := lk_cons m x v1 ▸ F3
  refine assignInOrder_cons ?_
  show wpAny _ _ (do standAt p2; bindName (envX cn cs L a ccd cl) y v2) _ _ _
  refine wpAny_bind (wpAny_standAt ?_)
  refine wpAny_bind (wpAny_holding (wpAny_point (wpAny_bind (storeX_L F3 n3 (fun h4 F4 n4 => wpAny_point ?_) hk hy))))
  refine assignInOrder_nil ?_
  have F4 := lk_cons ((x, v1) :: m) y v2 ▸ F4
  exact q .next h4 _ _ N2 (kk v1 v2 N2 hP) ((⟨F4, n4, W'.nd⟩ : Wf g L h4 _ _).sub (List.sublist_cons_self _ _))) hs hw
theorem call_append {D : Addr} {its : Array Value} {n i : Nat} {x : Value} (hN : N[i]? = some (D, listOf its n)) (hz : its.size ≤ sizeLine) : Ev (model prog w) A g L m N (call (.builtin "list.append") [.ref D, x]) (fun v N' => v = .none ∧ N' = N.set i (D, listOf (its.push x) (n + 1))) := fun s Q E W q =>
 append_K W.fr W.nw (upd_at hN W.nd) (fun h' F' n' => q _ h' s.toks _ ⟨rfl, rfl⟩ ⟨F', n', nodup_set hN W.nd⟩) hz
theorem ev_append {e1 e2 : Expr} {apos p : Pos} {pl : Sem Bool} {D : Addr} {its : Array Value} {n i : Nat} {pv : Value → Prop} (B : Bs K g) (h1 : EvP (model prog w) A g L m N (eval e1 env) (IsV (.ref D))) (h2 : EvP (model prog w) A g L m N (eval e2 env) pv) (hN : N[i]? = some (D, listOf its n)) (hz : its.size ≤ sizeLine)
 (he : eval (.Call (.Attribute e1 "append" apos) [e2] [] p) env = (do
  let ov ← eval e1 env
  standAt apos.atName
  let (f, first) ← holding [ov] (getMethod ov "append" pl)
  callWith p f first (backTo p (starEach [e2] env)) []) := by rfl) (he1 : starEach [e2] env = (false, eval e2 env) :: starEach [] env := by rfl) :
 Ev (model prog w) A g L m N (eval (.Call (.Attribute e1 "append" apos) [e2] [] p) env) (fun v N' => ∃ x, pv x ∧ N' = N.set i (D, listOf (its.push x) (n + 1))) := by
 refine ev_MCall (PM := fun _ fx N' => fx = (.builtin "list.append", [.ref D]) ∧ N' = N) h1 ?_ ?_ he
 · rintro ov N1 ⟨rfl, rfl⟩ s Q E W q
   exact listMethod_K W.nw (List.mem_of_getElem? hN) PySem.F.slot_list_append PySem.F.type_list_append (q _ s.heap s.toks _ ⟨rfl, rfl⟩ W)
 · rintro ov f first N2 ⟨e, rfl⟩
   obtain ⟨rfl, rfl⟩ := Prod.mk.inj e
   refine ev_callWith (PA := fun vs N' => (∃ v, vs = [v] ∧ pv v) ∧ N' = N2) B kp_b (ar_cons h2 (fun v N' e => ?_) he1) (fun vs N' e => ?_) he1
   · obtain ⟨e, rfl⟩ := e; exact ar_nil ⟨⟨v, rfl, e⟩, rfl⟩
   · obtain ⟨⟨v, rfl, e⟩, rfl⟩ := e; exact ev_mono (call_append hN hz) fun _ _ e' => ⟨v, e, e'.2⟩
theorem ev_addS {l r : Expr} {p : Pos} {x y : Str} (h1 : EvP (model prog w) A g L m N (eval l env) (IsS x)) (h2 : EvP (model prog w) A g L m N (eval r env) (IsS y)) (hz : x.length + y.length ≤ sizeLine) : EvP (model prog w) A g L m N (eval (.BinOp l .Add r p) env) (IsS (x ++ y)) :=
 ev_BinOp h1 h2 fun _ _ ⟨_, e1⟩ ⟨_, e2⟩ => e1 ▸ e2 ▸ fun s _ _ W q => SB.add (fun t' k => q _ s.heap k N ⟨⟨_, rfl⟩, rfl⟩ W) hz
theorem ev_mulS {l r : Expr} {p : Pos} {x : Str} {n : Int} (h1 : EvP (model prog w) A g L m N (eval l env) (IsS x)) (h2 : EvP (model prog w) A g L m N (eval r env) (IsI n)) (hz : MulOk x n) : EvP (model prog w) A g L m N (eval (.BinOp l .Mult r p) env) (IsS (Txt.mul x n)) :=
 ev_BinOp h1 h2 fun _ _ ⟨_, e1⟩ ⟨_, e2⟩ => e1 ▸ e2 ▸ fun s _ _ W q => SB.mul hz (fun t' k => q _ s.heap k N ⟨⟨_, rfl⟩, rfl⟩ W)
theorem ev_ixS {v e : Expr} {p' : Pos} {x : Str} {i c : Nat} {i' : Int} (h : EvP (model prog w) A g L m N (eval v env) (IsS x)) (hi : EvP (model prog w) A g L m N (eval e env) (IsI i')) (ei : i' = (i : Int)) (hc : x.cps[i]? = some c) (hl : i < 2 ^ 62)
 (hs : ∀ x t i u, subscripted e false (.str x t) (.int i u) = operate [.str x t, .int i u] (getItem (.str x t) (.int i u)) := by intro _ _ _ _; with_unfolding_all rfl) :
 EvP (model prog w) A g L m N (eval (.Subscript v e p') env) (IsS ⟨#[c]⟩) := fun s Q E W q =>
 Subscript_ (h s _ E W fun o h1 tk1 N1 e1 W1 => by
  obtain ⟨⟨t, rfl⟩, rfl⟩ := e1
  refine hi _ _ E W1 fun l h2 tk2 N2 e2 W2 => ?_
  obtain ⟨⟨u, rfl⟩, rfl⟩ := e2
  subst ei
  refine subscriptTail_builtin (typeIs_str _ _ _) F.slot_str_getitem.lookup ?_ (hs _ _ _ _) (by intro _; cases v <;> with_unfolding_all rfl)
  refine P.getItem_str (c := c) ?_ ?_ (q _ h2 (tk2 + 1) N2 ⟨⟨_, rfl⟩, rfl⟩ W2)
  · rw [Bool.or_eq_false_iff]; exact ⟨decide_eq_false (by omega), decide_eq_false (by omega)⟩
  · have hlt : i < x.length := (Array.getElem?_eq_some_iff.mp hc).1
    have : seqIndex? (i : Int) x.length = some i := by
     unfold seqIndex?
     simp; omega
    rw [this]; exact hc)
theorem co_eqS {x y : Str} {v u : Value} (h1 : IsS x v) (h2 : IsS y u) : EvP (model prog w) A g L m N (compareOp .Eq v u) (IsT (x.cps.toList == y.cps.toList)) := by
 obtain ⟨_, rfl⟩ := h1; obtain ⟨_, rfl⟩ := h2; exact fun s _ _ W q => P.eq_str (q _ s.heap s.toks N ⟨rfl, rfl⟩ W)
theorem co_neS {x y : Str} {v u : Value} (h1 : IsS x v) (h2 : IsS y u) : EvP (model prog w) A g L m N (compareOp .NotEq v u) (IsT (x.cps.toList != y.cps.toList)) := by
 obtain ⟨_, rfl⟩ := h1; obtain ⟨_, rfl⟩ := h2; exact fun s _ _ W q => P.ne_str (q _ s.heap s.toks N ⟨rfl, rfl⟩ W)
end
section
variable {w : World} {M : Model} {A : Around} {g : Heap} {L a : Addr} {m : Loc} {N : Led} {cn : Str} {cs : Scope} {ccd : Value} {cl : List (Str × Addr)} {env : Env} {prog : Program}
noncomputable def It (prog : Program) (w : World) (A : Around) (g : Heap) (L : Addr) (N : Led) (kp : Led) (v : Value) (n : Nat) (P : Nat → Value → Prop) : Prop :=
 ∀ (m : Loc) (s : Shared) (Q : Value → Shared → Prop) (E : Value → Shared → Prop), Wf g L s.heap m N →
  (∀ (o : Obj) (fp : List Addr) (St : Nat → Heap → Prop), Walks prog w A s.heap.objs.size fp [s.heap.objs.size] n P St → (∀ b ∈ fp, b = s.heap.objs.size ∨ (g.get? b).isSome = true ∨ ∃ ob, (b, ob) ∈ kp) → (∀ i h, St i h → ∃ it, h.get? s.heap.objs.size = some it) →
   St 0 (s.heap.push o) → Q (.ref s.heap.objs.size) { s with heap := s.heap.push o }) → wpAny (model prog w) A (pyIter v) Q E s
theorem wf_end {h : Heap} {I : Addr} {it : Obj} (F : Fr g L h (lk m)) (n : News g L h N) (nd : (N.map (·.1)).Nodup) (hI : ∀ p ∈ N, p.1 ≠ I) (e : h.get? I = some it) (hL : I ≠ L) (hg : g.get? I = none) : Wf g L h m (N ++ [(I, it)]) := by
 refine ⟨F, fun p hp => ?_, ?_⟩
 · rcases List.mem_append.mp hp with hp | hp
   · exact n p hp
   · rw [List.mem_singleton.mp hp]; exact ⟨e, hL, hg⟩
 · rw [List.map_append, List.nodup_append]
   refine ⟨nd, by simp, fun x hx y hy e => ?_⟩
   obtain ⟨p, hp, rfl⟩ := List.mem_map.mp hx
   rw [List.map_singleton, List.mem_singleton] at hy
   exact hI p hp (e.trans hy)
theorem wf_front {h : Heap} {I : Addr} {it : Obj} (W : Wf g L h m (N ++ [(I, it)])) : Wf g L h m N ∧ (∀ p ∈ N, p.1 ≠ I) := by
 refine ⟨W.sub (List.sublist_append_left _ _), fun p hp e => ?_⟩
 have := W.nd
 rw [List.map_append, List.nodup_append] at this
 exact this.2.2 p.1 (List.mem_map_of_mem hp) I (by simp) e
theorem xs_for {x : Str} {iter : Expr} {body rest : List Stmt} {px pos : Pos} {n : Nat} {P : Nat → Value → Prop} {kp : Led} {R : Flow → Loc → Led → Prop} (J : Nat → Loc → Led → Prop)
 (he : Ev (model prog w) A g L m N (eval iter (envX cn cs L a ccd cl)) (fun v N' => It prog w A g L N' kp v n P ∧ J 0 m N'))
 (hkp : ∀ i m N, J i m N → ∀ p ∈ kp, p ∈ N)
 (step : ∀ i v m₁ N₁ I it, i < n → P i v → J i m₁ N₁ → Xs (model prog w) A g L ((x, v) :: m₁) (N₁ ++ [(I, it)]) (execs body (envX cn cs L a ccd cl)) (fun fl m₂ N₂ => match fl with
  | .ret u => R (.ret u) m₂ N₂
  | .brk => ∃ N₃, N₃.Sublist N₂ ∧ Xs (model prog w) A g L m₂ N₃ (execs rest (envX cn cs L a ccd cl)) R
  | _ => ∃ N₃, N₂ = N₃ ++ [(I, it)] ∧ J (i + 1) m₂ N₃))
 (done : ∀ m₁ N₁, J n m₁ N₁ → Xs (model prog w) A g L m₁ N₁ (execs rest (envX cn cs L a ccd cl)) R)
 (hk : cs.kind = .function := by rfl) (hx : (envX cn cs L a ccd cl).kindOf x = some .local := by rfl) (hs : ∀ x, foldedSetIterable iter (envX cn cs L a ccd cl) x = pure x := by intro _; rfl) :
 Xs (model prog w) A g L m N (execs (.For (.Name x px) iter body [] pos :: rest) (envX cn cs L a ccd cl)) R := by
 refine xs_cons fun s Q E W q => ?_
 refine wpAny_mono (For_invV (E := fun _ _ => False) (Q := Q) g hx (by show (cs.kind == .class || (cs.kind == .module && _)) = false; rw [hk]; rfl) ?_ hs PassesOwn.never) (fun _ _ h => h) fun _ _ h => h.elim
 refine he s _ _ W fun v h1 tk1 N1 e1 W1 => ?_
 refine e1.1 m _ _ _ W1 fun o fp St Wk hfp hsome hst => ?_
 have hJ0 := e1.2
 have hIg : g.get? h1.objs.size = none := next_is_new W1.fr
 have hIL : h1.objs.size ≠ L := fun e => Nat.lt_irrefl _ (e ▸ W1.fr.ns.lt)
 have hLf : L ∉ fp := fun hL => by
  rcases hfp L hL with e | e | ⟨ob, e⟩
  · exact hIL e.symm
  · have := W1.fr.ns.lt
    have h2 := W1.fr.above
    cases e' : g.get? L with
    | none => rw [e'] at e; cases e
    | some o' => exact absurd (Heap.lt_size e') (Nat.not_lt.mpr W1.fr.above)
  · exact (W1.nw _ (hkp 0 m N1 hJ0 _ e)).2.1 rfl
 refine ⟨_, fp, _, n, P, St, lk m, N1, (fun i m₁ N₁ => ∃ m', m₁ = lk m' ∧ (N₁.map (·.1)).Nodup ∧ J i m' N₁), rfl, Wk, hLf, ?_, ?_, hst, W1.fr.push _, (fun p hp => ⟨Heap.get?_push_of_some _ (W1.nw p hp).1, (W1.nw p hp).2⟩), ⟨m, rfl, W1.nd, hJ0⟩, ?_, ?_⟩
 · intro b hb
   rw [List.mem_singleton.mp hb]; exact hIg
 · intro p hp hI
   exact absurd (Heap.lt_size (W1.nw p hp).1) ((List.mem_singleton.mp hI) ▸ Nat.lt_irrefl _)
 · rintro i v m₁ news₁ s₁ own ⟨hh', tk', rfl⟩ hin hP ⟨m', rfl, nd, hJ⟩ hoff hown hget hall hst' F₁ N₁
   have hmI : ∃ it, hh'.get? h1.objs.size = some it := by
    exact hsome _ _ hst'
   obtain ⟨it, hit⟩ := hmI
   have W2 : Wf g L hh' ((x, v) :: m') (news₁ ++ [(h1.objs.size, it)]) := by
    refine wf_end (lk_cons m' x v ▸ F₁) (fun p hp => N₁ p (List.mem_append_right _ hp)) nd (fun p hp e => hoff p hp (e ▸ List.mem_singleton.mpr rfl)) hit hIL hIg
   refine step i v m' news₁ _ it hin hP hJ _ _ _ W2 fun fl h2 tk2 m2 N2 e2 W3 => ?_
   have fin : (∃ N₃, N2 = N₃ ++ [(h1.objs.size, it)] ∧ J (i + 1) m2 N₃) → LoopStepU g L [h1.objs.size] own (fun m₁ N₁ => ∃ m', m₁ = lk m' ∧ (N₁.map (·.1)).Nodup ∧ J (i + 1) m' N₁) { s with heap := hh', toks := tk' } .next { s with heap := h2, toks := tk2 } := by
    rintro ⟨N₃, rfl, hJ3⟩
    obtain ⟨W4, hne⟩ := wf_front W3
    refine ⟨rfl, h2, tk2, lk m2, N₃, rfl, W4.fr, fun p hp => ?_, fun p hp hI => hne p hp (List.mem_singleton.mp hI), ⟨m2, rfl, W4.nd, hJ3⟩⟩
    rcases List.mem_append.mp hp with hp | hp
    · have hg : hh'.get? p.1 = some p.2 := hget p hp
      rcases hfp p.1 (hown p hp) with e | e | ⟨ob, e⟩
      · have : p = (h1.objs.size, it) := Prod.ext e (by rw [e, hit] at hg; exact (Option.some.inj hg).symm)
        rw [this]; exact W3.nw _ (List.mem_append_right _ (List.mem_singleton.mpr rfl))
      · have := (N₁ p (List.mem_append_left _ hp)).2.2
        rw [this] at e; cases e
      · have h5 := (W2.nw _ (List.mem_append_left _ (hkp i m' news₁ hJ _ e))).1
        have : p = (p.1, ob) := Prod.ext rfl (by rw [hg] at h5; exact Option.some.inj h5)
        rw [this]; exact W4.nw _ (hkp _ _ _ hJ3 _ e)
    · exact W4.nw p hp
   cases fl with
   | ret u => exact .ret (q _ h2 tk2 m2 N2 e2 W3)
   | brk =>
    obtain ⟨N₃, hs3, hx3⟩ := e2
    exact .brk (q .next h2 tk2 m2 N₃ hx3 (W3.sub hs3))
   | next => exact .next (fin e2)
   | cont => exact .cont (fin e2)
 · rintro h' tk m' news' F' N' _ ⟨m2, rfl, nd, hJ⟩
   exact q .next h' tk m2 news' (done m2 news' hJ) ⟨F', N', nd⟩
theorem xs_forX {x : Str} {iter : Expr} {body rest : List Stmt} {px pos : Pos} {n : Nat} {P : Nat → Value → Prop} {kp : Led} {R : Flow → Loc → Led → Prop} (J : Nat → Loc → Led → Prop) (X : Loc → Led → Prop)
 (he : Ev (model prog w) A g L m N (eval iter (envX cn cs L a ccd cl)) (fun v N' => It prog w A g L N' kp v n P ∧ J 0 m N'))
 (hkp : ∀ i m N, J i m N → ∀ p ∈ kp, p ∈ N)
 (step : ∀ i v m₁ N₁ I it, i < n → P i v → J i m₁ N₁ → Xs (model prog w) A g L ((x, v) :: m₁) (N₁ ++ [(I, it)]) (execs body (envX cn cs L a ccd cl)) (fun fl m₂ N₂ => match fl with
  | .ret u => R (.ret u) m₂ N₂
  | .brk => ∃ N₃, N₃.Sublist N₂ ∧ X m₂ N₃
  | _ => ∃ N₃, N₂ = N₃ ++ [(I, it)] ∧ J (i + 1) m₂ N₃))
 (done : ∀ m₁ N₁, J n m₁ N₁ → X m₁ N₁) (hX : ∀ m₁ N₁, X m₁ N₁ → Xs (model prog w) A g L m₁ N₁ (execs rest (envX cn cs L a ccd cl)) R)
 (hk : cs.kind = .function := by rfl) (hx : (envX cn cs L a ccd cl).kindOf x = some .local := by rfl) (hs : ∀ x, foldedSetIterable iter (envX cn cs L a ccd cl) x = pure x := by intro _; rfl) :
 Xs (model prog w) A g L m N (execs (.For (.Name x px) iter body [] pos :: rest) (envX cn cs L a ccd cl)) R :=
 xs_for J he hkp (fun i v m₁ N₁ I it hi hP hJ => xs_mono (step i v m₁ N₁ I it hi hP hJ) fun fl m' N' e => by
  cases fl with
  | brk => obtain ⟨N₃, h1, h2⟩ := e; exact ⟨N₃, h1, hX _ _ h2⟩
  | ret u => exact e
  | next => exact e
  | cont => exact e) (fun m₁ N₁ h => hX _ _ (done _ _ h)) hk hx hs
theorem xs_break {rest : List Stmt} {p : Pos} {R : Flow → Loc → Led → Prop} (h : R .brk m N) : Xs M A g L m N (execs (.Break p :: rest) env) R :=
 xs_cons fun s Q E W q => by
  show wpAny M A (do standAt p; pure Flow.brk) Q E s
  exact wpAny_bind (wpAny_standAt (wpAny_pure (q .brk s.heap s.toks m N h W)))
theorem it_str {x : Str} {t : Tok} (r : Rm A 0) : It prog w A g L N [] (.str x t) x.cps.size (SignAt x) := fun m s Q E W q => by
 cases ha : x.cps.all (· < 128)
 · exact wpAny_pyIter_wide ha (q _ [_] _ (Walks.strWide r.h _ x t) (fun b hb => .inl (List.mem_singleton.mp hb)) (fun i h ⟨o, e, _⟩ => ⟨o, e⟩) ⟨_, Heap.get?_push_size _ rfl, rfl, rfl⟩)
 · exact wpAny_pyIter_ascii ha (q _ [_] _ (Walks.strAscii r.h _ x t) (fun b hb => .inl (List.mem_singleton.mp hb)) (fun i h ⟨o, e, _⟩ => ⟨o, e⟩) ⟨_, Heap.get?_push_size _ rfl, rfl, rfl⟩)
theorem it_bytes {b : List UInt8} {t : Tok} (r : Rm A 0) : It prog w A g L N [] (.bytes b.toArray t) b.length (fun i v => ∃ c, b[i]? = some c ∧ IsI (c.toNat : Int) v) := fun m s Q E W q => by
 refine KBw.pyIter_bytes ?_
 have W' := KBw.walks (prog := prog) (w := w) r.h s.heap.objs.size b.toArray t
 refine q _ [_] _ ⟨W'.sub, W'.frame, fun i s Q E hi st hQ => W'.item i s Q E (by simpa using hi) st fun v h' tk hP => hQ v h' tk ?_, fun s Q E st hQ => W'.done s Q E (by simpa using st) hQ, W'.self⟩ (fun b hb => .inl (List.mem_singleton.mp hb)) (fun i h ⟨o, e, _⟩ => ⟨o, e⟩) ⟨_, Heap.get?_push_size _ rfl, rfl, rfl⟩
 obtain ⟨c, u, hc, rfl⟩ := hP
 exact ⟨c, by simpa using hc, u, rfl⟩
theorem it_list {D : Addr} {vs : List Value} {n : Nat} (r : Rm A 0) (h : Ob g N D (listOf vs.toArray n)) : It prog w A g L N (if (g.get? D).isSome then [] else [(D, listOf vs.toArray n)]) (.ref D) vs.length (fun i v => vs[i]? = some v) := fun m s Q E W q => by
 have hl := isList_of (h.at W)
 have hne : D ≠ s.heap.objs.size := Nat.ne_of_lt (Heap.lt_size (h.at W))
 refine wpAny_pyIter_list hl ?_
 have W' := Walks.list (prog := prog) (w := w) r.h s.heap.objs.size D hne vs.toArray
 refine q _ [_, _] _ ⟨W'.sub, W'.frame, fun i s Q E hi st hQ => W'.item i s Q E (by simpa using hi) st fun v h' tk hP => hQ v h' tk (by simpa using hP), fun s Q E st hQ => W'.done s Q E (by simpa using st) hQ, W'.self⟩ (fun b hb => ?_) (fun i h ⟨⟨o, e, _⟩, _⟩ => ⟨o, e⟩) ⟨⟨_, Heap.get?_push_size _ rfl, rfl, rfl⟩, hl.at fun o e => Heap.get?_push_of_some _ e⟩
 rcases List.mem_cons.mp hb with e | hb
 · exact .inl e
 · refine .inr ?_
   rw [List.mem_singleton.mp hb]
   by_cases hs : (g.get? D).isSome = true
   · exact .inl hs
   · rw [if_neg hs]; exact .inr ⟨_, .head _⟩
end
noncomputable def hmac5 (k d : List UInt8) : List UInt8 := sha2 (UInt8.ofNat (k.length % 256) :: (k ++ d))
theorem hmac5_length (k d : List UInt8) : (hmac5 k d).length = 64 := sha2_length _
section
variable {w : World} {A : Around} {g : Heap} {L a : Addr} {m : Loc} {N : Led} {cn : Str} {cs : Scope} {ccd : Value} {C x dx : Addr} {n : Nat}
theorem s_hmac {k d : List UInt8} {v u z : Value} (B : Bs (KF w.params) g) (r : Rm A 3) (hl : k.length + d.length ≤ 500) (hv : IsB k v) (hu : IsB d u) : Cd (model PR w) A g L m N (.call (.ref 131) ⟨[v, u], [("digestmod", z)]⟩) (fun v N' => ∃ x, v = .ref x ∧ ShaN w.params 79 (UInt8.ofNat (k.length % 256) :: (k ++ d)) x N N') := by
 obtain ⟨t, rfl⟩ := hv; obtain ⟨t', rfl⟩ := hu
 refine cd_mono (cd_call (C := []) (R := N) (P := fun v C' => ∃ x, v = .ref x ∧ ShaN w.params 79 (UInt8.ofNat (k.length % 256) :: (k ++ d)) x [] C') [("key", .bytes k.toArray t), ("data", .bytes d.toArray t'), ("digestmod", z)] B r rfl (by kernel_rfl) (fun s X => binds_K X rfl rfl rfl rfl rfl) (by rfl) ?_ (by decide)) ?_
 · intro h₀ L' A' r st sr B
   refine xs_return (ev_g1 B (ev_global B (gl_Sha512 _)) (kp_Sha512 _) (p1 := IsB (UInt8.ofNat (k.length % 256) :: (k ++ d))) (evB_eq (ev_addB (ev_addB (x := [UInt8.ofNat (k.length % 256)]) (ev_bytes1 (n := k.length % 256) B r.le (no_bytes _) (ev_modN (y := 256) (ev_Call1 B (ev_builtin B (no_len _) (by rfl)) kp_b (ev_localB rfl) fun v h => call_lenB h (by omega)) ev_int rfl (by decide)) rfl (by omega)) (ev_localB rfl) (by simp; omega)) (ev_localB rfl) (by simp; omega)) (by simp)) fun v h => s_sha5new B r h) fun v N' h => h
 · refine i_f (i_g fun x => i_3 fun dx t u => ?_)
   exact ⟨x, rfl, dx, t, u, rfl⟩
theorem ev_hmac {e1 e2 e3 : Expr} {p1 apos apos2 p p' p3 : Pos} {pl pl2 : Sem Bool} {k d : List UInt8} (B : Bs (KF w.params) g) (r : Rm A 3) (hl : k.length + d.length ≤ 500) (h1 : EvP (model PR w) A g L m N (eval e1 (envX cn cs L a ccd [])) (IsB k)) (h2 : EvP (model PR w) A g L m N (eval e2 (envX cn cs L a ccd [])) (IsB d))
 (h3 : EvP (model PR w) A g L m N (eval e3 (envX cn cs L a ccd [])) (fun _ => True))
 (hk : cs.kind = .function := by rfl) (hx : (envX cn cs L a ccd []).kindOf "hmac" = some .globalImplicit := by rfl)
 (he : eval (.Call (.Attribute (.Call (.Attribute (.Name "hmac" p1) "new" apos2) [e1, e2] [⟨some "digestmod", e3, p3⟩] p') "digest" apos) [] [] p) (envX cn cs L a ccd []) = (do
  let ov ← eval (.Call (.Attribute (.Name "hmac" p1) "new" apos2) [e1, e2] [⟨some "digestmod", e3, p3⟩] p') (envX cn cs L a ccd [])
  standAt apos.atName
  let (f, first) ← holding [ov] (getMethod ov "digest" pl)
  callWith p f first (backTo p (starEach [] (envX cn cs L a ccd []))) []) := by rfl)
 (he0 : eval (.Call (.Attribute (.Name "hmac" p1) "new" apos2) [e1, e2] [⟨some "digestmod", e3, p3⟩] p') (envX cn cs L a ccd []) = (do
  let ov ← eval (.Name "hmac" p1) (envX cn cs L a ccd [])
  standAt apos2.atName
  let (f, first) ← holding [ov] (getMethod ov "new" pl2)
  callWith p' f first (backTo p' (starEach [e1, e2] (envX cn cs L a ccd []))) (backToKw p' (keywordEach [⟨some "digestmod", e3, p3⟩] (envX cn cs L a ccd [])))) := by rfl)
 (he1 : starEach [e1, e2] (envX cn cs L a ccd []) = (false, eval e1 (envX cn cs L a ccd [])) :: starEach [e2] (envX cn cs L a ccd []) := by rfl)
 (he2 : starEach [e2] (envX cn cs L a ccd []) = (false, eval e2 (envX cn cs L a ccd [])) :: starEach [] (envX cn cs L a ccd []) := by rfl) :
 EvP (model PR w) A g L m N (eval (.Call (.Attribute (.Call (.Attribute (.Name "hmac" p1) "new" apos2) [e1, e2] [⟨some "digestmod", e3, p3⟩] p') "digest" apos) [] [] p) (envX cn cs L a ccd [])) (IsB (hmac5 k d)) := by
 refine ev_dig (C := 79) B (ev_MCallK (PM := fun _ fx N' => fx = (.ref 131, []) ∧ N' = N) (ev_global B (gl_hmac _) hk hx) ?_ ?_ he0) (cg_Sha512 _ _) (fm_Sha512_digest _) (fn_76 _) (kp_76 _) (fun x dx t u N' h1 h2 => s_digest5 B r.le (by simp; omega) h1 h2) he
 · refine i_b ?_
   exact gm_static B (sg_hmac _) (sm_hmac _) (sr_hmac _) (sf_hmac _) (sp_hmac _) rfl
 · rintro ov f first N2 ⟨e, rfl⟩
   obtain ⟨rfl, rfl⟩ := Prod.mk.inj e
   refine ev_callWithK (PA := fun vs N' => (∃ v u, vs = [v, u] ∧ IsB k v ∧ IsB d u) ∧ N' = N2) (PK := fun vs ks N' => (∃ v u z, vs = [v, u] ∧ IsB k v ∧ IsB d u ∧ ks = [z]) ∧ N' = N2) B (kp_131 _) (ar_cons h1 (fun v N' e => ?_) he1) (fun vs N' e => ?_) (fun vs ks N' e => ?_) (by rfl) (by rw [he1, he2]; rfl) he1
   · obtain ⟨e, rfl⟩ := e; exact ar_cons h2 (fun u N' e' => by obtain ⟨e', rfl⟩ := e'; exact ar_nil ⟨⟨v, u, rfl, e, e'⟩, rfl⟩) he2
   · obtain ⟨⟨v, u, rfl, e, e'⟩, rfl⟩ := e; exact ak_cons h3 fun z N' e3 => ak_nil ⟨⟨v, u, z, rfl, e, e', rfl⟩, e3.2⟩
   · obtain ⟨⟨v, u, z, rfl, e, e', rfl⟩, rfl⟩ := e; exact ev_of_cd (s_hmac B r hl e e')
end
noncomputable def a58 : List Nat := [49, 50, 51, 52, 53, 54, 55, 56, 57, 65, 66, 67, 68, 69, 70, 71, 72, 74, 75, 76, 77, 78, 80, 81, 82, 83, 84, 85, 86, 87, 88, 89, 90, 97, 98, 99, 100, 101, 102, 103, 104, 105, 106, 107, 109, 110, 111, 112, 113, 114, 115, 116, 117, 118, 119, 120, 121, 122]
noncomputable def sg (d : Nat) : Nat := a58.getD d 0
noncomputable def digs (n : Nat) : List Nat := if h : n = 0 then [] else n % 58 :: digs (n / 58)
termination_by n
decreasing_by omega
theorem digs_zero : digs 0 = [] := by rw [digs]; simp
theorem digs_pos {n : Nat} (h : 0 < n) : digs n = n % 58 :: digs (n / 58) := by rw [digs, dif_neg (by omega)]
noncomputable def lead0 (b : List UInt8) : Nat := (b.takeWhile (· == 0)).length
noncomputable def b58l (b : List UInt8) : List Nat := List.replicate (lead0 b) 49 ++ ((digs (num b)).map sg).reverse
noncomputable def tx (l : List Nat) : Str := ⟨l.toArray⟩
noncomputable def b58 (b : List UInt8) : Str := tx (b58l b)
theorem digs_length {n k : Nat} (h : n < 58 ^ k) : (digs n).length ≤ k := by
 induction k generalizing n with
 | zero => rw [show n = 0 by simpa using h, digs_zero]; exact Nat.le_refl _
 | succ k ih =>
  by_cases h0 : n = 0
  · rw [h0, digs_zero]; simp
  · rw [digs_pos (by omega), List.length_cons]
    have := ih (n := n / 58) (Nat.div_lt_of_lt_mul (by rw [← Nat.pow_succ']; exact h))
    omega
theorem digs_len2 (n k : Nat) (h : n < 256 ^ k) : (digs n).length ≤ 2 * k := digs_length (Nat.lt_of_lt_of_le h (by rw [Nat.pow_mul]; exact Nat.pow_le_pow_left (by decide) _))
section
open PySem (Txt.slice)
theorem tx_list (x : Str) : tx x.cps.toList = x := by cases x; simp [tx]
theorem tx_cps (l : List Nat) : (tx l).cps.toList = l := by simp [tx]
theorem tx_len (l : List Nat) : (tx l).length = l.length := by simp [tx, Str.length]
theorem str_ext {x y : Str} (h : x.cps.toList = y.cps.toList) : x = y := by rw [← tx_list x, h, tx_list]
theorem tx_append (l k : List Nat) : tx l ++ tx k = tx (l ++ k) := by
 show (⟨l.toArray ++ k.toArray⟩ : Str) = _
 rw [List.append_toArray]; rfl
theorem slS_mid (l : List Nat) (i j : Nat) (h : j ≤ l.length) (hj : i ≤ j) : Txt.slice (tx l) (some (i : Int)) (some (j : Int)) = tx ((l.drop i).take (j - i)) := by
 have := eq_of_beq (slice_closes (x := tx l) (i := (i : Int)) (j := (j : Int)) ⟨by omega, by omega, by rw [tx_cps]; omega⟩)
 rw [this, tx_cps]
 show tx _ = _
 congr 2
 omega
theorem slS_to1 (l : List Nat) (h : 0 < l.length) : Txt.slice (tx l) none (some (-1)) = tx l.dropLast := by
 have e : Txt.slice (tx l) none (some (-1)) = Txt.slice (tx l) none (some ((l.length - 1 : Nat) : Int)) := by
  unfold Txt.slice
  rw [show Builtin.Str.strSliceIndices none (some (-1)) 1 (tx l).length = Builtin.Str.strSliceIndices none (some ((l.length - 1 : Nat) : Int)) 1 (tx l).length from by
   unfold Builtin.Str.strSliceIndices
   simp only [show (1 : Int) > 0 by decide, if_true, show (-1 : Int) < 0 by decide, tx_len]
   rw [if_neg (by omega)]
   congr 1
   omega]
 rw [e]
 have := eq_of_beq (slice_closes_to (x := tx l) (j := ((l.length - 1 : Nat) : Int)) ⟨by omega, by rw [tx_cps]; omega⟩)
 rw [this, tx_cps]
 show tx _ = _
 congr 1
 rw [List.dropLast_eq_take]
 congr 1
theorem mul1 (c n : Nat) : Txt.mul ⟨#[c]⟩ (n : Int) = tx (List.replicate n c) := str_ext (by rw [mul_one_list, tx_cps, Int.toNat_natCast])
theorem mulOk1 (c n : Nat) (h : n ≤ 16777216) : MulOk ⟨#[c]⟩ (n : Int) := by
 refine ⟨?_, ?_, ?_⟩
 · rw [Bool.or_eq_false_iff]; exact ⟨decide_eq_false (by omega), decide_eq_false (by omega)⟩
 · intro h1 h2 h3
   have : (2 ^ 63 - 1 : Int) / n ≥ 1 := by
    rw [ge_iff_le, Int.le_ediv_iff_mul_le (by omega)]
    omega
   have h4 : ((⟨#[c]⟩ : Str).length : Int) = 1 := rfl
   omega
 · intro _ _
   show Builtin.Str.tooLong (1 * _) = false
   unfold Builtin.Str.tooLong
   exact decide_eq_false (by rw [sizeLine_eq]; simp; omega)
section
variable {w : World} {M : Model} {A : Around} {g : Heap} {L a : Addr} {m : Loc} {N : Led} {K : Frag} {env : Env} {prog : Program}
theorem evS_eq {t : Sem Value} {x y : Str} (h : EvP M A g L m N t (IsS x)) (q : x = y) : EvP M A g L m N t (IsS y) := q ▸ h
theorem ev_slS {v : Expr} {lo hi : Option Expr} {p p' : Pos} {x : Str} {i j : Option Int} (h : EvP (model prog w) A g L m N (eval v env) (IsS x)) (hlo : Part (model prog w) A g L m N lo env i) (hhi : Part (model prog w) A g L m N hi env j) (hz : x.length ≤ sizeLine)
 (hs : ∀ x t a, subscripted (.Slice lo hi none p) false (.str x t) (.ref a) = operate [.ref a, .str x t] (getItem (.str x t) (.ref a)) := by intro _ _ _; with_unfolding_all rfl)
 (ht : ∀ x t r, letTemporaryGo v (.str x t) r = pure () := by intro _ _ _; with_unfolding_all rfl) :
 EvP (model prog w) A g L m N (eval (.Subscript v (.Slice lo hi none p) p') env) (IsS (Txt.slice x i j)) := fun s Q E W q =>
 Subscript_ (h s _ E W fun o h1 tk1 N1 e1 W1 => by
  obtain ⟨⟨t, rfl⟩, rfl⟩ := e1
  refine wpAny_Slice (hlo _ _ E W1 fun l h2 tk2 N2 e2 W2 => ?_)
  obtain ⟨e2, rfl⟩ := e2
  refine hhi _ _ E W2 fun u h3 tk3 N3 e3 W3 => ?_
  obtain ⟨e3, rfl⟩ := e3
  refine wpAny_pure ?_
  have k : ∀ h' t' k, Fr g L h' (lk m) → News g L h' N3 → Q (.str (Txt.slice x i j) t') { s with heap := h', toks := k } := fun h' t' k F n => q _ h' k N3 ⟨⟨_, rfl⟩, rfl⟩ ⟨F, n, W3.nd⟩
  cases e2 <;> cases e3
  · exact slice_strN_nn (s := { s with heap := h3, toks := tk3 }) W3.fr W3.nw k (hs _ _ _) (ht _ _) hz
  · exact slice_strN_ns (s := { s with heap := h3, toks := tk3 }) W3.fr W3.nw k (hs _ _ _) (ht _ _) hz
  · exact slice_strN_sn (s := { s with heap := h3, toks := tk3 }) W3.fr W3.nw k (hs _ _ _) (ht _ _) hz
  · exact slice_strN_ss (s := { s with heap := h3, toks := tk3 }) W3.fr W3.nw k (hs _ _ _) (ht _ _) hz)
theorem ev_SM1 {o e : Expr} {name : Str} {apos p : Pos} {pl : Sem Bool} {x : Str} {id : String} {P1 P : Value → Led → Prop} (B : Bs K g) (ho : EvP (model prog w) A g L m N (eval o env) (IsS x)) (h1 : Ev (model prog w) A g L m N (eval e env) P1)
 (hm : ∀ t (s : Shared) (Q : Value × List Value → Shared → Prop) E, Q (.builtin id, [.str x t]) s → wpAny (model prog w) A (getMethod (.str x t) name pl) Q E s)
 (hc : ∀ t v N', P1 v N' → Ev (model prog w) A g L m N' (call (.builtin id) [.str x t, v]) P)
 (he : eval (.Call (.Attribute o name apos) [e] [] p) env = (do
  let ov ← eval o env
  standAt apos.atName
  let (f, first) ← holding [ov] (getMethod ov name pl)
  callWith p f first (backTo p (starEach [e] env)) []) := by rfl) (he1 : starEach [e] env = (false, eval e env) :: starEach [] env := by rfl) :
 Ev (model prog w) A g L m N (eval (.Call (.Attribute o name apos) [e] [] p) env) P := by
 refine ev_MCall (PM := fun _ fx N' => (∃ t, fx = (.builtin id, [.str x t])) ∧ N' = N) ho ?_ ?_ he
 · rintro ov N1 ⟨⟨t, rfl⟩, rfl⟩ s Q E W q
   exact hm t s Q E (q _ s.heap s.toks _ ⟨⟨t, rfl⟩, rfl⟩ W)
 · rintro ov f first N2 ⟨⟨t, e⟩, rfl⟩
   obtain ⟨rfl, rfl⟩ := Prod.mk.inj e
   refine ev_callWith (PA := fun vs N' => ∃ v, vs = [v] ∧ P1 v N') B kp_b (ar_cons h1 (fun v N' e => ar_nil ⟨v, rfl, e⟩) he1) (fun vs N' e => ?_) he1
   obtain ⟨v, rfl, e⟩ := e; exact hc t v N' e
theorem ev_join {o e : Expr} {apos p : Pos} {pl : Sem Bool} {x : Str} {ys : List Str} (B : Bs K g) (ho : EvP (model prog w) A g L m N (eval o env) (IsS x)) (h1 : Ev (model prog w) A g L m N (eval e env) (fun v N' => ∃ D its n, v = .ref D ∧ StrsAre its ys ∧ Ob g N' D (listOf its.toArray n) ∧ N.Sublist N'))
 (hok : (ys.map (·.length)).sum + ys.length * x.length ≤ 16777216)
 (he : eval (.Call (.Attribute o "join" apos) [e] [] p) env = (do
  let ov ← eval o env
  standAt apos.atName
  let (f, first) ← holding [ov] (getMethod ov "join" pl)
  callWith p f first (backTo p (starEach [e] env)) []) := by rfl) (he1 : starEach [e] env = (false, eval e env) :: starEach [] env := by rfl) :
 EvP (model prog w) A g L m N (eval (.Call (.Attribute o "join" apos) [e] [] p) env) (IsS (Txt.join x ys)) := by
 refine ev_weaken (P := fun v N' => IsS (Txt.join x ys) v ∧ N.Sublist N') (ev_SM1 B ho h1 (fun t s Q E q => GM.join q) (fun t v N' e => ?_) he he1) fun v N' e => ⟨N, e.2, e.1, rfl⟩
 obtain ⟨D, its, n, rfl, h2, h3, h4⟩ := e
 exact fun s Q E W q => join_list (isList_of (h3.at W)) (by simpa using h2) hok fun t' k => q _ s.heap k N' ⟨⟨_, rfl⟩, h4⟩ W
theorem ev_rev {v e : Expr} {p p' : Pos} {D : Addr} {its : List Value} {n : Nat} (h : EvP (model prog w) A g L m N (eval v env) (IsV (.ref D))) (hD : Ob g N D (listOf its.toArray n)) (he : EvP (model prog w) A g L m N (eval e env) (IsI (-1))) (hz : its.length ≤ sizeLine)
 (hs : ∀ a b, subscripted (.Slice none none (some e) p) false (.ref a) (.ref b) = operate [.ref a, .ref b] (getItem (.ref a) (.ref b)) := by intro _ _; with_unfolding_all rfl)
 (ht : ∀ a r, letTemporaryGo v (.ref a) r = pure () := by intro _ _; with_unfolding_all rfl) :
 Ev (model prog w) A g L m N (eval (.Subscript v (.Slice none none (some e) p) p') env) (fun v N' => ∃ D', v = .ref D' ∧ N' = (D', listOf its.reverse.toArray 0) :: N) := fun s Q E W q =>
 Subscript_ (h s _ E W fun o h1 tk1 N1 e1 W1 => by
  obtain ⟨rfl, rfl⟩ := e1
  refine wpAny_Slice (wpAny_pure (wpAny_pure (he _ _ E W1 fun l h2 tk2 N2 e2 W2 => ?_)))
  obtain ⟨⟨t, rfl⟩, rfl⟩ := e2
  exact krv_lit (s := { s with heap := h2, toks := tk2 }) W2.fr W2.nw (isList_of (hD.at W2)) (.int _ _) (zs := its.reverse) (by simp) (fun D' h' F' n' l => q _ h' tk2 _ ⟨D', rfl, rfl⟩ (nodup_push W2 l F' n')) (hs _ _) (ht _) (by simpa using hz))
theorem ev_neg {e : Expr} {p : Pos} {x : Int} (h : EvP (model prog w) A g L m N (eval e env) (IsI x)) : EvP (model prog w) A g L m N (eval (.UnaryOp .USub e p) env) (IsI (-x)) := by
 rw [arm_eval_UnaryOp]
 refine ev_bind h fun v N' e => ?_
 obtain ⟨⟨t, rfl⟩, rfl⟩ := e
 exact ev_at (ev_holding fun s Q E W q => PyProof.Rows.neg_int (q _ s.heap _ _ ⟨⟨_, rfl⟩, rfl⟩ W))
theorem in_addN {x y : Nat} {u v : Value} {x' y' : Int} (h1 : IsI x' u) (h2 : IsI y' v) (e1 : x' = (x : Int) := by rfl) (e2 : y' = (y : Int) := by rfl) : EvP (model prog w) A g L m N (inplaceOp .Add u v) (IsI ((x + y : Nat) : Int)) := by
 subst e1 e2; obtain ⟨_, rfl⟩ := h1; obtain ⟨_, rfl⟩ := h2
 exact fun s Q E W q => AutoIntOps.iadd_0 (q _ s.heap _ N ⟨⟨_, by rw [Int.natCast_add]⟩, rfl⟩ W)
theorem in_mulN {x y : Nat} {u v : Value} {x' y' : Int} (h1 : IsI x' u) (h2 : IsI y' v) (hm : IntMulOk (x : Int) (y : Int)) (e1 : x' = (x : Int) := by rfl) (e2 : y' = (y : Int) := by rfl) : EvP (model prog w) A g L m N (inplaceOp .Mult u v) (IsI ((x * y : Nat) : Int)) := by
 subst e1 e2; obtain ⟨_, rfl⟩ := h1; obtain ⟨_, rfl⟩ := h2
 exact fun s Q E W q => AutoIntOps.imul_0 (q _ s.heap _ N ⟨⟨_, by rw [Int.natCast_mul]⟩, rfl⟩ W) hm
theorem in_addS {x y : Str} {u v : Value} (h1 : IsS x u) (h2 : IsS y v) (hz : x.length + y.length ≤ sizeLine) : EvP (model prog w) A g L m N (inplaceOp .Add u v) (IsS (x ++ y)) := by
 obtain ⟨_, rfl⟩ := h1; obtain ⟨_, rfl⟩ := h2
 exact fun s Q E W q => SB.iadd (fun t' k => q _ s.heap k N ⟨⟨_, rfl⟩, rfl⟩ W) hz
theorem call_divmod {x y : Nat} {v u : Value} (h1 : IsI (x : Int) v) (h2 : IsI (y : Int) u) (hy : y ≠ 0) (hs : y < 1073741824) :
 Ev (model prog w) A g L m N (call (.builtin "divmod") [v, u]) (fun v N' => ∃ D v1 v2 n N2, v = .ref D ∧ N' = (D, { cls := .type "tuple", data := .seq #[v1, v2] n }) :: N2 ∧ (IsI ((x / y : Nat) : Int) v1 ∧ IsI ((x % y : Nat) : Int) v2 ∧ N2 = N)) := by
 obtain ⟨t, rfl⟩ := h1; obtain ⟨u, rfl⟩ := h2
 intro s Q E W q
 refine divmod_N W.fr W.nw (by omega) (fun h' F' n' => q _ h' _ _ ⟨_, _, _, _, N, rfl, rfl, ⟨s.toks, ?_⟩, ⟨s.toks + 1, ?_⟩, rfl⟩ (nodup_push W (fun p hp => Heap.lt_size (W.nw p hp).1) F' n')) ?_
 · rw [Int.fdiv_eq_ediv_of_nonneg _ (by omega), Int.natCast_ediv]
 · rw [Int.fmod_eq_emod_of_nonneg _ (by omega), Int.natCast_emod]
 · exact Or.inl (PyProof.noPylong_small (by simpa using hs))
theorem ev_bitlen {o : Expr} {apos p : Pos} {pl : Sem Bool} {x : Nat} (B : Bs K g) (ho : EvP (model prog w) A g L m N (eval o env) (IsI (x : Int)))
 (he : eval (.Call (.Attribute o "bit_length" apos) [] [] p) env = (do
  let ov ← eval o env
  standAt apos.atName
  let (f, first) ← holding [ov] (getMethod ov "bit_length" pl)
  callWith p f first (backTo p (starEach [] env)) []) := by rfl) : EvP (model prog w) A g L m N (eval (.Call (.Attribute o "bit_length" apos) [] [] p) env) (IsI ((Builtin.Int.intBits (x : Int) : Nat) : Int)) := by
 refine ev_MCall (PM := fun _ fx N' => (∃ t, fx = (.builtin "int.bit_length", [.int (x : Int) t])) ∧ N' = N) ho ?_ ?_ he
 · rintro ov N1 ⟨⟨t, rfl⟩, rfl⟩ s Q E W q
   exact getMethod_int_bit_length (q _ s.heap s.toks _ ⟨⟨t, rfl⟩, rfl⟩ W)
 · rintro ov f first N2 ⟨⟨t, e⟩, rfl⟩
   obtain ⟨rfl, rfl⟩ := Prod.mk.inj e
   exact ev_callWith0 B kp_b fun s Q E W q => call_int_bit_length (q _ s.heap _ _ ⟨⟨_, rfl⟩, rfl⟩ W)
theorem ev_index {o e : Expr} {apos p : Pos} {pl : Sem Bool} {x y : Str} {i : Nat} {r : List Nat} (B : Bs K g) (ho : EvP (model prog w) A g L m N (eval o env) (IsS x)) (h1 : EvP (model prog w) A g L m N (eval e env) (IsS y)) (hi : Builtin.Str.occurrences x y 0 x.length 1 = i :: r)
 (he : eval (.Call (.Attribute o "index" apos) [e] [] p) env = (do
  let ov ← eval o env
  standAt apos.atName
  let (f, first) ← holding [ov] (getMethod ov "index" pl)
  callWith p f first (backTo p (starEach [e] env)) []) := by rfl) (he1 : starEach [e] env = (false, eval e env) :: starEach [] env := by rfl) :
 EvP (model prog w) A g L m N (eval (.Call (.Attribute o "index" apos) [e] [] p) env) (IsI (i : Int)) := by
 refine ev_SM1 B ho h1 (fun t s Q E q => GM.index q) (fun t v N' e => ?_) he he1
 obtain ⟨⟨u, rfl⟩, rfl⟩ := e
 exact fun s Q E W q => SC.index hi (q _ s.heap _ _ ⟨⟨_, rfl⟩, rfl⟩ W)
theorem co_notinS {x y : Str} {v u : Value} (h1 : IsS y v) (h2 : IsS x u) : EvP (model prog w) A g L m N (compareOp .NotIn v u) (IsT (!(!(Builtin.Str.occurrences x y 0 x.length 1).isEmpty))) := by
 obtain ⟨_, rfl⟩ := h1; obtain ⟨_, rfl⟩ := h2; exact fun s _ _ W q => P.notIn_str (q _ s.heap s.toks N ⟨rfl, rfl⟩ W)
theorem co_inS {x y : Str} {v u : Value} (h1 : IsS y v) (h2 : IsS x u) : EvP (model prog w) A g L m N (compareOp .In v u) (IsT (!(Builtin.Str.occurrences x y 0 x.length 1).isEmpty)) := by
 obtain ⟨_, rfl⟩ := h1; obtain ⟨_, rfl⟩ := h2; exact fun s _ _ W q => P.in_str (q _ s.heap s.toks N ⟨rfl, rfl⟩ W)
theorem tru_S {x : Str} {v : Value} (h : IsS x v) (hz : x.length ≤ sizeLine) : Tru (model prog w) A g L m N v (!(x.length == 0)) := by
 obtain ⟨t, rfl⟩ := h
 exact fun s Q E W q => PySem.P.truthy_str (by rw [sizeLine_eq] at hz; omega) (q _ s.heap (s.toks + 1 + 1) N ⟨by cases x.length <;> simp <;> omega, rfl⟩ W)
end
end
theorem nx26_eq : nx26 = tx a58 := by decide +kernel
theorem a58_get (d : Nat) (h : d < 58) : (tx a58).cps[d]? = some (sg d) := by
 have : ∀ d < 58, (tx a58).cps[d]? = some (sg d) := by decide +kernel
 exact this d h
theorem strs_rev : ∀ {vs : List Value} {ys : List Str}, StrsAre vs ys → StrsAre vs.reverse ys.reverse := by
 have app : ∀ {vs ys vs' ys'}, StrsAre vs ys → StrsAre vs' ys' → StrsAre (vs ++ vs') (ys ++ ys') := by
  intro vs ys vs' ys' h h'
  induction h with
  | nil => exact h'
  | cons y t _ ih => exact .cons y t ih
 intro vs ys h
 induction h with
 | nil => exact .nil
 | cons y t _ ih => rw [List.reverse_cons, List.reverse_cons]; exact app ih (.cons y t .nil)
theorem strs_push {vs : List Value} {ys : List Str} (h : StrsAre vs ys) (y : Str) (t : Tok) : StrsAre (vs ++ [.str y t]) (ys ++ [y]) := by
 induction h with
 | nil => exact .cons y t .nil
 | cons y' t' _ ih => exact .cons y' t' ih
theorem strs_len {vs : List Value} {ys : List Str} (h : StrsAre vs ys) : vs.length = ys.length := by induction h <;> simp_all
theorem sum_ones (l : List Nat) : (((l.map fun c => tx [c])).map (·.length)).sum = l.length := by
 induction l with
 | nil => rfl
 | cons c r ih =>
  rw [List.map_cons, List.map_cons, List.sum_cons, ih, tx_len, List.length_cons, List.length_cons, List.length_nil]; omega
theorem join_signs (l : List Nat) : Txt.join (Str.ofString "") (l.map fun c => tx [c]) = tx l := by
 have h0 : Txt.join (Str.ofString "") ([].map fun c : Nat => tx [c]) = tx [] := by rfl
 have h : ∀ l : List Nat, Str.join (Str.ofString "") (l.map fun c => tx [c]) = tx l := by
  intro l
  induction l with
  | nil => rfl
  | cons c r ih =>
   cases r with
   | nil => rfl
   | cons d r =>
    show tx [c] ++ Str.ofString "" ++ Str.join (Str.ofString "") ((d :: r).map fun c => tx [c]) = _
    rw [ih, show Str.ofString "" = tx [] from rfl, tx_append, tx_append]; rfl
 have := eq_of_beq (join_plain_closes (Str.ofString "") (l.map fun c => tx [c]))
 rw [this, h]
theorem lead0_take (b : List UInt8) : ∀ i, i < b.length → (∀ j < i, b.getD j 1 = 0) → (b.getD i 1 ≠ 0) → lead0 b = i := by
 induction b with
 | nil => intro i hi; simp at hi
 | cons c r ih =>
  intro i hi h1 h2
  unfold lead0
  rw [List.takeWhile_cons]
  cases i with
  | zero =>
   have : c ≠ 0 := by simpa using h2
   rw [if_neg (by simpa using this)]; rfl
  | succ i =>
   have : c = 0 := by simpa using h1 0 (by omega)
   rw [if_pos (by simpa using this), List.length_cons]
   congr 1
   exact ih i (by simpa using hi) (fun j hj => by simpa using h1 (j + 1) (by omega)) (by simpa using h2)
theorem lead0_all (b : List UInt8) (h : ∀ j < b.length, b.getD j 1 = 0) : lead0 b = b.length := by
 induction b with
 | nil => rfl
 | cons c r ih =>
  unfold lead0
  have : c = 0 := by simpa using h 0 (by simp)
  rw [List.takeWhile_cons, if_pos (by simpa using this), List.length_cons, List.length_cons]
  congr 1
  exact ih fun j hj => by simpa using h (j + 1) (by simpa using hj)
section
variable {w : World} {A : Around} {g : Heap} {L : Addr} {m : Loc} {N : Led} {x : Addr} {n : Nat}
theorem s_encode {b : List UInt8} {v : Value} (B : Bs (KF w.params) g) (r : Rm A 2) (hl : b.length ≤ 1000) (hv : IsB b v) : CdP (model PR w) A g L m N (.call (.ref 176) ⟨[v], []⟩) (IsS (b58 b)) := by
 obtain ⟨t, rfl⟩ := hv
 refine cd_pcall [("b", .bytes b.toArray t)] B r rfl (by kernel_rfl) (fun s X => BindsTo.of_eq rfl) (by rfl) ?_ (by decide)
 intro h₀ L' A' r st sr B
 refine xs_assign (ev_from B (no_int _) (from_cls _) (fun N => ev_localB rfl) (fun N => ev_str) hl) ?_
 refine i_a fun t1 => ?_
 refine xs_assign (ev_list (PA := fun vs N' => vs = [] ∧ N' = []) (ar_nil ⟨rfl, rfl⟩) fun vs N' e => by obtain ⟨rfl, rfl⟩ := e; exact ev_newList (by simp [sizeLine_eq])) ?_
 refine i_g fun D => i_0 ?_
 have hdl := digs_len2 (num b) b.length (num_lt b)
 refine xs_while (n₀ := num b) (fun k m' N' => ∃ t2 its c fr, lk m' "b" = some (.bytes b.toArray t) ∧ lk m' "n" = some (.int (k : Int) t2) ∧ lk m' "chars" = some (.ref D) ∧ N' = [(D, listOf its.toArray c)] ∧ StrsAre its ((fr.map sg).map fun c => tx [c]) ∧ fr ++ digs k = digs (num b)) ⟨t1, [], 0, [], rfl, rfl, rfl, rfl, .nil, rfl⟩ ?_
 rintro k m' N' ⟨t2, its, c, fr, hb, hn, hc, rfl, hs, hd⟩
 refine ⟨decide ((0 : Int) < k), tst_cmp1 (ev_localI hn) ev_int fun x y h h' => co_gt h h', fun hk => ?_, fun hk => ?_⟩
 · have hk : 0 < k := by have := of_decide_eq_true hk; omega
   rw [digs_pos hk] at hd
   have hits := strs_len hs
   have hfl : fr.length ≤ 2000 := by have := congrArg List.length hd; simp at this; omega
   refine xs_tup2 r.le (P := fun v1 v2 N2 => IsI ((k / 58 : Nat) : Int) v1 ∧ IsI ((k % 58 : Nat) : Int) v2 ∧ N2 = [(D, listOf its.toArray c)]) (ev_Call2 B (ev_builtin B (no_divmod _) (by rfl)) kp_b (ev_localI hn) ev_int fun x y h h' => call_divmod (y := 58) h h' (by decide) (by decide)) ?_
   rintro v1 v2 N' ⟨⟨t3, rfl⟩, ⟨t4, rfl⟩, rfl⟩
   refine xs_expr (ev_append (i := 0) (pv := IsS (tx [sg (k % 58)])) B (ev_local (show lk ((_, _) :: (_, _) :: m') "chars" = _ from hc)) (ev_ixS (i := k % 58) (x := tx a58) (ev_globalS B (nx26_eq ▸ gl_B58_DIGITS _)) (ev_localI rfl) rfl (a58_get _ (Nat.mod_lt _ (by decide))) (by omega)) rfl (by rw [sizeLine_eq]; simp at hits ⊢; omega)) ?_
   rintro v N' ⟨x, ⟨t5, rfl⟩, rfl⟩
   refine xs_nil ⟨rfl, k / 58, Nat.div_lt_self hk (by decide), t3, its ++ [.str (tx [sg (k % 58)]) t5], c + 1, fr ++ [k % 58], hb, rfl, hc, by simp, ?_, by rw [List.append_assoc]; exact hd⟩
   rw [List.map_append, List.map_append]
   exact strs_push hs _ _
 · have hk : k = 0 := by have := of_decide_eq_false hk; omega
   subst hk
   rw [digs_zero, List.append_nil] at hd
   subst hd
   have hits := strs_len hs
   refine xs_assign (evS_eq (ev_join (ys := (((digs (num b)).map sg).reverse).map fun c => tx [c]) B ev_str (ev_mono (ev_rev (ev_local hc) (.inl (.head _)) (ev_neg ev_int) (by rw [sizeLine_eq]; simp at hits; omega)) ?_) ?_) (join_signs _)) ?_
   · refine i_g fun D' => i_0 ?_
     refine ⟨D', _, 0, rfl, ?_, .inl (.head _), List.sublist_cons_self _ _⟩
     rw [List.map_reverse]
     exact strs_rev hs
   · rw [sum_ones]
     have : (Str.ofString "").length = 0 := rfl
     rw [this]; simp; omega
   refine i_a fun t5 => ?_
   refine xs_assign ev_int ?_
   refine i_a fun t6 => ?_
   have h3 : lead0 b ≤ b.length := by unfold lead0; exact (List.takeWhile_sublist _).length_le
   refine xs_forX (n := b.length) (P := fun i v => ∃ c, b[i]? = some c ∧ IsI (c.toNat : Int) v) (kp := []) (fun i m1 N1 => (∃ t7 t8, lk m1 "pad" = some (.int (i : Nat) t7) ∧ lk m1 "result" = some (.str (tx ((digs (num b)).map sg).reverse) t8)) ∧ ∀ j < i, b.getD j 1 = 0) (fun m1 _ => ∃ t7 t8, lk m1 "pad" = some (.int (lead0 b : Nat) t7) ∧ lk m1 "result" = some (.str (tx ((digs (num b)).map sg).reverse) t8)) (ev_mono (ev_local hb) fun v N' e => ?_) (fun _ _ _ _ _ h => nomatch h) ?_ ?_ ?_
   · obtain ⟨rfl, rfl⟩ := e
     exact ⟨it_bytes r.le, ⟨t6, t5, rfl, rfl⟩, fun j h => absurd h (by omega)⟩
   · rintro i v m1 N1 I it hi ⟨c', hc', t9, rfl⟩ ⟨⟨t7, t8, h1, h2⟩, h3⟩
     refine xs_if (c := (c'.toNat : Int) == 0) (tst_cmp1 (ev_localI rfl) ev_int fun x y h h' => co_eq h h') (fun h => ?_) fun h => ?_
     · refine xs_aug (pv := IsI 1) (P := fun v N' => IsI ((i + 1 : Nat) : Int) v ∧ N' = N1 ++ [(I, it)]) h1 ev_int (fun v e => in_addN ⟨_, rfl⟩ e) ?_
       · refine i_a fun t10 => ?_
         have hc0 : c' = 0 := by have := eq_of_beq h; exact UInt8.toNat_inj.mp (by simpa using this)
         refine xs_nil (xs_nil ⟨N1, rfl, ⟨t10, t8, rfl, h2⟩, fun j hj => ?_⟩)
         by_cases hji : j = i
         · subst hji; rw [List.getD_eq_getElem?_getD, hc', hc0]; rfl
         · exact h3 j (by omega)
     · refine xs_break ⟨N1, List.sublist_append_left _ _, t7, t8, ?_, h2⟩
       rw [lead0_take b i hi h3 ?_]
       · exact h1
       · rw [List.getD_eq_getElem?_getD, hc']
         intro e
         rw [show c' = 0 from e] at h
         exact absurd h (by decide)
   · rintro m1 N1 ⟨⟨t7, t8, h1, h2⟩, h3⟩
     exact ⟨t7, t8, (by rw [lead0_all b h3]; exact h1), h2⟩
   · rintro m1 N1 ⟨t7, t8, h1, h2⟩
     exact xs_return (evS_eq (ev_addS (ev_mulS (x := ⟨#[sg 0]⟩) (ev_ixS (i := 0) (x := tx a58) (ev_globalS B (nx26_eq ▸ gl_B58_DIGITS _)) ev_int rfl (a58_get _ (by decide)) (by decide)) (ev_localI h1) (mulOk1 _ _ (by omega))) (ev_localS h2) (by rw [mul1, tx_len, tx_len, sizeLine_eq]; simp; omega)) (by rw [mul1, tx_append]; rfl)) fun v N' h => h.1
end
theorem num_snoc (b : List UInt8) (c : UInt8) : num (b ++ [c]) = num b * 256 + c.toNat := by simp [num, List.foldl_append]
theorem fold_num (b : List UInt8) : ∀ a, b.foldl (fun a c => a * 256 + c.toNat) a = a * 256 ^ b.length + num b := by
 induction b with
 | nil => intro a; simp [num]
 | cons c r ih =>
  intro a
  have h2 : num (c :: r) = c.toNat * 256 ^ r.length + num r := by
   show List.foldl _ (0 * 256 + c.toNat) r = _
   rw [ih]; simp
  rw [List.foldl_cons, ih, h2, List.length_cons, Nat.pow_succ, Nat.add_mul, Nat.mul_assoc, Nat.mul_comm 256]; omega
theorem num_cons (c : UInt8) (r : List UInt8) : num (c :: r) = c.toNat * 256 ^ r.length + num r := by
 show List.foldl _ (0 * 256 + c.toNat) r = _
 rw [fold_num]; simp
theorem num_app (b c : List UInt8) : num (b ++ c) = num b * 256 ^ c.length + num c := by
 show List.foldl _ 0 (b ++ c) = _
 rw [List.foldl_append, fold_num]; rfl
theorem be_succ (k x : Nat) : be (k + 1) x = be k (x / 256) ++ [UInt8.ofNat (x % 256)] := by simp [be, le]
theorem num_be : ∀ (k x : Nat), x < 256 ^ k → num (be k x) = x
 | 0, x, h => by
  have : x = 0 := by simpa using h
  subst this; rfl
 | k + 1, x, h => by
  rw [be_succ, num_snoc, num_be k (x / 256) (Nat.div_lt_of_lt_mul (by rw [Nat.mul_comm, ← Nat.pow_succ]; exact h))]
  have : (UInt8.ofNat (x % 256)).toNat = x % 256 := by rw [UInt8.toNat_ofNat']; omega
  omega
theorem be_num (b : List UInt8) : be b.length (num b) = b := by
 have key : ∀ (r : List UInt8), be r.reverse.length (num r.reverse) = r.reverse := by
  intro r
  induction r with
  | nil => rfl
  | cons c r ih =>
   rw [List.reverse_cons, num_snoc, List.length_append, List.length_singleton, be_succ]
   have hc := UInt8.toNat_lt c
   rw [show (num r.reverse * 256 + c.toNat) / 256 = num r.reverse by omega, show (num r.reverse * 256 + c.toNat) % 256 = c.toNat by omega, ih, UInt8.ofNat_toNat]
 have := key b.reverse
 rwa [List.reverse_reverse] at this
theorem num_inj {b c : List UInt8} (hl : b.length = c.length) (h : num b = num c) : b = c := by rw [← be_num b, ← be_num c, hl, h]
theorem be_inj {k x y : Nat} (hx : x < 256 ^ k) (hy : y < 256 ^ k) (h : be k x = be k y) : x = y := by rw [← num_be k x hx, h, num_be k y hy]
theorem num_ge {c : UInt8} {r : List UInt8} (h : c ≠ 0) : 256 ^ r.length ≤ num (c :: r) := by
 rw [num_cons]
 have : 0 < c.toNat := Nat.pos_of_ne_zero fun e => h (UInt8.toNat_inj.mp (by simpa using e))
 exact Nat.le_trans (Nat.le_mul_of_pos_left _ this) (Nat.le_add_right _ _)
theorem lead0_cons {c : UInt8} {r : List UInt8} (h : c ≠ 0) : lead0 (c :: r) = 0 := by
 unfold lead0; rw [List.takeWhile_cons, if_neg (by simpa using h)]; rfl
theorem b58l_cons {c : UInt8} {r : List UInt8} (h : c ≠ 0) : b58l (c :: r) = ((digs (num (c :: r))).reverse).map sg := by
 unfold b58l; rw [lead0_cons h, List.map_reverse]; rfl
theorem digs_lt : ∀ (n : Nat), ∀ d ∈ digs n, d < 58 := by
 intro n
 induction n using Nat.strongRecOn with
 | _ n ih =>
  intro d hd
  by_cases h0 : n = 0
  · rw [h0, digs_zero] at hd; cases hd
  · rw [digs_pos (by omega)] at hd
    rcases List.mem_cons.mp hd with e | hd
    · rw [e]; exact Nat.mod_lt _ (by decide)
    · exact ih (n / 58) (Nat.div_lt_self (by omega) (by decide)) d hd
theorem digs_fold : ∀ (n : Nat), (digs n).reverse.foldl (fun a d => a * 58 + d) 0 = n := by
 intro n
 induction n using Nat.strongRecOn with
 | _ n ih =>
  by_cases h0 : n = 0
  · rw [h0, digs_zero]; rfl
  · rw [digs_pos (by omega), List.reverse_cons, List.foldl_append, ih (n / 58) (Nat.div_lt_self (by omega) (by decide))]
    show n / 58 * 58 + n % 58 = n
    omega
theorem digs_top : ∀ (n : Nat), 0 < n → ∃ d r, (digs n).reverse = d :: r ∧ d ≠ 0 := by
 intro n
 induction n using Nat.strongRecOn with
 | _ n ih =>
  intro h0
  rw [digs_pos h0, List.reverse_cons]
  by_cases h1 : n / 58 = 0
  · rw [h1, digs_zero]
    exact ⟨n % 58, [], rfl, by omega⟩
  · obtain ⟨d, r, e, hd⟩ := ih (n / 58) (Nat.div_lt_self h0 (by decide)) (by omega)
    rw [e]
    exact ⟨d, r ++ [n % 58], rfl, hd⟩
theorem sg_inj {d e : Nat} (hd : d < 58) (he : e < 58) (h : sg d = sg e) : d = e := by
 have : ∀ d < 58, ∀ e < 58, sg d = sg e → d = e := by decide +kernel
 exact this d hd e he h
theorem occ_sg {d : Nat} (h : d < 58) : Builtin.Str.occurrences (tx a58) (tx [sg d]) 0 (tx a58).length 1 = [d] := by
 have : ∀ d < 58, Builtin.Str.occurrences (tx a58) (tx [sg d]) 0 (tx a58).length 1 = [d] := by decide +kernel
 exact this d h
theorem bits_len {x k : Nat} (h1 : 256 ^ k ≤ x) (h2 : x < 256 ^ (k + 1)) : (Builtin.Int.intBits (x : Int) + 7) / 8 = k + 1 := by
 have e2 : (2 : Nat) ^ 8 = 256 := by decide
 have a1 : Builtin.Int.intBits (x : Int) ≤ 8 * (k + 1) := intBits_le_iff.mpr (by rw [Nat.pow_mul, e2]; simpa using h2)
 have a2 : ¬ Builtin.Int.intBits (x : Int) ≤ 8 * k := fun h => by
  have := intBits_le_iff.mp h
  rw [Nat.pow_mul, e2] at this
  simp at this
  omega
 omega
section
variable {w : World} {M : Model} {A : Around} {g : Heap} {L a : Addr} {m : Loc} {N : Led} {env : Env} {x : Addr} {n : Nat} {prog : Program}
theorem ev_or2 {e1 e2 : Expr} {p : Pos} {p1 : Value → Prop} {c : Bool} {P : Value → Led → Prop} (h1 : EvP M A g L m N (eval e1 env) p1) (ht : ∀ v, p1 v → Tru M A g L m N v c) (h : if c then ∀ v, p1 v → P v N else Ev M A g L m N (eval e2 env) P) : Ev M A g L m N (eval (.BoolOp .Or [e1, e2] p) env) P := fun s Q E W q =>
 BoolOp_or (h1 s _ E W fun v h' tk' N' e W' => by
  obtain ⟨e, rfl⟩ := e
  refine ht v e _ _ E W' fun c' h2 tk2 N2 e2 W2 => ?_
  obtain ⟨rfl, rfl⟩ := e2
  cases c' with
  | true => exact q v h2 tk2 N2 (h v e) W2
  | false => exact BoolOp_one (h _ Q E W2 q))
theorem tru_I {n : Int} {v : Value} (h : IsI n v) : Tru (model prog w) A g L m N v (n != 0) := by
 obtain ⟨t, rfl⟩ := h
 exact fun s Q E W q => PySem.P.truthy_int (q _ s.heap s.toks N ⟨rfl, rfl⟩ W)
theorem ev_mulB0 {l r : Expr} {p : Pos} {x : List UInt8} (h1 : EvP (model prog w) A g L m N (eval l env) (IsB x)) (h2 : EvP (model prog w) A g L m N (eval r env) (IsI 0)) (hx : x ≠ []) (hz : x.length ≤ 16) : EvP (model prog w) A g L m N (eval (.BinOp l .Mult r p) env) (IsB []) :=
 ev_BinOp h1 h2 fun _ _ ⟨_, e1⟩ ⟨_, e2⟩ => e1 ▸ e2 ▸ fun s _ _ W q => bytes_mul_any hx (by decide) (by decide) hz fun t' k => q _ s.heap k N ⟨⟨_, rfl⟩, rfl⟩ W
theorem fold_bound (l : List Nat) (h : ∀ d ∈ l, d < 58) : l.foldl (fun a d => a * 58 + d) 0 < 58 ^ l.length := by
 have key : ∀ (l : List Nat) a, (∀ d ∈ l, d < 58) → l.foldl (fun a d => a * 58 + d) a < (a + 1) * 58 ^ l.length := by
  intro l
  induction l with
  | nil => intro a _; simp
  | cons d r ih =>
   intro a h
   have := h d (.head _)
   refine Nat.lt_of_lt_of_le (ih (a * 58 + d) fun d' h' => h d' (.tail _ h')) ?_
   rw [List.length_cons, Nat.pow_succ, Nat.mul_comm (58 ^ r.length) 58, ← Nat.mul_assoc]
   exact Nat.mul_le_mul_right _ (by omega)
 simpa using key l 0 h
theorem s_decode {c : UInt8} {rr : List UInt8} {v : Value} (B : Bs (KF w.params) g) (r : Rm A 2) (hl : rr.length ≤ 200) (hc : c ≠ 0) (hv : IsS (b58 (c :: rr)) v) : CdP (model PR w) A g L m N (.call (.ref 183) ⟨[v], []⟩) (IsB (c :: rr)) := by
 obtain ⟨t, rfl⟩ := hv
 have hx : b58 (c :: rr) = tx (((digs (num (c :: rr))).reverse).map sg) := by unfold b58; rw [b58l_cons hc]
 have hpos : 0 < num (c :: rr) := Nat.lt_of_lt_of_le (Nat.pow_pos (by decide)) (num_ge hc)
 have hlt := num_lt (c :: rr)
 have hfold := digs_fold (num (c :: rr))
 obtain ⟨d0, r0, htop, hd0⟩ := digs_top _ hpos
 have hall : ∀ d ∈ (digs (num (c :: rr))).reverse, d < 58 := fun d h => digs_lt _ d (List.mem_reverse.mp h)
 have hlen : ((digs (num (c :: rr))).reverse).length ≤ 402 := by
  rw [List.length_reverse]
  have := digs_len2 _ _ hlt
  simp at this; omega
 have hbits := bits_len (num_ge (r := rr) hc) hlt
 generalize hD : (digs (num (c :: rr))).reverse = ds at *
 rw [hx]
 have hdl : ds.length = r0.length + 1 := by rw [htop]; rfl
 refine cd_pcall [("s", .str (tx (ds.map sg)) t)] B r rfl (by kernel_rfl) (fun s X => BindsTo.of_eq rfl) (by rfl) ?_ (by decide)
 intro h₀ L' A' r st sr B
 refine xs_if (c := false) (tst_eq (tst_not (tst_plain (ev_localS rfl) fun v h => tru_S h (by rw [tx_len, sizeLine_eq]; simp; omega))) (by rw [tx_len, List.length_map, hdl]; rfl)) (fun h => nomatch h) fun _ => nx_nil ?_
 refine xs_assign ev_int ?_
 refine i_a fun t1 => ?_
 refine xs_forX (n := (tx (ds.map sg)).cps.size) (P := SignAt (tx (ds.map sg))) (kp := []) (fun i m1 N1 => N1 = [] ∧ ∃ t7, lk m1 "s" = some (.str (tx (ds.map sg)) t) ∧ lk m1 "n" = some (.int (((ds.take i).foldl (fun a d => a * 58 + d) 0 : Nat) : Int) t7)) (fun m1 N1 => N1 = [] ∧ ∃ t7, lk m1 "s" = some (.str (tx (ds.map sg)) t) ∧ lk m1 "n" = some (.int (num (c :: rr) : Nat) t7))
  (ev_mono (ev_local rfl) fun v N' e => by obtain ⟨rfl, rfl⟩ := e; exact ⟨it_str r.le, rfl, t1, rfl, rfl⟩) (fun _ _ _ _ _ h => nomatch h) ?_ ?_ ?_
 · rintro i v m1 N1 I it hi ⟨sc, t2, hsc, rfl⟩ ⟨rfl, t7, h1, h2⟩
   have hil : i < ds.length := by simpa [tx] using hi
   obtain rfl : sc = sg ds[i] := by
    have : (tx (ds.map sg)).cps[i]? = some (sg ds[i]) := by simp [tx, hil]
    rw [this] at hsc; exact (Option.some.inj hsc).symm
   have hdi : ds[i] < 58 := hall _ (List.getElem_mem hil)
   have hfb := fold_bound (ds.take i) fun d h => hall d (List.mem_of_mem_take h)
   have htk : ds.take (i + 1) = ds.take i ++ [ds[i]] := by rw [List.take_add_one, List.getElem?_eq_getElem hil]; rfl
   have hlt2 : (ds.take i).foldl (fun a d => a * 58 + d) 0 < 2 ^ 2412 := by
    refine Nat.lt_of_lt_of_le hfb (Nat.le_trans (Nat.pow_le_pow_right (by decide) (show (ds.take i).length ≤ 402 by rw [List.length_take]; omega)) ?_)
    rw [show 2412 = 6 * 402 from rfl, Nat.pow_mul]
    exact Nat.pow_le_pow_left (by decide) _
   refine xs_aug (pv := IsI 58) (P := fun v N' => IsI (((ds.take i).foldl (fun a d => a * 58 + d) 0 * 58 : Nat) : Int) v ∧ N' = [] ++ [(I, it)]) h2 ev_int (fun v e => in_mulN ⟨_, rfl⟩ e (mulOk (i := 2412) (j := 6) hlt2 (by decide))) ?_
   refine i_a fun t3 => ?_
   refine xs_if (c := false) (tst_eq (tst_cmp1 (ev_localS (n := tx [sg ds[i]]) (t := t2) rfl) (ev_globalS B (nx26_eq ▸ gl_B58_DIGITS _)) fun x y h h' => co_notinS h h') (by rw [occ_sg hdi]; rfl)) (fun h => nomatch h) fun _ => nx_nil ?_
   refine xs_assign (ev_index B (ev_globalS B (nx26_eq ▸ gl_B58_DIGITS _)) (ev_localS (n := tx [sg ds[i]]) (t := t2) rfl) (occ_sg hdi)) ?_
   refine i_a fun t4 => ?_
   refine xs_aug (pv := IsI (ds[i] : Nat)) (P := fun v N' => IsI (((ds.take (i + 1)).foldl (fun a d => a * 58 + d) 0 : Nat) : Int) v ∧ N' = [] ++ [(I, it)]) (v0 := .int ((ds.take i).foldl (fun a d => a * 58 + d) 0 * 58 : Nat) t3) rfl (ev_localI rfl) (fun v e => ?_) ?_
   · rw [htk, List.foldl_append]; exact in_addN ⟨_, rfl⟩ e
   · refine i_a fun t5 => ?_
     exact xs_nil ⟨[], rfl, rfl, t5, h1, rfl⟩
 · rintro m1 N1 ⟨rfl, t7, h1, h2⟩
   refine ⟨rfl, t7, h1, ?_⟩
   rw [h2]
   rw [List.take_of_length_le (by simp [tx]), hfold]
 · rintro m1 N1 ⟨rfl, t7, h1, h2⟩
   refine xs_assign (evB_eq (ev_to (k := rr.length + 1) B (ev_localI h2) (ev_or2 (c := true) (p1 := IsI ((rr.length + 1 : Nat) : Int)) (evI_eq (ev_fdiv (ev_addN (ev_bitlen B (ev_localI h2)) ev_int rfl) ev_int (by decide) (PyProof.noPylong_small (by decide))) (by rw [← hbits]; rw [Int.fdiv_eq_ediv_of_nonneg _ (by decide)]; rfl)) (fun v h => by
    have := tru_I (prog := PR) (w := w) (A := A') (g := h₀) (L := L') (m := m1) (N := []) h
    rwa [show (((rr.length + 1 : Nat) : Int) != 0) = true from bne_iff_ne.mpr (by omega)] at this) (fun v h => ⟨h, rfl⟩)) ev_str (by omega) hlt) (be_num (c :: rr))) ?_
   refine i_a fun t3 => ?_
   refine xs_assign ev_int ?_
   refine i_a fun t4 => ?_
   have hsl : Txt.slice (tx (ds.map sg)) none (some (-1)) = tx (ds.map sg).dropLast := slS_to1 _ (by simp; omega)
   refine xs_forX (n := (tx (ds.map sg).dropLast).cps.size) (P := SignAt (tx (ds.map sg).dropLast)) (kp := []) (fun i m1 N1 => N1 = [] ∧ i = 0 ∧ ∃ t7 t8, lk m1 "pad" = some (.int ((0 : Nat) : Int) t7) ∧ lk m1 "res" = some (.bytes (c :: rr).toArray t8)) (fun m1 N1 => N1 = [] ∧ ∃ t7 t8, lk m1 "pad" = some (.int ((0 : Nat) : Int) t7) ∧ lk m1 "res" = some (.bytes (c :: rr).toArray t8))
    (ev_mono (ev_slS (ev_localS (show lk ((_, _) :: (_, _) :: m1) "s" = _ from h1)) pt_none (pt_int (ev_neg ev_int)) (by rw [tx_len, sizeLine_eq]; simp; omega)) fun v N' e => by obtain ⟨⟨t9, rfl⟩, rfl⟩ := e; rw [hsl]; exact ⟨it_str r.le, rfl, rfl, t4, t3, rfl, rfl⟩) (fun _ _ _ _ _ h => nomatch h) ?_ ?_ ?_
   · rintro i v m2 N2 I it hi ⟨sc, t2, hsc, rfl⟩ ⟨rfl, rfl, t7, t8, h3, h4⟩
     obtain rfl : sc = sg d0 := by
      rw [htop] at hsc
      cases r0 with
      | nil => simp [tx] at hsc
      | cons d1 r1 => simp [tx] at hsc; exact hsc.symm
     have hd58 : d0 < 58 := hall d0 (by rw [htop]; exact .head _)
     refine xs_if (c := false) (tst_eq (tst_cmp1 (ev_localS (n := tx [sg d0]) (t := t2) rfl) (ev_ixS (i := 0) (x := tx a58) (ev_globalS B (nx26_eq ▸ gl_B58_DIGITS _)) ev_int rfl (a58_get _ (by decide)) (by decide)) fun x y h h' => co_eqS h h') ?_) (fun h => nomatch h) fun _ => ?_
     · rw [tx_cps]
       refine beq_false_of_ne fun e => ?_
       have := List.head_eq_of_cons_eq e
       exact hd0 (sg_inj hd58 (by decide) this)
     · exact xs_break ⟨[], List.nil_sublist _, rfl, t7, t8, h3, h4⟩
   · rintro m2 N2 ⟨rfl, e, t7, t8, h3, h4⟩
     exact ⟨rfl, t7, t8, h3, h4⟩
   · rintro m2 N2 ⟨rfl, t7, t8, h3, h4⟩
     exact xs_return (ev_addB (x := []) (ev_mulB0 ev_bytes (ev_localI h3) (by simp) (by simp)) (ev_localB h4) (by simp; omega)) fun v N' h => h.1
end
noncomputable def chk (b : List UInt8) : List UInt8 := b ++ (dsha b).take 4
noncomputable def e58 (b : List UInt8) : Str := b58 (chk b)
theorem dsha_length (d : List UInt8) : (dsha d).length = 32 := sha_length _
theorem chk_length (b : List UInt8) : (chk b).length = b.length + 4 := by simp [chk, dsha_length]
section
variable {w : World} {A : Around} {g : Heap} {L : Addr} {m : Loc} {N : Led} {x : Addr} {n : Nat}
theorem s_encheck {b : List UInt8} {v : Value} (B : Bs (KF w.params) g) (r : Rm A 5) (hl : b.length ≤ 200) (hv : IsB b v) : CdP (model PR w) A g L m N (.call (.ref 190) ⟨[v], []⟩) (IsS (e58 b)) := by
 obtain ⟨t, rfl⟩ := hv
 refine cd_pcall [("b", .bytes b.toArray t)] B r rfl (by kernel_rfl) (fun s X => BindsTo.of_eq rfl) (by rfl) ?_ (by decide)
 intro h₀ L' A' r st sr B
 exact xs_return (ev_g1 B (ev_global B (gl_encode _)) (kp_encode _) (p1 := IsB (chk b)) (ev_addB (ev_localB rfl) (evB_eq (ev_slB (ev_g1 B (ev_global B (gl_double_sha256 _)) (kp_double_sha256 _) (ev_localB rfl) fun v h => s_dsha B r.le (by omega) h) (pt_int ev_int) (pt_int ev_int) (by rw [dsha_length]; decide)) (sl_mid _ 0 4 (by rw [dsha_length]; decide) (by decide))) (by simp; omega)) fun v h => s_encode B r.le (by rw [chk_length]; omega) h) fun v N' h => h.1
theorem s_decheck {c : UInt8} {rr : List UInt8} {v : Value} (B : Bs (KF w.params) g) (r : Rm A 5) (hl : rr.length ≤ 190) (hc : c ≠ 0) (hv : IsS (e58 (c :: rr)) v) : CdP (model PR w) A g L m N (.call (.ref 197) ⟨[v], []⟩) (IsB (c :: rr)) := by
 obtain ⟨t, rfl⟩ := hv
 refine cd_pcall [("s", .str (e58 (c :: rr)) t)] B r rfl (by kernel_rfl) (fun s X => BindsTo.of_eq rfl) (by rfl) ?_ (by decide)
 intro h₀ L' A' r st sr B
 have hl1 := chk_length (c :: rr)
 have hl0 : (c :: rr).length ≤ 191 := by simp; omega
 refine xs_assign (ev_g1 B (ev_global B (gl_decode _)) (kp_decode _) (ev_localS rfl) fun v h => s_decode (c := c) (rr := rr ++ (dsha (c :: rr)).take 4) B r.le (by rw [List.length_append, List.length_take]; omega) hc h) ?_
 refine i_a fun t1 => ?_
 have hb : c :: (rr ++ (dsha (c :: rr)).take 4) = chk (c :: rr) := rfl
 rw [hb]
 have hcut : sl (chk (c :: rr)) none (some (-4)) = c :: rr := by
  rw [show (-4 : Int) = -((4 : Nat) : Int) from rfl, sl_toEnd _ _ (by omega) (by decide), hl1]
  simp [chk]
 have hend : sl (chk (c :: rr)) (some (-4)) none = (dsha (c :: rr)).take 4 := by
  rw [show (-4 : Int) = -((4 : Nat) : Int) from rfl, sl_fromEnd _ _ (by omega) (by decide), hl1]
  simp [chk]
 have hfront : ∀ {m1 N1 p p' p'' p3 p4}, lk m1 "b" = some (.bytes (chk (c :: rr)).toArray t1) → EvP (model PR w) A' h₀ L' m1 N1 (eval (.Subscript (.Name "b" p) (.Slice none (some (.UnaryOp .USub (.Constant (.int 4) 0 p') p'')) none p3) p4) (envX n_decode_check (fs1 17) L' 197 (.ref 196) [])) (IsB (c :: rr)) := fun {m1 N1 p p' p'' p3 p4} h =>
  evB_eq (ev_slB (ev_localB h) pt_none (pt_int (ev_neg ev_int)) (by omega)) hcut
 refine xs_assign (evB_eq (ev_slB (ev_g1 B (ev_global B (gl_double_sha256 _)) (kp_double_sha256 _) (hfront rfl) fun v h => s_dsha B r.le (by omega) h) pt_none (pt_int ev_int) (by rw [dsha_length]; decide)) (sl_to _ 4)) ?_
 refine i_a fun t2 => ?_
 refine xs_if (c := false) (tst_eq (tst_cmp1 (evB_eq (ev_slB (ev_localB (n := chk (c :: rr)) (t := t1) rfl) (pt_int (ev_neg ev_int)) pt_none (by omega)) hend) (ev_localB (n := (dsha (c :: rr)).take 4) (t := t2) rfl) fun x y h h' => co_neB h h') (by simp)) (fun h => nomatch h) fun _ => nx_nil ?_
 exact xs_return (hfront rfl) fun v N' h => h.1
end
noncomputable def plainC : Code → Bool
 | .builtin id _ => !(Builtin.Bytes.decodersThatHold.contains id || guardIds.contains id)
 | _ => true
noncomputable def Cl (Γ : Ctx) : Prop := plainC Γ.code = true ∧ ∀ x ∈ Γ.below, plainC x.1 = true
noncomputable def wpG {α : Type} (M : Model) (A : Around) (t : Sem α) (Q : α → Shared → Prop) (E : Value → Shared → Prop) (s : Shared) : Prop :=
 ∀ Γ p, Γ.In A → Cl Γ → Sem.wp M Γ t (fun a _ s' => Q a s') (fun e _ s' => E e s') p s
noncomputable def codeG (M : Model) (A : Around) (c : Code) (R : Result → Shared → Prop) (s : Shared) : Prop :=
 ∀ Γ p, Γ.code = c → Γ.Below A → Cl Γ → wpCode M Γ R p s
section
variable {α β : Type} {M : Model} {A : Around} {E : Value → Shared → Prop} {s : Shared}
theorem wg {t : Sem α} {Q : α → Shared → Prop} (h : wpAny M A t Q E s) : wpG M A t Q E s := fun Γ p i _ => h Γ p i
theorem cgg {c : Code} {R : Result → Shared → Prop} (h : codeAny M A c R s) : codeG M A c R s := fun Γ p e b _ => h Γ p e b
theorem g_pure {a : α} {Q : α → Shared → Prop} (h : Q a s) : wpG M A (pure a) Q E s := (wg (wpAny_pure h))
theorem g_mono {t : Sem α} {Q Q' : α → Shared → Prop} {E' : Value → Shared → Prop} (h : wpG M A t Q E s) (hQ : ∀ a s, Q a s → Q' a s) (hE : ∀ e s, E e s → E' e s) : wpG M A t Q' E' s :=
 fun Γ p i c => Sem.wp_mono M Γ t (fun a _ s => hQ a s) (fun e _ s => hE e s) p s (h Γ p i c)
theorem g_bind {m : Sem α} {f : α → Sem β} {Q : β → Shared → Prop} (h : wpG M A m (fun a s' => wpG M A (f a) Q E s') E s) : wpG M A (m >>= f) Q E s := fun Γ p i c => by
 rw [Sem.wp_bind']
 exact Sem.wp_mono M Γ m (fun a p' s' h' => h' Γ p' i c) (fun _ _ _ h' => h') p s (h Γ p i c)
theorem g_tryCatch {m : Sem α} {k : Value → Sem α} {Q : α → Shared → Prop} (h : wpG M A m Q (fun e s' => wpG M A (k e) Q E s') s) : wpG M A (tryCatch m k) Q E s := fun Γ p i c => by
 rw [Sem.wp_tryCatch']
 exact Sem.wp_mono M Γ m (fun _ _ _ h' => h') (fun e p' s' h' => h' Γ p' i c) p s (h Γ p i c)
theorem g_onRaise {m : Sem α} {k : Value → Sem Unit} {Q : α → Shared → Prop} (h : wpG M A m Q (fun e s' => wpG M A (k e) (fun _ s'' => E e s'') E s') s) : wpG M A (m.onRaise k) Q E s := fun Γ p i c => by
 rw [Sem.wp_onRaise]
 exact Sem.wp_mono M Γ m (fun _ _ _ h' => h') (fun e p' s' h' => h' Γ p' i c) p s (h Γ p i c)
theorem g_attempt {m : Sem α} {Q : Except Value α → Shared → Prop} (h : wpG M A m (fun a => Q (.ok a)) (fun e => Q (.error e)) s) : wpG M A m.attempt Q E s := fun Γ p i c => by rw [Sem.wp_attempt]; exact h Γ p i c
theorem g_holding {vs : List Value} {m : Sem α} {Q : α → Shared → Prop} (h : wpG M A m Q E s) : wpG M A (holding vs m) Q E s := fun Γ p i c => by rw [Sem.wp_holding]; exact h Γ p i c
theorem cg_mono {c : Code} {R R' : Result → Shared → Prop} (h : codeG M A c R s) (hR : ∀ r s, R r s → R' r s) : codeG M A c R' s := fun Γ p hc hΓ k => wpCode_mono hR (h Γ p hc hΓ k)
theorem cl_enter {Γ : Ctx} {c : Code} {h : Option Value} {p : Pos} (k : Cl Γ) (hc : plainC c = true) : Cl (Γ.enter c h p) := ⟨hc, fun x hx => by
 rcases List.mem_cons.mp hx with rfl | hx
 · exact k.1
 · exact k.2 x hx⟩
theorem g_runValue {c : Code} {Q : Value → Shared → Prop} (hc : codeG M A c (fun r s' => match r with | .ok (.ret v) => Q v s' | .ok _ => False | .error e => E e s') s) (hp : plainC c = true) : wpG M A (runValue c) Q E s :=
 fun Γ p i k => by rw [Sem.wp_runValue]; exact hc _ p rfl (i.enter c none p (by intro x; cases x)) (cl_enter k hp)
theorem g_run {c : Code} {h : Option Value} {Q : Flow → Shared → Prop} (hc : codeG M (A.mark h) c (fun r s' => match r with | .ok f => Q f s' | .error e => E e s') s) (hp : plainC c = true) (hnb : h ≠ some byPass := by intro x; cases x) : wpG M A (run c h) Q E s :=
 fun Γ p i k => by rw [Sem.wp_run]; exact hc _ p rfl (i.enter c h p hnb) (cl_enter k hp)
theorem g_call {f : Value} {pos : List Value} {kw : List (Str × Value)} {Q : Value → Shared → Prop} (hc : codeG M A (.call f ⟨pos, kw⟩) (fun r s' => match r with | .ok (.ret v) => Q v s' | .ok _ => False | .error e => E e s') s) : wpG M A (call f pos kw) Q E s := g_runValue hc rfl
theorem cg_of_tree {c : Code} {R : Result → Shared → Prop} (h : wpG M (A.under c) (M.den c) (fun fin s' => match fin with | .done f => R (.ok f) s' | .again c' => plainC c' = true ∧ c'.quiet = true ∧ codeG M A c' R s') (fun e s' => R (.error e) s') s) : codeG M A c R s := fun Γ p hc hΓ k => by
 rw [wpCode_iff_wp, hc]
 refine Sem.wp_mono M Γ _ (fun fin p' s' h' => ?_) (fun _ _ _ h' => h') p s (h Γ p (hc ▸ hΓ.in) k)
 cases fin with
 | done f => exact h'
 | again c' => exact ⟨h'.2.1, h'.2.2 (Γ.goto c') p' rfl (hΓ.goto c') ⟨h'.1, k.2⟩⟩
theorem g_stack {Q : List (Code × Pos) → Shared → Prop} (h : ∀ st : List (Code × Pos), (∀ x ∈ st, plainC x.1 = true) → Q st s) : wpG M A stack Q E s := fun Γ p i k => by
 show Q ((Γ.code, p) :: Γ.below) s
 exact h _ fun x hx => by
  rcases List.mem_cons.mp hx with rfl | hx
  · exact k.1
  · exact k.2 x hx
theorem g_exported {v : Value} {Q : Bool → Shared → Prop} (h : Q false s) : wpG M A (Builtin.Bytes.exported v) Q E s := by
 unfold Builtin.Bytes.exported
 refine g_bind (g_stack fun st hst => g_pure ?_)
 rw [List.any_eq_false.mpr ?_]
 · exact h
 · rintro ⟨c, p⟩ hx hf
   have hp : plainC c = true := hst _ hx
   delta Builtin.Bytes.exported.match_1 at hf
   cases c with
   | builtin id args =>
    by_cases h1 : id = "bytearray.__contains__"
    · subst h1; exact absurd hp (by rw [show plainC _ = false by kernel_rfl]; exact Bool.false_ne_true)
    by_cases h2 : id = "bytearray.__mod__"
    · subst h2; exact absurd hp (by rw [show plainC _ = false by kernel_rfl]; exact Bool.false_ne_true)
    by_cases h3 : id = "bytearray.__rmod__"
    · subst h3; exact absurd hp (by rw [show plainC _ = false by kernel_rfl]; exact Bool.false_ne_true)
    by_cases h4 : id = "_struct.pack_into.held"
    · subst h4; exact absurd hp (by rw [show plainC _ = false by kernel_rfl]; exact Bool.false_ne_true)
    by_cases h5 : id = "bytearray.find.held"
    · subst h5; exact absurd hp (by rw [show plainC _ = false by kernel_rfl]; exact Bool.false_ne_true)
    have hq := Bool.or_eq_false_iff.mp ((Bool.not_eq_true' _).mp hp)
    have hf : (dite (id = "bytearray.__contains__") _ _ : Bool) = true := hf
    rw [dif_neg h1, dif_neg h2, dif_neg h3, dif_neg h4, dif_neg h5] at hf
    obtain ⟨pos, kw⟩ := args
    cases pos with
    | nil => exact Bool.false_ne_true hf
    | cons u r =>
     have hf : (Builtin.Bytes.sameRef u v && Builtin.Bytes.decodersThatHold.contains id) = true := hf
     rw [hq.1, Bool.and_false] at hf
     exact Bool.false_ne_true hf
   | _ => exact Bool.false_ne_true hf
end
section
variable {w : World} {A : Around} {s : Shared} {prog : Program}
theorem cg_func {R : Result → Shared → Prop} {body env} (h : wpG (model prog w) (A.deeper env) (execs body env) (fun f s' => R (.ok (.ret (match f with | .ret v => v | _ => .none))) s') (fun e s' => wpG (model prog w) (A.deeper env) (leaving env e) (fun _ s'' => R (.error e) s'') (fun e' s'' => R (.error e') s'') s') s) :
 codeG (model prog w) A (.func body env) R s := by
 refine cg_of_tree ?_
 show wpG _ (A.deeper env) (do point; match ← (execs body env).onRaise (leaving env) with | .ret v => ret v | _ => ret .none) _ _ s
 refine g_bind (wg (wpAny_point (g_bind (g_onRaise (g_mono h (fun f s' h' => ?_) fun _ _ h' => h')))))
 cases f <;> exact g_pure h'
theorem cg_call_def {R : Result → Shared → Prop} {a : Addr} {o : Obj} {fd : FuncData} {body : List Stmt} {args : Args} {binds : List (Str × Value)}
 (hroom : A.depth < recursionLimit) (ho : s.heap.get? a = some o) (hdata : o.data = .func fd) (hlim : s.heap.NoLimit) (hcd : s.heap.CodeRec fd.code fd.qualname)
 (hbody : fd.body = .stmts body) (hbind : BindsTo s fd args binds) (hcell : ∀ x ∈ fd.scope.names, x.2 ≠ .cell) (hloc : ∀ x ∈ binds, fd.scope.names.lookup x.1 = some .local)
 (h : ∀ h₀, h₀.Ns s.heap.objs.size (fun x => binds.reverse.lookup x) → (∀ b o, s.heap.get? b = some o → h₀.get? b = some o) →
  wpG (model prog w) (A.deeper (callEnv fd s.heap.objs.size a)) (execs body (callEnv fd s.heap.objs.size a)) (fun f s' => R (.ok (.ret (match f with | .ret v => v | _ => .none))) s')
   (fun e s' => wpG (model prog w) (A.deeper (callEnv fd s.heap.objs.size a)) (leaving (callEnv fd s.heap.objs.size a) e) (fun _ s'' => R (.error e) s'') (fun e' s'' => R (.error e') s'') s')
   { s with heap := h₀, toks := s.toks + binds.length })
 (hco : fd.scope.isCoroutine = false := by rfl) (hgen : fd.scope.isGenerator = false := by rfl) (hk : fd.scope.kind = .function := by rfl) : codeG (model prog w) A (.call (.ref a) args) R s := by
 refine cg_of_tree ?_
 show wpG _ A.in1 (callAny (.ref a) args) _ _ s
 unfold callAny
 refine g_bind (wg (wpAny_load ho ?_))
 obtain ⟨c, oc, vs, tq, hc, hoc, hdc, hq⟩ := hcd
 simp only [hdata, callFunction, hco, hgen, hbody, hc]
 refine g_bind (m := field (.ref c) 1) (wg (wpAny_field hoc hdc hq (g_bind (g_pure ?_))))
 have hb := hbind
 refine g_bind (m := bindArgs fd args) (wg (hbind _ _ _ _ (g_bind (m := newFunctionEnv _ _ _ _ _ _ _ _ _) (wg (wpAny_newFunctionEnv hcell hloc (fun h₀ hns₀ hsb₀ => ?_) hk)))))
 refine g_bind (wg (wpAny_enterFrame (A := A.in1) (hlim.fresh _ hsb₀) hroom ?_))
 have h' := h h₀ hns₀ fun b o e => hsb₀.extBut b o (Nat.ne_of_lt (Heap.lt_size e)) (Heap.get?_push_of_some _ e)
 unfold callEnv at h'
 rw [hc] at h'
 exact g_pure (And.intro rfl (And.intro rfl (cg_func h')))
end
noncomputable def Gv {α : Type} (M : Model) (A : Around) (g : Heap) (L : Addr) (m : Loc) (N : Led) (t : Sem α) (P : α → Led → Prop) (X : Value → Led → Prop) : Prop :=
 ∀ (s : Shared) (Q : α → Shared → Prop) (E : Value → Shared → Prop), Wf g L s.heap m N →
  (∀ v h' tk' N', P v N' → Wf g L h' m N' → Q v { s with heap := h', toks := tk' }) → (∀ e h' tk' N', X e N' → Wf g L h' m N' → E e { s with heap := h', toks := tk' }) → wpG M A t Q E s
noncomputable abbrev GvP {α : Type} (M : Model) (A : Around) (g : Heap) (L : Addr) (m : Loc) (N : Led) (t : Sem α) (p : α → Prop) (X : Value → Led → Prop) : Prop := Gv M A g L m N t (fun v N' => p v ∧ N' = N) X
noncomputable def Gs (M : Model) (A : Around) (g : Heap) (L : Addr) (m : Loc) (N : Led) (t : Sem Flow) (R : Flow → Loc → Led → Prop) (X : Value → Loc → Led → Prop) : Prop :=
 ∀ (s : Shared) (Q : Flow → Shared → Prop) (E : Value → Shared → Prop), Wf g L s.heap m N →
  (∀ fl h' tk' m' N', R fl m' N' → Wf g L h' m' N' → Q fl { s with heap := h', toks := tk' }) → (∀ e h' tk' m' N', X e m' N' → Wf g L h' m' N' → E e { s with heap := h', toks := tk' }) → wpG M A t Q E s
noncomputable def Gc (M : Model) (A : Around) (g : Heap) (L : Addr) (m : Loc) (N : Led) (c : Code) (P : Value → Led → Prop) (X : Value → Led → Prop) : Prop :=
 ∀ (s : Shared) (S : Result → Shared → Prop), Wf g L s.heap m N →
  (∀ v h' tk' N', P v N' → Wf g L h' m N' → S (.ok (.ret v)) { s with heap := h', toks := tk' }) → (∀ e h' tk' N', X e N' → Wf g L h' m N' → S (.error e) { s with heap := h', toks := tk' }) → codeG M A c S s
noncomputable abbrev GcP (M : Model) (A : Around) (g : Heap) (L : Addr) (m : Loc) (N : Led) (c : Code) (p : Value → Prop) (X : Value → Led → Prop) : Prop := Gc M A g L m N c (fun v N' => p v ∧ N' = N) X
noncomputable abbrev nx : Value → Led → Prop := fun _ _ => False
noncomputable abbrev nxs : Value → Loc → Led → Prop := fun _ _ _ => False
section
variable {α β : Type} {w : World} {M : Model} {A : Around} {g : Heap} {L a : Addr} {m : Loc} {N : Led} {cn : Str} {cs : Scope} {ccd : Value} {cl : List (Str × Addr)} {env : Env} {prog : Program} {X : Value → Led → Prop} {XS : Value → Loc → Led → Prop}
theorem Ev.gv {t : Sem α} {P : α → Led → Prop} (h : Ev M A g L m N t P) : Gv M A g L m N t P X := fun s Q E W q _ => (wg (h s Q E W q))
theorem Xs.gs {t : Sem Flow} {R : Flow → Loc → Led → Prop} (h : Xs M A g L m N t R) : Gs M A g L m N t R XS := fun s Q E W q _ => (wg (h s Q E W q))
theorem Cd.gc {c : Code} {P : Value → Led → Prop} (h : Cd M A g L m N c P) : Gc M A g L m N c P X := fun s S W q _ => cgg (h s S W q)
theorem gv_pure {a : α} {P : α → Led → Prop} (h : P a N) : Gv M A g L m N (pure a) P X := (ev_pure h).gv
theorem gv_bind {t : Sem α} {f : α → Sem β} {P : α → Led → Prop} {R : β → Led → Prop} (h : Gv M A g L m N t P X) (k : ∀ v N', P v N' → Gv M A g L m N' (f v) R X) : Gv M A g L m N (t >>= f) R X :=
 fun s Q E W q x => g_bind (h s _ E W (fun v h' tk' N' p W' => k v N' p _ Q E W' (fun v2 h2 tk2 N2 p2 W2 => q v2 h2 tk2 N2 p2 W2) fun e h2 tk2 N2 p2 W2 => x e h2 tk2 N2 p2 W2) x)
theorem gv_mono {t : Sem α} {P R : α → Led → Prop} (h : Gv M A g L m N t P X) (k : ∀ v N', P v N' → R v N') : Gv M A g L m N t R X := fun s Q E W q x => h s Q E W (fun v h' tk' N' p W' => q v h' tk' N' (k v N' p) W') x
theorem gv_weaken {t : Sem α} {P R : α → Led → Prop} (h : Gv M A g L m N t P X) (k : ∀ v N', P v N' → ∃ N2, N2.Sublist N' ∧ R v N2) : Gv M A g L m N t R X := fun s Q E W q x =>
 h s Q E W (fun v h' tk' N' p W' => let ⟨N2, hs, r⟩ := k v N' p; q v h' tk' N2 r (W'.sub hs)) x
theorem gc_mono {c : Code} {P R : Value → Led → Prop} (h : Gc M A g L m N c P X) (k : ∀ v N', P v N' → R v N') : Gc M A g L m N c R X := fun s S W q x => h s S W (fun v h' tk' N' p W' => q v h' tk' N' (k v N' p) W') x
theorem gc_weaken {c : Code} {P R : Value → Led → Prop} (h : Gc M A g L m N c P X) (k : ∀ v N', P v N' → ∃ N2, N2.Sublist N' ∧ R v N2) : Gc M A g L m N c R X := fun s S W q x =>
 h s S W (fun v h' tk' N' p W' => let ⟨N2, hs, r⟩ := k v N' p; q v h' tk' N2 r (W'.sub hs)) x
theorem gs_mono {t : Sem Flow} {P R : Flow → Loc → Led → Prop} (h : Gs M A g L m N t P XS) (k : ∀ fl m' N', P fl m' N' → R fl m' N') : Gs M A g L m N t R XS := fun s Q E W q x => h s Q E W (fun fl h' tk' m' N' p W' => q fl h' tk' m' N' (k fl m' N' p) W') x
theorem gv_holding {vs : List Value} {t : Sem α} {P : α → Led → Prop} (h : Gv M A g L m N t P X) : Gv M A g L m N (holding vs t) P X := fun s Q E W q x => g_holding (h s Q E W q x)
theorem gv_at {t : Sem α} {p : Pos} {P : α → Led → Prop} (h : Gv M A g L m N t P X) : Gv M A g L m N (standAt p >>= fun _ => t) P X := gv_bind (P := fun _ N' => N' = N) (ev_standAt rfl).gv fun _ _ e => e ▸ h
theorem gv_operate {ops : List Value} {t : Sem Value} {P : Value → Led → Prop} (h : Gv M A g L m N t P X) : Gv M A g L m N (operate ops t) P X := by
 unfold operate
 refine gv_bind (gv_holding h) fun v N' p => ?_
 exact gv_bind (P := fun _ N2 => N2 = N') (ev_release rfl).gv fun _ _ e => e ▸ gv_pure p
theorem gv_of_gc {f : Value} {pos : List Value} {kw : List (Str × Value)} {P : Value → Led → Prop} (h : Gc M A g L m N (.call f ⟨pos, kw⟩) P X) : Gv M A g L m N (call f pos kw) P X := fun s Q E W q x => g_call (h s _ W q x)
theorem gv_BinOp {l r : Expr} {op : Operator} {p : Pos} {p1 p2 : Value → Led → Prop} {P : Value → Led → Prop} (h1 : Gv M A g L m N (eval l env) p1 X) (h2 : ∀ x N', p1 x N' → Gv M A g L m N' (eval r env) p2 X)
 (h : ∀ x y N1 N2, p1 x N1 → p2 y N2 → Gv M A g L m N2 (binaryOp op x y) P X) : Gv M A g L m N (eval (.BinOp l op r p) env) P X := by
 rw [arm_eval_BinOp]
 exact gv_bind h1 fun x N1 e1 => gv_bind (gv_holding (h2 x N1 e1)) fun y N2 e2 => gv_at (gv_operate (h x y N1 N2 e1 e2))
theorem gv_cmp1 {l r : Expr} {op : CmpOp} {p : Pos} {p1 : Value → Led → Prop} {p2 : Value → Value → Led → Prop} {P : Value → Led → Prop} (h1 : Gv M A g L m N (eval l env) p1 X) (h2 : ∀ x N', p1 x N' → Gv M A g L m N' (eval r env) (p2 x) X)
 (h : ∀ x y N2, p2 x y N2 → Gv M A g L m N2 (compareOp op x y) P X) (hm : behindInMarks op r = false := by with_unfolding_all rfl) : Gv M A g L m N (eval (.Compare l [op] [r] p) env) P X := by
 rw [eval_Compare1, markedBehindIn_of_false hm]
 exact gv_bind h1 fun x N1 e1 => gv_bind (gv_holding (h2 x N1 e1)) fun y N2 e2 => gv_at (gv_operate (h x y N2 e2))
noncomputable abbrev GTst (M : Model) (A : Around) (g : Heap) (L : Addr) (m : Loc) (N : Led) (e : Expr) (env : Env) (P : Bool → Led → Prop) (X : Value → Led → Prop) : Prop := Gv M A g L m N (isTrue e env (eval e env)) P X
theorem gt_cmp1 {l r : Expr} {op : CmpOp} {p : Pos} {p1 : Value → Led → Prop} {p2 : Value → Value → Led → Prop} {P : Bool → Led → Prop} (h1 : Gv M A g L m N (eval l env) p1 X) (h2 : ∀ x N', p1 x N' → Gv M A g L m N' (eval r env) (p2 x) X)
 (h : ∀ x y N2, p2 x y N2 → Gv M A g L m N2 (compareOp op x y) (fun v N' => ∃ b, v = .bool b ∧ P b N') X) (hm : behindInMarks op r = false := by with_unfolding_all rfl) : GTst M A g L m N (.Compare l [op] [r] p) env P X := by
 unfold GTst
 rw [isTrue_Compare1, markedBehindIn_of_false hm]
 refine gv_bind h1 fun x N1 e1 => gv_bind (gv_holding (h2 x N1 e1)) fun y N2 e2 => gv_at (gv_bind (gv_operate (h x y N2 e2)) ?_)
 refine i_g ?_; rintro b N3 hb
 exact gv_holding (gv_mono tru_bool.gv fun c N' e => by obtain ⟨rfl, rfl⟩ := e; exact hb)
theorem gt_plain {e : Expr} {p : Value → Led → Prop} {P : Bool → Led → Prop} (h : Gv M A g L m N (eval e env) p X) (ht : ∀ v N', p v N' → Gv M A g L m N' (truthy v) P X)
 (he : ∀ whole, isTrue e env whole = (do let v ← whole; standAt e.pos; holding [v] (truthy v)) := by intro _; rfl) : GTst M A g L m N e env P X := by
 unfold GTst
 rw [he]
 exact gv_bind h fun v N' e1 => gv_at (gv_holding (ht v N' e1))
theorem gt_not {e : Expr} {p : Pos} {P : Bool → Led → Prop} (h : GTst M A g L m N e env (fun b N' => P (!b) N') X) : GTst M A g L m N (.UnaryOp .Not e p) env P X := by
 show Gv M A g L m N (do return !(← isTrue e env (eval e env))) P X
 exact gv_bind h fun b N' e1 => gv_pure e1
theorem gt_and {e : Expr} {r : List Expr} {p : Pos} {P : Bool → Led → Prop} {p1 : Bool → Led → Prop} (h : GTst M A g L m N e env p1 X) (hf : ∀ N', p1 false N' → P false N') (hr : ∀ N', p1 true N' → GTst M A g L m N' (.BoolOp .And r p) env P X) : GTst M A g L m N (.BoolOp .And (e :: r) p) env P X := by
 refine gv_bind (f := fun c => match BoolOp.And, c with | .And, false => pure false | .Or, true => pure true | _, _ => allTrue .And r env) h fun c N' e1 => ?_
 cases c with
 | false => exact gv_pure (hf N' e1)
 | true => exact hr N' e1
theorem gt_and0 {p : Pos} {P : Bool → Led → Prop} (h : P true N) : GTst M A g L m N (.BoolOp .And [] p) env P X := gv_pure h
theorem gt_or {e : Expr} {r : List Expr} {p : Pos} {P : Bool → Led → Prop} {p1 : Bool → Led → Prop} (h : GTst M A g L m N e env p1 X) (hf : ∀ N', p1 true N' → P true N') (hr : ∀ N', p1 false N' → GTst M A g L m N' (.BoolOp .Or r p) env P X) : GTst M A g L m N (.BoolOp .Or (e :: r) p) env P X := by
 refine gv_bind (f := fun c => match BoolOp.Or, c with | .And, false => pure false | .Or, true => pure true | _, _ => allTrue .Or r env) h fun c N' e1 => ?_
 cases c with
 | true => exact gv_pure (hf N' e1)
 | false => exact hr N' e1
theorem gt_or0 {p : Pos} {P : Bool → Led → Prop} (h : P false N) : GTst M A g L m N (.BoolOp .Or [] p) env P X := gv_pure h
theorem gv_ifexp {t b o : Expr} {p : Pos} {P1 : Bool → Led → Prop} {P : Value → Led → Prop} (h : GTst M A g L m N t env P1 X) (hb : ∀ c N', P1 c N' → if c then Gv M A g L m N' (eval b env) P X else Gv M A g L m N' (eval o env) P X) : Gv M A g L m N (eval (.IfExp t b o p) env) P X := by
 rw [arm_eval_IfExp]
 refine gv_bind h fun c' N' e => ?_
 have := hb c' N' e
 cases c' <;> exact this
theorem gv_and {e₁ e₂ : Expr} {r : List Expr} {p : Pos} {p1 : Value → Led → Prop} {P : Value → Led → Prop} {c : Value → Led → Bool} (h1 : Gv M A g L m N (eval e₁ env) p1 X) (ht : ∀ v N', p1 v N' → Gv M A g L m N' (truthy v) (fun b N2 => b = c v N' ∧ N2 = N') X)
 (h : ∀ v N', p1 v N' → if c v N' then Gv M A g L m N' (eval (.BoolOp .And (e₂ :: r) p) env) P X else P v N') : Gv M A g L m N (eval (.BoolOp .And (e₁ :: e₂ :: r) p) env) P X := by
 refine gv_bind (f := fun v => do standAt p; let c ← holding [v] (truthy v); match BoolOp.And, c with | .And, false | .Or, true => pure v | _, _ => boolOp p .And (eval e₂ env :: evalEach r env)) h1 fun v N' e1 => ?_
 refine gv_at (gv_bind (gv_holding (ht v N' e1)) fun b N2 e2 => ?_)
 obtain ⟨rfl, rfl⟩ := e2
 have := h v N2 e1
 cases hc : c v N2 with
 | false => rw [hc] at this; exact gv_pure this
 | true => rw [hc] at this; exact this
theorem gv_and1 {e : Expr} {p : Pos} {P : Value → Led → Prop} (h : Gv M A g L m N (eval e env) P X) : Gv M A g L m N (eval (.BoolOp .And [e] p) env) P X := h
noncomputable def Ny (M : Model) (A : Around) (g : Heap) (L : Addr) (env : Env) (rest : List Stmt) (R : Flow → Loc → Led → Prop) (XS : Value → Loc → Led → Prop) (fl : Flow) (m : Loc) (N : Led) : Prop := match fl with
 | .next => Gs M A g L m N (execs rest env) R XS
 | fl => R fl m N
theorem gs_nil {R : Flow → Loc → Led → Prop} (h : R .next m N) : Gs M A g L m N (execs [] env) R XS := (xs_nil h).gs
theorem ny_nil {rest : List Stmt} {R : Flow → Loc → Led → Prop} (h : Gs M A g L m N (execs rest env) R XS) : Gs M A g L m N (execs [] env) (Ny M A g L env rest R XS) XS := gs_nil h
theorem gs_cons {st : Stmt} {rest : List Stmt} {R : Flow → Loc → Led → Prop} (h : Gs M A g L m N (exec st env) (Ny M A g L env rest R XS) XS) : Gs M A g L m N (execs (st :: rest) env) R XS := fun s Q E W q x => by
 rw [execs_cons]
 refine g_bind (h s _ E W (fun fl h' tk' m' N' p W' => ?_) x)
 cases fl with
 | next => exact p _ Q E W' (fun fl2 h2 tk2 m2 N2 p2 W2 => q fl2 h2 tk2 m2 N2 p2 W2) fun e h2 tk2 m2 N2 p2 W2 => x e h2 tk2 m2 N2 p2 W2
 | _ => exact g_pure (q _ h' tk' m' N' p W')
theorem gs_return {e : Expr} {p : Pos} {rest : List Stmt} {P : Value → Led → Prop} {R : Flow → Loc → Led → Prop} (h : Gv M A g L m N (eval e env) P (fun v N' => XS v m N')) (k : ∀ v N', P v N' → R (.ret v) m N') : Gs M A g L m N (execs (.Return (some e) p :: rest) env) R XS :=
 gs_cons fun s Q E W q x => by
  rw [exec_Return_some]
  exact g_bind (wg (wpAny_standAt (g_bind (h s _ E W (fun v h' tk' N' p1 W' => g_pure (q (.ret v) h' tk' m N' (k v N' p1) W')) fun v h' tk' N' p1 W' => x v h' tk' m N' p1 W'))))
theorem gs_assign {x : Str} {e : Expr} {p p' : Pos} {rest : List Stmt} {P : Value → Led → Prop} {R : Flow → Loc → Led → Prop} (h : Gv M A g L m N (eval e (envX cn cs L a ccd cl)) P (fun v N' => XS v m N'))
 (k : ∀ v N', P v N' → Gs M A g L ((x, v) :: m) N' (execs rest (envX cn cs L a ccd cl)) R XS)
 (hs : swapsWith e (some (.Name x p')) p.line (envX cn cs L a ccd cl) = pure false := by rfl) (hk : cs.kind = .function := by rfl) (hx : (envX cn cs L a ccd cl).kindOf x = some .local := by rfl) :
 Gs M A g L m N (execs (.Assign [.Name x p'] e p :: rest) (envX cn cs L a ccd cl)) R XS :=
 gs_cons fun s Q E W q xx => by
  rw [exec_Assign_Name _ _ _ _ _ hs]
  refine g_bind (wg (wpAny_standAt (g_bind (h s _ E W (fun v h' tk' N' p1 W' => ?_) fun v h' tk' N' p1 W' => xx v h' tk' m N' p1 W'))))
  exact g_bind (wg (wpAny_standAt (g_bind (wg (wpAny_bindName (storeX_L W'.fr W'.nw (fun h2 F2 n2 => g_pure (q .next h2 (tk' + 1) _ N' (k v N' p1) ⟨lk_cons m x v ▸ F2, n2, W'.nd⟩)) hk hx))))))
theorem gs_if {t : Expr} {b o : List Stmt} {p : Pos} {rest : List Stmt} {P : Bool → Led → Prop} {R : Flow → Loc → Led → Prop} (h : GTst M A g L m N t env P (fun v N' => XS v m N'))
 (ht : ∀ N', P true N' → Gs M A g L m N' (execs b env) (Ny M A g L env rest R XS) XS) (hf : ∀ N', P false N' → Gs M A g L m N' (execs o env) (Ny M A g L env rest R XS) XS) : Gs M A g L m N (execs (.If t b o p :: rest) env) R XS :=
 gs_cons fun s Q E W q x => by
  rw [arm_exec_If]
  refine g_bind (wg (wpAny_standAt (g_bind (h s _ E W (fun c' h' tk' N' p1 W' => ?_) fun v h' tk' N' p1 W' => x v h' tk' m N' p1 W'))))
  cases c' with
  | true => exact ht N' p1 _ Q E W' q x
  | false => exact hf N' p1 _ Q E W' q x
theorem gs_expr {e : Expr} {p : Pos} {rest : List Stmt} {P : Value → Led → Prop} {R : Flow → Loc → Led → Prop} (h : Gv (model prog w) A g L m N (eval e env) P (fun v N' => XS v m N')) (k : ∀ v N', P v N' → Gs (model prog w) A g L m N' (execs rest env) R XS)
 (hi : interactive env = false := by rfl) (hs : swapsWith e none p.line env = pure false := by rfl) : Gs (model prog w) A g L m N (execs (.Expr e p :: rest) env) R XS :=
 gs_cons fun s Q E W q x => by
  rw [exec_Expr env e p hi hs]
  exact g_bind (wg (wpAny_standAt (g_bind (h s _ E W (fun v h' tk' N' p1 W' => (wg (wpAny_dropValue (q .next h' tk' m N' (k v N' p1) W')))) fun v h' tk' N' p1 W' => x v h' tk' m N' p1 W'))))
theorem gs_aug {x : Str} {op : Operator} {e : Expr} {p p' : Pos} {rest : List Stmt} {v0 : Value} {p1 : Value → Led → Prop} {P : Value → Led → Prop} {R : Flow → Loc → Led → Prop} (hv : lk m x = some v0) (he : Gv M A g L m N (eval e (envX cn cs L a ccd cl)) p1 (fun v N' => XS v m N'))
 (hop : ∀ v N', p1 v N' → Gv M A g L m N' (inplaceOp op v0 v) P (fun v N' => XS v m N')) (k : ∀ v N', P v N' → Gs M A g L ((x, v) :: m) N' (execs rest (envX cn cs L a ccd cl)) R XS)
 (hk : cs.kind = .function := by rfl) (hx : (envX cn cs L a ccd cl).kindOf x = some .local := by rfl) : Gs M A g L m N (execs (.AugAssign (.Name x p') op e p :: rest) (envX cn cs L a ccd cl)) R XS :=
 gs_cons fun s Q E W q xx => by
  rw [exec_AugAssign_Name]
  refine g_bind (wg (wpAny_standAt (g_bind (wg (wpAny_loadName_local hk hx W.fr.ns hv (g_bind (g_holding (he s _ E W (fun v h' tk' N' e1 W' => ?_) fun v h' tk' N' p1 W' => xx v h' tk' m N' p1 W'))))))))
  refine g_bind (wg (wpAny_standAt ?_))
  refine g_bind ((gv_operate (hop v N' e1)) { s with heap := h', toks := tk' } _ E W' (fun r h2 tk2 N2 e2 W2 => ?_) fun v h' tk' N' p1 W' => xx v h' tk' m N' p1 W')
  exact g_bind (wg (wpAny_standAt (g_bind (wg (wpAny_bindName (storeX_L W2.fr W2.nw (fun h3 F3 n3 => g_pure (q .next h3 (tk2 + 1) _ N2 (k r N2 e2) ⟨lk_cons m x r ▸ F3, n3, W2.nd⟩)) hk hx))))))
end
section
variable {M : Model} {A : Around} {g : Heap} {L : Addr} {m : Loc} {N : Led} {K : Frag} {env : Env} {X : Value → Led → Prop}
theorem gr_nil {p : Pos} {PA : List Value → Led → Prop} (h : PA [] N) : Gv M A g L m N (spliced (backTo p (starEach [] env))) PA X := (ar_nil h).gv
theorem gr_cons {e : Expr} {r : List Expr} {p : Pos} {P : Value → Led → Prop} {PA : List Value → Led → Prop} (h : Gv M A g L m N (eval e env) P X) (k : ∀ v N', P v N' → Gv M A g L m N' (spliced (backTo p (starEach r env))) (fun vs N2 => PA (v :: vs) N2) X)
 (he : starEach (e :: r) env = (false, eval e env) :: starEach r env := by rfl) : Gv M A g L m N (spliced (backTo p (starEach (e :: r) env))) PA X := by
 rw [he]
 show Gv M A g L m N (do
  let v ← eval e env
  let here ← (pure [v] : Sem (List Value))
  return here ++ (← holding here (spliced (backTo p (starEach r env))))) PA X
 refine gv_bind h fun v N' e1 => ?_
 refine gv_bind (P := fun l N2 => l = [v] ∧ N2 = N') (gv_pure ⟨rfl, rfl⟩) fun l N2 e2 => ?_
 obtain ⟨rfl, rfl⟩ := e2
 exact gv_bind (gv_holding (k v N2 e1)) fun vs N3 e3 => gv_pure e3
theorem gk_nil {p : Pos} {PA : List Value → Led → Prop} (h : PA [] N) : Gv M A g L m N (evalAll ((backToKw p (keywordEach [] env)).map (·.2))) PA X := (ak_nil h).gv
theorem gk_cons {p p' : Pos} {name : Str} {e : Expr} {rest : List Keyword} {P : Value → Led → Prop} {PA : List Value → Led → Prop} (h : Gv M A g L m N (eval e env) P X) (k : ∀ v N', P v N' → Gv M A g L m N' (evalAll ((backToKw p (keywordEach rest env)).map (·.2))) (fun vs N2 => PA (v :: vs) N2) X) :
 Gv M A g L m N (evalAll ((backToKw p (keywordEach (⟨some name, e, p'⟩ :: rest) env)).map (·.2))) PA X := by
 show Gv M A g L m N (evalAll ((do let v ← eval e env; standAt p; pure v) :: (backToKw p (keywordEach rest env)).map (·.2))) PA X
 rw [evalAll]
 refine gv_bind (P := P) (gv_bind h fun v N' e1 => gv_at (gv_pure e1)) fun v N' e1 => ?_
 exact gv_bind (gv_holding (k v N' e1)) fun vs N2 e2 => gv_pure e2
theorem gv_evalArgs {f : Value} {args : List (Bool × Sem Value)} {kws : List (Option Str × Sem Value)} {PA : List Value → Led → Prop} {PK : List Value → List Value → Led → Prop} (ha : Gv M A g L m N (spliced args) PA X) (hk : ∀ vs N', PA vs N' → Gv M A g L m N' (evalAll (kws.map (·.2))) (PK vs) X)
 (hall : kws.all (·.1.isSome) = true) (hplain : args.any (·.1) = false) : Gv M A g L m N (evalArgs f true args kws) (fun x N' => ∃ vs ks, x = ⟨vs, (kws.filterMap (·.1)).zip ks⟩ ∧ PK vs ks N') X := by
 unfold evalArgs
 have fin : Gv M A g L m N (do
  let l ← spliced args
  let __x ← (pure (l, (none : Option Value)) : Sem (List Value × Option Value))
  match __x with
  | (pos, late) => holding (pos ++ late.toList) do
   let readLate (keep : List Value) : Sem (List Value) := do
    let some s := late | return pos
    if ← notIterableAtAll s then
     rule "call.star.not-iterable"
     raiseError "TypeError" s!"{← functionStr f} argument after * must be an iterable, not {← PySem.typeNameOf s}"
    holding keep (collect s)
   if kws.all (·.1.isSome) then
    let kw := (kws.filterMap (·.1)).zip (← evalAll (kws.map (·.2)))
    return (⟨← readLate (kw.map (·.2)), kw⟩ : Args)
   let d ← mergedKeywords f kws
   let pos ← readLate [.ref d]
   return ⟨pos, ← holding (.ref d :: pos) (keywordsIn f d)⟩) (fun x N' => ∃ vs ks, x = ⟨vs, (kws.filterMap (·.1)).zip ks⟩ ∧ PK vs ks N') X := by
  refine gv_bind ha fun vs N0 e1 => gv_bind (P := fun x N' => x = (vs, none) ∧ N' = N0) (gv_pure ⟨rfl, rfl⟩) fun x N' e0 => ?_
  obtain ⟨rfl, rfl⟩ := e0
  refine gv_holding ?_
  simp only [hall, if_true]
  refine gv_bind (hk vs N' e1) fun ks N2 e2 => ?_
  exact gv_bind (P := fun x N3 => x = vs ∧ N3 = N2) (gv_pure ⟨rfl, rfl⟩) fun x N3 e3 => by obtain ⟨rfl, rfl⟩ := e3; exact gv_pure ⟨x, ks, rfl, e2⟩
 rcases args with _ | ⟨⟨b, x⟩, rest⟩
 · exact fin
 · cases b with
   | true => simp at hplain
   | false => cases rest <;> exact fin
theorem gv_callWith' {p : Pos} {f : Value} {first : List Value} {args : List (Bool × Sem Value)} {kws : List (Option Str × Sem Value)} {PA : Args → Led → Prop} {P : Value → Led → Prop} (B : Bs K g) (hk : Kp K f) (ha : Gv M A g L m N (evalArgs f true args kws) PA X)
 (hc : ∀ x N', PA x N' → Gv M A g L m N' (call f (first ++ x.pos) x.kw) P X) (hplain : (args.any (·.1) || kws.any (·.1.isNone)) = false) : Gv M A g L m N (callWith p f first args kws) P X := by
 unfold callWith
 refine gv_bind (gv_holding ha) fun x N' e1 => gv_at ?_
 simp only [hplain]
 intro s Q E W q xx
 obtain ⟨k, hk', Lk⟩ := hk M s.heap (B.X.keeps W.fr.keep)
 refine g_bind (wg (Lk.here ?_))
 have fin : ∀ {t : Sem Value}, Gv M A g L m N' t P X → wpG M A (t >>= fun r => holding [r] point >>= fun _ => pure r) Q E s := fun ht =>
  gv_bind ht (fun v N2 e2 => gv_bind (P := fun _ N3 => N3 = N2) (gv_holding (ev_point rfl).gv) fun _ _ e => e ▸ gv_pure e2) s Q E W q xx
 have marked (mk : Value) : Gv M A g L m N' (callMarked mk f (first ++ x.pos) x.kw) P X := by
  unfold callMarked
  intro s Q E W q xx Γ p i c
  rw [Sem.wp_keep]
  exact hc x N' e1 s Q E W q xx Γ p i c
 have plain := hc x N' e1
 rcases hk' with rfl | rfl | rfl <;> dsimp only <;> first | exact fin plain | (split <;> first | exact fin plain | exact fin (marked _))
theorem gv_callWith {p : Pos} {f : Value} {first : List Value} {args : List Expr} {kws : List Keyword} {PA : List Value → Led → Prop} {PK : List Value → List Value → Led → Prop} {P : Value → Led → Prop} (B : Bs K g) (hk : Kp K f)
 (ha : Gv M A g L m N (spliced (backTo p (starEach args env))) PA X) (hk2 : ∀ vs N', PA vs N' → Gv M A g L m N' (evalAll ((backToKw p (keywordEach kws env)).map (·.2))) (PK vs) X)
 (hc : ∀ vs ks N', PK vs ks N' → Gv M A g L m N' (call f (first ++ vs) (((backToKw p (keywordEach kws env)).filterMap (·.1)).zip ks)) P X)
 (hall : (backToKw p (keywordEach kws env)).all (·.1.isSome) = true := by rfl) (hplain : (backTo p (starEach args env)).any (·.1) = false := by rfl) (hnone : (backToKw p (keywordEach kws env)).any (·.1.isNone) = false := by rfl) :
 Gv M A g L m N (callWith p f first (backTo p (starEach args env)) (backToKw p (keywordEach kws env))) P X :=
 gv_callWith' B hk (gv_evalArgs ha hk2 hall hplain) (fun x N' e => by obtain ⟨vs, ks, rfl, e⟩ := e; exact hc vs ks N' e) (by rw [hplain, hnone]; rfl)
theorem gv_Call {fe : Expr} {args : List Expr} {kws : List Keyword} {p : Pos} {f : Value} {P : Value → Led → Prop} (hf : EvP M A g L m N (eval fe env) (IsV f)) (h : Gv M A g L m N (callWith p f [] (backTo p (starEach args env)) (backToKw p (keywordEach kws env))) P X)
 (he : eval (.Call fe args kws p) env = (do callWith p (← eval fe env) [] (backTo p (starEach args env)) (backToKw p (keywordEach kws env))) := by rfl) : Gv M A g L m N (eval (.Call fe args kws p) env) P X := by
 rw [he]
 refine gv_bind hf.gv fun v N' e => ?_
 obtain ⟨rfl, rfl⟩ := e
 exact h
theorem gv_MCall {o : Expr} {name : Str} {apos p : Pos} {args : List Expr} {kws : List Keyword} {pl : Sem Bool} {Po : Value → Led → Prop} {PM : Value → (Value × List Value) → Led → Prop} {P : Value → Led → Prop} (ho : Gv M A g L m N (eval o env) Po X)
 (hm : ∀ ov N1, Po ov N1 → Gv M A g L m N1 (getMethod ov name pl) (PM ov) X)
 (hc : ∀ ov f first N2, PM ov (f, first) N2 → Gv M A g L m N2 (callWith p f first (backTo p (starEach args env)) (backToKw p (keywordEach kws env))) P X)
 (he : eval (.Call (.Attribute o name apos) args kws p) env = (do
  let ov ← eval o env
  standAt apos.atName
  let (f, first) ← holding [ov] (getMethod ov name pl)
  callWith p f first (backTo p (starEach args env)) (backToKw p (keywordEach kws env))) := by rfl) : Gv M A g L m N (eval (.Call (.Attribute o name apos) args kws p) env) P X := by
 rw [he]
 exact gv_bind ho fun ov N1 p1 => gv_at (gv_bind (gv_holding (hm ov N1 p1)) fun fx N2 p2 => hc ov fx.1 fx.2 N2 p2)
end
section
variable {prog : Program} {w : World} {A : Around} {g : Heap} {L : Addr} {m : Loc} {K : Frag}
 {name qual : Str} {params : Arguments} {body : List Stmt} {scope : Scope} {dV kV doc pm cdv ct oc : Value} {an od : Option Addr} {osl : Array (Option Value)} {f : Addr} {pos : List Value} {kw : List (Str × Value)} {N : Led}
theorem gc_call (binds : List (Str × Value)) {P : Value → Led → Prop} {X : Value → Led → Prop} {d : Nat} {C R : Led}
 (B : Bs K g) (r : Rm A (d + 1)) (ho : K.lookup f = some ⟨oc, od, .func (fnX name qual params body scope [] dV kV doc pm an cdv ct), osl⟩) (hcd : codeIn K cdv qual = true)
 (hbind : ∀ s : Shared, K.In s.heap → BindsTo s (fnX name qual params body scope [] dV kV doc pm an cdv ct) ⟨pos, kw⟩ binds) (hloc : (binds.all fun x => decide (scope.names.lookup x.1 = some .local)) = true)
 (hb : ∀ h₀ L' A', Rm A' d → (∀ b o, g.get? b = some o → h₀.get? b = some o) → (∀ p ∈ R, h₀.get? p.1 = some p.2) → Bs K h₀ →
  Gs (model prog w) A' h₀ L' binds.reverse C (execs body (envX qual scope L' f cdv [])) (fun fl _ N' => P (flowV fl) N') nxs)
 (hcell : ∀ x ∈ scope.names, x.2 ≠ .cell) (hco : scope.isCoroutine = false := by rfl) (hgen : scope.isGenerator = false := by rfl) (hk : scope.kind = .function := by rfl) :
 Gc (model prog w) A g L m (C ++ R) (.call (.ref f) ⟨pos, kw⟩) (fun v N' => ∃ C', P v C' ∧ N' = C' ++ R) X := fun s S W q x => by
 have XX := B.X.keeps W.fr.keep
 obtain ⟨st, sr, bk⟩ := W.hide
 refine cg_call_def (fd := fnX name qual params body scope [] dV kV doc pm an cdv ct) (body := body) (binds := binds) r.room (XX _ _ ho) rfl (B.nolimit.keeps W.fr.keep) (codeRec_of XX hcd) rfl (hbind s XX) hcell (locs hloc) (fun h₁ hns hk₁ => ?_) hco hgen hk
 have W₁ : Wf (hideAll s.heap (C.map (·.1))) s.heap.objs.size h₁ binds.reverse C :=
  ⟨⟨hns, fun b o e => hk₁ b o (of_hideAll _ e), Nat.le_of_eq (hideAll_size _ _)⟩, fun p hp => ⟨hk₁ _ _ (W.nw p (List.mem_append_left _ hp)).1, Nat.ne_of_lt (Heap.lt_size (W.nw p (List.mem_append_left _ hp)).1), hideAll_none _ (List.mem_map_of_mem hp)⟩, by
   have := W.nd; rw [List.map_append, List.nodup_append] at this; exact this.1⟩
 exact hb _ s.heap.objs.size _ r.deep st sr (B.keeps st) _ _ _ W₁ (fun fl h' tk' m' C' p W' => q _ h' tk' _ ⟨C', p, rfl⟩ (bk _ _ _ _ W')) fun _ _ _ _ _ h _ => h.elim
theorem gc_pcall (binds : List (Str × Value)) {P : Value → Prop} {X : Value → Led → Prop} {d : Nat}
 (B : Bs K g) (r : Rm A (d + 1)) (ho : K.lookup f = some ⟨oc, od, .func (fnX name qual params body scope [] dV kV doc pm an cdv ct), osl⟩) (hcd : codeIn K cdv qual = true)
 (hbind : ∀ s : Shared, K.In s.heap → BindsTo s (fnX name qual params body scope [] dV kV doc pm an cdv ct) ⟨pos, kw⟩ binds) (hloc : (binds.all fun x => decide (scope.names.lookup x.1 = some .local)) = true)
 (hb : ∀ h₀ L' A', Rm A' d → (∀ b o, g.get? b = some o → h₀.get? b = some o) → (∀ p ∈ N, h₀.get? p.1 = some p.2) → Bs K h₀ →
  Gs (model prog w) A' h₀ L' binds.reverse [] (execs body (envX qual scope L' f cdv [])) (fun fl _ N' => P (flowV fl)) nxs)
 (hcell : ∀ x ∈ scope.names, x.2 ≠ .cell) (hco : scope.isCoroutine = false := by rfl) (hgen : scope.isGenerator = false := by rfl) (hk : scope.kind = .function := by rfl) :
 GcP (model prog w) A g L m N (.call (.ref f) ⟨pos, kw⟩) P X :=
 gc_weaken (gc_call (C := []) (R := N) (P := fun v _ => P v) binds B r ho hcd hbind hloc hb hcell hco hgen hk) fun v N' ⟨C', p, e⟩ => ⟨N, e ▸ List.sublist_append_right _ _, p, rfl⟩
end
noncomputable def GoG (prog : Program) (w : World) (A : Around) (R : Result → Shared → Prop) : Fin → Shared → Prop := fun fin s' => match fin with | .done f => R (.ok f) s' | .again c' => plainC c' = true ∧ c'.quiet = true ∧ codeG (model prog w) A c' R s'
section
variable {w : World} {A : Around} {prog : Program} {E : Value → Shared → Prop} {s : Shared} {R : Result → Shared → Prop}
theorem cg_builtin {id : String} {args : Args} {b : Builtin} (hb : entryFor table id = some b) (h : wpG (model prog w) (A.under (.builtin id args)) (b args) (GoG prog w A R) (fun e s' => R (.error e) s') s) : codeG (model prog w) A (.builtin id args) R s := by
 refine cg_of_tree ?_
 show wpG _ _ (match entryFor table id with | some b => b args | none => unsupported ((withoutEnding? id "#data").getD id)) _ _ s
 rw [hb]; exact h
theorem cg_call_builtin {id : String} {args : Args} {b : Builtin} (hq : plainId id = true) (hpc : plainC (.builtin id args) = true) (hb : entryFor table id = some b)
 (h : wpG (model prog w) A.in1 (checkBuiltinCall id args) (fun _ s₁ => wpG (model prog w) A.in1 (b args) (GoG prog w A R) (fun e s' => R (.error e) s') s₁) (fun e s' => R (.error e) s') s) : codeG (model prog w) A (.call (.builtin id) args) R s := by
 refine cg_of_tree ?_
 show wpG _ A.in1 (do checkBuiltinCall id args; again (.builtin id args)) _ _ s
 refine g_bind (g_mono h (fun _ s₁ h₁ => g_pure (And.intro hpc (And.intro (plainId_quiet hq args) (cg_builtin hb ?_)))) fun _ _ x => x)
 rw [Around.under_plainId hq args]; exact h₁
theorem g_callType {T newId initId : String} {args : List Value} {Q Q₁ : Value → Shared → Prop} (ft : TypeCalled T newId initId) (hct : checkTypeCall T ⟨args, []⟩ = pure ()) (hpc : plainC (.builtin "type.__call__" ⟨.type T :: args, []⟩) = true)
 (hnew : codeG (model prog w) A.in1 (.call (.builtin newId) ⟨.type T :: args, []⟩) (wants Q₁ E) s)
 (hnext : ∀ obj s₁, Q₁ obj s₁ → s₁.TypeIs obj T ∧ codeG (model prog w) A.in1 (.call (.builtin initId) ⟨obj :: args, []⟩) (wants (fun r s₂ => r = .none ∧ Q obj s₂) E) s₁) : wpG (model prog w) A (call (.type T) args) Q E s := by
 obtain ⟨c, tl, hmro⟩ := ft.mro
 refine g_call (cg_of_tree ?_)
 show wpG _ _ (callAny (.type T) _) _ _ _
 refine g_pure (And.intro hpc (And.intro (Code.quiet_builtin _ (by decide +kernel)) (cg_builtin F.entry_type_call ?_)))
 rw [Around.under_plain (weight_type_call_type T args []) (units_type_call_type T args [])]
 have h1 := ft.notType
 have h2 := ft.canCreate
 unfold Builtin.«type.__call__»
 simp only [h1, h2, hct, Bool.false_eq_true, if_false, pure_bind]
 rw [hmro]
 simp only [pure_bind, List.isEmpty_cons, Bool.false_eq_true, if_false, ft.made]
 refine g_bind (g_holding (g_runValue (c := .call (.builtin newId) ⟨.type T :: args, []⟩) (cg_mono hnew fun r s₁ hr => ?_) rfl))
 cases r with
 | error e => exact hr
 | ok fl =>
  cases fl with
  | ret obj =>
   obtain ⟨hT, hi⟩ := hnext _ _ hr
   refine g_bind (wg (wpAny_isInstance hT ft.sub ?_))
   refine g_bind (g_holding ?_)
   unfold callSpecial?
   refine g_bind (wg (wpAny_specialOf hT ft.init.lookup ?_))
   refine g_holding ?_
   rw [ft.init.bind obj]
   refine g_bind (g_pure ?_)
   refine g_bind (g_runValue (c := .call (.builtin initId) ⟨[obj] ++ args, []⟩) (cg_mono hi fun r₂ s₂ hr₂ => ?_) rfl)
   cases r₂ with
   | error e => exact hr₂
   | ok fl₂ =>
    cases fl₂ with
    | ret r =>
     obtain ⟨rfl, hq⟩ := hr₂
     refine g_pure ?_
     exact g_pure hq
    | _ => exact hr₂.elim
  | _ => exact hr.elim
end
section
open PySem.Builtin.Bytes
namespace BA
theorem mro : mroOf (.type "bytearray") = pure [.type "bytearray", .type "object"] := by rw [mroOf_type]; kernel_rfl
theorem l_new : typeLookup (.type "bytearray") "__new__" = pure (some (.builtin "bytearray.__new__")) := by rw [typeLookup_type, builtinLookup_eq_fast]; kernel_rfl
theorem s_init : Slot "bytearray" "__init__" "bytearray.__init__" :=
 .of (owner := "bytearray") (n := "__init__") (by rw [typeLookup_type, builtinLookup_eq_fast]; kernel_rfl) (by decide +kernel) (by decide +kernel) (by decide +kernel)
  (by first | exact .inl (by decide +kernel) | exact .inr (by decide +kernel)) (by rw [isSubtype_type]; kernel_rfl)
theorem called : TypeCalled "bytearray" "bytearray.__new__" "bytearray.__init__" :=
 ⟨by decide +kernel, by decide +kernel, ⟨_, _, mro⟩, madeBy_type mro l_new (by decide +kernel), by decide +kernel, by rw [isSubtype_type]; kernel_rfl, s_init⟩
theorem tc0 : checkTypeCall "bytearray" ⟨[], []⟩ = pure () := by kernel_rfl
theorem tc1 (a : Value) : checkTypeCall "bytearray" ⟨[a], []⟩ = pure () := by kernel_rfl
theorem nc0 : checkBuiltinCall "bytearray.__new__" ⟨[.type "bytearray"], []⟩ = pure () := by kernel_rfl
theorem nc1 (a : Value) : checkBuiltinCall "bytearray.__new__" ⟨[.type "bytearray", a], []⟩ = pure () := by kernel_rfl
theorem p_new : plainId "bytearray.__new__" = true := by decide +kernel
theorem e_new : entryFor table "bytearray.__new__" = some Builtin.«list.__new__» := entryFor_alias (id' := "list.__new__") (by kernel_rfl) rfl (by decide +kernel) (by kernel_rfl)
theorem e_init : entryFor table "bytearray.__init__" = some Builtin.«bytearray.__init__» := by first | exact entryFor_of_fast (by kernel_rfl) | exact entryFor_of_tree (by kernel_rfl)
theorem bind0 : bindOptional "bytearray.__init__" "bytearray" ["source", "encoding", "errors"] [] [] = pure [none, none, none] := by kernel_rfl
theorem bind1 (v : Value) : bindOptional "bytearray.__init__" "bytearray" ["source", "encoding", "errors"] [v] [] = pure [some v, none, none] := by kernel_rfl
theorem l_rel : typeLookup (.type "bytearray") "__release_buffer__" = pure (some (.builtin "bytearray.__release_buffer__")) := by rw [typeLookup_type, builtinLookup_eq_fast]; kernel_rfl
theorem l_buf : typeLookup (.type "bytearray") "__buffer__" = pure (some (.builtin "bytearray.__buffer__")) := by rw [typeLookup_type, builtinLookup_eq_fast]; kernel_rfl
theorem lb_rel : typeLookup (.type "bytes") "__release_buffer__" = pure none := by rw [typeLookup_type, builtinLookup_eq_fast]; kernel_rfl
theorem lb_buf : typeLookup (.type "bytes") "__buffer__" = pure (some (.builtin "bytes.__buffer__")) := by rw [typeLookup_type, builtinLookup_eq_fast]; kernel_rfl
theorem lb_index : typeLookup (.type "bytes") "__index__" = pure none := by rw [typeLookup_type, builtinLookup_eq_fast]; kernel_rfl
theorem sub : isSubtype (.type "bytearray") (.type "bytearray") = pure true := by rw [isSubtype_type]; kernel_rfl
theorem subb : isSubtype (.type "bytes") (.type "bytes") = pure true := by rw [isSubtype_type]; kernel_rfl
theorem ends_rel : (("bytearray.__release_buffer__" : String).endsWith ("." ++ "__release_buffer__")) = true := by decide +kernel
theorem drop_rel : ("bytearray.__release_buffer__" : String).dropRight (("__release_buffer__" : String).length + 1) = "bytearray" := by decide +kernel
theorem ends_bbuf : (("bytes.__buffer__" : String).endsWith ("." ++ "__buffer__")) = true := by decide +kernel
theorem drop_bbuf : ("bytes.__buffer__" : String).dropRight (("__buffer__" : String).length + 1) = "bytes" := by decide +kernel
theorem ends_abuf : (("bytearray.__buffer__" : String).endsWith ("." ++ "__buffer__")) = true := by decide +kernel
theorem drop_abuf : ("bytearray.__buffer__" : String).dropRight (("__buffer__" : String).length + 1) = "bytearray" := by decide +kernel
end BA
end
section
open PySem.Builtin.Bytes
noncomputable def baO (b : List UInt8) : Obj := { cls := .type "bytearray", data := .bytearray b.toArray }
theorem BA.a_init0 (a : Value) : argsOk "bytearray.__init__" ⟨[a], []⟩ := by unfold argsOk; kernel_rfl
theorem BA.a_init1 (a b : Value) : argsOk "bytearray.__init__" ⟨[a, b], []⟩ := by unfold argsOk; kernel_rfl
set_option maxRecDepth 1000000 in
set_option maxHeartbeats 4000000 in
theorem BA.owner : ("bytearray.__new__".splitOn ".__new__").headD "" = "bytearray" := by simp +decide [String.splitOn, String.splitOnAux]
section
variable {α : Type} {w : World} {A : Around} {prog : Program} {E : Value → Shared → Prop} {s : Shared}
theorem ba_new (rest : List Value) (hnc : checkBuiltinCall "bytearray.__new__" ⟨.type "bytearray" :: rest, []⟩ = pure ()) {Q₁ : Value → Shared → Prop} (h : Q₁ (.ref s.heap.objs.size) { s with heap := s.heap.push (baO []) }) :
 codeAny (model prog w) A (.call (.builtin "bytearray.__new__") ⟨.type "bytearray" :: rest, []⟩) (wants Q₁ E) s := by
 refine codeAny_of_tree ?_
 show wpAny _ A.in1 (do checkBuiltinCall "bytearray.__new__" ⟨.type "bytearray" :: rest, []⟩; again (.builtin "bytearray.__new__" ⟨.type "bytearray" :: rest, []⟩)) _ _ s
 refine wpAny_bind (wpAny_of_eq hnc (wpAny_pure ⟨plainId_quiet BA.p_new _, codeAny_builtin_stack BA.e_new rfl fun p st => ?_⟩))
 rw [Around.under_plainId BA.p_new _]
 have hsub := BA.sub
 have hown := BA.owner
 obtain ⟨hp, g, d, tk, os⟩ := s
 simp only [hown]
 wp_walk
 exact h
theorem typ_ba {a : Addr} {b : List UInt8} (ho : s.heap.get? a = some (baO b)) : s.TypeIs (.ref a) "bytearray" := ⟨_, ho, rfl⟩
theorem ba_ownRel {M : Model} {a : Addr} {b : List UInt8} {Q : Bool → Shared → Prop} (ho : s.heap.get? a = some (baO b)) (h : Q false s) : wpAny M A (ownRelease (.ref a)) Q E s := by
 unfold ownRelease slotIsOwn
 refine wpAny_bind (wpAny_bind (wpAny_specialOf (typ_ba ho) BA.l_rel ?_))
 try dsimp only
 rw [BA.ends_rel, BA.drop_rel]
 exact wpAny_isInstance (typ_ba ho) BA.sub (wpAny_pure h)
theorem by_ownRel {M : Model} {b : Array UInt8} {t : Tok} {Q : Bool → Shared → Prop} (h : Q false s) : wpAny M A (ownRelease (.bytes b t)) Q E s := by
 unfold ownRelease slotIsOwn
 refine wpAny_bind (wpAny_bind (wpAny_specialOf (typeIs_bytes _ _ _) BA.lb_rel ?_))
 exact wpAny_pure (wpAny_pure h)
theorem ba_payload {M : Model} {a : Addr} {b : List UInt8} {Q : Array UInt8 → Shared → Prop} (ho : s.heap.get? a = some (baO b)) (h : Q b.toArray s) : wpAny M A (payload (.ref a)) Q E s := by
 unfold payload payload?
 refine wpAny_bind (wpAny_bind (wpAny_load ho ?_))
 exact wpAny_pure (wpAny_pure h)
theorem by_payload {M : Model} {b : Array UInt8} {t : Tok} {Q : Array UInt8 → Shared → Prop} (h : Q b s) : wpAny M A (payload (.bytes b t)) Q E s := by
 unfold payload payload?
 exact wpAny_bind (wpAny_pure (wpAny_pure h))
theorem ba_write {M : Model} {a : Addr} {b c : List UInt8} {f : Array UInt8 → Array UInt8} {Q : Unit → Shared → Prop} (ho : s.heap.get? a = some (baO b)) (hf : f b.toArray = c.toArray) (hc : c.length ≤ sizeLine)
 (h : Q () { s with heap := s.heap.update a (Obj.mapBytearray f) }) (hg : (s.heap.update a (Obj.mapBytearray f)).get? a = some (baO c) := by exact Heap.get?_update_self _ ho rfl) : wpAny M A (write (.ref a) f) Q E s := by
 show wpAny _ _ (updateBytearray a f) _ _ _
 unfold updateBytearray
 refine wpAny_bind (wpAny_load ho ?_)
 show wpAny _ _ (update a (Obj.mapBytearray f) >>= fun _ => lookBehind a) _ _ _
 refine wpAny_bind (wpAny_update ho ?_)
 refine wpAny_lookBehind hg ?_ h
 show (if c.toArray.size > sizeLine then some "bytearray:memory" else none) = none
 rw [if_neg]; simpa using hc
theorem ba_upd {a : Addr} {b c : List UInt8} {f : Array UInt8 → Array UInt8} {h : Heap} (ho : h.get? a = some (baO b)) (hf : f b.toArray = c.toArray) : (h.update a (Obj.mapBytearray f)).get? a = some (baO c) := by
 have := Heap.get?_update_self (h := h) (Obj.mapBytearray f) ho rfl
 rw [this]
 show some ({ cls := Value.type "bytearray", data := Data.bytearray (f b.toArray) } : Obj) = _
 rw [hf]; rfl
theorem ba_noresize {a : Addr} {b : List UInt8} {Q : Bool → Shared → Prop} (ho : s.heap.get? a = some (baO b)) (h : Q false s) : wpG (model prog w) A (exported (.ref a) <||> (do return (← exportsOf (.ref a)) > 0)) Q E s := by
 show wpG _ _ (orM _ _) _ _ _
 unfold orM
 refine g_bind (g_exported ?_)
 show wpG _ _ (do let n ← exportsOf (.ref a); pure (decide (n > 0))) _ _ _
 unfold exportsOf
 refine g_bind (wg (wpAny_bind (wpAny_load ho ?_)))
 exact wpAny_pure (g_pure h)
theorem g_nt {α : Type} {M : Model} {A : Around} {E : Value → Shared → Prop} {s : Shared} {c : Bool} {a b : Sem α} {Q : α → Shared → Prop} (hc : c = false) (h : wpG M A b Q E s) : wpG M A (if c = true then a else b) Q E s := by subst hc; exact h
theorem ba_init0 {a : Addr} {Q : Shared → Prop} (ho : s.heap.get? a = some (baO [])) (h : Q { s with heap := s.heap.update a (Obj.mapBytearray fun _ => #[]) }) :
 codeG (model prog w) A (.call (.builtin "bytearray.__init__") ⟨[.ref a], []⟩) (wants (fun r s₂ => r = .none ∧ Q s₂) E) s := by
 have hpc : plainC (.builtin "bytearray.__init__" ⟨[.ref a], []⟩) = true := by kernel_rfl
 refine cg_call_builtin BA.s_init.plain hpc BA.e_init ?_
 refine wg ?_
 refine BA.s_init.check _ _ _ _ _ _ _ _ (typ_ba ho) (BA.a_init0 _) ?_
 unfold Builtin.«bytearray.__init__»
 refine g_bind (wg (ba_ownRel ho ?_))
 refine g_nt rfl ?_
 rw [BA.bind0]
 refine g_bind (g_pure ?_)
 try dsimp only
 refine g_bind (g_pure ?_)
 refine g_bind (g_pure ?_)
 refine g_bind (ba_noresize ho ?_)
 refine g_nt rfl ?_
 refine g_bind (wg (ba_write (c := []) ho rfl (Nat.zero_le _) ?_ (ba_upd ho rfl)))
 exact g_bind (g_pure (g_pure ⟨rfl, h⟩))
theorem by_buffer {M : Model} {id : String} {full : Bool} {b : Array UInt8} {t : Tok} {Q : Option (Array UInt8) → Shared → Prop} (h : Q (some b) s) : wpAny M A (buffer? id (.bytes b t) full) Q E s := by
 unfold buffer?
 refine wpAny_bind (wpAny_specialOf (typeIs_bytes _ _ _) BA.lb_buf ?_)
 try dsimp only
 refine wpAny_bind ?_
 unfold slotIsOwn
 refine wpAny_bind (wpAny_specialOf (typeIs_bytes _ _ _) BA.lb_buf ?_)
 try dsimp only
 rw [BA.ends_bbuf, BA.drop_bbuf]
 refine wpAny_isInstance (typeIs_bytes _ _ _) BA.subb ?_
 refine wpAny_bind (wpAny_specialOf (typeIs_bytes _ _ _) BA.lb_buf ?_)
 try dsimp only
 refine wpAny_bind (by_ownRel ?_)
 exact wpAny_bind (by_payload (wpAny_pure h))
theorem ba_init1 {a : Addr} {b : List UInt8} {t : Tok} {Q : Shared → Prop} (ho : s.heap.get? a = some (baO [])) (hb : b.length ≤ sizeLine)
 (h : Q { s with heap := (s.heap.update a (Obj.mapBytearray fun _ => #[])).update a (Obj.mapBytearray fun _ => b.toArray) }) :
 codeG (model prog w) A (.call (.builtin "bytearray.__init__") ⟨[.ref a, .bytes b.toArray t], []⟩) (wants (fun r s₂ => r = .none ∧ Q s₂) E) s := by
 have hpc : plainC (.builtin "bytearray.__init__" ⟨[.ref a, .bytes b.toArray t], []⟩) = true := by kernel_rfl
 refine cg_call_builtin BA.s_init.plain hpc BA.e_init ?_
 refine wg ?_
 refine BA.s_init.check _ _ _ _ _ _ _ _ (typ_ba ho) (BA.a_init1 _ _) ?_
 unfold Builtin.«bytearray.__init__»
 refine g_bind (wg (ba_ownRel ho ?_))
 refine g_nt rfl ?_
 rw [BA.bind1]
 refine g_bind (g_pure ?_)
 try dsimp only
 refine g_bind (g_pure ?_)
 refine g_bind (g_pure ?_)
 refine g_bind (ba_noresize ho ?_)
 refine g_nt rfl ?_
 refine g_bind (wg (ba_write (c := []) ho rfl (Nat.zero_le _) ?_ (ba_upd ho rfl)))
 have ho1 : (s.heap.update a (Obj.mapBytearray fun _ => #[])).get? a = some (baO []) := ba_upd ho rfl
 refine g_bind (wg (wpAny_of_eq (a := none) rfl ?_))
 refine g_bind (g_pure ?_)
 refine g_bind (wg (wpAny_specialOf (typeIs_bytes _ _ _) BA.lb_index ?_))
 refine g_bind (wg (by_buffer ?_))
 refine g_bind (wg (wpAny_rule ?_))
 refine g_bind (wg (ba_write (c := b) ho1 rfl hb ?_ (ba_upd ho1 rfl)))
 exact g_pure ⟨rfl, h⟩
variable {g : Heap} {L : Addr} {m : Loc} {N : Led} {X : Value → Led → Prop}
theorem upd_new {h : Heap} {a : Addr} {o o' : Obj} {f : Obj → Obj} (W : Wf g L h m ((a, o) :: N)) (e : (h.update a f).get? a = some o') : Wf g L (h.update a f) m ((a, o') :: N) := by
 have sb : Heap.SameBut a h (h.update a f) := Heap.SameBut.update ..
 have U : Upd a o o' ((a, o) :: N) ((a, o') :: N) := .head fun p hp q => (List.nodup_cons.mp W.nd).1 (List.mem_map.mpr ⟨p, hp, q⟩)
 have ha := W.nw (a, o) (.head _)
 refine ⟨⟨W.fr.ns.at' fun ob q => sb.extBut L ob (fun q => ha.2.1 q.symm) q, fun b ob q => sb.extBut b ob (fun q' => by rw [← q'] at ha; rw [ha.2.2] at q; cases q) (W.fr.keep b ob q), W.fr.above⟩, fun p hp => ?_, ?_⟩
 · rcases List.mem_cons.mp hp with rfl | hp
   · exact ⟨e, ha.2⟩
   · have hp' := W.nw p (.tail _ hp)
     exact ⟨sb.extBut p.1 p.2 (fun q => (List.nodup_cons.mp W.nd).1 (List.mem_map.mpr ⟨p, hp, q⟩)) hp'.1, hp'.2⟩
 · have := W.nd; simpa using this
theorem gv_ba0 : Gv (model prog w) A g L m N (call (.type "bytearray") []) (fun v N' => ∃ a, v = .ref a ∧ N' = (a, baO []) :: N) X := fun s Q E W q x => by
 have W1 := nodup_push W (fun p hp => Heap.lt_size (W.nw p hp).1) (W.fr.push (baO [])) (W.nw.push W.fr (baO []))
 have ho1 := (W1.nw _ (.head _)).1
 refine g_callType (Q₁ := fun obj s₁ => obj = .ref s.heap.objs.size ∧ s₁ = { s with heap := s.heap.push (baO []) }) BA.called BA.tc0 (by kernel_rfl) (cgg (ba_new [] BA.nc0 ⟨rfl, rfl⟩)) ?_
 refine i_b ?_
 refine ⟨typ_ba ho1, ba_init0 ho1 ?_⟩
 exact q _ _ _ _ ⟨_, rfl, rfl⟩ (upd_new W1 (ba_upd ho1 rfl))
theorem gv_ba1 {b : List UInt8} {v : Value} (hv : IsB b v) (hb : b.length ≤ sizeLine) : Gv (model prog w) A g L m N (call (.type "bytearray") [v]) (fun v N' => ∃ a, v = .ref a ∧ N' = (a, baO b) :: N) X := fun s Q E W q x => by
 obtain ⟨t, rfl⟩ := hv
 have W1 := nodup_push W (fun p hp => Heap.lt_size (W.nw p hp).1) (W.fr.push (baO [])) (W.nw.push W.fr (baO []))
 have ho1 := (W1.nw _ (.head _)).1
 refine g_callType (Q₁ := fun obj s₁ => obj = .ref s.heap.objs.size ∧ s₁ = { s with heap := s.heap.push (baO []) }) BA.called (BA.tc1 _) (by kernel_rfl) (cgg (ba_new [_] (BA.nc1 _) ⟨rfl, rfl⟩)) ?_
 refine i_b ?_
 refine ⟨typ_ba ho1, ba_init1 ho1 hb ?_⟩
 have W2 := upd_new W1 (ba_upd (f := fun _ => #[]) (c := []) ho1 rfl)
 exact q _ _ _ _ ⟨_, rfl, rfl⟩ (upd_new W2 (ba_upd (W2.nw _ (.head _)).1 rfl))
end
end
section
open PySem.Builtin.Bytes
namespace BA
theorem s_len : Slot "bytearray" "__len__" "bytearray.__len__" :=
 .of (owner := "bytearray") (n := "__len__") (by rw [typeLookup_type, builtinLookup_eq_fast]; kernel_rfl) (by decide +kernel) (by decide +kernel) (by decide +kernel)
  (by first | exact .inl (by decide +kernel) | exact .inr (by decide +kernel)) (by rw [isSubtype_type]; kernel_rfl)
theorem s_get : Slot "bytearray" "__getitem__" "bytearray.__getitem__" :=
 .of (owner := "bytearray") (n := "__getitem__") (by rw [typeLookup_type, builtinLookup_eq_fast]; kernel_rfl) (by decide +kernel) (by decide +kernel) (by decide +kernel)
  (by first | exact .inl (by decide +kernel) | exact .inr (by decide +kernel)) (by rw [isSubtype_type]; kernel_rfl)
theorem s_set : Slot "bytearray" "__setitem__" "bytearray.__setitem__" :=
 .of (owner := "bytearray") (n := "__setitem__") (by rw [typeLookup_type, builtinLookup_eq_fast]; kernel_rfl) (by decide +kernel) (by decide +kernel) (by decide +kernel)
  (by first | exact .inl (by decide +kernel) | exact .inr (by decide +kernel)) (by rw [isSubtype_type]; kernel_rfl)
theorem e_len : entryFor table "bytearray.__len__" = some Builtin.«bytearray.__len__» := by first | exact entryFor_of_fast (by kernel_rfl) | exact entryFor_of_tree (by kernel_rfl)
theorem e_get : entryFor table "bytearray.__getitem__" = some Builtin.«bytearray.__getitem__» := by first | exact entryFor_of_fast (by kernel_rfl) | exact entryFor_of_tree (by kernel_rfl)
theorem e_set : entryFor table "bytearray.__setitem__" = some Builtin.«bytearray.__setitem__» := by first | exact entryFor_of_fast (by kernel_rfl) | exact entryFor_of_tree (by kernel_rfl)
theorem a_len (a : Value) : argsOk "bytearray.__len__" ⟨[a], []⟩ := by unfold argsOk; kernel_rfl
theorem a_get (a b : Value) : argsOk "bytearray.__getitem__" ⟨[a, b], []⟩ := by unfold argsOk; kernel_rfl
theorem a_set (a b c : Value) : argsOk "bytearray.__setitem__" ⟨[a, b, c], []⟩ := by unfold argsOk; kernel_rfl
end BA
section
variable {w : World} {A : Around} {prog : Program} {E : Value → Shared → Prop} {s : Shared} {g : Heap} {L : Addr} {m : Loc} {N : Led}
theorem call_lenA {a : Addr} {b : List UInt8} (ho : Ob g N a (baO b)) (hz : b.length ≤ 1099511627776) : EvP (model prog w) A g L m N (call (.builtin "len") [.ref a]) (IsI (b.length : Int)) := fun s Q E W q => by
 have ho := ho.at W
 refine Calls.call_function_entry kind_len plain_len entry_len (args_len1 _) ?_
 unfold Builtin.«len»
 refine wpAny_bind (m := oneArg "len" _) (wpAny_pure ?_)
 refine wpAny_bind (m := callSpecial? (.ref a) (Str.ofString "__len__")) (wpAny_callSpecial?_slot (name := Str.ofString "__len__") (typ_ba ho) BA.s_len (wpAny_call_entry BA.s_len (typ_ba ho) BA.e_len ?_ (BA.a_len _)))
 unfold Builtin.«bytearray.__len__»
 refine wpAny_bind (m := slotArgs "__len__" 0 _) (wpAny_pure ?_)
 refine wpAny_bind (ba_payload ho ?_)
 refine wpAny_ret_mkInt ?_
 show wpAny _ _ _ _ _ { s with toks := s.toks + 1 }
 refine wpAny_bind (wpAny_holding (wpAny_pure ?_))
 refine wpAny_bind (wpAny_letGo ?_)
 have e1 : b.toArray.size = b.length := by simp
 rw [e1]
 refine wpAny_ite_false (decide_eq_false (show ¬ ((b.length : Int) < 0) by omega)) ?_
 refine wpAny_ite_false (decide_eq_false (show ¬ ((b.length : Int) ≥ 2 ^ 63) by omega)) ?_
 exact wpAny_bind (wpAny_mkInt (wpAny_pure ⟨_, rfl, q _ s.heap _ N ⟨⟨_, rfl⟩, rfl⟩ W⟩))
theorem sl_parts {a : Addr} {o : Obj} {i j : Int} {t u : Tok} {Q : Value × Value × Value → Shared → Prop} (ho : s.heap.get? a = some o) (hd : o.data = .fields #[.int i t, .int j u, .none]) (h : Q (rawInt i, rawInt j, .none) s) : wpAny (model prog w) A (sliceParts (.ref a)) Q E s := by
 unfold sliceParts
 refine wpAny_bind (wpAny_field (x := .none) ho hd rfl ?_)
 kby_none
 refine wpAny_ite (KBy.ite_no (show ¬ ((Value.none == rawInt 0) = true) from Bool.false_ne_true) ?_)
 refine wpAny_bind (wpAny_field (x := .int i t) ho hd rfl ?_)
 kby_int
 refine wpAny_bind (wpAny_field (x := .int j u) ho hd rfl ?_)
 kby_int
 exact wpAny_pure h
theorem sl_sub {a : Addr} {o : Obj} {Q : Option Int → Shared → Prop} (ho : s.heap.get? a = some o) (hc : o.cls = .type "slice") (h : Q none s) : wpAny (model prog w) A (subscript? (.ref a)) Q E s := by
 unfold subscript?
 exact wpAny_bind (wpAny_specialOf ⟨o, ho, hc⟩ slice_no_index (wpAny_pure h))
end
end
section
open PySem.Builtin.Bytes
section
variable {w : World} {A : Around} {prog : Program} {E : Value → Shared → Prop} {s : Shared} {g : Heap} {L : Addr} {m : Loc} {N : Led} {env : Env}
theorem sl_idx {M : Model} {i j : Int} {n : Nat} {Q : Int × Int × Int → Shared → Prop} (h : Q (sliceBounds (some i) (some j) none n) s) : wpAny M A (sliceIndices (rawInt i) (rawInt j) .none n) Q E s :=
 wpAny_of_eq (sliceIndices_raw (some i) (some j) none n (fun e => nomatch e)) h
theorem ev_slA {v e1 e2 : Expr} {p p' : Pos} {a : Addr} {b : List UInt8} {i j : Int} (h : EvP (model prog w) A g L m N (eval v env) (IsV (.ref a))) (ho : Ob g N a (baO b)) (h1 : EvP (model prog w) A g L m N (eval e1 env) (IsI i)) (h2 : EvP (model prog w) A g L m N (eval e2 env) (IsI j)) (hz : b.length ≤ sizeLine)
 (hs : ∀ x y, subscripted (.Slice (some e1) (some e2) none p) false (.ref x) (.ref y) = operate [.ref y, .ref x] (getItem (.ref x) (.ref y)) := by intro _ _; with_unfolding_all rfl) :
 Ev (model prog w) A g L m N (eval (.Subscript v (.Slice (some e1) (some e2) none p) p') env) (fun v N' => ∃ c, v = .ref c ∧ N' = (c, baO (sl b (some i) (some j))) :: N) := fun s Q E W q =>
 Subscript_ (h s _ E W fun o hh1 tk1 N1 ee1 W1 => by
  obtain ⟨rfl, rfl⟩ := ee1
  refine wpAny_Slice (h1 _ _ E W1 fun l hh2 tk2 N2 ee2 W2 => ?_)
  obtain ⟨⟨t1, rfl⟩, rfl⟩ := ee2
  refine h2 _ _ E W2 fun u hh3 tk3 N3 ee3 W3 => ?_
  obtain ⟨⟨t2, rfl⟩, rfl⟩ := ee3
  refine wpAny_pure ?_
  have hO := ho.at W3
  have hO' : (hh3.push { cls := .type "slice", data := .fields #[.int i t1, .int j t2, .none] }).get? a = some (baO b) := Heap.get?_push_of_some _ hO
  have hSl : (hh3.push { cls := .type "slice", data := .fields #[.int i t1, .int j t2, .none] }).get? hh3.objs.size = some { cls := .type "slice", data := .fields #[.int i t1, .int j t2, .none] } := Heap.get?_push_size _ rfl
  refine kba_turn (value' := .Name "x" p) (fun _ => rfl) ?_
  refine tail_of_ItemOn ⟨"bytearray", _, BA.s_get.lookup, typ_ba hO', ?_⟩ (hs _ _) (fun _ => rfl)
  refine wpAny_getItem_slot (typ_ba hO') (by decide +kernel) BA.s_get (wpAny_call_entry BA.s_get (typ_ba hO') BA.e_get ?_ (BA.a_get _ _))
  unfold Builtin.«bytearray.__getitem__»
  refine wpAny_bind (m := slotArgs "__getitem__" 1 _) (wpAny_pure ?_)
  refine wpAny_bind (sl_sub hSl rfl ?_)
  refine wpAny_bind (wpAny_typeOf ⟨_, hSl, rfl⟩ ?_)
  refine wp_not (by decide) ?_
  refine wpAny_bind (sl_parts hSl rfl ?_)
  refine wpAny_bind (ba_payload hO' ?_)
  refine wpAny_bind (sl_idx ?_)
  refine wpAny_bind ?_
  have e : sliced b.toArray (sliceBounds (some i) (some j) none b.toArray.size).1 (sliceBounds (some i) (some j) none b.toArray.size).2.1 (sliceBounds (some i) (some j) none b.toArray.size).2.2 = (sl b (some i) (some j)).toArray := picked_list b (some i) (some j)
  show wpAny _ _ (newBytearray (sliced b.toArray (sliceBounds (some i) (some j) none b.toArray.size).1 (sliceBounds (some i) (some j) none b.toArray.size).2.1 (sliceBounds (some i) (some j) none b.toArray.size).2.2)) _ _ _
  rw [e]
  unfold newBytearray
  refine wpAny_newObj_type ?_ ?_
  · show wpAny _ _ (ret _) _ _ _
    refine wpAny_pure ⟨_, rfl, ?_⟩
    have W4 := nodup_push (o := baO (sl b (some i) (some j))) (x := (hh3.push { cls := .type "slice", data := .fields #[.int i t1, .int j t2, .none] }).objs.size) (h' := (hh3.push { cls := .type "slice", data := .fields #[.int i t1, .int j t2, .none] }).push (baO (sl b (some i) (some j)))) W3 (fun p hp => by rw [Heap.size_push]; exact Nat.lt_succ_of_lt (Heap.lt_size (W3.nw p hp).1)) ((W3.fr.push _).push _) ((W3.nw.pushKeep _).push (W3.fr.push _) _)
    exact q _ _ tk3 _ ⟨_, rfl, rfl⟩ W4
  · show (sl b (some i) (some j)).toArray.size ≤ sizeLine
    have := sl_len b (some i) (some j)
    simp; omega)
end
end
section
open PySem.Builtin.Bytes
namespace BA
theorem lb_int : typeLookup (.type "bytes") "__int__" = pure none := by rw [typeLookup_type, builtinLookup_eq_fast]; kernel_rfl
theorem lb_float : typeLookup (.type "bytes") "__float__" = pure none := by rw [typeLookup_type, builtinLookup_eq_fast]; kernel_rfl
theorem sub_b_ba : isSubtype (.type "bytes") (.type "bytearray") = pure false := by rw [isSubtype_type]; kernel_rfl
theorem sub_b_cx : isSubtype (.type "bytes") (.type "complex") = pure false := by rw [isSubtype_type]; kernel_rfl
end BA
noncomputable def slO (i j : Int) (t u : Tok) : Obj := { cls := .type "slice", data := .fields #[.int i t, .int j u, .none] }
section
variable {α : Type} {w : World} {M : Model} {A : Around} {prog : Program} {E : Value → Shared → Prop} {s : Shared} {g : Heap} {L : Addr} {m : Loc} {N : Led} {X : Value → Led → Prop}
theorem g_not {c : Bool} {a b : Sem α} {Q : α → Shared → Prop} (hc : c = false) (h : wpG M A b Q E s) : wpG M A (if c = true then a else b) Q E s := by subst hc; exact h
theorem g_so {c : Bool} {a b : Sem α} {Q : α → Shared → Prop} (hc : c = true) (h : wpG M A a Q E s) : wpG M A (if c = true then a else b) Q E s := by subst hc; exact h
theorem nodup_idx : ∀ {l : List Addr} {i j : Nat} {x : Addr}, l.Nodup → l[i]? = some x → l[j]? = some x → i = j
 | [], i, _, _, _, h, _ => by simp at h
 | y :: l, i, j, x, nd, h1, h2 => by
  rw [List.nodup_cons] at nd
  cases i with
  | zero =>
   cases j with
   | zero => rfl
   | succ j => simp at h1 h2; exact absurd (List.mem_of_getElem? h2) (h1 ▸ nd.1)
  | succ i =>
   cases j with
   | zero => simp at h1 h2; exact absurd (List.mem_of_getElem? h1) (h2 ▸ nd.1)
   | succ j => simp at h1 h2; exact congrArg _ (nodup_idx nd.2 h1 h2)
theorem upd_mid {h : Heap} {a : Addr} {o o' : Obj} {f : Obj → Obj} {i : Nat} (W : Wf g L h m N) (hN : N[i]? = some (a, o)) (e : (h.update a f).get? a = some o') : Wf g L (h.update a f) m (N.set i (a, o')) := by
 have sb : Heap.SameBut a h (h.update a f) := Heap.SameBut.update ..
 have ha := W.nw (a, o) (List.mem_of_getElem? hN)
 refine ⟨⟨W.fr.ns.at' fun ob q => sb.extBut L ob (fun q => ha.2.1 q.symm) q, fun b ob q => sb.extBut b ob (fun q' => by rw [← q'] at ha; rw [ha.2.2] at q; cases q) (W.fr.keep b ob q), W.fr.above⟩, fun p hp => ?_, nodup_set hN W.nd⟩
 obtain ⟨j, hj, hp⟩ := List.mem_iff_getElem.mp hp
 rw [List.getElem_set] at hp
 split at hp
 · subst hp; exact ⟨e, ha.2⟩
 · rename_i hij
   have hj' : j < N.length := by simpa using hj
   have hpm : p ∈ N := hp ▸ List.getElem_mem hj'
   have hp' := W.nw p hpm
   refine ⟨sb.extBut p.1 p.2 (fun q => hij ?_) hp'.1, hp'.2⟩
   have U := upd_at (o' := o') hN W.nd
   exact nodup_idx W.nd (i := i) (j := j) (x := a) (by rw [List.getElem?_map, hN]; rfl) (by rw [List.getElem?_map, List.getElem?_eq_getElem hj', hp, ← q]; rfl)
theorem g_orElse {x y : Sem Bool} {Q : Bool → Shared → Prop} (h : wpG M A x (fun c s' => if c then Q true s' else wpG M A y Q E s') E s) : wpG M A (x <||> y) Q E s := by
 show wpG _ _ (orM _ _) _ _ _
 unfold orM
 refine g_bind (g_mono h (fun c s' h' => ?_) fun _ _ x => x)
 cases c with
 | true => exact g_pure h'
 | false => exact h'
theorem bounds_end (n : Nat) (k : Int) (hk : 0 ≤ k) : sliceBounds (some (n : Int)) (some ((n : Int) + k)) none n = ((n : Int), (n : Int), 1) := by
 rw [sliceBounds_plain]
 show (((clipAt n (n : Int) : Nat) : Int), ((clipAt n ((n : Int) + k) : Nat) : Int), (1 : Int)) = _
 have h1 : clipAt n (n : Int) = n := by rw [clipAt_nat]; exact Nat.min_self n
 have h2 : clipAt n ((n : Int) + k) = n := by
  have : ((n : Int) + k) = ((n + k.toNat : Nat) : Int) := by omega
  rw [this, clipAt_nat]; omega
 rw [h1, h2]
theorem gv_setA {a sa : Addr} {i : Nat} {cur b : List UInt8} {v : Value} {t u : Tok} {k : Int} (hv : IsB b v) (hN : N[i]? = some (a, baO cur)) (hs : Ob g N sa (slO (cur.length : Int) ((cur.length : Int) + k) t u)) (hk : 0 ≤ k) (hb : b ≠ []) (hz : cur.length + b.length ≤ 16777216) :
 Gv (model prog w) A g L m N (call (.builtin "bytearray.__setitem__") [.ref a, .ref sa, v]) (fun v N' => v = .none ∧ ∃ c, N' = (c, baO b) :: N.set i (a, baO (cur ++ b))) X := fun s Q E W q x => by
 obtain ⟨tv, rfl⟩ := hv
 have ho := (W.nw _ (List.mem_of_getElem? hN)).1
 have hsl := hs.at W
 refine g_call ?_
 have hpc : plainC (.builtin "bytearray.__setitem__" ⟨[.ref a, .ref sa, .bytes b.toArray tv], []⟩) = true := by kernel_rfl
 refine cg_call_builtin BA.s_set.plain hpc BA.e_set ?_
 refine wg ?_
 refine BA.s_set.check _ _ _ _ _ _ _ _ (typ_ba ho) (BA.a_set _ _ _) ?_
 unfold Builtin.«bytearray.__setitem__»
 refine g_not rfl ?_
 refine g_bind (wg (sl_sub hsl rfl ?_))
 have hTs : s.TypeIs (.ref sa) "slice" := ⟨_, hsl, rfl⟩
 have hTb : s.TypeIs (.bytes b.toArray tv) "bytes" := typeIs_bytes _ _ _
 refine g_bind (wg (wpAny_typeOf hTs ?_))
 refine g_not (by decide) ?_
 refine g_bind (wg (sl_parts hsl rfl ?_))
 refine g_not (by rfl) ?_
 refine g_bind (wg (wpAny_isInstance hTb BA.sub_b_ba ?_))
 refine g_so rfl ?_
 refine g_bind (g_orElse (g_bind (wg (wpAny_specialOf hTb BA.lb_index (g_pure ?_)))))
 refine g_orElse (g_bind (wg (wpAny_specialOf hTb BA.lb_int (g_pure ?_))))
 refine g_orElse (g_bind (wg (wpAny_specialOf hTb BA.lb_float (g_pure ?_))))
 refine (wg (wpAny_isInstance hTb BA.sub_b_cx ?_))
 refine g_bind (wg (wpAny_of_eq (a := none) rfl ?_))
 refine g_not rfl ?_
 refine g_bind (wg (wpAny_rule ?_))
 refine g_bind (gv_ba1 (A := A.in1) (X := nx) ⟨tv, rfl⟩ (by rw [sizeLine_eq]; omega) s _ _ W (fun v h1 tk1 N1 e1 W1 => ?_) fun _ _ _ _ h _ => h.elim)
 obtain ⟨c, rfl, rfl⟩ := e1
 have hc1 : h1.get? c = some (baO b) := (W1.nw _ (.head _)).1
 have ha1 : h1.get? a = some (baO cur) := (W1.nw _ (.tail _ (List.mem_of_getElem? hN))).1
 have hs1 : h1.get? sa = some (slO (cur.length : Int) ((cur.length : Int) + k) t u) := (hs.mono (fun _ _ e => e) fun p hp => .inl (List.mem_cons_of_mem _ hp)).at W1
 refine g_bind (g_holding (wg (sl_parts hs1 rfl ?_)))
 refine g_bind (wg (ba_payload hc1 ?_))
 refine g_bind (wg (ba_payload ha1 ?_))
 have hsz : cur.toArray.size = cur.length := by simp
 refine g_bind (wg (sl_idx ?_))
 rw [hsz, bounds_end _ _ hk]
 refine g_so rfl ?_
 refine g_bind (wg (wpAny_rule ?_))
 have hb0 : 0 < b.length := List.length_pos_iff.mpr hb
 refine g_so ?_ ?_
 · refine bne_iff_ne.mpr ?_
   simp only [List.size_toArray]
   omega
 unfold checkResize
 refine g_bind (g_bind (ba_noresize ha1 ?_))
 refine g_not rfl (g_pure ?_)
 generalize hF : (fun b' : Array UInt8 => b'.extract 0 ((cur.length : Int), (cur.length : Int), (1 : Int)).1.toNat ++ b.toArray ++ b'.extract (max ((cur.length : Int), (cur.length : Int), (1 : Int)).1 ((cur.length : Int), (cur.length : Int), (1 : Int)).2.1).toNat b'.size) = F
 have hf : F cur.toArray = (cur ++ b).toArray := by
  subst hF; simp
 refine g_bind (wg (ba_write (f := F) (c := cur ++ b) ha1 hf (by rw [sizeLine_eq]; simp; omega) ?_ (ba_upd ha1 hf)))
 refine g_pure ?_
 exact q _ _ tk1 _ ⟨rfl, c, by rw [List.set_cons_succ]⟩ (upd_mid (i := i + 1) W1 (by simpa using hN) (ba_upd ha1 hf))
end
end
section
variable {w : World} {A : Around} {prog : Program} {s : Shared} {R : Result → Shared → Prop} {C : Addr}
theorem cg_typeCall {rest : List Value} {kw : List (Str × Value)} {fI : Addr} {oc : Value} {od : Option Addr} {cd : ClassData} {sl : Array (Option Value)} {Q₁ : Value → Shared → Prop}
 (hC : s.heap.get? C = some ⟨oc, od, .cls cd, sl⟩) (e4 : cd.mro.isEmpty = false) (call : Looks (model prog w) s.heap (specialOf (.ref C) "__call__") (some (.builtin "type.__call__"))) (typ : Looks (model prog w) s.heap (isInstance (.ref C) (.type "type")) true)
 (hnew : wpG (model prog w) (A.under (.builtin "type.__call__" ⟨.ref C :: rest, kw⟩)) (Bind.madeBy (.ref C)) (fun r s₀ => match r with
  | some id => wpG (model prog w) (A.under (.builtin "type.__call__" ⟨.ref C :: rest, kw⟩)) (PySem.call (.builtin id) (.ref C :: rest) kw) Q₁ (fun e s' => R (.error e) s') s₀
  | none => wpG (model prog w) (A.under (.builtin "type.__call__" ⟨.ref C :: rest, kw⟩)) (getAttr (.ref C) "__new__") (fun new s₁ => wpG (model prog w) (A.under (.builtin "type.__call__" ⟨.ref C :: rest, kw⟩)) (PySem.call new (.ref C :: rest) kw) Q₁ (fun e s' => R (.error e) s') s₁) (fun e s' => R (.error e) s') s₀) (fun e s' => R (.error e) s') s)
 (hnext : ∀ obj s₁, Q₁ obj s₁ → ∃ x, obj = .ref x ∧ Looks (model prog w) s₁.heap (typeOf obj) (.ref C) ∧ Looks (model prog w) s₁.heap (isSubtype (.ref C) (.ref C)) true ∧ Looks (model prog w) s₁.heap (typeLookup (.ref C) "__init__") (some (.ref fI)) ∧
  Looks (model prog w) s₁.heap (bindSpecial (.ref fI) obj) (.ref fI, [obj]) ∧ codeG (model prog w) (A.under (.builtin "type.__call__" ⟨.ref C :: rest, kw⟩)) (.call (.ref fI) ⟨obj :: rest, kw⟩) (InitBack x R) s₁) :
 codeG (model prog w) A (.call (.ref C) ⟨rest, kw⟩) R s := by
 refine cg_of_tree ?_
 show wpG _ _ (callAny (.ref C) _) _ _ _
 unfold callAny
 refine g_bind (wg (wpAny_load hC ?_))
 show wpG _ _ (callAny.viaDunder (.ref C) _) _ _ _
 unfold callAny.viaDunder
 refine g_bind (wg (call.here ?_))
 dsimp only
 rw [tc_bind]
 refine g_bind (g_pure ?_)
 refine g_bind (g_pure ?_)
 refine g_pure (a := Fin.again (.call (.builtin "type.__call__") ⟨.ref C :: rest, kw⟩)) (And.intro rfl (And.intro rfl ?_))
 have hpc : plainC (.builtin "type.__call__" ⟨.ref C :: rest, kw⟩) = true := by kernel_rfl
 refine cg_of_tree ?_
 show wpG _ A.in1 (do checkBuiltinCall "type.__call__" ⟨.ref C :: rest, kw⟩; again (.builtin "type.__call__" ⟨.ref C :: rest, kw⟩)) _ _ s
 refine g_bind (wg (check_slot tc_kind tc_split typ (tc_args _ _ _) ?_))
 refine g_pure (And.intro hpc (And.intro (Code.quiet_builtin _ (by decide +kernel)) (cg_builtin entry_typeCall ?_)))
 have hm : Looks (model prog w) s.heap (mroOf (.ref C)) cd.mro := ((Looks.ld (part := none) hC).andThen .now).andThen .now
 unfold Builtin.«type.__call__»
 refine g_not rfl ?_
 refine g_bind (wg (hm.here ?_))
 refine g_not e4 ?_
 have tail : ∀ (new : Value) (s₁ : Shared), wpG (model prog w) (A.under (.builtin "type.__call__" ⟨.ref C :: rest, kw⟩)) (PySem.call new (.ref C :: rest) kw) Q₁ (fun e s' => R (.error e) s') s₁ →
  wpG (model prog w) (A.under (.builtin "type.__call__" ⟨.ref C :: rest, kw⟩)) (do
   let obj ← holding [new] (PySem.call new (.ref C :: rest) kw)
   let b ← isInstance obj (.ref C)
   if (!b) = true then do
    rule "type.call.new-gave-other-type"
    ret obj
   else do
    let r ← holding [obj] (callSpecial? obj (Str.ofString "__init__") rest kw)
    match r with
    | none => ret obj
    | some r =>
     if (r != Value.none) = true then do
      rule "type.call.init-returned-value"
      let n ← PySem.typeNameOf r
      raiseErrorMade "TypeError" (toString "__init__() should return None, not '" ++ toString n ++ toString "'")
      ret obj
     else ret obj) (GoG prog w A R) (fun e s' => R (.error e) s') s₁ := by
  intro new s₁ h
  refine g_bind (g_holding (g_mono h (fun obj s₂ h₂ => ?_) fun _ _ x => x))
  obtain ⟨x, rfl, t1, s1, i1, b1, hc⟩ := hnext _ _ h₂
  have hI : Looks (model prog w) s₂.heap (isInstance (.ref x) (.ref C)) true := t1.andThen s1
  have hS : Looks (model prog w) s₂.heap (specialOf (.ref x) (Str.ofString "__init__")) (some (.ref fI)) := t1.andThen i1
  refine g_bind (wg (hI.here ?_))
  refine g_not rfl ?_
  unfold callSpecial?
  refine g_bind (g_holding (g_bind (wg (hS.here ?_))))
  refine g_holding (g_bind (wg (b1.here ?_)))
  refine g_bind (g_call (cg_mono hc fun r s' z => ?_))
  rcases r with e | (v | _ | _ | _) <;> first | exact z | exact z.elim | skip
  obtain ⟨rfl, z⟩ := z
  exact g_pure (g_pure z)
 refine g_bind (g_mono hnew (fun r s₀ h₀ => ?_) fun _ _ x => x)
 cases r with
 | some id => exact g_bind (g_pure (tail _ _ h₀))
 | none => exact g_bind (g_mono h₀ (fun new s₁ h₁ => tail _ _ h₁) fun _ _ x => x)
end
section
variable {w : World} {M : Model} {A : Around} {prog : Program} {s : Shared} {R : Result → Shared → Prop} {g : Heap} {L C : Addr} {m : Loc} {N : Led} {X : Value → Led → Prop} {K : Frag}
theorem gc_make {pos : List Value} {kw : List (Str × Value)} {fI : Addr} {P : Addr → Addr → Led → Prop} (B : Bs K g) (hm : makesIn K C = true) (hi : findIn K (.ref C) "__init__" = some (some (.ref fI))) (hf : isFn K (.ref fI) = true)
 (h : ∀ x dx, Gc (model prog w) (A.under (.builtin "type.__call__" ⟨.ref C :: pos, kw⟩)) g L m ((x, instObj C dx) :: (dx, dictOf [] 0) :: N) (.call (.ref fI) ⟨.ref x :: pos, kw⟩) (fun v N' => v = .none ∧ P x dx N') X) :
 Gc (model prog w) A g L m N (.call (.ref C) ⟨pos, kw⟩) (fun v N' => ∃ x dx, v = .ref x ∧ P x dx N') X := fun s S W q xx => by
 have XX := B.X.keeps W.fr.keep
 have Y := makes_of (M := model prog w) XX hm
 have iL := looks_findIn (M := model prog w) XX hi
 obtain ⟨hh, gg, d, t, os⟩ := s
 have Y' := Y
 obtain ⟨⟨oc, od, cd, sl, hC, e1, e2, e4⟩, made, base, self, top, call, typ⟩ := Y
 have k : ∀ b o, hh.get? b = some o → ((hh.push emptyDict).push (instObj C hh.objs.size)).get? b = some o := fun b o e => Heap.get?_push_of_some _ (Heap.get?_push_of_some _ e)
 have hx : ((hh.push emptyDict).push (instObj C hh.objs.size)).get? (hh.objs.size + 1) = some (instObj C hh.objs.size) := by heap_get
 have t1 : Looks (model prog w) ((hh.push emptyDict).push (instObj C hh.objs.size)) (typeOf (.ref (hh.objs.size + 1))) (.ref C) := (Looks.ld hx).andThen .now
 refine cg_typeCall (fI := fI) (Q₁ := fun obj s₁ => obj = .ref (hh.objs.size + 1) ∧ s₁ = ⟨(hh.push emptyDict).push (instObj C hh.objs.size), gg, d, t, os⟩) hC e4 call typ ?_ ?_
 · refine (wg (made.here ?_))
   exact (wg (wpAny_call (codeAny_mono (new_K (R := fun r s₁ => r = .ok (.ret (.ref (hh.objs.size + 1))) ∧ s₁ = ⟨(hh.push emptyDict).push (instObj C hh.objs.size), gg, d, t, os⟩) Y' iL (.inl rfl) ⟨rfl, rfl⟩) fun r s' e => by obtain ⟨rfl, rfl⟩ := e; exact ⟨rfl, rfl⟩)))
 · refine i_b ?_
   refine ⟨hh.objs.size + 1, rfl, t1, self.keeps k, iL.keeps k, (bind_fn XX (.ref (hh.objs.size + 1)) (beq_iff_eq.mp hf)).keeps k, ?_⟩
   have N' := (W.nw.push W.fr emptyDict).push (W.fr.push _) (instObj C hh.objs.size)
   rw [Heap.size_push] at N'
   have l1 : ∀ p ∈ N, p.1 < hh.objs.size := fun p hp => Heap.lt_size (W.nw p hp).1
   refine h (hh.objs.size + 1) hh.objs.size ⟨(hh.push emptyDict).push (instObj C hh.objs.size), gg, d, t, os⟩ _ ⟨(W.fr.push _).push _, N', ?_⟩ (fun v h2 tk2 N2 p2 W2 => ⟨p2.1, q _ h2 tk2 N2 ⟨_, _, rfl, p2.2⟩ W2⟩) fun e h2 tk2 N2 p2 W2 => xx e h2 tk2 N2 p2 W2
   simp only [List.map_cons, List.nodup_cons]
   refine ⟨?_, ?_, W.nd⟩
   · intro hq
     rcases List.mem_cons.mp hq with e | hq
     · exact absurd e (Nat.succ_ne_self _)
     · obtain ⟨p, hp, e⟩ := List.mem_map.mp hq
       exact absurd (l1 p hp) (by rw [e]; exact Nat.not_lt.mpr (Nat.le_succ _))
   · intro hq
     obtain ⟨p, hp, e⟩ := List.mem_map.mp hq
     exact Nat.lt_irrefl _ (e ▸ l1 p hp)
end
noncomputable def tupO (vs : List Value) : Obj := { cls := .type "tuple", data := .seq vs.toArray }
section
variable {w : World} {A : Around} {s : Shared} {prog : Program}
theorem cg_call_star {R : Result → Shared → Prop} {a : Addr} {o : Obj} {fd : FuncData} {body : List Stmt} {pos rest : List Value} {pre : List (Str × Value)} {va ka : Str}
 (hroom : A.depth < recursionLimit) (ho : s.heap.get? a = some o) (hdata : o.data = .func fd) (hlim : s.heap.NoLimit) (hcd : s.heap.CodeRec fd.code fd.qualname)
 (hbody : fd.body = .stmts body) (hbind : ∀ (Q : List (Str × Value) → Shared → Prop) (E : Value → Shared → Prop), Q (pre ++ [(va, .ref s.heap.objs.size), (ka, .ref (s.heap.objs.size + 1))]) { s with heap := (s.heap.push (tupO rest)).push emptyDict } → wpAny (model prog w) A.in1 (bindArgs fd ⟨pos, []⟩) Q E s)
 (hcell : ∀ x ∈ fd.scope.names, x.2 ≠ .cell) (hloc : ∀ x ∈ pre ++ [(va, Value.ref s.heap.objs.size), (ka, Value.ref (s.heap.objs.size + 1))], fd.scope.names.lookup x.1 = some .local)
 (h : ∀ h₀, h₀.Ns (s.heap.objs.size + 2) (fun x => (pre ++ [(va, Value.ref s.heap.objs.size), (ka, Value.ref (s.heap.objs.size + 1))]).reverse.lookup x) → (∀ b o, ((s.heap.push (tupO rest)).push emptyDict).get? b = some o → h₀.get? b = some o) →
  wpG (model prog w) (A.deeper (callEnv fd (s.heap.objs.size + 2) a)) (execs body (callEnv fd (s.heap.objs.size + 2) a)) (fun f s' => R (.ok (.ret (match f with | .ret v => v | _ => .none))) s')
   (fun e s' => wpG (model prog w) (A.deeper (callEnv fd (s.heap.objs.size + 2) a)) (leaving (callEnv fd (s.heap.objs.size + 2) a) e) (fun _ s'' => R (.error e) s'') (fun e' s'' => R (.error e') s'') s')
   { s with heap := h₀, toks := s.toks + (pre ++ [(va, Value.ref s.heap.objs.size), (ka, .ref (s.heap.objs.size + 1))]).length })
 (hco : fd.scope.isCoroutine = false := by rfl) (hgen : fd.scope.isGenerator = false := by rfl) (hk : fd.scope.kind = .function := by rfl) : codeG (model prog w) A (.call (.ref a) ⟨pos, []⟩) R s := by
 refine cg_of_tree ?_
 show wpG _ A.in1 (callAny (.ref a) ⟨pos, []⟩) _ _ s
 unfold callAny
 refine g_bind (wg (wpAny_load ho ?_))
 obtain ⟨c, oc, vs, tq, hc, hoc, hdc, hq⟩ := hcd
 simp only [hdata, callFunction, hco, hgen, hbody, hc]
 refine g_bind (m := field (.ref c) 1) (wg (wpAny_field hoc hdc hq (g_bind (g_pure ?_))))
 refine g_bind (m := bindArgs fd ⟨pos, []⟩) (wg (hbind _ _ (g_bind (m := newFunctionEnv _ _ _ _ _ _ _ _ _) (wg (wpAny_newFunctionEnv (s := { s with heap := (s.heap.push (tupO rest)).push emptyDict }) hcell hloc (fun h₀ hns₀ hsb₀ => ?_) hk)))))
 have hsz : ((s.heap.push (tupO rest)).push emptyDict).objs.size = s.heap.objs.size + 2 := by rw [Heap.size_push, Heap.size_push]
 have hlim' : ((s.heap.push (tupO rest)).push emptyDict).NoLimit := hlim.keeps fun b o e => Heap.get?_push_of_some _ (Heap.get?_push_of_some _ e)
 refine g_bind (wg (wpAny_enterFrame (A := A.in1) (hlim'.fresh _ hsb₀) hroom ?_))
 have hns₀' : h₀.Ns (s.heap.objs.size + 2) _ := hsz ▸ hns₀
 have h' := h h₀ hns₀' fun b o e => hsb₀.extBut b o (Nat.ne_of_lt (Heap.lt_size e)) (Heap.get?_push_of_some _ e)
 unfold callEnv at h'
 rw [hc] at h'
 show wpG _ _ (again (.func body (newEnv fd.scope ((s.heap.push (tupO rest)).push emptyDict).objs.size fd.globals fd.closure (fd.qualname ++ ".<locals>.") (some a) (.ref c) none fd.builtins))) _ _ _
 rw [hsz]
 exact g_pure (And.intro rfl (And.intro rfl (cg_func h')))
end
section
variable {prog : Program} {w : World} {A : Around} {g : Heap} {L : Addr} {m : Loc} {K : Frag}
 {name qual : Str} {params : Arguments} {body : List Stmt} {scope : Scope} {dV kV doc pm cdv ct oc : Value} {an od : Option Addr} {osl : Array (Option Value)} {f : Addr} {pos rest : List Value} {N : Led} {va ka : Str}
theorem gc_callS (pre : List (Str × Value)) {P : Value → Led → Prop} {X : Value → Led → Prop} {d : Nat} {C R : Led}
 (B : Bs K g) (r : Rm A (d + 1)) (ho : K.lookup f = some ⟨oc, od, .func (fnX name qual params body scope [] dV kV doc pm an cdv ct), osl⟩) (hcd : codeIn K cdv qual = true)
 (hbind : ∀ (s : Shared) (M : Model) (A : Around) (Q : List (Str × Value) → Shared → Prop) (E : Value → Shared → Prop), Q (pre ++ [(va, .ref s.heap.objs.size), (ka, .ref (s.heap.objs.size + 1))]) { s with heap := (s.heap.push (tupO rest)).push emptyDict } → wpAny M A (bindArgs (fnX name qual params body scope [] dV kV doc pm an cdv ct) ⟨pos, []⟩) Q E s)
 (hloc : ∀ (u v : Value), ((pre ++ [(va, u), (ka, v)]).all fun x => decide (scope.names.lookup x.1 = some .local)) = true)
 (hb : ∀ h₀ L' A' T D, D ≠ sysModules → Rm A' d → (∀ b o, g.get? b = some o → h₀.get? b = some o) → (∀ p ∈ R, h₀.get? p.1 = some p.2) → Bs K h₀ →
  Gs (model prog w) A' h₀ L' (pre ++ [(va, Value.ref T), (ka, Value.ref D)]).reverse ((D, emptyDict) :: (T, tupO rest) :: C) (execs body (envX qual scope L' f cdv [])) (fun fl _ N' => P (flowV fl) N') nxs)
 (hcell : ∀ x ∈ scope.names, x.2 ≠ .cell) (hco : scope.isCoroutine = false := by rfl) (hgen : scope.isGenerator = false := by rfl) (hk : scope.kind = .function := by rfl) :
 Gc (model prog w) A g L m (C ++ R) (.call (.ref f) ⟨pos, []⟩) (fun v N' => ∃ C', P v C' ∧ N' = C' ++ R) X := fun s S W q x => by
 have XX := B.X.keeps W.fr.keep
 have W1 : Wf g L (s.heap.push (tupO rest)) m ((s.heap.objs.size, tupO rest) :: (C ++ R)) := nodup_push W (fun p hp => Heap.lt_size (W.nw p hp).1) (W.fr.push _) (W.nw.push W.fr _)
 have W2 : Wf g L ((s.heap.push (tupO rest)).push emptyDict) m ((s.heap.objs.size + 1, emptyDict) :: (s.heap.objs.size, tupO rest) :: (C ++ R)) := by
  have := nodup_push (o := emptyDict) W1 (fun p hp => Heap.lt_size (W1.nw p hp).1) (W1.fr.push _) (W1.nw.push W1.fr _)
  rwa [Heap.size_push] at this
 have hsz : ((s.heap.push (tupO rest)).push emptyDict).objs.size = s.heap.objs.size + 2 := by rw [Heap.size_push, Heap.size_push]
 obtain ⟨st, sr, bk⟩ := Wf.hide (s := { s with heap := (s.heap.push (tupO rest)).push emptyDict }) (C := (s.heap.objs.size + 1, emptyDict) :: (s.heap.objs.size, tupO rest) :: C) (R := R) W2
 refine cg_call_star (fd := fnX name qual params body scope [] dV kV doc pm an cdv ct) (body := body) (rest := rest) (pre := pre) (va := va) (ka := ka) r.room (XX _ _ ho) rfl (B.nolimit.keeps W.fr.keep) (codeRec_of XX hcd) rfl (fun Q E q => hbind s _ _ Q E q) hcell (locs (hloc _ _)) (fun h₁ hns hk₁ => ?_) hco hgen hk
 have W₁ : Wf (hideAll ((s.heap.push (tupO rest)).push emptyDict) (((s.heap.objs.size + 1, emptyDict) :: (s.heap.objs.size, tupO rest) :: C).map (·.1))) (s.heap.objs.size + 2) h₁ (pre ++ [(va, Value.ref s.heap.objs.size), (ka, Value.ref (s.heap.objs.size + 1))]).reverse ((s.heap.objs.size + 1, emptyDict) :: (s.heap.objs.size, tupO rest) :: C) := by
  have inC : ∀ p ∈ ((s.heap.objs.size + 1, emptyDict) :: (s.heap.objs.size, tupO rest) :: C), ((s.heap.push (tupO rest)).push emptyDict).get? p.1 = some p.2 := fun p hp => (W2.nw p (by
   rcases List.mem_cons.mp hp with rfl | hp
   · exact .head _
   · rcases List.mem_cons.mp hp with rfl | hp
     · exact .tail _ (.head _)
     · exact .tail _ (.tail _ (List.mem_append_left _ hp)))).1
  refine ⟨⟨hns, fun b o e => hk₁ b o (of_hideAll _ e), by rw [hideAll_size, hsz]; exact Nat.le_refl _⟩, fun p hp => ⟨hk₁ _ _ (inC p hp), Nat.ne_of_lt (by rw [← hsz]; exact Heap.lt_size (inC p hp)), hideAll_none _ (List.mem_map_of_mem hp)⟩, ?_⟩
  have := W2.nd
  rw [show ((s.heap.objs.size + 1, emptyDict) :: (s.heap.objs.size, tupO rest) :: (C ++ R)) = ((s.heap.objs.size + 1, emptyDict) :: (s.heap.objs.size, tupO rest) :: C) ++ R from rfl, List.map_append, List.nodup_append] at this
  exact this.1
 exact hb _ (s.heap.objs.size + 2) _ s.heap.objs.size (s.heap.objs.size + 1) (by have := W.fr.ns.lt; show s.heap.objs.size + 1 ≠ 1; exact fun e => by rw [Nat.succ.inj e] at this; exact Nat.not_lt_zero _ this) r.deep st sr (B.keeps st) _ _ _ W₁ (fun fl h' tk' m' C' p W' => q _ h' tk' _ ⟨C', p, rfl⟩ (bk _ _ _ _ W')) fun _ _ _ _ _ h _ => h.elim
end
section
open PySem.Builtin.Bytes
namespace BA
theorem no_bytes : typeLookup (.type "bytearray") "__bytes__" = pure none := by rw [typeLookup_type, builtinLookup_eq_fast]; kernel_rfl
theorem nidx : typeLookup (.type "bytearray") "__index__" = pure none := by rw [typeLookup_type, builtinLookup_eq_fast]; kernel_rfl
end BA
section
variable {w : World} {M : Model} {A : Around} {prog : Program} {E : Value → Shared → Prop} {s : Shared} {R : Result → Shared → Prop} {g : Heap} {L C a : Addr} {m : Loc} {N : Led} {X : Value → Led → Prop} {XS : Value → Loc → Led → Prop} {K : Frag} {env : Env}
theorem gs_lift {st : Stmt} {rest : List Stmt} {R₁ R : Flow → Loc → Led → Prop} (h : Xs M A g L m N (execs [st] env) R₁) (k : ∀ fl m' N', R₁ fl m' N' → Ny M A g L env rest R XS fl m' N') : Gs M A g L m N (execs (st :: rest) env) R XS :=
 gs_cons fun s Q E W q x => by
  have h1 := h s Q E W fun fl h' tk' m' N' p W' => q fl h' tk' m' N' (k fl m' N' p) W'
  intro Γ p i c
  have h2 := h1 Γ p i
  rw [execs_cons, Sem.wp_bind'] at h2
  refine Sem.wp_mono M Γ _ (fun f p' s' h' => ?_) (fun _ _ _ h' => h') _ _ h2
  cases f <;> exact h'
theorem gs_lift1 {st : Stmt} {rest : List Stmt} {J : Loc → Led → Prop} {R : Flow → Loc → Led → Prop} (h : Xs M A g L m N (execs [st] env) (fun fl m' N' => fl = .next ∧ J m' N')) (k : ∀ m' N', J m' N' → Gs M A g L m' N' (execs rest env) R XS) : Gs M A g L m N (execs (st :: rest) env) R XS :=
 gs_lift h fun fl m' N' e => by obtain ⟨rfl, e⟩ := e; exact k m' N' e
theorem co_ge {x y : Int} {v u : Value} (h1 : IsI x v) (h2 : IsI y u) : EvP (model prog w) A g L m N (compareOp .GtE v u) (IsT (decide (y ≤ x))) := by
 obtain ⟨_, rfl⟩ := h1; obtain ⟨_, rfl⟩ := h2; exact fun s _ _ W q => PyProof.Rows.ge_int (q _ s.heap s.toks N ⟨rfl, rfl⟩ W)
theorem xs_ifJ {t : Expr} {b : List Stmt} {p : Pos} {rest : List Stmt} {c : Bool} {R : Flow → Loc → Led → Prop} (J : Loc → Led → Prop) (h : Tst M A g L m N t env c) (ht : c = true → Xs M A g L m N (execs b env) (fun fl m' N' => fl = .next ∧ J m' N')) (hf : c = false → J m N)
 (k : ∀ m' N', J m' N' → Xs M A g L m' N' (execs rest env) R) : Xs M A g L m N (execs (.If t b [] p :: rest) env) R :=
 xs_if h (fun e => xs_mono (ht e) fun fl m' N' e => by obtain ⟨rfl, e⟩ := e; exact k m' N' e) fun e => nx_nil (k _ _ (hf e))
theorem gs_if0 {t : Expr} {b : List Stmt} {p : Pos} {rest : List Stmt} {R : Flow → Loc → Led → Prop} (h : Tst M A g L m N t env false) (k : Gs M A g L m N (execs rest env) R XS) : Gs M A g L m N (execs (.If t b [] p :: rest) env) R XS :=
 gs_if (P := fun c N' => c = false ∧ N' = N) h.gv (fun N' h => nomatch h.1) fun N' h => by obtain ⟨-, rfl⟩ := h; exact ny_nil k
theorem gs_if1 {t : Expr} {b o : List Stmt} {p : Pos} {rest : List Stmt} {R : Flow → Loc → Led → Prop} (h : Tst M A g L m N t env true) (k : Gs M A g L m N (execs b env) (Ny M A g L env rest R XS) XS) : Gs M A g L m N (execs (.If t b o p :: rest) env) R XS :=
 gs_if (P := fun c N' => c = true ∧ N' = N) h.gv (fun N' h => by obtain ⟨-, rfl⟩ := h; exact k) fun N' h => nomatch h.1
theorem gs_else {t : Expr} {b o : List Stmt} {p : Pos} {rest : List Stmt} {R : Flow → Loc → Led → Prop} (h : Tst M A g L m N t env false) (k : Gs M A g L m N (execs o env) (Ny M A g L env rest R XS) XS) : Gs M A g L m N (execs (.If t b o p :: rest) env) R XS :=
 gs_if (P := fun c N' => c = false ∧ N' = N) h.gv (fun N' h => nomatch h.1) fun N' h => by obtain ⟨-, rfl⟩ := h; exact k
theorem gs_setattr {x dx : Addr} {es : List DictEntry} {n : Nat} {nm : Str} {e oe : Expr} {p1 p2 : Pos} {rest : List Stmt} {i : Nat} {pv : Value → Prop} {R : Flow → Loc → Led → Prop} (B : Bs K g) (hv : EvP (model prog w) A g L m N (eval e env) pv) (ho : EvP (model prog w) A g L m N (eval oe env) (IsV (.ref x)))
 (hx : Ob g N x (instObj C dx)) (hN : N[i]? = some (dx, dictOf es n)) (hs : findIn K (.ref C) "__setattr__" = some (some (.builtin "object.__setattr__"))) (hp : plainOver K C = true) (ht : takerIn K C nm = some none) (hh : hasDictIn K C = true)
 (hl : (getL nm es).isSome = true) (hz : es.length < 1000)
 (k : ∀ v t, pv v → Gs (model prog w) A g L m (N.set i (dx, dictOf (putL nm (PyData.keyHash w.params nm) (.str nm t) v es) (putN nm es n))) (execs rest env) R XS)
 (hsw : swapsWith e (some (.Attribute oe nm p1)) p2.line env = pure false := by rfl) : Gs (model prog w) A g L m N (execs (.Assign [.Attribute oe nm p1] e p2 :: rest) env) R XS :=
 gs_lift (R₁ := fun fl m' N' => fl = .next ∧ m' = m ∧ ∃ v t, pv v ∧ N' = N.set i (dx, dictOf (putL nm (PyData.keyHash w.params nm) (.str nm t) v es) (putN nm es n))) (xs_setattr B hv ho hx hN hs hp ht hh hl hz (fun v t e => xs_nil ⟨rfl, rfl, v, t, e, rfl⟩) hsw) fun fl m' N' e => by
  obtain ⟨rfl, rfl, v, t, e, rfl⟩ := e
  exact k v t e
theorem ba_buffer {id : String} {full : Bool} {a : Addr} {b : List UInt8} {Q : Option (Array UInt8) → Shared → Prop} (ho : s.heap.get? a = some (baO b)) (h : Q (some b.toArray) s) : wpAny M A (buffer? id (.ref a) full) Q E s := by
 have hT := typ_ba ho
 unfold buffer?
 refine wpAny_bind (wpAny_specialOf hT BA.l_buf ?_)
 try dsimp only
 refine wpAny_bind ?_
 unfold slotIsOwn
 refine wpAny_bind (wpAny_specialOf hT BA.l_buf ?_)
 try dsimp only
 rw [BA.ends_abuf, BA.drop_abuf]
 refine wpAny_isInstance hT BA.sub ?_
 refine wpAny_bind (wpAny_specialOf hT BA.l_buf ?_)
 try dsimp only
 refine wpAny_bind (ba_ownRel ho ?_)
 exact wpAny_bind (ba_payload ho (wpAny_pure h))
theorem call_bytesA {a : Addr} {b : List UInt8} (ho : Ob g N a (baO b)) (hz : b.length ≤ sizeLine) : EvP (model prog w) A g L m N (call (.type "bytes") [.ref a]) (IsB b) := fun s Q E W q => by
 have ho := ho.at W
 have hT := typ_ba ho
 have main : codeAny (model prog w) A.in1 (.call (.builtin "bytes.__new__") ⟨[.type "bytes", .ref a], []⟩) (wants (fun obj s₁ => s₁.TypeIs obj "bytes" ∧ Q obj s₁) E) s := by
  refine codeAny_of_tree ?_
  show wpAny _ A.in1.in1 (do checkBuiltinCall "bytes.__new__" ⟨[.type "bytes", .ref a], []⟩; again (.builtin "bytes.__new__" ⟨[.type "bytes", .ref a], []⟩)) _ _ s
  refine wpAny_bind (wpAny_of_eq (F.bm_newCall _) (wpAny_pure ⟨plainId_quiet F.bm_plain _, codeAny_builtin F.bm_entry ?_⟩))
  rw [Around.under_plainId F.bm_plain _]
  unfold Builtin.«bytes.__new__»
  refine wpAny_bind (wpAny_of_eq (a := true) rfl ?_)
  refine bm_if_false rfl ?_
  refine wpAny_bind (wpAny_of_eq F.bm_sub ?_)
  refine bm_if_false rfl ?_
  refine wpAny_bind (wpAny_of_eq (F.bm_bind _) ?_)
  refine wpAny_bind (wpAny_of_eq (a := ()) rfl ?_)
  refine wpAny_bind (wpAny_of_eq (a := ()) rfl ?_)
  refine bm_if_false rfl ?_
  refine wpAny_bind (wpAny_specialOf hT BA.no_bytes ?_)
  refine wpAny_bind (wpAny_bind ?_)
  show wpAny _ _ (load a >>= _) _ _ _
  refine wpAny_bind (wpAny_load ho ?_)
  refine wpAny_pure (wpAny_pure ?_)
  refine bm_if_false rfl ?_
  refine wpAny_bind (wpAny_specialOf hT BA.nidx ?_)
  refine bm_if_true rfl ?_
  first
   | show wpAny _ _ (buffer? "bytes.__new__" (.ref a) true >>= _) _ _ _
   | (refine wpAny_bind ?_; show wpAny _ _ (buffer? "bytes.__new__" (.ref a) true >>= _) _ _ _)
  refine wpAny_bind (ba_buffer ho ?_)
  refine wpAny_bind (wpAny_rule ?_)
  refine wpAny_bind (wpAny_mkBytes ?_ (by simpa using hz))
  have W' : ∀ tk, Q (.bytes b.toArray tk) { s with toks := s.toks + 1 } := fun tk => q _ s.heap _ N ⟨⟨tk, rfl⟩, rfl⟩ W
  refine bm_if_true (by decide) ?_
  first
   | exact wpAny_pure ⟨typeIs_bytes _ _ _, W' _⟩
   | exact wpAny_bind (wpAny_pure (wpAny_pure ⟨typeIs_bytes _ _ _, W' _⟩))
 refine callType_codes (Q₁ := fun obj s₁ => s₁.TypeIs obj "bytes" ∧ Q obj s₁) F.bm_called (F.bm_typeCall _) F.entry_object_init main fun obj s₁ h₁ => ?_
 exact ⟨h₁.1, F.args_object_init_2 obj _, object_init_meets F.bm_called.init.lookup F.bm_called.made (by decide) prog w A.in1 _ s₁ ⟨h₁.1, rfl, h₁.2⟩⟩
theorem call_typeB {b : List UInt8} {v : Value} (hv : IsB b v) : EvP (model prog w) A g L m N (call (.type "type") [v]) (IsV (.type "bytes")) := by
 obtain ⟨t, rfl⟩ := hv
 exact fun s Q E W q => call_type_of (typeIs_bytes _ _ _) (by decide) (q _ s.heap s.toks N ⟨rfl, rfl⟩ W)
theorem call_typeI {n : Int} {v : Value} (hv : IsI n v) : EvP (model prog w) A g L m N (call (.type "type") [v]) (IsV (.type "int")) := by
 obtain ⟨t, rfl⟩ := hv
 exact fun s Q E W q => call_type_of (typeIs_int _ _ _) (by decide) (q _ s.heap s.toks N ⟨rfl, rfl⟩ W)
theorem co_is {x y v u : Value} (h1 : IsV x v) (h2 : IsV y u) (hp : plainIs x y = true) : EvP (model prog w) A g L m N (compareOp .Is v u) (IsT (x == y)) := by
 obtain rfl : v = x := h1; obtain rfl : u = y := h2
 exact fun s Q E W q => wpAny_is_plain hp (q _ s.heap s.toks N ⟨rfl, rfl⟩ W)
theorem co_isnt {x y v u : Value} (h1 : IsV x v) (h2 : IsV y u) (hp : plainIs x y = true) : EvP (model prog w) A g L m N (compareOp .IsNot v u) (IsT (!(x == y))) := by
 obtain rfl : v = x := h1; obtain rfl : u = y := h2
 exact fun s Q E W q => wpAny_isNot_plain hp (q _ s.heap s.toks N ⟨rfl, rfl⟩ W)
theorem co_isntSelf {a : Addr} {v u : Value} (h1 : IsV (.ref a) v) (h2 : IsV (.ref a) u) : EvP (model prog w) A g L m N (compareOp .IsNot v u) (IsT false) := by
 obtain rfl : v = .ref a := h1; obtain rfl : u = .ref a := h2
 exact fun s Q E W q => wpAny_isNot_ref_self (q _ s.heap s.toks N ⟨rfl, rfl⟩ W)
theorem call_intI {n : Int} {v : Value} (hv : IsI n v) : EvP (model prog w) A g L m N (call (.type "int") [v]) (IsI n) := by
 obtain ⟨t, rfl⟩ := hv
 exact fun s Q E W q => call_int_int (q _ s.heap s.toks N ⟨⟨t, rfl⟩, rfl⟩ W)
theorem gs_setslice {o e1 e2 e : Expr} {p1 p2 p3 : Pos} {rest : List Stmt} {ba : Addr} {i : Nat} {cur b : List UInt8} {k j : Int} {R : Flow → Loc → Led → Prop} (he : EvP (model prog w) A g L m N (eval e env) (IsB b)) (ho : EvP (model prog w) A g L m N (eval o env) (IsV (.ref ba)))
 (hN : N[i]? = some (ba, baO cur)) (h1 : EvP (model prog w) A g L m N (eval e1 env) (IsI (cur.length : Int))) (h2 : EvP (model prog w) A g L m N (eval e2 env) (IsI j)) (hj : j = (cur.length : Int) + k) (hk : 0 ≤ k) (hb : b ≠ []) (hz : cur.length + b.length ≤ 16777216)
 (kk : Gs (model prog w) A g L m (N.set i (ba, baO (cur ++ b))) (execs rest env) R XS)
 (hs : swapsWith e (some (.Subscript o (.Slice (some e1) (some e2) none p1) p2)) p3.line env = pure false := by rfl) (hw : swappedStores [.Subscript o (.Slice (some e1) (some e2) none p1) p2] e env = pure none := by rfl) :
 Gs (model prog w) A g L m N (execs (.Assign [.Subscript o (.Slice (some e1) (some e2) none p1) p2] e p3 :: rest) env) R XS :=
 gs_cons fun s Q E W q xx => by
  have e0 : exec (.Assign [.Subscript o (.Slice (some e1) (some e2) none p1) p2] e p3) env = (do
   standAt p3
   if ← swapsWith e (some (.Subscript o (.Slice (some e1) (some e2) none p1) p2)) p3.line env then do
    evalThenUse e env fun v => assignAll v ((assignEach [.Subscript o (.Slice (some e1) (some e2) none p1) p2] env).map (·.2))
    pure .next
   else do
    let v ← eval e env
    let sw ← swappedStores [.Subscript o (.Slice (some e1) (some e2) none p1) p2] e env
    assignStores env v sw ((assignEach [.Subscript o (.Slice (some e1) (some e2) none p1) p2] env).map (·.2))) := rfl
  rw [e0, hs]
  refine g_bind (wg (wpAny_standAt (g_bind (g_pure ?_))))
  refine g_not rfl ?_
  refine g_bind (wg (he s _ E W fun v h1' tk1 N1 ee1 W1 => ?_))
  obtain ⟨hv, rfl⟩ := ee1
  rw [hw]
  refine g_bind (g_pure ?_)
  show wpG _ _ (do
   (do
    let ov ← holding [v] (eval o env)
    let iv ← holding [v, ov] (eval (.Slice (some e1) (some e2) none p1) env)
    standAt p2
    holding [v, ov, iv] (setItem ov iv v)
    release [iv, v, ov] [])
   pure Flow.next) _ _ _
  refine g_bind (g_bind (g_holding (wg (ho _ _ E W1 fun ov h2' tk2 N2 ee2 W2 => ?_))))
  obtain ⟨rfl, rfl⟩ := ee2
  refine g_bind (g_holding (wg (wpAny_Slice (h1 _ _ E W2 fun l h3' tk3 N3 ee3 W3 => ?_))))
  obtain ⟨⟨t1, rfl⟩, rfl⟩ := ee3
  refine h2 _ _ E W3 fun u h4' tk4 N4 ee4 W4 => ?_
  obtain ⟨⟨t2, rfl⟩, rfl⟩ := ee4
  refine wpAny_pure ?_
  subst hj
  have W5 := nodup_push (o := slO (cur.length : Int) ((cur.length : Int) + k) t1 t2) W4 (fun p hp => Heap.lt_size (W4.nw p hp).1) (W4.fr.push _) (W4.nw.push W4.fr _)
  refine g_bind (wg (wpAny_standAt (g_bind (g_holding ?_))))
  have hO := (W5.nw _ (.tail _ (List.mem_of_getElem? hN))).1
  unfold setItem
  refine g_holding (g_bind (wg (wpAny_sequenceKey (typ_ba hO) (by decide +kernel) (g_bind ?_))))
  unfold callSpecial?
  refine g_bind (wg (wpAny_specialOf (typ_ba hO) BA.s_set.lookup ?_))
  refine g_holding ?_
  rw [BA.s_set.bind]
  refine g_bind (g_pure (g_bind ?_))
  refine gv_setA (X := nx) (i := i + 1) hv (by simpa using hN) (.inl (.head _)) hk hb hz { s with heap := h4'.push (slO (cur.length : Int) ((cur.length : Int) + k) t1 t2), toks := tk4 } _ _ W5 (fun r h6 tk6 N6 ee6 W6 => ?_) fun _ _ _ _ h _ => h.elim
  obtain ⟨rfl, c, rfl⟩ := ee6
  refine g_pure (g_pure ?_)
  refine g_mono (wg (ev_release (P := fun _ N' => N' = (c, baO b) :: ((h4'.objs.size, slO (cur.length : Int) ((cur.length : Int) + k) t1 t2) :: N4).set (i + 1) (ba, baO (cur ++ b))) rfl { s with heap := h6, toks := tk6 } (fun _ s' => ∃ h7 tk7, s' = { s with heap := h7, toks := tk7 } ∧ Wf g L h7 m ((c, baO b) :: ((h4'.objs.size, slO (cur.length : Int) ((cur.length : Int) + k) t1 t2) :: N4).set (i + 1) (ba, baO (cur ++ b)))) E W6 (fun _ h7 tk7 N7 e7 W7 => ⟨h7, tk7, rfl, e7 ▸ W7⟩))) (fun _ s' h' => ?_) fun _ _ x => x
  obtain ⟨h7, tk7, rfl, W7⟩ := h'
  exact g_pure (q .next h7 tk7 m (N4.set i (ba, baO (cur ++ b))) kk (W7.sub (by rw [List.set_cons_succ]; exact (List.sublist_cons_self _ _).trans (List.sublist_cons_self _ _))))
end
end
noncomputable def stE (P : Params) (t1 t2 u : Tok) (ba : Addr) (pos : Nat) : List DictEntry := [en P "_BytesIO__buf" t1 (.ref ba), en P "_BytesIO__pos" t2 (.int (pos : Int) u)]
section
variable {w : World} {A : Around} {g : Heap} {L a ba : Addr} {m : Loc} {N : Led} {cn : Str} {cs : Scope} {ccd : Value} {x dx : Addr} {n pos : Nat} {t1 t2 u : Tok} {b cur : List UInt8} {X : Value → Led → Prop}
theorem ev_buf {p p' : Pos} (B : Bs (KF w.params) g) (hs : lk m "self" = some (.ref x)) (hx : Ob g N x (instObj 573 dx)) (hd : Ob g N dx (dictOf (stE w.params t1 t2 u ba pos) n)) (hk : cs.kind = .function := by rfl) (hxx : (envX cn cs L a ccd []).kindOf "self" = some .local := by rfl) :
 EvP (model PR w) A g L m N (eval (.Attribute (.Name "self" p) "_BytesIO__buf" p') (envX cn cs L a ccd [])) (IsV (.ref ba)) := ev_own B (ev_local hs hk hxx) hx hd (cg_BytesIO _ _) (ch_BytesIO _) (ff_BytesIO_BytesIO__buf _) rfl rfl
theorem ev_pos {p p' : Pos} (B : Bs (KF w.params) g) (hs : lk m "self" = some (.ref x)) (hx : Ob g N x (instObj 573 dx)) (hd : Ob g N dx (dictOf (stE w.params t1 t2 u ba pos) n)) (hk : cs.kind = .function := by rfl) (hxx : (envX cn cs L a ccd []).kindOf "self" = some .local := by rfl) :
 EvP (model PR w) A g L m N (eval (.Attribute (.Name "self" p) "_BytesIO__pos" p') (envX cn cs L a ccd [])) (IsI (pos : Int)) := is_I (ev_own B (ev_local hs hk hxx) hx hd (cg_BytesIO _ _) (ch_BytesIO _) (ff_BytesIO_BytesIO__pos _) rfl rfl)
theorem s_bcheck (B : Bs (KF w.params) g) (r : Rm A 1) (hx : Ob g N x (instObj 573 dx)) (hd : Ob g N dx (dictOf (stE w.params t1 t2 u ba pos) n)) : CdP (model PR w) A g L m N (.call (.ref 367) ⟨[.ref x], []⟩) (IsV .none) := by
 refine cd_pcall [("self", .ref x)] B r rfl (by kernel_rfl) (fun s X => BindsTo.of_eq rfl) (by rfl) ?_ (by decide)
 intro h₀ L' A' r st sr B
 have hx := hx.mono (N' := []) st fun p hp => .inr (sr p hp)
 have hd := hd.mono (N' := []) st fun p hp => .inr (sr p hp)
 refine xs_if (c := false) (tst_cmp1 (ev_buf B rfl hx hd) ev_none fun x y h h' => co_is h h' rfl) (fun h => nomatch h) fun _ => nx_nil ?_
 exact xs_nil rfl
theorem ev_bcheck {p p1 p2 : Pos} {pl : Sem Bool} (B : Bs (KF w.params) g) (r : Rm A 1) (hx : Ob g N x (instObj 573 dx)) (hd : Ob g N dx (dictOf (stE w.params t1 t2 u ba pos) n)) (hs : lk m "self" = some (.ref x))
 (hk : cs.kind = .function := by rfl) (hxx : (envX cn cs L a ccd []).kindOf "self" = some .local := by rfl)
 (he : eval (.Call (.Attribute (.Name "self" p1) "_BytesIO__check" p2) [] [] p) (envX cn cs L a ccd []) = (do
  let ov ← eval (.Name "self" p1) (envX cn cs L a ccd [])
  standAt p2.atName
  let (f, first) ← holding [ov] (getMethod ov "_BytesIO__check" pl)
  callWith p f first (backTo p (starEach [] (envX cn cs L a ccd []))) []) := by rfl) :
 EvP (model PR w) A g L m N (eval (.Call (.Attribute (.Name "self" p1) "_BytesIO__check" p2) [] [] p) (envX cn cs L a ccd [])) (IsV .none) :=
 ev_m0 B (ev_local hs hk hxx) (fun ov N1 e => by obtain ⟨rfl, rfl⟩ := e; exact ⟨x, 573, dx, 367, _, _, rfl, hx, hd, cg_BytesIO _ _, fm_BytesIO_BytesIO__check _, fn_367 _, rfl, kp_367 _, s_bcheck B r hx hd⟩) he
theorem s_getvalue (B : Bs (KF w.params) g) (r : Rm A 2) (hx : Ob g N x (instObj 573 dx)) (hd : Ob g N dx (dictOf (stE w.params t1 t2 u ba pos) n)) (hb : Ob g N ba (baO b)) (hz : b.length ≤ 16777216) : CdP (model PR w) A g L m N (.call (.ref 459) ⟨[.ref x], []⟩) (IsB b) := by
 refine cd_pcall [("self", .ref x)] B r rfl (by kernel_rfl) (fun s X => BindsTo.of_eq rfl) (by rfl) ?_ (by decide)
 intro h₀ L' A' r st sr B
 have hx := hx.mono (N' := []) st fun p hp => .inr (sr p hp)
 have hd := hd.mono (N' := []) st fun p hp => .inr (sr p hp)
 have hb := hb.mono (N' := []) st fun p hp => .inr (sr p hp)
 refine xs_expr (ev_bcheck B r hx hd rfl) ?_
 refine i_b ?_
 exact xs_return (P := fun v N' => IsB b v ∧ N' = []) (ev_Call1 B (ev_builtin B (no_bytes _) (by rfl)) kp_t (ev_buf B rfl hx hd) fun v h => by obtain rfl : v = .ref ba := h; exact call_bytesA hb (by rw [sizeLine_eq]; omega)) fun v N' h => h.1
theorem s_bwrite {v : Value} {R : Led} (B : Bs (KF w.params) g) (r : Rm A 2) (hv : IsB b v) (hb : b ≠ []) (hz : cur.length + b.length ≤ 16777216) :
 Gc (model PR w) A g L m ((x, instObj 573 dx) :: (dx, dictOf (stE w.params t1 t2 u ba cur.length) 2) :: (ba, baO cur) :: R) (.call (.ref 556) ⟨[.ref x, v], []⟩)
  (fun v N' => IsI (b.length : Int) v ∧ ∃ t3 u', N' = (x, instObj 573 dx) :: (dx, dictOf (stE w.params t1 t3 u' ba (cur ++ b).length) 2) :: (ba, baO (cur ++ b)) :: R) X := by
 obtain ⟨tv, rfl⟩ := hv
 refine gc_mono (gc_call (C := [(x, instObj 573 dx), (dx, dictOf (stE w.params t1 t2 u ba cur.length) 2), (ba, baO cur)]) (R := R) (P := fun v C' => IsI (b.length : Int) v ∧ ∃ t3 u', C' = [(x, instObj 573 dx), (dx, dictOf (stE w.params t1 t3 u' ba (cur ++ b).length) 2), (ba, baO (cur ++ b))])
  [("self", .ref x), ("b", .bytes b.toArray tv)] B r rfl (by kernel_rfl) (fun s X => BindsTo.of_eq rfl) (by rfl) ?_ (by decide)) ?_
 · intro h₀ L' A' r st sr B
   have hx : Ob h₀ [(x, instObj 573 dx), (dx, dictOf (stE w.params t1 t2 u ba cur.length) 2), (ba, baO cur)] x (instObj 573 dx) := .inl (.head _)
   have hd : Ob h₀ [(x, instObj 573 dx), (dx, dictOf (stE w.params t1 t2 u ba cur.length) 2), (ba, baO cur)] dx (dictOf (stE w.params t1 t2 u ba cur.length) 2) := .inl (.tail _ (.head _))
   have hO : Ob h₀ [(x, instObj 573 dx), (dx, dictOf (stE w.params t1 t2 u ba cur.length) 2), (ba, baO cur)] ba (baO cur) := .inl (.tail _ (.tail _ (.head _)))
   have hb0 : 0 < b.length := List.length_pos_iff.mpr hb
   refine gs_if0 (tst_and (b := false) (c := true) (tst_cmp1 (ev_Call1 B (ev_builtin B (no_type _) (by rfl)) kp_t (ev_localB rfl) fun v h => call_typeB h) (ev_builtin B (no_bytes _) (by rfl)) fun x y h h' => co_isnt h h' rfl) fun h => nomatch h) ?_
   refine gs_expr (ev_bcheck B r hx hd rfl).gv ?_
   refine i_c fun v _ => ?_
   refine gs_assign (Ev.gv (ev_Call1 B (ev_builtin B (no_len _) (by rfl)) kp_b (ev_localB rfl) fun v h => call_lenB h (by omega))) ?_
   refine i_a fun t4 => ?_
   refine gs_if0 (tst_eq (tst_cmp1 (ev_localI rfl) ev_int fun x y h h' => co_eq h h') (beq_false_of_ne (by omega))) ?_
   refine gs_assign (ev_pos B rfl hx hd).gv ?_
   refine i_a fun t5 => ?_
   have hlen : ∀ {m1 q p p' p''}, lk m1 "self" = some (.ref x) → EvP (model PR w) A' h₀ L' m1 [(x, instObj 573 dx), (dx, dictOf (stE w.params t1 t2 u ba cur.length) 2), (ba, baO cur)] (eval (.Call (.Name "len" p'') [.Attribute (.Name "self" p) "_BytesIO__buf" p'] [] q) (envX nx130 (fs2 41 28) L' 556 (.ref 555) [])) (IsI (cur.length : Int)) := fun {m1 q p p' p''} h =>
    ev_Call1 B (ev_builtin B (no_len _) (by rfl)) kp_b (ev_buf B h hx hd) fun v h => by obtain rfl : v = .ref ba := h; exact call_lenA hO (by omega)
   refine gs_if0 (tst_eq (tst_cmp1 (ev_sub (ev_localI rfl) (hlen rfl)) ev_int fun x y h h' => co_gt h h') (decide_eq_false (by omega))) ?_
   refine gs_if0 (tst_eq (tst_cmp1 (ev_localI rfl) (hlen rfl) fun x y h h' => co_gt h h') (decide_eq_false (by omega))) ?_
   refine gs_setslice (i := 2) (cur := cur) (b := b) (k := b.length) (ev_localB rfl) (ev_buf B rfl hx hd) rfl (ev_localI rfl) (ev_add (ev_localI rfl) (ev_localI rfl)) rfl (by omega) hb hz ?_
   have hx2 : Ob h₀ [(x, instObj 573 dx), (dx, dictOf (stE w.params t1 t2 u ba cur.length) 2), (ba, baO (cur ++ b))] x (instObj 573 dx) := .inl (.head _)
   have hd2 : Ob h₀ [(x, instObj 573 dx), (dx, dictOf (stE w.params t1 t2 u ba cur.length) 2), (ba, baO (cur ++ b))] dx (dictOf (stE w.params t1 t2 u ba cur.length) 2) := .inl (.tail _ (.head _))
   refine gs_setattr (i := 1) B (evI_eq (y := ((cur ++ b).length : Nat)) (ev_add (ev_localI rfl) (ev_localI rfl)) (by rw [List.length_append, Int.natCast_add])) (ev_local rfl) hx2 rfl (cs_BytesIO _) (cp_BytesIO _) (ft_BytesIO_BytesIO__pos _) (ch_BytesIO _) rfl (by simp [stE]) fun v t e => ?_
   obtain ⟨u', rfl⟩ := e
   exact gs_return (ev_localI rfl).gv fun v N' h => ⟨h.1, t2, u', h.2.trans rfl⟩
 · refine i_f ?_; rintro v C' ⟨h1, t3, u', rfl⟩
   exact ⟨h1, t3, u', rfl⟩
end
section
variable {w : World} {A : Around} {g : Heap} {L a ba : Addr} {m : Loc} {N : Led} {x dx : Addr} {n pos : Nat} {t1 t2 u : Tok} {b : List UInt8} {X : Value → Led → Prop}
theorem s_index {k : Nat} {v z : Value} (B : Bs (KF w.params) g) (r : Rm A 1) (hk : k ≤ 1000) (hv : IsI (k : Int) v) : CdP (model PR w) A g L m N (.call (.ref 286) ⟨[v, z], []⟩) (IsI (k : Int)) := by
 obtain ⟨t, rfl⟩ := hv
 refine cd_pcall [("n", .int (k : Int) t), ("what", z)] B r rfl (by kernel_rfl) (fun s X => BindsTo.of_eq rfl) (by rfl) ?_ (by decide)
 intro h₀ L' A' r st sr B
 refine xs_if (c := false) (tst_and (b := false) (c := true) (tst_cmp1 (ev_Call1 B (ev_builtin B (no_type _) (by rfl)) kp_t (ev_localI rfl) fun v h => call_typeI h) (ev_builtin B (no_int _) (by rfl)) fun x y h h' => co_isnt h h' rfl) fun h => nomatch h) (fun h => nomatch h) fun _ => nx_nil ?_
 refine xs_assign (P := fun v N' => IsI (k : Int) v ∧ N' = []) (ev_Call1 B (ev_builtin B (no_int _) (by rfl)) kp_t (ev_localI rfl) fun v h => call_intI h) ?_
 refine i_a fun t2 => ?_
 refine xs_if (c := false) (tst_or (b := false) (c := false) (tst_eq (tst_cmp1 (ev_localI rfl) ev_int fun x y h h' => co_gt h h') (decide_eq_false (by omega))) fun _ => tst_or (b := false) (c := false) (tst_eq (tst_cmp1 (ev_localI rfl) (ev_neg ev_int) fun x y h h' => co_lt h h') (decide_eq_false (by omega))) fun _ => tst_or0) (fun h => nomatch h) fun _ => nx_nil ?_
 exact xs_return (ev_localI rfl) fun v N' h => h.1
theorem s_bread {v : Value} {k : Nat} {R : Led} (B : Bs (KF w.params) g) (r : Rm A 2) (hv : IsI (k : Int) v) (hk0 : 0 < k) (hk : k ≤ 1000) (hp : pos + k ≤ b.length) (hz : b.length ≤ 16777216) :
 Cd (model PR w) A g L m ((x, instObj 573 dx) :: (dx, dictOf (stE w.params t1 t2 u ba pos) 2) :: (ba, baO b) :: R) (.call (.ref 497) ⟨[.ref x, v], []⟩)
  (fun v N' => IsB ((b.drop pos).take k) v ∧ ∃ u', N' = (x, instObj 573 dx) :: (dx, dictOf (stE w.params t1 t2 u' ba (pos + k)) 2) :: (ba, baO b) :: R) := by
 obtain ⟨tv, rfl⟩ := hv
 refine cd_weaken (cd_call (C := [(x, instObj 573 dx), (dx, dictOf (stE w.params t1 t2 u ba pos) 2), (ba, baO b)]) (R := R) (P := fun v C' => IsB ((b.drop pos).take k) v ∧ ∃ c u', C' = (c, baO ((b.drop pos).take k)) :: [(x, instObj 573 dx), (dx, dictOf (stE w.params t1 t2 u' ba (pos + k)) 2), (ba, baO b)])
  [("self", .ref x), ("size", .int (k : Int) tv)] B r rfl (by kernel_rfl) (fun s X => binds_K X rfl rfl rfl rfl rfl) (by rfl) ?_ (by decide)) ?_
 · intro h₀ L' A' r st sr B
   have hx : Ob h₀ [(x, instObj 573 dx), (dx, dictOf (stE w.params t1 t2 u ba pos) 2), (ba, baO b)] x (instObj 573 dx) := .inl (.head _)
   have hd : Ob h₀ [(x, instObj 573 dx), (dx, dictOf (stE w.params t1 t2 u ba pos) 2), (ba, baO b)] dx (dictOf (stE w.params t1 t2 u ba pos) 2) := .inl (.tail _ (.head _))
   have hO : Ob h₀ [(x, instObj 573 dx), (dx, dictOf (stE w.params t1 t2 u ba pos) 2), (ba, baO b)] ba (baO b) := .inl (.tail _ (.tail _ (.head _)))
   refine xs_if (c := false) (tst_cmp1 (ev_local rfl) ev_none fun x y h h' => co_is h h' rfl) (fun h => nomatch h) fun _ => nx_nil ?_
   refine xs_assign (ev_g2 B (ev_global B (gl_index _)) (kp_index _) (ev_localI rfl) (ev_str (x := "BytesIO.read of a size that is no exact int")) fun v z h h' => s_index B r hk h) ?_
   refine i_a fun t3 => ?_
   refine xs_expr (ev_bcheck B r hx hd rfl) ?_
   refine i_c fun v _ => ?_
   refine xs_assign (ev_pos B rfl hx hd) ?_
   refine i_a fun t4 => ?_
   refine xs_assign (P := fun v N' => IsI (b.length : Int) v ∧ N' = _) (ev_Call1 B (ev_builtin B (no_len _) (by rfl)) kp_b (ev_buf B rfl hx hd) fun v h => by obtain rfl : v = .ref ba := h; exact call_lenA hO (by omega)) ?_
   refine i_a fun t5 => ?_
   refine xs_if (c := false) (tst_eq (tst_cmp1 (ev_localI rfl) (ev_localI rfl) fun x y h h' => co_ge h h') (decide_eq_false (by omega))) (fun h => nomatch h) fun _ => nx_nil ?_
   refine xs_ifJ (fun m' N' => N' = [(x, instObj 573 dx), (dx, dictOf (stE w.params t1 t2 u ba pos) 2), (ba, baO b)] ∧ lk m' "self" = some (.ref x) ∧ lk m' "start" = some (.int (pos : Int) t4) ∧ ∃ t6, lk m' "stop" = some (.int ((pos + k : Nat) : Int) t6))
    (tst_and (b := true) (c := decide ((pos : Int) + k < b.length)) (tst_eq (tst_cmp1 (ev_localI rfl) ev_int fun x y h h' => co_ge h h') (decide_eq_true (by omega))) fun _ => tst_eq (tst_and (c := true) (tst_cmp1 (ev_add (ev_localI rfl) (ev_localI rfl)) (ev_localI rfl) fun x y h h' => co_lt h h') fun _ => tst_and0) (by rw [Bool.and_true])) (fun h => ?_) (fun h => ?_) ?_
   · refine xs_assign (ev_addN (x := pos) (y := k) (ev_localI rfl) (ev_localI rfl) rfl) ?_
     refine i_a fun t6 => ?_
     exact xs_nil ⟨rfl, rfl, rfl, rfl, t6, rfl⟩
   · have he : b.length = pos + k := by
      rw [Bool.true_and] at h
      have := of_decide_eq_false h; omega
     exact ⟨rfl, rfl, rfl, t5, by rw [← he]; rfl⟩
   rintro m' N' ⟨rfl, h1, h2, t6, h3⟩
   refine xs_setattr (i := 1) B (ev_localI h3) (ev_local h1) hx rfl (cs_BytesIO _) (cp_BytesIO _) (ft_BytesIO_BytesIO__pos _) (ch_BytesIO _) rfl (by simp [stE]) fun v t e => ?_
   obtain ⟨u', rfl⟩ := e
   have hx2 : Ob h₀ [(x, instObj 573 dx), (dx, dictOf (stE w.params t1 t2 u' ba (pos + k)) 2), (ba, baO b)] x (instObj 573 dx) := .inl (.head _)
   have hd2 : Ob h₀ [(x, instObj 573 dx), (dx, dictOf (stE w.params t1 t2 u' ba (pos + k)) 2), (ba, baO b)] dx (dictOf (stE w.params t1 t2 u' ba (pos + k)) 2) := .inl (.tail _ (.head _))
   have hO2 : Ob h₀ [(x, instObj 573 dx), (dx, dictOf (stE w.params t1 t2 u' ba (pos + k)) 2), (ba, baO b)] ba (baO b) := .inl (.tail _ (.tail _ (.head _)))
   have hsl : sl b (some (pos : Int)) (some ((pos + k : Nat) : Int)) = (b.drop pos).take k := by rw [sl_mid _ _ _ hp (by omega)]; congr 1; omega
   show Xs (model PR w) A' h₀ L' m' [(x, instObj 573 dx), (dx, dictOf (stE w.params t1 t2 u' ba (pos + k)) 2), (ba, baO b)] _ _
   refine xs_return (P := fun v N' => IsB ((b.drop pos).take k) v ∧ ∃ c, N' = (c, baO ((b.drop pos).take k)) :: [(x, instObj 573 dx), (dx, dictOf (stE w.params t1 t2 u' ba (pos + k)) 2), (ba, baO b)]) (ev_Call (ev_builtin B (no_bytes _) (by rfl)) (ev_callWith (PA := fun vs N' => ∃ c, vs = [.ref c] ∧ N' = (c, baO ((b.drop pos).take k)) :: [(x, instObj 573 dx), (dx, dictOf (stE w.params t1 t2 u' ba (pos + k)) 2), (ba, baO b)]) B kp_t (ar_cons (ev_slA (ev_buf B h1 hx2 hd2) hO2 (ev_localI h2) (ev_localI h3) (by rw [sizeLine_eq]; omega)) fun v N' e => ?_) fun vs N' e => ?_)) fun v N' h => ⟨h.1, h.2.elim fun c e => ⟨c, u', e⟩⟩
   · obtain ⟨c, rfl, rfl⟩ := e
     rw [hsl]
     exact ar_nil ⟨c, rfl, rfl⟩
   · obtain ⟨c, rfl, rfl⟩ := e
     exact ev_mono (call_bytesA (.inl (.head _)) (by rw [sizeLine_eq, List.length_take, List.length_drop]; omega)) fun v N' e => ⟨e.1, c, e.2⟩
 · refine i_f ?_; rintro v C' ⟨h1, c, u', rfl⟩
   exact ⟨_, List.sublist_cons_self _ _, h1, u', rfl⟩
end
section
variable (P : Params)
theorem bn_look : (KF P).lookup 573 = some ⟨.type "type", none, .cls ⟨n_BytesIO, [.ref 331], [.ref 573, .ref 331, .ref 316, .type "object"], 572, n_BytesIO, true, [], [], false, none, false⟩, #[(some (.ref 346)), none, (some (.str n_BytesIO 840)), (some (.str n_BytesIO 848)), (some (.none)), (some (.bool true))]⟩ := rfl
theorem bn_call : specialIn (KF P) (.ref 573) "__call__" = some (some (.builtin "type.__call__")) := by kernel_rfl
theorem bn_inst : instIn (KF P) (.ref 573) (.type "type") = some true := by kernel_rfl
theorem bn_clsin : clsIn (KF P) 573 = some ⟨n_BytesIO, [.ref 331], [.ref 573, .ref 331, .ref 316, .type "object"], 572, n_BytesIO, true, [], [], false, none, false⟩ := rfl
theorem bn_type : typeIn (KF P) (.ref 573) = some (.type "type") := by kernel_rfl
theorem bn_reads : readsIn (KF P) 573 (.type "type") = true := by kernel_rfl
theorem bn_new : findCls (KF P) (.ref 573) (.type "type") "__new__" = some (.get (.builtin "staticmethod.__get__") (.ref 317) .none (.ref 573)) := by kernel_rfl
theorem bn_sm : recIn (KF P) 317 "staticmethod" = some [.ref 313] := by kernel_rfl
theorem bn_init : findIn (KF P) (.ref 573) "__init__" = some (some (.ref 360)) := by kernel_rfl
theorem bn_fn : isFn (KF P) (.ref 360) = true := by kernel_rfl
theorem bn_self : mroIn (KF P) 573 (.ref 573) = some true := by kernel_rfl
end
section
variable {w : World} {h : Heap}
theorem bn_made (X : (KF w.params).In h) : Looks (model PR w) h (Bind.madeBy (.ref 573)) none := Looks.of_peek X (by kernel_rfl)
theorem bn_base (X : (KF w.params).In h) : Looks (model PR w) h (Bind.staticBase (.ref 573)) (.type "object") := Looks.of_peek X (by kernel_rfl)
theorem bn_made2 (X : (KF w.params).In h) : Looks (model PR w) h (Bind.madeBy (.type "object")) (some "object.__new__") := Looks.of_peek X (by kernel_rfl)
theorem bn_isType (X : (KF w.params).In h) : Looks (model PR w) h (isType (.ref 573)) true := Looks.of_peek X (by kernel_rfl)
theorem bn_slf (X : (KF w.params).In h) : Looks (model PR w) h (isSubtype (.ref 573) (.ref 573)) true := Looks.of_peek X (by kernel_rfl)
theorem bn_check (X : (KF w.params).In h) : Looks (model PR w) h (checkBuiltinCall "object.__new__" ⟨[.ref 573], []⟩) () := Looks.of_peek X (by kernel_rfl)
theorem bn_here (X : (KF w.params).In h) : Looks (model PR w) h (Bind.madeHere "object.__new__" (.ref 573)) () := Looks.of_peek X (by kernel_rfl)
theorem bn_cd (X : (KF w.params).In h) : Looks (model PR w) h (classData 573) ⟨n_BytesIO, [.ref 331], [.ref 573, .ref 331, .ref 316, .type "object"], 572, n_BytesIO, true, [], [], false, none, false⟩ := Looks.of_peek X (by kernel_rfl)
theorem bn_del (X : (KF w.params).In h) : Looks (model PR w) h (classHasDel 573) false := Looks.of_peek X (by kernel_rfl)
theorem bn_objnew {A : Around} {R : Result → Shared → Prop} {s : Shared} (X : (KF w.params).In s.heap) (hq : R (.ok (.ret (.ref (s.heap.objs.size + 1)))) { s with heap := (s.heap.push emptyDict).push (instObj 573 s.heap.objs.size) }) :
 codeAny (model PR w) A (.call (.builtin "object.__new__") ⟨[.ref 573], []⟩) R s := by
 have F := PySem.F.objNew
 refine codeAny_call_builtin_code (Code.quiet_builtin _ F.quiet) ?_
 refine (bn_check X).here ?_
 refine codeAny_builtin F.entry ?_
 unfold Builtin.«object.__new__»
 refine wpAny_bind ((bn_isType X).here ?_)
 refine wp_not rfl ?_
 refine wpAny_bind ((bn_here X).here ?_)
 refine wp_not rfl ?_
 refine wpAny_bind ((bn_cd X).here ?_)
 refine wp_not rfl ?_
 show wpAny _ _ ((alloc emptyDict >>= fun x => pure (some x)) >>= _) _ _ _
 refine wpAny_bind (wpAny_bind (wpAny_alloc (wpAny_pure (wpAny_bind ?_))))
 show wpAny _ _ (newObjAsIs _ _ _) _ _ _
 unfold newObjAsIs
 refine wpAny_bind (wpAny_alloc ?_)
 have X2 : (KF w.params).In ((s.heap.push emptyDict).push (instObj 573 s.heap.objs.size)) := X.keeps fun b o e => Heap.get?_push_of_some _ (Heap.get?_push_of_some _ e)
 dsimp only
 refine wpAny_bind ((bn_del X2).here ?_)
 refine wp_not rfl ?_
 refine wpAny_pure (wpAny_pure ?_)
 show R _ _
 rw [Heap.size_push]
 exact hq
end
theorem on_find (P : Params) : findCls (KF P) (.type "object") (.type "type") (Str.ofString "__new__") = some (.val (.builtin "object.__new__")) := by kernel_rfl
theorem on_ga (P : Params) : findIn (KF P) (.type "type") "__getattribute__" = some (some (.builtin "type.__getattribute__")) := by kernel_rfl
theorem on_sub (P : Params) : subIn (KF P) (.type "type") (.type "type") = some true := by kernel_rfl
theorem on_opq {w : World} {h : Heap} (X : (KF w.params).In h) : Looks (model PR w) h (opaqueClassAbove (.type "object")) none := Looks.of_peek X (by kernel_rfl)
theorem on_hook {w : World} {h : Heap} (X : (KF w.params).In h) : Looks (model PR w) h (hookBefore (.type "type")) none := Looks.of_peek X (by kernel_rfl)
theorem on_typ {w : World} {h : Heap} (X : (KF w.params).In h) : Looks (model PR w) h (typeOf (.type "object")) (.type "type") := Looks.of_peek X (by kernel_rfl)
theorem io_b0 : bindArgs (fnX nx120 nx121 (fp2 38 1) (fb2 38 1) (fs2 38 1) [] Value.none Value.none Value.none (Value.str n_io 732) none (Value.ref 312) Value.none) ⟨[Value.ref 573], []⟩ =
 (do let t ← newTuple []; let d ← alloc emptyDict; pure [("cls", .ref 573), ("args", t), ("kwargs", .ref d)]) := by kernel_rfl
theorem io_b1 (v : Value) : bindArgs (fnX nx120 nx121 (fp2 38 1) (fb2 38 1) (fs2 38 1) [] Value.none Value.none Value.none (Value.str n_io 732) none (Value.ref 312) Value.none) ⟨[Value.ref 573, v], []⟩ =
 (do let t ← newTuple [v]; let d ← alloc emptyDict; pure [("cls", .ref 573), ("args", t), ("kwargs", .ref d)]) := by kernel_rfl
section
variable {w : World} {M : Model} {A : Around} {g : Heap} {L : Addr} {m : Loc} {N : Led} {x dx : Addr} {o : Obj} {u : Tok} {b : List UInt8} {X : Value → Led → Prop}
theorem gm_onew {pl : Sem Bool} (B : Bs (KF w.params) g) : Ev (model PR w) A g L m N (getMethod (.type "object") "__new__" pl) (fun fx N' => fx = (.builtin "object.__new__", []) ∧ N' = N) := fun s Q E W q => by
 have XX := B.X.keeps W.fr.keep
 unfold getMethod specialOf
 refine wpAny_bind (wpAny_bind ((on_typ XX).here ((looks_findIn XX (on_ga _)).here ?_)))
 dsimp only
 rw [if_pos canon_tga]
 refine wpAny_bind (wpAny_mono (Q := fun v => Q (v, [])) (E := E) ?_ (fun _ _ z => wpAny_pure z) fun _ _ z => z)
 refine cls_open XX (on_opq XX) (on_typ XX) (on_ga _) (on_hook XX) (on_sub _) (on_find _) ?_
 refine wpAny_pure ?_
 show wpAny _ _ (handedOut (.builtin "object.__new__")) _ _ _
 exact handed_on rfl (q _ s.heap _ N ⟨rfl, rfl⟩ W)
theorem s_ionew {rest : List Value} (B : Bs (KF w.params) g) (r : Rm A 2) (hr : rest.length ≤ 1) : Gc (model PR w) A g L m N (.call (.ref 313) ⟨.ref 573 :: rest, []⟩) (fun v N' => ∃ x dx, v = .ref x ∧ N' = (x, instObj 573 dx) :: (dx, dictOf [] 0) :: N) X := by
 refine gc_weaken (gc_callS (C := []) (R := N) (rest := rest) (P := fun v C' => ∃ x dx y z, v = .ref x ∧ C' = [(x, instObj 573 dx), (dx, dictOf [] 0), y, z]) [("cls", .ref 573)] (va := "args") (ka := "kwargs") B r rfl (by kernel_rfl) (fun s M A Q E q => ?_) (fun u v => by rfl) ?_ (by decide)) ?_
 · rcases rest with _ | ⟨v, _ | ⟨z, zs⟩⟩
   · rw [show bindArgs _ ⟨.ref 573 :: [], []⟩ = _ from io_b0]
     refine wpAny_bind (wpAny_newTuple (wpAny_bind (wpAny_alloc (wpAny_pure ?_))) (by rw [sizeLine_eq]; decide))
     rw [Heap.size_push]
     exact q
   · rw [show bindArgs _ ⟨.ref 573 :: [v], []⟩ = _ from io_b1 v]
     refine wpAny_bind (wpAny_newTuple (wpAny_bind (wpAny_alloc (wpAny_pure ?_))) (by rw [sizeLine_eq]; simp))
     rw [Heap.size_push]
     exact q
   · simp at hr
 · intro h₀ L' A' T D hD r st sr B
   refine gs_if0 (tst_and (b := false) (c := true) (tst_cmp1 (ev_local rfl) (ev_global B (gl_BytesIO _)) fun x y h h' => co_isntSelf h h') fun h => nomatch h) ?_
   refine gs_return (P := fun v N' => ∃ x dx, v = .ref x ∧ N' = (x, instObj 573 dx) :: (dx, dictOf [] 0) :: [(D, emptyDict), (T, tupO rest)]) (Ev.gv (ev_MCall (PM := fun _ fx N' => fx = (.builtin "object.__new__", []) ∧ N' = [(D, emptyDict), (T, tupO rest)]) (ev_builtin B (no_object _) (by rfl)) ?_ ?_)) fun v N' h => ?_
   · refine i_b ?_
     exact gm_onew B
   · rintro ov f first N2 ⟨e, rfl⟩
     obtain ⟨rfl, rfl⟩ := Prod.mk.inj e
     refine ev_callWith (PA := fun vs N' => vs = [.ref 573] ∧ N' = [(D, emptyDict), (T, tupO rest)]) B kp_b (ar_cons (ev_local rfl) fun v N' e => ?_) fun vs N' e => ?_
     · obtain ⟨rfl, rfl⟩ := e; exact ar_nil ⟨rfl, rfl⟩
     · obtain ⟨rfl, rfl⟩ := e
       intro s Q E W q
       have XX := B.X.keeps W.fr.keep
       refine wpAny_call (bn_objnew XX ?_)
       have W1 := nodup_push (o := emptyDict) W (fun p hp => Heap.lt_size (W.nw p hp).1) (W.fr.push _) (W.nw.push W.fr _)
       have W2 := nodup_push (o := instObj 573 s.heap.objs.size) W1 (fun p hp => Heap.lt_size (W1.nw p hp).1) (W1.fr.push _) (W1.nw.push W1.fr _)
       rw [Heap.size_push] at W2
       exact q _ _ s.toks _ ⟨s.heap.objs.size + 1, s.heap.objs.size, rfl, rfl⟩ W2
   · obtain ⟨x, dx, rfl, rfl⟩ := h
     exact ⟨x, dx, _, _, rfl, rfl⟩
 · refine i_f ?_; rintro v C' ⟨x, dx, y, z, rfl, rfl⟩
   exact ⟨_, ((List.Sublist.refl N).cons _ |>.cons _).cons₂ _ |>.cons₂ _, x, dx, rfl, rfl⟩
end
section
variable {w : World} {M : Model} {A : Around} {prog : Program} {g : Heap} {L C : Addr} {m : Loc} {N : Led} {X : Value → Led → Prop} {XS : Value → Loc → Led → Prop} {K : Frag} {env : Env}
theorem gv_g0 {fe : Expr} {p : Pos} {f : Value} {P : Value → Led → Prop} (B : Bs K g) (hf : EvP M A g L m N (eval fe env) (IsV f)) (hk : Kp K f) (hc : Gv M A g L m N (call f []) P X)
 (he : eval (.Call fe [] [] p) env = (do callWith p (← eval fe env) [] (backTo p (starEach [] env)) (backToKw p (keywordEach [] env))) := by rfl) : Gv M A g L m N (eval (.Call fe [] [] p) env) P X :=
 gv_Call hf (gv_callWith (PA := fun vs N' => vs = [] ∧ N' = N) (PK := fun vs ks N' => vs = [] ∧ N' = N) B hk (gr_nil ⟨rfl, rfl⟩) (fun vs N' e => gk_nil e) fun vs ks N' e => by obtain ⟨rfl, rfl⟩ := e; exact hc) he
theorem gv_g1 {fe e1 : Expr} {p : Pos} {f : Value} {P1 : Value → Led → Prop} {P : Value → Led → Prop} (B : Bs K g) (hf : EvP M A g L m N (eval fe env) (IsV f)) (hk : Kp K f) (h1 : Gv M A g L m N (eval e1 env) P1 X) (hc : ∀ v N', P1 v N' → Gv M A g L m N' (call f [v]) P X)
 (he : eval (.Call fe [e1] [] p) env = (do callWith p (← eval fe env) [] (backTo p (starEach [e1] env)) (backToKw p (keywordEach [] env))) := by rfl)
 (he1 : starEach [e1] env = (false, eval e1 env) :: starEach [] env := by rfl) (hplain : (backTo p (starEach [e1] env)).any (·.1) = false := by rfl) : Gv M A g L m N (eval (.Call fe [e1] [] p) env) P X :=
 gv_Call hf (gv_callWith (PA := fun vs N' => ∃ v, vs = [v] ∧ P1 v N') (PK := fun vs ks N' => ∃ v, vs = [v] ∧ P1 v N') B hk (gr_cons h1 (fun v N' e => gr_nil ⟨v, rfl, e⟩) he1) (fun vs N' e => gk_nil e) (fun vs ks N' e => by obtain ⟨v, rfl, e⟩ := e; exact hc v N' e) (by rfl) hplain (by rfl)) he
theorem gs_setattrG {x dx : Addr} {es : List DictEntry} {n : Nat} {nm : Str} {e oe : Expr} {p1 p2 : Pos} {rest : List Stmt} {i : Nat} {P : Value → Led → Prop} {R : Flow → Loc → Led → Prop} (B : Bs K g) (hv : Gv (model prog w) A g L m N (eval e env) P (fun v N' => XS v m N')) (ho : ∀ N, EvP (model prog w) A g L m N (eval oe env) (IsV (.ref x)))
 (hx : ∀ v N', P v N' → Ob g N' x (instObj C dx) ∧ N'[i]? = some (dx, dictOf es n)) (hs : findIn K (.ref C) "__setattr__" = some (some (.builtin "object.__setattr__"))) (hp : plainOver K C = true) (ht : takerIn K C nm = some none) (hh : hasDictIn K C = true)
 (hl : (getL nm es).isSome = true) (hz : es.length < 1000)
 (k : ∀ v t N', P v N' → Gs (model prog w) A g L m (N'.set i (dx, dictOf (putL nm (PyData.keyHash w.params nm) (.str nm t) v es) (putN nm es n))) (execs rest env) R XS)
 (hsw : swapsWith e (some (.Attribute oe nm p1)) p2.line env = pure false := by rfl) (hw : swappedStores [.Attribute oe nm p1] e env = pure none := by rfl) : Gs (model prog w) A g L m N (execs (.Assign [.Attribute oe nm p1] e p2 :: rest) env) R XS :=
 gs_cons fun s Q E W q xx => by
  have e0 : exec (.Assign [.Attribute oe nm p1] e p2) env = (do
   standAt p2
   if ← swapsWith e (some (.Attribute oe nm p1)) p2.line env then do
    evalThenUse e env fun v => assignAll v ((assignEach [.Attribute oe nm p1] env).map (·.2))
    pure .next
   else do
    let v ← eval e env
    let sw ← swappedStores [.Attribute oe nm p1] e env
    assignStores env v sw ((assignEach [.Attribute oe nm p1] env).map (·.2))) := rfl
  rw [e0, hsw]
  refine g_bind (wg (wpAny_standAt (g_bind (g_pure ?_))))
  refine g_not rfl ?_
  refine g_bind (hv s _ E W (fun v h1' tk1 N1 ee1 W1 => ?_) fun v h' tk' N' p1 W' => xx v h' tk' m N' p1 W')
  rw [hw]
  refine g_bind (g_pure ?_)
  show wpG _ _ (do
   (do
    let ov ← holding [v] (eval oe env)
    standAt p1.atName
    holding [v, ov] (setAttr ov nm v)
    release [v, ov] [])
   pure Flow.next) _ _ _
  refine g_bind (g_bind (g_holding (wg (ho N1 _ _ E W1 fun ov h2' tk2 N2 ee2 W2 => ?_))))
  obtain ⟨rfl, rfl⟩ := ee2
  obtain ⟨hx, hN⟩ := hx v N2 ee1
  refine g_bind (wg (wpAny_standAt (g_bind (g_holding (wg (sa_own B hx hN hs hp ht hh hl hz { s with heap := h2', toks := tk2 } _ E W2 fun u h3 tk3 N3 e3 W3 => ?_))))))
  obtain ⟨t, rfl⟩ := e3
  refine g_mono (wg (ev_release (P := fun _ N' => N' = N2.set i (dx, dictOf (putL nm (PyData.keyHash w.params nm) (.str nm t) v es) (putN nm es n))) rfl { s with heap := h3, toks := tk3 } (fun _ s' => ∃ h7 tk7, s' = { s with heap := h7, toks := tk7 } ∧ Wf g L h7 m (N2.set i (dx, dictOf (putL nm (PyData.keyHash w.params nm) (.str nm t) v es) (putN nm es n)))) E W3 (fun _ h7 tk7 N7 e7 W7 => ⟨h7, tk7, rfl, e7 ▸ W7⟩))) (fun _ s' h' => ?_) fun _ _ x => x
  obtain ⟨h7, tk7, rfl, W7⟩ := h'
  exact g_pure (q .next h7 tk7 m _ (k v t N2 ee1) W7)
end
section
variable {w : World} {A : Around} {g : Heap} {L ba : Addr} {m : Loc} {N : Led} {x dx : Addr} {es : List DictEntry} {n pos : Nat} {t1 t2 u : Tok} {b : List UInt8} {X : Value → Led → Prop}
noncomputable def arg0 : Option (List UInt8) → List Value → Prop
 | none, vs => vs = []
 | some b, vs => ∃ v, vs = [v] ∧ IsB b v
noncomputable def StN (P : Params) (b : List UInt8) (pos : Nat) (x : Addr) (N N' : Led) : Prop := ∃ dx ba t1 t2 u, N' = (x, instObj 573 dx) :: (dx, dictOf (stE P t1 t2 u ba pos) 2) :: (ba, baO b) :: N
theorem s_bioinit {ob : Option (List UInt8)} {vs : List Value} (B : Bs (KF w.params) g) (r : Rm A 1) (hv : arg0 ob vs) (hz : (ob.getD []).length ≤ 1000) :
 Gc (model PR w) A g L m ((x, instObj 573 dx) :: (dx, dictOf [] 0) :: N) (.call (.ref 360) ⟨.ref x :: vs, []⟩) (fun v N' => v = .none ∧ ∃ ba t1 t2 u, N' = (ba, baO (ob.getD [])) :: (x, instObj 573 dx) :: (dx, dictOf (stE w.params t1 t2 u ba 0) 2) :: N) X := by
 have main : ∀ v0, (ob = none ∧ v0 = .none) ∨ (∃ b, ob = some b ∧ IsB b v0) → ∀ h₀ L' A', Rm A' 0 → Bs (KF w.params) h₀ →
  Gs (model PR w) A' h₀ L' [("initial_bytes", v0), ("self", .ref x)] [(x, instObj 573 dx), (dx, dictOf [] 0)] (execs (fb2 41 1) (envX nx122 (fs2 41 1) L' 360 (.ref 359) [])) (fun fl _ N' => flowV fl = .none ∧ ∃ ba t1 t2 u, N' = [(ba, baO (ob.getD [])), (x, instObj 573 dx), (dx, dictOf (stE w.params t1 t2 u ba 0) 2)]) nxs := by
  intro v0 h0 h₀ L' A' r B
  refine gs_if0 ?_ ?_
  · rcases h0 with ⟨_, rfl⟩ | ⟨b, _, t, rfl⟩
    · exact tst_and (b := false) (c := true) (tst_cmp1 (ev_local rfl) ev_none fun x y h h' => co_isnt h h' rfl) fun h => nomatch h
    · exact tst_and (b := true) (c := false) (tst_cmp1 (ev_local rfl) ev_none fun x y h h' => co_isnt h h' rfl) fun _ => tst_and (b := false) (c := true) (tst_cmp1 (ev_Call1 B (ev_builtin B (no_type _) (by rfl)) kp_t (ev_localB rfl) fun v h => call_typeB h) (ev_builtin B (no_bytes _) (by rfl)) fun x y h h' => co_isnt h h' rfl) fun h => nomatch h
  refine gs_setattrG (i := 2) (es := []) (n := 0) (dx := dx) (P := fun v N' => ∃ ba, v = .ref ba ∧ N' = (ba, baO (ob.getD [])) :: [(x, instObj 573 dx), (dx, dictOf [] 0)]) B ?_ (fun N => ev_local rfl) ?_ (cs_BytesIO _) (cp_BytesIO _) (ft_BytesIO_BytesIO__buf _) (ch_BytesIO _) rfl (by decide) ?_
  · rcases h0 with ⟨rfl, rfl⟩ | ⟨b, rfl, t, rfl⟩
    · refine gv_ifexp (P1 := fun c N' => c = true ∧ N' = [(x, instObj 573 dx), (dx, dictOf [] 0)]) (Ev.gv (tst_cmp1 (ev_local rfl) ev_none fun x y h h' => co_is h h' rfl)) fun c N' e => ?_
      obtain ⟨rfl, rfl⟩ := e
      exact gv_g0 B (ev_builtin B (no_bytearray _) (by rfl)) kp_t gv_ba0
    · refine gv_ifexp (P1 := fun c N' => c = false ∧ N' = [(x, instObj 573 dx), (dx, dictOf [] 0)]) (Ev.gv (tst_cmp1 (ev_local rfl) ev_none fun x y h h' => co_is h h' rfl)) fun c N' e => ?_
      obtain ⟨rfl, rfl⟩ := e
      exact gv_g1 B (ev_builtin B (no_bytearray _) (by rfl)) kp_t (ev_localB rfl).gv fun v N' e => by obtain ⟨e, rfl⟩ := e; exact gv_ba1 e (by rw [sizeLine_eq]; exact Nat.le_trans hz (by decide))
  · refine i_g fun ba => i_0 ?_
    exact ⟨.inl (.tail _ (.head _)), rfl⟩
  · rintro v t1 N' ⟨ba, rfl, rfl⟩
    refine gs_setattr (i := 2) B ev_int (ev_local rfl) (.inl (.tail _ (.head _))) rfl (cs_BytesIO _) (cp_BytesIO _) (ft_BytesIO_BytesIO__pos _) (ch_BytesIO _) rfl (by simp [putL]) fun v t2 e => ?_
    obtain ⟨u, rfl⟩ := e
    exact gs_nil ⟨rfl, ba, t1, t2, u, rfl⟩
 cases ob with
 | none =>
  obtain rfl : vs = [] := hv
  refine gc_mono (gc_call (C := [(x, instObj 573 dx), (dx, dictOf [] 0)]) (R := N) (P := fun v C' => v = .none ∧ ∃ ba t1 t2 u, C' = [(ba, baO []), (x, instObj 573 dx), (dx, dictOf (stE w.params t1 t2 u ba 0) 2)]) [("self", .ref x), ("initial_bytes", .none)] B r rfl (by kernel_rfl) (fun s X => binds_K X rfl rfl rfl rfl rfl) (by rfl) (fun h₀ L' A' r st sr B => main .none (.inl ⟨rfl, rfl⟩) h₀ L' A' r B) (by decide)) ?_
  refine i_f (i_h (i_4 fun ba t1 t2 u => ?_))
  exact ⟨rfl, ba, t1, t2, u, rfl⟩
 | some b =>
  obtain ⟨v0, rfl, hb⟩ := hv
  refine gc_mono (gc_call (C := [(x, instObj 573 dx), (dx, dictOf [] 0)]) (R := N) (P := fun v C' => v = .none ∧ ∃ ba t1 t2 u, C' = [(ba, baO b), (x, instObj 573 dx), (dx, dictOf (stE w.params t1 t2 u ba 0) 2)]) [("self", .ref x), ("initial_bytes", v0)] B r rfl (by kernel_rfl) (fun s X => binds_K X rfl rfl rfl rfl rfl) (by rfl) (fun h₀ L' A' r st sr B => main v0 (.inr ⟨b, rfl, hb⟩) h₀ L' A' r B) (by decide)) ?_
  refine i_f (i_h (i_4 fun ba t1 t2 u => ?_))
  exact ⟨rfl, ba, t1, t2, u, rfl⟩
end
theorem Wf.perm {g h : Heap} {L : Addr} {m : Loc} {N N₁ : Led} (W : Wf g L h m N) (p : N.Perm N₁) : Wf g L h m N₁ := ⟨W.fr, fun x hx => W.nw x (p.mem_iff.mpr hx), (p.map _).nodup_iff.mp W.nd⟩
section
variable {w : World} {A : Around} {g : Heap} {L ba : Addr} {m : Loc} {N : Led} {x dx : Addr} {t1 t2 u : Tok} {b : List UInt8} {X : Value → Led → Prop}
theorem s_bionew {ob : Option (List UInt8)} {vs : List Value} (B : Bs (KF w.params) g) (r : Rm A 3) (hv : arg0 ob vs) (hz : (ob.getD []).length ≤ 1000) :
 Gc (model PR w) A g L m N (.call (.ref 573) ⟨vs, []⟩) (fun v N' => ∃ x, v = .ref x ∧ StN w.params (ob.getD []) 0 x N N') X := fun s S W q xx => by
 have XX := B.X.keeps W.fr.keep
 have hlen : vs.length ≤ 1 := by
  cases ob with
  | none => rw [show vs = [] from hv]; decide
  | some b => obtain ⟨v, rfl, _⟩ := hv; simp
 have r' : Rm (A.under (.builtin "type.__call__" ⟨.ref 573 :: vs, []⟩)) 2 := r.made
 refine cg_typeCall (fI := 360) (Q₁ := fun obj s₁ => ∃ x dx h tk, obj = .ref x ∧ s₁ = { s with heap := h, toks := tk } ∧ Wf g L h m ((x, instObj 573 dx) :: (dx, dictOf [] 0) :: N)) (XX _ _ (bn_look _)) rfl (looks_specialIn XX (bn_call _)) (looks_instIn XX (bn_inst _)) ?_ ?_
 · refine (wg ((bn_made XX).here ?_))
   refine (wg (cls_sm W.fr B.X (bn_type _) (bn_reads _) (bn_new _) (bn_sm _) rfl ?_))
   exact gv_of_gc (s_ionew (X := nx) (rest := vs) B r' hlen) { s with toks := s.toks + 1 } _ _ W (fun v h' tk' N' e W' => by
    obtain ⟨x, dx, rfl, rfl⟩ := e
    exact ⟨x, dx, h', tk', rfl, rfl, W'⟩) fun _ _ _ _ h _ => h.elim
 · rintro obj s₁ ⟨x, dx, h, tk, rfl, rfl, W1⟩
   have X1 := B.X.keeps W1.fr.keep
   have t1 : Looks (model PR w) h (typeOf (.ref x)) (.ref 573) := (Looks.ld (W1.nw _ (.head _)).1).andThen .now
   refine ⟨x, rfl, t1, looks_mroIn X1 (bn_self _), looks_findIn X1 (bn_init _), bind_fn X1 (.ref x) (beq_iff_eq.mp (bn_fn _)), ?_⟩
   refine s_bioinit (X := nx) B r'.le hv hz _ _ W1 (fun v h2 tk2 N2 e W2 => ?_) fun _ _ _ _ h _ => h.elim
   obtain ⟨rfl, ba, t1, t2, u, rfl⟩ := e
   refine ⟨rfl, q _ h2 tk2 _ ⟨x, rfl, dx, ba, t1, t2, u, rfl⟩ (W2.perm ?_)⟩
   exact (List.Perm.swap _ _ _).trans ((List.Perm.swap _ _ _).cons _)
end
namespace SC'
theorem d_iter : typeLookup (.type "dict") "__iter__" = pure (some (.builtin "dict.__iter__")) := by rw [typeLookup_type, builtinLookup_eq_fast]; kernel_rfl
theorem d_sub : isSubtype (.type "dict") (.type "dict") = pure true := by rw [isSubtype_type]; kernel_rfl
theorem t_iter : typeLookup (.type "tuple") "__iter__" = pure (some (.builtin "tuple.__iter__")) := by rw [typeLookup_type, builtinLookup_eq_fast]; kernel_rfl
end SC'
section
variable {w : World} {M : Model} {A : Around} {prog : Program} {E : Value → Shared → Prop} {s : Shared} {g : Heap} {L a : Addr} {m : Loc} {N : Led}
theorem merge_empty {d D : Addr} {Q : Unit → Shared → Prop} (hd : s.heap.get? d = some emptyDict) (hD : s.heap.get? D = some emptyDict) (hne : D ≠ sysModules) (h : Q () s) : wpAny M A (mergeMapping d (.ref D) true) Q E s := by
 have hT : s.TypeIs (.ref D) "dict" := ⟨_, hD, rfl⟩
 unfold mergeMapping
 refine wpAny_bind (wpAny_isInstance hT SC'.d_sub ?_)
 refine wp_so rfl ?_
 refine wpAny_bind (wpAny_specialOf hT SC'.d_iter ?_)
 refine wpAny_bind (wpAny_pure ?_)
 rw [show (some (Value.builtin "dict.__iter__") == some (Value.builtin "dict.__iter__")) = true from beq_self_eq_true _]
 refine wp_not (beq_false_of_ne hne) ?_
 refine wpAny_bind (wpAny_dictEntries hd rfl ?_)
 refine wp_so rfl ?_
 refine wpAny_bind (wpAny_dictEntries hD rfl ?_)
 refine wpAny_bind (wpAny_pure ?_)
 refine wpAny_bind (wpAny_dictEntries hD rfl ?_)
 refine wpAny_bind (wpAny_dictEpoch hD rfl ?_)
 refine wpAny_bind (wpAny_pure ?_)
 exact wpAny_pure h
theorem merged_empty {f : Value} {D : Addr} {x : Sem Value} {P : Heap → Nat → Prop} {Q : Addr → Shared → Prop} (hx : ∀ Q' : Value → Shared → Prop, (∀ h' tk', P h' tk' → Q' (.ref D) { s with heap := h', toks := tk' }) → wpAny M A x Q' E { s with heap := s.heap.push emptyDict })
 (hP : ∀ h' tk', P h' tk' → h'.get? s.heap.objs.size = some emptyDict ∧ h'.get? D = some emptyDict) (hne : D ≠ sysModules) (h : ∀ h' tk', P h' tk' → Q s.heap.objs.size { s with heap := h', toks := tk' }) : wpAny M A (mergedKeywords f [(none, x)]) Q E s := by
 unfold mergedKeywords
 refine wpAny_bind (wpAny_alloc ?_)
 refine wpAny_bind (wpAny_holding ?_)
 refine wpAny_bind ?_
 rw [List.forIn_cons]
 refine wpAny_bind (wpAny_bind (wpAny_pure ?_))
 refine wpAny_bind (hx _ fun h' tk' hp => ?_)
 refine wpAny_bind (wpAny_onRaise (wpAny_holding (wpAny_tryCatch (wpAny_onRaise (merge_empty (hP _ _ hp).1 (hP _ _ hp).2 hne ?_)))))
 refine wpAny_pure ?_
 dsimp only
 rw [List.forIn_nil]
 refine wpAny_pure ?_
 exact wpAny_pure (wpAny_pure (h _ _ hp))
theorem kwin_empty {f : Value} {d : Addr} {Q : List (Str × Value) → Shared → Prop} (hd : s.heap.get? d = some emptyDict) (h : Q [] s) : wpAny M A (keywordsIn f d) Q E s := by
 unfold keywordsIn
 refine wpAny_bind (wpAny_dictEntries hd rfl ?_)
 exact wpAny_bind (wpAny_pure (wpAny_pure h))
theorem not_iter_tup {T : Addr} {vs : List Value} {Q : Bool → Shared → Prop} (hT : s.heap.get? T = some (tupO vs)) (h : Q false s) : wpAny M A (notIterableAtAll (.ref T)) Q E s := by
 have hT' : s.TypeIs (.ref T) "tuple" := ⟨_, hT, rfl⟩
 unfold notIterableAtAll
 refine wpAny_bind (wpAny_specialOf hT' SC'.t_iter ?_)
 exact wpAny_pure h
theorem ev_starArgs {f v1 : Value} {x1 xt xk : Sem Value} {T D : Addr} {vs : List Value} (h1 : EvP (model prog w) A g L m N x1 (IsV v1)) (ht : ∀ N, EvP (model prog w) A g L m N xt (IsV (.ref T))) (hk : ∀ N, EvP (model prog w) A g L m N xk (IsV (.ref D)))
 (hT : Ob g N T (tupO vs)) (hD : Ob g N D emptyDict) (hne : D ≠ sysModules) (hvs : vs.length ≤ 1000) : EvP (model prog w) A g L m N (evalArgs f true [(false, x1), (true, xt)] [(none, xk)]) (fun a => a = ⟨v1 :: vs, []⟩) := by
 intro s Q E W q
 unfold evalArgs
 refine wpAny_bind (m := spliced [(false, x1), (true, xt)]) ?_
 refine wpAny_bind (h1 s _ E W fun v h' tk' N1 e W1 => ?_)
 obtain ⟨rfl, rfl⟩ := e
 refine wpAny_bind (wpAny_pure ?_)
 refine wpAny_bind (wpAny_holding ?_)
 refine wpAny_bind (ht N1 _ _ E W1 fun v2 h2 tk2 N2 e W2 => ?_)
 obtain ⟨rfl, rfl⟩ := e
 have hTa := hT.at W2
 refine wp_so (c := true) rfl ?_
 refine wpAny_bind (not_iter_tup hTa ?_)
 refine wp_not rfl ?_
 refine wpAny_bind (wpAny_collect_seq T (.inr rfl) hTa rfl rfl (fun h3 hk3 => ?_) (by rw [sizeLine_eq]; simp; omega))
 have W3 : Wf g L h3 m N2 := ⟨W2.fr.keptAll hk3, W2.nw.grown hk3, W2.nd⟩
 refine wpAny_bind (wpAny_holding (wpAny_pure (wpAny_pure (wpAny_pure ?_))))
 refine wpAny_bind (wpAny_pure ?_)
 dsimp only
 refine wpAny_holding ?_
 refine wp_not rfl ?_
 have W4 := nodup_push (o := emptyDict) W3 (fun p hp => Heap.lt_size (W3.nw p hp).1) (W3.fr.push _) (W3.nw.push W3.fr _)
 refine wpAny_bind (merged_empty (s := { s with heap := h3, toks := tk2 }) (D := D) (P := fun h' tk' => Wf g L h' m ((h3.objs.size, emptyDict) :: N2)) (fun Q' k => (hk _ _ _ E W4 fun v5 h5 tk5 N5 e W5 => by obtain ⟨rfl, rfl⟩ := e; exact k _ _ W5)) (fun h5 tk5 W5 => ⟨(W5.nw _ (.head _)).1, (hD.mono (fun _ _ e => e) fun p hp => .inl (List.mem_cons_of_mem _ hp)).at W5⟩) hne fun h5 tk5 W5 => ?_)
 refine wpAny_bind (wpAny_pure ?_)
 refine wpAny_bind (wpAny_holding (kwin_empty (W5.nw _ (.head _)).1 ?_))
 refine wpAny_pure (q _ h5 tk5 N2 ⟨?_, rfl⟩ (W5.sub (List.sublist_cons_self _ _)))
 simp
end
section
variable {M : Model} {A : Around} {E : Value → Shared → Prop} {s : Shared} {g : Heap} {L : Addr} {m : Loc} {N : Led} {X : Value → Led → Prop}
theorem gv_callWithS {p : Pos} {f : Value} {first : List Value} {args : List (Bool × Sem Value)} {kws : List (Option Str × Sem Value)} {PA : Args → Led → Prop} {P : Value → Led → Prop} (hk : ∀ (M : Model) x N' (s : Shared), PA x N' → Wf g L s.heap m N' → ∃ k, (k = Keeper.frame ∨ k = Keeper.machine ∨ k = Keeper.boundFrame) ∧ Looks M s.heap (keeperOf f) k) (ha : Gv M A g L m N (evalArgs f true args kws) PA X)
 (hc : ∀ x N', PA x N' → Gv M A g L m N' (call f (first ++ x.pos) x.kw) P X) (hstar : (args.any (·.1) || kws.any (·.1.isNone)) = true) : Gv M A g L m N (callWith p f first args kws) P X := by
 unfold callWith
 refine gv_bind (gv_holding ha) fun x N' e1 => gv_at ?_
 simp only [hstar]
 intro s Q E W q xx
 obtain ⟨k, hk', Lk⟩ := hk M x N' s e1 W
 refine g_bind (wg (Lk.here ?_))
 have fin : ∀ {t : Sem Value}, Gv M A g L m N' t P X → wpG M A (t >>= fun r => holding [r] point >>= fun _ => pure r) Q E s := fun ht =>
  gv_bind ht (fun v N2 e2 => gv_bind (P := fun _ N3 => N3 = N2) (gv_holding (ev_point rfl).gv) fun _ _ e => e ▸ gv_pure e2) s Q E W q xx
 have marked (mk : Value) : Gv M A g L m N' (callMarked mk f (first ++ x.pos) x.kw) P X := by
  unfold callMarked
  intro s Q E W q xx Γ p i c
  rw [Sem.wp_keep]
  exact hc x N' e1 s Q E W q xx Γ p i c
 have plain := hc x N' e1
 rcases hk' with rfl | rfl | rfl <;> dsimp only <;> first | exact fin (marked _) | exact fin (gv_operate plain) | exact fin plain
end
section
variable {w : World} {A : Around} {prog : Program} {g : Heap} {L q : Addr} {m : Loc} {N : Led} {X : Value → Led → Prop}
theorem gc_method {f : Addr} {self : Value} {pos : List Value} {kw : List (Str × Value)} {P : Value → Led → Prop} (hq : Ob g N q (methodObj (.ref f) self)) (h : Gc (model prog w) A g L m N (.call (.ref f) ⟨self :: pos, kw⟩) P X) : Gc (model prog w) A g L m N (.call (.ref q) ⟨pos, kw⟩) P X := fun s S W k x => by
 have ho := hq.at W
 refine cg_of_tree ?_
 show wpG _ _ (callAny (.ref q) _) _ _ _
 unfold callAny
 refine g_bind (wg (wpAny_load ho ?_))
 exact g_pure (And.intro rfl (And.intro rfl (h s S W k x)))
variable {C x dx f : Addr} {es : List DictEntry} {n : Nat} {nm : Str} {K : Frag} {env : Env}
theorem ga_bound {b : Bool} (B : Bs K g) (hx : Ob g N x (instObj C dx)) (hd : Ob g N dx (dictOf es n)) (hg : plainGet K C nm = true) (hh : hasDictIn K C = true) (ha : findIn K (.ref C) nm = some (some (.ref f))) (hf : isFn K (.ref f) = true)
 (hgf : specialIn K (.ref f) "__get__" = some (some (.builtin "function.__get__"))) (ht : takesIn K (.ref f) = some false) (hc : copiedNames.contains nm = false) (hl : getL nm es = some none) :
 Ev (model prog w) A g L m N (getAttr (.ref x) nm b) (fun v N' => ∃ q, v = .ref q ∧ N' = (q, methodObj (.ref f) (.ref x)) :: N) := fun s Q E W q =>
 kbm_bound W.fr B.X W.nw (hx.inst hd W) hg hh ha hf hgf ht hc hl fun y h' F' n' l => q _ h' _ _ ⟨y, rfl, rfl⟩ (nodup_push W l F' n')
theorem gv_MCallS {o : Expr} {name : Str} {apos p : Pos} {args : List Expr} {kws : List Keyword} {Po : Value → Led → Prop} {PM : Value → Value → Led → Prop} {P : Value → Led → Prop} (ho : Gv (model prog w) A g L m N (eval o env) Po X)
 (hm : ∀ ov N1, Po ov N1 → Gv (model prog w) A g L m N1 (getAttr ov name true) (PM ov) X)
 (hc : ∀ ov f N2, PM ov f N2 → Gv (model prog w) A g L m N2 (callWith p f [] (backTo p (starEach args env)) (backToKw p (keywordEach kws env))) P X)
 (he : eval (.Call (.Attribute o name apos) args kws p) env = (do
  let ov ← eval o env
  standAt apos.atName
  let (f, first) ← holding [ov] (do pure (← getAttr ov name true, []) : Sem (Value × List Value))
  callWith p f first (backTo p (starEach args env)) (backToKw p (keywordEach kws env))) := by rfl) : Gv (model prog w) A g L m N (eval (.Call (.Attribute o name apos) args kws p) env) P X := by
 rw [he]
 refine gv_bind ho fun ov N1 p1 => gv_at (gv_bind (P := fun fx N2 => fx.2 = [] ∧ PM ov fx.1 N2) (gv_holding (gv_bind (hm ov N1 p1) fun f N2 p2 => gv_pure ⟨rfl, p2⟩)) fun fx N2 p2 => ?_)
 obtain ⟨f, first⟩ := fx
 obtain ⟨rfl, p2⟩ := p2
 exact hc ov f N2 p2
end
noncomputable def stL (P : Params) (st sdx ba : Addr) (t1 t2 u : Tok) (b : List UInt8) (pos : Nat) : Led := [(st, instObj 573 sdx), (sdx, dictOf (stE P t1 t2 u ba pos) 2), (ba, baO b)]
structure Up (g : Heap) (N : Led) (h : Heap) : Prop where
 st : ∀ b o, g.get? b = some o → h.get? b = some o
 sr : ∀ p ∈ N, h.get? p.1 = some p.2
theorem Ob.up {g h : Heap} {N : Led} {a : Addr} {o : Obj} (O : Ob g N a o) (U : Up g N h) (N' : Led) : Ob h N' a o := .inr (O.elim (U.sr _) (U.st _ _))
theorem Up.trans {g h k : Heap} {N : Led} (U : Up g N h) (st : ∀ b o, h.get? b = some o → k.get? b = some o) : Up g N k := ⟨fun b o e => st _ _ (U.st b o e), fun p hp => st _ _ (U.sr p hp)⟩
noncomputable def WritesTo (w : World) (fW x : Addr) (rest : List Value) (b : List UInt8) (d : Nat) (g₀ : Heap) (N₀ : Led) : Prop :=
 ∀ (A : Around) (g : Heap) (L : Addr) (m : Loc) (N : Led) (st sdx ba : Addr) (t1 t2 u : Tok), Bs (KF w.params) g → Rm A d → Up g₀ N₀ g →
  Gc (model PR w) A g L m (stL w.params st sdx ba t1 t2 u [] 0 ++ N) (.call (.ref fW) ⟨.ref x :: .ref st :: rest, []⟩) (fun v N' => ∃ t3 u', N' = stL w.params st sdx ba t1 t3 u' b b.length ++ N) nx
section
variable {w : World} {M : Model} {A : Around} {g : Heap} {L a ba : Addr} {m : Loc} {N : Led} {x dx C fW : Addr} {es : List DictEntry} {n d : Nat} {t1 t2 u : Tok} {b : List UInt8} {X : Value → Led → Prop}
theorem bs_serial0 (P : Params) (x : Addr) : bindArgs (fnX n_serialize nx161 (fp2 44 3) (fb2 44 3) (fs2 44 3) [] Value.none Value.none Value.none (Value.str nx118 1389) none (Value.ref 862) Value.none) ⟨[Value.ref x], []⟩ =
 (do let t ← newTuple []; let d ← alloc emptyDict; pure [("self", .ref x), ("args", t), ("kwargs", .ref d)]) := by kernel_rfl
theorem bs_serial1 (P : Params) (x : Addr) (v : Value) : bindArgs (fnX n_serialize nx161 (fp2 44 3) (fb2 44 3) (fs2 44 3) [] Value.none Value.none Value.none (Value.str nx118 1389) none (Value.ref 862) Value.none) ⟨[Value.ref x, v], []⟩ =
 (do let t ← newTuple [v]; let d ← alloc emptyDict; pure [("self", .ref x), ("args", t), ("kwargs", .ref d)]) := by kernel_rfl
theorem s_serialize {rest : List Value} (B : Bs (KF w.params) g) (r : Rm A (d + 4)) (hr : rest.length ≤ 1) (hx : Ob g N x (instObj C dx)) (hd : Ob g N dx (dictOf es n)) (hg : plainGet (KF w.params) C "write_to" = true) (hf : findIn (KF w.params) (.ref C) "write_to" = some (some (.ref fW))) (ht : isFn (KF w.params) (.ref fW) = true) (hl : getL "write_to" es = some none) (hh : hasDictIn (KF w.params) C = true) (hgf : specialIn (KF w.params) (.ref fW) "__get__" = some (some (.builtin "function.__get__"))) (htk : takesIn (KF w.params) (.ref fW) = some false) (hfn : fnIn (KF w.params) fW = true)
 (hz : b.length ≤ 1000) (hW : WritesTo w fW x rest b (d + 3) g N) : GcP (model PR w) A g L m N (.call (.ref 863) ⟨.ref x :: rest, []⟩) (IsB b) X := by
 refine gc_weaken (gc_callS (d := d + 3) (C := []) (R := N) (rest := rest) (P := fun v C' => IsB b v) [("self", .ref x)] (va := "args") (ka := "kwargs") B r rfl (by kernel_rfl) (fun s M A Q E q => ?_) (fun u v => by rfl) ?_ (by decide)) fun v N' ⟨C', p, e⟩ => ⟨N, e ▸ List.sublist_append_right _ _, p, rfl⟩
 · rcases rest with _ | ⟨v, _ | ⟨z, zs⟩⟩
   · rw [show bindArgs _ ⟨.ref x :: [], []⟩ = _ from bs_serial0 w.params x]
     refine wpAny_bind (wpAny_newTuple (wpAny_bind (wpAny_alloc (wpAny_pure ?_))) (by rw [sizeLine_eq]; decide))
     rw [Heap.size_push]
     exact q
   · rw [show bindArgs _ ⟨.ref x :: [v], []⟩ = _ from bs_serial1 w.params x v]
     refine wpAny_bind (wpAny_newTuple (wpAny_bind (wpAny_alloc (wpAny_pure ?_))) (by rw [sizeLine_eq]; simp))
     rw [Heap.size_push]
     exact q
   · simp at hr
 · intro h₀ L' A' T D hD r st sr B
   have hx := hx.mono (N' := []) st fun p hp => .inr (sr p hp)
   have hd := hd.mono (N' := []) st fun p hp => .inr (sr p hp)
   refine gs_assign (P := fun v N' => ∃ y sdx ba t1 t2 u, v = .ref y ∧ N' = stL w.params y sdx ba t1 t2 u [] 0 ++ [(D, emptyDict), (T, tupO rest)]) (gv_mono (gv_g0 B (ev_global B (gl_BytesIO _)) (kp_BytesIO _) (gv_of_gc (s_bionew (ob := none) B r.le rfl (by simp)))) fun v N' e => ?_) ?_
   · obtain ⟨y, rfl, sdx, ba, t1, t2, u, rfl⟩ := e
     exact ⟨y, sdx, ba, t1, t2, u, rfl, rfl⟩
   rintro v N' ⟨y, sdx, ba, t1, t2, u, rfl, rfl⟩
   have hx2 : Ob h₀ (stL w.params y sdx ba t1 t2 u [] 0 ++ [(D, emptyDict), (T, tupO rest)]) x (instObj C dx) := hx.mono (fun _ _ e => e) fun _ h => nomatch h
   have hd2 : Ob h₀ (stL w.params y sdx ba t1 t2 u [] 0 ++ [(D, emptyDict), (T, tupO rest)]) dx (dictOf es n) := hd.mono (fun _ _ e => e) fun _ h => nomatch h
   have hDm : Ob h₀ (stL w.params y sdx ba t1 t2 u [] 0 ++ [(D, emptyDict), (T, tupO rest)]) D emptyDict := .inl (List.mem_append_right _ (.head _))
   have hTm : Ob h₀ (stL w.params y sdx ba t1 t2 u [] 0 ++ [(D, emptyDict), (T, tupO rest)]) T (tupO rest) := .inl (List.mem_append_right _ (.tail _ (.head _)))
   refine gs_expr (P := fun v N' => ∃ t3 u', N' = stL w.params y sdx ba t1 t3 u' b b.length ++ [(D, emptyDict), (T, tupO rest)]) (gv_MCallS (PM := fun _ f N' => ∃ q, f = .ref q ∧ N' = (q, methodObj (.ref fW) (.ref x)) :: (stL w.params y sdx ba t1 t2 u [] 0 ++ [(D, emptyDict), (T, tupO rest)])) (ev_local rfl).gv ?_ ?_) ?_
   · refine i_b ?_
     exact (ga_bound B hx2 hd2 hg hh hf ht hgf htk (by decide +kernel) hl).gv
   · rintro ov f N2 ⟨q, rfl, rfl⟩
     refine gv_callWithS (PA := fun a N' => a = ⟨.ref y :: rest, []⟩ ∧ N' = (q, methodObj (.ref fW) (.ref x)) :: (stL w.params y sdx ba t1 t2 u [] 0 ++ [(D, emptyDict), (T, tupO rest)])) (fun M x' N' s e W => keeps_M hfn s.heap (by obtain ⟨-, rfl⟩ := e; exact ⟨(W.nw _ (.head _)).1, B.X.keeps W.fr.keep⟩)) (Ev.gv (ev_starArgs (v1 := .ref y) (T := T) (D := D) (vs := rest) (ev_local rfl) (fun N => ev_bind (ev_local rfl) fun v N' e => ev_at (ev_pure e)) (fun N => ev_bind (ev_local rfl) fun v N' e => ev_at (ev_pure e)) (hTm.mono (fun _ _ e => e) fun p hp => .inl (List.mem_cons_of_mem _ hp)) (hDm.mono (fun _ _ e => e) fun p hp => .inl (List.mem_cons_of_mem _ hp)) hD (by omega))) ?_ (by rfl)
     refine i_b ?_
     refine gv_of_gc (gc_method (.inl (.head _)) ?_)
     have pm : ((q, methodObj (.ref fW) (.ref x)) :: (stL w.params y sdx ba t1 t2 u [] 0 ++ [(D, emptyDict), (T, tupO rest)])).Perm (stL w.params y sdx ba t1 t2 u [] 0 ++ ((q, methodObj (.ref fW) (.ref x)) :: [(D, emptyDict), (T, tupO rest)])) := List.perm_middle.symm
     intro s S W k xx
     refine hW A' h₀ L' _ ((q, methodObj (.ref fW) (.ref x)) :: [(D, emptyDict), (T, tupO rest)]) y sdx ba t1 t2 u B r ⟨st, sr⟩ s S (W.perm pm) (fun v h' tk' N' e W' => ?_) fun _ _ _ _ h _ => h.elim
     obtain ⟨t3, u', rfl⟩ := e
     exact k v h' tk' _ ⟨t3, u', rfl⟩ (W'.sub ((List.Sublist.refl _).append (List.sublist_cons_self _ _)))
   · rintro v N' ⟨t3, u', rfl⟩
     refine gs_return (P := fun v N' => IsB b v ∧ N' = stL w.params y sdx ba t1 t3 u' b b.length ++ [(D, emptyDict), (T, tupO rest)]) (Ev.gv (ev_m0 B (ev_local rfl) fun ov N1 e => ?_)) fun v N' h => h.1
     obtain ⟨rfl, rfl⟩ := e
     exact ⟨y, 573, sdx, 459, _, _, rfl, .inl (.head _), .inl (.tail _ (.head _)), cg_BytesIO _ _, fm_BytesIO_getvalue _, fn_459 _, rfl, kp_459 _, s_getvalue B r.le (.inl (.head _)) (.inl (.tail _ (.head _))) (.inl (.tail _ (.tail _ (.head _)))) (by omega)⟩
end
noncomputable def pkE (P : Params) (t1 t2 t3 u : Tok) (s : List UInt8) : List DictEntry := [en P "compressed" t1 (.bool true), en P "_secret" t2 (.bytes s.toArray u), en P "network" t3 (.ref 256)]
section
variable {w : World} {A : Around} {g : Heap} {L ba : Addr} {m : Loc} {N N₀ : Led} {env : Env} {x dx C fW st sdx : Addr} {es : List DictEntry} {n d : Nat} {t1 t2 t3 u : Tok} {b cur s : List UInt8} {X : Value → Led → Prop}
theorem gv_write {e oe : Expr} {apos p : Pos} {pl : Sem Bool} {b1 b2 b3 : Tok} (B : Bs (KF w.params) g) (r : Rm A 2) (hs : EvP (model PR w) A g L m (stL w.params st sdx ba b1 b2 b3 cur cur.length ++ N) (eval oe env) (IsV (.ref st)))
 (he1 : EvP (model PR w) A g L m (stL w.params st sdx ba b1 b2 b3 cur cur.length ++ N) (eval e env) (IsB b)) (hb : b ≠ []) (hz : cur.length + b.length ≤ 16777216)
 (he : eval (.Call (.Attribute oe "write" apos) [e] [] p) env = (do
  let ov ← eval oe env
  standAt apos.atName
  let (f, first) ← holding [ov] (getMethod ov "write" pl)
  callWith p f first (backTo p (starEach [e] env)) (backToKw p (keywordEach [] env))) := by rfl) (he2 : starEach [e] env = (false, eval e env) :: starEach [] env := by rfl) (hplain : (backTo p (starEach [e] env)).any (·.1) = false := by rfl) :
 Gv (model PR w) A g L m (stL w.params st sdx ba b1 b2 b3 cur cur.length ++ N) (eval (.Call (.Attribute oe "write" apos) [e] [] p) env) (fun v N' => IsI (b.length : Int) v ∧ ∃ c2 c3, N' = stL w.params st sdx ba b1 c2 c3 (cur ++ b) (cur ++ b).length ++ N) X := by
 refine gv_MCall (PM := fun _ fx N' => fx = (.ref 556, [.ref st]) ∧ N' = stL w.params st sdx ba b1 b2 b3 cur cur.length ++ N) hs.gv ?_ ?_ he
 · refine i_b ?_
   exact (gm_inst B (.inl (.head _)) (.inl (.tail _ (.head _))) (cg_BytesIO _ _) (fm_BytesIO_write _) (by kernel_rfl) rfl).gv
 · rintro ov f first N2 ⟨e0, rfl⟩
   obtain ⟨rfl, rfl⟩ := Prod.mk.inj e0
   refine gv_callWith (PA := fun vs N' => (∃ v, vs = [v] ∧ IsB b v) ∧ N' = stL w.params st sdx ba b1 b2 b3 cur cur.length ++ N) (PK := fun vs ks N' => (∃ v, vs = [v] ∧ IsB b v ∧ ks = []) ∧ N' = stL w.params st sdx ba b1 b2 b3 cur cur.length ++ N) B (kp_556 _) (gr_cons he1.gv (fun v N' e => ?_) he2) (fun vs N' e => ?_) (fun vs ks N' e => ?_) (by rfl) hplain (by rfl)
   · obtain ⟨e, rfl⟩ := e; exact gr_nil ⟨⟨v, rfl, e⟩, rfl⟩
   · obtain ⟨⟨v, rfl, e⟩, rfl⟩ := e; exact gk_nil ⟨⟨v, rfl, e, rfl⟩, rfl⟩
   · obtain ⟨⟨v, rfl, e, rfl⟩, rfl⟩ := e
     exact gv_of_gc (gc_mono (s_bwrite (R := N) B r e hb hz) fun v N' e => ⟨e.1, e.2.elim fun t3 e => e.elim fun u' e => ⟨t3, u', e⟩⟩)
theorem pk_writes {g₀ : Heap} {es : List DictEntry} {n : Nat} {k : Nat} (hes : es = pkE w.params t1 t2 t3 u s) (hx : Ob g₀ N₀ x (instObj 1284 dx)) (hd : Ob g₀ N₀ dx (dictOf es n)) (hs : s ≠ []) (hl : s.length ≤ 1000) : WritesTo w 1263 x [] s (k + 3) g₀ N₀ := by
 intro A g L m N st sdx ba b1 b2 b3 B r U
 subst hes
 refine gc_mono (gc_call (C := stL w.params st sdx ba b1 b2 b3 [] 0) (R := N) (P := fun v C' => ∃ c2 c3, C' = stL w.params st sdx ba b1 c2 c3 s s.length) [("self", .ref x), ("stream", .ref st)] B r rfl (by kernel_rfl) (fun s X => BindsTo.of_eq rfl) (by rfl) ?_ (by decide)) ?_
 · intro h₀ L' A' r st' sr B
   have hx' : ∀ N1, Ob h₀ N1 x (instObj 1284 dx) := hx.up (U.trans st')
   have hd' : ∀ N1, Ob h₀ N1 dx (dictOf (pkE w.params t1 t2 t3 u s) n) := hd.up (U.trans st')
   refine gs_return (gv_write (N := []) (cur := []) (b := s) B r.le (ev_local rfl) (is_B (ev_own B (ev_local rfl) (hx' _) (hd' _) (cg_PrivateKey _ _) (ch_PrivateKey _) (ff_PrivateKey_secret _) rfl rfl)) hs (by simp; omega)) fun v N' h => ?_
   obtain ⟨-, c2, c3, rfl⟩ := h
   exact ⟨c2, c3, by simp⟩
 · refine i_f ?_; rintro v C' ⟨c2, c3, rfl⟩
   exact ⟨c2, c3, rfl⟩
theorem s_pkser {n : Nat} (B : Bs (KF w.params) g) (r : Rm A 4) (hx : Ob g N x (instObj 1284 dx)) (hd : Ob g N dx (dictOf (pkE w.params t1 t2 t3 u s) n)) (hs : s ≠ []) (hl : s.length ≤ 1000) : GcP (model PR w) A g L m N (.call (.ref 863) ⟨[.ref x], []⟩) (IsB s) X :=
 s_serialize (d := 0) (rest := []) (C := 1284) (fW := 1263) (es := pkE w.params t1 t2 t3 u s) (n := n) (dx := dx) B r (by simp) hx hd (cg_PrivateKey _ _) (fm_PrivateKey_write_to _) (by kernel_rfl) (by rfl) (ch_PrivateKey _) (by kernel_rfl) (by kernel_rfl) (by kernel_rfl) hl (pk_writes (k := 0) rfl hx hd hs hl)
end
section
variable {w : World} {A : Around} {g : Heap} {L : Addr} {m : Loc} {N : Led} {x dx C st : Addr} {t1 t2 t3 u : Tok} {s : List UInt8} {X : Value → Led → Prop}
theorem s_pkinit {v : Value} (B : Bs (KF w.params) g) (r : Rm A 3) (hv : IsB s v) (hl : s.length = 32) (h0 : 0 < num s) (h1 : num s < gP) :
 Cd (model PR w) A g L m ((x, instObj 1284 dx) :: (dx, dictOf [] 0) :: N) (.call (.ref 1147) ⟨[.ref x, v], []⟩) (fun v N' => v = .none ∧ ∃ t1 t2 t3 u, N' = (x, instObj 1284 dx) :: (dx, dictOf (pkE w.params t1 t2 t3 u s) 3) :: N) := by
 obtain ⟨u, rfl⟩ := hv
 refine cd_mono (cd_call (C := [(x, instObj 1284 dx), (dx, dictOf [] 0)]) (R := N) (P := fun v C' => v = .none ∧ ∃ t1 t2 t3, C' = [(x, instObj 1284 dx), (dx, dictOf (pkE w.params t1 t2 t3 u s) 3)])
  [("self", .ref x), ("secret", .bytes s.toArray u), ("compressed", .bool true), ("network", .ref 256)] B r rfl (by kernel_rfl) (fun s X => binds_K X rfl rfl rfl rfl rfl) (by rfl) ?_ (by decide)) ?_
 · intro h₀ L' A' r st sr B
   refine xs_if (c := false) (tst_eq (tst_cmp1 (ev_Call1 B (ev_builtin B (no_len _) (by rfl)) kp_b (ev_localB rfl) fun v h => call_lenB h (by omega)) ev_int fun x y h h' => co_ne h h') (by rw [hl]; rfl)) (fun h => nomatch h) fun _ => nx_nil ?_
   refine xs_if (c := false) (tst_eq (tst_not (tst_plain (p := IsT true) (evT_eq (ev_g1 B (ev_global B (gl_ec_seckey_verify _)) (kp_ec_seckey_verify _) (ev_localB rfl) fun v h => s_verify B r (by omega) h) (by rw [decide_eq_true (by omega), decide_eq_true (by omega)]; rfl)) fun v h => by obtain rfl : v = .bool true := h; exact tru_bool)) rfl) (fun h => nomatch h) fun _ => nx_nil ?_
   refine xs_setattr (i := 1) B (ev_local rfl) (ev_local rfl) (.inl (.head _)) rfl (cs_PrivateKey _) (cp_PrivateKey _) (ft_PrivateKey_compressed _) (ch_PrivateKey _) rfl (by decide) fun v t1 e => ?_
   obtain rfl : v = _ := e
   refine xs_setattr (i := 1) B (ev_local rfl) (ev_local rfl) (.inl (.head _)) rfl (cs_PrivateKey _) (cp_PrivateKey _) (ft_PrivateKey_secret _) (ch_PrivateKey _) rfl (by simp [putL]) fun v t2 e => ?_
   obtain rfl : v = _ := e
   refine xs_setattr (i := 1) B (ev_local rfl) (ev_local rfl) (.inl (.head _)) rfl (cs_PrivateKey _) (cp_PrivateKey _) (ft_PrivateKey_network _) (ch_PrivateKey _) rfl (show 2 < 1000 by decide) fun v t3 e => ?_
   obtain rfl : v = _ := e
   exact xs_nil ⟨rfl, t1, t2, t3, rfl⟩
 · refine i_f (i_h (i_3 fun t1 t2 t3 => ?_))
   exact ⟨rfl, t1, t2, t3, u, rfl⟩
noncomputable def PkN (P : Params) (s : List UInt8) (x : Addr) (N N' : Led) : Prop := ∃ dx t1 t2 t3 u, N' = (x, instObj 1284 dx) :: (dx, dictOf (pkE P t1 t2 t3 u s) 3) :: N
theorem s_pknew {v : Value} (B : Bs (KF w.params) g) (r : Rm A 4) (hv : IsB s v) (hl : s.length = 32) (h0 : 0 < num s) (h1 : num s < gP) : Cd (model PR w) A g L m N (.call (.ref 1284) ⟨[v], []⟩) (fun v N' => ∃ x, v = .ref x ∧ PkN w.params s x N N') :=
 cd_mono (cd_make (P := fun x dx N' => ∃ t1 t2 t3 u, N' = (x, instObj 1284 dx) :: (dx, dictOf (pkE w.params t1 t2 t3 u s) 3) :: N) B (cm_PrivateKey _) (ci_PrivateKey _) (by kernel_rfl) fun x dx => s_pkinit B r.made hv hl h0 h1) fun v N' ⟨x, dx, e, t1, t2, t3, u, h⟩ => ⟨x, e, dx, t1, t2, t3, u, h⟩
end
noncomputable def pbE (P : Params) (t1 t2 u : Tok) (s : List UInt8) : List DictEntry := [en P "_point" t1 (.bytes s.toArray u), en P "compressed" t2 (.bool true)]
noncomputable def PbN (P : Params) (s : List UInt8) (x : Addr) (N N' : Led) : Prop := ∃ dx t1 t2 u, N' = (x, instObj 1130 dx) :: (dx, dictOf (pbE P t1 t2 u s) 2) :: N
noncomputable def KeyO (P : Params) (O : Addr → Obj → Prop) (x : Addr) : Bool → List UInt8 → Prop
 | true, s => ∃ dx t1 t2 t3 u, O x (instObj 1284 dx) ∧ O dx (dictOf (pkE P t1 t2 t3 u s) 3)
 | false, s => ∃ dx t1 t2 u, O x (instObj 1130 dx) ∧ O dx (dictOf (pbE P t1 t2 u s) 2)
theorem KeyO.elT {P : Params} {O : Addr → Obj → Prop} {x : Addr} {s : List UInt8} {G : Prop} (h : KeyO P O x true s) (f : ∀ dx t1 t2 t3 u, O x (instObj 1284 dx) → O dx (dictOf (pkE P t1 t2 t3 u s) 3) → G) : G := let ⟨a, b, c, d, e, p, q⟩ := h; f a b c d e p q
theorem KeyO.elF {P : Params} {O : Addr → Obj → Prop} {x : Addr} {s : List UInt8} {G : Prop} (h : KeyO P O x false s) (f : ∀ dx t1 t2 u, O x (instObj 1130 dx) → O dx (dictOf (pbE P t1 t2 u s) 2) → G) : G := let ⟨a, b, c, e, p, q⟩ := h; f a b c e p q
theorem KeyO.mono {P : Params} {O O' : Addr → Obj → Prop} {x : Addr} {pr : Bool} {s : List UInt8} (h : KeyO P O x pr s) (k : ∀ a o, O a o → O' a o) : KeyO P O' x pr s := by
 cases pr with
 | true => refine KeyO.elT h fun dx t1 t2 t3 u a b => ?_; exact ⟨dx, t1, t2, t3, u, k _ _ a, k _ _ b⟩
 | false => refine KeyO.elF h fun dx t1 t2 u a b => ?_; exact ⟨dx, t1, t2, u, k _ _ a, k _ _ b⟩
noncomputable def ptK (pr : Bool) (s : List UInt8) : Nat := if pr then num s * gB % gP else num s
theorem ptK_t (s : List UInt8) : ptK true s = num s * gB % gP := if_pos rfl
theorem ptK_f (s : List UInt8) : ptK false s = num s := if_neg (by decide)
noncomputable def serK (pr : Bool) (s : List UInt8) : List UInt8 := if pr then s else psec (num s)
theorem pq_1092 (P : Params) : recIn (KF P) 1092 "property" = some [.ref 1091, .none, .none, .none, .str n_is_private 1774, .bool false] := by kernel_rfl
theorem pq_1163 (P : Params) : recIn (KF P) 1163 "property" = some [.ref 1162, .none, .none, .none, .str n_secret 1860, .bool false] := by kernel_rfl
theorem pq_1281 (P : Params) : recIn (KF P) 1281 "property" = some [.ref 1280, .none, .none, .none, .str n_is_private 2022, .bool false] := by kernel_rfl
theorem pq_1342 (P : Params) : recIn (KF P) 1342 "property" = some [.ref 1341, .none, .none, .none, .str n_my_fingerprint 2132, .bool false] := by kernel_rfl
theorem pq_1350 (P : Params) : recIn (KF P) 1350 "property" = some [.ref 1349, .none, .none, .none, .str n_is_private 2140, .bool false] := by kernel_rfl
theorem pq_1358 (P : Params) : recIn (KF P) 1358 "property" = some [.ref 1357, .none, .none, .none, .str n_secret 2148, .bool false] := by kernel_rfl
theorem serK_t (s : List UInt8) : serK true s = s := if_pos rfl
theorem serK_f (s : List UInt8) : serK false s = psec (num s) := if_neg (by decide)
theorem psec_length (n : Nat) : (psec n).length = 33 := by simp [psec, be_length]
section
variable {w : World} {A : Around} {g : Heap} {L : Addr} {m : Loc} {N : Led} {env : Env} {x dx C st : Addr} {t1 t2 t3 u : Tok} {b s : List UInt8} {X : Value → Led → Prop} {pr : Bool}
theorem s_pbinit {v : Value} {vs : List Value} (B : Bs (KF w.params) g) (r : Rm A 1) (hv : IsB s v) (hvs : vs = [] ∨ vs = [.bool true]) :
 Cd (model PR w) A g L m ((x, instObj 1130 dx) :: (dx, dictOf [] 0) :: N) (.call (.ref 997) ⟨.ref x :: v :: vs, []⟩) (fun v N' => v = .none ∧ ∃ t1 t2 u, N' = (x, instObj 1130 dx) :: (dx, dictOf (pbE w.params t1 t2 u s) 2) :: N) := by
 obtain ⟨u, rfl⟩ := hv
 refine cd_mono (cd_call (C := [(x, instObj 1130 dx), (dx, dictOf [] 0)]) (R := N) (P := fun v C' => v = .none ∧ ∃ t1 t2, C' = [(x, instObj 1130 dx), (dx, dictOf (pbE w.params t1 t2 u s) 2)])
  [("self", .ref x), ("point", .bytes s.toArray u), ("compressed", .bool true)] B r rfl (by kernel_rfl) (fun s X => by rcases hvs with rfl | rfl <;> exact binds_K X rfl rfl rfl rfl rfl) (by rfl) ?_ (by decide)) ?_
 · intro h₀ L' A' r st sr B
   refine xs_setattr (i := 1) B (ev_local rfl) (ev_local rfl) (.inl (.head _)) rfl (cs_PublicKey _) (cp_PublicKey _) (ft_PublicKey_point _) (ch_PublicKey _) rfl (by decide) fun v t1 e => ?_
   obtain rfl : v = _ := e
   refine xs_setattr (i := 1) B (ev_local rfl) (ev_local rfl) (.inl (.head _)) rfl (cs_PublicKey _) (cp_PublicKey _) (ft_PublicKey_compressed _) (ch_PublicKey _) rfl (by simp [putL]) fun v t2 e => ?_
   obtain rfl : v = _ := e
   exact xs_nil ⟨rfl, t1, t2, rfl⟩
 · refine i_f (i_h (i_2 fun t1 t2 => ?_))
   exact ⟨rfl, t1, t2, u, rfl⟩
theorem s_pbnew {v : Value} {vs : List Value} (B : Bs (KF w.params) g) (r : Rm A 2) (hv : IsB s v) (hvs : vs = [] ∨ vs = [.bool true]) : Cd (model PR w) A g L m N (.call (.ref 1130) ⟨v :: vs, []⟩) (fun v N' => ∃ x, v = .ref x ∧ PbN w.params s x N N') :=
 cd_mono (cd_make (P := fun x dx N' => ∃ t1 t2 u, N' = (x, instObj 1130 dx) :: (dx, dictOf (pbE w.params t1 t2 u s) 2) :: N) B (cm_PublicKey _) (ci_PublicKey _) (fn_997 _) fun x dx => s_pbinit B r.made hv hvs) fun v N' ⟨x, dx, e, t1, t2, u, h⟩ => ⟨x, e, dx, t1, t2, u, h⟩
theorem s_pbsec (B : Bs (KF w.params) g) (r : Rm A 4) (hx : Ob g N x (instObj 1130 dx)) (hd : Ob g N dx (dictOf (pbE w.params t1 t2 u s) 2)) (hl : s.length ≤ 1000) (hs : num s ≤ gP) : CdP (model PR w) A g L m N (.call (.ref 1014) ⟨[.ref x], []⟩) (IsB (psec (num s))) := by
 refine cd_pcall [("self", .ref x)] B r rfl (by kernel_rfl) (fun s X => BindsTo.of_eq rfl) (by rfl) ?_ (by decide)
 intro h₀ L' A' r st sr B
 have hx := hx.up ⟨st, sr⟩
 have hd := hd.up ⟨st, sr⟩
 refine xs_assign (P := fun v N' => IsI 258 v ∧ N' = []) (ev_ifexp (c := true) (tst_plain (p := IsT true) (ev_own B (ev_local rfl) (hx _) (hd _) (cg_PublicKey _ _) (ch_PublicKey _) (ff_PublicKey_compressed _) rfl rfl) fun v h => by obtain rfl : v = .bool true := h; exact tru_bool) (fun _ => ev_globalI B (gl_EC_COMPRESSED _)) (fun h => nomatch h)) ?_
 refine i_a fun t => ?_
 refine xs_return (P := fun v N' => IsB (psec (num s)) v ∧ N' = []) (ev_Call2 B (ev_global B (gl_ec_pubkey_serialize _)) (kp_ec_pubkey_serialize _) (is_B (ev_own B (ev_local rfl) (hx _) (hd _) (cg_PublicKey _ _) (ch_PublicKey _) (ff_PublicKey_point _) rfl rfl)) (ev_local rfl) fun v z h h' => ?_) fun v N' h => h.1
 obtain rfl : z = _ := h'
 exact ev_of_cd (s_pser (u := .none) B r hl h hs)
theorem s_pbser (B : Bs (KF w.params) g) (r : Rm A 5) (hx : Ob g N x (instObj 1130 dx)) (hd : Ob g N dx (dictOf (pbE w.params t1 t2 u s) 2)) (hl : s.length ≤ 1000) (hs : num s ≤ gP) : CdP (model PR w) A g L m N (.call (.ref 1043) ⟨[.ref x], []⟩) (IsB (psec (num s))) := by
 refine cd_pcall [("self", .ref x)] B r rfl (by kernel_rfl) (fun s X => BindsTo.of_eq rfl) (by rfl) ?_ (by decide)
 intro h₀ L' A' r st sr B
 have hx := hx.up ⟨st, sr⟩
 have hd := hd.up ⟨st, sr⟩
 exact xs_return (P := fun v N' => IsB (psec (num s)) v ∧ N' = []) (ev_m0 B (ev_local rfl) fun ov N1 e => by obtain ⟨rfl, rfl⟩ := e; exact ⟨x, 1130, dx, 1014, _, _, rfl, hx _, hd _, cg_PublicKey _ _, fm_PublicKey_sec _, fn_1014 _, rfl, kp_1014 _, s_pbsec B r (hx _) (hd _) hl hs⟩) fun v N' h => h.1
theorem s_pkget (B : Bs (KF w.params) g) (r : Rm A 3) (hx : Ob g N x (instObj 1284 dx)) (hd : Ob g N dx (dictOf (pkE w.params t1 t2 t3 u s) 3)) (hl : s.length ≤ 1000) : Cd (model PR w) A g L m N (.call (.ref 1220) ⟨[.ref x], []⟩) (fun v N' => ∃ y, v = .ref y ∧ PbN w.params (be 32 (num s * gB % gP)) y N N') := by
 refine cd_mono (cd_call (C := []) (R := N) (P := fun v C' => ∃ y, v = .ref y ∧ PbN w.params (be 32 (num s * gB % gP)) y [] C') [("self", .ref x)] B r rfl (by kernel_rfl) (fun s X => BindsTo.of_eq rfl) (by rfl) ?_ (by decide)) ?_
 · intro h₀ L' A' r st sr B
   have hx := hx.up ⟨st, sr⟩
   have hd := hd.up ⟨st, sr⟩
   refine xs_return (ev_Call2 B (ev_global B (gl_PublicKey _)) (kp_PublicKey _) (ev_g1 B (ev_global B (gl_ec_pubkey_create _)) (kp_ec_pubkey_create _) (is_B (ev_own B (ev_local rfl) (hx _) (hd _) (cg_PrivateKey _ _) (ch_PrivateKey _) (ff_PrivateKey_secret _) rfl rfl)) fun v h => s_create B r hl h) (ev_own B (ev_local rfl) (hx _) (hd _) (cg_PrivateKey _ _) (ch_PrivateKey _) (ff_PrivateKey_compressed _) rfl rfl) fun v z h h' => ?_) fun v N' h => h
   obtain rfl : z = _ := h'
   exact ev_of_cd (s_pbnew B r h (.inr rfl))
 · refine i_f (i_g fun y => i_4 fun dx t1 t2 u => ?_)
   exact ⟨y, rfl, dx, t1, t2, u, rfl⟩
theorem s_pksec (B : Bs (KF w.params) g) (r : Rm A 5) (hx : Ob g N x (instObj 1284 dx)) (hd : Ob g N dx (dictOf (pkE w.params t1 t2 t3 u s) 3)) (hl : s.length ≤ 1000) : CdP (model PR w) A g L m N (.call (.ref 1170) ⟨[.ref x], []⟩) (IsB (psec (num s * gB % gP))) := by
 refine cd_pcall [("self", .ref x)] B r rfl (by kernel_rfl) (fun s X => BindsTo.of_eq rfl) (by rfl) ?_ (by decide)
 intro h₀ L' A' r st sr B
 have hx := hx.up ⟨st, sr⟩
 have hd := hd.up ⟨st, sr⟩
 have hp : num s * gB % gP < gP := Nat.mod_lt _ gP_pos
 refine xs_return (P := fun v N' => IsB (psec (num s * gB % gP)) v) (ev_m0 B (Po := fun v N' => ∃ y, v = .ref y ∧ PbN w.params (be 32 (num s * gB % gP)) y [] N') (ev_m0 B (ev_local rfl) fun ov N1 e => by obtain ⟨rfl, rfl⟩ := e; exact ⟨x, 1284, dx, 1220, _, _, rfl, hx _, hd _, cg_PrivateKey _ _, fm_PrivateKey_get_public_key _, fn_1220 _, rfl, kp_1220 _, s_pkget B r.le (hx _) (hd _) hl⟩) ?_) fun v N' h => h
 refine i_g fun y => i_4 fun dy t1 t2 u => ?_
 refine ⟨y, 1130, dy, 1014, _, _, rfl, .inl (.head _), .inl (.tail _ (.head _)), cg_PublicKey _ _, fm_PublicKey_sec _, fn_1014 _, rfl, kp_1014 _, cd_mono (s_pbsec B r (.inl (.head _)) (.inl (.tail _ (.head _))) (by simp [be_length]) ?_) fun v N' e => ?_⟩
 · rw [num_be _ _ (Nat.lt_trans hp gP_256)]; exact Nat.le_of_lt hp
 · have := e.1; rwa [num_be _ _ (Nat.lt_trans hp gP_256)] at this
theorem s_pbpriv (B : Bs (KF w.params) g) (r : Rm A 1) : CdP (model PR w) A g L m N (.call (.ref 1091) ⟨[.ref x], []⟩) (IsT false) := by
 refine cd_pcall [("self", .ref x)] B r rfl (by kernel_rfl) (fun s X => BindsTo.of_eq rfl) (by rfl) ?_ (by decide)
 intro h₀ L' A' r st sr B
 exact xs_return ev_bool fun v N' h => h.1
theorem s_pkpriv (B : Bs (KF w.params) g) (r : Rm A 1) : CdP (model PR w) A g L m N (.call (.ref 1280) ⟨[.ref x], []⟩) (IsT true) := by
 refine cd_pcall [("self", .ref x)] B r rfl (by kernel_rfl) (fun s X => BindsTo.of_eq rfl) (by rfl) ?_ (by decide)
 intro h₀ L' A' r st sr B
 exact xs_return ev_bool fun v N' h => h.1
theorem s_pksecret (B : Bs (KF w.params) g) (r : Rm A 1) (hx : Ob g N x (instObj 1284 dx)) (hd : Ob g N dx (dictOf (pkE w.params t1 t2 t3 u s) 3)) : CdP (model PR w) A g L m N (.call (.ref 1162) ⟨[.ref x], []⟩) (IsB s) := by
 refine cd_pcall [("self", .ref x)] B r rfl (by kernel_rfl) (fun s X => BindsTo.of_eq rfl) (by rfl) ?_ (by decide)
 intro h₀ L' A' r st sr B
 exact xs_return (is_B (ev_own B (ev_local rfl) (hx.up ⟨st, sr⟩ _) (hd.up ⟨st, sr⟩ _) (cg_PrivateKey _ _) (ch_PrivateKey _) (ff_PrivateKey_secret _) rfl rfl)) fun v N' h => h.1
theorem handed_T {b : Bool} {v : Value} (h : IsT b v) : handedIn v = true := by obtain rfl : v = .bool b := h; rfl
theorem handed_B {b : List UInt8} {v : Value} (h : IsB b v) : handedIn v = true := by obtain ⟨t, rfl⟩ := h; rfl
theorem ga_kpriv {b : Bool} (B : Bs (KF w.params) g) (r : Rm A 2) (hk : KeyO w.params (Ob g N) x pr s) : EvP (model PR w) A g L m N (getAttr (.ref x) "is_private" b) (IsT pr) := by
 cases pr with
 | true =>
  refine KeyO.elT hk fun dx t1 t2 t3 u hx hd => ?_
  exact ga_prop B hx hd (cg_PrivateKey _ _) (ch_PrivateKey _) (fp_PrivateKey_is_private _) (pn_1281 _) (pt_1281 _) (pq_1281 _) (s_pkpriv B r.in1) fun v h => handed_T h
 | false =>
  refine KeyO.elF hk fun dx t1 t2 u hx hd => ?_
  exact ga_prop B hx hd (cg_PublicKey _ _) (ch_PublicKey _) (fp_PublicKey_is_private _) (pn_1092 _) (pt_1092 _) (pq_1092 _) (s_pbpriv B r.in1) fun v h => handed_T h
theorem ev_ksec {oe : Expr} {apos p : Pos} {pl : Sem Bool} (B : Bs (KF w.params) g) (r : Rm A 5) (ho : EvP (model PR w) A g L m N (eval oe env) (IsV (.ref x))) (hk : KeyO w.params (Ob g N) x pr s) (hl : s.length ≤ 1000) (hs : num s ≤ gP)
 (he : eval (.Call (.Attribute oe "sec" apos) [] [] p) env = (do
  let ov ← eval oe env
  standAt apos.atName
  let (f, first) ← holding [ov] (getMethod ov "sec" pl)
  callWith p f first (backTo p (starEach [] env)) []) := by rfl) : EvP (model PR w) A g L m N (eval (.Call (.Attribute oe "sec" apos) [] [] p) env) (IsB (psec (ptK pr s))) := by
 refine ev_m0 B ho (fun ov N1 e => ?_) he
 obtain ⟨rfl, rfl⟩ := e
 cases pr with
 | true =>
  refine KeyO.elT hk fun dx t1 t2 t3 u hx hd => ?_
  rw [ptK_t]
  exact ⟨x, 1284, dx, 1170, _, _, rfl, hx, hd, cg_PrivateKey _ _, fm_PrivateKey_sec _, fn_1170 _, rfl, kp_1170 _, s_pksec B r hx hd hl⟩
 | false =>
  refine KeyO.elF hk fun dx t1 t2 u hx hd => ?_
  rw [ptK_f]
  exact ⟨x, 1130, dx, 1014, _, _, rfl, hx, hd, cg_PublicKey _ _, fm_PublicKey_sec _, fn_1014 _, rfl, kp_1014 _, s_pbsec B r.le hx hd hl hs⟩
end
section
variable {w : World} {A : Around} {prog : Program} {g : Heap} {L C : Addr} {m : Loc} {N : Led} {X : Value → Led → Prop} {K : Frag} {env : Env}
structure Mth (K : Frag) (g : Heap) (N : Led) (name : Str) (x f : Addr) : Prop where
 h : ∃ C dx es n, Ob g N x (instObj C dx) ∧ Ob g N dx (dictOf es n) ∧ plainGet K C name = true ∧ findIn K (.ref C) name = some (some (.ref f)) ∧ isFn K (.ref f) = true ∧ getL name es = some none ∧ Kp K (.ref f)
theorem Mth.mk' {name : Str} {x f C dx : Addr} {es : List DictEntry} {n : Nat} (h1 : Ob g N x (instObj C dx)) (h2 : Ob g N dx (dictOf es n)) (h3 : plainGet K C name = true) (h4 : findIn K (.ref C) name = some (some (.ref f))) (h5 : isFn K (.ref f) = true) (h6 : getL name es = some none) (h7 : Kp K (.ref f)) : Mth K g N name x f := ⟨C, dx, es, n, h1, h2, h3, h4, h5, h6, h7⟩
theorem Mth.gm {name : Str} {x f : Addr} {pl : Sem Bool} (B : Bs K g) (h : Mth K g N name x f) : Ev (model prog w) A g L m N (getMethod (.ref x) name pl) (fun fx N' => fx = (.ref f, [.ref x]) ∧ N' = N) := by
 obtain ⟨C, dx, es, n, h1, h2, h3, h4, h5, h6, h7⟩ := h
 exact gm_inst B h1 h2 h3 h4 h5 h6
theorem Mth.kp {name : Str} {x f : Addr} (h : Mth K g N name x f) : Kp K (.ref f) := by
 obtain ⟨C, dx, es, n, h1, h2, h3, h4, h5, h6, h7⟩ := h
 exact h7
theorem gv_m0 {o : Expr} {name : Str} {apos p : Pos} {pl : Sem Bool} {Po : Value → Led → Prop} {P : Value → Led → Prop} (B : Bs K g) (ho : Gv (model prog w) A g L m N (eval o env) Po X)
 (hm : ∀ ov N1, Po ov N1 → ∃ x f, ov = .ref x ∧ Mth K g N1 name x f ∧ Gc (model prog w) A g L m N1 (.call (.ref f) ⟨[.ref x], []⟩) P X)
 (he : eval (.Call (.Attribute o name apos) [] [] p) env = (do
  let ov ← eval o env
  standAt apos.atName
  let (f, first) ← holding [ov] (getMethod ov name pl)
  callWith p f first (backTo p (starEach [] env)) (backToKw p (keywordEach [] env))) := by rfl) : Gv (model prog w) A g L m N (eval (.Call (.Attribute o name apos) [] [] p) env) P X := by
 refine gv_MCall (PM := fun ov fx N2 => ∃ f x, fx = (.ref f, [.ref x]) ∧ Kp K (.ref f) ∧ Gc (model prog w) A g L m N2 (.call (.ref f) ⟨[.ref x], []⟩) P X) ho ?_ ?_ he
 · intro ov N1 p1
   obtain ⟨x, f, rfl, h1, h2⟩ := hm ov N1 p1
   exact Ev.gv (ev_mono (h1.gm B) fun fx N' e => ⟨f, x, e.1, h1.kp, e.2 ▸ h2⟩)
 · rintro ov f first N2 ⟨f', x, e, hk, hc⟩
   obtain ⟨rfl, rfl⟩ := Prod.mk.inj e
   exact gv_callWith (PA := fun vs N' => vs = [] ∧ N' = N2) (PK := fun vs ks N' => vs = [] ∧ ks = [] ∧ N' = N2) B hk (gr_nil ⟨rfl, rfl⟩) (fun vs N' e => gk_nil ⟨e.1, rfl, e.2⟩) fun vs ks N' e => by obtain ⟨rfl, rfl, rfl⟩ := e; exact gv_of_gc hc
theorem gv_m1 {o e1 : Expr} {name : Str} {apos p : Pos} {pl : Sem Bool} {Po : Value → Led → Prop} {P : Value → Led → Prop} (B : Bs K g) (ho : Gv (model prog w) A g L m N (eval o env) Po X)
 (hm : ∀ ov N1, Po ov N1 → ∃ x f P1, ov = .ref x ∧ Mth K g N1 name x f ∧ Gv (model prog w) A g L m N1 (eval e1 env) P1 X ∧ ∀ v N2, P1 v N2 → Gc (model prog w) A g L m N2 (.call (.ref f) ⟨[.ref x, v], []⟩) P X)
 (he : eval (.Call (.Attribute o name apos) [e1] [] p) env = (do
  let ov ← eval o env
  standAt apos.atName
  let (f, first) ← holding [ov] (getMethod ov name pl)
  callWith p f first (backTo p (starEach [e1] env)) (backToKw p (keywordEach [] env))) := by rfl)
 (he1 : starEach [e1] env = (false, eval e1 env) :: starEach [] env := by rfl) (hplain : (backTo p (starEach [e1] env)).any (·.1) = false := by rfl) : Gv (model prog w) A g L m N (eval (.Call (.Attribute o name apos) [e1] [] p) env) P X := by
 refine gv_MCall (PM := fun ov fx N2 => ∃ f x P1, fx = (.ref f, [.ref x]) ∧ Kp K (.ref f) ∧ Gv (model prog w) A g L m N2 (eval e1 env) P1 X ∧ ∀ v N3, P1 v N3 → Gc (model prog w) A g L m N3 (.call (.ref f) ⟨[.ref x, v], []⟩) P X) ho ?_ ?_ he
 · intro ov N1 p1
   obtain ⟨x, f, P1, rfl, h1, h2, h3⟩ := hm ov N1 p1
   exact Ev.gv (ev_mono (h1.gm B) fun fx N' e => ⟨f, x, P1, e.1, h1.kp, e.2 ▸ h2, h3⟩)
 · rintro ov f first N2 ⟨f', x, P1, e, hk, h1, hc⟩
   obtain ⟨rfl, rfl⟩ := Prod.mk.inj e
   exact gv_callWith (PA := fun vs N' => ∃ v, vs = [v] ∧ P1 v N') (PK := fun vs ks N' => ∃ v, vs = [v] ∧ ks = [] ∧ P1 v N') B hk (gr_cons h1 (fun v N' e => gr_nil ⟨v, rfl, e⟩) he1) (fun vs N' e => gk_nil (by obtain ⟨v, e, h⟩ := e; exact ⟨v, e, rfl, h⟩)) (fun vs ks N' e => by obtain ⟨v, rfl, rfl, h⟩ := e; exact gv_of_gc (hc v N' h)) (by rfl) hplain (by rfl)
end
structure HD where
 pr : Bool
 kb : List UInt8
 cc : List UInt8
 ver : List UInt8
 fp : List UInt8
 dep : Nat
 ix : Nat
structure HD.Ok (k : HD) : Prop where
 kl : k.kb.length = 32
 k0 : 0 < num k.kb
 k1 : num k.kb < gP
 cl : k.cc.length = 32
 vl : k.ver.length = 4
 fl : k.fp.length = 4
 dl : k.dep < 256
 il : k.ix < 256 ^ 4
noncomputable def HD.sec (k : HD) : List UInt8 := psec (ptK k.pr k.kb)
noncomputable def HD.fpr (k : HD) : List UInt8 := (h160 k.sec).take 4
noncomputable def HD.tail (k : HD) : List UInt8 := [UInt8.ofNat k.dep] ++ k.fp ++ be 4 k.ix ++ k.cc ++ (if k.pr then [0] else []) ++ serK k.pr k.kb
noncomputable def HD.ser (k : HD) : List UInt8 := k.ver ++ k.tail
noncomputable def hdE (P : Params) (T : Nat → Tok) (kx : Addr) (k : HD) (mf : List UInt8) : List DictEntry :=
 [en P "key" (T 0) (.ref kx), en P "version" (T 1) (.bytes k.ver.toArray (T 2)), en P "chain_code" (T 3) (.bytes k.cc.toArray (T 4)), en P "depth" (T 5) (.int (k.dep : Int) (T 6)), en P "fingerprint" (T 7) (.bytes k.fp.toArray (T 8)),
  en P "_my_fingerprint" (T 9) (.bytes mf.toArray (T 10)), en P "child_number" (T 11) (.int (k.ix : Int) (T 12))]
noncomputable def HdO (P : Params) (O : Addr → Obj → Prop) (x : Addr) (k : HD) : Prop :=
 ∃ dx kx T mf, O x (instObj 1499 dx) ∧ O dx (dictOf (hdE P T kx k mf) 7) ∧ KeyO P O kx k.pr k.kb ∧ (mf = [] ∨ mf = k.fpr)
theorem HdO.el {P : Params} {O : Addr → Obj → Prop} {x : Addr} {k : HD} {G : Prop} (h : HdO P O x k) (f : ∀ dx kx T mf, O x (instObj 1499 dx) → O dx (dictOf (hdE P T kx k mf) 7) → KeyO P O kx k.pr k.kb → (mf = [] ∨ mf = k.fpr) → G) : G := let ⟨a, b, c, d, p, q, r, s⟩ := h; f a b c d p q r s
theorem HdO.mono {P : Params} {O O' : Addr → Obj → Prop} {x : Addr} {k : HD} (h : HdO P O x k) (q : ∀ a o, O a o → O' a o) : HdO P O' x k := by
 refine HdO.el (h) fun dx kx T mf a b c d => ?_
 exact ⟨dx, kx, T, mf, q _ _ a, q _ _ b, c.mono q, d⟩
theorem KeyO.up {P : Params} {g h : Heap} {N : Led} {x : Addr} {pr : Bool} {s : List UInt8} (H : KeyO P (Ob g N) x pr s) (U : Up g N h) (N' : Led) : KeyO P (Ob h N') x pr s := H.mono fun a o e => e.up U N'
theorem HdO.up {P : Params} {g h : Heap} {N : Led} {x : Addr} {k : HD} (H : HdO P (Ob g N) x k) (U : Up g N h) (N' : Led) : HdO P (Ob h N') x k := H.mono fun a o e => e.up U N'
theorem HD.tail_length (k : HD) (h : k.Ok) : k.tail.length = 74 := by
 unfold HD.tail
 have := h.kl; have := h.cl; have := h.fl
 cases hp : k.pr
 · simp [be_length, serK_f, psec_length]; omega
 · simp [be_length, serK_t]; omega
theorem HD.ser_length (k : HD) (h : k.Ok) : k.ser.length = 78 := by
 unfold HD.ser; rw [List.length_append, k.tail_length h, h.vl]
section
variable {w : World} {M : Model} {A : Around} {g : Heap} {L : Addr} {m : Loc} {N : Led} {env : Env} {x dx st : Addr} {pos : Nat} {o : Obj} {t1 t2 t3 u : Tok} {s : List UInt8} {X : Value → Led → Prop} {pr : Bool} {k : HD}
theorem s_hdpriv (B : Bs (KF w.params) g) (r : Rm A 4) (h : HdO w.params (Ob g N) x k) : CdP (model PR w) A g L m N (.call (.ref 1349) ⟨[.ref x], []⟩) (IsT k.pr) := by
 refine cd_pcall [("self", .ref x)] B r rfl (by kernel_rfl) (fun s X => BindsTo.of_eq rfl) (by rfl) ?_ (by decide)
 intro h₀ L' A' r st sr B
 refine HdO.el (h.up ⟨st, sr⟩ []) fun dx kx T mf hx hd hk _ => ?_
 refine xs_return (P := fun v N' => IsT k.pr v ∧ N' = []) (ev_Attr (ev_own B (ev_local rfl) hx hd (cg_HDKey _ _) (ch_HDKey _) (ff_HDKey_key _) rfl rfl) fun o N' e => ?_) fun v N' h => h.1
 obtain ⟨rfl, rfl⟩ := e
 exact ga_kpriv B r.le hk
theorem ev_hpriv {oe : Expr} {p : Pos} (B : Bs (KF w.params) g) (r : Rm A 5) (ho : EvP (model PR w) A g L m N (eval oe env) (IsV (.ref x))) (h : HdO w.params (Ob g N) x k)
 (he : eval (.Attribute oe "is_private" p) env = (do
  let o ← eval oe env
  standAt p.atName
  let r ← holding [o] (getAttr o "is_private" true)
  letTemporaryGo oe o r
  pure r) := by rfl) : EvP (model PR w) A g L m N (eval (.Attribute oe "is_private" p) env) (IsT k.pr) := by
 refine ev_Attr ho (fun o N' e => ?_) he
 obtain ⟨rfl, rfl⟩ := e
 refine HdO.el (h) fun dx kx T mf hx hd hk hm => ?_
 exact ga_prop B hx hd (cg_HDKey _ _) (ch_HDKey _) (fp_HDKey_is_private _) (pn_1350 _) (pt_1350 _) (pq_1350 _) (s_hdpriv B r.in1 ⟨dx, kx, T, mf, hx, hd, hk, hm⟩) fun v h => handed_T h
theorem tst_T {e : Expr} {c : Bool} (h : EvP M A g L m N (eval e env) (IsT c)) (he : ∀ whole, isTrue e env whole = (do let v ← whole; standAt e.pos; holding [v] (truthy v)) := by intro _; rfl) : Tst M A g L m N e env c :=
 tst_plain h (fun v h => by obtain rfl : v = .bool c := h; exact tru_bool) he
theorem ev_hver {oe : Expr} {p : Pos} (B : Bs (KF w.params) g) (ho : EvP (model PR w) A g L m N (eval oe env) (IsV (.ref x))) (h : HdO w.params (Ob g N) x k)
 (he : eval (.Attribute oe "version" p) env = (do
  let o ← eval oe env
  standAt p.atName
  let r ← holding [o] (getAttr o "version" true)
  letTemporaryGo oe o r
  pure r) := by rfl) : EvP (model PR w) A g L m N (eval (.Attribute oe "version" p) env) (IsB k.ver) := by
 refine HdO.el (h) fun dx kx T mf hx hd hk hm => ?_
 exact is_B (ev_own B ho hx hd (cg_HDKey _ _) (ch_HDKey _) (ff_HDKey_version _) rfl rfl he)
theorem ev_hcc {oe : Expr} {p : Pos} (B : Bs (KF w.params) g) (ho : EvP (model PR w) A g L m N (eval oe env) (IsV (.ref x))) (h : HdO w.params (Ob g N) x k)
 (he : eval (.Attribute oe "chain_code" p) env = (do
  let o ← eval oe env
  standAt p.atName
  let r ← holding [o] (getAttr o "chain_code" true)
  letTemporaryGo oe o r
  pure r) := by rfl) : EvP (model PR w) A g L m N (eval (.Attribute oe "chain_code" p) env) (IsB k.cc) := by
 refine HdO.el (h) fun dx kx T mf hx hd hk hm => ?_
 exact is_B (ev_own B ho hx hd (cg_HDKey _ _) (ch_HDKey _) (ff_HDKey_chain_code _) rfl rfl he)
theorem ev_hfp {oe : Expr} {p : Pos} (B : Bs (KF w.params) g) (ho : EvP (model PR w) A g L m N (eval oe env) (IsV (.ref x))) (h : HdO w.params (Ob g N) x k)
 (he : eval (.Attribute oe "fingerprint" p) env = (do
  let o ← eval oe env
  standAt p.atName
  let r ← holding [o] (getAttr o "fingerprint" true)
  letTemporaryGo oe o r
  pure r) := by rfl) : EvP (model PR w) A g L m N (eval (.Attribute oe "fingerprint" p) env) (IsB k.fp) := by
 refine HdO.el (h) fun dx kx T mf hx hd hk hm => ?_
 exact is_B (ev_own B ho hx hd (cg_HDKey _ _) (ch_HDKey _) (ff_HDKey_fingerprint _) rfl rfl he)
theorem ev_hdep {oe : Expr} {p : Pos} (B : Bs (KF w.params) g) (ho : EvP (model PR w) A g L m N (eval oe env) (IsV (.ref x))) (h : HdO w.params (Ob g N) x k)
 (he : eval (.Attribute oe "depth" p) env = (do
  let o ← eval oe env
  standAt p.atName
  let r ← holding [o] (getAttr o "depth" true)
  letTemporaryGo oe o r
  pure r) := by rfl) : EvP (model PR w) A g L m N (eval (.Attribute oe "depth" p) env) (IsI (k.dep : Int)) := by
 refine HdO.el (h) fun dx kx T mf hx hd hk hm => ?_
 exact is_I (ev_own B ho hx hd (cg_HDKey _ _) (ch_HDKey _) (ff_HDKey_depth _) rfl rfl he)
theorem ev_hix {oe : Expr} {p : Pos} (B : Bs (KF w.params) g) (ho : EvP (model PR w) A g L m N (eval oe env) (IsV (.ref x))) (h : HdO w.params (Ob g N) x k)
 (he : eval (.Attribute oe "child_number" p) env = (do
  let o ← eval oe env
  standAt p.atName
  let r ← holding [o] (getAttr o "child_number" true)
  letTemporaryGo oe o r
  pure r) := by rfl) : EvP (model PR w) A g L m N (eval (.Attribute oe "child_number" p) env) (IsI (k.ix : Int)) := by
 refine HdO.el (h) fun dx kx T mf hx hd hk hm => ?_
 exact is_I (ev_own B ho hx hd (cg_HDKey _ _) (ch_HDKey _) (ff_HDKey_child_number _) rfl rfl he)
theorem ev_hkey {oe : Expr} {p : Pos} (B : Bs (KF w.params) g) (ho : EvP (model PR w) A g L m N (eval oe env) (IsV (.ref x))) (h : HdO w.params (Ob g N) x k)
 (he : eval (.Attribute oe "key" p) env = (do
  let o ← eval oe env
  standAt p.atName
  let r ← holding [o] (getAttr o "key" true)
  letTemporaryGo oe o r
  pure r) := by rfl) : EvP (model PR w) A g L m N (eval (.Attribute oe "key" p) env) (fun v => ∃ kx, v = .ref kx ∧ KeyO w.params (Ob g N) kx k.pr k.kb) := by
 refine HdO.el (h) fun dx kx T mf hx hd hk hm => ?_
 exact ev_mono (ev_own B ho hx hd (cg_HDKey _ _) (ch_HDKey _) (ff_HDKey_key _) rfl rfl he) fun v N' e => ⟨⟨kx, e.1, hk⟩, e.2⟩
theorem gv_kser {oe : Expr} {apos p : Pos} {pl : Sem Bool} (B : Bs (KF w.params) g) (r : Rm A 5) (ho : EvP (model PR w) A g L m N (eval oe env) (fun v => ∃ kx, v = .ref kx ∧ KeyO w.params (Ob g N) kx pr s)) (hl : s.length = 32) (hs : num s < gP)
 (he : eval (.Call (.Attribute oe "serialize" apos) [] [] p) env = (do
  let ov ← eval oe env
  standAt apos.atName
  let (f, first) ← holding [ov] (getMethod ov "serialize" pl)
  callWith p f first (backTo p (starEach [] env)) (backToKw p (keywordEach [] env))) := by rfl) : GvP (model PR w) A g L m N (eval (.Call (.Attribute oe "serialize" apos) [] [] p) env) (IsB (serK pr s)) X := by
 refine gv_m0 B ho.gv (fun ov N1 e => ?_) he
 obtain ⟨⟨kx, rfl, hk⟩, rfl⟩ := e
 cases pr with
 | true =>
  refine KeyO.elT hk fun dx t1 t2 t3 u hx hd => ?_
  rw [serK_t]
  exact ⟨kx, 863, rfl, .mk' hx hd (cg_PrivateKey _ _) (fm_PrivateKey_serialize _) (fn_863 _) rfl (kp_863 _), s_pkser B r.le hx hd (by intro h; rw [h] at hl; exact absurd hl (by decide)) (by omega)⟩
 | false =>
  refine KeyO.elF hk fun dx t1 t2 u hx hd => ?_
  rw [serK_f]
  exact ⟨kx, 1043, rfl, .mk' hx hd (cg_PublicKey _ _) (fm_PublicKey_serialize _) (fn_1043 _) rfl (kp_1043 _), (s_pbser B r hx hd (by omega) (Nat.le_of_lt hs)).gc⟩
theorem s_hdsec (B : Bs (KF w.params) g) (r : Rm A 6) (h : HdO w.params (Ob g N) x k) (ok : k.Ok) : CdP (model PR w) A g L m N (.call (.ref 1424) ⟨[.ref x], []⟩) (IsB k.sec) := by
 refine cd_pcall [("self", .ref x)] B r rfl (by kernel_rfl) (fun s X => BindsTo.of_eq rfl) (by rfl) ?_ (by decide)
 intro h₀ L' A' r st sr B
 refine HdO.el (h.up ⟨st, sr⟩ []) fun dx kx T mf hx hd hk _ => ?_
 exact xs_return (ev_ksec B r (ev_own B (ev_local rfl) hx hd (cg_HDKey _ _) (ch_HDKey _) (ff_HDKey_key _) rfl rfl) hk (by have := ok.kl; omega) (Nat.le_of_lt ok.k1)) fun v N' h => h.1
theorem HdO.mth {name : Str} {f : Addr} (h : HdO w.params (Ob g N) x k) (h4 : findIn (KF w.params) (.ref 1499) name = some (some (.ref f))) (h5 : isFn (KF w.params) (.ref f) = true) (h7 : Kp (KF w.params) (.ref f)) (h6 : ∀ T kx mf, getL name (hdE w.params T kx k mf) = some none := by intros; rfl) : Mth (KF w.params) g N name x f := by
 refine HdO.el (h) fun dx kx T mf hx hd hk _ => ?_
 exact .mk' hx hd (cg_HDKey _ _) h4 h5 (h6 _ _ _) h7
end
section
variable {w : World} {M : Model} {A : Around} {g : Heap} {L a ba : Addr} {m : Loc} {N : Led} {cn : Str} {cs : Scope} {ccd : Value} {env : Env} {st sdx : Addr} {n : Nat} {t3 : Tok} {b cur : List UInt8} {X : Value → Led → Prop} {XS : Value → Loc → Led → Prop} {k : HD}
theorem gs_ifJ {t : Expr} {bd : List Stmt} {p : Pos} {rest : List Stmt} {c : Bool} {R : Flow → Loc → Led → Prop} (J : Loc → Led → Prop) (h : Tst M A g L m N t env c) (ht : c = true → Gs M A g L m N (execs bd env) (fun fl m' N' => fl = .next ∧ J m' N') XS) (hf : c = false → J m N)
 (k : ∀ m' N', J m' N' → Gs M A g L m' N' (execs rest env) R XS) : Gs M A g L m N (execs (.If t bd [] p :: rest) env) R XS :=
 gs_if (P := fun b N' => b = c ∧ N' = N) h.gv (fun N' e => by obtain ⟨rfl, rfl⟩ := e; exact gs_mono (ht rfl) fun fl m' N' e => by obtain ⟨rfl, e⟩ := e; exact k m' N' e) fun N' e => by obtain ⟨rfl, rfl⟩ := e; exact ny_nil (k _ _ (hf rfl))
theorem gv_writeG {e oe : Expr} {apos p : Pos} {pl : Sem Bool} {b1 b2 b3 : Tok} (B : Bs (KF w.params) g) (r : Rm A 2) (hs : EvP (model PR w) A g L m (stL w.params st sdx ba b1 b2 b3 cur cur.length ++ N) (eval oe env) (IsV (.ref st)))
 (he1 : GvP (model PR w) A g L m (stL w.params st sdx ba b1 b2 b3 cur cur.length ++ N) (eval e env) (IsB b) X) (hb : b ≠ []) (hz : cur.length + b.length ≤ 16777216)
 (he : eval (.Call (.Attribute oe "write" apos) [e] [] p) env = (do
  let ov ← eval oe env
  standAt apos.atName
  let (f, first) ← holding [ov] (getMethod ov "write" pl)
  callWith p f first (backTo p (starEach [e] env)) (backToKw p (keywordEach [] env))) := by rfl) (he2 : starEach [e] env = (false, eval e env) :: starEach [] env := by rfl) (hplain : (backTo p (starEach [e] env)).any (·.1) = false := by rfl) :
 Gv (model PR w) A g L m (stL w.params st sdx ba b1 b2 b3 cur cur.length ++ N) (eval (.Call (.Attribute oe "write" apos) [e] [] p) env) (fun v N' => IsI (b.length : Int) v ∧ ∃ c2 c3, N' = stL w.params st sdx ba b1 c2 c3 (cur ++ b) (cur ++ b).length ++ N) X := by
 refine gv_m1 B hs.gv (fun ov N1 e => ?_) he he2 hplain
 obtain ⟨rfl, rfl⟩ := e
 refine ⟨st, 556, _, rfl, .mk' (.inl (.head _)) (.inl (.tail _ (.head _))) (cg_BytesIO _ _) (fm_BytesIO_write _) (by kernel_rfl) rfl (kp_556 _), he1, ?_⟩
 refine i_c fun v hv => ?_
 exact gc_mono (s_bwrite (R := N) B r hv hb hz) fun v N' e => ⟨e.1, e.2.elim fun t3 e => e.elim fun u' e => ⟨t3, u', e⟩⟩
theorem gs_waug {pl : Sem Bool} {e : Expr} {q p' p1 p2 p3 : Pos} {rest : List Stmt} {b1 b2 b3 t : Tok} {n : Nat} {R : Flow → Loc → Led → Prop} (B : Bs (KF w.params) g) (r : Rm A 2) (hs : lk m "stream" = some (.ref st)) (hn : lk m "res" = some (.int (n : Int) t))
 (he1 : GvP (model PR w) A g L m (stL w.params st sdx ba b1 b2 b3 cur cur.length ++ N) (eval e (envX cn cs L a ccd [])) (IsB b) (fun v N' => XS v m N')) (hb : b ≠ []) (hz : cur.length + b.length ≤ 16777216)
 (k : ∀ (n : Nat) t c2 c3, Gs (model PR w) A g L (("res", .int (n : Int) t) :: m) (stL w.params st sdx ba b1 c2 c3 (cur ++ b) (cur ++ b).length ++ N) (execs rest (envX cn cs L a ccd [])) R XS)
 (he2 : starEach [e] (envX cn cs L a ccd []) = (false, eval e (envX cn cs L a ccd [])) :: starEach [] (envX cn cs L a ccd []) := by rfl) (hplain : (backTo p2 (starEach [e] (envX cn cs L a ccd []))).any (·.1) = false := by rfl)
 (he : eval (.Call (.Attribute (.Name "stream" q) "write" p1) [e] [] p2) (envX cn cs L a ccd []) = (do
  let ov ← eval (.Name "stream" q) (envX cn cs L a ccd [])
  standAt p1.atName
  let (f, first) ← holding [ov] (getMethod ov "write" pl)
  callWith p2 f first (backTo p2 (starEach [e] (envX cn cs L a ccd []))) (backToKw p2 (keywordEach [] (envX cn cs L a ccd [])))) := by rfl)
 (hk : cs.kind = .function := by rfl) (hx : (envX cn cs L a ccd []).kindOf "res" = some .local := by rfl) (hx2 : (envX cn cs L a ccd []).kindOf "stream" = some .local := by rfl) :
 Gs (model PR w) A g L m (stL w.params st sdx ba b1 b2 b3 cur cur.length ++ N) (execs (.AugAssign (.Name "res" p') .Add (.Call (.Attribute (.Name "stream" q) "write" p1) [e] [] p2) p3 :: rest) (envX cn cs L a ccd [])) R XS := by
 refine gs_aug (P := fun v N' => ∃ (n : Nat) (t : Tok) (c2 : Tok) (c3 : Tok), v = .int (n : Int) t ∧ N' = stL w.params st sdx ba b1 c2 c3 (cur ++ b) (cur ++ b).length ++ N) hn (gv_writeG B r (ev_local hs hk hx2) he1 hb hz he he2 hplain) ?_ ?_ hk hx
 · rintro v N' ⟨hv, c2, c3, rfl⟩
   exact (ev_mono (in_addN ⟨t, rfl⟩ hv) fun z N' e => by obtain ⟨⟨t', rfl⟩, rfl⟩ := e; exact ⟨_, t', c2, c3, rfl, rfl⟩).gv
 · rintro v N' ⟨n', t', c2, c3, rfl, rfl⟩
   exact k n' t' c2 c3
end
section
variable {w : World} {A : Around} {g g₀ : Heap} {L ba : Addr} {m : Loc} {N N₀ : Led} {env : Env} {x dx C fW st sdx : Addr} {es : List DictEntry} {n d : Nat} {t1 : Tok} {b cur s : List UInt8} {X : Value → Led → Prop} {pr : Bool} {k : HD}
theorem ne_of_len {b : List UInt8} {n : Nat} (h : b.length = n + 1) : b ≠ [] := by rintro rfl; simp at h
theorem serK_len (ok : k.Ok) : (serK k.pr k.kb).length = if k.pr then 32 else 33 := by
 have := ok.kl
 cases k.pr
 · simp [serK_f, psec_length]
 · simp [serK_t]; omega
theorem hd_writes {rest : List Value} {j : Nat} (h : HdO w.params (Ob g₀ N₀) x k) (ok : k.Ok) (hr : rest = [] ∨ rest = [.none]) : WritesTo w 1366 x rest k.ser (j + 6) g₀ N₀ := by
 intro A g L m N st sdx ba b1 b2 b3 B r U
 refine gc_mono (gc_call (C := stL w.params st sdx ba b1 b2 b3 [] 0) (R := N) (P := fun v C' => ∃ c2 c3, C' = stL w.params st sdx ba b1 c2 c3 k.ser k.ser.length) [("self", .ref x), ("stream", .ref st), ("version", .none)] B r rfl (by kernel_rfl) (fun s X => by rcases hr with rfl | rfl <;> exact binds_K X rfl rfl rfl rfl rfl) (by rfl) ?_ (by decide)) ?_
 · intro h₀ L' A' r st' sr B
   have H := fun N' => h.up (U.trans st') N'
   have hsl := k.ser_length ok
   have htl := k.tail_length ok
   obtain ⟨kl, k0, k1, cl, vl, fl, dl, il⟩ := ok
   refine gs_if1 (tst_cmp1 (ev_local rfl) ev_none fun x y h h' => co_is h h' rfl) ?_
   refine gs_assign (ev_hver B (ev_local rfl) (H _)).gv ?_
   refine i_a fun tv => ?_
   refine ny_nil ?_
   refine gs_assign (P := fun v N' => ∃ (n : Nat) (t : Tok) (c2 : Tok) (c3 : Tok), v = .int (n : Int) t ∧ N' = stL w.params st sdx ba b1 c2 c3 k.ver k.ver.length) (gv_mono (gv_writeG (N := []) (cur := []) (b := k.ver) B r.le (ev_local rfl) (ev_localB rfl).gv (ne_of_len vl) (by simp; omega)) fun v N' e => ?_) ?_
   · obtain ⟨⟨t, rfl⟩, c2, c3, rfl⟩ := e
     exact ⟨_, t, c2, c3, rfl, by simp⟩
   rintro v N' ⟨n1, t1, c2, c3, rfl, rfl⟩
   rw [← List.append_nil (stL w.params st sdx ba b1 c2 c3 k.ver k.ver.length)]
   refine gs_waug (b := [UInt8.ofNat k.dep]) B r.le rfl rfl (ev_bytes1 (n := k.dep) B r.le (no_bytes _) (ev_hdep B (ev_local rfl) (H _)) rfl dl).gv (by simp) (by simp; omega) fun n t c2 c3 => ?_
   refine gs_waug (b := k.fp) B r.le rfl rfl (ev_hfp B (ev_local rfl) (H _)).gv (ne_of_len fl) (by simp; omega) fun n t c2 c3 => ?_
   refine gs_waug (b := be 4 k.ix) B r.le rfl rfl (ev_to (k := 4) B (ev_hix B (ev_local rfl) (H _)) ev_int ev_str (by decide) il).gv (ne_of_len (n := 3) (be_length _ _)) (by simp [be_length]; omega) fun n t c2 c3 => ?_
   refine gs_waug (b := k.cc) B r.le rfl rfl (ev_hcc B (ev_local rfl) (H _)).gv (ne_of_len (n := 31) cl) (by simp [be_length]; omega) fun n t c2 c3 => ?_
   refine gs_ifJ (fun m' N' => lk m' "self" = some (.ref x) ∧ lk m' "stream" = some (.ref st) ∧ ∃ (n : Nat) (t : Tok) (c2 : Tok) (c3 : Tok) (cur : List UInt8), lk m' "res" = some (.int (n : Int) t) ∧ cur ++ serK k.pr k.kb = k.ser ∧ N' = stL w.params st sdx ba b1 c2 c3 cur cur.length ++ []) (tst_T (ev_hpriv B r.le (ev_local rfl) (H _))) (fun hp => ?_) (fun hp => ?_) ?_
   · refine gs_waug (b := [0]) B r.le rfl rfl ev_bytes.gv (by simp) (by simp [be_length]; omega) fun n t c2 c3 => gs_nil ⟨rfl, rfl, rfl, n, t, c2, c3, _, rfl, ?_, rfl⟩
     unfold HD.ser HD.tail
     rw [if_pos hp]
     simp
   · refine ⟨rfl, rfl, n, t, c2, c3, _, rfl, ?_, rfl⟩
     unfold HD.ser HD.tail
     rw [if_neg (by rw [hp]; decide)]
     simp
   rintro m' N' ⟨h1, h2, n, t, c2, c3, cur, h3, hcur, rfl⟩
   have hcl : cur.length + (serK k.pr k.kb).length = 78 := by rw [← List.length_append, hcur, hsl]
   refine gs_waug (b := serK k.pr k.kb) B r.le h2 h3 (gv_kser B r.le (ev_hkey B (ev_local h1) (H _)) kl k1) ?_ (by omega) fun n t c2 c3 => ?_
   · have := serK_len (k := k) ⟨kl, k0, k1, cl, vl, fl, dl, il⟩
     cases hp : k.pr <;> rw [hp] at this <;> exact ne_of_len (by rw [this]; rfl)
   rw [hcur]
   refine gs_return (ev_local rfl).gv fun v N' e => ?_
   obtain ⟨-, rfl⟩ := e
   exact ⟨c2, c3, List.append_nil _⟩
 · refine i_f ?_; rintro v C' ⟨c2, c3, rfl⟩
   exact ⟨c2, c3, rfl⟩
theorem s_hdser {rest : List Value} (B : Bs (KF w.params) g) (r : Rm A 7) (h : HdO w.params (Ob g N) x k) (ok : k.Ok) (hr : rest = [] ∨ rest = [.none]) : GcP (model PR w) A g L m N (.call (.ref 863) ⟨.ref x :: rest, []⟩) (IsB k.ser) X := by
 have h' := h
 refine HdO.el (h') fun dx kx T mf hx hd hk hm => ?_
 exact s_serialize (d := 3) (rest := rest) (C := 1499) (fW := 1366) (es := hdE w.params T kx k mf) (n := 7) (dx := dx) B r (by rcases hr with rfl | rfl <;> simp) hx hd (cg_HDKey _ _) (fm_HDKey_write_to _) (fn_1366 _) (by rfl) (ch_HDKey _) (by kernel_rfl) (by kernel_rfl) (by kernel_rfl) (by rw [k.ser_length ok]; decide) (hd_writes (j := 0) h ok hr)
theorem gv_hser0 {oe : Expr} {apos p : Pos} {pl : Sem Bool} (B : Bs (KF w.params) g) (r : Rm A 7) (ho : EvP (model PR w) A g L m N (eval oe env) (IsV (.ref x))) (h : HdO w.params (Ob g N) x k) (ok : k.Ok)
 (he : eval (.Call (.Attribute oe "serialize" apos) [] [] p) env = (do
  let ov ← eval oe env
  standAt apos.atName
  let (f, first) ← holding [ov] (getMethod ov "serialize" pl)
  callWith p f first (backTo p (starEach [] env)) (backToKw p (keywordEach [] env))) := by rfl) : GvP (model PR w) A g L m N (eval (.Call (.Attribute oe "serialize" apos) [] [] p) env) (IsB k.ser) X := by
 refine gv_m0 B ho.gv (fun ov N1 e => ?_) he
 obtain ⟨rfl, rfl⟩ := e
 exact ⟨x, 863, rfl, h.mth (fm_HDKey_serialize _) (fn_863 _) (kp_863 _), s_hdser B r h ok (.inl rfl)⟩
end
noncomputable def vPrv : List (List UInt8) := [[4, 136, 173, 228], [4, 157, 120, 120], [2, 170, 122, 153], [4, 53, 131, 148], [4, 74, 78, 40], [2, 87, 80, 72]]
noncomputable def vPub : List (List UInt8) := [[4, 136, 178, 30], [4, 157, 124, 178], [2, 170, 126, 211], [4, 53, 135, 207], [4, 74, 82, 98], [2, 87, 84, 131]]
noncomputable def vOf (pr : Bool) : List (List UInt8) := if pr then vPrv else vPub
noncomputable def qv (v : List UInt8) : Nat := num v * 256 ^ 78 / 58 ^ 107
theorem digs4 {q : Nat} (h : 0 < q / 58 / 58 / 58) (h' : q / 58 / 58 / 58 / 58 = 0) : digs q = [q % 58, q / 58 % 58, q / 58 / 58 % 58, q / 58 / 58 / 58 % 58] := by
 have h2 : 0 < q / 58 / 58 := by omega
 have h1 : 0 < q / 58 := by omega
 have h0 : 0 < q := by omega
 rw [digs_pos h0, digs_pos h1, digs_pos h2, digs_pos h, h', digs_zero]
theorem digs_low : ∀ (k n : Nat), 0 < n / 58 ^ k → ∃ l, l.length = k ∧ digs n = l ++ digs (n / 58 ^ k)
 | 0, n, _ => ⟨[], rfl, by simp⟩
 | k + 1, n, h => by
  have e : n / 58 ^ (k + 1) = n / 58 / 58 ^ k := by rw [Nat.pow_succ, Nat.mul_comm, Nat.div_div_eq_div_mul]
  have h1 : 0 < n := by
   rcases Nat.eq_zero_or_pos n with r | r
   · rw [r, Nat.zero_div] at h; exact absurd h (Nat.lt_irrefl _)
   · exact r
  obtain ⟨l, hl, e2⟩ := digs_low k (n / 58) (e ▸ h)
  exact ⟨n % 58 :: l, by simp [hl], by rw [digs_pos h1, e2, e]; rfl⟩
theorem v_top : ∀ v ∈ vPrv ++ vPub, (num v * 256 ^ 78 + (256 ^ 78 - 1)) / 58 ^ 107 = qv v ∧ 0 < qv v / 58 / 58 / 58 ∧ qv v / 58 / 58 / 58 / 58 = 0 ∧ v.length = 4 ∧ v.headD 0 ≠ 0 := by decide +kernel
theorem v_sgPrv : ∀ v ∈ vPrv, [sg (qv v / 58 / 58 % 58), sg (qv v / 58 % 58), sg (qv v % 58)] = [112, 114, 118] := by decide +kernel
theorem v_sgPub : ∀ v ∈ vPub, [sg (qv v / 58 / 58 % 58), sg (qv v / 58 % 58), sg (qv v % 58)] = [112, 117, 98] := by decide +kernel
theorem mem_vOf {pr : Bool} {v : List UInt8} (h : v ∈ vOf pr) : v ∈ vPrv ++ vPub := by
 cases pr
 · exact List.mem_append_right _ h
 · exact List.mem_append_left _ h
theorem v_len {pr : Bool} {v : List UInt8} (h : v ∈ vOf pr) : v.length = 4 := (v_top v (mem_vOf h)).2.2.2.1
theorem v_cons {pr : Bool} {v : List UInt8} (h : v ∈ vOf pr) : ∃ c r, v = c :: r ∧ c ≠ 0 ∧ r.length = 3 := by
 have h1 := v_top v (mem_vOf h)
 cases v with
 | nil => exact absurd h1.2.2.2.1 (by decide)
 | cons c r => exact ⟨c, r, rfl, h1.2.2.2.2, by have := h1.2.2.2.1; simpa using this⟩
noncomputable def mk3 (pr : Bool) : List Nat := if pr then [112, 114, 118] else [112, 117, 98]
theorem pre58 {pr : Bool} {v t : List UInt8} (h : v ∈ vOf pr) (ht : t.length = 78) : ∃ a r, b58l (v ++ t) = a :: (mk3 pr ++ r) ∧ r.length = 107 := by
 obtain ⟨h1, h2, h3, h4, h5⟩ := v_top v (mem_vOf h)
 obtain ⟨c, r, rfl, hc, hr⟩ := v_cons h
 have hn : num ((c :: r) ++ t) = num (c :: r) * 256 ^ 78 + num t := by rw [num_app, ht]
 have hlt : num t < 256 ^ 78 := ht ▸ num_lt t
 have hq : num ((c :: r) ++ t) / 58 ^ 107 = qv (c :: r) := by
  rw [hn]
  refine Nat.le_antisymm ?_ ?_
  · rw [← h1]; exact Nat.div_le_div_right (by omega)
  · exact Nat.div_le_div_right (Nat.le_add_right _ _)
 have hqp : 0 < num ((c :: r) ++ t) / 58 ^ 107 := by rw [hq]; omega
 obtain ⟨l, hl, e⟩ := digs_low 107 _ hqp
 rw [hq, digs4 h2 h3] at e
 rw [List.cons_append] at e hn ⊢
 rw [b58l_cons hc, e]
 refine ⟨sg (qv (c :: r) / 58 / 58 / 58 % 58), l.reverse.map sg, ?_, by simp [hl]⟩
 have hm : mk3 pr = [sg (qv (c :: r) / 58 / 58 % 58), sg (qv (c :: r) / 58 % 58), sg (qv (c :: r) % 58)] := by
  cases pr
  · rw [v_sgPub _ h]; rfl
  · rw [v_sgPrv _ h]; rfl
 rw [hm]
 simp
theorem pre_e58 {pr : Bool} {v t : List UInt8} (h : v ∈ vOf pr) (ht : t.length = 74) : ∃ a r, e58 (v ++ t) = tx (a :: (mk3 pr ++ r)) ∧ r.length = 107 := by
 obtain ⟨a, r, e, hr⟩ := pre58 (t := t ++ (dsha (v ++ t)).take 4) h (by simp [ht, dsha_length])
 refine ⟨a, r, ?_, hr⟩
 unfold e58 chk b58
 rw [List.append_assoc, e]
noncomputable def HD.Gd (k : HD) : Prop := k.Ok ∧ k.ver ∈ vOf k.pr
theorem HD.Gd.e58 {k : HD} (h : k.Gd) : ∃ a r, e58 k.ser = tx (a :: (mk3 k.pr ++ r)) ∧ r.length = 107 := pre_e58 h.2 (k.tail_length h.1)
theorem mk3_length (pr : Bool) : (mk3 pr).length = 3 := by cases pr <;> rfl
theorem HD.Gd.sl3 {k : HD} (h : k.Gd) : Txt.slice (Mine.e58 k.ser) (some 1) (some 4) = tx (mk3 k.pr) := by
 obtain ⟨a, r, e, hr⟩ := h.e58
 have := mk3_length k.pr
 rw [e, show (1 : Int) = ((1 : Nat) : Int) from rfl, show (4 : Int) = ((4 : Nat) : Int) from rfl, slS_mid _ _ _ (by simp; omega) (by decide)]
 simp [this]
theorem HD.Gd.elen {k : HD} (h : k.Gd) : (Mine.e58 k.ser).length ≤ sizeLine := by
 obtain ⟨a, r, e, hr⟩ := h.e58
 have := mk3_length k.pr
 rw [e, tx_len, sizeLine_eq]; simp; omega
theorem mk3_prv (pr : Bool) : ((tx (mk3 pr)).cps.toList == (Str.ofString "prv").cps.toList) = pr := by rw [tx_cps]; cases pr <;> decide +kernel
theorem mk3_pub (pr : Bool) : ((tx (mk3 pr)).cps.toList == (Str.ofString "pub").cps.toList) = !pr := by rw [tx_cps]; cases pr <;> decide +kernel
section
variable {w : World} {A : Around} {g : Heap} {L : Addr} {m : Loc} {N : Led} {env : Env} {x st : Addr} {d : Nat} {t2 : Tok} {b s : List UInt8} {X : Value → Led → Prop} {pr : Bool} {k : HD}
theorem s_hd58 (B : Bs (KF w.params) g) (r : Rm A 8) (h : HdO w.params (Ob g N) x k) (ok : k.Gd) : GcP (model PR w) A g L m N (.call (.ref 1374) ⟨[.ref x], []⟩) (IsS (e58 k.ser)) X := by
 refine gc_pcall [("self", .ref x), ("version", .none)] B r rfl (by kernel_rfl) (fun s X => binds_K X rfl rfl rfl rfl rfl) (by rfl) ?_ (by decide)
 intro h₀ L' A' r st sr B
 have H := h.up ⟨st, sr⟩ []
 refine gs_assign (P := fun v N' => IsB k.ser v ∧ N' = []) (gv_m1 B (ev_local rfl).gv fun ov N1 e => ?_) ?_
 · obtain ⟨rfl, rfl⟩ := e
   refine ⟨x, 863, fun v N' => v = .none ∧ N' = [], rfl, H.mth (fm_HDKey_serialize _) (fn_863 _) (kp_863 _), (ev_local rfl).gv, ?_⟩
   refine i_b ?_
   exact s_hdser B r H ok.1 (.inr rfl)
 refine i_a fun t => ?_
 refine gs_assign (P := fun v N' => IsS (e58 k.ser) v ∧ N' = []) (ev_g1 B (ev_global B (gl_encode_check _)) (kp_encode_check _) (ev_localB rfl) fun v h => s_encheck B r.le (by rw [k.ser_length ok.1]; decide) h).gv ?_
 refine i_a fun t2 => ?_
 refine gs_if0 (tst_eq (tst_and (b := k.pr) (c := !k.pr) (tst_eq (tst_cmp1 (ev_slS (ev_localS rfl) (pt_int ev_int) (pt_int ev_int) ok.elen) ev_str fun x y h h' => co_eqS h h') (by rw [ok.sl3]; exact mk3_prv _)) fun _ => tst_eq (tst_and (c := true) (tst_not (tst_T (ev_hpriv B r.le (ev_local rfl) H))) fun _ => tst_and0) (by rw [Bool.and_true])) (by cases k.pr <;> rfl)) ?_
 refine gs_if0 (tst_eq (tst_and (b := !k.pr) (c := k.pr) (tst_eq (tst_cmp1 (ev_slS (ev_localS rfl) (pt_int ev_int) (pt_int ev_int) ok.elen) ev_str fun x y h h' => co_eqS h h') (by rw [ok.sl3]; exact mk3_pub _)) fun _ => tst_eq (tst_and (c := true) (tst_T (ev_hpriv B r.le (ev_local rfl) H)) fun _ => tst_and0) (by rw [Bool.and_true])) (by cases k.pr <;> rfl)) ?_
 exact gs_return (ev_localS rfl).gv fun v N' h => h.1
theorem gv_h58 {oe : Expr} {apos p : Pos} {pl : Sem Bool} (B : Bs (KF w.params) g) (r : Rm A 8) (ho : EvP (model PR w) A g L m N (eval oe env) (IsV (.ref x))) (h : HdO w.params (Ob g N) x k) (ok : k.Gd)
 (he : eval (.Call (.Attribute oe "to_base58" apos) [] [] p) env = (do
  let ov ← eval oe env
  standAt apos.atName
  let (f, first) ← holding [ov] (getMethod ov "to_base58" pl)
  callWith p f first (backTo p (starEach [] env)) (backToKw p (keywordEach [] env))) := by rfl) : GvP (model PR w) A g L m N (eval (.Call (.Attribute oe "to_base58" apos) [] [] p) env) (IsS (e58 k.ser)) X := by
 refine gv_m0 B ho.gv (fun ov N1 e => ?_) he
 obtain ⟨rfl, rfl⟩ := e
 exact ⟨x, 1374, rfl, h.mth (fm_HDKey_to_base58 _) (fn_1374 _) (kp_1374 _), s_hd58 B r h ok⟩
theorem HD.sec_len (k : HD) : k.sec.length = 33 := psec_length _
theorem h160_length (d : List UInt8) : 4 ≤ (h160 d).length := by unfold h160 ripe; simp [sha_length]
theorem HD.fpr_len (k : HD) : k.fpr.length = 4 := by unfold HD.fpr; have := h160_length k.sec; simp; omega
end
section
variable {w : World} {M : Model} {A : Around} {prog : Program} {g : Heap} {L a : Addr} {m : Loc} {N : Led} {X : Value → Led → Prop} {XS : Value → Loc → Led → Prop} {K : Frag} {env : Env}
noncomputable abbrev GTs (M : Model) (A : Around) (g : Heap) (L : Addr) (m : Loc) (N : Led) (e : Expr) (env : Env) (b : Bool) (X : Value → Led → Prop) : Prop := GvP M A g L m N (isTrue e env (eval e env)) (fun c => c = b) X
theorem gts_eq {e : Expr} {b c : Bool} (h : GTs M A g L m N e env b X) (q : b = c) : GTs M A g L m N e env c X := q ▸ h
theorem gts_and {e : Expr} {r : List Expr} {p : Pos} {b c : Bool} (h : GTs M A g L m N e env b X) (hr : b = true → GTs M A g L m N (.BoolOp .And r p) env c X) : GTs M A g L m N (.BoolOp .And (e :: r) p) env (b && c) X :=
 gt_and h (fun N' e => by obtain ⟨rfl, rfl⟩ := e; exact ⟨rfl, rfl⟩) fun N' e => by obtain ⟨rfl, rfl⟩ := e; exact hr rfl
theorem gts_and0 {p : Pos} : GTs M A g L m N (.BoolOp .And [] p) env true X := gt_and0 ⟨rfl, rfl⟩
theorem gts_or {e : Expr} {r : List Expr} {p : Pos} {b c : Bool} (h : GTs M A g L m N e env b X) (hr : b = false → GTs M A g L m N (.BoolOp .Or r p) env c X) : GTs M A g L m N (.BoolOp .Or (e :: r) p) env (b || c) X :=
 gt_or h (fun N' e => by obtain ⟨rfl, rfl⟩ := e; exact ⟨rfl, rfl⟩) fun N' e => by obtain ⟨rfl, rfl⟩ := e; exact hr rfl
theorem gts_or0 {p : Pos} : GTs M A g L m N (.BoolOp .Or [] p) env false X := gt_or0 ⟨rfl, rfl⟩
theorem gts_not {e : Expr} {p : Pos} {b : Bool} (h : GTs M A g L m N e env b X) : GTs M A g L m N (.UnaryOp .Not e p) env (!b) X := gt_not (gv_mono h fun c N' e => ⟨by rw [e.1], e.2⟩)
theorem gts_cmp1 {l r : Expr} {op : CmpOp} {p : Pos} {p1 p2 : Value → Prop} {b : Bool} (h1 : GvP M A g L m N (eval l env) p1 X) (h2 : GvP M A g L m N (eval r env) p2 X)
 (h : ∀ x y, p1 x → p2 y → GvP M A g L m N (compareOp op x y) (IsT b) X) (hm : behindInMarks op r = false := by with_unfolding_all rfl) : GTs M A g L m N (.Compare l [op] [r] p) env b X :=
 gt_cmp1 (p2 := fun x y N' => p1 x ∧ p2 y ∧ N' = N) h1 (fun x N' e => by obtain ⟨e, rfl⟩ := e; exact gv_mono h2 fun y N2 e' => ⟨e, e'.1, e'.2⟩) (fun x y N2 e => by
  obtain ⟨e1, e2, rfl⟩ := e
  exact gv_mono (h x y e1 e2) fun v N' e => ⟨b, e.1, rfl, e.2⟩) hm
theorem gts_T {e : Expr} {c : Bool} (h : GvP M A g L m N (eval e env) (IsT c) X) (he : ∀ whole, isTrue e env whole = (do let v ← whole; standAt e.pos; holding [v] (truthy v)) := by intro _; rfl) : GTs M A g L m N e env c X :=
 gt_plain h (fun v N' e1 => by obtain ⟨e1, rfl⟩ := e1; obtain rfl : v = .bool c := e1; exact tru_bool.gv) he
theorem gs_ifF {t : Expr} {b : List Stmt} {p : Pos} {rest : List Stmt} {R : Flow → Loc → Led → Prop} (h : GTs M A g L m N t env false (fun v N' => XS v m N')) (k : Gs M A g L m N (execs rest env) R XS) : Gs M A g L m N (execs (.If t b [] p :: rest) env) R XS :=
 gs_if h (fun N' h => nomatch h.1) fun N' h => by obtain ⟨-, rfl⟩ := h; exact ny_nil k
theorem gv_c1 {fe e1 : Expr} {p : Pos} {f : Value} {p1 : Value → Prop} {P : Value → Led → Prop} (B : Bs K g) (hf : EvP M A g L m N (eval fe env) (IsV f)) (hk : Kp K f) (h1 : GvP M A g L m N (eval e1 env) p1 X) (hc : ∀ v, p1 v → Gv M A g L m N (call f [v]) P X)
 (he : eval (.Call fe [e1] [] p) env = (do callWith p (← eval fe env) [] (backTo p (starEach [e1] env)) (backToKw p (keywordEach [] env))) := by rfl)
 (he1 : starEach [e1] env = (false, eval e1 env) :: starEach [] env := by rfl) (hplain : (backTo p (starEach [e1] env)).any (·.1) = false := by rfl) : Gv M A g L m N (eval (.Call fe [e1] [] p) env) P X :=
 gv_g1 B hf hk h1 (fun v N' e => by obtain ⟨e, rfl⟩ := e; exact hc v e) he he1 hplain
theorem sub_rest {E : Value → Shared → Prop} {s : Shared} {value slice : Expr} {pos : Pos} {o : Value} {Q : Value → Shared → Prop} (h : wpAny M A (eval slice env) (fun i s₂ => wpAny M A (subscriptTail value slice o i) Q E s₂) E s) : wpAny M A (do
 let i ← holding [o] (eval slice env)
 standAt pos
 let r ← subscripted slice (← getitemInPython o) o i
 letTemporaryGo value o r
 pure r) Q E s := wpAny_bind (wpAny_holding (wpAny_mono h (fun i s₂ h₂ => wpAny_bind (wpAny_standAt h₂)) fun _ _ x => x))
theorem gv_slS {v : Expr} {lo hi : Option Expr} {p p' : Pos} {x : Str} {i j : Option Int} (h : GvP (model prog w) A g L m N (eval v env) (IsS x) X) (hlo : Part (model prog w) A g L m N lo env i) (hhi : Part (model prog w) A g L m N hi env j) (hz : x.length ≤ sizeLine)
 (hs : ∀ x t a, subscripted (.Slice lo hi none p) false (.str x t) (.ref a) = operate [.ref a, .str x t] (getItem (.str x t) (.ref a)) := by intro _ _ _; with_unfolding_all rfl)
 (ht : ∀ x t r, letTemporaryGo v (.str x t) r = pure () := by intro _ _ _; with_unfolding_all rfl) :
 GvP (model prog w) A g L m N (eval (.Subscript v (.Slice lo hi none p) p') env) (IsS (Txt.slice x i j)) X := by
 rw [arm_eval_Subscript]
 refine gv_bind h fun o N1 e1 => Ev.gv fun s Q E W1 q => sub_rest ?_
 obtain ⟨⟨t, rfl⟩, rfl⟩ := e1
 refine wpAny_Slice (hlo _ _ E W1 fun l h2 tk2 N2 e2 W2 => ?_)
 obtain ⟨e2, rfl⟩ := e2
 refine hhi _ _ E W2 fun u h3 tk3 N3 e3 W3 => ?_
 obtain ⟨e3, rfl⟩ := e3
 refine wpAny_pure ?_
 have k : ∀ h' t' k, Fr g L h' (lk m) → News g L h' N3 → Q (.str (Txt.slice x i j) t') { s with heap := h', toks := k } := fun h' t' k F n => q _ h' k N3 ⟨⟨_, rfl⟩, rfl⟩ ⟨F, n, W3.nd⟩
 cases e2 <;> cases e3
 · exact slice_strN_nn (s := { s with heap := h3, toks := tk3 }) W3.fr W3.nw k (hs _ _ _) (ht _ _) hz
 · exact slice_strN_ns (s := { s with heap := h3, toks := tk3 }) W3.fr W3.nw k (hs _ _ _) (ht _ _) hz
 · exact slice_strN_sn (s := { s with heap := h3, toks := tk3 }) W3.fr W3.nw k (hs _ _ _) (ht _ _) hz
 · exact slice_strN_ss (s := { s with heap := h3, toks := tk3 }) W3.fr W3.nw k (hs _ _ _) (ht _ _) hz
theorem gv_slB {v : Expr} {lo hi : Option Expr} {p p' : Pos} {b : List UInt8} {x y : Option Int} (h : GvP (model prog w) A g L m N (eval v env) (IsB b) X) (hlo : Part (model prog w) A g L m N lo env x) (hhi : Part (model prog w) A g L m N hi env y) (hz : b.length ≤ 16777216)
 (hs : ∀ x t a, subscripted (.Slice lo hi none p) false (.bytes x t) (.ref a) = operate [.ref a, .bytes x t] (getItem (.bytes x t) (.ref a)) := by intro _ _ _; with_unfolding_all rfl)
 (ht : ∀ x t r, letTemporaryGo v (.bytes x t) r = pure () := by intro _ _ _; with_unfolding_all rfl) :
 GvP (model prog w) A g L m N (eval (.Subscript v (.Slice lo hi none p) p') env) (IsB (sl b x y)) X := by
 rw [arm_eval_Subscript]
 refine gv_bind h fun o N1 e1 => Ev.gv fun s Q E W1 q => sub_rest ?_
 obtain ⟨⟨t, rfl⟩, rfl⟩ := e1
 refine wpAny_Slice (hlo _ _ E W1 fun l h2 tk2 N2 e2 W2 => ?_)
 obtain ⟨e2, rfl⟩ := e2
 refine hhi _ _ E W2 fun u h3 tk3 N3 e3 W3 => ?_
 obtain ⟨e3, rfl⟩ := e3
 refine wpAny_pure ?_
 refine KBc.slice_K (s := { s with heap := h3, toks := tk3 }) W3.fr W3.nw rfl e2 e3 (by rw [KBw.ints_length]; simpa using hz) (fun h' t' k F' n' _ => ?_) (hs _ _ _) (ht _ _)
 rw [picked_list]
 exact q _ h' k N3 ⟨⟨_, rfl⟩, rfl⟩ ⟨F', n', W3.nd⟩
end
section
variable {w : World} {A : Around} {g : Heap} {L : Addr} {m : Loc} {N : Led} {env : Env} {x dx kx C st : Addr} {es : List DictEntry} {n : Nat} {nm : Str} {t1 t2 t3 : Tok} {b s : List UInt8} {X : Value → Led → Prop} {XS : Value → Loc → Led → Prop} {pr : Bool} {k : HD}
theorem gs_new {e oe : Expr} {p1 p2 : Pos} {rest : List Stmt} {pv : Value → Prop} {R : Flow → Loc → Led → Prop} (B : Bs (KF w.params) g) (hv : EvP (model PR w) A g L m [(x, instObj 1499 dx), (dx, dictOf es n)] (eval e env) pv) (ho : EvP (model PR w) A g L m [(x, instObj 1499 dx), (dx, dictOf es n)] (eval oe env) (IsV (.ref x)))
 (ht : takerIn (KF w.params) 1499 nm = some none) (hl : (getL nm es).isSome = true) (hz : es.length < 1000) (hp : ∀ t v, putL nm (PyData.keyHash w.params nm) (.str nm t) v es = es ++ [en w.params nm t v]) (hn : putN nm es n = n + 1)
 (k : ∀ v t, pv v → Gs (model PR w) A g L m [(x, instObj 1499 dx), (dx, dictOf (es ++ [en w.params nm t v]) (n + 1))] (execs rest env) R XS)
 (hsw : swapsWith e (some (.Attribute oe nm p1)) p2.line env = pure false := by rfl) : Gs (model PR w) A g L m [(x, instObj 1499 dx), (dx, dictOf es n)] (execs (.Assign [.Attribute oe nm p1] e p2 :: rest) env) R XS :=
 gs_setattr (i := 1) B hv ho (.inl (.head _)) rfl (cs_HDKey _) (cp_HDKey _) ht (ch_HDKey _) hl hz (fun v t h => by rw [hp, hn]; exact k v t h) hsw
theorem s_hdinit {cv vv dv fv nv : Value} {kw : List (Str × Value)} (B : Bs (KF w.params) g) (r : Rm A 9) (hk : KeyO w.params (Ob g N) kx k.pr k.kb) (ok : k.Gd) (h1 : IsB k.cc cv) (h2 : IsB k.ver vv) (h3 : IsI (k.dep : Int) dv) (h4 : IsB k.fp fv) (h5 : IsI (k.ix : Int) nv)
 (hb : ∀ s : Shared, (KF w.params).In s.heap → BindsTo s (fnX nx72 nx203 (fp2 53 0) (fb2 53 0) (fs2 53 0) [] (.ref 1306) .none .none (.str nx202 2030) none (.ref 1312) .none) ⟨[.ref x, .ref kx, cv], kw⟩ [("self", .ref x), ("key", .ref kx), ("chain_code", cv), ("version", vv), ("depth", dv), ("fingerprint", fv), ("child_number", nv)]) :
 Gc (model PR w) A g L m ((x, instObj 1499 dx) :: (dx, dictOf [] 0) :: N) (.call (.ref 1313) ⟨[.ref x, .ref kx, cv], kw⟩) (fun v N' => v = .none ∧ ∃ T, N' = (x, instObj 1499 dx) :: (dx, dictOf (hdE w.params T kx k []) 7) :: N) X := by
 obtain ⟨c1, rfl⟩ := h1; obtain ⟨c2, rfl⟩ := h2; obtain ⟨c3, rfl⟩ := h3; obtain ⟨c4, rfl⟩ := h4; obtain ⟨c5, rfl⟩ := h5
 refine gc_mono (gc_call (C := [(x, instObj 1499 dx), (dx, dictOf [] 0)]) (R := N) (P := fun v C' => v = .none ∧ ∃ T, C' = [(x, instObj 1499 dx), (dx, dictOf (hdE w.params T kx k []) 7)])
  _ B r rfl (by kernel_rfl) hb (by rfl) ?_ (by decide)) ?_
 · intro h₀ L' A' r st sr B
   have hk' := fun N' => hk.up ⟨st, sr⟩ N'
   have kl := ok.1.kl
   have k1 := ok.1.k1
   refine gs_new B (ev_local rfl) (ev_local rfl) (ft_HDKey_key _) rfl (by decide) (fun _ _ => rfl) rfl fun v t1 e => ?_
   obtain rfl : v = _ := e
   have hlen : (serK k.pr k.kb).length = if k.pr then 32 else 33 := serK_len ok.1
   refine gs_ifF (gts_eq (gts_and (b := !k.pr) (c := k.pr) (gts_eq (gts_cmp1 (p1 := IsI ((serK k.pr k.kb).length : Int)) (gv_c1 B (ev_builtin B (no_len _) (by rfl)) kp_b (gv_kser B r.le (ev_mono (ev_local rfl) fun v N' e => ⟨⟨kx, e.1, hk' _⟩, e.2⟩) kl k1) fun v h => (call_lenB h (by rw [hlen]; split <;> decide)).gv) ev_int.gv fun x y h h' => (co_ne h h').gv) (by rw [hlen]; cases k.pr <;> rfl)) fun _ => gts_eq (gts_and (c := true) (gts_cmp1 (p1 := IsI ((serK k.pr k.kb).length : Int)) (gv_c1 B (ev_builtin B (no_len _) (by rfl)) kp_b (gv_kser B r.le (ev_mono (ev_local rfl) fun v N' e => ⟨⟨kx, e.1, hk' _⟩, e.2⟩) kl k1) fun v h => (call_lenB h (by rw [hlen]; split <;> decide)).gv) ev_int.gv fun x y h h' => (co_ne h h').gv) fun _ => gts_and0) (by rw [hlen, Bool.and_true]; cases k.pr <;> rfl)) (by cases k.pr <;> rfl)) ?_
   refine gs_if1 (tst_cmp1 (ev_local rfl) ev_none fun x y h h' => co_isnt h h' rfl) ?_
   refine gs_new B (ev_local rfl) (ev_local rfl) (ft_HDKey_version _) rfl (by simp) (fun _ _ => rfl) rfl fun v t2 e => ny_nil ?_
   obtain rfl : v = _ := e
   refine gs_new B (ev_local rfl) (ev_local rfl) (ft_HDKey_chain_code _) rfl (by simp) (fun _ _ => rfl) rfl fun v t3 e => ?_
   obtain rfl : v = _ := e
   refine gs_new B (ev_local rfl) (ev_local rfl) (ft_HDKey_depth _) rfl (by simp) (fun _ _ => rfl) rfl fun v t4 e => ?_
   obtain rfl : v = _ := e
   refine gs_new B (ev_local rfl) (ev_local rfl) (ft_HDKey_fingerprint _) rfl (by simp) (fun _ _ => rfl) rfl fun v t5 e => ?_
   obtain rfl : v = _ := e
   refine gs_new B ev_bytes (ev_local rfl) (ft_HDKey_my_fingerprint _) rfl (by simp) (fun _ _ => rfl) rfl fun v t6 e => ?_
   obtain ⟨c6, rfl⟩ := e
   refine gs_new B (ev_local rfl) (ev_local rfl) (ft_HDKey_child_number _) rfl (by simp) (fun _ _ => rfl) rfl fun v t7 e => ?_
   obtain rfl : v = _ := e
   let T : Nat → Tok := fun i => [t1, t2, c2, t3, c1, t4, c3, t5, c4, t6, c6, t7, c5].getD i 0
   have H : HdO w.params (Ob h₀ [(x, instObj 1499 dx), (dx, dictOf (hdE w.params T kx k []) 7)]) x k := ⟨dx, kx, T, [], .inl (.head _), .inl (.tail _ (.head _)), hk' _, .inl rfl⟩
   show Gs (model PR w) A' h₀ L' _ [(x, instObj 1499 dx), (dx, dictOf (hdE w.params T kx k []) 7)] _ _ _
   refine gs_ifF (gts_eq (gts_and (b := k.pr) (c := !k.pr) (tst_T (ev_hpriv B r.le (ev_local rfl) H)).gv fun _ => gts_eq (gts_and (c := true) (gts_cmp1 (p1 := IsS (tx (mk3 k.pr))) (gv_mono (gv_slS (gv_h58 B r.le (ev_local rfl) H ok) (pt_int ev_int) (pt_int ev_int) ok.elen) fun v N' e => by rw [ok.sl3] at e; exact e) ev_str.gv fun x y h h' => (co_neS h h').gv) fun _ => gts_and0) (by rw [Bool.and_true]; exact congrArg not (mk3_prv _))) (by cases k.pr <;> rfl)) ?_
   refine gs_ifF (gts_eq (gts_and (b := !k.pr) (c := k.pr) (gts_not (tst_T (ev_hpriv B r.le (ev_local rfl) H)).gv) fun _ => gts_eq (gts_and (c := true) (gts_cmp1 (p1 := IsS (tx (mk3 k.pr))) (gv_mono (gv_slS (gv_h58 B r.le (ev_local rfl) H ok) (pt_int ev_int) (pt_int ev_int) ok.elen) fun v N' e => by rw [ok.sl3] at e; exact e) ev_str.gv fun x y h h' => (co_neS h h').gv) fun _ => gts_and0) (by rw [Bool.and_true]; exact (congrArg not (mk3_pub _)).trans (Bool.not_not _))) (by cases k.pr <;> rfl)) ?_
   exact gs_nil ⟨rfl, T, rfl⟩
 · refine i_f (i_h (i_1 fun T => ?_))
   exact ⟨rfl, T, rfl⟩
end
noncomputable def HdN (P : Params) (k : HD) (x kx : Addr) (N N' : Led) : Prop := ∃ dx T, N' = (x, instObj 1499 dx) :: (dx, dictOf (hdE P T kx k []) 7) :: N
theorem HdN.O {P : Params} {k : HD} {x kx : Addr} {N N' : Led} {g : Heap} (h : HdN P k x kx N N') (hk : KeyO P (Ob g N) kx k.pr k.kb) : HdO P (Ob g N') x k := by
 obtain ⟨dx, T, rfl⟩ := h
 exact ⟨dx, kx, T, [], .inl (.head _), .inl (.tail _ (.head _)), hk.mono fun a o e => e.mono (fun _ _ e => e) fun p hp => .inl (.tail _ (.tail _ hp)), .inl rfl⟩
theorem HdN.sub {P : Params} {k : HD} {x kx : Addr} {N N' : Led} (h : HdN P k x kx N N') : N.Sublist N' := by
 obtain ⟨dx, T, rfl⟩ := h
 exact (List.sublist_cons_self _ _).trans (List.sublist_cons_self _ _)
section
variable {w : World} {A : Around} {g : Heap} {L : Addr} {m : Loc} {N : Led} {env : Env} {x dx kx : Addr} {s : List UInt8} {X : Value → Led → Prop} {pr : Bool} {k : HD}
theorem s_hdnewG {cv vv dv fv nv : Value} {kw : List (Str × Value)} (B : Bs (KF w.params) g) (r : Rm A 10) (hk : KeyO w.params (Ob g N) kx k.pr k.kb) (ok : k.Gd) (h1 : IsB k.cc cv) (h2 : IsB k.ver vv) (h3 : IsI (k.dep : Int) dv) (h4 : IsB k.fp fv) (h5 : IsI (k.ix : Int) nv)
 (hb : ∀ (x : Addr) (s : Shared), (KF w.params).In s.heap → BindsTo s (fnX nx72 nx203 (fp2 53 0) (fb2 53 0) (fs2 53 0) [] (.ref 1306) .none .none (.str nx202 2030) none (.ref 1312) .none) ⟨[.ref x, .ref kx, cv], kw⟩ [("self", .ref x), ("key", .ref kx), ("chain_code", cv), ("version", vv), ("depth", dv), ("fingerprint", fv), ("child_number", nv)]) :
 Gc (model PR w) A g L m N (.call (.ref 1499) ⟨[.ref kx, cv], kw⟩) (fun v N' => ∃ x, v = .ref x ∧ HdN w.params k x kx N N') X :=
 gc_mono (gc_make (P := fun x dx N' => ∃ T, N' = (x, instObj 1499 dx) :: (dx, dictOf (hdE w.params T kx k []) 7) :: N) B (cm_HDKey _) (ci_HDKey _) (fn_1313 _) fun x dx => s_hdinit B r.made hk ok h1 h2 h3 h4 h5 (hb x)) fun v N' ⟨x, dx, e, T, h⟩ => ⟨x, e, dx, T, h⟩
theorem s_hdnew4 {cv vv dv fv nv : Value} (B : Bs (KF w.params) g) (r : Rm A 10) (hk : KeyO w.params (Ob g N) kx k.pr k.kb) (ok : k.Gd) (h1 : IsB k.cc cv) (h2 : IsB k.ver vv) (h3 : IsI (k.dep : Int) dv) (h4 : IsB k.fp fv) (h5 : IsI (k.ix : Int) nv) :
 Gc (model PR w) A g L m N (.call (.ref 1499) ⟨[.ref kx, cv], [("version", vv), ("depth", dv), ("fingerprint", fv), ("child_number", nv)]⟩) (fun v N' => ∃ x, v = .ref x ∧ HdN w.params k x kx N N') X :=
 s_hdnewG B r hk ok h1 h2 h3 h4 h5 fun x s X => binds_K X rfl rfl rfl rfl rfl
theorem s_hdnew1 {cv vv : Value} (B : Bs (KF w.params) g) (r : Rm A 10) (hk : KeyO w.params (Ob g N) kx k.pr k.kb) (ok : k.Gd) (h1 : IsB k.cc cv) (h2 : IsB k.ver vv) (h3 : k.dep = 0) (h4 : k.fp = [0, 0, 0, 0]) (h5 : k.ix = 0) :
 Gc (model PR w) A g L m N (.call (.ref 1499) ⟨[.ref kx, cv], [("version", vv)]⟩) (fun v N' => ∃ x, v = .ref x ∧ HdN w.params k x kx N N') X :=
 s_hdnewG (dv := .int 0 2062) (fv := .bytes #[0, 0, 0, 0] 2063) (nv := .int 0 2064) B r hk ok h1 h2 (by rw [h3]; exact ⟨_, rfl⟩) (by rw [h4]; exact ⟨_, rfl⟩) (by rw [h5]; exact ⟨_, rfl⟩) fun x s X => binds_K X rfl rfl rfl rfl rfl
theorem gv_hdcall {p q3 q4 q5 q6 : Pos} {e1 e2 e3 e4 e5 e6 : Expr} {P1 : Addr → Led → Prop} (B : Bs (KF w.params) g) (r : Rm A 10) (ok : k.Gd) (h1 : Gv (model PR w) A g L m N (eval e1 env) (fun v N' => ∃ kx, v = .ref kx ∧ P1 kx N') X)
 (hk : ∀ kx N', P1 kx N' → KeyO w.params (Ob g N') kx k.pr k.kb ∧ EvP (model PR w) A g L m N' (eval e2 env) (IsB k.cc) ∧ EvP (model PR w) A g L m N' (eval e3 env) (IsB k.ver) ∧ EvP (model PR w) A g L m N' (eval e4 env) (IsI (k.dep : Int)) ∧ EvP (model PR w) A g L m N' (eval e5 env) (IsB k.fp) ∧ EvP (model PR w) A g L m N' (eval e6 env) (IsI (k.ix : Int)))
 (he1 : starEach [e1, e2] env = (false, eval e1 env) :: starEach [e2] env := by rfl) (he2 : starEach [e2] env = (false, eval e2 env) :: starEach [] env := by rfl) (hplain : (backTo p (starEach [e1, e2] env)).any (·.1) = false := by rfl) :
 Gv (model PR w) A g L m N (callWith p (.ref 1499) [] (backTo p (starEach [e1, e2] env)) (backToKw p (keywordEach [⟨some "version", e3, q3⟩, ⟨some "depth", e4, q4⟩, ⟨some "fingerprint", e5, q5⟩, ⟨some "child_number", e6, q6⟩] env)))
  (fun v N' => ∃ x kx N1, v = .ref x ∧ P1 kx N1 ∧ HdN w.params k x kx N1 N') X := by
 refine gv_callWith (PA := fun vs N' => ∃ kx cv, vs = [.ref kx, cv] ∧ P1 kx N' ∧ IsB k.cc cv) (PK := fun vs ks N' => ∃ kx cv vv dv fv nv, vs = [.ref kx, cv] ∧ P1 kx N' ∧ IsB k.cc cv ∧ ks = [vv, dv, fv, nv] ∧ IsB k.ver vv ∧ IsI (k.dep : Int) dv ∧ IsB k.fp fv ∧ IsI (k.ix : Int) nv) B (kp_HDKey _) (gr_cons h1 ?_ he1) ?_ ?_ (by rfl) hplain (by rfl)
 · refine i_g ?_; rintro kx N' hp
   refine gr_cons (hk kx N' hp).2.1.gv ?_ he2
   refine i_c fun cv hc => ?_
   exact gr_nil ⟨kx, cv, rfl, hp, hc⟩
 · rintro vs N' ⟨kx, cv, rfl, hp, hc⟩
   obtain ⟨-, -, a1, a2, a3, a4⟩ := hk kx N' hp
   refine gk_cons a1.gv ?_
   refine i_c fun vv hv => ?_
   refine gk_cons a2.gv ?_
   refine i_c fun dv hd => ?_
   refine gk_cons a3.gv ?_
   refine i_c fun fv hf => ?_
   refine gk_cons a4.gv ?_
   refine i_c fun nv hn => ?_
   exact gk_nil ⟨kx, cv, vv, dv, fv, nv, rfl, hp, hc, rfl, hv, hd, hf, hn⟩
 · rintro vs ks N' ⟨kx, cv, vv, dv, fv, nv, rfl, hp, hc, rfl, hv, hd, hf, hn⟩
   exact gv_of_gc (gc_mono (s_hdnew4 B r (hk kx N' hp).1 ok hc hv hd hf hn) fun v N2 ⟨x, e, h⟩ => ⟨x, kx, N', e, hp, h⟩)
end
noncomputable def takeS : List Stmt → Nat → List Stmt
 | [], _ => []
 | _ :: _, 0 => []
 | s :: r, n + 1 => s :: takeS r n
noncomputable def dropS : List Stmt → Nat → List Stmt
 | [], _ => []
 | s :: r, 0 => s :: r
 | _ :: r, n + 1 => dropS r n
theorem take_drop : ∀ (l : List Stmt) (n : Nat), takeS l n ++ dropS l n = l
 | [], _ => rfl
 | _ :: _, 0 => rfl
 | s :: r, n + 1 => by rw [takeS, dropS, List.cons_append, take_drop r n]
section
variable {M : Model} {A : Around} {g : Heap} {L : Addr} {m : Loc} {N : Led} {env : Env} {XS : Value → Loc → Led → Prop}
theorem wp_execs_app {Γ : Ctx} {l2 : List Stmt} {Q : Flow → Pos → Shared → Prop} {E : Value → Pos → Shared → Prop} : ∀ (l1 : List Stmt) (p : Pos) (s : Shared),
 Sem.wp M Γ (execs l1 env) (fun fl p' s' => match fl with | .next => Sem.wp M Γ (execs l2 env) Q E p' s' | f => Q f p' s') E p s → Sem.wp M Γ (execs (l1 ++ l2) env) Q E p s
 | [], p, s, h => h
 | st :: r, p, s, h => by
  rw [List.cons_append, execs_cons, Sem.wp_bind']
  rw [execs_cons, Sem.wp_bind'] at h
  refine Sem.wp_mono M Γ _ (fun f p' s' h' => ?_) (fun _ _ _ h' => h') _ _ h
  cases f with
  | next => exact wp_execs_app r p' s' h'
  | _ => exact h'
theorem g_split {A : Around} {l : List Stmt} {n : Nat} {Q : Flow → Shared → Prop} {E : Value → Shared → Prop} {s : Shared} (h : wpG M A (execs (takeS l n) env) (fun fl s' => match fl with | .next => wpG M A (execs (dropS l n) env) Q E s' | f => Q f s') E s) : wpG M A (execs l env) Q E s := fun Γ p i c => by
 have h1 := h Γ p i c
 rw [← take_drop l n]
 refine wp_execs_app _ _ _ (Sem.wp_mono M Γ _ (fun f p' s' h' => ?_) (fun _ _ _ h' => h') _ _ h1)
 cases f with
 | next => exact h' Γ p' i c
 | _ => exact h'
theorem gs_split {l : List Stmt} {n : Nat} {J : Loc → Led → Prop} {R : Flow → Loc → Led → Prop} (h : Gs M A g L m N (execs (takeS l n) env) (fun fl m' N' => fl = .next ∧ J m' N') XS) (k : ∀ m' N', J m' N' → Gs M A g L m' N' (execs (dropS l n) env) R XS) : Gs M A g L m N (execs l env) R XS :=
 fun s Q E W q x => g_split (h s _ E W (fun fl h' tk' m' N' e W' => by
  obtain ⟨rfl, e⟩ := e
  exact k m' N' e { s with heap := h', toks := tk' } Q E W' (fun fl h2 tk2 m2 N2 p2 W2 => q fl h2 tk2 m2 N2 p2 W2) fun e h2 tk2 m2 N2 p2 W2 => x e h2 tk2 m2 N2 p2 W2) x)
end
noncomputable def HD.dat (k : HD) (i : Nat) : List UInt8 := (if 2147483648 ≤ i then [0] ++ k.kb else k.sec) ++ be 4 i
noncomputable def HD.raw (k : HD) (i : Nat) : List UInt8 := hmac5 k.cc (k.dat i)
noncomputable def HD.cnum (k : HD) (i : Nat) : Nat := if k.pr then (num ((k.raw i).take 32) + num k.kb) % gP else (num k.kb + num ((k.raw i).take 32) * gB) % gP
noncomputable def HD.child (k : HD) (i : Nat) : HD := ⟨k.pr, be 32 (k.cnum i), (k.raw i).drop 32, k.ver, k.fpr, k.dep + 1, i⟩
theorem HD.raw_len (k : HD) (i : Nat) : (k.raw i).length = 64 := hmac5_length _ _
theorem HD.cnum_t {k : HD} {i : Nat} (h : k.pr = true) : k.cnum i = (num ((k.raw i).take 32) + num k.kb) % gP := if_pos h
theorem HD.cnum_f {k : HD} {i : Nat} (h : k.pr = false) : k.cnum i = (num k.kb + num ((k.raw i).take 32) * gB) % gP := if_neg (by rw [h]; decide)
theorem HD.cnum_lt (k : HD) (i : Nat) : k.cnum i < gP := by unfold HD.cnum; split <;> exact Nat.mod_lt _ gP_pos
theorem num_be32 {n : Nat} (h : n < gP) : num (be 32 n) = n := num_be _ _ (Nat.lt_trans h gP_256)
theorem HD.Gd.child {k : HD} {i : Nat} (h : k.Gd) (hz : 0 < k.cnum i) (hd : k.dep + 1 < 256) (hi : i < 256 ^ 4) : (k.child i).Gd := by
 refine ⟨⟨be_length _ _, ?_, ?_, ?_, ?_, HD.fpr_len k, hd, hi⟩, h.2⟩
 · show 0 < num (be 32 (k.cnum i)); rw [num_be32 (k.cnum_lt i)]; exact hz
 · show num (be 32 (k.cnum i)) < gP; rw [num_be32 (k.cnum_lt i)]; exact k.cnum_lt i
 · show ((k.raw i).drop 32).length = 32; rw [List.length_drop, k.raw_len]
 · exact h.1.vl
section
variable {w : World} {M : Model} {A : Around} {g : Heap} {L a : Addr} {m : Loc} {N : Led} {env : Env} {x dx kx : Addr} {o : Obj} {t1 t2 t3 u : Tok} {b s : List UInt8} {X : Value → Led → Prop} {XS : Value → Loc → Led → Prop} {pr : Bool} {k : HD} {i : Nat}
theorem gv_c2 {fe e1 e2 : Expr} {p : Pos} {f : Value} {p1 p2 : Value → Prop} {P : Value → Led → Prop} {K : Frag} (B : Bs K g) (hf : EvP M A g L m N (eval fe env) (IsV f)) (hk : Kp K f) (h1 : GvP M A g L m N (eval e1 env) p1 X) (h2 : GvP M A g L m N (eval e2 env) p2 X) (hc : ∀ v u, p1 v → p2 u → Gv M A g L m N (call f [v, u]) P X)
 (he : eval (.Call fe [e1, e2] [] p) env = (do callWith p (← eval fe env) [] (backTo p (starEach [e1, e2] env)) (backToKw p (keywordEach [] env))) := by rfl)
 (he1 : starEach [e1, e2] env = (false, eval e1 env) :: starEach [e2] env := by rfl) (he2 : starEach [e2] env = (false, eval e2 env) :: starEach [] env := by rfl) (hplain : (backTo p (starEach [e1, e2] env)).any (·.1) = false := by rfl) : Gv M A g L m N (eval (.Call fe [e1, e2] [] p) env) P X :=
 gv_Call hf (gv_callWith (PA := fun vs N' => (∃ v u, vs = [v, u] ∧ p1 v ∧ p2 u) ∧ N' = N) (PK := fun vs ks N' => (∃ v u, vs = [v, u] ∧ p1 v ∧ p2 u ∧ ks = []) ∧ N' = N) B hk (by
  refine gr_cons h1 (fun v N' e => ?_) he1
  obtain ⟨e, rfl⟩ := e
  refine gr_cons h2 (fun u N2 e' => ?_) he2
  obtain ⟨e', rfl⟩ := e'
  exact gr_nil ⟨⟨v, u, rfl, e, e'⟩, rfl⟩)
  (fun vs N' e => by obtain ⟨⟨v, u, rfl, e1, e2⟩, rfl⟩ := e; exact gk_nil ⟨⟨v, u, rfl, e1, e2, rfl⟩, rfl⟩) (fun vs ks N' e => by obtain ⟨⟨v, u, rfl, e1, e2, rfl⟩, rfl⟩ := e; exact hc v u e1 e2) (by rfl) hplain (by rfl)) he
theorem gv_addB {l r : Expr} {p : Pos} {x y : List UInt8} {prog : Program} (h1 : GvP (model prog w) A g L m N (eval l env) (IsB x) X) (h2 : GvP (model prog w) A g L m N (eval r env) (IsB y) X) (hz : x.length + y.length ≤ 16777216) : GvP (model prog w) A g L m N (eval (.BinOp l .Add r p) env) (IsB (x ++ y)) X :=
 gv_BinOp (p2 := fun v N' => IsB y v ∧ N' = N) h1 (fun v N' e => by obtain ⟨-, rfl⟩ := e; exact h2) fun u v N1 N2 e1 e2 => by
  obtain ⟨⟨t1, rfl⟩, rfl⟩ := e1
  obtain ⟨⟨t2, rfl⟩, rfl⟩ := e2
  exact Ev.gv fun s Q E W q => KBy.add_bytes (by simpa using hz) fun t' k => by
   rw [List.append_toArray]
   exact q _ s.heap k _ ⟨⟨_, rfl⟩, rfl⟩ W
theorem gs_ifE {t : Expr} {bd oe : List Stmt} {p : Pos} {rest : List Stmt} {c : Bool} {R : Flow → Loc → Led → Prop} (J : Loc → Led → Prop) (h : Tst M A g L m N t env c) (ht : c = true → Gs M A g L m N (execs bd env) (fun fl m' N' => fl = .next ∧ J m' N') XS) (hf : c = false → Gs M A g L m N (execs oe env) (fun fl m' N' => fl = .next ∧ J m' N') XS)
 (k : ∀ m' N', J m' N' → Gs M A g L m' N' (execs rest env) R XS) : Gs M A g L m N (execs (.If t bd oe p :: rest) env) R XS :=
 gs_if (P := fun b N' => b = c ∧ N' = N) h.gv (fun N' e => by obtain ⟨rfl, rfl⟩ := e; exact gs_mono (ht rfl) fun fl m' N' e => by obtain ⟨rfl, e⟩ := e; exact k m' N' e) fun N' e => by obtain ⟨rfl, rfl⟩ := e; exact gs_mono (hf rfl) fun fl m' N' e => by obtain ⟨rfl, e⟩ := e; exact k m' N' e
theorem in_addI {x y : Int} {u v : Value} {prog : Program} (h1 : IsI x u) (h2 : IsI y v) : EvP (model prog w) A g L m N (inplaceOp .Add u v) (IsI (x + y)) := by
 obtain ⟨_, rfl⟩ := h1; obtain ⟨_, rfl⟩ := h2
 exact fun s Q E W q => AutoIntOps.iadd_0 (q _ s.heap _ N ⟨⟨_, rfl⟩, rfl⟩ W)
theorem gvB_eq {t : Sem Value} {x y : List UInt8} (h : GvP M A g L m N t (IsB x) X) (q : x = y) : GvP M A g L m N t (IsB y) X := q ▸ h
noncomputable def ChJ (k : HD) (i : Nat) (x : Addr) (m : Loc) (N : Led) : Prop :=
 N = [] ∧ lk m "self" = some (.ref x) ∧ (∃ t, lk m "index" = some (.int (i : Int) t)) ∧ (∃ t, lk m "fingerprint" = some (.bytes k.fpr.toArray t)) ∧ (∃ t, lk m "secret" = some (.bytes ((k.raw i).take 32).toArray t)) ∧ ∃ t, lk m "chain_code" = some (.bytes ((k.raw i).drop 32).toArray t)
theorem child_pre {i0 : Int} {hb : Bool} {ti : Tok} (B : Bs (KF w.params) g) (r : Rm A 7) (H : ∀ N', HdO w.params (Ob g N') x k) (ok : k.Ok) (hi : i < 4294967296) (hp : 2147483648 ≤ i → k.pr = true) (h0 : (hb = false ∧ i0 = i) ∨ (hb = true ∧ i0 = (i : Int) - 2147483648 ∧ 2147483648 ≤ i)) :
 Gs (model PR w) A g L [("hardened", .bool hb), ("index", .int i0 ti), ("self", .ref x)] [] (execs (takeS (fb2 53 16) 10) (envX nx215 (fs2 53 16) L 1447 (.ref 1446) [])) (fun fl m' N' => fl = .next ∧ ChJ k i x m' N') XS := by
 refine gs_if0 (tst_eq (tst_cmp1 (ev_localI rfl) ev_int fun x y h h' => co_gt h h') (decide_eq_false (by omega))) ?_
 refine gs_ifJ (fun m' N' => N' = [] ∧ lk m' "self" = some (.ref x) ∧ (∃ t, lk m' "index" = some (.int (i : Int) t)) ∧ lk m' "hardened" = some (.bool hb)) (tst_eq (tst_and (b := hb) (c := decide (i0 < 2147483648)) (tst_T (ev_local rfl)) fun _ => tst_eq (tst_and (c := true) (tst_cmp1 (ev_localI rfl) (ev_globalI B (gl_HARDENED_INDEX _)) fun x y h h' => co_lt h h') fun _ => tst_and0) (by rw [Bool.and_true])) rfl) (fun h => ?_) (fun h => ?_) ?_
 · have hbt : hb = true := by cases hb <;> simp_all
   have he : i0 + 2147483648 = (i : Int) := by
    rcases h0 with h0 | h0
    · rw [hbt] at h0; exact absurd h0.1 (by decide)
    · omega
   refine gs_aug (p1 := fun v N' => IsI 2147483648 v ∧ N' = []) (P := fun v N' => IsI (i : Int) v ∧ N' = []) rfl (ev_globalI B (gl_HARDENED_INDEX _)).gv ?_ ?_
   · refine i_a fun t => ?_
     rw [← he]
     exact (in_addI ⟨ti, rfl⟩ ⟨t, rfl⟩).gv
   · refine i_a fun t => ?_
     exact gs_nil ⟨rfl, rfl, rfl, ⟨t, rfl⟩, rfl⟩
 · rcases h0 with ⟨rfl, rfl⟩ | ⟨rfl, rfl, hh⟩
   · exact ⟨rfl, rfl, ⟨ti, rfl⟩, rfl⟩
   · rw [Bool.true_and] at h
     have := of_decide_eq_false h
     omega
 rintro m1 N1 ⟨rfl, l1, ⟨ti1, l2⟩, l3⟩
 refine gs_ifJ (fun m' N' => N' = [] ∧ lk m' "self" = some (.ref x) ∧ (∃ t, lk m' "index" = some (.int (i : Int) t)) ∧ lk m' "hardened" = some (.bool (decide (2147483648 ≤ i)))) (tst_eq (c := decide (2147483648 ≤ i)) (tst_cmp1 (ev_localI l2) (ev_globalI B (gl_HARDENED_INDEX _)) fun x y h h' => co_ge h h') (by simp only [decide_eq_decide]; omega)) (fun h => ?_) (fun h => ?_) ?_
 · refine gs_assign ev_bool.gv ?_
   refine i_b ?_
   exact gs_nil ⟨rfl, rfl, l1, ⟨ti1, l2⟩, by rw [h]; rfl⟩
 · refine ⟨rfl, l1, ⟨ti1, l2⟩, ?_⟩
   rw [h, l3]
   rcases h0 with ⟨rfl, -⟩ | ⟨-, -, hh⟩
   · rfl
   · exact absurd hh (of_decide_eq_false h)
 rintro m2 N2 ⟨rfl, l1, ⟨ti2, l2⟩, l3⟩
 refine gs_if0 (tst_eq (tst_and (b := decide (2147483648 ≤ i)) (c := !k.pr) (tst_T (ev_local l3)) fun _ => tst_eq (tst_and (c := true) (tst_not (tst_T (ev_hpriv B r.le (ev_local l1) (H _)))) fun _ => tst_and0) (by rw [Bool.and_true])) (by
  by_cases h : 2147483648 ≤ i
  · rw [hp h]; simp
  · rw [decide_eq_false h]; rfl)) ?_
 refine gs_assign (P := fun v N' => IsB k.sec v ∧ N' = []) (gv_m0 B (ev_local l1).gv fun ov N1 e => ?_) ?_
 · obtain ⟨rfl, rfl⟩ := e
   exact ⟨x, 1424, rfl, (H _).mth (fm_HDKey_sec _) (fn_1424 _) (kp_1424 _), (s_hdsec B r.le (H _) ok).gc⟩
 refine i_a fun ts => ?_
 refine gs_assign (P := fun v N' => IsB k.fpr v ∧ N' = []) (Ev.gv (evB_eq (ev_slB (ev_g1 B (ev_global B (gl_hash160 _)) (kp_hash160 _) (ev_localB rfl) fun v h => s_h160 B r.le (by rw [HD.sec_len]; decide) h) pt_none (pt_int ev_int) (by unfold h160 ripe; simp [sha_length])) (sl_to _ 4))) ?_
 refine i_a fun tf => ?_
 have hsec := HD.sec_len k
 have hkl := ok.kl
 have hdl : (k.dat i).length ≤ 37 := by
  unfold HD.dat
  split <;> simp [be_length] <;> omega
 refine gs_ifE (fun m' N' => N' = [] ∧ lk m' "self" = some (.ref x) ∧ (∃ t, lk m' "index" = some (.int (i : Int) t)) ∧ (∃ t, lk m' "fingerprint" = some (.bytes k.fpr.toArray t)) ∧ ∃ t, lk m' "data" = some (.bytes (k.dat i).toArray t)) (tst_T (ev_local l3)) (fun h => ?_) (fun h => ?_) ?_
 · have hge := of_decide_eq_true h
   have hpr := hp hge
   have hdat : [0] ++ serK k.pr k.kb ++ be 4 i = k.dat i := by unfold HD.dat; rw [if_pos hge, hpr, serK_t]
   refine gs_assign (P := fun v N' => IsB (k.dat i) v ∧ N' = []) (gvB_eq (gv_addB (gv_addB (x := [0]) (Ev.gv ev_bytes) (gv_kser B r.le (ev_hkey B (ev_local l1) (H [])) ok.kl ok.k1) (by rw [hpr, serK_t]; simp; omega)) (Ev.gv (ev_to (k := 4) B (ev_localI l2) ev_int ev_str (by decide) (by omega))) (by rw [hpr, serK_t]; simp [be_length]; omega)) hdat) ?_
   refine i_a fun td => ?_
   exact gs_nil ⟨rfl, rfl, l1, ⟨ti2, l2⟩, ⟨tf, rfl⟩, ⟨td, rfl⟩⟩
 · have hlt := of_decide_eq_false h
   have hdat : k.sec ++ be 4 i = k.dat i := by unfold HD.dat; rw [if_neg hlt]
   refine gs_assign (P := fun v N' => IsB (k.dat i) v ∧ N' = []) (Ev.gv (evB_eq (ev_addB (ev_localB rfl) (ev_to (k := 4) B (ev_localI l2) ev_int ev_str (by decide) (by omega)) (by simp [be_length]; omega)) hdat)) ?_
   refine i_a fun td => ?_
   exact gs_nil ⟨rfl, rfl, l1, ⟨ti2, l2⟩, ⟨tf, rfl⟩, ⟨td, rfl⟩⟩
 rintro m3 N3 ⟨rfl, l1, ⟨ti3, l2⟩, ⟨tf3, l3⟩, ⟨td, l4⟩⟩
 have hcl := ok.cl
 have hrl := k.raw_len i
 refine gs_assign (P := fun v N' => IsB (k.raw i) v ∧ N' = []) (Ev.gv (ev_hmac B r.le (by omega) (ev_hcc B (ev_local l1) (H [])) (ev_localB l4) (ev_mono ev_str fun v N' e => ⟨trivial, e.2⟩))) ?_
 refine i_a fun tr => ?_
 refine gs_assign (P := fun v N' => IsB ((k.raw i).take 32) v ∧ N' = []) (Ev.gv (evB_eq (ev_slB (ev_localB rfl) pt_none (pt_int ev_int) (by omega)) (sl_to _ 32))) ?_
 refine i_a fun tr1 => ?_
 refine gs_assign (P := fun v N' => IsB ((k.raw i).drop 32) v ∧ N' = []) (Ev.gv (evB_eq (ev_slB (ev_localB rfl) (pt_int ev_int) pt_none (by omega)) (sl_from _ 32))) ?_
 refine i_a fun tr2 => ?_
 exact gs_nil ⟨rfl, rfl, l1, ⟨ti3, l2⟩, ⟨tf3, l3⟩, ⟨tr1, rfl⟩, ⟨tr2, rfl⟩⟩
theorem child_end (B : Bs (KF w.params) g) (r : Rm A 10) (H : ∀ N', HdO w.params (Ob g N') x k) (ok : k.Gd) (hz : 0 < k.cnum i) (hd : k.dep + 1 < 256) (hi : i < 256 ^ 4) (J : ChJ k i x m N) :
 Gs (model PR w) A g L m N (execs (dropS (fb2 53 16) 10) (envX nx215 (fs2 53 16) L 1447 (.ref 1446) [])) (fun fl _ N' => ∃ y kx N1, flowV fl = .ref y ∧ KeyO w.params (fun a o => (a, o) ∈ N1) kx (k.child i).pr (k.child i).kb ∧ HdN w.params (k.child i) y kx N1 N') XS := by
 obtain ⟨rfl, l1, ⟨ti, l2⟩, ⟨tf, l3⟩, ⟨ts, l4⟩, ⟨tc, l5⟩⟩ := J
 have okc := ok.child hz hd hi
 have kl := ok.1.kl
 have hcl := k.cnum_lt i
 have hrl := k.raw_len i
 refine gs_ifE (fun m' N' => ∃ kx, lk m' "key" = some (.ref kx) ∧ KeyO w.params (fun a o => (a, o) ∈ N') kx (k.child i).pr (k.child i).kb ∧ lk m' "self" = some (.ref x) ∧ lk m' "index" = some (.int (i : Int) ti) ∧ lk m' "fingerprint" = some (.bytes k.fpr.toArray tf) ∧ lk m' "chain_code" = some (.bytes ((k.raw i).drop 32).toArray tc)) (tst_T (ev_hpriv B r.le (ev_local l1) (H _))) (fun h => ?_) (fun h => ?_) ?_
 · refine gs_assign (P := fun v N' => IsB (be 32 (k.cnum i)) v ∧ N' = []) (gvB_eq (gv_c2 (P := fun v N' => IsB (be 32 ((num ((k.raw i).take 32) + num k.kb) % gP)) v ∧ N' = []) B (ev_global B (gl_ec_privkey_add _)) (kp_ec_privkey_add _) (Ev.gv (ev_localB l4)) (gv_kser B r.le (ev_hkey B (ev_local l1) (H [])) kl ok.1.k1) fun v u h1 h2 => ?_) (by rw [k.cnum_t h])) ?_
   · rw [h, serK_t] at h2
     exact gv_of_gc (Cd.gc (s_privadd B r.le (by simp; omega) (by omega) h1 h2))
   refine i_a fun t => ?_
   refine gs_assign (P := fun v N' => ∃ y, v = .ref y ∧ PkN w.params (be 32 (k.cnum i)) y [] N') (Ev.gv (ev_g1 B (ev_global B (gl_PrivateKey _)) (kp_PrivateKey _) (ev_localB rfl) fun v h => s_pknew B r.le h (be_length _ _) (by rw [num_be32 hcl]; exact hz) (by rw [num_be32 hcl]; exact hcl))) ?_
   refine i_g fun y => i_5 fun dy t1 t2 t3 u => ?_
   refine gs_nil ⟨rfl, y, rfl, ?_, l1, l2, l3, l5⟩
   rw [show (k.child i).pr = true from h]
   exact ⟨dy, t1, t2, t3, u, .head _, .tail _ (.head _)⟩
 · have hkp : ∀ {N' p q q'}, EvP (model PR w) A g L m N' (eval (.Attribute (.Attribute (.Name "self" p) "key" q) "_point" q') (envX nx215 (fs2 53 16) L 1447 (.ref 1446) [])) (IsB k.kb) := fun {N' p q q'} => by
    refine ev_Attr (ev_hkey B (ev_local l1) (H _)) fun o N2 e => ?_
    obtain ⟨⟨kx, rfl, hk⟩, rfl⟩ := e
    rw [h] at hk
    refine KeyO.elF hk fun dx t1 t2 u hx hd => ?_
    exact is_B (ga_own B hx hd (cg_PublicKey _ _) (ch_PublicKey _) (ff_PublicKey_point _) rfl rfl)
   refine gs_assign (P := fun v N' => IsB k.kb v ∧ N' = []) (Ev.gv (ev_g1 B (ev_global B (gl_copy _)) (kp_copy _) hkp fun v h => s_copy B r.le (by omega) (by omega) h)) ?_
   refine i_a fun t => ?_
   refine gs_assign (P := fun v N' => IsB (be 32 (k.cnum i)) v ∧ N' = []) (Ev.gv (evB_eq (ev_g2 B (ev_global B (gl_ec_pubkey_add _)) (kp_ec_pubkey_add _) (ev_localB rfl) (ev_localB l4) fun v u h1 h2 => s_pubadd B r.le (by omega) (by simp; omega) h1 h2) (by rw [k.cnum_f h]))) ?_
   refine i_a fun t => ?_
   refine gs_assign (P := fun v N' => ∃ y, v = .ref y ∧ PbN w.params (be 32 (k.cnum i)) y [] N') (Ev.gv (ev_g1 B (ev_global B (gl_PublicKey _)) (kp_PublicKey _) (ev_localB rfl) fun v h => s_pbnew B r.le h (.inl rfl))) ?_
   refine i_g fun y => i_4 fun dy t1 t2 u => ?_
   refine gs_nil ⟨rfl, y, rfl, ?_, l1, l2, l3, l5⟩
   rw [show (k.child i).pr = false from h]
   exact ⟨dy, t1, t2, u, .head _, .tail _ (.head _)⟩
 · rintro m' N' ⟨kx, e1, hk, e2, e3, e4, e5⟩
   refine gs_return (gv_Call (ev_global B (gl_HDKey _)) (gv_hdcall (k := k.child i) (P1 := fun kx' N1 => kx' = kx ∧ N1 = N') B r okc (Ev.gv (ev_mono (ev_local e1) fun v N2 e => ⟨kx, e.1, rfl, e.2⟩)) ?_)) ?_
   · refine i_b ?_
     refine ⟨hk.mono fun a o e => .inl e, ev_localB e5, ev_hver (k := k) B (ev_local e2) (H _), ?_, ev_localB e4, ev_localI e3⟩
     exact ev_addN (x := k.dep) (y := 1) (ev_hdep (k := k) B (ev_local e2) (H _)) ev_int rfl
   · rintro v N2 ⟨y, kx', N1, rfl, ⟨rfl, rfl⟩, hN⟩
     exact ⟨y, kx', N1, rfl, hk, hN⟩
end
noncomputable def HdE (P : Params) (k : HD) (y : Addr) (N N' : Led) : Prop := ∃ E, HdO P (fun a o => (a, o) ∈ E) y k ∧ N' = E ++ N
theorem HdE.O {P : Params} {k : HD} {y : Addr} {N N' : Led} {g : Heap} (h : HdE P k y N N') : HdO P (Ob g N') y k := by
 obtain ⟨E, h, rfl⟩ := h
 exact h.mono fun a o e => .inl (List.mem_append_left _ e)
theorem HdE.old {P : Params} {k : HD} {y : Addr} {N N' : Led} {g : Heap} {a : Addr} {o : Obj} (h : HdE P k y N N') (O : Ob g N a o) : Ob g N' a o := by
 obtain ⟨E, h, rfl⟩ := h
 exact O.mono (fun _ _ e => e) fun p hp => .inl (List.mem_append_right _ hp)
theorem HdN.E {P : Params} {k : HD} {y kx : Addr} {N₁ N' : Led} (hk : KeyO P (fun a o => (a, o) ∈ N₁) kx k.pr k.kb) (h : HdN P k y kx N₁ N') : HdE P k y [] N' := by
 obtain ⟨dx, T, rfl⟩ := h
 exact ⟨_, ⟨dx, kx, T, [], .head _, .tail _ (.head _), hk.mono fun a o e => .tail _ (.tail _ e), .inl rfl⟩, (List.append_nil _).symm⟩
theorem HdE.app {P : Params} {k : HD} {y : Addr} {C N : Led} (h : HdE P k y [] C) : HdE P k y N (C ++ N) := by
 obtain ⟨E, h, rfl⟩ := h
 exact ⟨E, h, by rw [List.append_nil]⟩
theorem HdE.up {P : Params} {k k' : HD} {y y' : Addr} {N N' : Led} {g : Heap} (h : HdE P k y N N') (H : HdO P (Ob g N) y' k') : HdO P (Ob g N') y' k' := H.mono fun a o e => h.old e
section
variable {w : World} {A : Around} {g : Heap} {L : Addr} {m : Loc} {N : Led} {x kx C st : Addr} {s : List UInt8} {X : Value → Led → Prop} {pr : Bool} {k : HD} {i : Nat}
noncomputable def ChA (i : Nat) (vs : List Value) : Prop := (∃ t, vs = [.int (i : Int) t]) ∨ (2147483648 ≤ i ∧ ∃ t, vs = [.int ((i : Int) - 2147483648) t, .bool true])
theorem s_child {vs : List Value} (B : Bs (KF w.params) g) (r : Rm A 11) (h : HdO w.params (Ob g N) x k) (ok : k.Gd) (hv : ChA i vs) (hi : i < 4294967296) (hp : 2147483648 ≤ i → k.pr = true) (hz : 0 < k.cnum i) (hd : k.dep + 1 < 256) :
 Gc (model PR w) A g L m N (.call (.ref 1447) ⟨.ref x :: vs, []⟩) (fun v N' => ∃ y, v = .ref y ∧ HdE w.params (k.child i) y N N') X := by
 have main : ∀ (i0 : Int) (hb : Bool) (t : Tok), (hb = false ∧ i0 = i) ∨ (hb = true ∧ i0 = (i : Int) - 2147483648 ∧ 2147483648 ≤ i) → (∀ s : Shared, (KF w.params).In s.heap → BindsTo s (fnX n_child nx215 (fp2 53 16) (fb2 53 16) (fs2 53 16) [] (.ref 1440) .none .none (.str nx202 2030) none (.ref 1446) .none) ⟨.ref x :: vs, []⟩ [("self", .ref x), ("index", .int i0 t), ("hardened", .bool hb)]) →
  Gc (model PR w) A g L m N (.call (.ref 1447) ⟨.ref x :: vs, []⟩) (fun v N' => ∃ y, v = .ref y ∧ HdE w.params (k.child i) y N N') X := by
  intro i0 hb t h0 hbind
  refine gc_mono (gc_call (C := []) (R := N) (P := fun v C' => ∃ y, v = .ref y ∧ HdE w.params (k.child i) y [] C') _ B r rfl (by kernel_rfl) hbind (by rfl) ?_ (by decide)) ?_
  · intro h₀ L' A' r st sr B
    have H := fun N' => h.up ⟨st, sr⟩ N'
    refine gs_split (child_pre B r.le H ok.1 hi hp h0) fun m' N' J => gs_mono (child_end B r H ok hz hd (by omega) J) ?_
    rintro fl m2 N2 ⟨y, kx, N1, e, hk, hN⟩
    exact ⟨y, e, hN.E hk⟩
  · refine i_f (i_g ?_); rintro y C' hE
    exact ⟨y, rfl, hE.app⟩
 rcases hv with ⟨t, rfl⟩ | ⟨hge, t, rfl⟩
 · exact main i false t (.inl ⟨rfl, rfl⟩) fun s X => binds_K X rfl rfl rfl rfl rfl
 · exact main _ true t (.inr ⟨rfl, rfl, hge⟩) fun s X => binds_K X rfl rfl rfl rfl rfl
end
section
open Builtin.Str (occurrences)
noncomputable def netL0 : List (Str × Tok × Value) := [(n_name, 522, .str n_Mainnet 523), (n_wif, 524, .bytes #[128] 525), (n_p2pkh, 526, .bytes #[0] 527), (n_p2sh, 528, .bytes #[5] 529), (n_bech32, 530, .str n_bc 531), (n_xprv, 532, .bytes #[4, 136, 173, 228] 533), (n_xpub, 534, .bytes #[4, 136, 178, 30] 535), (n_yprv, 536, .bytes #[4, 157, 120, 120] 537), (n_zprv, 538, .bytes #[4, 178, 67, 12] 539), (n_Yprv, 540, .bytes #[2, 149, 176, 5] 541), (n_Zprv, 542, .bytes #[2, 170, 122, 153] 543), (n_ypub, 544, .bytes #[4, 157, 124, 178] 545), (n_zpub, 546, .bytes #[4, 178, 71, 70] 547), (n_Ypub, 548, .bytes #[2, 149, 180, 63] 549), (n_Zpub, 550, .bytes #[2, 170, 126, 211] 551)]
noncomputable def netL1 : List (Str × Tok × Value) := [(n_name, 568, .str n_Testnet 569), (n_wif, 570, .bytes #[239] 571), (n_p2pkh, 572, .bytes #[111] 573), (n_p2sh, 574, .bytes #[196] 575), (n_bech32, 576, .str n_tb 577), (n_xprv, 578, .bytes #[4, 53, 131, 148] 579), (n_xpub, 580, .bytes #[4, 53, 135, 207] 581), (n_yprv, 582, .bytes #[4, 74, 78, 40] 583), (n_zprv, 584, .bytes #[4, 95, 24, 188] 585), (n_Yprv, 586, .bytes #[2, 66, 133, 181] 587), (n_Zprv, 588, .bytes #[2, 87, 80, 72] 589), (n_ypub, 590, .bytes #[4, 74, 82, 98] 591), (n_zpub, 592, .bytes #[4, 95, 28, 246] 593), (n_Ypub, 594, .bytes #[2, 66, 137, 239] 595), (n_Zpub, 596, .bytes #[2, 87, 84, 131] 597)]
noncomputable def netL2 : List (Str × Tok × Value) := [(n_name, 614, .str n_Regtest 615), (n_wif, 616, .bytes #[239] 617), (n_p2pkh, 618, .bytes #[111] 619), (n_p2sh, 620, .bytes #[196] 621), (n_bech32, 622, .str n_bcrt 623), (n_xprv, 624, .bytes #[4, 53, 131, 148] 625), (n_xpub, 626, .bytes #[4, 53, 135, 207] 627), (n_yprv, 628, .bytes #[4, 74, 78, 40] 629), (n_zprv, 630, .bytes #[4, 95, 24, 188] 631), (n_Yprv, 632, .bytes #[2, 66, 133, 181] 633), (n_Zprv, 634, .bytes #[2, 87, 80, 72] 635), (n_ypub, 636, .bytes #[4, 74, 82, 98] 637), (n_zpub, 638, .bytes #[4, 95, 28, 246] 639), (n_Ypub, 640, .bytes #[2, 66, 137, 239] 641), (n_Zpub, 642, .bytes #[2, 87, 84, 131] 643)]
noncomputable def netL3 : List (Str × Tok × Value) := [(n_name, 660, .str n_Signet 661), (n_wif, 662, .bytes #[239] 663), (n_p2pkh, 664, .bytes #[111] 665), (n_p2sh, 666, .bytes #[196] 667), (n_bech32, 668, .str n_tb 669), (n_xprv, 670, .bytes #[4, 53, 131, 148] 671), (n_xpub, 672, .bytes #[4, 53, 135, 207] 673), (n_yprv, 674, .bytes #[4, 74, 78, 40] 675), (n_zprv, 676, .bytes #[4, 95, 24, 188] 677), (n_Yprv, 678, .bytes #[2, 66, 133, 181] 679), (n_Zprv, 680, .bytes #[2, 87, 80, 72] 681), (n_ypub, 682, .bytes #[4, 74, 82, 98] 683), (n_zpub, 684, .bytes #[4, 95, 28, 246] 685), (n_Ypub, 686, .bytes #[2, 66, 137, 239] 687), (n_Zpub, 688, .bytes #[2, 87, 84, 131] 689)]
noncomputable def netsL : List (Str × Tok × Value) := [(n_main, 521, .ref 256), (n_test, 567, .ref 257), (n_regtest, 613, .ref 258), (n_signet, 659, .ref 259)]
noncomputable def ents (P : Params) (l : List (Str × Tok × Value)) : List DictEntry := l.map fun e => en P e.1 e.2.1 e.2.2
noncomputable def kvsOf (l : List (Str × Tok × Value)) : List (Str × Value) := l.map fun e => (e.1, e.2.2)
theorem pairs_of {prog : Program} {w : World} : ∀ l : List (Str × Tok × Value), Pairs (strKind prog w) (ents w.params l) (kvsOf l)
 | [] => .nil
 | e :: r => .cons (strKind_is _ _ _ _) rfl (pairs_of r)
theorem dictAt_of {prog : Program} {w : World} {h : Heap} {d : Addr} {n : Nat} {l : List (Str × Tok × Value)} (ho : h.get? d = some ⟨.type "dict", none, .dict (ents w.params l).toArray n, #[]⟩) (nd : ((kvsOf l).map (·.1)).Nodup) : h.DictAt (strKind prog w) d (kvsOf l) n := by
 refine ⟨_, _, ho, ⟨rfl, rfl, rfl⟩, rfl, fun e he => ?_, by simpa using pairs_of l, nd⟩
 obtain ⟨x, hx, rfl⟩ := List.mem_map.mp (List.mem_toArray.mp he)
 exact ⟨x.1, strKind_is _ _ _ _, rfl⟩
noncomputable def vB : Value → Option (List UInt8)
 | .bytes b _ => some b.toList
 | _ => none
noncomputable def prvIn (x : Str) : Bool := !(occurrences x (Str.ofString "prv") 0 x.length 1).isEmpty
noncomputable def hitE (ver : List UInt8) (e : Str × Tok × Value) : Bool := prvIn e.1 && (vB e.2.2 == some ver)
noncomputable def pubE (l : List (Str × Tok × Value)) (e : Str × Tok × Value) : Option (List UInt8) := (valueAt (kvsOf l) (Txt.replace e.1 (Str.ofString "prv") (Str.ofString "pub"))).bind vB
noncomputable def resN (l : List (Str × Tok × Value)) (ver : List UInt8) : Option (List UInt8) := (l.find? (hitE ver)).bind (pubE l)
noncomputable def netL : Nat → List (Str × Tok × Value)
 | 0 => netL0
 | 1 => netL1
 | 2 => netL2
 | _ => netL3
noncomputable def accN (ver : List UInt8) : Nat → Option (List UInt8)
 | 0 => none
 | j + 1 => (resN (netL j) ver).orElse fun _ => accN ver j
noncomputable def toPub (ver : List UInt8) : List UInt8 := (accN ver 4).getD []
theorem toPub_list : vPrv.map (fun v => accN v 4) = vPub.map some := by decide +kernel
theorem net_ok (j : Nat) (hj : j < 4) : ∀ e ∈ netL j, prvIn e.1 = true → (vB e.2.2).isSome = true ∧ (pubE (netL j) e).isSome = true ∧ e.1.length ≤ 20 := by
 match j, hj with
 | 0, _ => decide +kernel
 | 1, _ => decide +kernel
 | 2, _ => decide +kernel
 | 3, _ => decide +kernel
theorem net_nd (j : Nat) (hj : j < 4) : ((kvsOf (netL j)).map (·.1)).Nodup := by
 match j, hj with
 | 0, _ => decide +kernel
 | 1, _ => decide +kernel
 | 2, _ => decide +kernel
 | 3, _ => decide +kernel
theorem netL_len (j : Nat) (hj : j < 4) : (netL j).length = 15 := by
 match j, hj with
 | 0, _ => rfl
 | 1, _ => rfl
 | 2, _ => rfl
 | 3, _ => rfl
theorem nets_nd : ((kvsOf netsL).map (·.1)).Nodup := by decide +kernel
theorem net_look (P : Params) (j : Nat) (hj : j < 4) : (KF P).lookup (256 + j) = some ⟨.type "dict", none, .dict (ents P (netL j)).toArray 15, #[]⟩ := by
 match j, hj with
 | 0, _ => rfl
 | 1, _ => rfl
 | 2, _ => rfl
 | 3, _ => rfl
theorem nets_look (P : Params) : (KF P).lookup 255 = some ⟨.type "dict", none, .dict (ents P netsL).toArray 4, #[]⟩ := rfl
end
section
variable {w : World} {A : Around} {g : Heap} {L D : Addr} {m : Loc} {N : Led} {env : Env} {prog : Program} {l : List (Str × Tok × Value)} {n : Nat}
theorem it_dict (r : Rm A 0) (hD : (D == sysModules) = false) (ho : g.get? D = some ⟨.type "dict", none, .dict (ents w.params l).toArray n, #[]⟩) (nd : ((kvsOf l).map (·.1)).Nodup) : It prog w A g L N [] (.ref D) l.length (fun i v => ∃ e, l[i]? = some e ∧ IsS e.1 v) := fun m s Q E W q => by
 have hd : s.heap.DictAt (strKind prog w) D (kvsOf l) n := dictAt_of (W.fr.keep _ _ ho) nd
 have hne : D ≠ s.heap.objs.size := Nat.ne_of_lt hd.lt_size
 have hlen : (kvsOf l).length = l.length := by simp [kvsOf]
 refine wpAny_pyIter_dict hD hd ?_
 have W' := Walks.dictKeys (prog := prog) (w := w) (A := A) (knd := strKind prog w) r.h s.heap.objs.size D hne (kvsOf l) n
 rw [hlen] at W'
 refine q _ [_, _] _ ⟨W'.sub, W'.frame, fun i s Q E hi st hQ => W'.item i s Q E hi st fun v h' tk hP => hQ v h' tk ?_, fun s Q E st hQ => W'.done s Q E st hQ, W'.self⟩ (fun b hb => ?_) (fun i h ⟨⟨o, e, _⟩, _⟩ => ⟨o, e⟩) ⟨⟨_, Heap.get?_push_size _ rfl, rfl, by rw [hlen]; rfl⟩, hd.push _⟩
 · obtain ⟨k, x, hk, hv⟩ := hP
   obtain ⟨t, rfl⟩ := Value.isStrOf_shape hv
   unfold kvsOf at hk
   rw [List.getElem?_map] at hk
   obtain ⟨e, he, hx⟩ := Option.map_eq_some_iff.mp hk
   obtain ⟨rfl, rfl⟩ := Prod.mk.inj hx
   exact ⟨e, he, t, rfl⟩
 · rcases List.mem_cons.mp hb with e | hb
   · exact .inl e
   · refine .inr (.inl ?_)
     rw [List.mem_singleton.mp hb, ho]; rfl
theorem ev_ixD {v e : Expr} {p' : Pos} {x : Str} {u : Value} (ho : g.get? D = some ⟨.type "dict", none, .dict (ents w.params l).toArray n, #[]⟩) (nd : ((kvsOf l).map (·.1)).Nodup) (h : EvP (model prog w) A g L m N (eval v env) (IsV (.ref D))) (hi : EvP (model prog w) A g L m N (eval e env) (IsS x)) (hv : valueAt (kvsOf l) x = some u)
 (hs : ∀ d x t, subscripted e false (.ref d) (.str x t) = operate [.ref d, .str x t] (getItem (.ref d) (.str x t)) := by intro _ _ _; with_unfolding_all rfl) :
 EvP (model prog w) A g L m N (eval (.Subscript v e p') env) (IsV u) := fun s Q E W q =>
 Subscript_ (h s _ E W fun o h1 tk1 N1 e1 W1 => by
  obtain ⟨rfl, rfl⟩ := e1
  refine hi _ _ E W1 fun i h2 tk2 N2 e2 W2 => ?_
  obtain ⟨⟨t, rfl⟩, rfl⟩ := e2
  have hd : h2.DictAt (strKind prog w) D (kvsOf l) n := dictAt_of (W2.fr.keep _ _ ho) nd
  have hm := hd.dictOf.mapOf
  exact tail_any hm.typeIs slot_dict_getitem.lookup (wpAny_getItem_of (strKind_is _ _ _ _) hm hv (q u h2 (tk2 + 1) _ ⟨rfl, rfl⟩ W2)) (hs _ _ _))
end
section
variable {w : World} {A : Around} {g : Heap} {L a D : Addr} {m : Loc} {N : Led} {K : Frag} {cn : Str} {cs : Scope} {ccd : Value} {prog : Program} {l : List (Str × Tok × Value)} {n : Nat}
theorem ev_netrep {x y : Str} {tk tn : Tok} {D' : Addr} {l' : List (Str × Tok × Value)} {n' k1 k2 : Nat} {u : Value} {p1 p2 p3 p4 p5 p6 p7 p8 p9 : Pos} {pl : Sem Bool} (B : Bs K g) (hN : nsIn K mainGlobals "NETWORKS" = some (some (.ref D'))) (hk : lk m "k" = some (.str x tk)) (hnet : lk m "net" = some (.str y tn))
 (ho' : g.get? D' = some ⟨.type "dict", none, .dict (ents w.params l').toArray n', #[]⟩) (nd' : ((kvsOf l').map (·.1)).Nodup) (hv : valueAt (kvsOf l') y = some (.ref D)) (ho : g.get? D = some ⟨.type "dict", none, .dict (ents w.params l).toArray n, #[]⟩) (nd : ((kvsOf l).map (·.1)).Nodup)
 (hb : valueAt (kvsOf l) (Txt.replace x (Str.ofString "prv") (Str.ofString "pub")) = some u) (hx : x.length ≤ 20)
 (hcs : cs.kind = .function := by rfl) (h1 : (envX cn cs L a ccd []).kindOf "NETWORKS" = some .globalImplicit := by rfl) (h2 : (envX cn cs L a ccd []).kindOf "net" = some .local := by rfl) (h3 : (envX cn cs L a ccd []).kindOf "k" = some .local := by rfl)
 (he : eval (.Call (.Attribute (.Name "k" p4) "replace" p5) [.Constant (.str "prv") k1 p6, .Constant (.str "pub") k2 p7] [] p8) (envX cn cs L a ccd []) = (do
  let ov ← eval (.Name "k" p4) (envX cn cs L a ccd [])
  standAt p5.atName
  let (f, first) ← holding [ov] (getMethod ov "replace" pl)
  callWith p8 f first (backTo p8 (starEach [.Constant (.str "prv") k1 p6, .Constant (.str "pub") k2 p7] (envX cn cs L a ccd []))) []) := by rfl)
 (hs1 : ∀ d x t, subscripted (.Name "net" p2) false (.ref d) (.str x t) = operate [.ref d, .str x t] (getItem (.ref d) (.str x t)) := by intro _ _ _; with_unfolding_all rfl)
 (hs2 : ∀ d x t, subscripted (.Call (.Attribute (.Name "k" p4) "replace" p5) [.Constant (.str "prv") k1 p6, .Constant (.str "pub") k2 p7] [] p8) false (.ref d) (.str x t) = operate [.ref d, .str x t] (getItem (.ref d) (.str x t)) := by intro _ _ _; with_unfolding_all rfl) :
 EvP (model prog w) A g L m N (eval (.Subscript (.Subscript (.Name "NETWORKS" p1) (.Name "net" p2) p3) (.Call (.Attribute (.Name "k" p4) "replace" p5) [.Constant (.str "prv") k1 p6, .Constant (.str "pub") k2 p7] [] p8) p9) (envX cn cs L a ccd [])) (IsV u) := fun s Q E W q => by
 obtain ⟨_, _, _, _, T⟩ := B.T
 have hd' : s.heap.DictAt (strKind prog w) D' (kvsOf l') n' := dictAt_of (W.fr.keep _ _ ho') nd'
 have hd : s.heap.DictAt (strKind prog w) D (kvsOf l) n := dictAt_of (W.fr.keep _ _ ho) nd
 refine Subscript_ (Subscript_ (nameX_K W.fr B.X T hN ?_ hcs h1))
 refine nameX_L W.fr hnet ?_ hcs h2
 refine tail_any hd'.dictOf.mapOf.typeIs slot_dict_getitem.lookup (wpAny_getItem_of (strKind_is _ _ _ _) hd'.dictOf.mapOf hv ?_) (hs1 _ _ _)
 rw [he]
 refine wpAny_bind (nameX_L (s := { s with toks := s.toks + 1 }) W.fr hk ?_ hcs h3)
 refine wpAny_bind (wpAny_standAt (wpAny_bind (wpAny_holding (GM.replace ?_))))
 refine callWith_of (P := fun _ => True) (by rfl) (fun h _ => ⟨_, .inr (.inl rfl), Looks.of_pure rfl⟩) (evalArgs_plain ?_)
 refine args_cons (Constant_str (args_cons (Constant_str (args_nil ⟨trivial, ?_⟩)) (by rfl))) (by rfl)
 refine SC.replace (Nat.succ_ne_zero _) (Nat.succ_ne_zero _) (Nat.ne_of_lt (Nat.lt_succ_self _)) (by decide) (by rw [show (Str.ofString "pub").length = 3 from by decide]; omega) fun t' k => ?_
 exact tail_any hd.dictOf.mapOf.typeIs slot_dict_getitem.lookup (wpAny_getItem_of (strKind_is _ _ _ _) hd.dictOf.mapOf hb (q u s.heap _ N ⟨rfl, rfl⟩ W)) (hs2 _ _ _)
end
theorem gcdBP : Nat.Coprime gP gB := by
 show Nat.gcd gP gB = 1
 decide +kernel
theorem mulB_pos {n : Nat} (h0 : 0 < n) (h1 : n < gP) : 0 < n * gB % gP := by
 refine Nat.pos_of_ne_zero fun h => ?_
 have hd : gP ∣ n * gB := Nat.dvd_of_mod_eq_zero h
 have := Nat.Coprime.dvd_of_dvd_mul_right gcdBP hd
 exact absurd (Nat.le_of_dvd h0 this) (Nat.not_le.mpr h1)
theorem mod_addB (a b : Nat) : (a % gP * gB) % gP = a * gB % gP := by rw [Nat.mul_mod, Nat.mod_mod, ← Nat.mul_mod]
noncomputable def HD.pub (k : HD) : HD := ⟨false, be 32 (num k.kb * gB % gP), k.cc, toPub k.ver, k.fp, k.dep, k.ix⟩
theorem toPub_mem {v : List UInt8} (h : v ∈ vPrv) : accN v 4 = some (toPub v) ∧ toPub v ∈ vPub := by
 obtain ⟨i, hi, e⟩ := List.mem_iff_getElem.mp h
 have h1 : (vPrv.map fun v => accN v 4)[i]? = (vPub.map some)[i]? := by rw [toPub_list]
 rw [List.getElem?_map, List.getElem?_map, List.getElem?_eq_getElem hi, e] at h1
 obtain ⟨u, hu, e2⟩ := Option.map_eq_some_iff.mp h1.symm
 have : accN v 4 = some u := e2.symm
 have ht : toPub v = u := by unfold toPub; rw [this]; rfl
 exact ⟨by rw [ht]; exact this, by rw [ht]; exact List.mem_of_getElem? hu⟩
theorem HD.Gd.vPrv {k : HD} (h : k.Gd) (hp : k.pr = true) : k.ver ∈ Mine.vPrv := by have := h.2; rw [hp] at this; exact this
theorem HD.Gd.pub {k : HD} (h : k.Gd) (hp : k.pr = true) : k.pub.Gd := by
 have hlt : num k.kb * gB % gP < gP := Nat.mod_lt _ gP_pos
 have hv := toPub_mem (h.vPrv hp)
 refine ⟨⟨be_length _ _, ?_, ?_, h.1.cl, v_len (pr := false) hv.2, h.1.fl, h.1.dl, h.1.il⟩, hv.2⟩
 · show 0 < num (be 32 _); rw [num_be32 hlt]; exact mulB_pos h.1.k0 h.1.k1
 · show num (be 32 _) < gP; rw [num_be32 hlt]; exact hlt
theorem HD.pub_sec {k : HD} (hp : k.pr = true) : k.pub.sec = k.sec := by
 show psec (ptK false (be 32 (num k.kb * gB % gP))) = psec (ptK k.pr k.kb)
 rw [hp, ptK_f, ptK_t, num_be32 (Nat.mod_lt _ gP_pos)]
theorem HD.pub_raw {k : HD} {i : Nat} (hp : k.pr = true) (hi : i < 2147483648) : k.pub.raw i = k.raw i := by
 show hmac5 k.cc (k.pub.dat i) = hmac5 k.cc (k.dat i)
 unfold HD.dat
 rw [if_neg (by omega), if_neg (by omega), HD.pub_sec hp]
theorem HD.pub_cnum {k : HD} {i : Nat} (hp : k.pr = true) (hi : i < 2147483648) : k.pub.cnum i = k.cnum i * gB % gP := by
 rw [HD.cnum_f (k := k.pub) rfl, HD.cnum_t hp, HD.pub_raw hp hi]
 show (num (be 32 (num k.kb * gB % gP)) + _) % gP = _
 rw [num_be32 (Nat.mod_lt _ gP_pos), Nat.mul_mod ((_ + _) % gP), Nat.mod_mod, ← Nat.mul_mod, Nat.add_mul, Nat.add_comm, Nat.add_mod, Nat.mod_mod, ← Nat.add_mod]
theorem HD.pub_child {k : HD} {i : Nat} (hp : k.pr = true) (hi : i < 2147483648) : (k.child i).pub = k.pub.child i := by
 show HD.mk false (be 32 (num (be 32 (k.cnum i)) * gB % gP)) ((k.raw i).drop 32) (toPub k.ver) k.fpr (k.dep + 1) i = HD.mk false (be 32 (k.pub.cnum i)) ((k.pub.raw i).drop 32) (toPub k.ver) k.pub.fpr (k.dep + 1) i
 rw [num_be32 (k.cnum_lt i), HD.pub_cnum hp hi, HD.pub_raw hp hi]
 have : k.pub.fpr = k.fpr := by unfold HD.fpr; rw [HD.pub_sec hp]
 rw [this]
section
open Builtin.Str (occurrences)
noncomputable def Vis (v : Value) : Option (List UInt8) → Prop
 | none => v = .none
 | some b => IsB b v
theorem valueAt_mem {l : List (Str × Tok × Value)} {e : Str × Tok × Value} (nd : ((kvsOf l).map (·.1)).Nodup) (he : e ∈ l) : valueAt (kvsOf l) e.1 = some e.2.2 := by
 induction l with
 | nil => exact absurd he (List.not_mem_nil)
 | cons a r ih =>
  unfold kvsOf at nd
  rw [List.map_cons, List.map_cons, List.nodup_cons] at nd
  unfold valueAt kvsOf
  rw [List.map_cons, List.find?_cons]
  rcases List.mem_cons.mp he with rfl | he
  · simp
  · have hne : a.1 ≠ e.1 := fun h => nd.1 (by
     rw [List.map_map]
     exact List.mem_map.mpr ⟨e, he, h.symm⟩)
    simp only [decide_eq_false hne]
    exact ih nd.2 he
theorem find_hit {α : Type} {p : α → Bool} : ∀ {l : List α} {i : Nat} {e : α}, l[i]? = some e → p e = true → (∀ j < i, ∀ a, l[j]? = some a → p a = false) → l.find? p = some e
 | a :: r, 0, e, h, hp, _ => by
  simp only [List.getElem?_cons_zero, Option.some.injEq] at h
  subst h
  rw [List.find?_cons, hp]
 | a :: r, i + 1, e, h, hp, hn => by
  rw [List.find?_cons, hn 0 (Nat.succ_pos _) a (by simp)]
  exact find_hit (by simpa using h) hp fun j hj b hb => hn (j + 1) (by omega) b (by simpa using hb)
theorem find_none {α : Type} {p : α → Bool} {l : List α} (hn : ∀ j < l.length, ∀ a, l[j]? = some a → p a = false) : l.find? p = none := by
 refine List.find?_eq_none.mpr fun x hx => ?_
 obtain ⟨i, hi, e⟩ := List.mem_iff_getElem.mp hx
 rw [hn i hi x (by rw [List.getElem?_eq_getElem hi, e])]
 decide
theorem vB_some {v : Value} {b : List UInt8} (h : vB v = some b) : ∃ t, v = .bytes b.toArray t := by
 unfold vB at h
 split at h
 · rename_i c t
   obtain rfl := Option.some.inj h
   exact ⟨t, by simp⟩
 · cases h
theorem nets_at {j : Nat} {e : Str × Tok × Value} (h : netsL[j]? = some e) : j < 4 ∧ e.2.2 = .ref (256 + j) := by
 match j with
 | 0 => exact ⟨by decide, by rw [← Option.some.inj h]⟩
 | 1 => exact ⟨by decide, by rw [← Option.some.inj h]⟩
 | 2 => exact ⟨by decide, by rw [← Option.some.inj h]⟩
 | 3 => exact ⟨by decide, by rw [← Option.some.inj h]⟩
 | j + 4 => exact absurd h (by simp [netsL])
section
variable {w : World} {A : Around} {g : Heap} {L a : Addr} {m : Loc} {N : Led} {x dx kx C st : Addr} {n : Nat} {t1 t2 t3 u : Tok} {b s : List UInt8} {X : Value → Led → Prop} {pr : Bool} {k : HD} {i : Nat}
theorem s_topub (B : Bs (KF w.params) g) (r : Rm A 11) (h : HdO w.params (Ob g N) x k) (ok : k.Gd) (hp : k.pr = true) :
 Gc (model PR w) A g L m N (.call (.ref 1410) ⟨[.ref x], []⟩) (fun v N' => ∃ y, v = .ref y ∧ HdE w.params k.pub y N N') X := by
 refine gc_mono (gc_call (C := []) (R := N) (P := fun v C' => ∃ y, v = .ref y ∧ HdE w.params k.pub y [] C') [("self", .ref x), ("version", .none)] B r rfl (by kernel_rfl) (fun s X => binds_K X rfl rfl rfl rfl rfl) (by rfl) ?_ (by decide)) ?_
 · intro h₀ L' A' r st sr B
   have H := fun N' => h.up ⟨st, sr⟩ N'
   have kl := ok.1.kl
   have hnets : h₀.get? 255 = some ⟨.type "dict", none, .dict (ents w.params netsL).toArray 4, #[]⟩ := B.X _ _ (nets_look _)
   have hnet : ∀ j, j < 4 → h₀.get? (256 + j) = some ⟨.type "dict", none, .dict (ents w.params (netL j)).toArray 15, #[]⟩ := fun j hj => B.X _ _ (net_look _ j hj)
   refine gs_if0 (tst_eq (tst_not (tst_T (ev_hpriv B r.le (ev_local rfl) (H _)))) (by rw [hp]; rfl)) ?_
   refine gs_lift1 (J := fun m' N' => N' = [] ∧ lk m' "self" = some (.ref x) ∧ ∃ v, lk m' "version" = some v ∧ Vis v (accN k.ver 4)) ?_ ?_
   · refine xs_if (c := true) (tst_cmp1 (ev_local rfl) ev_none fun x y h h' => co_is h h' rfl) (fun _ => ?_) (fun h => nomatch h)
     refine xs_forX (n := 4) (P := fun i v => ∃ e, netsL[i]? = some e ∧ IsS e.1 v) (kp := []) (fun j m' N' => N' = [] ∧ lk m' "self" = some (.ref x) ∧ ∃ v, lk m' "version" = some v ∧ Vis v (accN k.ver j)) (fun m' N' => N' = [] ∧ lk m' "self" = some (.ref x) ∧ ∃ v, lk m' "version" = some v ∧ Vis v (accN k.ver 4))
      (ev_mono (ev_global B (gl_NETWORKS _)) fun v N' e => ?_) (fun _ _ _ _ p hp => nomatch hp) ?_ (fun m' N' h => h) (fun m' N' h => ?_)
     · obtain ⟨rfl, rfl⟩ := e
       exact ⟨it_dict r.le (by decide) hnets nets_nd, rfl, rfl, .none, rfl, rfl⟩
     · rintro j v m₁ N₁ I it hj ⟨e, he, te, rfl⟩ ⟨rfl, l1, vv, l2, hvis⟩
       obtain ⟨-, hval⟩ := nets_at he
       have hD := hnet j hj
       have nd := net_nd j hj
       have hva : valueAt (kvsOf netsL) e.1 = some (.ref (256 + j)) := by rw [valueAt_mem nets_nd (List.mem_of_getElem? he), hval]
       refine xs_forX (n := (netL j).length) (P := fun i v => ∃ e, (netL j)[i]? = some e ∧ IsS e.1 v) (kp := []) (fun i m' N' => N' = [(I, it)] ∧ lk m' "self" = some (.ref x) ∧ lk m' "net" = some (.str e.1 te) ∧ (∃ v, lk m' "version" = some v ∧ Vis v (accN k.ver j)) ∧ ∀ i' < i, ∀ a, (netL j)[i']? = some a → hitE k.ver a = false)
        (fun m' N' => N' = [(I, it)] ∧ lk m' "self" = some (.ref x) ∧ ∃ v, lk m' "version" = some v ∧ Vis v (accN k.ver (j + 1)))
        (ev_mono (ev_ixD hnets nets_nd (ev_global B (gl_NETWORKS _)) (ev_localS rfl) hva) fun v N' e => ?_) (fun _ _ _ _ p hp => nomatch hp) ?_ (fun m' N' h => ?_) (fun m' N' h => ?_)
       · obtain ⟨rfl, rfl⟩ := e
         exact ⟨it_dict r.le (beq_false_of_ne (by show 256 + j ≠ 1; omega)) hD nd, rfl, l1, rfl, ⟨vv, l2, hvis⟩, fun i' hi' => absurd hi' (Nat.not_lt_zero _)⟩
       · rintro i v m₂ N₂ I2 it2 hi ⟨a, ha, ta, rfl⟩ ⟨rfl, l1, l3, ⟨vv, l2, hvis⟩, hno⟩
         have ham := List.mem_of_getElem? ha
         refine xs_if (c := hitE k.ver a) (tst_eq (tst_and (b := prvIn a.1) (c := vB a.2.2 == some k.ver) (tst_cmp1 ev_str (ev_localS rfl) fun x y h h' => co_inS h h') fun hpv => ?_) rfl) (fun hh => ?_) (fun hh => nx_nil (xs_nil ?_))
         · obtain ⟨hs, -, -⟩ := net_ok j hj a ham hpv
           obtain ⟨bb, hb⟩ := Option.isSome_iff_exists.mp hs
           obtain ⟨tb, hvb⟩ := vB_some hb
           refine tst_eq (tst_and (b := bb == k.ver) (c := true) (tst_cmp1 (p1 := IsB bb) (ev_mono (ev_ixD hD nd (ev_ixD hnets nets_nd (ev_global B (gl_NETWORKS _)) (ev_localS l3) hva) (ev_localS rfl) (valueAt_mem nd ham)) fun v N' e => ⟨⟨tb, by rw [← hvb]; exact e.1⟩, e.2⟩) (ev_hver B (ev_local l1) (H _)) fun x y h h' => co_eqB h h') fun _ => tst_and0) ?_
           rw [Bool.and_true, hb]; rfl
         · obtain ⟨hpv, hbe⟩ := Bool.and_eq_true_iff.mp hh
           obtain ⟨-, hs, hlen⟩ := net_ok j hj a ham hpv
           obtain ⟨pb, hpb⟩ := Option.isSome_iff_exists.mp hs
           have hres : resN (netL j) k.ver = some pb := by
            unfold resN
            rw [find_hit ha hh hno]
            exact hpb
           obtain ⟨vu, hvu, hvp⟩ := Option.bind_eq_some_iff.mp hpb
           obtain ⟨tu, rfl⟩ := vB_some hvp
           refine xs_assign (ev_netrep B (gl_NETWORKS _) rfl l3 hnets nets_nd hva hD nd hvu hlen) ?_
           refine i_b ?_
           refine xs_break ?_
           refine ⟨[(I, it)], List.sublist_append_left _ _, rfl, l1, _, rfl, ?_⟩
           show Vis _ ((resN (netL j) k.ver).orElse fun _ => accN k.ver j)
           rw [hres]
           exact ⟨tu, rfl⟩
         · refine ⟨[(I, it)], rfl, rfl, l1, l3, ⟨vv, l2, hvis⟩, fun i' hi' b hb => ?_⟩
           rcases Nat.lt_succ_iff_lt_or_eq.mp hi' with q | rfl
           · exact hno i' q b hb
           · obtain rfl : a = b := Option.some.inj (ha.symm.trans hb)
             exact hh
       · obtain ⟨rfl, l1, l3, ⟨vv, l2, hvis⟩, hno⟩ := h
         refine ⟨rfl, l1, vv, l2, ?_⟩
         show Vis _ ((resN (netL j) k.ver).orElse fun _ => accN k.ver j)
         have : resN (netL j) k.ver = none := by unfold resN; rw [find_none hno]; rfl
         rw [this]
         exact hvis
       · obtain ⟨rfl, l1, vv, l2, hvis⟩ := h
         exact xs_nil ⟨[], rfl, rfl, l1, vv, l2, hvis⟩
     · exact nx_nil (xs_nil ⟨rfl, h⟩)
   rintro m' N' ⟨rfl, l1, v, l2, hvis⟩
   have hpubv := toPub_mem (ok.vPrv hp)
   rw [hpubv.1] at hvis
   obtain ⟨tv, rfl⟩ := hvis
   refine gs_if0 (tst_cmp1 (ev_local l2) ev_none fun x y h h' => co_is h h' rfl) ?_
   refine gs_return (P := fun v N' => ∃ x kx N1, v = .ref x ∧ PbN w.params (be 32 (num k.kb * gB % gP)) kx [] N1 ∧ HdN w.params k.pub x kx N1 N') (gv_MCall (PM := fun _ fx N' => fx = (.ref 1499, []) ∧ N' = []) (Ev.gv (ev_local l1)) (fun ov N1 e => ?_) fun ov f first N2 e => ?_) ?_
   · obtain ⟨rfl, rfl⟩ := e
     refine HdO.el (H []) fun dx kx T mf hx hd hk hm => ?_
     exact Ev.gv fun s Q E W q => method_usual (r := some (.builtin "object.__class__")) (B.X.keeps W.fr.keep) (hx.inst hd W) (by kernel_rfl) (by kernel_rfl) (by kernel_rfl) (by kernel_rfl)
      (get_class W.fr B.X (hx.inst hd W) (cg_HDKey _ _) (ch_HDKey _) (by kernel_rfl) (by kernel_rfl) (by kernel_rfl) (by kernel_rfl) (q _ s.heap (s.toks + 1) [] ⟨rfl, rfl⟩ W))
   · obtain ⟨e, rfl⟩ := e
     obtain ⟨rfl, rfl⟩ := Prod.mk.inj e
     refine gv_hdcall (k := k.pub) (P1 := fun kx N' => PbN w.params (be 32 (num k.kb * gB % gP)) kx [] N') B r (ok.pub hp) (Ev.gv (ev_m0 B (ev_hkey B (ev_local l1) (H _)) fun ov N1 e => ?_)) ?_
     · obtain ⟨⟨kx, rfl, hk⟩, rfl⟩ := e
       rw [hp] at hk
       refine KeyO.elT hk fun dx t1 t2 t3 u hx hd => ?_
       exact ⟨kx, 1284, dx, 1220, _, _, rfl, hx, hd, cg_PrivateKey _ _, fm_PrivateKey_get_public_key _, fn_1220 _, rfl, kp_1220 _, s_pkget B r.le hx hd (by omega)⟩
     · rintro kx N' ⟨dx, t1, t2, u, rfl⟩
       exact ⟨⟨dx, t1, t2, u, .inl (.head _), .inl (.tail _ (.head _))⟩, ev_hcc (k := k) B (ev_local l1) (H _), ev_localB l2, ev_hdep (k := k) B (ev_local l1) (H _), ev_hfp (k := k) B (ev_local l1) (H _), ev_hix (k := k) B (ev_local l1) (H _)⟩
   · rintro v N' ⟨y, kx, N1, rfl, ⟨dx, t1, t2, u, rfl⟩, hN⟩
     exact ⟨y, rfl, hN.E ⟨dx, t1, t2, u, .head _, .tail _ (.head _)⟩⟩
 · refine i_f (i_g ?_); rintro y C' hE
   exact ⟨y, rfl, hE.app⟩
end
end
section
variable {w : World} {A : Around} {g : Heap} {L a ba : Addr} {m : Loc} {N : Led} {env : Env} {x C fR st sdx : Addr} {d pos : Nat} {nm : Str} {t1 t2 t3 u : Tok} {b s : List UInt8} {X : Value → Led → Prop} {k : HD}
theorem s_bread0 {v : Value} {k : Nat} {R : Led} (B : Bs (KF w.params) g) (r : Rm A 2) (hv : IsI (k : Int) v) (hk : k ≤ 1000) (hz : b.length ≤ 16777216) :
 CdP (model PR w) A g L m (stL w.params st sdx ba t1 t2 u b b.length ++ R) (.call (.ref 497) ⟨[.ref st, v], []⟩) (IsB []) := by
 obtain ⟨tv, rfl⟩ := hv
 refine cd_pcall [("self", .ref st), ("size", .int (k : Int) tv)] B r rfl (by kernel_rfl) (fun s X => binds_K X rfl rfl rfl rfl rfl) (by rfl) ?_ (by decide)
 intro h₀ L' A' r st' sr B
 have hx : Ob h₀ [] st (instObj 573 sdx) := .inr (sr _ (.head _))
 have hd : Ob h₀ [] sdx (dictOf (stE w.params t1 t2 u ba b.length) 2) := .inr (sr _ (.tail _ (.head _)))
 have hO : Ob h₀ [] ba (baO b) := .inr (sr _ (.tail _ (.tail _ (.head _))))
 refine xs_if (c := false) (tst_cmp1 (ev_local rfl) ev_none fun x y h h' => co_is h h' rfl) (fun h => nomatch h) fun _ => nx_nil ?_
 refine xs_assign (ev_g2 B (ev_global B (gl_index _)) (kp_index _) (ev_localI rfl) (ev_str (x := "BytesIO.read of a size that is no exact int")) fun v z h h' => s_index B r hk h) ?_
 refine i_a fun t3 => ?_
 refine xs_expr (ev_bcheck B r hx hd rfl) ?_
 refine i_c fun v _ => ?_
 refine xs_assign (ev_pos B rfl hx hd) ?_
 refine i_a fun t4 => ?_
 refine xs_assign (P := fun v N' => IsI (b.length : Int) v ∧ N' = []) (ev_Call1 B (ev_builtin B (no_len _) (by rfl)) kp_b (ev_buf B rfl hx hd) fun v h => by obtain rfl : v = .ref ba := h; exact call_lenA hO (by omega)) ?_
 refine i_a fun t5 => ?_
 refine xs_if (c := true) (tst_eq (tst_cmp1 (ev_localI rfl) (ev_localI rfl) fun x y h h' => co_ge h h') (decide_eq_true (Int.le_refl _))) (fun _ => ?_) fun h => nomatch h
 exact xs_return ev_bytes fun v N' h => h.1
theorem gv_read {e oe : Expr} {apos p : Pos} {pl : Sem Bool} {k : Nat} (B : Bs (KF w.params) g) (r : Rm A 2) (hs : EvP (model PR w) A g L m (stL w.params st sdx ba t1 t2 u b pos ++ N) (eval oe env) (IsV (.ref st)))
 (he1 : EvP (model PR w) A g L m (stL w.params st sdx ba t1 t2 u b pos ++ N) (eval e env) (IsI (k : Int))) (hk0 : 0 < k) (hk : k ≤ 1000) (hp : pos + k ≤ b.length) (hz : b.length ≤ 16777216)
 (he : eval (.Call (.Attribute oe "read" apos) [e] [] p) env = (do
  let ov ← eval oe env
  standAt apos.atName
  let (f, first) ← holding [ov] (getMethod ov "read" pl)
  callWith p f first (backTo p (starEach [e] env)) (backToKw p (keywordEach [] env))) := by rfl) (he2 : starEach [e] env = (false, eval e env) :: starEach [] env := by rfl) (hplain : (backTo p (starEach [e] env)).any (·.1) = false := by rfl) :
 Gv (model PR w) A g L m (stL w.params st sdx ba t1 t2 u b pos ++ N) (eval (.Call (.Attribute oe "read" apos) [e] [] p) env) (fun v N' => IsB ((b.drop pos).take k) v ∧ ∃ u', N' = stL w.params st sdx ba t1 t2 u' b (pos + k) ++ N) X := by
 refine gv_m1 B hs.gv (fun ov N1 e => ?_) he he2 hplain
 obtain ⟨rfl, rfl⟩ := e
 refine ⟨st, 497, _, rfl, .mk' (.inl (.head _)) (.inl (.tail _ (.head _))) (cg_BytesIO _ _) (fm_BytesIO_read _) (fn_497 _) rfl (kp_497 _), he1.gv, ?_⟩
 refine i_c fun v hv => ?_
 exact Cd.gc (cd_mono (s_bread (R := N) B r hv hk0 hk hp hz) fun v N' e => ⟨e.1, e.2⟩)
theorem gv_read0 {e oe : Expr} {apos p : Pos} {pl : Sem Bool} {k : Nat} (B : Bs (KF w.params) g) (r : Rm A 2) (hs : EvP (model PR w) A g L m (stL w.params st sdx ba t1 t2 u b b.length ++ N) (eval oe env) (IsV (.ref st)))
 (he1 : EvP (model PR w) A g L m (stL w.params st sdx ba t1 t2 u b b.length ++ N) (eval e env) (IsI (k : Int))) (hk : k ≤ 1000) (hz : b.length ≤ 16777216)
 (he : eval (.Call (.Attribute oe "read" apos) [e] [] p) env = (do
  let ov ← eval oe env
  standAt apos.atName
  let (f, first) ← holding [ov] (getMethod ov "read" pl)
  callWith p f first (backTo p (starEach [e] env)) (backToKw p (keywordEach [] env))) := by rfl) (he2 : starEach [e] env = (false, eval e env) :: starEach [] env := by rfl) (hplain : (backTo p (starEach [e] env)).any (·.1) = false := by rfl) :
 GvP (model PR w) A g L m (stL w.params st sdx ba t1 t2 u b b.length ++ N) (eval (.Call (.Attribute oe "read" apos) [e] [] p) env) (IsB []) X := by
 refine gv_m1 B hs.gv (fun ov N1 e => ?_) he he2 hplain
 obtain ⟨rfl, rfl⟩ := e
 refine ⟨st, 497, _, rfl, .mk' (.inl (.head _)) (.inl (.tail _ (.head _))) (cg_BytesIO _ _) (fm_BytesIO_read _) (fn_497 _) rfl (kp_497 _), he1.gv, ?_⟩
 refine i_c fun v hv => ?_
 exact Cd.gc (s_bread0 B r hv hk hz)
theorem ga_class {f : Value} {mc : Value} {p C : Addr} {rest : List Value} {b : Bool} {K : Frag} {prog : Program} (B : Bs K g) (hm : typeIn K (.ref C) = some mc) (hr : readsIn K C mc = true)
 (e : findCls K (.ref C) mc nm = some (.get (.builtin "classmethod.__get__") (.ref p) .none (.ref C))) (hp : recIn K p "classmethod" = some (f :: rest)) :
 Ev (model prog w) A g L m N (getAttr (.ref C) nm b) (fun v N' => ∃ q, v = .ref q ∧ N' = (q, methodObj f (.ref C)) :: N) := fun s Q E W q =>
 cls_cm W.fr B.X W.nw hm hr e hp fun x h' F' n' l => q _ h' _ _ ⟨x, rfl, rfl⟩ (nodup_push W l F' n')
noncomputable def ReadsFrom (w : World) (fR C : Addr) (b : List UInt8) (d : Nat) (P : Value → Led → Prop) : Prop :=
 ∀ (A : Around) (g : Heap) (L : Addr) (m : Loc) (N : Led) (st sdx ba : Addr) (t1 t2 u : Tok), Bs (KF w.params) g → Rm A d →
  Gc (model PR w) A g L m (stL w.params st sdx ba t1 t2 u b 0 ++ N) (.call (.ref fR) ⟨[.ref C, .ref st], []⟩) (fun v N' => ∃ E u', P v E ∧ N' = E ++ (stL w.params st sdx ba t1 t2 u' b b.length ++ N)) nx
theorem bs_parse (P : Params) (x : Addr) (v : Value) : bindArgs (fnX n_parse nx159 (fp2 44 1) (fb2 44 1) (fs2 44 1) [] Value.none Value.none Value.none (Value.str nx118 1389) (some 849) (Value.ref 845) Value.none) ⟨[Value.ref x, v], []⟩ =
 (do let t ← newTuple []; let d ← alloc emptyDict; pure [("cls", .ref x), ("s", v), ("args", t), ("kwargs", .ref d)]) := by kernel_rfl
end
section
variable {α : Type} {w : World} {M : Model} {A : Around} {g : Heap} {L a ba : Addr} {m : Loc} {N : Led} {x C fR sdx pR : Addr} {d : Nat} {t1 t2 u : Tok} {b s : List UInt8} {X : Value → Led → Prop} {k : HD}
theorem gvp_perm {N₁ : Led} {t : Sem α} {p : α → Prop} (q : N.Perm N₁) (h : GvP M A g L m N₁ t p X) : GvP M A g L m N t p X :=
 fun s Q E W k x => h s Q E (W.perm q) (fun v h' tk' N' e W' => by obtain ⟨e, rfl⟩ := e; exact k v h' tk' N ⟨e, rfl⟩ (W'.perm q.symm)) x
theorem s_parse {P : Value → Led → Prop} {v : Value} {rest : List Value} {j : Nat} (B : Bs (KF w.params) g) (r : Rm A (j + 4)) (hv : IsB b v) (hb0 : b ≠ []) (hz : b.length ≤ 1000) (hm : typeIn (KF w.params) (.ref C) = some (.type "type")) (hr : readsIn (KF w.params) C (.type "type") = true)
 (e : findCls (KF w.params) (.ref C) (.type "type") "read_from" = some (.get (.builtin "classmethod.__get__") (.ref pR) .none (.ref C))) (hp : recIn (KF w.params) pR "classmethod" = some (.ref fR :: rest)) (hfn : fnIn (KF w.params) fR = true) (hR : ReadsFrom w fR C b (j + 3) P) :
 Gc (model PR w) A g L m N (.call (.ref 846) ⟨[.ref C, v], []⟩) (fun v N' => ∃ E, P v E ∧ N' = E ++ N) X := by
 obtain ⟨tv, rfl⟩ := hv
 refine gc_weaken (gc_callS (d := j + 3) (C := []) (R := N) (rest := []) (P := fun v C' => ∃ E, P v E ∧ E.Sublist C') [("cls", .ref C), ("s", .bytes b.toArray tv)] (va := "args") (ka := "kwargs") B r rfl (by kernel_rfl) (fun s M A Q E q => ?_) (fun u v => by rfl) ?_ (by decide)) fun v N' ⟨C', ⟨E, p, hs⟩, e⟩ => ⟨E ++ N, e ▸ hs.append (List.Sublist.refl _), E, p, rfl⟩
 · rw [show bindArgs _ ⟨[.ref C, .bytes b.toArray tv], []⟩ = _ from bs_parse w.params C (.bytes b.toArray tv)]
   refine wpAny_bind (wpAny_newTuple (wpAny_bind (wpAny_alloc (wpAny_pure ?_))) (by rw [sizeLine_eq]; decide))
   rw [Heap.size_push]
   exact q
 · intro h₀ L' A' T D hD r st' sr B
   refine gs_assign (P := fun v N' => ∃ y sdx ba t1 t2 u, v = .ref y ∧ N' = stL w.params y sdx ba t1 t2 u b 0 ++ [(D, emptyDict), (T, tupO [])]) (gv_mono (gv_g1 B (ev_global B (gl_BytesIO _)) (kp_BytesIO _) (Ev.gv (ev_localB rfl)) fun v N' e => gv_of_gc (by obtain ⟨e, rfl⟩ := e; exact s_bionew (ob := some b) B r.le ⟨v, rfl, e⟩ (by simpa using hz))) fun v N' e => ?_) ?_
   · obtain ⟨y, rfl, sdx, ba, t1, t2, u, rfl⟩ := e
     exact ⟨y, sdx, ba, t1, t2, u, rfl, rfl⟩
   rintro v N' ⟨y, sdx, ba, t1, t2, u, rfl, rfl⟩
   have hDm : Ob h₀ (stL w.params y sdx ba t1 t2 u b 0 ++ [(D, emptyDict), (T, tupO [])]) D emptyDict := .inl (List.mem_append_right _ (.head _))
   have hTm : Ob h₀ (stL w.params y sdx ba t1 t2 u b 0 ++ [(D, emptyDict), (T, tupO [])]) T (tupO []) := .inl (List.mem_append_right _ (.tail _ (.head _)))
   refine gs_assign (P := fun v N' => ∃ E u' q, P v E ∧ N' = E ++ (stL w.params y sdx ba t1 t2 u' b b.length ++ ((q, methodObj (.ref fR) (.ref C)) :: [(D, emptyDict), (T, tupO [])]))) (gv_MCallS (PM := fun _ f N' => ∃ q, f = .ref q ∧ N' = (q, methodObj (.ref fR) (.ref C)) :: (stL w.params y sdx ba t1 t2 u b 0 ++ [(D, emptyDict), (T, tupO [])])) (ev_local rfl).gv ?_ ?_) ?_
   · refine i_b ?_
     exact (ga_class B hm hr e hp).gv
   · rintro ov f N2 ⟨q, rfl, rfl⟩
     refine gv_callWithS (PA := fun a N' => a = ⟨.ref y :: [], []⟩ ∧ N' = (q, methodObj (.ref fR) (.ref C)) :: (stL w.params y sdx ba t1 t2 u b 0 ++ [(D, emptyDict), (T, tupO [])])) (fun M x' N' s e W => keeps_M hfn s.heap (by obtain ⟨-, rfl⟩ := e; exact ⟨(W.nw _ (.head _)).1, B.X.keeps W.fr.keep⟩)) (Ev.gv (ev_starArgs (v1 := .ref y) (T := T) (D := D) (vs := []) (ev_local rfl) (fun N => ev_bind (ev_local rfl) fun v N' e => ev_at (ev_pure e)) (fun N => ev_bind (ev_local rfl) fun v N' e => ev_at (ev_pure e)) (hTm.mono (fun _ _ e => e) fun p hp => .inl (List.mem_cons_of_mem _ hp)) (hDm.mono (fun _ _ e => e) fun p hp => .inl (List.mem_cons_of_mem _ hp)) hD (by decide))) ?_ (by rfl)
     refine i_b ?_
     refine gv_of_gc (gc_method (.inl (.head _)) ?_)
     have pm : ((q, methodObj (.ref fR) (.ref C)) :: (stL w.params y sdx ba t1 t2 u b 0 ++ [(D, emptyDict), (T, tupO [])])).Perm (stL w.params y sdx ba t1 t2 u b 0 ++ ((q, methodObj (.ref fR) (.ref C)) :: [(D, emptyDict), (T, tupO [])])) := List.perm_middle.symm
     intro s S W k xx
     refine hR A' h₀ L' _ ((q, methodObj (.ref fR) (.ref C)) :: [(D, emptyDict), (T, tupO [])]) y sdx ba t1 t2 u B r s S (W.perm pm) (fun v h' tk' N' e W' => ?_) fun _ _ _ _ h _ => h.elim
     obtain ⟨E, u', hP, rfl⟩ := e
     exact k v h' tk' _ ⟨E, u', q, hP, rfl⟩ W'
   · rintro v N' ⟨E, u', q, hP, rfl⟩
     refine gs_ifF (gts_eq (gts_cmp1 (p1 := IsI 0) (gv_c1 B (ev_builtin B (no_len _) (by rfl)) kp_b (gvp_perm (N₁ := stL w.params y sdx ba t1 t2 u' b b.length ++ (E ++ ((q, methodObj (.ref fR) (.ref C)) :: [(D, emptyDict), (T, tupO [])]))) ?_ (gv_read0 B r.le (ev_local rfl) ev_int (k := 1) (by decide) (by omega))) fun v h => (call_lenB h (by decide)).gv) ev_int.gv fun x y h h' => (co_gt h h').gv) (by decide)) ?_
     · rw [← List.append_assoc, ← List.append_assoc]
       exact List.perm_append_comm.append_right _
     exact gs_return (ev_local rfl).gv fun v' N' e => by obtain ⟨rfl, rfl⟩ := e; exact ⟨E, hP, List.sublist_append_left _ _⟩
end
theorem gP_odd : gP % 2 = 1 := by decide
theorem psec_eq {n : Nat} (h0 : 0 < n) (h1 : n < gP) : psec n = UInt8.ofNat (if 2 * n < gP then 2 else 3) :: be 32 (min n (gP - n)) := by
 unfold psec
 rw [Nat.mod_eq_of_lt (by omega)]
theorem psec_mid {n : Nat} (h0 : 0 < n) (h1 : n < gP) : num (sl (psec n) (some 1) (some 33)) = min n (gP - n) := by
 rw [show (1 : Int) = ((1 : Nat) : Int) from rfl, show (33 : Int) = ((33 : Nat) : Int) from rfl, sl_mid _ _ _ (by rw [psec_length]; exact Nat.le_refl _) (by decide), psec_eq h0 h1]
 simp only [List.drop_succ_cons, List.drop_zero]
 rw [List.take_of_length_le (by rw [be_length]; exact Nat.le_refl _), num_be32 (by omega)]
theorem pnum_psec {n : Nat} (h0 : 0 < n) (h1 : n < gP) : pnum (psec n) = n := by
 have ho := gP_odd
 unfold pnum
 rw [psec_mid h0 h1]
 by_cases h : 2 * n < gP
 · rw [if_pos (by rw [psec_eq h0 h1, if_pos h]; rfl)]; omega
 · rw [if_neg (by rw [psec_eq h0 h1, if_neg h, List.getD_cons_zero]; decide)]; omega
theorem psec_first {n : Nat} : ∃ c, (c = 2 ∨ c = 3) ∧ psec n = c :: be 32 (min n (gP - n) % gP) := by
 unfold psec
 by_cases h : 2 * n < gP
 · exact ⟨2, .inl rfl, by rw [if_pos h]; rfl⟩
 · exact ⟨3, .inr rfl, by rw [if_neg h]; rfl⟩
theorem be_num32 {s : List UInt8} (h : s.length = 32) : be 32 (num s) = s := by rw [← h]; exact be_num s
theorem noI_bytes_add : typeLookup (.type "bytes") (dunderI "add") = pure none := by rw [typeLookup_type, builtinLookup_eq_fast]; kernel_rfl
section
variable {w : World} {A : Around} {g : Heap} {L : Addr} {m : Loc} {N : Led} {env : Env} {prog : Program}
open KBy in
theorem in_addB {x y : List UInt8} {u v : Value} (h1 : IsB x u) (h2 : IsB y v) (hz : x.length + y.length ≤ 16777216) (hx : x ≠ []) (hy : y ≠ []) : EvP (model prog w) A g L m N (inplaceOp .Add u v) (IsB (x ++ y)) := by
 obtain ⟨t, rfl⟩ := h1; obtain ⟨t', rfl⟩ := h2
 intro s Q E W q
 refine iconcat_gives (typeIs_bytes s x.toArray t) (typeIs_bytes s y.toArray t') noI_bytes_add noFill_bytes_add seq_bytes_add FB.slot_bytes_add FB.entry_bytes_add (FB.args_bytes_add_2 _ _) (gives_bytes_add (tooLong_not (by simpa using hz))) ?_
 rw [if_neg (by simpa using hx), if_neg (by simpa using hy)]
 refine ⟨by rw [Array.size_append, sizeLine_eq]; simpa using hz, ?_⟩
 rw [List.append_toArray]
 exact q _ s.heap _ N ⟨⟨_, rfl⟩, rfl⟩ W
theorem xs_try {body rest : List Stmt} {h₀ : ExceptHandler} {hs : List ExceptHandler} {p : Pos} {R : Flow → Loc → Led → Prop} (h : Xs (model prog w) A g L m N (execs body env) (Nx (model prog w) A g L env rest R)) : Xs (model prog w) A g L m N (execs (.Try body (h₀ :: hs) [] [] p :: rest) env) R :=
 xs_cons fun s Q E W q => wpAny_Try_except (h s _ _ W fun fl h' tk' m' N' e W' => by
  cases fl with
  | next => exact wpAny_execs_nil (q .next h' tk' m' N' e W')
  | _ => exact q _ h' tk' m' N' e W')
end
section
variable {w : World} {A : Around} {g : Heap} {L ba : Addr} {m : Loc} {N : Led} {x C st sdx : Addr} {n : Nat} {t1 t2 t3 u : Tok} {b s : List UInt8} {X : Value → Led → Prop} {k : HD} {i : Nat}
theorem rf_pk {j : Nat} (hl : s.length = 32) (h0 : 0 < num s) (h1 : num s < gP) : ReadsFrom w 1270 1284 s (j + 5) (fun v E => ∃ y, v = .ref y ∧ PkN w.params s y [] E) := by
 intro A g L m N st sdx ba b1 b2 b3 B r
 refine gc_mono (gc_call (C := stL w.params st sdx ba b1 b2 b3 s 0) (R := N) (P := fun v C' => ∃ y u', v = .ref y ∧ PkN w.params s y (stL w.params st sdx ba b1 b2 u' s s.length) C') [("cls", .ref 1284), ("stream", .ref st)] B r rfl (by kernel_rfl) (fun s X => BindsTo.of_eq rfl) (by rfl) ?_ (by decide)) ?_
 · intro h₀ L' A' r st' sr B
   have e0 : stL w.params st sdx ba b1 b2 b3 s 0 = stL w.params st sdx ba b1 b2 b3 s 0 ++ [] := (List.append_nil _).symm
   rw [e0]
   refine gs_return (P := fun v N' => ∃ y u', v = .ref y ∧ PkN w.params s y (stL w.params st sdx ba b1 b2 u' s s.length) N') (gv_g1 B (ev_local rfl) (kp_PrivateKey _) (gv_read (N := []) (k := 32) B r.le (ev_local rfl) ev_int (by decide) (by decide) (by omega) (by omega)) fun v N' e => ?_) fun v N' h => h
   obtain ⟨hv, u', rfl⟩ := e
   rw [List.drop_zero, List.take_of_length_le (by omega)] at hv
   rw [show 0 + 32 = s.length from by omega, List.append_nil]
   exact gv_of_gc (Cd.gc (cd_mono (s_pknew B r.le hv hl h0 h1) fun v N' e => let ⟨y, e1, e2⟩ := e; ⟨y, u', e1, e2⟩))
 · refine i_f ?_; rintro v C' ⟨y, u', rfl, dy, t1, t2, t3, u, rfl⟩
   exact ⟨[(y, instObj 1284 dy), (dy, dictOf (pkE w.params t1 t2 t3 u s) 3)], u', ⟨y, rfl, dy, t1, t2, t3, u, rfl⟩, rfl⟩
theorem rf_pb {j : Nat} (hl : s.length = 32) (h0 : 0 < num s) (h1 : num s < gP) : ReadsFrom w 1004 1130 (psec (num s)) (j + 5) (fun v E => ∃ y, v = .ref y ∧ PbN w.params s y [] E) := by
 intro A g L m N st sdx ba b1 b2 b3 B r
 have hpl := psec_length (num s)
 obtain ⟨c, hc, hpc⟩ := psec_first (n := num s)
 refine gc_mono (gc_call (C := stL w.params st sdx ba b1 b2 b3 (psec (num s)) 0) (R := N) (P := fun v C' => ∃ y u', v = .ref y ∧ PbN w.params s y (stL w.params st sdx ba b1 b2 u' (psec (num s)) (psec (num s)).length) C') [("cls", .ref 1130), ("stream", .ref st)] B r rfl (by kernel_rfl) (fun s X => BindsTo.of_eq rfl) (by rfl) ?_ (by decide)) ?_
 · intro h₀ L' A' r st' sr B
   have e0 : stL w.params st sdx ba b1 b2 b3 (psec (num s)) 0 = stL w.params st sdx ba b1 b2 b3 (psec (num s)) 0 ++ [] := (List.append_nil _).symm
   rw [e0]
   refine gs_assign (gv_read (N := []) (k := 1) B r.le (ev_local rfl) ev_int (by decide) (by decide) (by omega) (by omega)) ?_
   refine i_d fun v hv u1 => ?_
   have h1c : ((psec (num s)).drop 0).take 1 = [c] := by rw [hpc]; rfl
   rw [h1c] at hv
   obtain ⟨tv, rfl⟩ := hv
   refine gs_if0 (tst_eq (tst_notinB (ev_localB rfl) (ab_cons ev_bytes (ab_cons ev_bytes (ab_cons ev_bytes ab_nil))) (by decide)) (by rcases hc with rfl | rfl <;> decide)) ?_
   refine gs_else (tst_eq (tst_cmp1 (ev_localB rfl) ev_bytes fun x y h h' => co_eqB h h') (by rcases hc with rfl | rfl <;> decide)) ?_
   refine gs_aug (p1 := fun v N' => IsB ((psec (num s)).drop 1) v ∧ ∃ u', N' = stL w.params st sdx ba b1 b2 u' (psec (num s)) (psec (num s)).length ++ []) (P := fun v N' => IsB (psec (num s)) v ∧ ∃ u', N' = stL w.params st sdx ba b1 b2 u' (psec (num s)) (psec (num s)).length ++ []) rfl (gv_mono (gv_read (N := []) (k := 32) B r.le (ev_local rfl) ev_int (by decide) (by decide) (by omega) (by omega)) fun v N' e => ?_) (fun v N' e => ?_) (fun v N' e => ?_)
   · obtain ⟨hv, u', rfl⟩ := e
     rw [List.take_of_length_le (by rw [List.length_drop]; omega)] at hv
     exact ⟨hv, u', by rw [hpl]⟩
   · obtain ⟨hv, u', rfl⟩ := e
     have hcat : [c] ++ (psec (num s)).drop 1 = psec (num s) := by rw [hpc]; rfl
     refine Ev.gv (ev_mono (in_addB ⟨tv, rfl⟩ hv (by simp; omega) (by simp) (ne_of_len (n := 31) (by rw [List.length_drop]; omega))) fun z N' e => ?_)
     rw [hcat] at e
     exact ⟨e.1, u', e.2⟩
   obtain ⟨⟨tb, rfl⟩, u', rfl⟩ := e
   refine ny_nil ?_
   refine gs_lift1 (J := fun m' N' => N' = stL w.params st sdx ba b1 b2 u' (psec (num s)) (psec (num s)).length ++ [] ∧ lk m' "cls" = some (.ref 1130) ∧ lk m' "b" = some (.bytes (psec (num s)).toArray tb) ∧ ∃ t, lk m' "point" = some (.bytes s.toArray t)) ?_ ?_
   · refine xs_try (xs_assign (P := fun v N' => IsB s v ∧ N' = stL w.params st sdx ba b1 b2 u' (psec (num s)) (psec (num s)).length ++ []) (evB_eq (ev_g1 B (ev_global B (gl_ec_pubkey_parse _)) (kp_ec_pubkey_parse _) (ev_localB rfl) fun v h => s_pparse B r.le hpl h (by rw [psec_mid h0 h1]; omega) (by rw [psec_mid h0 h1]; omega)) (by rw [pnum_psec h0 h1, Nat.mod_eq_of_lt h1, be_num32 hl])) ?_)
     refine i_a fun t => ?_
     exact xs_nil (xs_nil ⟨rfl, rfl, rfl, rfl, t, rfl⟩)
   rintro m' N' ⟨rfl, l1, l2, tp, l3⟩
   refine gs_assign (P := fun v N' => IsT true v ∧ N' = stL w.params st sdx ba b1 b2 u' (psec (num s)) (psec (num s)).length ++ []) (Ev.gv (evT_eq (ev_cmp1 (P := fun v N' => IsT (((c.toNat : Nat) : Int) != 4) v ∧ N' = _) (p1 := IsI ((c.toNat : Nat) : Int)) (ev_mono (ev_ixB (i := 0) (ev_localB l2) ev_int rfl (by omega) (by omega)) fun v N' e => ⟨by have := e.1; rw [hpc] at this; exact this, e.2⟩) ev_int fun x y h h' => co_ne h h') (by rcases hc with rfl | rfl <;> decide))) ?_
   refine i_b ?_
   refine gs_return (P := fun v N' => ∃ y, v = .ref y ∧ PbN w.params s y (stL w.params st sdx ba b1 b2 u' (psec (num s)) (psec (num s)).length ++ []) N') (Ev.gv (ev_Call2 B (ev_local l1) (kp_PublicKey _) (ev_localB l3) (ev_local rfl) fun v z h h' => ?_)) fun v N' h => ?_
   · obtain rfl : z = _ := h'
     exact ev_of_cd (s_pbnew B r.le h (.inr rfl))
   · obtain ⟨y, e1, dy, t1, t2, u, rfl⟩ := h
     exact ⟨y, u', e1, dy, t1, t2, u, by rw [List.append_nil]⟩
 · refine i_f ?_; rintro v C' ⟨y, u', rfl, dy, t1, t2, u, rfl⟩
   exact ⟨[(y, instObj 1130 dy), (dy, dictOf (pbE w.params t1 t2 u s) 2)], u', ⟨y, rfl, dy, t1, t2, u, rfl⟩, rfl⟩
end
section
variable {w : World} {M : Model} {A : Around} {prog : Program} {E : Value → Shared → Prop} {s : Shared} {g : Heap} {L C a x f : Addr} {m : Loc} {N : Led} {X : Value → Led → Prop} {K : Frag} {env : Env} {cn : Str} {cs : Scope} {ccd : Value} {cl : List (Str × Addr)} {nm : Str}
theorem gv_callWithN {p : Pos} {f : Value} {first : List Value} {args : List (Bool × Sem Value)} {kws : List (Option Str × Sem Value)} {PA : Args → Led → Prop} {P : Value → Led → Prop} (hk : ∀ (M : Model) x N' (s : Shared), PA x N' → Wf g L s.heap m N' → ∃ k, (k = Keeper.frame ∨ k = Keeper.machine ∨ k = Keeper.boundFrame) ∧ Looks M s.heap (keeperOf f) k) (ha : Gv M A g L m N (evalArgs f true args kws) PA X)
 (hc : ∀ x N', PA x N' → Gv M A g L m N' (call f (first ++ x.pos) x.kw) P X) (hplain : (args.any (·.1) || kws.any (·.1.isNone)) = false) : Gv M A g L m N (callWith p f first args kws) P X := by
 unfold callWith
 refine gv_bind (gv_holding ha) fun x N' e1 => gv_at ?_
 simp only [hplain]
 intro s Q E W q xx
 obtain ⟨k, hk', Lk⟩ := hk M x N' s e1 W
 refine g_bind (wg (Lk.here ?_))
 have fin : ∀ {t : Sem Value}, Gv M A g L m N' t P X → wpG M A (t >>= fun r => holding [r] point >>= fun _ => pure r) Q E s := fun ht =>
  gv_bind ht (fun v N2 e2 => gv_bind (P := fun _ N3 => N3 = N2) (gv_holding (ev_point rfl).gv) fun _ _ e => e ▸ gv_pure e2) s Q E W q xx
 have marked (mk : Value) : Gv M A g L m N' (callMarked mk f (first ++ x.pos) x.kw) P X := by
  unfold callMarked
  intro s Q E W q xx Γ p i c
  rw [Sem.wp_keep]
  exact hc x N' e1 s Q E W q xx Γ p i c
 have plain := hc x N' e1
 rcases hk' with rfl | rfl | rfl <;> dsimp only <;> first | exact fin plain | (split <;> first | exact fin plain | exact fin (marked _))
theorem gv_cm1 {oe e1 : Expr} {apos p : Pos} {pl : Sem Bool} {pR : Addr} {rest : List Value} {p1 : Value → Prop} {P : Value → Led → Prop} (B : Bs K g) (ho : EvP (model prog w) A g L m N (eval oe env) (IsV (.ref C))) (hg : specialIn K (.ref C) "__getattribute__" = some (some (.builtin "type.__getattribute__"))) (hm : typeIn K (.ref C) = some (.type "type")) (hr : readsIn K C (.type "type") = true)
 (e : findCls K (.ref C) (.type "type") nm = some (.get (.builtin "classmethod.__get__") (.ref pR) .none (.ref C))) (hp : recIn K pR "classmethod" = some (.ref f :: rest)) (hfn : fnIn K f = true)
 (h1 : ∀ t : Addr × Obj, GvP (model prog w) A g L m (t :: N) (eval e1 env) p1 X) (hc : ∀ v N2, p1 v → Gc (model prog w) A g L m N2 (.call (.ref f) ⟨[.ref C, v], []⟩) (fun v N' => ∃ E, P v E ∧ N' = E ++ N2) X)
 (he : eval (.Call (.Attribute oe nm apos) [e1] [] p) env = (do
  let ov ← eval oe env
  standAt apos.atName
  let (f, first) ← holding [ov] (getMethod ov nm pl)
  callWith p f first (backTo p (starEach [e1] env)) (backToKw p (keywordEach [] env))) := by rfl)
 (he1 : starEach [e1] env = (false, eval e1 env) :: starEach [] env := by rfl) (hplain : (backTo p (starEach [e1] env)).any (·.1) = false := by rfl) :
 Gv (model prog w) A g L m N (eval (.Call (.Attribute oe nm apos) [e1] [] p) env) (fun v N' => ∃ E, P v E ∧ N' = E ++ N) X := by
 refine gv_weaken (P := fun v N' => ∃ E q, P v E ∧ N' = E ++ ((q, methodObj (.ref f) (.ref C)) :: N)) (gv_MCall (PM := fun _ fx N' => ∃ q, fx = (.ref q, []) ∧ N' = (q, methodObj (.ref f) (.ref C)) :: N) ho.gv ?_ ?_ he) fun v N' ⟨E, q, h, e⟩ => ⟨E ++ N, by rw [e]; exact (List.Sublist.refl _).append (List.sublist_cons_self _ _), E, h, rfl⟩
 · refine i_b ?_
   exact (gm_class B hg hm hr e hp).gv
 · rintro ov f' first N2 ⟨q, e0, rfl⟩
   obtain ⟨rfl, rfl⟩ := Prod.mk.inj e0
   refine gv_callWithN (PA := fun x N' => ∃ v, x = ⟨[v], []⟩ ∧ p1 v ∧ N' = (q, methodObj (.ref f) (.ref C)) :: N) (fun M x N' s e W => ?_) (gv_mono (gv_evalArgs (PA := fun vs N' => ∃ v, vs = [v] ∧ p1 v ∧ N' = (q, methodObj (.ref f) (.ref C)) :: N) (PK := fun vs ks N' => ∃ v, vs = [v] ∧ ks = [] ∧ p1 v ∧ N' = (q, methodObj (.ref f) (.ref C)) :: N) (gr_cons (h1 _) (fun v N' e => gr_nil ⟨v, rfl, e.1, e.2⟩) he1) (fun vs N' e => gk_nil (by obtain ⟨v, e1, e2, e3⟩ := e; exact ⟨v, e1, rfl, e2, e3⟩)) (by rfl) hplain) fun x N' e => ?_) (fun x N' e => ?_) (by rw [hplain]; rfl)
   · obtain ⟨v, -, -, rfl⟩ := e
     exact keeps_M hfn s.heap ⟨(W.nw _ (.head _)).1, B.X.keeps W.fr.keep⟩
   · obtain ⟨vs, ks, rfl, v, rfl, rfl, hv, rfl⟩ := e
     exact ⟨v, rfl, hv, rfl⟩
   · obtain ⟨v, rfl, hv, rfl⟩ := e
     refine gv_of_gc (gc_method (.inl (.head _)) ?_)
     exact gc_mono (hc v _ hv) fun v N' e => let ⟨E, h1, h2⟩ := e; ⟨E, q, h1, h2⟩
theorem ev_m1 {o e1 : Expr} {name : Str} {apos p : Pos} {pl : Sem Bool} {P1 P : Value → Led → Prop} (B : Bs K g) (ho : EvP (model prog w) A g L m N (eval o env) (IsV (.ref x))) (hM : Mth K g N name x f) (h1 : Ev (model prog w) A g L m N (eval e1 env) P1)
 (hc : ∀ v N2, P1 v N2 → Cd (model prog w) A g L m N2 (.call (.ref f) ⟨[.ref x, v], []⟩) P)
 (he : eval (.Call (.Attribute o name apos) [e1] [] p) env = (do
  let ov ← eval o env
  standAt apos.atName
  let (f, first) ← holding [ov] (getMethod ov name pl)
  callWith p f first (backTo p (starEach [e1] env)) []) := by rfl)
 (he1 : starEach [e1] env = (false, eval e1 env) :: starEach [] env := by rfl) : Ev (model prog w) A g L m N (eval (.Call (.Attribute o name apos) [e1] [] p) env) P := by
 refine ev_MCall (PM := fun ov fx N2 => fx = (.ref f, [.ref x]) ∧ N2 = N) ho ?_ ?_ he
 · refine i_b ?_
   exact hM.gm B
 · rintro ov f' first N2 ⟨e, rfl⟩
   obtain ⟨rfl, rfl⟩ := Prod.mk.inj e
   refine ev_callWith (PA := fun vs N' => ∃ v, vs = [v] ∧ P1 v N') B hM.kp (ar_cons h1 (fun v N' e => ar_nil ⟨v, rfl, e⟩) he1) (fun vs N' e => ?_) he1
   obtain ⟨v, rfl, e⟩ := e
   exact ev_of_cd (hc v N' e)
theorem ev_from2 {e1 e2 : Expr} {p1 apos p : Pos} {b : List UInt8} {J : Addr → Led → Prop} (B : Bs K g) (hI : nsIn K mainGlobals "int" = some none) (hF : findCls K (.type "int") (.type "type") (Str.ofString "from_bytes") = some (.get (.builtin "classmethod_descriptor.__get__") (.builtin "int.from_bytes") .none (.type "int")))
 (h1 : ∀ x, Ev (model prog w) A g L m ((x, KFB.bound) :: N) (eval e1 (envX cn cs L a ccd cl)) (fun v N' => IsB b v ∧ J x N')) (hJ : ∀ x N', J x N' → (x, KFB.bound) ∈ N') (h2 : ∀ N, EvP (model prog w) A g L m N (eval e2 (envX cn cs L a ccd cl)) (IsS "big")) (hl : b.length ≤ 1000) {pl : Sem Bool}
 (hk : cs.kind = .function := by rfl) (hx : (envX cn cs L a ccd cl).kindOf "int" = some .globalImplicit := by rfl)
 (he : eval (.Call (.Attribute (.Name "int" p1) "from_bytes" apos) [e1, e2] [] p) (envX cn cs L a ccd cl) = (do
  let ov ← eval (.Name "int" p1) (envX cn cs L a ccd cl)
  standAt apos.atName
  let (f, first) ← holding [ov] (getMethod ov "from_bytes" pl)
  callWith p f first (backTo p (starEach [e1, e2] (envX cn cs L a ccd cl))) []) := by rfl)
 (he1 : starEach [e1, e2] (envX cn cs L a ccd cl) = (false, eval e1 (envX cn cs L a ccd cl)) :: starEach [e2] (envX cn cs L a ccd cl) := by rfl) (he2 : starEach [e2] (envX cn cs L a ccd cl) = (false, eval e2 (envX cn cs L a ccd cl)) :: starEach [] (envX cn cs L a ccd cl) := by rfl)
 (hplain : (backTo p (starEach [e2] (envX cn cs L a ccd cl))).any (·.1) = false := by rfl) :
 Ev (model prog w) A g L m N (eval (.Call (.Attribute (.Name "int" p1) "from_bytes" apos) [e1, e2] [] p) (envX cn cs L a ccd cl)) (fun v N' => IsI (num b) v ∧ ∃ x, J x N') := by
 refine ev_MCall (PM := fun _ fx N' => ∃ x, fx = (.ref x, []) ∧ N' = (x, KFB.bound) :: N) (ev_builtin B hI (by rfl) (by decide) hk hx) ?_ ?_ he
 · rintro ov N1 ⟨rfl, rfl⟩ s Q E W q
   exact KFB.getm W.fr W.nw B.X hF fun x h' F' n' l => q _ h' _ _ ⟨x, rfl, rfl⟩ (nodup_push W l F' n')
 · rintro ov f first N2 ⟨x, e, rfl⟩
   obtain ⟨rfl, rfl⟩ := Prod.mk.inj e
   intro s Q E W q
   refine KFB.callWith_bound W.nw (.head _) ?_ he1 hplain
   refine (ar_cons (PA := fun vs N' => (∃ t u, vs = [.bytes b.toArray t, .str "big" u]) ∧ J x N') (h1 x) ?_ he1) s _ E W ?_
   · rintro v N' ⟨⟨t, rfl⟩, hj⟩
     refine ar_cons (h2 _) ?_ he2
     refine i_a fun u => ?_
     exact ar_nil ⟨⟨t, u, rfl⟩, hj⟩
   · rintro vs h' tk' N' ⟨⟨t, u, rfl⟩, hj⟩ W'
     have hm := hJ x N' hj
     exact ⟨KFB.at_of W'.nw hm, KFB.call_of (KFB.at_of W'.nw hm) (fun z => tree_from (by simpa using hl) z) (q _ h' _ _ ⟨⟨_, rfl⟩, x, hj⟩ W')⟩
theorem gv_ixB {v e : Expr} {p' : Pos} {b : List UInt8} {i : Nat} {i' : Int} {J : Led → Prop} (h : Gv (model prog w) A g L m N (eval v env) (fun v N' => IsB b v ∧ J N') X) (hi : ∀ N, EvP (model prog w) A g L m N (eval e env) (IsI i')) (ei : i' = (i : Int)) (hl : i < b.length) (hz : b.length ≤ 16777216)
 (hs : ∀ b t i u, subscripted e false (.bytes b t) (.int i u) = operate [.bytes b t, .int i u] (getItem (.bytes b t) (.int i u)) := by intro _ _ _ _; with_unfolding_all rfl)
 (ht : ∀ b t r, letTemporaryGo v (.bytes b t) r = pure () := by intro _ _ _; with_unfolding_all rfl) :
 Gv (model prog w) A g L m N (eval (.Subscript v e p') env) (fun v N' => IsI ((b.getD i 0).toNat : Int) v ∧ J N') X := by
 rw [arm_eval_Subscript]
 refine gv_bind h fun o N1 e1 => Ev.gv fun s Q E W1 q => sub_rest ?_
 obtain ⟨⟨t, rfl⟩, hj⟩ := e1
 refine hi _ _ _ E W1 fun l h2 tk2 N2 e2 W2 => ?_
 obtain ⟨⟨u, rfl⟩, rfl⟩ := e2
 subst ei
 refine subscriptTail_builtin (typeIs_bytes _ _ _) FB.slot_bytes_getitem.lookup ?_ (hs _ _ _ _) (fun r => ht _ _ r)
 refine getItem_bytes (by omega) (by omega) (by simpa using hl) ?_
 rw [Int.toNat_natCast]
 exact q _ h2 (tk2 + 1) N2 ⟨⟨tk2, by simp⟩, hj⟩ W2
end
section
variable {w : World} {A : Around} {prog : Program} {E : Value → Shared → Prop} {s : Shared} {g : Heap} {L a I : Addr} {m : Loc} {N : Led} {XS : Value → Loc → Led → Prop} {env : Env} {cn : Str} {cs : Scope} {ccd : Value} {cl : List (Str × Addr)}
noncomputable abbrev noE : Value → Shared → Prop := fun _ _ => False
theorem cg_for {R : Result → Shared → Prop} {target : Expr} {it : Value} {body : List Stmt} (Inv : Nat → Shared → Prop)
 (turn : ∀ n s, Inv n s → wpG (model prog w) A (pyNext it) (fun r s₁ => match r with
  | none => R (.ok .next) s₁
  | some v => wpG (model prog w) A (assign target env v) (fun _ s₂ => wpG (model prog w) A (execs body env) (fun f s₃ => match f with
   | .next | .cont => ∃ m, m < n ∧ Inv m s₃
   | .brk => R (.ok .next) s₃
   | .ret v => R (.ok (.ret v)) s₃) noE s₂) noE s₁) noE s)
 (n : Nat) (h : Inv n s) (ht : ∀ v, letOwnedTupleGo target it v = pure () := by intro _; rfl) : codeG (model prog w) A (.forLoop target it body [] env) R s := by
 induction n using Nat.strongRecOn generalizing s with
 | ind n ih =>
  refine cg_of_tree ?_
  show wpG _ A ((forTurn target it body [] env).onRaise (fun x => do noteFrame x env; theTreesLotGoes x)) _ _ s
  refine g_onRaise (g_mono (E := noE) ?_ (fun _ _ h => h) fun _ _ h => h.elim)
  refine g_bind (wg (wpAny_standAt (g_bind (g_onRaise (g_mono (turn n s h) (fun r s₁ h₁ => ?_) fun _ _ h => h.elim)))))
  cases r with
  | none => exact g_pure ⟨rfl, rfl, (cgg (codeAny_block (wpAny_execs_nil h₁)))⟩
  | some v =>
   refine g_bind (wg (wpAny_of_eq (ht v) ?_))
   refine g_bind (g_mono h₁ (fun _ s₂ h₂ => g_bind (g_mono h₂ (fun f s₃ h₃ => ?_) fun _ _ h => h)) fun _ _ h => h)
   cases f with
   | next => obtain ⟨m, hm, hI⟩ := h₃; exact g_pure ⟨rfl, rfl, ih m hm hI⟩
   | cont => obtain ⟨m, hm, hI⟩ := h₃; exact g_pure ⟨rfl, rfl, ih m hm hI⟩
   | brk => exact g_pure h₃
   | ret v => exact g_pure h₃
theorem Wf.move {h h' : Heap} {I : Addr} (W : Wf g L h m N) (hIL : I ≠ L) (hIg : g.get? I = none) (hIN : ∀ p ∈ N, p.1 ≠ I) (k : ∀ b o, b ∉ [I] → h.get? b = some o → h'.get? b = some o) : Wf g L h' m N :=
 ⟨⟨W.fr.ns.at' fun o e => k L o (fun q => hIL (List.mem_singleton.mp q).symm) e, fun b o e => k b o (fun q => by rw [List.mem_singleton.mp q, hIg] at e; cases e) (W.fr.keep b o e), W.fr.above⟩,
  fun p hp => ⟨k _ _ (fun q => hIN p hp (List.mem_singleton.mp q)) (W.nw p hp).1, (W.nw p hp).2⟩, W.nd⟩
theorem gs_for {x : Str} {iter : Expr} {body rest : List Stmt} {px pos : Pos} {n : Nat} {P : Nat → Value → Prop} {kp : Led} {R : Flow → Loc → Led → Prop} (J : Nat → Loc → Led → Prop)
 (he : Gv (model prog w) A g L m N (eval iter (envX cn cs L a ccd cl)) (fun v N' => It prog w A g L N' kp v n P ∧ J 0 m N') (fun v N' => XS v m N'))
 (hkp : ∀ i m N, J i m N → ∀ p ∈ kp, p ∈ N)
 (step : ∀ i v m₁ N₁ I it, i < n → P i v → J i m₁ N₁ → Gs (model prog w) A g L ((x, v) :: m₁) (N₁ ++ [(I, it)]) (execs body (envX cn cs L a ccd cl)) (fun fl m₂ N₂ => match fl with
  | .ret u => R (.ret u) m₂ N₂
  | .brk => ∃ N₃, N₃.Sublist N₂ ∧ Gs (model prog w) A g L m₂ N₃ (execs rest (envX cn cs L a ccd cl)) R XS
  | _ => ∃ N₃, N₂ = N₃ ++ [(I, it)] ∧ J (i + 1) m₂ N₃) nxs)
 (done : ∀ m₁ N₁, J n m₁ N₁ → Gs (model prog w) A g L m₁ N₁ (execs rest (envX cn cs L a ccd cl)) R XS)
 (hk : cs.kind = .function := by rfl) (hx : (envX cn cs L a ccd cl).kindOf x = some .local := by rfl) (hs : ∀ x, foldedSetIterable iter (envX cn cs L a ccd cl) x = pure x := by intro _; rfl) :
 Gs (model prog w) A g L m N (execs (.For (.Name x px) iter body [] pos :: rest) (envX cn cs L a ccd cl)) R XS := by
 refine gs_cons fun s Q E W q xx => ?_
 rw [exec_For]
 refine g_bind (wg (wpAny_standAt (g_bind (he s _ E W (fun v h1 tk1 N1 e1 W1 => ?_) fun e h' tk' N' e1 W' => xx e h' tk' m N' e1 W'))))
 refine g_bind (wg (wpAny_of_eq (hs v) (g_bind (wg (wpAny_standAt (g_bind (g_holding ?_)))))))
 refine (wg (e1.1 m _ _ _ W1 fun o fp St Wk hfp hsome hst => ?_))
 have hJ0 := e1.2
 have hIg : g.get? h1.objs.size = none := next_is_new W1.fr
 have hIL : h1.objs.size ≠ L := fun e => Nat.lt_irrefl _ (e ▸ W1.fr.ns.lt)
 have hI0 : ∀ p ∈ N1, p.1 ≠ h1.objs.size := fun p hp e => absurd (Heap.lt_size (W1.nw p hp).1) (e ▸ Nat.lt_irrefl _)
 have hp : ((envX cn cs L a ccd cl).scope.kind == .class || ((envX cn cs L a ccd cl).scope.kind == .module && (envX cn cs L a ccd cl).locals != (envX cn cs L a ccd cl).globals)) = false := by
  show (cs.kind == .class || (cs.kind == .module && _)) = false; rw [hk]; rfl
 unfold runOwn
 refine g_onRaise (g_run ?_ rfl)
 have W0 : Wf g L (h1.push o) m N1 := ⟨W1.fr.push _, fun p hp => ⟨Heap.get?_push_of_some _ (W1.nw p hp).1, (W1.nw p hp).2⟩, W1.nd⟩
 refine cg_for (fun k s' => ∃ h' tk m' N' i, s' = { s with heap := h', toks := tk } ∧ St i h' ∧ Wf g L h' m' N' ∧ (∀ p ∈ N', p.1 ≠ h1.objs.size) ∧ J i m' N' ∧ i ≤ n ∧ k = n + 1 - i) ?_ (n + 1) ⟨h1.push o, tk1, m, N1, 0, rfl, hst, W0, hI0, hJ0, Nat.zero_le _, rfl⟩
 rintro k s' ⟨h', tk, m', N', i, rfl, hst', W', hne', hJ, hi, rfl⟩
 by_cases hlt : i < n
 · refine (wg (Wk.item i _ _ _ hlt hst' fun v h₁ tk₁ hP hst₁ hk₁ => ?_))
   have W2 := W'.move hIL hIg hne' hk₁
   obtain ⟨it, hit⟩ := hsome _ _ hst₁
   refine (wg (wpAny_assign_Name (wpAny_storeName_local hx W2.fr.ns (fun h₂ hn₂ hs₂ => ?_) hp)))
   have F₂ := W2.fr.set hn₂ hs₂
   have n₂ : News g L h₂ N' := W2.nw.set hs₂
   have hit₂ : h₂.get? h1.objs.size = some it := (hs₂.2 _ hIL).trans hit
   have W3 : Wf g L h₂ ((x, v) :: m') (N' ++ [(h1.objs.size, it)]) := wf_end (lk_cons m' x v ▸ F₂) n₂ W2.nd hne' hit₂ hIL hIg
   refine step i v m' N' _ it hlt hP hJ _ _ _ W3 (fun fl h3 tk3 m3 N3 e3 W4 => ?_) fun _ _ _ _ _ h _ => h.elim
   have fin : (∃ N₃, N3 = N₃ ++ [(h1.objs.size, it)] ∧ J (i + 1) m3 N₃) → ∃ k', k' < n + 1 - i ∧ ∃ h'' tk m' N' i, ({ s with heap := h3, toks := tk3 } : Shared) = { s with heap := h'', toks := tk } ∧ St i h'' ∧ Wf g L h'' m' N' ∧ (∀ p ∈ N', p.1 ≠ h1.objs.size) ∧ J i m' N' ∧ i ≤ n ∧ k' = n + 1 - i := by
    rintro ⟨N₃, rfl, hJ3⟩
    obtain ⟨W5, hne⟩ := wf_front W4
    refine ⟨n + 1 - (i + 1), by omega, h3, tk3, m3, N₃, i + 1, rfl, ?_, W5, hne, hJ3, hlt, rfl⟩
    refine Wk.frame _ _ _ hst₁ fun b hb o e => ?_
    rcases hfp b hb with rfl | e' | ⟨ob, e'⟩
    · rw [hit] at e
      obtain rfl := Option.some.inj e
      exact (W4.nw _ (List.mem_append_right _ (.head _))).1
    · obtain ⟨o0, h0⟩ := Option.isSome_iff_exists.mp e'
      have := W2.fr.keep b o0 h0
      rw [e] at this
      obtain rfl := Option.some.inj this
      exact W5.fr.keep _ _ h0
    · have := (W2.nw _ (hkp i m' N' hJ _ e')).1
      rw [show h₁.get? b = some o from e] at this
      obtain rfl := Option.some.inj this
      exact (W5.nw _ (hkp _ _ _ hJ3 _ e')).1
   cases fl with
   | ret u => exact q _ h3 tk3 m3 N3 e3 W4
   | brk =>
    obtain ⟨N₃, hs3, hx3⟩ := e3
    exact q .next h3 tk3 m3 N₃ hx3 (W4.sub hs3)
   | next => exact fin e3
   | cont => exact fin e3
 · have hin : i = n := by omega
   subst hin
   refine (wg (Wk.done _ _ _ hst' fun h₁ tk₁ hk₁ => ?_))
   exact q .next h₁ tk₁ m' N' (done m' N' hJ) (W'.move hIL hIg hne' hk₁)
end
section
variable {w : World} {A : Around} {prog : Program} {E : Value → Shared → Prop} {s : Shared} {g : Heap} {L C I : Addr} {m : Loc} {N : Led} {env : Env} {P : Nat → Value → Prop} {F : Nat → Value → Prop}
theorem Wf.two {h h' : Heap} {D : Addr} {x y : Value} {ys : List Value} {it : Obj} {c c' : Nat} (W : Wf g L h m [(D, listOf ys.toArray c), (I, it)]) (hs : Heap.SameBut D h h') (e : h'.get? D = some (listOf (ys ++ [y]).toArray c')) : Wf g L h' m [(D, listOf (ys ++ [y]).toArray c'), (I, it)] := by
 have hD := W.nw _ (.head _)
 have hI := W.nw (I, it) (.tail _ (.head _))
 have hne : I ≠ D := fun q => by have := W.nd; subst q; simp at this
 refine ⟨⟨W.fr.ns.sameBut hs hD.2.1.symm, fun b o q => (hs.2 b fun z => by subst z; rw [hD.2.2] at q; cases q).trans (W.fr.keep b o q), W.fr.above⟩, fun p hp => ?_, W.nd⟩
 rcases List.mem_cons.mp hp with rfl | hp
 · exact ⟨e, hD.2⟩
 · obtain rfl := List.mem_singleton.mp hp
   exact ⟨(hs.2 _ hne).trans hI.1, hI.2⟩
theorem comp_core {elt iter : Expr} {x : Str} {px : Pos} {scope : Scope} {cl : List (Str × Addr)} {pos : Pos} {h1 : Heap} {o : Obj} {fp : List Addr} {n : Nat} {St : Nat → Heap → Prop} {RR : Value → Addr → Result → Shared → Prop}
 (Wk : Walks prog w A h1.objs.size fp [h1.objs.size] n P St) (hs : s.heap = h1.push o) (hfp : ∀ b ∈ fp, b = h1.objs.size ∨ (h1.get? b).isSome = true) (hsome : ∀ i h, St i h → ∃ it, h.get? h1.objs.size = some it) (hst : St 0 (h1.push o)) (hsz : n ≤ sizeLine)
 (hcell : ∀ y ∈ scope.names, y.2 ≠ .cell) (hkind : scope.kind = .function) (hx : scope.names.lookup x = some .local)
 (helt : ∀ i v C mC N₁, P i v → lk mC x = some v → EvP (model prog w) A h1 C mC N₁ (eval elt (compEnvC scope cl C env)) (F i))
 (hRR : ∀ D C h' tk mC (ys : List Value) c, D ≠ C → h1.objs.size ≤ D → h1.objs.size ≤ C → h'.Ns C mC → h'.get? D = some (listOf ys.toArray c) → ys.length = n → (∀ j y, ys[j]? = some y → F j y) → (∀ b o, h1.get? b = some o → h'.get? b = some o) → RR (.ref D) C (.ok .next) { s with heap := h', toks := tk }) :
 wpAny (model prog w) A (newList []) (fun acc s₃ => wpAny (model prog w) A (newFunctionEnv scope env.globals cl [] env.qual none .none (some env)) (fun cenv s₄ =>
  codeAny (model prog w) A (.compStart (.ListComp elt [⟨.Name x px, iter, [], 0⟩] scope pos) 0 (.ref h1.objs.size) acc { cenv with scope := relabel scope env }) (RR acc cenv.locals) s₄) E s₃) E s := by
 obtain ⟨hh, gg, d, tk0, os⟩ := s
 obtain rfl : hh = h1.push o := hs
 refine wpAny_newObj_type (wpAny_newFunctionEnv hcell (by intro y hy; simp at hy) (fun h₁ hns₁ hsb₁ => ?_) hkind)
 dsimp only at hns₁ hsb₁ ⊢
 have hD0 : (h1.push o).objs.size = h1.objs.size + 1 := Heap.size_push ..
 have hC0 : ((h1.push o).push { cls := .type "list", dict := none, data := .seq ([] : List Value).toArray }).objs.size = h1.objs.size + 2 := by rw [Heap.size_push, hD0]
 generalize hC : ((h1.push o).push { cls := .type "list", dict := none, data := .seq ([] : List Value).toArray }).objs.size = C at hns₁ hsb₁ hC0 ⊢
 have hkeep : ∀ b o', (h1.push o).get? b = some o' → h₁.get? b = some o' := fun b o' e => hsb₁.extBut b o' (Nat.ne_of_lt (Nat.lt_of_lt_of_le (Heap.lt_size e) (by omega))) (Heap.get?_push_of_some _ (Heap.get?_push_of_some _ e))
 have hD1 : h₁.get? (h1.push o).objs.size = some (listOf ([] : List Value).toArray 0) := hsb₁.extBut _ _ (Nat.ne_of_lt (show (h1.push o).objs.size < C by omega)) (Heap.get?_push_of_some _ (Heap.get?_push_size _ rfl))
 have hst₁ : St 0 h₁ := Wk.frame _ _ _ hst fun b _ o' e => hkeep b o' e
 have nI : ∀ b, h1.objs.size ≤ b → h1.get? b = none := fun b hb => by
  cases e : h1.get? b with
  | none => rfl
  | some o' => exact absurd (Heap.lt_size e) (Nat.not_lt.mpr hb)
 have hst1 : ∀ b o', h1.get? b = some o' → h₁.get? b = some o' := fun b o' e => hkeep b o' (Heap.get?_push_of_some _ e)
 obtain ⟨it0, hit0⟩ := hsome _ _ hst₁
 have W0 : Wf h1 C h₁ [] [((h1.push o).objs.size, listOf ([] : List Value).toArray 0)] := ⟨⟨hns₁, hst1, by omega⟩, fun p hp => by
  obtain rfl := List.mem_singleton.mp hp
  exact ⟨hD1, by show (h1.push o).objs.size ≠ C; omega, nI _ (by show _ ≤ (h1.push o).objs.size; omega)⟩, by simp⟩
 have hp : ((compEnvC scope cl C env).scope.kind == .class || ((compEnvC scope cl C env).scope.kind == .module && (compEnvC scope cl C env).locals != (compEnvC scope cl C env).globals)) = false := by simp [compEnvC, relabel, hkind]
 have loop : ∀ s₃ : Shared, s₃ = (⟨h₁, gg, d, tk0 + ([] : List (Str × Value)).length, os⟩ : Shared) →
  codeAny (model prog w) A (.compLoop (.ListComp elt [⟨.Name x px, iter, [], 0⟩] scope pos) 0 (.ref h1.objs.size) (.ref (h1.push o).objs.size) (compEnvC scope cl C env)) (RR (.ref (h1.push o).objs.size) C) s₃ := by
  rintro s₃ rfl
  refine codeAny_compLoop_tests (fun k s' => ∃ h' tk mC ys c, s' = (⟨h', gg, d, tk, os⟩ : Shared) ∧ St ys.length h' ∧ Wf h1 C h' mC [((h1.push o).objs.size, listOf ys.toArray c)] ∧ (∀ j y, ys[j]? = some y → F j y) ∧ ys.length ≤ n ∧ k = n + 1 - ys.length) ?_ (n + 1)
   ⟨h₁, _, [], [], 0, rfl, hst₁, W0, fun j y e => by simp at e, Nat.zero_le _, rfl⟩
  rintro k s' ⟨h', tk, mC, ys, c, rfl, hst', W', hF, hi, rfl⟩
  have hIC : h1.objs.size ≠ C := by omega
  have hne : ∀ p ∈ [((h1.push o).objs.size, listOf ys.toArray c)], p.1 ≠ h1.objs.size := fun p hp => by obtain rfl := List.mem_singleton.mp hp; show (h1.push o).objs.size ≠ _; omega
  by_cases hlt : ys.length < n
  · refine Wk.item ys.length _ _ _ hlt hst' fun v h₂ tk₂ hP hst₂ hk₂ => ?_
    have W2 := W'.move hIC (nI _ (Nat.le_refl _)) hne hk₂
    obtain ⟨it, hit⟩ := hsome _ _ hst₂
    refine wpAny_assign_Name (wpAny_storeName_local (lookup_relabel_local hx) W2.fr.ns (fun h₃ hn₃ hs₃ => ?_) hp)
    have F₃ := W2.fr.set hn₃ hs₃
    have n₃ := W2.nw.set hs₃
    have hit₃ : h₃.get? h1.objs.size = some it := (hs₃.2 _ hIC).trans hit
    have W3 : Wf h1 C h₃ ((x, v) :: mC) ([((h1.push o).objs.size, listOf ys.toArray c)] ++ [(h1.objs.size, it)]) := wf_end (lk_cons mC x v ▸ F₃) n₃ W2.nd hne hit₃ hIC (nI _ (Nat.le_refl _))
    refine wpAny_tests_nil ?_
    rw [if_pos rfl]
    refine helt ys.length v C _ _ hP (by simp [lk]) _ _ _ W3 fun y h₄ tk₄ N₄ e₄ W4 => ?_
    obtain ⟨hFy, rfl⟩ := e₄
    have hD4 := (W4.nw _ (.head _)).1
    refine wpAny_list_append_plain (hsz := by simp; omega) ⟨c, hD4⟩ fun h₅ hl₅ hs₅ => ?_
    obtain ⟨c', hD5⟩ := hl₅
    have hpe : ys.toArray.push y = (ys ++ [y]).toArray := by simp
    rw [hpe] at hD5
    have W5 := Wf.two (x := y) W4 hs₅ hD5
    obtain ⟨W6, -⟩ := wf_front (N := [((h1.push o).objs.size, listOf (ys ++ [y]).toArray c')]) W5
    refine ⟨n + 1 - (ys.length + 1), by omega, h₅, tk₄, _, ys ++ [y], c', rfl, ?_, W6, fun j z e => ?_, by rw [List.length_append, List.length_singleton]; exact hlt, by rw [List.length_append, List.length_singleton]⟩
    · rw [List.length_append, List.length_singleton]
      refine Wk.frame _ _ _ hst₂ fun b hb o' e => ?_
      rcases hfp b hb with rfl | e'
      · rw [hit] at e
        obtain rfl := Option.some.inj e
        exact (W5.nw _ (.tail _ (.head _))).1
      · obtain ⟨o0, h0⟩ := Option.isSome_iff_exists.mp e'
        have := W2.fr.keep b o0 h0
        rw [show h₂.get? b = some o' from e] at this
        obtain rfl := Option.some.inj this
        exact W5.fr.keep _ _ h0
    · rcases Nat.lt_trichotomy j ys.length with h | h | h
      · exact hF j z (by rwa [List.getElem?_append_left h] at e)
      · subst h; simp at e; subst e; exact hFy
      · have hnone : (ys ++ [y])[j]? = none := List.getElem?_eq_none (by rw [List.length_append, List.length_singleton]; omega)
        rw [hnone] at e; cases e
  · have hin : ys.length = n := by omega
    refine Wk.done _ _ _ (hin ▸ hst') fun h₂ tk₂ hk₂ => ?_
    have W2 := W'.move hIC (nI _ (Nat.le_refl _)) hne hk₂
    exact hRR _ C h₂ tk₂ _ ys c (by omega) (by omega) (by omega) W2.fr.ns (W2.nw _ (.head _)).1 hin hF W2.fr.keep
 exact codeAny_compStart_list (loop _ rfl) (Wk.self 0 _ _ _ hst₁ (loop _ rfl))
end
section
variable {w : World} {M : Model} {A : Around} {prog : Program} {E : Value → Shared → Prop} {s : Shared} {g : Heap} {L C a c : Addr} {m : Loc} {N : Led} {K : Frag} {env : Env} {P : Nat → Value → Prop} {F : Nat → Value → Prop} {scope cs : Scope} {cl cl0 : List (Str × Addr)} {cn : Str} {ccd : Value} {XS : Value → Loc → Led → Prop}
theorem ev_cl {x : Str} {p : Pos} {v : Value} (hv : lk m x = some v) (hk : (relabel scope env).kind = .function := by rfl) (hx : (compEnvC scope cl L env).kindOf x = some .local := by rfl) (hd : (x == ("__debug__" : Str)) = false := by decide) :
 EvP M A g L m N (eval (.Name x p) (compEnvC scope cl L env)) (IsV v) := fun s _ _ W q => wpAny_Name (wpAny_loadName_local hk hx W.fr.ns hv (q v s.heap s.toks N ⟨rfl, rfl⟩ W)) hd
theorem ev_clI {x : Str} {p : Pos} {n : Int} {t : Tok} (hv : lk m x = some (.int n t)) (hk : (relabel scope env).kind = .function := by rfl) (hx : (compEnvC scope cl L env).kindOf x = some .local := by rfl) (hd : (x == ("__debug__" : Str)) = false := by decide) :
 EvP M A g L m N (eval (.Name x p) (compEnvC scope cl L env)) (IsI n) := ev_mono (ev_cl hv hk hx hd) fun v _ e => ⟨⟨t, e.1⟩, e.2⟩
theorem ev_cg {x : Str} {p : Pos} {v : Value} (B : Bs K g) (e : nsIn K mainGlobals x = some (some v)) (hg : env.globals = mainGlobals := by rfl) (hk : (relabel scope env).kind = .function := by rfl) (hx : (compEnvC scope cl L env).kindOf x = some .globalImplicit := by rfl) (hd : (x == ("__debug__" : Str)) = false := by decide) :
 EvP M A g L m N (eval (.Name x p) (compEnvC scope cl L env)) (IsV v) := fun s _ _ W q => by
 obtain ⟨_, _, _, _, T⟩ := B.T
 exact Name_function_global hk hx (loadGlobal_global (env := compEnvC scope cl L env) (show s.heap.Ns (compEnvC scope cl L env).globals _ from hg.symm ▸ T.g.keeps W.fr.keep) (mg_of B.X T.g e) (q v s.heap s.toks N ⟨rfl, rfl⟩ W)) hd
theorem ev_cb {x : Str} {p : Pos} {v : Value} (B : Bs K g) (e : nsIn K mainGlobals x = some none) (hv : bootBuiltins x = some v) (hn : x ≠ "__name__" := by decide) (hg : env.globals = mainGlobals := by rfl) (hb : env.builtins = builtinsNs := by rfl) (hk : (relabel scope env).kind = .function := by rfl) (hx : (compEnvC scope cl L env).kindOf x = some .globalImplicit := by rfl) (hd : (x == ("__debug__" : Str)) = false := by decide) :
 EvP M A g L m N (eval (.Name x p) (compEnvC scope cl L env)) (IsV v) := fun s _ _ W q => by
 obtain ⟨_, _, _, _, T⟩ := B.T
 exact Name_function_global hk hx (loadGlobal_builtin (env := compEnvC scope cl L env) (show s.heap.Ns (compEnvC scope cl L env).globals _ from hg.symm ▸ T.g.keeps W.fr.keep) (mg_none_of B.X T.g e) (show s.heap.Ns (compEnvC scope cl L env).builtins _ from hb.symm ▸ T.b.keeps W.fr.keep) ((T.builtins x hn).trans hv) (q v s.heap s.toks N ⟨rfl, rfl⟩ W)) hd
theorem ev_cc {x : Str} {p : Pos} {v : Value} {o : Obj} (ho : g.get? c = some o) (hd : o.data = .cell (some v)) (hc : cl.lookup x = some c := by rfl) (hk : (relabel scope env).kind = .function := by rfl) (hx : (compEnvC scope cl L env).kindOf x = some .cell := by rfl) (hb : (x == ("__debug__" : Str)) = false := by decide) :
 EvP M A g L m N (eval (.Name x p) (compEnvC scope cl L env)) (IsV v) := fun s _ _ W q => wpAny_Name (wpAny_loadName_cell hk hx hc ⟨o, W.fr.keep _ _ ho, hd⟩ (q v s.heap s.toks N ⟨rfl, rfl⟩ W)) hb
theorem ev_cell {x : Str} {p : Pos} {v : Value} {o : Obj} (ho : Ob g N c o) (hd : o.data = .cell (some v)) (hc : cl.lookup x = some c := by rfl) (hk : cs.kind = .function := by rfl) (hx : (envX cn cs L a ccd cl).kindOf x = some .cell := by rfl) (hb : (x == ("__debug__" : Str)) = false := by decide) :
 EvP M A g L m N (eval (.Name x p) (envX cn cs L a ccd cl)) (IsV v) := fun s _ _ W q => wpAny_Name (wpAny_loadName_cell hk hx hc ⟨o, ho.at W, hd⟩ (q v s.heap s.toks N ⟨rfl, rfl⟩ W)) hb
theorem comp_end {h1 h' : Heap} {D : Addr} {o : Obj} (W : Wf g L h1 m N) (k : ∀ b o, h1.get? b = some o → h'.get? b = some o) (hD : h1.objs.size ≤ D) (e : h'.get? D = some o) : Wf g L h' m ((D, o) :: N) := by
 refine ⟨⟨W.fr.ns.keeps k, fun b o q => k _ _ (W.fr.keep b o q), W.fr.above⟩, fun p hp => ?_, ?_⟩
 · rcases List.mem_cons.mp hp with rfl | hp
   · refine ⟨e, (Nat.ne_of_lt (Nat.lt_of_lt_of_le W.fr.ns.lt hD)).symm, ?_⟩
     cases q : g.get? D with
     | none => rfl
     | some o' => exact absurd (Heap.lt_size (W.fr.keep _ _ q)) (Nat.not_lt.mpr hD)
   · exact ⟨k _ _ (W.nw p hp).1, (W.nw p hp).2⟩
 · rw [List.map_cons, List.nodup_cons]
   refine ⟨fun q => ?_, W.nd⟩
   obtain ⟨p, hp, rfl⟩ := List.mem_map.mp q
   exact absurd (Heap.lt_size (W.nw p hp).1) (Nat.not_lt.mpr hD)
theorem ev_listComp {elt iter : Expr} {x : Str} {px pos : Pos} {n : Nat} {kp : Led} {J : Led → Prop} (hsz : n ≤ sizeLine)
 (he : Ev (model prog w) A g L m N (eval iter env) (fun v N' => It prog w A g L N' kp v n P ∧ (∀ q ∈ kp, q ∈ N') ∧ J N'))
 (helt : ∀ N' h1, J N' → (∀ b o, g.get? b = some o → h1.get? b = some o) → (∀ p ∈ N', h1.get? p.1 = some p.2) → ∀ i v C mC N₁, P i v → lk mC x = some v → EvP (model prog w) A h1 C mC N₁ (eval elt (compEnvC scope cl C env)) (F i))
 (hclos : closureFor scope env = pure cl := by rfl) (hcell : ∀ y ∈ scope.names, y.2 ≠ .cell := by decide) (hkind : scope.kind = .function := by rfl) (hnames : ∀ y ∈ scope.names, y.2 = .local → scope.names.lookup y.1 = some .local := by decide) (hx : scope.names.lookup x = some .local := by rfl)
 (hs : ∀ x, foldedSetIterable iter env x = pure x := by intro _; rfl) :
 Ev (model prog w) A g L m N (eval (.ListComp elt [⟨.Name x px, iter, [], 0⟩] scope pos) env) (fun v N' => ∃ (D : Addr) (ys : List Value) (c : Nat) (N₂ : Led), v = .ref D ∧ N' = (D, listOf ys.toArray c) :: N₂ ∧ J N₂ ∧ ys.length = n ∧ ∀ j y, ys[j]? = some y → F j y) := fun s Q E W q => by
 rw [eval_ListComp]
 refine wpAny_comprehension_free (use := none) rfl hs hclos hkind hnames (he s _ _ W fun v h1 tk1 N1 e1 W1 => e1.1 m _ _ _ W1 fun o fp St Wk hfp hsome hst => ?_)
 refine comp_core (RR := fun acc C => compPost (model prog w) A E none Q acc C) (F := F) Wk rfl (fun b hb => ?_) hsome hst hsz hcell hkind hx (helt N1 h1 e1.2.2 W1.fr.keep fun p hp => (W1.nw p hp).1) fun D C h' tk mC ys c hne hD hC hns hDo hl hF hk => ?_
 · rcases hfp b hb with rfl | e | ⟨ob, e⟩
   · exact .inl rfl
   · obtain ⟨o', e⟩ := Option.isSome_iff_exists.mp e
     exact .inr (by rw [W1.fr.keep _ _ e]; rfl)
   · exact .inr (by rw [(W1.nw _ (e1.2.1 _ e)).1]; rfl)
 · refine ⟨mC, hns, fun h'' hs'' => ?_⟩
   have hCn : ∀ b o, h1.get? b = some o → b ≠ C := fun b o e => Nat.ne_of_lt (Nat.lt_of_lt_of_le (Heap.lt_size e) hC)
   exact q _ h'' tk _ ⟨D, ys, c, N1, rfl, rfl, e1.2.2, hl, hF⟩ (comp_end W1 (fun b o e => (hs''.2 b (hCn b o e)).trans (hk b o e)) hD ((hs''.2 D hne).trans hDo))
theorem gs_assignComp {elt iter : Expr} {x y : Str} {px py pos spos : Pos} {rest : List Stmt} {n : Nat} {kp : Led} {J : Led → Prop} {R : Flow → Loc → Led → Prop} (hsz : n ≤ sizeLine)
 (he : Ev (model prog w) A g L m N (eval iter (envX cn cs L a ccd cl0)) (fun v N' => It prog w A g L N' kp v n P ∧ (∀ q ∈ kp, q ∈ N') ∧ J N'))
 (helt : ∀ N' h1, J N' → (∀ b o, g.get? b = some o → h1.get? b = some o) → (∀ p ∈ N', h1.get? p.1 = some p.2) → ∀ i v C mC N₁, P i v → lk mC x = some v → EvP (model prog w) A h1 C mC N₁ (eval elt (compEnvC scope cl C (envX cn cs L a ccd cl0))) (F i))
 (k : ∀ (D : Addr) (ys : List Value) (c : Nat) (N₂ : Led), J N₂ → ys.length = n → (∀ j y, ys[j]? = some y → F j y) → Gs (model prog w) A g L ((y, .ref D) :: m) ((D, listOf ys.toArray c) :: N₂) (execs rest (envX cn cs L a ccd cl0)) R XS)
 (hsw : swapsWith (.ListComp elt [⟨.Name x px, iter, [], 0⟩] scope pos) (some (.Name y py)) spos.line (envX cn cs L a ccd cl0) = pure true := by rfl)
 (hclos : closureFor scope (envX cn cs L a ccd cl0) = pure cl := by rfl) (hcell : ∀ y ∈ scope.names, y.2 ≠ .cell := by decide) (hkind : scope.kind = .function := by rfl) (hnames : ∀ y ∈ scope.names, y.2 = .local → scope.names.lookup y.1 = some .local := by decide) (hx : scope.names.lookup x = some .local := by rfl)
 (hk : cs.kind = .function := by rfl) (hy : (envX cn cs L a ccd cl0).kindOf y = some .local := by rfl) (hs : ∀ x, foldedSetIterable iter (envX cn cs L a ccd cl0) x = pure x := by intro _; rfl) :
 Gs (model prog w) A g L m N (execs (.Assign [.Name y py] (.ListComp elt [⟨.Name x px, iter, [], 0⟩] scope pos) spos :: rest) (envX cn cs L a ccd cl0)) R XS := gs_cons fun s Q E W q xx => by
 have hp : ((envX cn cs L a ccd cl0).scope.kind == .class || ((envX cn cs L a ccd cl0).scope.kind == .module && (envX cn cs L a ccd cl0).locals != (envX cn cs L a ccd cl0).globals)) = false := by
  show (cs.kind == .class || (cs.kind == .module && _)) = false; rw [hk]; rfl
 rw [exec_Assign_Name_used _ _ _ _ hsw]
 refine (wg (wpAny_bind (wpAny_standAt (wpAny_bind ?_))))
 show wpAny _ A (do let _ ← comprehension (.ListComp elt [⟨.Name x px, iter, [], 0⟩] scope pos) scope (envX cn cs L a ccd cl0) _ (newList []) false (eval iter (envX cn cs L a ccd cl0)) (some (assign (.Name y py) (envX cn cs L a ccd cl0)))) _ _ s
 refine wpAny_bind (wpAny_mono (wpAny_comprehension_free (use := some (assign (.Name y py) (envX cn cs L a ccd cl0))) (Q := fun _ s' => Q .next s') rfl hs hclos hkind hnames
  (he s _ _ W fun v h1 tk1 N1 e1 W1 => e1.1 m _ _ _ W1 fun o fp St Wk hfp hsome hst => ?_)) (fun _ s' hq => wpAny_pure (wpAny_pure hq)) fun _ _ e => e)
 refine comp_core (RR := fun acc C => compPost (model prog w) A E (some (assign (.Name y py) (envX cn cs L a ccd cl0))) (fun _ s' => Q .next s') acc C) (F := F) Wk rfl (fun b hb => ?_) hsome hst hsz hcell hkind hx (helt N1 h1 e1.2.2 W1.fr.keep fun p hp => (W1.nw p hp).1) fun D C h' tk mC ys c hne hD hC hns hDo hl hF hk' => ?_
 · rcases hfp b hb with rfl | e | ⟨ob, e⟩
   · exact .inl rfl
   · obtain ⟨o', e⟩ := Option.isSome_iff_exists.mp e
     exact .inr (by rw [W1.fr.keep _ _ e]; rfl)
   · exact .inr (by rw [(W1.nw _ (e1.2.1 _ e)).1]; rfl)
 · have W2 := comp_end W1 hk' hD hDo
   have hLC : L ≠ C := Nat.ne_of_lt (Nat.lt_of_lt_of_le W1.fr.ns.lt hC)
   show wpAny _ A (assign (.Name y py) (envX cn cs L a ccd cl0) (.ref D)) _ _ _
   refine wpAny_assign_Name (wpAny_storeName_local hy W2.fr.ns (fun h₂ hn₂ hs₂ => ?_) hp)
   refine ⟨mC, hns.sameBut hs₂ (Ne.symm hLC), fun h₃ hs₃ => ?_⟩
   have F₂ := W2.fr.set hn₂ hs₂
   have n₂ := W2.nw.set hs₂
   refine q .next h₃ _ ((y, .ref D) :: m) _ (k D ys c N1 e1.2.2 hl hF) ⟨⟨(lk_cons m y (.ref D) ▸ F₂).ns.sameBut hs₃ hLC, fun b o e => (hs₃.2 b ?_).trans (F₂.keep b o e), F₂.above⟩, fun p hp => ⟨(hs₃.2 _ ?_).trans (n₂ p hp).1, (n₂ p hp).2⟩, W2.nd⟩
   · exact Nat.ne_of_lt (Nat.lt_of_lt_of_le (Heap.lt_size (W1.fr.keep _ _ e)) hC)
   · rcases List.mem_cons.mp hp with rfl | hp
     · exact hne
     · exact Nat.ne_of_lt (Nat.lt_of_lt_of_le (Heap.lt_size (W1.nw p hp).1) hC)
end
theorem seg {l a b c : List UInt8} {p n : Nat} (h : l = a ++ (b ++ c)) (ha : a.length = p) (hb : b.length = n) : (l.drop p).take n = b := by
 subst h ha hb; simp
noncomputable def HD.kk (k : HD) : List UInt8 := (if k.pr then [0] else []) ++ serK k.pr k.kb
theorem HD.kk_len {k : HD} (ok : k.Ok) : k.kk.length = 33 := by
 have := serK_len ok
 unfold HD.kk
 cases hp : k.pr <;> rw [hp] at this <;> simp at this <;> simp [this]
theorem HD.ser_eq (k : HD) : k.ser = k.ver ++ ([UInt8.ofNat k.dep] ++ (k.fp ++ (be 4 k.ix ++ (k.cc ++ k.kk)))) := by
 unfold HD.ser HD.tail HD.kk; simp only [List.append_assoc]
section
variable {w : World} {A : Around} {g : Heap} {L a ba : Addr} {m : Loc} {N : Led} {x kx C st sdx : Addr} {n : Nat} {o : Obj} {t1 t2 t3 u : Tok} {b s : List UInt8} {X : Value → Led → Prop} {pr : Bool} {k : HD} {i : Nat}
theorem rf_hd {j : Nat} (ok : k.Gd) (hd0 : 0 < k.dep) : ReadsFrom w 1399 1499 k.ser (j + 11) (fun v E => ∃ y, v = .ref y ∧ HdO w.params (fun a o => (a, o) ∈ E) y k) := by
 intro A g L m N st sdx ba b1 b2 b3 B r
 have hsl := k.ser_length ok.1
 obtain ⟨kl, k0, k1, cl, vl, fl, dl, il⟩ := ok.1
 have hkl := HD.kk_len ok.1
 have hse := k.ser_eq
 have bl : (be 4 k.ix).length = 4 := be_length _ _
 refine gc_mono (gc_call (C := stL w.params st sdx ba b1 b2 b3 k.ser 0) (R := N) (P := fun v C' => ∃ y E u', v = .ref y ∧ HdO w.params (fun a o => (a, o) ∈ E) y k ∧ C' = E ++ stL w.params st sdx ba b1 b2 u' k.ser k.ser.length) [("cls", .ref 1499), ("stream", .ref st)] B r rfl (by kernel_rfl) (fun s X => BindsTo.of_eq rfl) (by rfl) ?_ (by decide)) ?_
 · intro h₀ L' A' r st' sr B
   have e0 : stL w.params st sdx ba b1 b2 b3 k.ser 0 = stL w.params st sdx ba b1 b2 b3 k.ser 0 ++ [] := (List.append_nil _).symm
   rw [e0]
   refine gs_assign (gv_read (N := []) (k := 4) B r.le (ev_local rfl) ev_int (by decide) (by decide) (by omega) (by omega)) ?_
   refine i_d fun v hv u1 => ?_
   rw [seg (p := 0) (a := []) hse rfl vl] at hv
   obtain ⟨tv, rfl⟩ := hv
   refine gs_assign (gv_ixB (i := 0) (gv_read (N := []) (k := 1) B r.le (ev_local rfl) ev_int (by decide) (by decide) (by omega) (by omega)) (fun N => ev_int) rfl (by rw [List.length_take, List.length_drop]; omega) (by rw [List.length_take]; omega)) ?_
   refine i_d fun v hv u2 => ?_
   rw [seg (p := 0 + 4) (n := 1) (a := k.ver) hse vl rfl] at hv
   have hdep : ((([UInt8.ofNat k.dep].getD 0 0).toNat : Nat) : Int) = (k.dep : Int) := by
    show (((UInt8.ofNat k.dep).toNat : Nat) : Int) = _
    rw [UInt8.toNat_ofNat']; congr 1; exact Nat.mod_eq_of_lt dl
   rw [hdep] at hv
   obtain ⟨td, rfl⟩ := hv
   refine gs_assign (gv_read (N := []) (k := 4) B r.le (ev_local rfl) ev_int (by decide) (by decide) (by omega) (by omega)) ?_
   refine i_d fun v hv u3 => ?_
   rw [seg (p := 0 + 4 + 1) (a := k.ver ++ [UInt8.ofNat k.dep]) (b := k.fp) (c := be 4 k.ix ++ (k.cc ++ k.kk)) (by rw [hse]; simp) (by simp [vl]) fl] at hv
   obtain ⟨tf, rfl⟩ := hv
   refine gs_assign (P := fun v N' => IsI (k.ix : Int) v ∧ ∃ u', N' = stL w.params st sdx ba b1 b2 u' k.ser (0 + 4 + 1 + 4 + 4) ++ []) (Ev.gv (ev_weaken (ev_from2 (b := be 4 k.ix) (J := fun x N' => ∃ u', N' = stL w.params st sdx ba b1 b2 u' k.ser (0 + 4 + 1 + 4 + 4) ++ [(x, KFB.bound)]) B (no_int _) (from_cls _) (fun x => ?_) (fun x N' e => ?_) (fun N => ev_str) (by rw [bl]; decide)) fun v N' e => ?_)) ?_
   · refine ev_perm (N₁ := stL w.params st sdx ba b1 b2 u3 k.ser (0 + 4 + 1 + 4) ++ [(x, KFB.bound)]) ?_ ?_
     · rw [List.append_nil]; exact (List.perm_append_singleton _ _).symm
     · refine ev_m1 B (ev_local rfl) (.mk' (.inl (.head _)) (.inl (.tail _ (.head _))) (cg_BytesIO _ _) (fm_BytesIO_read _) (fn_497 _) rfl (kp_497 _)) ev_int fun v N2 e => ?_
       obtain ⟨hv, rfl⟩ := e
       refine cd_mono (s_bread (k := 4) (R := [(x, KFB.bound)]) B r.le hv (by decide) (by decide) (by omega) (by omega)) fun v N' e => ?_
       obtain ⟨hv, u', rfl⟩ := e
       rw [seg (p := 0 + 4 + 1 + 4) (a := k.ver ++ [UInt8.ofNat k.dep] ++ k.fp) (b := be 4 k.ix) (c := k.cc ++ k.kk) (by rw [hse]; simp) (by simp [vl, fl]) bl] at hv
       exact ⟨hv, u', rfl⟩
   · obtain ⟨u', rfl⟩ := e
     exact List.mem_append_right _ (.head _)
   · obtain ⟨hv, x, u', rfl⟩ := e
     rw [num_be _ _ il] at hv
     exact ⟨_, (List.Sublist.refl _).append (List.nil_sublist _), hv, u', rfl⟩
   refine i_e fun ti u4 => ?_
   refine gs_assign (gv_read (N := []) (k := 32) B r.le (ev_local rfl) ev_int (by decide) (by decide) (by omega) (by omega)) ?_
   refine i_d fun v hv u5 => ?_
   rw [seg (p := 0 + 4 + 1 + 4 + 4) (a := k.ver ++ [UInt8.ofNat k.dep] ++ k.fp ++ be 4 k.ix) (b := k.cc) (c := k.kk) (by rw [hse]; simp) (by simp [vl, fl, bl]) cl] at hv
   obtain ⟨tc, rfl⟩ := hv
   refine gs_assign (gv_read (N := []) (k := 33) B r.le (ev_local rfl) ev_int (by decide) (by decide) (by omega) (by omega)) ?_
   refine i_d fun v hv u6 => ?_
   rw [seg (p := 0 + 4 + 1 + 4 + 4 + 32) (a := k.ver ++ [UInt8.ofNat k.dep] ++ k.fp ++ be 4 k.ix ++ k.cc) (b := k.kk) (c := []) (by rw [hse]; simp) (by simp [vl, fl, bl, cl]) hkl] at hv
   obtain ⟨tk, rfl⟩ := hv
   have hk0 : k.kk.getD 0 0 = 0 ↔ k.pr = true := by
    unfold HD.kk
    cases hp : k.pr
    · rw [serK_f]
      obtain ⟨c, hc, e⟩ := psec_first (n := num k.kb)
      rw [e]
      rcases hc with rfl | rfl <;> simp
    · simp
   refine gs_ifE (fun m' N' => ∃ kx E, lk m' "key" = some (.ref kx) ∧ KeyO w.params (fun a o => (a, o) ∈ E) kx k.pr k.kb ∧ N' = E ++ (stL w.params st sdx ba b1 b2 u6 k.ser (0 + 4 + 1 + 4 + 4 + 32 + 33) ++ []) ∧ lk m' "cls" = some (.ref 1499) ∧ lk m' "version" = some (.bytes k.ver.toArray tv) ∧ lk m' "depth" = some (.int (k.dep : Int) td) ∧ lk m' "fingerprint" = some (.bytes k.fp.toArray tf) ∧ lk m' "child_number" = some (.int (k.ix : Int) ti) ∧ lk m' "chain_code" = some (.bytes k.cc.toArray tc))
    (tst_eq (c := k.pr) (tst_cmp1 (ev_ixB (i := 0) (ev_localB rfl) ev_int rfl (by omega) (by omega)) ev_int fun x y h h' => co_eq h h') ?_) (fun hp => ?_) (fun hp => ?_) ?_
   · have h1 : (((k.kk.getD 0 0).toNat : Nat) : Int) == 0 ↔ k.kk.getD 0 0 = 0 := by
      rw [beq_iff_eq]
      constructor
      · intro h
        have h2 : (k.kk.getD 0 0).toNat = 0 := by exact_mod_cast h
        exact UInt8.toNat_inj.mp (h2.trans rfl)
      · intro h; rw [h]; rfl
     rw [Bool.eq_iff_iff, h1, hk0]
   · have hkb : sl k.kk (some 1) none = k.kb := by
      rw [show (1 : Int) = ((1 : Nat) : Int) from rfl, sl_from]
      unfold HD.kk
      rw [hp, serK_t]; rfl
     refine gs_assign (P := fun v N' => ∃ E, (∃ y, v = .ref y ∧ PkN w.params k.kb y [] E) ∧ N' = E ++ (stL w.params st sdx ba b1 b2 u6 k.ser (0 + 4 + 1 + 4 + 4 + 32 + 33) ++ [])) (gv_cm1 (p1 := IsB k.kb) B (ev_global B (gl_PrivateKey _)) (by kernel_rfl) (by kernel_rfl) (by kernel_rfl) (by kernel_rfl) (sp_848 _) (by kernel_rfl) (fun N => Ev.gv (evB_eq (ev_slB (ev_localB rfl) (pt_int ev_int) pt_none (by omega)) hkb)) fun v N2 hv => s_parse (j := j + 2) B r.le hv (ne_of_len (n := 31) kl) (by omega) (by kernel_rfl) (by kernel_rfl) (sf_PrivateKey_read_from _) (sp_1272 _) (by kernel_rfl) (rf_pk (j := j) kl k0 k1)) ?_
     refine i_f (i_g fun y => i_5 fun dy t1 t2 t3 u => ?_)
     refine gs_nil ⟨rfl, y, _, rfl, ?_, rfl, rfl, rfl, rfl, rfl, rfl, rfl⟩
     rw [hp]
     exact ⟨dy, t1, t2, t3, u, .head _, .tail _ (.head _)⟩
   · have hkb : k.kk = psec (num k.kb) := by
      unfold HD.kk
      rw [hp, serK_f]; rfl
     rw [hkb]
     refine gs_assign (P := fun v N' => ∃ E, (∃ y, v = .ref y ∧ PbN w.params k.kb y [] E) ∧ N' = E ++ (stL w.params st sdx ba b1 b2 u6 k.ser (0 + 4 + 1 + 4 + 4 + 32 + 33) ++ [])) (gv_cm1 (p1 := IsB (psec (num k.kb))) B (ev_global B (gl_PublicKey _)) (by kernel_rfl) (by kernel_rfl) (by kernel_rfl) (by kernel_rfl) (sp_848 _) (by kernel_rfl) (fun N => Ev.gv (ev_localB rfl)) fun v N2 hv => s_parse (j := j + 2) B r.le hv (ne_of_len (n := 32) (psec_length _)) (by rw [psec_length]; decide) (by kernel_rfl) (by kernel_rfl) (sf_PublicKey_read_from _) (sp_1006 _) (by kernel_rfl) (rf_pb (j := j) kl k0 k1)) ?_
     refine i_f (i_g fun y => i_4 fun dy t1 t2 u => ?_)
     refine gs_nil ⟨rfl, y, _, rfl, ?_, rfl, rfl, rfl, rfl, rfl, rfl, rfl⟩
     rw [hp]
     exact ⟨dy, t1, t2, u, .head _, .tail _ (.head _)⟩
   rintro m' N' ⟨kx, E, l1, hk, rfl, l2, l3, l4, l5, l6, l7⟩
   have hlt : ∀ {b : List UInt8} {n : Nat}, b.length = n → decide ((b.length : Int) < (n : Int)) = false := fun h => decide_eq_false (by omega)
   refine gs_if0 (tst_or (b := false) (c := false) (tst_eq (tst_cmp1 (ev_Call1 B (ev_builtin B (no_len _) (by rfl)) kp_b (ev_localB l3) fun v h => call_lenB h (by omega)) ev_int fun x y h h' => co_lt h h') (hlt vl)) fun _ => tst_or (b := false) (c := false) (tst_eq (tst_cmp1 (ev_Call1 B (ev_builtin B (no_len _) (by rfl)) kp_b (ev_localB l5) fun v h => call_lenB h (by omega)) ev_int fun x y h h' => co_lt h h') (hlt fl)) fun _ => tst_or (b := false) (c := false) (tst_eq (tst_cmp1 (ev_Call1 B (ev_builtin B (no_len _) (by rfl)) kp_b (ev_localB l7) fun v h => call_lenB h (by omega)) ev_int fun x y h h' => co_lt h h') (hlt cl)) fun _ => tst_or0) ?_
   refine gs_assign (P := fun v N' => ∃ y, v = .ref y ∧ HdN w.params k y kx (E ++ (stL w.params st sdx ba b1 b2 u6 k.ser (0 + 4 + 1 + 4 + 4 + 32 + 33) ++ [])) N') (gv_mono (gv_Call (f := .ref 1499) (ev_local l2) (gv_hdcall (k := k) (P1 := fun kx' N1 => kx' = kx ∧ N1 = E ++ (stL w.params st sdx ba b1 b2 u6 k.ser (0 + 4 + 1 + 4 + 4 + 32 + 33) ++ [])) B r.le ok (Ev.gv (ev_mono (ev_local l1) fun v N2 e => ⟨kx, e.1, rfl, e.2⟩)) ?_)) fun v N' e => ?_) ?_
   · refine i_b ?_
     exact ⟨hk.mono fun a o e => .inl (List.mem_append_left _ e), ev_localB l7, ev_localB l3, ev_localI l4, ev_localB l5, ev_localI l6⟩
   · obtain ⟨y, kx', N1, rfl, ⟨rfl, rfl⟩, hN⟩ := e
     exact ⟨y, rfl, hN⟩
   refine i_g ?_; rintro y N' hN
   have HO : HdO w.params (Ob h₀ N') y k := hN.O (hk.mono fun a o e => .inl (List.mem_append_left _ e))
   refine gs_assign (P := fun v N2 => IsS (tx (mk3 k.pr)) v ∧ N2 = N') (gv_mono (gv_slS (gv_h58 B r.le (ev_local rfl) HO ok) (pt_int ev_int) (pt_int ev_int) ok.elen) fun v N2 e => by rw [ok.sl3] at e; exact e) ?_
   refine i_a fun tt => ?_
   refine gs_if0 (tst_eq (tst_and (b := !k.pr) (c := k.pr) (tst_eq (tst_cmp1 (ev_localS rfl) ev_str fun x y h h' => co_neS h h') (congrArg not (mk3_prv _))) fun _ => tst_eq (tst_and (c := true) (tst_cmp1 (ev_localS rfl) ev_str fun x y h h' => co_neS h h') fun _ => tst_and0) (by rw [Bool.and_true]; exact (congrArg not (mk3_pub _)).trans (Bool.not_not _))) (by cases k.pr <;> rfl)) ?_
   refine gs_if0 (tst_and (b := false) (c := true) (tst_eq (tst_cmp1 (ev_localI l4) ev_int fun x y h h' => co_eq h h') (beq_false_of_ne (by omega))) fun h => nomatch h) ?_
   refine gs_if0 (tst_and (b := false) (c := true) (tst_eq (tst_cmp1 (ev_localI l4) ev_int fun x y h h' => co_eq h h') (beq_false_of_ne (by omega))) fun h => nomatch h) ?_
   refine gs_return (ev_local rfl).gv fun v N3 e => ?_
   obtain ⟨rfl, rfl⟩ := e
   obtain ⟨dy, T, rfl⟩ := hN
   refine ⟨y, (y, instObj 1499 dy) :: (dy, dictOf (hdE w.params T kx k []) 7) :: E, u6, rfl, ⟨dy, kx, T, [], .head _, .tail _ (.head _), hk.mono fun a o e => .tail _ (.tail _ e), .inl rfl⟩, ?_⟩
   rw [List.append_nil, hsl]; rfl
 · refine i_f ?_; rintro v C' ⟨y, E, u', rfl, hO, rfl⟩
   exact ⟨E, u', ⟨y, rfl, hO⟩, by rw [List.append_assoc]⟩
end
noncomputable def HD.path (k : HD) : List Nat → HD
 | [] => k
 | i :: r => (k.child i).path r
noncomputable def PathOk : HD → List Nat → Prop
 | _, [] => True
 | k, i :: r => i < 4294967296 ∧ (2147483648 ≤ i → k.pr = true) ∧ 0 < k.cnum i ∧ k.dep + 1 < 256 ∧ PathOk (k.child i) r
theorem path_app (k : HD) : ∀ (p q : List Nat), k.path (p ++ q) = (k.path p).path q
 | [], q => rfl
 | i :: r, q => path_app (k.child i) r q
theorem pathOk_app : ∀ (k : HD) (p q : List Nat), PathOk k (p ++ q) ↔ PathOk k p ∧ PathOk (k.path p) q
 | k, [], q => by simp [PathOk, HD.path]
 | k, i :: r, q => by
  show (_ ∧ _ ∧ _ ∧ _ ∧ PathOk (k.child i) (r ++ q)) ↔ (_ ∧ _ ∧ _ ∧ _ ∧ PathOk (k.child i) r) ∧ PathOk ((k.child i).path r) q
  rw [pathOk_app (k.child i) r q]
  simp only [and_assoc]
theorem PathOk.gd : ∀ {p : List Nat} {k : HD}, PathOk k p → k.Gd → (k.path p).Gd
 | [], _, _, h => h
 | i :: r, k, ⟨h1, _, h2, h3, h4⟩, h => PathOk.gd (p := r) (k := k.child i) h4 (h.child h2 h3 (by omega))
theorem PathOk.at {p : List Nat} {k : HD} {j i : Nat} (h : PathOk k p) (hj : p[j]? = some i) : PathOk (k.path (p.take j)) [i] ∧ k.path (p.take (j + 1)) = (k.path (p.take j)).child i := by
 have hlt : j < p.length := (List.getElem?_eq_some_iff.mp hj).1
 have e : p.take (j + 1) = p.take j ++ [i] := by rw [List.take_succ, hj]; rfl
 constructor
 · have h' := h
   rw [← List.take_append_drop (j + 1) p, pathOk_app] at h'
   have h1 := h'.1
   rw [e, pathOk_app] at h1
   exact h1.2
 · rw [e, path_app]; rfl
section
variable {w : World} {A : Around} {g : Heap} {L a D : Addr} {m : Loc} {N : Led} {x C st : Addr} {n : Nat} {o : Obj} {s : List UInt8} {X : Value → Led → Prop} {XS : Value → Loc → Led → Prop} {k : HD} {i : Nat} {p : List Nat} {its : List Value}
theorem s_hdparse {v : Value} (B : Bs (KF w.params) g) (r : Rm A 12) (hv : IsB k.ser v) (ok : k.Gd) (hd0 : 0 < k.dep) :
 Gc (model PR w) A g L m N (.call (.ref 846) ⟨[.ref 1499, v], []⟩) (fun v N' => ∃ E, (∃ y, v = .ref y ∧ HdO w.params (fun a o => (a, o) ∈ E) y k) ∧ N' = E ++ N) X :=
 s_parse (j := 8) B r hv (ne_of_len (n := 77) (k.ser_length ok.1)) (by rw [k.ser_length ok.1]; decide) (sm_HDKey _) (by kernel_rfl) (sf_HDKey_read_from _) (sp_1401 _) (by kernel_rfl) (rf_hd (j := 0) ok hd0)
theorem s_from58 {v : Value} (B : Bs (KF w.params) g) (r : Rm A 13) (hv : IsS (e58 k.ser) v) (ok : k.Gd) (hd0 : 0 < k.dep) :
 Gc (model PR w) A g L m N (.call (.ref 1331) ⟨[.ref 1499, v], []⟩) (fun v N' => ∃ E, (∃ y, v = .ref y ∧ HdO w.params (fun a o => (a, o) ∈ E) y k) ∧ N' = E ++ N) X := by
 obtain ⟨t, rfl⟩ := hv
 refine gc_mono (gc_call (C := []) (R := N) (P := fun v C' => ∃ E, (∃ y, v = .ref y ∧ HdO w.params (fun a o => (a, o) ∈ E) y k) ∧ C' = E ++ []) [("cls", .ref 1499), ("s", .str (e58 k.ser) t)] B r rfl (by kernel_rfl) (fun s X => BindsTo.of_eq rfl) (by rfl) ?_ (by decide)) ?_
 · intro h₀ L' A' r st sr B
   obtain ⟨c, rr, hver, hc, hrl⟩ := v_cons ok.2
   have hser : k.ser = c :: (rr ++ k.tail) := by unfold HD.ser; rw [hver]; rfl
   have htl := k.tail_length ok.1
   refine gs_assign (P := fun v N' => IsB k.ser v ∧ N' = []) (Ev.gv (ev_g1 B (ev_global B (gl_decode_check _)) (kp_decode_check _) (ev_localS rfl) fun v h => by
    rw [hser] at h ⊢
    exact s_decheck B r.le (by simp; omega) hc h)) ?_
   refine i_a fun tb => ?_
   exact gs_return (gv_cm1 (p1 := IsB k.ser) B (ev_local rfl) (sg_HDKey _) (sm_HDKey _) (by kernel_rfl) (sf_HDKey_parse _) (sp_848 _) (by kernel_rfl) (fun N => Ev.gv (ev_localB rfl)) fun v N2 hv => s_hdparse B r hv ok hd0) fun v N' h => h
 · refine i_f ?_; rintro v C' ⟨E, h, rfl⟩
   exact ⟨E, h, by rw [List.append_nil]⟩
theorem derive_loop {kp : Led} (B : Bs (KF w.params) g) (r : Rm A 11) (H : ∀ N', HdO w.params (Ob g N') x k) (ok : k.Gd) (hp : PathOk k p) (l1 : lk m "self" = some (.ref x)) (l2 : lk m "path" = some (.ref D)) (hi : IntsAre its (p.map fun (i : Nat) => (i : Int)))
 (hD : It PR w A g L N kp (.ref D) its.length (fun i v => its[i]? = some v)) (hkp : ∀ q ∈ kp, q ∈ N) :
 Gs (model PR w) A g L m N (execs (dropS (fb2 53 17) 1) (envX nx217 (fs2 53 17) L 1454 (.ref 1453) [])) (fun fl _ N' => ∃ y, flowV fl = .ref y ∧ ((p = [] ∧ y = x) ∨ HdO w.params (fun a o => (a, o) ∈ N') y (k.path p))) XS := by
 have hlen : its.length = p.length := by rw [hi.length, List.length_map]
 refine gs_assign (Ev.gv (ev_local l1)) ?_
 refine i_b ?_
 refine gs_for (n := its.length) (P := fun i v => its[i]? = some v) (kp := kp) (fun j m' N' => (∀ q ∈ kp, q ∈ N') ∧ ∃ y, lk m' "child" = some (.ref y) ∧ ((j = 0 ∧ y = x) ∨ HdO w.params (fun a o => (a, o) ∈ N') y (k.path (p.take j))))
  (Ev.gv (ev_mono (ev_local l2) fun v N' e => by obtain ⟨rfl, rfl⟩ := e; exact ⟨hD, hkp, x, rfl, .inl ⟨rfl, rfl⟩⟩)) (fun _ _ _ h => h.1) ?_ ?_
 · rintro j v m₁ N₁ I it hj hv ⟨hkp, y, l3, hy⟩
   obtain ⟨z, t, rfl, hz⟩ := hi.at j v hv
   obtain ⟨i, hpi, rfl⟩ : ∃ i : Nat, p[j]? = some i ∧ (i : Int) = z := by
    rw [List.getElem?_map] at hz
    exact Option.map_eq_some_iff.mp hz
   obtain ⟨⟨h1, h2, h3, h4, -⟩, hnext⟩ := hp.at hpi
   have okj : (k.path (p.take j)).Gd := by
    have := hp
    rw [← List.take_append_drop j p, pathOk_app] at this
    exact this.1.gd ok
   have HY : HdO w.params (Ob g (N₁ ++ [(I, it)])) y (k.path (p.take j)) := by
    rcases hy with ⟨rfl, rfl⟩ | hy
    · exact H _
    · exact hy.mono fun a o e => .inl (List.mem_append_left _ e)
   refine gs_assign (P := fun v N' => ∃ y, v = .ref y ∧ HdE w.params (k.path (p.take (j + 1))) y (N₁ ++ [(I, it)]) N') (gv_m1 B (Ev.gv (ev_local l3)) fun ov N1 e => ?_) ?_
   · obtain ⟨rfl, rfl⟩ := e
     refine ⟨y, 1447, _, rfl, HY.mth (fm_HDKey_child _) (fn_1447 _) (kp_1447 _), Ev.gv (ev_local rfl), ?_⟩
     refine i_b ?_
     rw [hnext]
     exact s_child B r HY okj (.inl ⟨t, rfl⟩) h1 h2 h3 h4
   refine i_g fun y' => i_k fun E hE => ?_
   refine gs_nil ⟨E ++ N₁, by rw [List.append_assoc], fun q hq => List.mem_append_right _ (hkp q hq), y', rfl, .inr (hE.mono fun a o e => List.mem_append_left _ e)⟩
 · rintro m₁ N₁ ⟨-, y, l3, hy⟩
   refine gs_return (Ev.gv (ev_local l3)) fun v N' e => ?_
   obtain ⟨rfl, rfl⟩ := e
   refine ⟨y, rfl, ?_⟩
   rcases hy with ⟨h0, rfl⟩ | hy
   · exact .inl ⟨List.eq_nil_of_length_eq_zero (by omega), rfl⟩
   · rw [hlen, List.take_length] at hy
     exact .inr hy
end
section
variable {w : World} {M : Model} {A : Around} {prog : Program} {E : Value → Shared → Prop} {s : Shared} {g : Heap} {L C a I x dx f : Addr} {m : Loc} {N : Led} {X : Value → Led → Prop} {K : Frag} {nm : Str} {ox : Obj} {od : Option Obj}
theorem g_ifBound {args : List Value} {Q : Option Value → Shared → Prop} (X : K.In s.heap) (I : InstAt s.heap x ox C od) (hs : findIn K (.ref C) nm = some (some (.ref f))) (hf : isFn K (.ref f) = true)
 (h : wpG M A (call (.ref f) (.ref x :: args)) (fun v => Q (some v)) E s) : wpG M A (callSpecialIfBound? (.ref x) nm args) Q E s := by
 have fin : wpG M A (call (.ref f) ([.ref x] ++ args) >>= fun v => pure (some v)) Q E s := g_bind (g_mono h (fun v s' h' => g_pure h') fun _ _ h' => h')
 refine g_holding (g_bind (g_bind (g_bind (wg (I.type.here (wg ((looks_findIn X hs).here ?_)))))))
 refine g_bind (wg (wpAny_askSetting ?_))
 split
 · exact g_bind (wg ((bind_fn X _ (beq_iff_eq.mp hf)).here (g_pure (by exact fin))))
 · exact g_tryCatch (g_bind (wg ((bind_fn X _ (beq_iff_eq.mp hf)).here (g_pure (by exact fin)))))
theorem g_cmpK {op : CmpOp} {b tb : Value} {Q : Value → Shared → Prop} (hu : A.units < cLine) (X : K.In s.heap) (I : InstAt s.heap x ox C od) (hb : Looks (model prog w) s.heap (typeOf b) tb) (hn : notFirst K C tb = true)
 (hs : findIn K (.ref C) (cmpInfo op).2.1 = some (some (.ref f))) (hf : isFn K (.ref f) = true)
 (h : wpG (model prog w) A (call (.ref f) [.ref x, b]) (PySem.W.CmpBack Q) E s) : wpG (model prog w) A (richCompare op (.ref x) b) Q E s := by
 have one : wpG (model prog w) A (tryCompare (.ref x) (cmpInfo op).2.1 b) (fun r s' => ∃ v, r = some v ∧ Q v s') E s := by
  unfold tryCompare
  refine g_bind (g_ifBound X I hs hf (g_mono h (fun v s' hv => ?_) fun _ _ e => e))
  cases v <;> first | exact hv.elim | exact g_pure ⟨_, rfl, hv⟩
 unfold richCompare
 simp only [oneThing_ref]
 refine g_holding (g_bind (wg (wpAny_cRoomFor hu ?_)))
 refine g_bind (wg (I.type.here (g_bind (wg (hb.here ?_)))))
 split
 · rename_i q
   have e : subIn K tb (.ref C) = some false := by
    rcases Bool.or_eq_true_iff.mp hn with e | e
    · rw [beq_iff_eq.mp e] at q; simp at q
    · exact beq_iff_eq.mp e
   refine g_bind (wg ((looks_subIn X e).here ?_))
   refine g_bind (g_mono one (fun r s' z => ?_) fun _ _ e => e)
   obtain ⟨v, rfl, hq⟩ := z
   exact g_pure hq
 · refine g_bind (g_pure ?_)
   refine g_bind (g_mono one (fun r s' z => ?_) fun _ _ e => e)
   obtain ⟨v, rfl, hq⟩ := z
   exact g_pure hq
theorem mem_at {N : Led} {p : Addr × Obj} (h : p ∈ N) : ∃ i : Nat, N[i]? = some p := List.mem_iff_getElem?.mp h
theorem mem_set {N : Led} {i : Nat} {d a : Addr} {o o' o₁ : Obj} (hN : N[i]? = some (d, o)) (h : (a, o₁) ∈ N) (hne : a ≠ d) : (a, o₁) ∈ N.set i (d, o') := by
 obtain ⟨j, hj⟩ := mem_at h
 have hij : i ≠ j := by
  rintro rfl
  rw [hN] at hj
  exact hne (Prod.mk.inj (Option.some.inj hj)).1.symm
 exact List.mem_of_getElem? (i := j) (by rw [List.getElem?_set_ne hij]; exact hj)
theorem mem_set_self {N : Led} {i : Nat} {d : Addr} {o o' : Obj} (hN : N[i]? = some (d, o)) : (d, o') ∈ N.set i (d, o') := by
 have hi : i < N.length := (List.getElem?_eq_some_iff.mp hN).1
 exact List.mem_of_getElem? (i := i) (List.getElem?_set_self hi)
theorem nd_inj {N : Led} {a : Addr} {o o' : Obj} (nd : (N.map (·.1)).Nodup) (h : (a, o) ∈ N) (h' : (a, o') ∈ N) : o = o' := by
 induction N with
 | nil => exact absurd h (List.not_mem_nil)
 | cons p r ih =>
  rw [List.map_cons, List.nodup_cons] at nd
  rcases List.mem_cons.mp h with e | h
  · rcases List.mem_cons.mp h' with e' | h'
    · exact (Prod.mk.inj (e.trans e'.symm)).2
    · exact absurd (List.mem_map_of_mem (f := (·.1)) h') (by rw [← e] at nd; exact nd.1)
  · rcases List.mem_cons.mp h' with e' | h'
    · exact absurd (List.mem_map_of_mem (f := (·.1)) h) (by rw [← e'] at nd; exact nd.1)
    · exact ih nd.2 h h'
theorem ga_propN {p fget : Addr} {rest : List Value} {od : Obj} {P : Value → Led → Prop} (B : Bs K g) (hx : Ob g N x (instObj C dx)) (hd : Ob g N dx od) (hg : plainGet K C nm = true) (hh : hasDictIn K C = true)
 (ha : findIn K (.ref C) nm = some (some (.ref p))) (hn : specialIn K (.ref p) "__get__" = some (some (.builtin "property.__get__"))) (ht : takesIn K (.ref p) = some true) (hp : recIn K p "property" = some (.ref fget :: rest))
 (h : Cd (model prog w) A.in1 g L m N (.call (.ref fget) ⟨[.ref x], []⟩) P) (hv : ∀ v N', P v N' → handedIn v = true) {b : Bool} : Ev (model prog w) A g L m N (getAttr (.ref x) nm b) P := fun s Q E W q =>
 get_prop W.fr B.X (hx.inst hd W) hg hh ha hn ht hp (h _ _ W fun v h' tk' N' p1 W' => handed_on (hv v N' p1) (q v h' tk' N' p1 W'))
end
section
variable {w : World} {A : Around} {g : Heap} {L a D : Addr} {m : Loc} {N : Led} {x y dx kx C st : Addr} {es : List DictEntry} {n d : Nat} {o : Obj} {u : Tok} {b s : List UInt8} {X : Value → Led → Prop} {pr : Bool} {k k' : HD} {i : Nat} {p : List Nat} {its : List Value}
theorem dictOf_n {es es' : List DictEntry} {n n' : Nat} (h : dictOf es n = dictOf es' n') : n = n' := congrArg (fun o : Obj => match o.data with | .dict _ n => n | _ => 0) h
noncomputable def HdD (P : Params) (g : Heap) (k' : HD) (y : Addr) (N N' : Led) : Prop := (∃ E, N' = E ++ N) ∧ HdO P (Ob g N') y k'
theorem s_deriveL (B : Bs (KF w.params) g) (r : Rm A 12) (h : HdO w.params (Ob g N) x k) (ok : k.Gd) (hp : PathOk k p) (hD : Ob g N D (listOf its.toArray n)) (hi : IntsAre its (p.map fun (i : Nat) => (i : Int))) :
 Gc (model PR w) A g L m N (.call (.ref 1454) ⟨[.ref x, .ref D], []⟩) (fun v N' => ∃ y, v = .ref y ∧ HdD w.params g (k.path p) y N N') X := by
 refine gc_mono (gc_call (C := []) (R := N) (P := fun v C' => ∃ y, v = .ref y ∧ ((p = [] ∧ y = x) ∨ HdO w.params (fun a o => (a, o) ∈ C') y (k.path p))) [("self", .ref x), ("path", .ref D)] B r rfl (by kernel_rfl) (fun s X => BindsTo.of_eq rfl) (by rfl) ?_ (by decide)) ?_
 · intro h₀ L' A' r st sr B
   have H := fun N' => h.up ⟨st, sr⟩ N'
   have hD0 : h₀.get? D = some (listOf its.toArray n) := hD.elim (sr _) (st _ _)
   refine gs_split (n := 1) (J := fun m' N' => N' = [] ∧ lk m' "self" = some (.ref x) ∧ lk m' "path" = some (.ref D)) ?_ ?_
   · refine gs_if0 (tst_T (ev_Call2 B (ev_builtin B (no_isinstance _) (by rfl)) kp_b (ev_local rfl) (ev_builtin B (no_str _) (by rfl)) fun v u h1 h2 => ?_)) (gs_nil ⟨rfl, rfl, rfl, rfl⟩)
     obtain rfl : v = .ref D := h1
     obtain rfl : u = .type "str" := h2
     exact fun s Q E W q => IsiPair.list_str (W.fr.keep _ _ hD0) rfl (q _ s.heap (s.toks + 1) [] ⟨rfl, rfl⟩ W)
   · rintro m' N' ⟨rfl, l1, l2⟩
     refine derive_loop (kp := []) B r H ok hp l1 l2 hi ?_ (fun q hq => nomatch hq)
     have := it_list (prog := PR) (w := w) (g := h₀) (L := L') (N := []) (r.le (d' := 0)) (.inr hD0)
     rwa [if_pos (by rw [hD0]; rfl)] at this
 · refine i_f (i_g ?_); rintro y C' hy
   refine ⟨y, rfl, ⟨C', rfl⟩, ?_⟩
   rcases hy with ⟨rfl, rfl⟩ | hy
   · exact h.mono fun a o e => e.mono (fun _ _ e => e) fun q hq => .inl (List.mem_append_right _ hq)
   · exact hy.mono fun a o e => .inl (List.mem_append_left _ e)
theorem s_hdmf {C R : Led} (B : Bs (KF w.params) g) (r : Rm A 7) (h : HdO w.params (fun a o => (a, o) ∈ C) x k) (ok : k.Gd) :
 Cd (model PR w) A g L m (C ++ R) (.call (.ref 1341) ⟨[.ref x], []⟩) (fun v N' => IsB k.fpr v ∧ ∃ C', HdO w.params (fun a o => (a, o) ∈ C') x k ∧ N' = C' ++ R) := by
 intro s S W q
 have nd : (C.map (·.1)).Nodup := by
  have := W.nd
  rw [List.map_append, List.nodup_append] at this
  exact this.1
 refine (cd_mono (cd_call (C := C) (R := R) (P := fun v C' => IsB k.fpr v ∧ HdO w.params (fun a o => (a, o) ∈ C') x k) [("self", .ref x)] B r rfl (by kernel_rfl) (fun s X => BindsTo.of_eq rfl) (by rfl) ?_ (by decide)) ?_) s S W q
 · intro h₀ L' A' r st sr B
   have HO : HdO w.params (Ob h₀ C) x k := h.mono fun a o e => .inl e
   refine HdO.el (h) fun dx kx T mf hx hd hk hm => ?_
   have hsec := HD.sec_len k
   have hfl := HD.fpr_len k
   have fld : ∀ {m' p q}, lk m' "self" = some (.ref x) → EvP (model PR w) A' h₀ L' m' C (eval (.Attribute (.Name "self" p) "_my_fingerprint" q) (envX nx206 (fs2 53 3) L' 1341 (.ref 1340) [])) (IsB mf) := fun {m' p q} l =>
    is_B (ev_own B (ev_local l) (.inl hx) (.inl hd) (cg_HDKey _ _) (ch_HDKey _) (ff_HDKey_my_fingerprint _) rfl rfl)
   rcases hm with rfl | rfl
   · refine xs_if (c := true) (tst_not (tst_plain (fld rfl) fun v h => tru_B h (by decide))) (fun _ => ?_) fun h => nomatch h
     refine xs_assign (P := fun v N' => IsB k.sec v ∧ N' = C) (ev_m0 B (ev_local rfl) fun ov N1 e => by
      obtain ⟨rfl, rfl⟩ := e
      refine HdO.el (HO) fun dx' kx' T' mf' a b c d => ?_
      exact ⟨x, 1499, dx', 1424, _, _, rfl, a, b, cg_HDKey _ _, fm_HDKey_sec _, fn_1424 _, rfl, kp_1424 _, s_hdsec B r.le ⟨dx', kx', T', mf', a, b, c, d⟩ ok.1⟩) ?_
     rintro v N' ⟨⟨ts, rfl⟩, rfl⟩
     obtain ⟨j, hj⟩ := mem_at hd
     refine xs_setattr (i := j) B (pv := IsB k.fpr) (evB_eq (ev_slB (ev_g1 B (ev_global B (gl_hash160 _)) (kp_hash160 _) (ev_localB rfl) fun v h => s_h160 B r.le (by omega) h) pt_none (pt_int ev_int) (by unfold h160 ripe; simp [sha_length])) (sl_to _ 4)) (ev_local rfl) (.inl hx) hj (cs_HDKey _) (cp_HDKey _) (ft_HDKey_my_fingerprint _) (ch_HDKey _) rfl (show 7 < 1000 by decide) fun v t e => ?_
     obtain ⟨tv, rfl⟩ := e
     refine nx_nil ?_
     let T' : Nat → Tok := fun i => if i = 10 then tv else T i
     show Xs (model PR w) A' h₀ L' _ (N'.set j (dx, dictOf (hdE w.params T' kx k k.fpr) 7)) _ _
     have hx' : (x, instObj 1499 dx) ∈ N'.set j (dx, dictOf (hdE w.params T' kx k k.fpr) 7) := mem_set hj hx (fun e => by subst e; have := nd_inj nd hx hd; cases this)
     have hd' : (dx, dictOf (hdE w.params T' kx k k.fpr) 7) ∈ N'.set j (dx, dictOf (hdE w.params T' kx k k.fpr) 7) := mem_set_self hj
     refine xs_return (P := fun v N2 => IsB k.fpr v ∧ N2 = _) (is_B (ev_own B (ev_local rfl) (.inl hx') (.inl hd') (cg_HDKey _ _) (ch_HDKey _) (ff_HDKey_my_fingerprint _) rfl rfl)) fun v N2 e => ?_
     obtain ⟨e, rfl⟩ := e
     refine ⟨e, dx, kx, T', k.fpr, hx', hd', ?_, .inr rfl⟩
     cases hpr : k.pr
     · rw [hpr] at hk
       refine KeyO.elF hk fun kd a1 a2 a3 b1 b2 => ?_
       exact ⟨kd, a1, a2, a3, mem_set hj b1 (fun e => by subst e; have := nd_inj nd b1 hd; cases this), mem_set hj b2 (fun e => by subst e; exact absurd (dictOf_n (nd_inj nd b2 hd)) (by decide))⟩
     · rw [hpr] at hk
       refine KeyO.elT hk fun kd a1 a2 a3 a4 b1 b2 => ?_
       exact ⟨kd, a1, a2, a3, a4, mem_set hj b1 (fun e => by subst e; have := nd_inj nd b1 hd; cases this), mem_set hj b2 (fun e => by subst e; exact absurd (dictOf_n (nd_inj nd b2 hd)) (by decide))⟩
   · refine xs_if (c := false) (tst_eq (tst_not (tst_plain (fld rfl) fun v h => tru_B h (by omega))) (by cases h : k.fpr with | nil => rw [h] at hfl; exact absurd hfl (by decide) | cons => rfl)) (fun h => nomatch h) fun _ => nx_nil ?_
     exact xs_return (fld rfl) fun v N' e => ⟨e.1, e.2 ▸ ⟨dx, kx, T, k.fpr, hx, hd, hk, .inr rfl⟩⟩
 · refine i_f ?_; rintro v C' ⟨h1, h2⟩
   exact ⟨h1, C', h2, rfl⟩
end
theorem HD.ser_drop {k : HD} (ok : k.Ok) : sl k.ser (some 4) none = k.tail := by
 rw [show (4 : Int) = ((4 : Nat) : Int) from rfl, sl_from]
 unfold HD.ser
 rw [← ok.vl, List.drop_left]
section
variable {w : World} {A : Around} {g : Heap} {L a : Addr} {m : Loc} {N : Led} {env : Env} {x y dx kx C st : Addr} {d : Nat} {o : Obj} {t1 t2 t3 u : Tok} {b s : List UInt8} {X : Value → Led → Prop} {pr : Bool} {k k' : HD} {p : List Nat}
theorem s_hdeq (B : Bs (KF w.params) g) (r : Rm A 8) (h : HdO w.params (Ob g N) x k) (h' : HdO w.params (Ob g N) y k') (ok : k.Gd) (ok' : k'.Gd) : GcP (model PR w) A g L m N (.call (.ref 1489) ⟨[.ref x, .ref y], []⟩) (IsT (k.tail == k'.tail)) X := by
 refine gc_pcall [("self", .ref x), ("other", .ref y)] B r rfl (by kernel_rfl) (fun s X => BindsTo.of_eq rfl) (by rfl) ?_ (by decide)
 intro h₀ L' A' r st sr B
 have H := h.up ⟨st, sr⟩ []
 have H' := h'.up ⟨st, sr⟩ []
 refine gs_return (P := fun v N' => IsT (k.tail == k'.tail) v ∧ N' = []) (gv_cmp1 (p1 := fun v N' => IsB k.tail v ∧ N' = []) (p2 := fun x y N' => IsB k.tail x ∧ IsB k'.tail y ∧ N' = []) (gvB_eq (gv_slB (gv_hser0 B r (ev_local rfl) H ok.1) (pt_int ev_int) pt_none (by rw [k.ser_length ok.1]; decide)) (HD.ser_drop ok.1)) (fun x N' e => ?_) fun x y N2 e => ?_) fun v N' h => h.1
 · obtain ⟨e, rfl⟩ := e
   exact gv_mono (gvB_eq (gv_slB (gv_hser0 B r (ev_local rfl) H' ok'.1) (pt_int ev_int) pt_none (by rw [k'.ser_length ok'.1]; decide)) (HD.ser_drop ok'.1)) fun v N' e' => ⟨e, e'.1, e'.2⟩
 · obtain ⟨e, e', rfl⟩ := e
   exact (co_eqB e e').gv
theorem co_eqH (B : Bs (KF w.params) g) (r : Rm A 8) (h : HdO w.params (Ob g N) x k) (h' : HdO w.params (Ob g N) y k') (ok : k.Gd) (ok' : k'.Gd) : GvP (model PR w) A g L m N (compareOp .Eq (.ref x) (.ref y)) (IsT (k.tail == k'.tail)) X := fun s Q E W q xx => by
 refine HdO.el (id h) fun dx kx T mf a b c d => ?_
 obtain ⟨dy, ky, T', mf', a', b', c', d'⟩ := id h'
 show wpG (model PR w) A (richCompare .Eq (.ref x) (.ref y)) Q E s
 refine g_cmpK (K := KF w.params) (C := 1499) (f := 1489) (tb := .ref 1499) r.units (B.X.keeps W.fr.keep) (a.inst b W) (a'.inst b' W).type (by kernel_rfl) (fm_HDKey_eq _) (fn_1489 _) ?_
 exact gv_of_gc (s_hdeq B r h h' ok ok') s _ E W (fun v h1 tk1 N1 e1 W1 => by
  obtain ⟨e1, rfl⟩ := e1
  obtain rfl : v = .bool (k.tail == k'.tail) := e1
  exact q _ h1 tk1 N1 ⟨rfl, rfl⟩ W1) xx
theorem ev_hmf {oe : Expr} {p : Pos} {C R : Led} (B : Bs (KF w.params) g) (r : Rm A 8) (ho : EvP (model PR w) A g L m (C ++ R) (eval oe env) (IsV (.ref x))) (h : HdO w.params (fun a o => (a, o) ∈ C) x k) (ok : k.Gd)
 (he : eval (.Attribute oe "my_fingerprint" p) env = (do
  let o ← eval oe env
  standAt p.atName
  let r ← holding [o] (getAttr o "my_fingerprint" true)
  letTemporaryGo oe o r
  pure r) := by rfl) : Ev (model PR w) A g L m (C ++ R) (eval (.Attribute oe "my_fingerprint" p) env) (fun v N' => IsB k.fpr v ∧ ∃ C', HdO w.params (fun a o => (a, o) ∈ C') x k ∧ N' = C' ++ R) := by
 refine ev_Attr ho (fun o N' e => ?_) he
 obtain ⟨rfl, rfl⟩ := e
 have h0 := h
 refine HdO.el (h0) fun dx kx T mf hx hd hk hm => ?_
 exact ga_propN B (.inl (List.mem_append_left _ hx)) (.inl (List.mem_append_left _ hd)) (cg_HDKey _ _) (ch_HDKey _) (fp_HDKey_my_fingerprint _) (pn_1342 _) (pt_1342 _) (pq_1342 _) (s_hdmf B r.in1 h ok) fun v N' h => handed_B h.1
theorem s_hdsecret (B : Bs (KF w.params) g) (r : Rm A 6) (h : HdO w.params (Ob g N) x k) (hp : k.pr = true) : CdP (model PR w) A g L m N (.call (.ref 1357) ⟨[.ref x], []⟩) (IsB k.kb) := by
 refine cd_pcall [("self", .ref x)] B r rfl (by kernel_rfl) (fun s X => BindsTo.of_eq rfl) (by rfl) ?_ (by decide)
 intro h₀ L' A' r st sr B
 have H := h.up ⟨st, sr⟩ []
 refine xs_if (c := false) (tst_eq (tst_not (tst_T (ev_hpriv B r (ev_local rfl) H))) (by rw [hp]; rfl)) (fun h => nomatch h) fun _ => nx_nil ?_
 refine xs_return (P := fun v N' => IsB k.kb v ∧ N' = []) (ev_Attr (ev_hkey B (ev_local rfl) H) fun o N' e => ?_) fun v N' h => h.1
 obtain ⟨⟨kx, rfl, hk⟩, rfl⟩ := e
 rw [hp] at hk
 refine KeyO.elT hk fun kd t1 t2 t3 u hx hd => ?_
 exact ga_prop B hx hd (cg_PrivateKey _ _) (ch_PrivateKey _) (fp_PrivateKey_secret _) (pn_1163 _) (pt_1163 _) (pq_1163 _) (s_pksecret B r.in1 hx hd) fun v h => handed_B h
theorem ev_hsecret {oe : Expr} {p : Pos} (B : Bs (KF w.params) g) (r : Rm A 7) (ho : EvP (model PR w) A g L m N (eval oe env) (IsV (.ref x))) (h : HdO w.params (Ob g N) x k) (hp : k.pr = true)
 (he : eval (.Attribute oe "secret" p) env = (do
  let o ← eval oe env
  standAt p.atName
  let r ← holding [o] (getAttr o "secret" true)
  letTemporaryGo oe o r
  pure r) := by rfl) : EvP (model PR w) A g L m N (eval (.Attribute oe "secret" p) env) (IsB k.kb) := by
 refine ev_Attr ho (fun o N' e => ?_) he
 obtain ⟨rfl, rfl⟩ := e
 have h0 := h
 refine HdO.el (h0) fun dx kx T mf hx hd hk hm => ?_
 exact ga_prop B hx hd (cg_HDKey _ _) (ch_HDKey _) (fp_HDKey_secret _) (pn_1358 _) (pt_1358 _) (pq_1358 _) (s_hdsecret B r.in1 h hp) fun v h => handed_B h
theorem ev_hsec {oe : Expr} {apos p : Pos} {pl : Sem Bool} (B : Bs (KF w.params) g) (r : Rm A 6) (ho : EvP (model PR w) A g L m N (eval oe env) (IsV (.ref x))) (h : HdO w.params (Ob g N) x k) (ok : k.Ok)
 (he : eval (.Call (.Attribute oe "sec" apos) [] [] p) env = (do
  let ov ← eval oe env
  standAt apos.atName
  let (f, first) ← holding [ov] (getMethod ov "sec" pl)
  callWith p f first (backTo p (starEach [] env)) []) := by rfl) : EvP (model PR w) A g L m N (eval (.Call (.Attribute oe "sec" apos) [] [] p) env) (IsB k.sec) := by
 refine ev_m0 B ho (fun ov N1 e => ?_) he
 obtain ⟨rfl, rfl⟩ := e
 refine HdO.el (id h) fun dx kx T mf a b c d => ?_
 exact ⟨x, 1499, dx, 1424, _, _, rfl, a, b, cg_HDKey _ _, fm_HDKey_sec _, fn_1424 _, rfl, kp_1424 _, s_hdsec B r h ok⟩
end
section
variable {w : World} {A : Around} {g : Heap} {L a D : Addr} {m : Loc} {N : Led} {env : Env} {prog : Program} {its : List Value} {n : Nat}
theorem Ob.lst {h : Heap} (O : Ob g N D (listOf its.toArray n)) (W : Wf g L h m N) : h.IsList D its.toArray := isList_of (O.at W)
noncomputable def LO (g : Heap) (N : Led) (D : Addr) (its : List Value) : Prop := ∃ o, Ob g N D o ∧ o.cls = .type "list" ∧ ∃ n, o.data = .seq its.toArray n
theorem Ob.lo (O : Ob g N D (listOf its.toArray n)) : LO g N D its := ⟨_, O, rfl, n, rfl⟩
theorem LO.lst {h : Heap} (H : LO g N D its) (W : Wf g L h m N) : h.IsList D its.toArray := let ⟨o, O, c, n, d⟩ := H; ⟨o, O.at W, c, n, d⟩
theorem tru_L {v : Value} (hv : IsV (.ref D) v) (hD : LO g N D its) (hz : its.length ≤ 1000000) : Tru (model prog w) A g L m N v (!its.isEmpty) := by
 obtain rfl : v = .ref D := hv
 exact fun s Q E W q => wpAny_truthy_list (hD.lst W) (by simpa using (show (its.length : Int) < 2 ^ 63 by omega)) (q _ s.heap (s.toks + 1 + 1) N ⟨by cases its <;> rfl, rfl⟩ W)
theorem call_lenL {v : Value} (hv : IsV (.ref D) v) (hD : LO g N D its) (hz : its.length ≤ 1000000) : EvP (model prog w) A g L m N (call (.builtin "len") [v]) (IsI (its.length : Int)) := by
 obtain rfl : v = .ref D := hv
 exact fun s Q E W q => len_list (hD.lst W) (by simpa using (show (its.length : Int) < 2 ^ 63 by omega)) (q _ s.heap (s.toks + 1 + 1) N ⟨⟨s.toks + 1, by simp⟩, rfl⟩ W)
theorem ev_ixL {v e : Expr} {p' : Pos} {i : Nat} {i' : Int} {px : Value → Prop} (h : Ev (model prog w) A g L m N (eval v env) (fun v N' => ∃ (D : Addr) (its : List Value) (n : Nat) (x : Value), v = .ref D ∧ LO g N' D its ∧ N.Sublist N' ∧ its[i]? = some x ∧ px x)) (hi : ∀ N, EvP (model prog w) A g L m N (eval e env) (IsI i')) (ei : i' = (i : Int)) (hl : i < 1000000)
 (hs : ∀ D i u, subscripted e false (.ref D) (.int i u) = operate [.ref D, .int i u] (getItem (.ref D) (.int i u)) := by intro _ _ _; with_unfolding_all rfl) :
 EvP (model prog w) A g L m N (eval (.Subscript v e p') env) px := fun s Q E W q =>
 Subscript_ (h s _ E W fun o h1 tk1 N1 e1 W1 => by
  obtain ⟨D, its, n, x, rfl, hD, hsub, hx, hp⟩ := e1
  refine hi _ _ _ E W1 fun l h2 tk2 N2 e2 W2 => ?_
  obtain ⟨⟨u, rfl⟩, rfl⟩ := e2
  subst ei
  have hl2 := hD.lst W2
  refine tail_any hl2.typeIs slot_list_getitem.lookup (wpAny_getItem_list hl2 (by omega) (by omega) (x := x) ?_ (q x h2 tk2 N ⟨hp, rfl⟩ (W2.sub hsub))) (hs _ _ _)
  rw [Int.toNat_natCast]
  simpa using hx)
theorem ev_slL {v : Expr} {lo hi : Option Expr} {p p' : Pos} {x y : Option Int} (h : EvP (model prog w) A g L m N (eval v env) (IsV (.ref D))) (hD : Ob g N D (listOf its.toArray n)) (hlo : Part (model prog w) A g L m N lo env x) (hhi : Part (model prog w) A g L m N hi env y) (hz : its.length ≤ 1000000)
 (hs : ∀ D a, subscripted (.Slice lo hi none p) false (.ref D) (.ref a) = operate [.ref a, .ref D] (getItem (.ref D) (.ref a)) := by intro _ _; with_unfolding_all rfl) :
 Ev (model prog w) A g L m N (eval (.Subscript v (.Slice lo hi none p) p') env) (fun v N' => ∃ D', v = .ref D' ∧ N' = (D', listOf (slicePick its.toArray x y none) 0) :: N) := fun s Q E W q =>
 Subscript_ (h s _ E W fun o h1 tk1 N1 e1 W1 => by
  obtain ⟨rfl, rfl⟩ := e1
  refine wpAny_Slice (hlo _ _ E W1 fun l h2 tk2 N2 e2 W2 => ?_)
  obtain ⟨e2, rfl⟩ := e2
  refine hhi _ _ E W2 fun u h3 tk3 N3 e3 W3 => ?_
  obtain ⟨e3, rfl⟩ := e3
  refine wpAny_pure ?_
  have W4 := nodup_push (o := { cls := .type "slice", data := .fields #[l, u, .none] }) W3 (fun p hp => Heap.lt_size (W3.nw p hp).1) (W3.fr.push _) (W3.nw.push W3.fr _)
  have hD4 : Ob g ((h3.objs.size, { cls := .type "slice", data := .fields #[l, u, .none] }) :: N3) D (listOf its.toArray n) := hD.mono (fun _ _ e => e) fun p hp => .inl (List.mem_cons_of_mem _ hp)
  have hl := hD4.lst W4
  refine tail_any (ops := [.ref h3.objs.size, .ref D]) hl.typeIs slot_list_getitem.lookup (wpAny_getItem_list_slice hl ⟨_, (W4.nw _ (.head _)).1, rfl, rfl⟩ e2 e3 .none (by decide) ?_ (by rw [sizeLine_eq]; simp; omega)) (hs _ _)
  have W5 := nodup_push (o := { cls := .type "list", data := .seq (slicePick its.toArray x y none) }) W4 (fun p hp => Heap.lt_size (W4.nw p hp).1) (W4.fr.push _) (W4.nw.push W4.fr _)
  exact q _ _ tk3 _ ⟨_, rfl, rfl⟩ (W5.sub ((List.sublist_cons_self _ _).cons_cons _)))
end
section
open PySem.Builtin.Int (intBits)
noncomputable def lnum (ns : List Int) (p : Nat) : Int := (if ns = [] then 0 else ns.getD (p % ns.length) 0) + 7 * (p : Int)
theorem bits_add {x y : Int} {n : Nat} (hx : intBits x ≤ n) (hy : intBits y ≤ n) : intBits (x + y) ≤ n + 1 := by
 rw [intBits_le_iff] at *
 have : (x + y).natAbs ≤ x.natAbs + y.natAbs := Int.natAbs_add_le x y
 rw [Nat.pow_succ]; omega
noncomputable def Small (ns : List Int) : Prop := ns.length ≤ 63 ∧ ∀ x ∈ ns, intBits x ≤ 1048576
theorem lnum_bits {ns : List Int} {p : Nat} (h : Small ns) (hp : p < 1000) : intBits (lnum ns p) ≤ 1048577 := by
 refine bits_add (n := 1048576) ?_ ?_
 · split
   · exact intBits_le_iff.mpr (Nat.two_pow_pos _)
   · rename_i hne
     have hl : 0 < ns.length := List.length_pos_iff.mpr hne
     have hlt := Nat.mod_lt p hl
     rw [List.getD_eq_getElem?_getD, List.getElem?_eq_getElem hlt]
     exact h.2 _ (List.getElem_mem hlt)
 · refine intBits_le_iff.mpr ?_
   have h1 : (7 * (p : Int)).natAbs < 2 ^ 13 := by omega
   exact Nat.lt_of_lt_of_le h1 (Nat.pow_le_pow_right (by decide) (by decide))
noncomputable def lC : Nat := 16395309179817738009521987751666139093583423331470737840399399094199505546377
noncomputable def lon (n : Int) : Nat := 1 + ((n * (lC : Int)).emod (2 ^ 254)).toNat
theorem lon_pos (n : Int) : 0 < lon n := by unfold lon; omega
theorem lon_lt (n : Int) : lon n < gP := by
 unfold lon
 have h1 : (n * (lC : Int)).emod (2 ^ 254) < 2 ^ 254 := Int.emod_lt_of_pos _ (by decide)
 have h0 : 0 ≤ (n * (lC : Int)).emod (2 ^ 254) := Int.emod_nonneg _ (by decide)
 have h2 : (2 : Int) ^ 254 = ((2 ^ 254 : Nat) : Int) := by norm_cast
 have h3 : ((n * (lC : Int)).emod (2 ^ 254)).toNat < 2 ^ 254 := (Int.toNat_lt h0).mpr (by rw [← h2]; exact h1)
 have h4 : (2 : Nat) ^ 254 + 1 ≤ gP := by decide
 omega
section
variable {w : World} {A : Around} {g : Heap} {L D : Addr} {m : Loc} {N : Led} {x y st : Addr} {n d : Nat} {o : Obj} {s : List UInt8} {X : Value → Led → Prop} {k : HD} {i : Nat} {p : Nat} {its : List Value} {ns : List Int}
theorem s_lnum {v : Value} (B : Bs (KF w.params) g) (r : Rm A 1) (hD : LO g N D its) (hi : IntsAre its ns) (hs : Small ns) (hv : IsI (p : Int) v) (hp : p < 1000) : CdP (model PR w) A g L m N (.call (.ref 1528) ⟨[.ref D, v], []⟩) (IsI (lnum ns p)) := by
 obtain ⟨t, rfl⟩ := hv
 refine cd_pcall [("script", .ref D), ("place", .int (p : Int) t)] B r rfl (by kernel_rfl) (fun s X => BindsTo.of_eq rfl) (by rfl) ?_ (by decide)
 intro h₀ L' A' r st sr B
 have hD : ∀ N', LO h₀ N' D its := fun N' => let ⟨o, O, c, d⟩ := hD; ⟨o, O.up ⟨st, sr⟩ N', c, d⟩
 have hlen : its.length = ns.length := hi.length
 have hl := hs.1
 refine xs_return (P := fun v N' => IsI (lnum ns p) v ∧ N' = []) (ev_add (x := if ns = [] then 0 else ns.getD (p % ns.length) 0) (y := 7 * (p : Int)) (ev_ifexp (c := !its.isEmpty) (P := fun v N' => IsI (if ns = [] then 0 else ns.getD (p % ns.length) 0) v ∧ N' = []) (tst_plain (ev_local rfl) fun v h => tru_L h (hD _) (by omega)) (fun h => ?_) fun h => ?_) (ev_mul ev_int (ev_localI rfl) (.of_left (by decide)))) fun v N' h => h.1
 · have hne : ns ≠ [] := by
    rintro rfl
    have : its = [] := List.eq_nil_of_length_eq_zero (by simpa using hlen)
    rw [this] at h; exact absurd h (by decide)
   have hpos : 0 < ns.length := List.length_pos_iff.mpr hne
   have hlt := Nat.mod_lt p hpos
   rw [if_neg hne]
   refine ev_ixL (i := p % ns.length) (px := IsI (ns.getD (p % ns.length) 0)) (ev_mono (ev_local rfl) fun v N' e => ?_) (fun N => ev_modN (x := p) (y := ns.length) (ev_localI rfl) (ev_Call1 B (ev_builtin B (no_len _) (by rfl)) kp_b (ev_local rfl) fun v h => call_lenL h (hD _) (by omega)) (by rw [hlen]) (by omega)) rfl (by omega)
   obtain ⟨rfl, rfl⟩ := e
   obtain ⟨z, tz, hz, hn⟩ := hi.at (p % ns.length) _ (List.getElem?_eq_getElem (by omega))
   refine ⟨D, its, 0, _, rfl, hD _, List.Sublist.refl _, List.getElem?_eq_getElem (by omega), tz, ?_⟩
   rw [hz, List.getD_eq_getElem?_getD, hn]; rfl
 · have : its = [] := by cases its with | nil => rfl | cons => simp at h
   have hn : ns = [] := List.eq_nil_of_length_eq_zero (by rw [← hlen, this]; rfl)
   rw [if_pos hn]
   exact ev_int
theorem s_loct {z : Int} {v : Value} (B : Bs (KF w.params) g) (r : Rm A 1) (hv : IsI z v) (hb : intBits z ≤ 1048600) : CdP (model PR w) A g L m N (.call (.ref 1535) ⟨[v], []⟩) (IsB (be 32 (lon z))) := by
 obtain ⟨t, rfl⟩ := hv
 refine cd_pcall [("number", .int z t)] B r rfl (by kernel_rfl) (fun s X => BindsTo.of_eq rfl) (by rfl) ?_ (by decide)
 intro h₀ L' A' r st sr B
 have h254 : (2 : Int) ^ 254 ≠ 0 := by decide
 have he : (1 : Int) + (z * (lC : Int)).fmod (2 ^ 254) = ((lon z : Nat) : Int) := by
  have h0 : 0 ≤ (z * (lC : Int)).emod (2 ^ 254) := Int.emod_nonneg _ h254
  unfold lon
  rw [Int.fmod_eq_emod_of_nonneg _ (by decide), Int.natCast_add, Int.toNat_of_nonneg h0]; rfl
 exact xs_return (ev_to (x := lon z) (k := 32) B (evI_eq (ev_add ev_int (ev_mod (y := 2 ^ 254) (ev_mul (y := (lC : Int)) (ev_localI rfl) ev_int (IntMulOk.of_le (m := 1048600) (n := 254) hb (intBits_le_iff.mpr (by decide)) (by decide))) (evI_eq (ev_pow ev_int ev_int (by decide) (by decide) (by decide)) (by rfl)) h254)) he) ev_int ev_str (by decide) (Nat.lt_trans (lon_lt z) gP_256)) fun v N' h => h.1
end
end
section
open PySem PySem.W PySem.Calls PyProof.Rows PySem.SeqAt
inductive DAre : List Value → List (Int ⊕ List UInt8) → Prop
 | nil : DAre [] []
 | int {n : Int} {v : Value} {vs ds} : IsI n v → DAre vs ds → DAre (v :: vs) (.inl n :: ds)
 | byt {b : List UInt8} {v : Value} {vs ds} : IsB b v → DAre vs ds → DAre (v :: vs) (.inr b :: ds)
theorem DAre.len {vs ds} (h : DAre vs ds) : vs.length = ds.length := by
 induction h with
 | nil => rfl
 | int _ _ ih => simp [ih]
 | byt _ _ ih => simp [ih]
theorem DAre.eqAt {A : Around} {s : Shared} {vs ds} (h : DAre vs ds) : ∀ {us}, DAre us ds → ∀ j (h1 : j < vs.length) (h2 : j < us.length), EqAt A s vs[j] us[j] true := by
 induction h with
 | nil => intro us _ j h1 _; exact absurd h1 (Nat.not_lt_zero _)
 | @int n v vs ds h r ih =>
  intro us h' j h1 h2
  cases h' with
  | int h' r' =>
   cases j with
   | zero =>
    obtain ⟨t, rfl⟩ := h
    obtain ⟨u, rfl⟩ := h'
    have := EqAt.int_int (A := A) (s := s) n t n u
    rw [beq_self_eq_true] at this
    exact this
   | succ j => exact ih r' j (Nat.lt_of_succ_lt_succ h1) (Nat.lt_of_succ_lt_succ h2)
 | @byt b v vs ds h r ih =>
  intro us h' j h1 h2
  cases h' with
  | byt h' r' =>
   cases j with
   | zero =>
    obtain ⟨t, rfl⟩ := h
    obtain ⟨u, rfl⟩ := h'
    have := (eqGives_bytes b b t u).at A s
    rw [beq_self_eq_true] at this
    exact this
   | succ j => exact ih r' j (Nat.lt_of_succ_lt_succ h1) (Nat.lt_of_succ_lt_succ h2)
section
variable {w : World} {M : Model} {A : Around} {prog : Program} {E : Value → Shared → Prop} {s : Shared} {g : Heap} {L x : Addr} {m : Loc} {N : Led} {X : Value → Led → Prop} {env : Env} {ds : List (Int ⊕ List UInt8)}
theorem ad_nil {p : Pos} : Ev M A g L m N (spliced (backTo p (starEach [] env))) (fun vs N' => DAre vs [] ∧ N' = N) := ar_nil ⟨.nil, rfl⟩
theorem ad_int {e : Expr} {r : List Expr} {p : Pos} {k : Int} (h : EvP M A g L m N (eval e env) (IsI k)) (hr : Ev M A g L m N (spliced (backTo p (starEach r env))) (fun vs N' => DAre vs ds ∧ N' = N)) (he : starEach (e :: r) env = (false, eval e env) :: starEach r env := by rfl) :
 Ev M A g L m N (spliced (backTo p (starEach (e :: r) env))) (fun vs N' => DAre vs (.inl k :: ds) ∧ N' = N) :=
 ar_cons h (fun v N' e => by obtain ⟨e1, rfl⟩ := e; exact ev_mono hr fun vs N' e => ⟨.int e1 e.1, e.2⟩) he
theorem ad_byt {e : Expr} {r : List Expr} {p : Pos} {k : List UInt8} (h : EvP M A g L m N (eval e env) (IsB k)) (hr : Ev M A g L m N (spliced (backTo p (starEach r env))) (fun vs N' => DAre vs ds ∧ N' = N)) (he : starEach (e :: r) env = (false, eval e env) :: starEach r env := by rfl) :
 Ev M A g L m N (spliced (backTo p (starEach (e :: r) env))) (fun vs N' => DAre vs (.inr k :: ds) ∧ N' = N) :=
 ar_cons h (fun v N' e => by obtain ⟨e1, rfl⟩ := e; exact ev_mono hr fun vs N' e => ⟨.byt e1 e.1, e.2⟩) he
theorem ev_tuple {es : List Expr} {k : Nat} {p : Pos} {Pv : List Value → Prop} (h : Ev M A g L m N (spliced (backTo p (starEach es env))) (fun vs N' => Pv vs ∧ N' = N)) (hz : ∀ vs, Pv vs → vs.length ≤ 1000) : Ev M A g L m N (eval (.Tuple es k p) env) (fun v N' => ∃ T vs, v = .ref T ∧ Pv vs ∧ N' = (T, tupO vs) :: N) := by
 rw [arm_eval_Tuple]
 refine ev_at (ev_bind h fun vs N' e => ?_)
 obtain ⟨e, rfl⟩ := e
 exact fun s Q E W q => wpAny_newTuple (q _ _ s.toks _ ⟨_, vs, rfl, e, rfl⟩ (nodup_push W (fun p hp => Heap.lt_size (W.nw p hp).1) (W.fr.push _) (W.nw.push W.fr _))) (by have := hz vs e; rw [sizeLine_eq]; omega)
theorem isTuple_of {h : Heap} {T : Addr} {vs : List Value} (e : h.get? T = some (tupO vs)) : h.IsTuple T vs.toArray := ⟨_, e, rfl, _, rfl⟩
theorem co_tup {T T' : Addr} {vs us : List Value} (r : Rm A 0) (hT : (T, tupO vs) ∈ N) (hT' : (T', tupO us) ∈ N) (h : DAre vs ds) (h' : DAre us ds) : EvP (model prog w) A g L m N (compareOp .Eq (.ref T) (.ref T')) (IsT true) := fun s Q E W q => by
 have e : ((List.range (min vs.toArray.size us.toArray.size)).all (fun _ => true) && vs.toArray.size == us.toArray.size) = true := by simp [h.len, h'.len]
 refine eq_tupleAt (e := fun _ => true) (isTuple_of (W.nw _ hT).1) (isTuple_of (W.nw _ hT').1) r.units (fun j h1 h2 => by simpa using h.eqAt h' j (by simpa using h1) (by simpa using h2)) ?_
 rw [e]
 exact q _ s.heap s.toks N ⟨rfl, rfl⟩ W
theorem co_tupNe {T T' : Addr} {vs us : List Value} (r : Rm A 0) (hT : (T, tupO vs) ∈ N) (hT' : (T', tupO us) ∈ N) (h : DAre vs ds) (h' : DAre us ds) : EvP (model prog w) A g L m N (compareOp .NotEq (.ref T) (.ref T')) (IsT false) := fun s Q E W q => by
 have e : ((List.range (min vs.toArray.size us.toArray.size)).all (fun _ => true) && vs.toArray.size == us.toArray.size) = true := by simp [h.len, h'.len]
 refine RcNeAt.tuples (e := fun _ => true) (isTuple_of (W.nw _ hT).1) (isTuple_of (W.nw _ hT').1) r.units (fun j h1 h2 => by simpa using h.eqAt h' j (by simpa using h1) (by simpa using h2)) _ _ _ _ ?_
 rw [e]
 exact q _ s.heap s.toks N ⟨rfl, rfl⟩ W
theorem gv_tupEq {es1 es2 : List Expr} {k1 k2 : Nat} {p p1 p2 : Pos} (r : Rm A 0) (h1 : Ev (model prog w) A g L m N (spliced (backTo p1 (starEach es1 env))) (fun vs N' => DAre vs ds ∧ N' = N)) (h2 : ∀ N, Ev (model prog w) A g L m N (spliced (backTo p2 (starEach es2 env))) (fun vs N' => DAre vs ds ∧ N' = N)) (hz : ds.length ≤ 1000) :
 GvP (model prog w) A g L m N (eval (.Compare (.Tuple es1 k1 p1) [.Eq] [.Tuple es2 k2 p2] p) env) (IsT true) X := by
 refine gv_weaken (P := fun v N' => IsT true v ∧ N.Sublist N') (gv_cmp1 (p1 := fun v N' => ∃ T vs, v = .ref T ∧ DAre vs ds ∧ N' = (T, tupO vs) :: N) (p2 := fun x y N' => ∃ T vs T' us, x = .ref T ∧ y = .ref T' ∧ DAre vs ds ∧ DAre us ds ∧ N' = (T', tupO us) :: (T, tupO vs) :: N) (Ev.gv (ev_tuple h1 fun vs h => by rw [h.len]; exact hz)) (fun x N' e => ?_) (fun x y N2 e => ?_) (by rfl)) fun v N' e => ⟨N, e.2, e.1, rfl⟩
 · obtain ⟨T, vs, rfl, h, rfl⟩ := e
   exact Ev.gv (ev_mono (ev_tuple (h2 _) fun vs h => by rw [h.len]; exact hz) fun v N' e => let ⟨T', us, e1, e2, e3⟩ := e; ⟨T, vs, T', us, rfl, e1, h, e2, e3⟩)
 · obtain ⟨T, vs, T', us, rfl, rfl, h, h', rfl⟩ := e
   exact Ev.gv (ev_mono (co_tup r (.tail _ (.head _)) (.head _) h h') fun v N' e => ⟨e.1, e.2 ▸ ((List.sublist_cons_self _ _).trans (List.sublist_cons_self _ _))⟩)
theorem gts_tupNeL {es1 es2 : List Expr} {k1 k2 : Nat} {p p1 p2 : Pos} (r : Rm A 0) (h1 : Ev (model prog w) A g L m N (spliced (backTo p1 (starEach es1 env))) (fun vs N' => DAre vs ds ∧ N' = N)) (h2 : ∀ t : Addr × Obj, Ev (model prog w) A g L m (t :: N) (spliced (backTo p2 (starEach es2 env))) (fun vs N' => DAre vs ds ∧ N' = t :: N)) (hz : ds.length ≤ 1000) :
 GTs (model prog w) A g L m N (.Compare (.Tuple es1 k1 p1) [.NotEq] [.Tuple es2 k2 p2] p) env false X := by
 refine gv_weaken (P := fun c N' => c = false ∧ N.Sublist N') (gt_cmp1 (P := fun c N' => c = false ∧ N.Sublist N') (p1 := fun v N' => ∃ T vs, v = .ref T ∧ DAre vs ds ∧ N' = (T, tupO vs) :: N) (p2 := fun x y N' => ∃ T vs T' us, x = .ref T ∧ y = .ref T' ∧ DAre vs ds ∧ DAre us ds ∧ N' = (T', tupO us) :: (T, tupO vs) :: N) (Ev.gv (ev_tuple h1 fun vs h => by rw [h.len]; exact hz)) (fun x N' e => ?_) (fun x y N2 e => ?_) (by rfl)) fun v N' e => ⟨N, e.2, e.1, rfl⟩
 · obtain ⟨T, vs, rfl, h, rfl⟩ := e
   exact Ev.gv (ev_mono (ev_tuple (h2 _) fun vs h => by rw [h.len]; exact hz) fun v N' e => let ⟨T', us, e1, e2, e3⟩ := e; ⟨T, vs, T', us, rfl, e1, h, e2, e3⟩)
 · obtain ⟨T, vs, T', us, rfl, rfl, h, h', rfl⟩ := e
   exact Ev.gv (ev_mono (co_tupNe r (.tail _ (.head _)) (.head _) h h') fun v N' e => ⟨false, e.1, rfl, e.2 ▸ ((List.sublist_cons_self _ _).trans (List.sublist_cons_self _ _))⟩)
end
end
section
open PySem.Builtin.Int (intBits)
section
variable {w : World} {A : Around} {g : Heap} {L a : Addr} {m : Loc} {N : Led} {x y st : Addr} {n : Nat} {t3 u : Tok} {b s : List UInt8} {X : Value → Led → Prop} {pr : Bool} {k : HD} {i : Nat}
theorem s_pser1 {v : Value} (B : Bs (KF w.params) g) (r : Rm A 3) (hl : b.length ≤ 1000) (hv : IsB b v) (hb : num b ≤ gP) : CdP (model PR w) A g L m N (.call (.ref 233) ⟨[v], []⟩) (IsB (psec (num b))) := by
 obtain ⟨t, rfl⟩ := hv
 refine cd_pcall [("point", .bytes b.toArray t), ("flag", .int 258 452)] B r rfl (by kernel_rfl) (fun s X => binds_K X rfl rfl rfl rfl rfl) (by rfl) ?_ (by decide)
 intro h₀ L' A' r st sr B
 refine xs_assign (ev_g1 B (ev_global B (gl_number _)) (kp_number _) (ev_localB rfl) fun v h => s_number B r.le hl h) ?_
 refine i_a fun t3 => ?_
 refine xs_if (c := (258 : Int) == 2) (tst_cmp1 (ev_localI rfl) (ev_globalI B (gl_EC_UNCOMPRESSED _)) fun x y h h' => co_eq h h') (fun h => absurd h (by decide)) fun _ => nx_nil ?_
 refine xs_return (ev_addB (x := [UInt8.ofNat (if 2 * num b < gP then 2 else 3)]) (ev_bytes1 (n := if 2 * num b < gP then 2 else 3) B r.le (no_bytes _) (ev_ifexp (c := decide (((2 * num b : Nat) : Int) < gP)) (P := fun v N' => IsI ((if 2 * num b < gP then 2 else 3 : Nat) : Int) v ∧ N' = []) (tst_cmp1 (ev_mulN (x := 2) ev_int (ev_localI rfl) rfl (.of_left (by decide))) (ev_globalI B (gl_PRIME _)) fun x y h h' => co_lt h h') (fun h => ?_) (fun h => ?_)) rfl (by split <;> decide))
  (ev_g1 B (ev_global B (gl_octets _)) (kp_octets _) (ev_Call2 B (ev_builtin B (no_min _) (by rfl)) kp_b (ev_localI rfl) (ev_subN (x := gP) (ev_globalI B (gl_PRIME _)) (ev_localI rfl) rfl hb) fun x y h h' => call_min r.le h h') fun v h => s_octets B r.le h) (by simp [be_length])) fun v N' h => h.1
 · have : 2 * num b < gP := by have := of_decide_eq_true h; omega
   rw [if_pos this]; exact ev_int
 · have : ¬ 2 * num b < gP := by have := of_decide_eq_false h; omega
   rw [if_neg this]; exact ev_int
theorem s_lraw {v : Value} (B : Bs (KF w.params) g) (r : Rm A 8) (h : HdO w.params (Ob g N) x k) (ok : k.Ok) (hp : k.pr = true) (hv : IsI (i : Int) v) (hi : i < 4294967296) : CdP (model PR w) A g L m N (.call (.ref 1549) ⟨[.ref x, v], []⟩) (IsB (k.raw i)) := by
 obtain ⟨t, rfl⟩ := hv
 refine cd_pcall [("parent", .ref x), ("index", .int (i : Int) t)] B r rfl (by kernel_rfl) (fun s X => BindsTo.of_eq rfl) (by rfl) ?_ (by decide)
 intro h₀ L' A' r st sr B
 have H := h.up ⟨st, sr⟩ []
 have hsl := HD.sec_len k
 have kl := ok.kl
 have cl := ok.cl
 let oc : List UInt8 := if 2147483648 ≤ i then [0] ++ k.kb else k.sec
 have hol : oc.length ≤ 33 := by
  show (if 2147483648 ≤ i then [0] ++ k.kb else k.sec).length ≤ 33
  split
  · simp; omega
  · omega
 refine xs_assign (P := fun v N' => IsB oc v ∧ N' = []) (ev_ifexp (c := decide (2147483648 ≤ i)) (tst_eq (tst_cmp1 (ev_localI rfl) ev_int fun x y h h' => co_ge h h') (by simp only [decide_eq_decide]; omega)) (fun h => ?_) fun h => ?_) ?_
 · have e : oc = [0] ++ k.kb := if_pos (of_decide_eq_true h)
   rw [e]
   exact ev_addB ev_bytes (ev_hsecret B r.le (ev_local rfl) H hp) (by simp; omega)
 · have e : oc = k.sec := if_neg (of_decide_eq_false h)
   rw [e]
   exact ev_hsec B r.le (ev_local rfl) H ok
 refine i_a fun tc => ?_
 have hdat : oc ++ be 4 i = k.dat i := rfl
 have hdl : (k.dat i).length ≤ 37 := by rw [← hdat, List.length_append, be_length]; omega
 exact xs_return (ev_hmac B r.le (by omega) (ev_hcc B (ev_local rfl) H) (evB_eq (ev_addB (ev_localB rfl) (ev_to (k := 4) B (ev_localI rfl) ev_int ev_str (by decide) (by omega)) (by simp [be_length]; omega)) hdat) (ev_mono ev_str fun v N' e => ⟨trivial, e.2⟩)) fun v N' h => h.1
theorem s_lright {v : Value} (B : Bs (KF w.params) g) (r : Rm A 9) (h : HdO w.params (Ob g N) x k) (h' : HdO w.params (Ob g N) y (k.child i)) (ok : k.Gd) (ok' : (k.child i).Gd) (hp : k.pr = true) (hv : IsI (i : Int) v) (hi : i < 4294967296) :
 GcP (model PR w) A g L m N (.call (.ref 1563) ⟨[.ref y, .ref x, v], []⟩) (IsT true) X := by
 obtain ⟨t, rfl⟩ := hv
 refine gc_pcall [("key", .ref y), ("parent", .ref x), ("index", .int (i : Int) t)] B r rfl (by kernel_rfl) (fun s X => BindsTo.of_eq rfl) (by rfl) ?_ (by decide)
 intro h₀ L' A' r st sr B
 have H := fun N' => h.up ⟨st, sr⟩ N'
 have H' := fun N' => h'.up ⟨st, sr⟩ N'
 have hrl := k.raw_len i
 have kl := ok.1.kl
 have hcl := k.cnum_lt i
 have hp' : (k.child i).pr = true := hp
 refine gs_assign (P := fun v N' => IsB (k.raw i) v ∧ N' = []) (Ev.gv (ev_g2 B (ev_global B (gl_law_raw _)) (kp_law_raw _) (ev_local rfl) (ev_localI rfl) fun v u h1 h2 => by
  obtain rfl : v = _ := h1
  exact s_lraw B r (H _) ok.1 hp h2 hi)) ?_
 refine i_a fun tr => ?_
 refine gs_if0 (tst_or (b := false) (c := false) (tst_eq (tst_cmp1 (ev_hcc B (ev_local rfl) (H' _)) (evB_eq (ev_slB (ev_localB rfl) (pt_int ev_int) pt_none (by omega)) (sl_from _ 32)) fun x y h h' => co_neB h h') (by show ((k.raw i).drop 32 != (k.raw i).drop 32) = false; simp)) fun _ => tst_or (b := false) (c := false) (tst_eq (tst_cmp1 (ev_hsecret B r.le (ev_local rfl) (H' _) hp') (ev_g2 B (ev_global B (gl_ec_privkey_add _)) (kp_ec_privkey_add _) (evB_eq (ev_slB (ev_localB rfl) pt_none (pt_int ev_int) (by omega)) (sl_to _ 32)) (ev_hsecret B r.le (ev_local rfl) (H _) hp) fun v u h1 h2 => s_privadd B r.le (by simp; omega) (by omega) h1 h2) fun x y h h' => co_neB h h') ?_) fun _ => tst_or (b := false) (c := false) (tst_eq (tst_cmp1 (ev_hsec B r.le (ev_local rfl) (H' _) ok'.1) (ev_g1 B (ev_global B (gl_ec_pubkey_serialize _)) (kp_ec_pubkey_serialize _) (ev_g1 B (ev_global B (gl_ec_pubkey_create _)) (kp_ec_pubkey_create _) (ev_hsecret B r.le (ev_local rfl) (H' _) hp') fun v h1 => s_create B r.le (by have := ok'.1.kl; omega) h1) fun v h1 => s_pser1 B r.le (by simp [be_length]) h1 ?_) fun x y h h' => co_neB h h') ?_) fun _ => tst_or0) ?_
 · show (be 32 (k.cnum i) != be 32 ((num ((k.raw i).take 32) + num k.kb) % gP)) = false
   rw [k.cnum_t hp]; simp
 · rw [num_be32 (Nat.mod_lt _ gP_pos)]; exact Nat.le_of_lt (Nat.mod_lt _ gP_pos)
 · show (psec (ptK (k.child i).pr (k.child i).kb) != psec (num (be 32 (num (k.child i).kb * gB % gP)))) = false
   rw [hp', ptK_t, num_be32 (Nat.mod_lt _ gP_pos)]; simp
 refine gs_return (gv_tupEq (ds := [.inl ((k.dep + 1 : Nat) : Int), .inl (i : Int), .inr k.fpr, .inr k.ver]) r.le (ad_int (ev_hdep B (ev_local rfl) (H' _)) (ad_int (ev_hix B (ev_local rfl) (H' _)) (ad_byt (ev_hfp B (ev_local rfl) (H' _)) (ad_byt (ev_hver (k := k.child i) B (ev_local rfl) (H' _)) ad_nil)))) (fun N => ad_int (ev_addN (x := k.dep) (y := 1) (ev_hdep B (ev_local rfl) (H _)) ev_int rfl) (ad_int (ev_localI rfl) (ad_byt (evB_eq (ev_slB (ev_g1 B (ev_global B (gl_hash160 _)) (kp_hash160 _) (ev_hsec B r.le (ev_local rfl) (H _) ok.1) fun v h => s_h160 B r.le (by rw [HD.sec_len]; decide) h) pt_none (pt_int ev_int) (by unfold h160 ripe; simp [sha_length])) (sl_to _ 4)) (ad_byt (ev_hver B (ev_local rfl) (H _)) ad_nil)))) (by simp)) fun v N' h => h.1
theorem s_lsame (B : Bs (KF w.params) g) (r : Rm A 9) (h : HdO w.params (Ob g N) x k) (h' : HdO w.params (Ob g N) y k) (ok : k.Gd) : GcP (model PR w) A g L m N (.call (.ref 1570) ⟨[.ref x, .ref y], []⟩) (IsT true) X := by
 refine gc_pcall [("one", .ref x), ("two", .ref y)] B r rfl (by kernel_rfl) (fun s X => BindsTo.of_eq rfl) (by rfl) ?_ (by decide)
 intro h₀ L' A' r st sr B
 have H := fun N' => h.up ⟨st, sr⟩ N'
 have H' := fun N' => h'.up ⟨st, sr⟩ N'
 have tr : ∀ {m' : Loc} {v : Value} {N'}, IsT true v ∧ N' = ([] : Led) → Gv (model PR w) A' h₀ L' m' N' (truthy v) (fun b N2 => b = true ∧ N2 = N') nx := fun {m' v N'} e => by
  obtain rfl : v = .bool true := e.1
  exact tru_bool.gv
 have e1 : ∀ {m' : Loc} {v : Value} {u : Value} {N'}, IsB k.ser v ∧ IsB k.ser u ∧ N' = ([] : Led) → Gv (model PR w) A' h₀ L' m' N' (compareOp .Eq v u) (fun v N' => IsT true v ∧ N' = []) nx := fun {m' v u N'} e => by
  obtain ⟨a, b, rfl⟩ := e
  exact (evT_eq (co_eqB a b) (beq_self_eq_true _)).gv
 refine gs_return (P := fun v N' => IsT true v ∧ N' = []) ?_ fun v N' h => h.1
 refine gv_and (p1 := fun v N' => IsT true v ∧ N' = []) (c := fun _ _ => true) (gv_cmp1 (p1 := fun v N' => IsB k.ser v ∧ N' = []) (p2 := fun x y N' => IsB k.ser x ∧ IsB k.ser y ∧ N' = []) (gv_hser0 B r.le (ev_local rfl) (H _) ok.1) (fun x N' e => by obtain ⟨e, rfl⟩ := e; exact gv_mono (gv_hser0 B r.le (ev_local rfl) (H' _) ok.1) fun v N' e' => ⟨e, e'.1, e'.2⟩) (fun x y N2 e => e1 e)) (fun v N' e => tr e) fun v N' e => ?_
 obtain ⟨-, rfl⟩ := e
 rw [if_pos rfl]
 refine gv_and (p1 := fun v N' => IsT true v ∧ N' = []) (c := fun _ _ => true) (gv_cmp1 (p1 := fun v N' => v = .ref x ∧ N' = []) (p2 := fun u v N' => u = .ref x ∧ v = .ref y ∧ N' = []) (Ev.gv (ev_local rfl)) (fun u N' e => by obtain ⟨e, rfl⟩ := e; exact Ev.gv (ev_mono (ev_local rfl) fun v N' e' => ⟨e, e'.1, e'.2⟩)) (fun u v N2 e => ?_)) (fun v N' e => tr e) fun v N' e => ?_
 · obtain ⟨rfl, rfl, rfl⟩ := e
   exact gv_mono (co_eqH B r.le (H _) (H' _) ok ok) fun v N' e => ⟨by have := e.1; rwa [beq_self_eq_true] at this, e.2⟩
 obtain ⟨-, rfl⟩ := e
 rw [if_pos rfl]
 refine gv_and1 (Ev.gv (evT_eq (ev_cmp1 (ev_hpriv B r.le (ev_local rfl) (H _)) (ev_hpriv B r.le (ev_local rfl) (H' _)) fun u v e e' => ?_) (beq_self_eq_true k.pr)))
 obtain rfl : u = .bool k.pr := e
 obtain rfl : v = .bool k.pr := e'
 exact fun s Q E W q => PyProof.Rows.eq_bool (q _ s.heap s.toks [] ⟨rfl, rfl⟩ W)
end
end
noncomputable def EZ (base : Heap) (l : List Env) (C : Addr) (g : Heap) (L : Addr) (v : Value) (h' : Heap) : Prop :=
 ∃ e t vs m h₂, v = .ref e ∧ Fr g L h₂ m ∧ h₂.UpToSlots h' ∧ RaisedK base l e (.ref C) t vs [] h'
noncomputable def HZ (base : Heap) (l : List Env) (C : Addr) (g : Heap) (L : Addr) (v : Value) (h' : Heap) : Prop :=
 ∃ e t vs m h₂, v = .ref e ∧ Fr g L h₂ m ∧ h₂.UpToSlots h' ∧ (∃ B, base.StaysIn B ∧ Heap.HeldW B l e (.ref C) (.ref t) L h' ∧ B.get? t = none) ∧ h'.TupAt t vs
noncomputable def ZF (base : Heap) (l : List Env) (C : Addr) (g : Heap) (L : Addr) (v : Value) (h' : Heap) : Prop :=
 (∃ e vs m h₂, v = .ref e ∧ Fr g L h₂ m ∧ Heap.MadeExcOf h₂ h' e (.ref C) vs) ∨ EZ base l C g L v h' ∨ HZ base l C g L v h'
noncomputable def Gz {α : Type} (M : Model) (A : Around) (g : Heap) (L : Addr) (m : Loc) (N : Led) (t : Sem α) (Z : Value → Heap → Prop) : Prop :=
 ∀ (s : Shared) (Q : α → Shared → Prop) (E : Value → Shared → Prop), Wf g L s.heap m N → (∀ v h' tk', Z v h' → E v { s with heap := h', toks := tk' }) → wpG M A t Q E s
noncomputable def Cz (M : Model) (A : Around) (base : Heap) (outer : List Env) (C : Addr) (c : Code) (s : Shared) : Prop :=
 ∀ R : Result → Shared → Prop, (∀ e t vs h' tk', RaisedK base outer e (.ref C) t vs [] h' → s.heap.UpToSlots h' → R (.error (.ref e)) { s with heap := h', toks := tk' }) → codeG M A c R s
section
variable {α β : Type} {w : World} {M : Model} {A : Around} {prog : Program} {E : Value → Shared → Prop} {s : Shared} {g base : Heap} {L C a : Addr} {m : Loc} {N : Led} {K : Frag} {env : Env} {cn : Str} {cs : Scope} {ccd : Value} {Z : Value → Heap → Prop} {l outer : List Env}
theorem gz_bind {t : Sem α} {f : α → Sem β} (h : Gz M A g L m N t Z) : Gz M A g L m N (t >>= f) Z := fun s Q E W x => g_bind (h s _ E W x)
theorem gz_then {t : Sem α} {f : α → Sem β} {P : α → Led → Prop} (h : Gv M A g L m N t P nx) (k : ∀ v N', P v N' → Gz M A g L m N' (f v) Z) : Gz M A g L m N (t >>= f) Z := fun s Q E W x =>
 g_bind (h s _ E W (fun v h' tk' N' p W' => k v N' p _ Q E W' fun v h2 tk2 z => x v h2 tk2 z) fun _ _ _ _ e _ => e.elim)
theorem gz_holding {vs : List Value} {t : Sem α} (h : Gz M A g L m N t Z) : Gz M A g L m N (holding vs t) Z := fun s Q E W x => g_holding (h s Q E W x)
theorem gz_at {t : Sem α} {p : Pos} (h : Gz M A g L m N t Z) : Gz M A g L m N (standAt p >>= fun _ => t) Z := gz_then (P := fun _ N' => N' = N) (ev_standAt rfl).gv fun _ _ e => e ▸ h
theorem gz_operate {ops : List Value} {t : Sem Value} (h : Gz M A g L m N t Z) : Gz M A g L m N (operate ops t) Z := by
 unfold operate
 exact gz_bind (gz_holding h)
theorem gz_cons {st : Stmt} {rest : List Stmt} (h : Gz M A g L m N (exec st env) Z) : Gz M A g L m N (execs (st :: rest) env) Z := fun s Q E W x => by
 rw [execs_cons]; exact g_bind (h s _ E W x)
theorem gz_split {ss : List Stmt} {n : Nat} {J : Loc → Led → Prop} (h : Gs M A g L m N (execs (takeS ss n) env) (fun fl m' N' => fl = .next ∧ J m' N') nxs) (k : ∀ m' N', J m' N' → Gz M A g L m' N' (execs (dropS ss n) env) Z) : Gz M A g L m N (execs ss env) Z := fun s Q E W x =>
 g_split (h s _ E W (fun fl h' tk' m' N' e W' => by
  obtain ⟨rfl, e⟩ := e
  exact k m' N' e { s with heap := h', toks := tk' } Q E W' fun v h2 tk2 z => x v h2 tk2 z) fun _ _ _ _ _ e _ => e.elim)
theorem gz_ifT {t : Expr} {bd oe : List Stmt} {p : Pos} {rest : List Stmt} (h : Tst M A g L m N t env true) (k : Gz M A g L m N (execs bd env) Z) : Gz M A g L m N (execs (.If t bd oe p :: rest) env) Z :=
 gz_cons fun s Q E W x => by
  rw [arm_exec_If]
  refine g_bind (wg (wpAny_standAt (g_bind (h.gv (X := nx) s _ E W (fun c' h' tk' N' p1 W' => ?_) fun _ _ _ _ e _ => e.elim))))
  obtain ⟨rfl, rfl⟩ := p1
  exact k _ Q E W' x
theorem gz_ifF {t : Expr} {bd oe : List Stmt} {p : Pos} {rest : List Stmt} (h : Tst M A g L m N t env false) (k : Gz M A g L m N (execs oe env) Z) : Gz M A g L m N (execs (.If t bd oe p :: rest) env) Z :=
 gz_cons fun s Q E W x => by
  rw [arm_exec_If]
  refine g_bind (wg (wpAny_standAt (g_bind (h.gv (X := nx) s _ E W (fun c' h' tk' N' p1 W' => ?_) fun _ _ _ _ e _ => e.elim))))
  obtain ⟨rfl, rfl⟩ := p1
  exact k _ Q E W' x
theorem gz_exprS {e : Expr} {p : Pos} {rest : List Stmt} (h : Gz (model prog w) A g L m N (eval e env) Z) (hi : interactive env = false := by rfl) (hs : swapsWith e none p.line env = pure false := by rfl) : Gz (model prog w) A g L m N (execs (.Expr e p :: rest) env) Z :=
 gz_cons fun s Q E W x => by
  rw [exec_Expr env e p hi hs]
  exact g_bind (wg (wpAny_standAt (g_bind (h s _ E W x))))
theorem gz_return {e : Expr} {p : Pos} {rest : List Stmt} (h : Gz M A g L m N (eval e env) Z) : Gz M A g L m N (execs (.Return (some e) p :: rest) env) Z :=
 gz_cons fun s Q E W x => by
  rw [exec_Return_some]
  exact g_bind (wg (wpAny_standAt (g_bind (h s _ E W x))))
theorem gz_assign {y : Str} {e : Expr} {p p' : Pos} {rest : List Stmt} (h : Gz M A g L m N (eval e (envX cn cs L a ccd [])) Z) (hs : swapsWith e (some (.Name y p')) p.line (envX cn cs L a ccd []) = pure false := by rfl) :
 Gz M A g L m N (execs (.Assign [.Name y p'] e p :: rest) (envX cn cs L a ccd [])) Z :=
 gz_cons fun s Q E W x => by
  rw [exec_Assign_Name _ _ _ _ _ hs]
  exact g_bind (wg (wpAny_standAt (g_bind (h s _ E W x))))
theorem gz_ifexp {t bd o : Expr} {p : Pos} {c : Bool} (h : Tst M A g L m N t env c) (hb : if c then Gz M A g L m N (eval bd env) Z else Gz M A g L m N (eval o env) Z) : Gz M A g L m N (eval (.IfExp t bd o p) env) Z := by
 rw [arm_eval_IfExp]
 refine gz_then (P := fun b N' => b = c ∧ N' = N) h.gv fun c' N' e => ?_
 obtain ⟨rfl, rfl⟩ := e
 cases c' <;> exact hb
theorem gz_raise {x : Str} {msg : Str} {np cpos pos cpp : Pos} {cp : Nat} {rest : List Stmt} (B : Bs K g) (hC : nsIn K mainGlobals x = some (some (.ref C))) (q : excIn K C [.type "Exception", .type "BaseException", .type "object"] "Exception.__new__" = true) (hh : A.handled = none)
 (hk : cs.kind = .function := by rfl) (hx : (envOf cn cs L a ccd).kindOf x = some .globalImplicit := by rfl) (hd : (x == ("__debug__" : Str)) = false := by decide) :
 Gz (model prog w) A g L m N (execs (.Raise (some (.Call (.Name x np) [.Constant (.str msg) cp cpp] [] cpos)) none pos :: rest) (envX cn cs L a ccd [])) (ZF base l C g L) :=
 gz_cons fun s Q E W z => by
  obtain ⟨p, lo, mg, mb, T⟩ := B.T
  refine (wg (Raise_own (name := cn) (scope := cs) (L := L) (a := a) (cd := ccd) (x := x) W.fr T.g (own_of_in B.X T hC q) PySem.F.excBase_Exception hh (spliced_more ((ev_str : EvP (model prog w) A g L m N _ _) s _ _ W fun v h' tk' N' e W' => spliced_none ⟨by show 1 ≤ sizeLine; decide, W'.fr.keep, fun h2 e2 hm => ?_⟩)) rfl rfl hk hx hd))
  exact z _ _ _ (.inl ⟨e2, _, _, _, rfl, W'.fr, hm⟩)
theorem gz_call {f : Value} {pos : List Value} {kw : List (Str × Value)} {oe : List Env} (h : ∀ s, Wf g L s.heap m N → Cz M A base oe C (.call f ⟨pos, kw⟩) s) : Gz M A g L m N (call f pos kw) (EZ base oe C g L) := fun s Q E W x =>
 g_call (h s W _ fun e t vs h' tk' hR hU => x _ h' tk' ⟨e, t, vs, _, _, rfl, W.fr, hU, hR⟩)
theorem cz_def {name qual : Str} {params : Arguments} {body : List Stmt} {scope : Scope} {dV kV doc pm cdv ct oc : Value} {an od : Option Addr} {osl : Array (Option Value)} {f : Addr} {pos : List Value} {kw : List (Str × Value)} (binds : List (Str × Value)) {d : Nat}
 (B : Bs K s.heap) (r : Rm A (d + 1)) (KB : Below A base outer s.heap) (ho : K.lookup f = some ⟨oc, od, .func (fnX name qual params body scope [] dV kV doc pm an cdv ct), osl⟩) (hcd : codeIn K cdv qual = true)
 (hbind : ∀ s : Shared, K.In s.heap → BindsTo s (fnX name qual params body scope [] dV kV doc pm an cdv ct) ⟨pos, kw⟩ binds) (hloc : (binds.all fun x => decide (scope.names.lookup x.1 = some .local)) = true)
 (hb : ∀ L', Rm (A.deeper (envX qual scope L' f cdv [])) d → (∀ h₂ m₂, Fr s.heap L' h₂ m₂ → Below (A.deeper (envX qual scope L' f cdv [])) base (envX qual scope L' f cdv [] :: outer) h₂) →
  Gz (model prog w) (A.deeper (envX qual scope L' f cdv [])) s.heap L' binds.reverse [] (execs body (envX qual scope L' f cdv [])) (ZF base (envX qual scope L' f cdv [] :: outer) C s.heap L'))
 (hcell : ∀ x ∈ scope.names, x.2 ≠ .cell) (hco : scope.isCoroutine = false := by rfl) (hgen : scope.isGenerator = false := by rfl) (hk : scope.kind = .function := by rfl) :
 Cz (model prog w) A base outer C (.call (.ref f) ⟨pos, kw⟩) s := fun R hR => by
 refine cg_call_def (fd := fnX name qual params body scope [] dV kV doc pm an cdv ct) (body := body) (binds := binds) r.room (B.X _ _ ho) rfl B.nolimit (codeRec_of B.X hcd) rfl (hbind s B.X) hcell (locs hloc) (fun h₁ hns hk₁ => ?_) hco hgen hk
 have W₁ : Wf s.heap s.heap.objs.size h₁ binds.reverse [] := ⟨⟨hns, hk₁, Nat.le_refl _⟩, fun p hp => absurd hp (List.not_mem_nil), List.nodup_nil⟩
 refine hb s.heap.objs.size r.deep (fun h₂ m₂ F => KB.push F hk) _ _ _ W₁ fun v h' tk' z => ?_
 rcases z with ⟨e, vs, m₂, h₂, rfl, F, hm⟩ | ⟨e, t, vs, m₂, h₂, rfl, F, hU, hz⟩ | ⟨e, t, vs, m₂, h₂, rfl, F, hU, ⟨B', hB, hh, hn⟩, ht⟩
 · exact (wg (leave_raiseK KB hm F News.nil (fun h3 t hr hu => hR _ _ _ _ _ hr hu) hk))
 · exact (wg (leave_onK (name := qual) (scope := scope) (a := f) (cd := cdv) KB F (show RaisedK base (envOf qual scope s.heap.objs.size f cdv :: outer) e (.ref C) t vs [] h' from hz) hU fun h3 hr hu => hR _ _ _ _ _ hr hu))
 · unfold leaving
   refine (wg (wpAny_bind (wpAny_noteFrame_againW rfl hh.2.2.2 (wpAny_landsW hh fun h4 hf hu => ?_))))
   exact hR _ _ _ _ _ ⟨⟨B', hB, fun q hq => absurd hq (List.not_mem_nil), ⟨hf.1, hf.2.1, hf.2.2.1.2.2, hf.2.2.2⟩, hn⟩, ht.of_slots hu⟩ (((Heap.UpToSlots.of_keeps F.keep).trans hU).trans hu)
end
section
variable {w : World} {M : Model} {A : Around} {prog : Program} {E : Value → Shared → Prop} {s : Shared} {g base : Heap} {L a x : Addr} {m : Loc} {N : Led} {K : Frag} {env : Env} {Z : Value → Heap → Prop} {outer : List Env} {k : HD} {i : Nat}
theorem gz_callWith' {p : Pos} {f : Value} {first : List Value} {args : List (Bool × Sem Value)} {kws : List (Option Str × Sem Value)} {PA : Args → Led → Prop} (B : Bs K g) (hk : Kp K f) (ha : Gv M A g L m N (evalArgs f true args kws) PA nx)
 (hc : ∀ x N', PA x N' → Gz M A g L m N' (call f (first ++ x.pos) x.kw) Z) (hplain : (args.any (·.1) || kws.any (·.1.isNone)) = false) : Gz M A g L m N (callWith p f first args kws) Z := by
 unfold callWith
 refine gz_then (gv_holding ha) fun x N' e1 => gz_at ?_
 simp only [hplain]
 intro s Q E W xx
 obtain ⟨k, hk', Lk⟩ := hk M s.heap (B.X.keeps W.fr.keep)
 refine g_bind (wg (Lk.here ?_))
 have fin : ∀ {t : Sem Value}, Gz M A g L m N' t Z → wpG M A (t >>= fun r => holding [r] point >>= fun _ => pure r) Q E s := fun ht => gz_bind ht s Q E W xx
 have marked (mk : Value) : Gz M A g L m N' (callMarked mk f (first ++ x.pos) x.kw) Z := by
  unfold callMarked
  intro s Q E W xx Γ p i c
  rw [Sem.wp_keep]
  exact hc x N' e1 s Q E W xx Γ p i c
 have plain := hc x N' e1
 rcases hk' with rfl | rfl | rfl <;> dsimp only <;> first | exact fin plain | (split <;> first | exact fin plain | exact fin (marked _))
theorem gz_callWith {p : Pos} {f : Value} {first : List Value} {args : List Expr} {kws : List Keyword} {PA : List Value → Led → Prop} {PK : List Value → List Value → Led → Prop} (B : Bs K g) (hk : Kp K f)
 (ha : Gv M A g L m N (spliced (backTo p (starEach args env))) PA nx) (hk2 : ∀ vs N', PA vs N' → Gv M A g L m N' (evalAll ((backToKw p (keywordEach kws env)).map (·.2))) (PK vs) nx)
 (hc : ∀ vs ks N', PK vs ks N' → Gz M A g L m N' (call f (first ++ vs) (((backToKw p (keywordEach kws env)).filterMap (·.1)).zip ks)) Z)
 (hall : (backToKw p (keywordEach kws env)).all (·.1.isSome) = true := by rfl) (hplain : (backTo p (starEach args env)).any (·.1) = false := by rfl) (hnone : (backToKw p (keywordEach kws env)).any (·.1.isNone) = false := by rfl) :
 Gz M A g L m N (callWith p f first (backTo p (starEach args env)) (backToKw p (keywordEach kws env))) Z :=
 gz_callWith' B hk (gv_evalArgs ha hk2 hall hplain) (fun x N' e => by obtain ⟨vs, ks, rfl, e⟩ := e; exact hc vs ks N' e) (by rw [hplain, hnone]; rfl)
theorem gz_m1 {o e1 : Expr} {name : Str} {apos p : Pos} {pl : Sem Bool} {f : Addr} {P1 : Value → Led → Prop} (B : Bs K g) (ho : EvP (model prog w) A g L m N (eval o env) (IsV (.ref x))) (hm : Mth K g N name x f)
 (h1 : Gv (model prog w) A g L m N (eval e1 env) P1 nx) (hc : ∀ v N', P1 v N' → Gz (model prog w) A g L m N' (call (.ref f) [.ref x, v] []) Z)
 (he : eval (.Call (.Attribute o name apos) [e1] [] p) env = (do
  let ov ← eval o env
  standAt apos.atName
  let (f, first) ← holding [ov] (getMethod ov name pl)
  callWith p f first (backTo p (starEach [e1] env)) (backToKw p (keywordEach [] env))) := by rfl)
 (he1 : starEach [e1] env = (false, eval e1 env) :: starEach [] env := by rfl) (hplain : (backTo p (starEach [e1] env)).any (·.1) = false := by rfl) : Gz (model prog w) A g L m N (eval (.Call (.Attribute o name apos) [e1] [] p) env) Z := by
 rw [he]
 refine gz_then (P := fun v N' => v = .ref x ∧ N' = N) ho.gv fun ov N1 e => ?_
 obtain ⟨rfl, rfl⟩ := e
 refine gz_at (gz_then (P := fun fx N' => fx = (.ref f, [.ref x]) ∧ N' = N1) (gv_holding (hm.gm B).gv) fun fx N2 e => ?_)
 obtain ⟨rfl, rfl⟩ := e
 exact gz_callWith (PA := fun vs N' => ∃ v, vs = [v] ∧ P1 v N') (PK := fun vs ks N' => ∃ v, vs = [v] ∧ ks = [] ∧ P1 v N') B hm.kp (gr_cons h1 (fun v N' e => gr_nil ⟨v, rfl, e⟩) he1) (fun vs N' e => gk_nil (by obtain ⟨v, e, h⟩ := e; exact ⟨v, e, rfl, h⟩)) (fun vs ks N' e => by obtain ⟨v, rfl, rfl, h⟩ := e; exact hc v N' h) (by rfl) hplain (by rfl)
theorem gz_m2 {o e1 e2 : Expr} {name : Str} {apos p : Pos} {pl : Sem Bool} {f : Addr} {P1 P2 : Value → Prop} (B : Bs K g) (ho : EvP (model prog w) A g L m N (eval o env) (IsV (.ref x))) (hm : Mth K g N name x f)
 (h1 : EvP (model prog w) A g L m N (eval e1 env) P1) (h2 : EvP (model prog w) A g L m N (eval e2 env) P2) (hc : ∀ v u, P1 v → P2 u → Gz (model prog w) A g L m N (call (.ref f) [.ref x, v, u] []) Z)
 (he : eval (.Call (.Attribute o name apos) [e1, e2] [] p) env = (do
  let ov ← eval o env
  standAt apos.atName
  let (f, first) ← holding [ov] (getMethod ov name pl)
  callWith p f first (backTo p (starEach [e1, e2] env)) (backToKw p (keywordEach [] env))) := by rfl)
 (he1 : starEach [e1, e2] env = (false, eval e1 env) :: starEach [e2] env := by rfl) (he2 : starEach [e2] env = (false, eval e2 env) :: starEach [] env := by rfl) (hplain : (backTo p (starEach [e1, e2] env)).any (·.1) = false := by rfl) : Gz (model prog w) A g L m N (eval (.Call (.Attribute o name apos) [e1, e2] [] p) env) Z := by
 rw [he]
 refine gz_then (P := fun v N' => v = .ref x ∧ N' = N) ho.gv fun ov N1 e => ?_
 obtain ⟨rfl, rfl⟩ := e
 refine gz_at (gz_then (P := fun fx N' => fx = (.ref f, [.ref x]) ∧ N' = N1) (gv_holding (hm.gm B).gv) fun fx N2 e => ?_)
 obtain ⟨rfl, rfl⟩ := e
 exact gz_callWith (PA := fun vs N' => (∃ v u, vs = [v, u] ∧ P1 v ∧ P2 u) ∧ N' = N2) (PK := fun vs ks N' => (∃ v u, vs = [v, u] ∧ P1 v ∧ P2 u ∧ ks = []) ∧ N' = N2) B hm.kp (by
  refine gr_cons h1.gv (fun v N' e => ?_) he1
  obtain ⟨e, rfl⟩ := e
  refine gr_cons h2.gv (fun u N3 e' => ?_) he2
  obtain ⟨e', rfl⟩ := e'
  exact gr_nil ⟨⟨v, u, rfl, e, e'⟩, rfl⟩)
  (fun vs N' e => by obtain ⟨⟨v, u, rfl, e1, e2⟩, rfl⟩ := e; exact gk_nil ⟨⟨v, u, rfl, e1, e2, rfl⟩, rfl⟩) (fun vs ks N' e => by obtain ⟨⟨v, u, rfl, e1, e2, rfl⟩, rfl⟩ := e; exact hc v u e1 e2) (by rfl) hplain (by rfl)
theorem ex_HDError (P : Params) : excIn (KF P) 1296 [.type "Exception", .type "BaseException", .type "object"] "Exception.__new__" = true := by kernel_rfl
theorem ex_ECError (P : Params) : excIn (KF P) 980 [.type "Exception", .type "BaseException", .type "object"] "Exception.__new__" = true := by kernel_rfl
theorem Ob.flat {h : Heap} {b : Addr} {o : Obj} (W : Wf g L h m N) (H : Ob g N b o) : Ob h [] b o := .inr (H.at W)
theorem HdO.flat {P : Params} {h : Heap} (W : Wf g L h m N) (H : HdO P (Ob g N) x k) : HdO P (Ob h []) x k := H.mono fun a o e => e.flat W
theorem z_child {v : Value} {N' : Led} (B : Bs (KF w.params) s.heap) (r : Rm A 8) (KB : Below A base outer s.heap) (H : HdO w.params (Ob s.heap []) x k) (hv : IsI (i : Int) v) (h : 4294967295 < i ∨ (2147483648 ≤ i ∧ k.pr = false)) :
 Cz (model PR w) A base outer 1296 (.call (.ref 1447) ⟨[.ref x, v], []⟩) s := by
 obtain ⟨t, rfl⟩ := hv
 refine cz_def [("self", .ref x), ("index", .int (i : Int) t), ("hardened", .bool false)] B r KB rfl (by kernel_rfl) (fun s X => binds_K X rfl rfl rfl rfl rfl) (by rfl) ?_ (by decide)
 intro L' r _
 by_cases hb : 4294967295 < i
 · exact gz_ifT (tst_eq (tst_cmp1 (ev_localI rfl) ev_int fun x y h h' => co_gt h h') (decide_eq_true (by omega))) (gz_raise B (gl_HDError _) (ex_HDError _) r.h)
 obtain ⟨hge, hpf⟩ : 2147483648 ≤ i ∧ k.pr = false := h.elim (fun h => absurd h hb) fun h => h
 refine gz_split (n := 3) (J := fun m' N' => N' = [] ∧ lk m' "self" = some (.ref x) ∧ lk m' "hardened" = some (.bool true)) ?_ fun m' N' J => ?_
 · refine gs_if0 (tst_eq (tst_cmp1 (ev_localI rfl) ev_int fun x y h h' => co_gt h h') (decide_eq_false (by omega))) ?_
   refine gs_if0 (tst_eq (tst_and (b := false) (c := false) (tst_T (ev_local rfl)) fun h => absurd h (by decide)) rfl) ?_
   refine gs_ifJ (fun m' N' => N' = [] ∧ lk m' "self" = some (.ref x) ∧ lk m' "hardened" = some (.bool true)) (tst_eq (c := true) (tst_cmp1 (ev_localI rfl) (ev_globalI B (gl_HARDENED_INDEX _)) fun x y h h' => co_ge h h') (decide_eq_true (by omega))) (fun _ => ?_) (fun h => absurd h (by decide)) fun m' N' J => gs_nil ⟨rfl, J⟩
   refine gs_assign ev_bool.gv ?_
   refine i_b ?_
   exact gs_nil ⟨rfl, rfl, rfl, rfl⟩
 · obtain ⟨rfl, l1, l2⟩ := J
   exact gz_ifT (tst_eq (tst_and (b := true) (c := true) (tst_T (ev_local l2)) fun _ => tst_eq (tst_and (b := !k.pr) (c := true) (tst_not (tst_T (ev_hpriv B r.le (ev_local l1) H))) fun _ => tst_and0) (by rw [hpf]; rfl)) rfl) (gz_raise B (gl_HDError _) (ex_HDError _) r.h)
end
section
variable {α : Type} {w : World} {M : Model} {A : Around} {prog : Program} {E : Value → Shared → Prop} {s : Shared} {g base : Heap} {L C a x : Addr} {m : Loc} {N : Led} {cn : Str} {cs : Scope} {ccd : Value} {Z : Value → Heap → Prop} {l outer : List Env} {k : HD} {i : Nat}
theorem heldW_again {e : Addr} {cls a0 : Value} {Q : Unit → Shared → Prop} (R : Heap.HeldW base l e cls a0 L s.heap)
 (h : ∀ h', Heap.HeldW base l e cls a0 L h' → s.heap.UpToSlots h' → Q () { s with heap := h' }) : wpAny M A (do
  if (← field (.ref e) 1) == .none then unsupported "frame.own-activation:exception-without-traceback"
  setFlight (.ref e) (some L)) Q E s := by
 obtain ⟨hkb, hen, hl, oe, vs, T, oT, ts, he, hcls, hd, h1, hnT, hTe, hT, hdT, h3⟩ := R
 have hsz3 : 3 < ts.size := (Array.getElem?_eq_some_iff.mp h3).1
 have other : ∀ b, b ≠ T → (s.heap.update T (Obj.mapFields (·.setIfInBounds 3 ((some L).elim Value.none fun f => rawInt f)))).get? b = s.heap.get? b :=
  fun b hb => Heap.get?_update_other _ _ (Ne.symm hb)
 have noRecord : ∀ b o, s.heap.get? b = some o → (∀ vs, o.data ≠ .fields vs) → b ≠ T := fun b o hb hnf q => by
  rw [q, hT] at hb; injection hb with hb; subst hb; exact hnf ts hdT
 refine wpAny_bind (wpAny_field he hd h1 ?_)
 rw [if_neg (show ¬ ((Value.ref T == Value.none) = true) from by simp)]
 unfold setFlight
 refine wpAny_bind (wpAny_field he hd h1 ?_)
 rw [if_pos (show (Value.ref T != Value.none) = true from by simp)]
 refine wpAny_setField hT hdT hsz3 (h _ ⟨fun b o hbo => (other b fun q => by rw [q, hnT] at hbo; cases hbo).trans (hkb b o hbo), hen,
  hl.of_keeps fun b o hb hnf => ⟨o, (other b (noRecord b o hb hnf)).trans hb, rfl⟩, ?_⟩ fun b o hb hnf => ⟨o.slots, (other b (noRecord b o hb hnf)).trans hb⟩)
 exact ⟨oe, vs, T, _, _, (other e (Ne.symm hTe)).trans he, hcls, hd, h1, hnT, hTe, Heap.get?_update_self _ hT (Obj.isFreed_of_fields (Obj.data_mapFields hdT _)), Obj.data_mapFields hdT _, by simp [hsz3]⟩
theorem gz_mono {t : Sem α} {Z' : Value → Heap → Prop} (h : Gz M A g L m N t Z) (k : ∀ v h', Z v h' → Z' v h') : Gz M A g L m N t Z' := fun s Q E W x => h s Q E W fun v h' tk z => x v h' tk (k v h' z)
theorem gz_for1 {y : Str} {iter : Expr} {body rest : List Stmt} {px pos : Pos} {n : Nat} {P : Nat → Value → Prop} {kp : Led} {J : Led → Prop}
 (hfr : A.frames = some (envX cn cs L a ccd [] :: outer)) (hn : 0 < n)
 (he : Gv (model prog w) A g L m N (eval iter (envX cn cs L a ccd [])) (fun v N' => It prog w A g L N' kp v n P ∧ J N') nx)
 (step : ∀ v N₁ I it, P 0 v → J N₁ → Gz (model prog w) A g L ((y, v) :: m) (N₁ ++ [(I, it)]) (execs body (envX cn cs L a ccd [])) (EZ base (envX cn cs L a ccd [] :: outer) C g L))
 (hk : cs.kind = .function := by rfl) (hx : (envX cn cs L a ccd []).kindOf y = some .local := by rfl) (hs : ∀ x, foldedSetIterable iter (envX cn cs L a ccd []) x = pure x := by intro _; rfl) (ht : ∀ it v, letOwnedTupleGo (.Name y px) it v = pure () := by intro _ _; rfl) :
 Gz (model prog w) A g L m N (execs (.For (.Name y px) iter body [] pos :: rest) (envX cn cs L a ccd [])) (HZ base (envX cn cs L a ccd [] :: outer) C g L) := by
 refine gz_cons fun s Q E W xx => ?_
 rw [exec_For]
 refine g_bind (wg (wpAny_standAt (g_bind (he s _ E W (fun v h1 tk1 N1 e1 W1 => ?_) fun _ _ _ _ h _ => h.elim))))
 refine g_bind (wg (wpAny_of_eq (hs v) (g_bind (wg (wpAny_standAt (g_bind (g_holding ?_)))))))
 refine (wg (e1.1 m _ _ _ W1 fun o fp St Wk hfp hsome hst => ?_))
 have hIg : g.get? h1.objs.size = none := next_is_new W1.fr
 have hIL : h1.objs.size ≠ L := fun e => Nat.lt_irrefl _ (e ▸ W1.fr.ns.lt)
 have hI0 : ∀ p ∈ N1, p.1 ≠ h1.objs.size := fun p hp e => absurd (Heap.lt_size (W1.nw p hp).1) (e ▸ Nat.lt_irrefl _)
 have hp : ((envX cn cs L a ccd []).scope.kind == .class || ((envX cn cs L a ccd []).scope.kind == .module && (envX cn cs L a ccd []).locals != (envX cn cs L a ccd []).globals)) = false := by
  show (cs.kind == .class || (cs.kind == .module && _)) = false; rw [hk]; rfl
 unfold runOwn
 refine g_onRaise (g_run ?_ rfl)
 have W0 : Wf g L (h1.push o) m N1 := ⟨W1.fr.push _, fun p hp => ⟨Heap.get?_push_of_some _ (W1.nw p hp).1, (W1.nw p hp).2⟩, W1.nd⟩
 refine cg_of_tree ?_
 show wpG _ A ((forTurn (.Name y px) (.ref h1.objs.size) body [] (envX cn cs L a ccd [])).onRaise (fun x => do noteFrame x (envX cn cs L a ccd []); theTreesLotGoes x)) _ _ _
 refine g_onRaise ?_
 refine g_bind (wg (wpAny_standAt (g_bind (g_onRaise ?_))))
 refine (wg (Wk.item 0 { s with heap := h1.push o, toks := tk1 } _ _ hn hst fun v h₁ tk₁ hP hst₁ hk₁ => ?_))
 have W2 := W0.move hIL hIg hI0 hk₁
 obtain ⟨it, hit⟩ := hsome _ _ hst₁
 refine g_bind (wg (wpAny_of_eq (ht _ v) ?_))
 refine g_bind (wg (wpAny_assign_Name (wpAny_storeName_local hx W2.fr.ns (fun h₂ hn₂ hs₂ => ?_) hp)))
 have F₂ := W2.fr.set hn₂ hs₂
 have n₂ : News g L h₂ N1 := W2.nw.set hs₂
 have hit₂ : h₂.get? h1.objs.size = some it := (hs₂.2 _ hIL).trans hit
 have W3 : Wf g L h₂ ((y, v) :: m) (N1 ++ [(h1.objs.size, it)]) := wf_end (lk_cons m y v ▸ F₂) n₂ W2.nd hI0 hit₂ hIL hIg
 refine g_bind (step v N1 _ it hP e1.2 _ _ _ W3 fun ev h3 tk3 z => ?_)
 obtain ⟨e, t, vs, m₂, h₄, rfl, F, hU, ⟨⟨B', hB, -, hf, hnt⟩, htup⟩⟩ := z
 refine (wg (wpAny_bind (wpAny_looks_onW hfr rfl hf fun h5 hh hu5 => ?_)))
 refine wpAny_theTreesLotGoes ?_
 refine (wg (heldW_again hh fun h6 hh6 hu6 => ?_))
 exact xx _ h6 tk3 ⟨e, t, vs, m₂, h₄, rfl, F, (hU.trans hu5).trans hu6, ⟨B', hB, hh6, hnt⟩, (htup.of_slots hu5).of_slots hu6⟩
theorem z_derive {D : Addr} {its : List Value} {n : Nat} (B : Bs (KF w.params) s.heap) (r : Rm A 10) (KB : Below A base outer s.heap) (H : HdO w.params (Ob s.heap []) x k) (hD : s.heap.get? D = some (listOf its.toArray n)) (hi : IntsAre its [(i : Int)]) (h : 4294967295 < i ∨ (2147483648 ≤ i ∧ k.pr = false)) :
 Cz (model PR w) A base outer 1296 (.call (.ref 1454) ⟨[.ref x, .ref D], []⟩) s := by
 refine cz_def [("self", .ref x), ("path", .ref D)] B r KB rfl (by kernel_rfl) (fun s X => BindsTo.of_eq rfl) (by rfl) ?_ (by decide)
 intro L' r KB'
 refine gz_split (n := 1) (J := fun m' N' => N' = [] ∧ lk m' "self" = some (.ref x) ∧ lk m' "path" = some (.ref D)) ?_ fun m' N' J => ?_
 · refine gs_if0 (tst_T (ev_Call2 B (ev_builtin B (no_isinstance _) (by rfl)) kp_b (ev_local rfl) (ev_builtin B (no_str _) (by rfl)) fun v u h1 h2 => ?_)) (gs_nil ⟨rfl, rfl, rfl, rfl⟩)
   obtain rfl : v = .ref D := h1
   obtain rfl : u = .type "str" := h2
   exact fun s Q E W q => IsiPair.list_str (W.fr.keep _ _ hD) rfl (q _ s.heap (s.toks + 1) [] ⟨rfl, rfl⟩ W)
 obtain ⟨rfl, l1, l2⟩ := J
 refine gz_split (n := 1) (J := fun m' N' => N' = [] ∧ lk m' "child" = some (.ref x) ∧ lk m' "path" = some (.ref D)) ?_ fun m' N' J => ?_
 · refine gs_assign (Ev.gv (ev_local l1)) ?_
   refine i_b ?_
   exact gs_nil ⟨rfl, rfl, rfl, l2⟩
 obtain ⟨rfl, l1, l2⟩ := J
 have hlen : its.length = 1 := hi.length
 have hit : It PR w (A.deeper (envX nx217 (fs2 53 17) L' 1454 (.ref 1453) [])) s.heap L' [] [] (.ref D) its.length (fun i v => its[i]? = some v) := by
  have := it_list (prog := PR) (w := w) (g := s.heap) (L := L') (N := []) (r.le (d' := 0)) (.inr hD)
  rwa [if_pos (by rw [hD]; rfl)] at this
 have hfr : (A.deeper (envX nx217 (fs2 53 17) L' 1454 (.ref 1453) [])).frames = some (envX nx217 (fs2 53 17) L' 1454 (.ref 1453) [] :: outer) := Around.frames_deeper KB.stack
 refine gz_mono (gz_for1 (base := base) (C := 1296) (kp := []) (J := fun N' => N' = []) (outer := outer) hfr (n := its.length) (P := fun i v => its[i]? = some v) (by omega)
  (Ev.gv (ev_mono (ev_local l2) fun v N' e => by obtain ⟨rfl, rfl⟩ := e; exact ⟨hit, rfl⟩)) ?_) fun v h' z => .inr (.inr z)
 rintro v N₁ I it hv rfl
 obtain ⟨z, t, rfl, hz⟩ := hi.at 0 v hv
 obtain rfl : (i : Int) = z := Option.some.inj hz
 refine gz_assign (gz_m1 (P1 := fun v N' => IsI (i : Int) v ∧ N' = [] ++ [(I, it)]) B (ev_local l1) ((H.mono fun a o e => .inr (e.elim (fun q => nomatch q) id)).mth (fm_HDKey_child _) (fn_1447 _) (kp_1447 _)) (Ev.gv (ev_localI rfl)) fun v N' e => ?_)
 obtain ⟨hv, rfl⟩ := e
 exact gz_call fun s₂ W₂ => z_child (N' := []) (B.keeps W₂.fr.keep) r.le (KB' _ _ W₂.fr) (HdO.flat W₂ (H.mono fun a o e => .inr (e.elim (fun q => nomatch q) id))) hv h
end
section
variable {w : World} {M : Model} {A : Around} {E : Value → Shared → Prop} {s : Shared} {g base : Heap} {L C a x : Addr} {m : Loc} {N : Led} {K : Frag} {l : List Env} {k : HD}
theorem note_own {e : Addr} {t : Addr} {vs : List Value} {o nm : Value} {Q : Unit → Shared → Prop} (X : K.In base) (hs : subIn K (.ref C) (.type "AttributeError") = some false) (R : RaisedK base l e (.ref C) t vs [] s.heap) (h : Q () s) : wpAny M A (noteIf true o nm (.ref e)) Q E s := by
 obtain ⟨⟨B', hB, -, hf, -⟩, -⟩ := R
 obtain ⟨ob, hob, hc⟩ := hf.there
 have X' : K.In s.heap := X.keeps fun b o q => hf.1 b o (hB b o q)
 have t1 : Looks M s.heap (typeOf (.ref e)) (.ref C) := by
  have := (Looks.ld (M := M) (part := none) hob).andThen (f := fun o => pure o.cls) .now
  rw [hc] at this
  exact this
 have hI : Looks M s.heap (isInstance (.ref e) (.type "AttributeError")) false := t1.andThen (looks_subIn X' hs)
 show wpAny M A (noteAttr (.ref e) o nm) Q E s
 unfold noteAttr
 refine wpAny_bind ?_
 unfold lacksNameAndObj
 refine wpAny_bind (hI.here ?_)
 refine wpAny_pure ?_
 exact wpAny_pure h
theorem sub_HD (P : Params) : subIn (KF P) (.ref 1296) (.type "AttributeError") = some false := by kernel_rfl
theorem gz_secret {oe : List Env} (B : Bs (KF w.params) g) (BB : Bs (KF w.params) base) (r : Rm A 8) (KB : ∀ h m, Fr g L h m → Below A base oe h) (H : HdO w.params (Ob g N) x k) (hp : k.pr = false) : Gz (model PR w) A g L m N (getAttr (.ref x) "secret" true) (EZ base oe 1296 g L) := by
 intro s Q E W xx
 have HF := HdO.flat W H
 refine HdO.el (id H) fun dx kx T mf hx hd hk hm => ?_
 have KB' : Below A.in1 base oe s.heap := let q := KB _ _ W.fr; ⟨q.stack, q.stays, q.frames⟩
 have Bs' : Bs (KF w.params) s.heap := B.keeps W.fr.keep
 refine (wg (get_prop W.fr B.X (hx.inst hd W) (cg_HDKey _ _) (ch_HDKey _) (fp_HDKey_secret _) (pn_1358 _) (pt_1358 _) (pq_1358 _) ?_))
 refine codeAny_call_def (fd := fnX n_secret nx208 (fp2 53 5) (fb2 53 5) (fs2 53 5) [] .none .none .none (.str nx202 2030) none (.ref 1356) .none) (body := fb2 53 5) (binds := [("self", .ref x)]) (r.in1 (d' := 7)).room (Bs'.X _ _ rfl) rfl Bs'.nolimit (codeRec_of Bs'.X (by kernel_rfl)) rfl (BindsTo.of_eq rfl) (by decide) (locs (by rfl)) (fun h₁ hns hk₁ => ?_)
 have W₁ : Wf s.heap s.heap.objs.size h₁ [("self", .ref x)] [] := ⟨⟨hns, hk₁, Nat.le_refl _⟩, fun p hp => absurd hp (List.not_mem_nil), List.nodup_nil⟩
 have r' : Rm (A.in1.deeper (envX nx208 (fs2 53 5) s.heap.objs.size 1357 (.ref 1356) [])) 6 := (r.in1 (d' := 7)).deep
 have B1 := Bs'.keeps hk₁
 show wpAny _ _ (execs (.If _ _ _ _ :: _) _) _ _ _
 rw [execs_cons, arm_exec_If]
 refine wpAny_bind (wpAny_bind (wpAny_standAt (wpAny_bind ((tst_eq (tst_not (tst_T (ev_hpriv Bs' r'.le (ev_local rfl) HF))) (by rw [hp]; rfl) : Tst _ _ _ _ _ _ _ _ true) _ _ _ W₁ fun c' h2 tk2 N2 e2 W2 => ?_))))
 obtain ⟨rfl, rfl⟩ := e2
 obtain ⟨pp, lo, mg, mb, T0⟩ := Bs'.T
 show wpAny _ _ (execs (.Raise _ _ _ :: _) _) _ _ _
 rw [execs_cons]
 refine wpAny_bind (Raise_own (name := nx208) (scope := fs2 53 5) (L := s.heap.objs.size) (a := 1357) (cd := .ref 1356) (x := "HDError") W2.fr T0.g (own_of_in Bs'.X T0 (gl_HDError _) (ex_HDError _)) PySem.F.excBase_Exception r'.h (spliced_more ((ev_str : EvP (model PR w) _ _ _ _ _ _ _) _ _ _ W2 fun v h' tk' N' e W' => spliced_none ⟨by show 1 ≤ sizeLine; decide, W'.fr.keep, fun h3 e3 hm => ?_⟩)))
 refine leave_raiseK KB' hm W'.fr News.nil (fun h4 t4 hr hu => ?_) rfl
 exact note_own (s := { s with heap := h4, toks := tk' }) BB.X (sub_HD _) hr (xx _ h4 tk' ⟨e3, t4, _, _, _, rfl, W.fr, hu, hr⟩)
end
noncomputable def LL (A : Around) (L : Addr) : Prop := ∃ le : Env, A.frames = some [le] ∧ le.scope.kind ≠ .module ∧ le.frame = some L
section
variable {w : World} {A : Around} {prog : Program} {E : Value → Shared → Prop} {s : Shared} {g base : Heap} {L R C a x : Addr} {m : Loc} {N : Led} {K : Frag} {env : Env} {cn : Str} {cs : Scope} {ccd : Value} {Z : Value → Heap → Prop} {outer : List Env} {k : HD} {i : Nat} {X : Value → Led → Prop}
theorem g_tryX {body : List Stmt} {b₀ : Stmt} {suite : List Stmt} {y : Str} {np hp pos : Pos} {rest : List ExceptHandler} {Q : Flow → Shared → Prop} {g₀ : Heap} (BB : Bs K base) (hfr : A.frames = some (envX cn cs R a ccd [] :: outer)) (hsub : ∀ h m, Fr g₀ R h m → Fr base R h m)
 (ex : nsIn K mainGlobals y = some (some (.ref C))) (q : excIn K C [.type "Exception", .type "BaseException", .type "object"] "Exception.__new__" = true)
 (hb : wpG (model prog w) A (execs body (envX cn cs R a ccd [])) (fun _ _ => False) (fun v s' => ∃ h' tk', s' = { s with heap := h', toks := tk' } ∧ EZ base (envX cn cs R a ccd [] :: outer) C g₀ R v h') s)
 (k : ∀ e h' tk' m₂ E', Fr base R h' m₂ → g₀.UpToSlots h' → wpAny (model prog w) (A.mark (some (.ref e))) (execs (b₀ :: suite) (envX cn cs R a ccd [])) Q E' { s with heap := h', toks := tk' })
 (hk : cs.kind = .function := by rfl) (hx : (envOf cn cs R a ccd).kindOf y = some .globalImplicit := by rfl) (hd : (y == ("__debug__" : Str)) = false := by decide) :
 wpG (model prog w) A (exec (.Try body (.ExceptHandler (some (.Name y np)) none (b₀ :: suite) hp :: rest) [] [] pos) (envX cn cs R a ccd [])) Q E s := by
 rw [arm_exec_Try]
 refine g_bind (wg (wpAny_standAt ?_))
 unfold tryStmt
 refine g_bind (g_attempt (g_mono hb (fun _ _ h => h.elim) fun v s' z => ?_))
 obtain ⟨h', tk', rfl, e, t, vs, m₂, h₂, rfl, F, hU, ⟨⟨B', hB, -, hfl, hnt⟩, htup⟩⟩ := z
 obtain ⟨pp, lo, mg, mb, T⟩ := BB.T
 have F0 := hsub _ _ F
 refine (wg (wpAny_bind (wpAny_looks_onW hfr rfl hfl fun h₄ hheld₄ hsm₄ => ?_)))
 refine wpAny_bind (wpAny_landsW hheld₄ fun h₅ hheld hsm₅' => ?_)
 have hsm₅ := hsm₄.trans hsm₅'
 have hheld' := flyingW_base hB hheld
 have F₅ := F0.of_stays hheld'.1 (hU.trans hsm₅)
 obtain ⟨ob, hob, hobc⟩ := hheld'.there
 refine wpAny_handleBy_cons (codeAny_handlers_test (name_K F₅ BB.X T ex ?_ hk hx hd)) (by intro q; cases q)
 obtain ⟨bm, N', nm, qn, bs, hdct, sn, sub, ab, col, dd, k0, k1, k2, k3, k5, mN, hC, hN, hni, TL⟩ := ((own_of_in BB.X T ex q).keeps F₅.keep).obj
 refine wpAny_excMatches_sub_self hC hob hobc (TL.hasType (by decide)) (codeAny_handlers_suite ?_)
 refine lands_againW hheld fun h₆ hfl₆ hsm₆ => ?_
 have hfl₆' := flyingW_base hB hfl₆
 have F₆ := F0.of_stays hfl₆'.1 ((hU.trans hsm₅).trans hsm₆)
 exact k e h₆ _ _ _ F₆ ((Heap.UpToSlots.of_keeps F.keep).trans ((hU.trans hsm₅).trans hsm₆))
theorem ll_base (B : Bs K g) (ll : LL A L) (W : Wf g L s.heap m N) : ∃ outer, Below A (hideAll s.heap [L]) outer s.heap ∧ Bs K (hideAll s.heap [L]) ∧ ∀ R h m₂, s.heap.objs.size ≤ R → Fr s.heap R h m₂ → Fr (hideAll s.heap [L]) R h m₂ := by
 obtain ⟨le, h1, h2, h3⟩ := ll
 obtain ⟨oL, es, ep, hL, hLd, r⟩ := W.fr.ns
 refine ⟨[le], ⟨h1, fun b o e => of_hideAll _ e, h2, ⟨L, oL, h3, hideAll_none _ (.head _), hL, fun vs q => by rw [hLd] at q; cases q⟩, trivial⟩, B.keeps fun b o e => hideAll_get _ (W.fr.keep b o e) fun q => ?_, fun R h m₂ hR F => ⟨F.ns, fun b o e => F.keep b o (of_hideAll _ e), by rw [hideAll_size]; exact hR⟩⟩
 obtain rfl := List.mem_singleton.mp q
 exact absurd (Heap.lt_size e) (Nat.not_lt.mpr W.fr.above)
theorem ll_back {h' : Heap} (W : Wf g L s.heap m N) (st : (hideAll s.heap [L]).StaysIn h') (hu : s.heap.UpToSlots h') : Wf g L h' m N := by
 have keep : ∀ b o, b ≠ L → s.heap.get? b = some o → h'.get? b = some o := fun b o hb e => st b o (hideAll_get _ e fun q => hb (List.mem_singleton.mp q))
 refine ⟨⟨hu.ns W.fr.ns, fun b o e => keep b o (fun q => ?_) (W.fr.keep b o e), W.fr.above⟩, fun p hp => ⟨keep _ _ (W.nw p hp).2.1 (W.nw p hp).1, (W.nw p hp).2⟩, W.nd⟩
 subst q
 exact absurd (Heap.lt_size e) (Nat.not_lt.mpr W.fr.above)
theorem gz_sec {oe : Expr} {p : Pos} (ho : EvP (model PR w) A g L m N (eval oe env) (IsV (.ref x))) (h : Gz (model PR w) A g L m N (getAttr (.ref x) "secret" true) Z)
 (he : eval (.Attribute oe "secret" p) env = (do
  let o ← eval oe env
  standAt p.atName
  let r ← holding [o] (getAttr o "secret" true)
  letTemporaryGo oe o r
  pure r) := by rfl) : Gz (model PR w) A g L m N (eval (.Attribute oe "secret" p) env) Z := by
 rw [he]
 refine gz_then (P := fun v N' => v = .ref x ∧ N' = N) ho.gv fun ov N1 e => ?_
 obtain ⟨rfl, rfl⟩ := e
 exact gz_at (gz_bind (gz_holding h))
theorem s_refused {v u : Value} {kd : Nat} (B : Bs (KF w.params) g) (r : Rm A 12) (ll : LL A L) (H : HdO w.params (Ob g N) x k) (hv : IsI (i : Int) v) (hu : IsI (kd : Int) u)
 (h : (kd ≤ 1 ∧ (4294967295 < i ∨ (2147483648 ≤ i ∧ k.pr = false))) ∨ (kd = 2 ∧ k.pr = false)) : GcP (model PR w) A g L m N (.call (.ref 1542) ⟨[.ref x, v, u], []⟩) (IsT true) X := by
 obtain ⟨tv, rfl⟩ := hv
 obtain ⟨tu, rfl⟩ := hu
 intro s S W qq xx
 obtain ⟨outer, KB, BB, hsub⟩ := ll_base B ll W
 have B0 : Bs (KF w.params) s.heap := B.keeps W.fr.keep
 have HF := HdO.flat W H
 refine cg_call_def (fd := fnX nx66 nx66 (fp1 60) (fb1 60) (fs1 60) [] .none .none .none (.str n_law_be0012_01 2376) none (.ref 1541) .none) (body := fb1 60) (binds := [("key", .ref x), ("index", .int (i : Int) tv), ("kind", .int (kd : Int) tu)]) r.room (B0.X _ _ rfl) rfl B0.nolimit (codeRec_of B0.X (by kernel_rfl)) rfl (BindsTo.of_eq rfl) (by decide) (locs (by rfl)) (fun h₁ hns hk₁ => ?_)
 have W₁ : Wf s.heap s.heap.objs.size h₁ [("kind", .int (kd : Int) tu), ("index", .int (i : Int) tv), ("key", .ref x)] [] := ⟨⟨hns, hk₁, Nat.le_refl _⟩, fun p hp => absurd hp (List.not_mem_nil), List.nodup_nil⟩
 have r1 : Rm (A.deeper (envX nx66 (fs1 60) s.heap.objs.size 1542 (.ref 1541) [])) 11 := r.deep
 have KB' : ∀ h₂ m₂, Fr s.heap s.heap.objs.size h₂ m₂ → Below (A.deeper (envX nx66 (fs1 60) s.heap.objs.size 1542 (.ref 1541) [])) (hideAll s.heap [L]) (envX nx66 (fs1 60) s.heap.objs.size 1542 (.ref 1541) [] :: outer) h₂ := fun h₂ m₂ F => KB.push F rfl
 show wpG _ _ (execs (.Try _ [.ExceptHandler (some (.Name _ _)) none (.Return (some _) _ :: []) _] [] [] _ :: _) (envX nx66 (fs1 60) s.heap.objs.size 1542 (.ref 1541) [])) _ _ _
 rw [execs_cons]
 refine g_bind (g_tryX (g₀ := s.heap) (base := hideAll s.heap [L]) (outer := outer) (C := 1296) BB (Around.frames_deeper KB.stack) (fun h m F => hsub _ _ _ (Nat.le_refl _) F) (gl_HDError _) (ex_HDError _) ?_ fun e h' tk' m₂ E' F hu => ?_)
 · have body : Gz (model PR w) (A.deeper (envX nx66 (fs1 60) s.heap.objs.size 1542 (.ref 1541) [])) s.heap s.heap.objs.size [("kind", .int (kd : Int) tu), ("index", .int (i : Int) tv), ("key", .ref x)] [] (execs (match fb1 60 with | .Try b _ _ _ _ :: _ => b | _ => []) (envX nx66 (fs1 60) s.heap.objs.size 1542 (.ref 1541) [])) (EZ (hideAll s.heap [L]) (envX nx66 (fs1 60) s.heap.objs.size 1542 (.ref 1541) [] :: outer) 1296 s.heap s.heap.objs.size) := by
    by_cases h0 : kd = 0
    · subst h0
      have h' : 4294967295 < i ∨ (2147483648 ≤ i ∧ k.pr = false) := h.elim (fun h => h.2) fun h => absurd h.1 (by decide)
      refine gz_ifT (tst_eq (tst_cmp1 (ev_localI rfl) ev_int fun x y h h' => co_eq h h') rfl) (gz_exprS (gz_m1 (P1 := fun v N' => IsI (i : Int) v ∧ N' = []) B0 (ev_local rfl) (HF.mth (fm_HDKey_child _) (fn_1447 _) (kp_1447 _)) (Ev.gv (ev_localI rfl)) fun v N' e => ?_))
      obtain ⟨hv, rfl⟩ := e
      exact gz_call fun s₂ W₂ => z_child (N' := []) (B0.keeps W₂.fr.keep) r1.le (KB' _ _ W₂.fr) (HF.flat W₂) hv h'
    by_cases h1 : kd = 1
    · subst h1
      have h' : 4294967295 < i ∨ (2147483648 ≤ i ∧ k.pr = false) := h.elim (fun h => h.2) fun h => absurd h.1 (by decide)
      refine gz_ifF (tst_eq (tst_cmp1 (ev_localI rfl) ev_int fun x y h h' => co_eq h h') rfl) (gz_ifT (tst_eq (tst_cmp1 (ev_localI rfl) ev_int fun x y h h' => co_eq h h') rfl) (gz_exprS (gz_m1 (P1 := fun v N' => ∃ D its, v = .ref D ∧ IntsAre its [(i : Int)] ∧ N' = (D, listOf its.toArray 0) :: []) B0 (ev_local rfl) (HF.mth (fm_HDKey_derive _) (fn_1454 _) (kp_1454 _)) (Ev.gv (ev_list (PA := fun vs N' => IntsAre vs [(i : Int)] ∧ N' = []) ?_ ?_)) fun v N' e => ?_)))
      · exact ai_cons (ev_localI rfl) ai_nil
      · refine i_c fun vs hi => ?_
        exact ev_mono (ev_newList (by rw [hi.length]; show 1 ≤ sizeLine; decide)) fun v N' ⟨D, h1, h2⟩ => ⟨D, vs, h1, hi, h2⟩
      · obtain ⟨D, its, rfl, hi, rfl⟩ := e
        exact gz_call fun s₂ W₂ => z_derive (B0.keeps W₂.fr.keep) r1.le (KB' _ _ W₂.fr) (HdO.flat W₂ (HF.mono fun a o e => .inr (e.elim (fun q => nomatch q) id))) (W₂.nw _ (.head _)).1 hi h'
    · obtain ⟨rfl, hpf⟩ : kd = 2 ∧ k.pr = false := h.elim (fun h => absurd h.1 (by omega)) id
      refine gz_ifF (tst_eq (tst_cmp1 (ev_localI rfl) ev_int fun x y h h' => co_eq h h') rfl) (gz_ifF (tst_eq (tst_cmp1 (ev_localI rfl) ev_int fun x y h h' => co_eq h h') rfl) (gz_exprS (gz_sec (ev_local rfl) (gz_secret B0 BB r1.le KB' HF hpf))))
   exact body _ _ _ W₁ fun v h' tk' z => ⟨h', tk', rfl, z⟩
 · show wpAny _ _ (execs (.Return (some _) _ :: []) _) _ _ _
   rw [execs_cons, exec_Return_some]
   refine wpAny_bind (wpAny_bind (wpAny_standAt (wpAny_bind (wpAny_Constant_bool (wpAny_pure (wpAny_pure ?_))))))
   exact g_pure (qq _ _ _ _ ⟨rfl, rfl⟩ (ll_back W F.keep hu))
end
section
variable {w : World} {M : Model} {A : Around} {prog : Program} {E : Value → Shared → Prop} {s : Shared} {g base : Heap} {L R C a x : Addr} {m : Loc} {N : Led} {K : Frag} {env : Env} {Z : Value → Heap → Prop} {outer : List Env} {k : HD} {i : Nat} {X : Value → Led → Prop} {XS : Value → Loc → Led → Prop}
theorem frames_made {C : Addr} {pos : List Value} {kw : List (Str × Value)} : (A.under (.builtin "type.__call__" ⟨.ref C :: pos, kw⟩)).frames = A.frames := by
 have hf : (Code.builtin "type.__call__" ⟨.ref C :: pos, kw⟩).isFrame = false := by
  kernel_rfl
 obtain ⟨d, h, fr, gu, u⟩ := A
 cases fr <;> kernel_rfl
theorem cz_make {pos : List Value} {kw : List (Str × Value)} {fI C' : Addr} (B : Bs K s.heap) (KB : Below A base outer s.heap) (hm : makesIn K C = true) (hi : findIn K (.ref C) "__init__" = some (some (.ref fI))) (hf : isFn K (.ref fI) = true)
 (h : ∀ x s₁, Bs K s₁.heap → Below (A.under (.builtin "type.__call__" ⟨.ref C :: pos, kw⟩)) base outer s₁.heap → Cz (model prog w) (A.under (.builtin "type.__call__" ⟨.ref C :: pos, kw⟩)) base outer C' (.call (.ref fI) ⟨.ref x :: pos, kw⟩) s₁) :
 Cz (model prog w) A base outer C' (.call (.ref C) ⟨pos, kw⟩) s := fun S hS => by
 have XX := B.X
 have Y := makes_of (M := model prog w) XX hm
 have iL := looks_findIn (M := model prog w) XX hi
 obtain ⟨hh, gg, d, t, os⟩ := s
 have Y' := Y
 obtain ⟨⟨oc, od, cd, sl, hC, e1, e2, e4⟩, made, bs, self, top, call, typ⟩ := Y
 have k : ∀ b o, hh.get? b = some o → ((hh.push emptyDict).push (instObj C hh.objs.size)).get? b = some o := fun b o e => Heap.get?_push_of_some _ (Heap.get?_push_of_some _ e)
 have hx : ((hh.push emptyDict).push (instObj C hh.objs.size)).get? (hh.objs.size + 1) = some (instObj C hh.objs.size) := by heap_get
 have t1 : Looks (model prog w) ((hh.push emptyDict).push (instObj C hh.objs.size)) (typeOf (.ref (hh.objs.size + 1))) (.ref C) := (Looks.ld hx).andThen .now
 refine cg_typeCall (fI := fI) (Q₁ := fun obj s₁ => obj = .ref (hh.objs.size + 1) ∧ s₁ = ⟨(hh.push emptyDict).push (instObj C hh.objs.size), gg, d, t, os⟩) hC e4 call typ ?_ ?_
 · refine (wg (made.here ?_))
   exact (wg (wpAny_call (codeAny_mono (new_K (R := fun r s₁ => r = .ok (.ret (.ref (hh.objs.size + 1))) ∧ s₁ = ⟨(hh.push emptyDict).push (instObj C hh.objs.size), gg, d, t, os⟩) Y' iL (.inl rfl) ⟨rfl, rfl⟩) fun r s' e => by obtain ⟨rfl, rfl⟩ := e; exact ⟨rfl, rfl⟩)))
 · refine i_b ?_
   refine ⟨hh.objs.size + 1, rfl, t1, self.keeps k, iL.keeps k, (bind_fn XX (.ref (hh.objs.size + 1)) (beq_iff_eq.mp hf)).keeps k, ?_⟩
   refine h (hh.objs.size + 1) ⟨(hh.push emptyDict).push (instObj C hh.objs.size), gg, d, t, os⟩ (B.keeps k) ⟨frames_made.trans KB.stack, fun b o e => k _ _ (KB.stays b o e), KB.frames.of_keeps fun b o e _ => ⟨o, k b o e, rfl⟩⟩ _ fun e t vs h' tk' hr hu => ?_
   exact hS e t vs h' tk' hr ((Heap.UpToSlots.of_keeps k).trans hu)
theorem gz_c1 {fe e1 : Expr} {p : Pos} {f : Value} {P1 : Value → Prop} (B : Bs K g) (hf : EvP M A g L m N (eval fe env) (IsV f)) (hk : Kp K f) (h1 : EvP M A g L m N (eval e1 env) P1) (hc : ∀ v, P1 v → Gz M A g L m N (call f [v] []) Z)
 (he : eval (.Call fe [e1] [] p) env = (do callWith p (← eval fe env) [] (backTo p (starEach [e1] env)) (backToKw p (keywordEach [] env))) := by rfl)
 (he1 : starEach [e1] env = (false, eval e1 env) :: starEach [] env := by rfl) (hplain : (backTo p (starEach [e1] env)).any (·.1) = false := by rfl) : Gz M A g L m N (eval (.Call fe [e1] [] p) env) Z := by
 rw [he]
 refine gz_then (P := fun v N' => v = f ∧ N' = N) hf.gv fun ov N1 e => ?_
 obtain ⟨rfl, rfl⟩ := e
 exact gz_callWith (PA := fun vs N' => ∃ v, vs = [v] ∧ P1 v ∧ N' = N1) (PK := fun vs ks N' => ∃ v, vs = [v] ∧ ks = [] ∧ P1 v ∧ N' = N1) B hk (gr_cons h1.gv (fun v N' e => gr_nil ⟨v, rfl, e⟩) he1) (fun vs N' e => gk_nil (by obtain ⟨v, e, h⟩ := e; exact ⟨v, e, rfl, h⟩)) (fun vs ks N' e => by obtain ⟨v, rfl, rfl, h, rfl⟩ := e; exact hc v h) (by rfl) hplain (by rfl)
theorem z_pknew {v : Value} {b : List UInt8} (B : Bs (KF w.params) s.heap) (r : Rm A 4) (KB : Below A base outer s.heap) (hv : IsB b v) (hl : b.length = 32) (h0 : num b = 0) : Cz (model PR w) A base outer 980 (.call (.ref 1284) ⟨[v], []⟩) s := by
 obtain ⟨u, rfl⟩ := hv
 refine cz_make B KB (cm_PrivateKey _) (ci_PrivateKey _) (by kernel_rfl) fun x s₁ B₁ K₁ => ?_
 refine cz_def [("self", .ref x), ("secret", .bytes b.toArray u), ("compressed", .bool true), ("network", .ref 256)] B₁ (r.made (d' := 3)) K₁ rfl (by kernel_rfl) (fun s X => binds_K X rfl rfl rfl rfl rfl) (by rfl) ?_ (by decide)
 intro L' r _
 refine gz_split (n := 1) (J := fun m' N' => N' = [] ∧ ∃ t, lk m' "secret" = some (.bytes b.toArray t)) ?_ fun m' N' J => ?_
 · exact gs_if0 (tst_eq (tst_cmp1 (ev_Call1 B₁ (ev_builtin B₁ (no_len _) (by rfl)) kp_b (ev_localB rfl) fun v h => call_lenB h (by omega)) ev_int fun x y h h' => co_ne h h') (by rw [hl]; rfl)) (gs_nil ⟨rfl, rfl, _, rfl⟩)
 · obtain ⟨rfl, t, l1⟩ := J
   exact gz_ifT (tst_eq (tst_not (tst_plain (p := IsT false) (evT_eq (ev_g1 B₁ (ev_global B₁ (gl_ec_seckey_verify _)) (kp_ec_seckey_verify _) (ev_localB l1) fun v h => s_verify B₁ r (by omega) h) (by rw [h0]; rfl)) fun v h => by obtain rfl : v = .bool false := h; exact tru_bool)) rfl) (gz_raise B₁ (gl_ECError _) (ex_ECError _) r.h)
theorem bindsCh {hb : Bool} {i0 : Int} {t : Tok} {vs : List Value} (hv : ChA i vs) : ∃ (i0 : Int) (hb : Bool) (t : Tok), ((hb = false ∧ i0 = i) ∨ (hb = true ∧ i0 = (i : Int) - 2147483648 ∧ 2147483648 ≤ i)) ∧ ∀ s : Shared, (KF w.params).In s.heap → BindsTo s (fnX n_child nx215 (fp2 53 16) (fb2 53 16) (fs2 53 16) [] (.ref 1440) .none .none (.str nx202 2030) none (.ref 1446) .none) ⟨.ref x :: vs, []⟩ [("self", .ref x), ("index", .int i0 t), ("hardened", .bool hb)] := by
 rcases hv with ⟨t, rfl⟩ | ⟨h, t, rfl⟩
 · exact ⟨i, false, t, .inl ⟨rfl, rfl⟩, fun s X => binds_K X rfl rfl rfl rfl rfl⟩
 · exact ⟨(i : Int) - 2147483648, true, t, .inr ⟨rfl, rfl, h⟩, fun s X => binds_K X rfl rfl rfl rfl rfl⟩
theorem z_child0 {vs : List Value} (B : Bs (KF w.params) s.heap) (r : Rm A 9) (KB : Below A base outer s.heap) (H : HdO w.params (Ob s.heap []) x k) (ok : k.Gd) (hv : ChA i vs) (hi : i < 4294967296) (hp : k.pr = true) (hz : k.cnum i = 0) :
 Cz (model PR w) A base outer 980 (.call (.ref 1447) ⟨.ref x :: vs, []⟩) s := by
 obtain ⟨i0, hb, t, h0, hbind⟩ := bindsCh (w := w) (x := x) (hb := true) (i0 := 0) (t := 0) hv
 refine cz_def _ B r KB rfl (by kernel_rfl) hbind (by rfl) ?_ (by decide)
 intro L' r KB'
 have H' : ∀ N', HdO w.params (Ob s.heap N') x k := fun N' => H.mono fun a o e => .inr (e.elim (fun q => nomatch q) id)
 have kl := ok.1.kl
 have hcl := k.cnum_lt i
 have hrl := k.raw_len i
 refine gz_split (n := 10) (child_pre B r.le H' ok.1 hi (fun _ => hp) h0) fun m' N' J => ?_
 obtain ⟨rfl, l1, ⟨ti, l2⟩, ⟨tf, l3⟩, ⟨ts, l4⟩, ⟨tc, l5⟩⟩ := J
 refine gz_ifT (tst_eq (tst_T (ev_hpriv B r.le (ev_local l1) (H' _))) hp) ?_
 refine gz_split (n := 1) (J := fun m' N' => N' = [] ∧ ∃ t, lk m' "secret" = some (.bytes (be 32 (k.cnum i)).toArray t)) ?_ fun m' N' J => ?_
 · refine gs_assign (P := fun v N' => IsB (be 32 (k.cnum i)) v ∧ N' = []) (gvB_eq (gv_c2 (P := fun v N' => IsB (be 32 ((num ((k.raw i).take 32) + num k.kb) % gP)) v ∧ N' = []) B (ev_global B (gl_ec_privkey_add _)) (kp_ec_privkey_add _) (Ev.gv (ev_localB l4)) (gv_kser B r.le (ev_hkey B (ev_local l1) (H' [])) kl ok.1.k1) fun v u h1 h2 => ?_) (by rw [k.cnum_t hp])) ?_
   · rw [hp, serK_t] at h2
     exact gv_of_gc (Cd.gc (s_privadd B r.le (by simp; omega) (by omega) h1 h2))
   refine i_a fun t => ?_
   exact gs_nil ⟨rfl, rfl, _, rfl⟩
 · obtain ⟨rfl, t, l6⟩ := J
   exact gz_assign (gz_mono (gz_c1 B (ev_global B (gl_PrivateKey _)) (kp_PrivateKey _) (ev_localB l6) fun v h => gz_call fun s₂ W₂ => z_pknew (B.keeps W₂.fr.keep) r.le (KB' _ _ W₂.fr) h (be_length _ _) (by rw [num_be32 hcl]; exact hz)) fun v h' z => .inr (.inl z))
theorem gs_try {body rest : List Stmt} {h₀ : ExceptHandler} {hs : List ExceptHandler} {p : Pos} {R : Flow → Loc → Led → Prop} (h : Gs (model prog w) A g L m N (execs body env) (Ny (model prog w) A g L env rest R XS) nxs) : Gs (model prog w) A g L m N (execs (.Try body (h₀ :: hs) [] [] p :: rest) env) R XS :=
 gs_cons fun s Q E W q xx => by
  rw [arm_exec_Try]
  refine g_bind (wg (wpAny_standAt ?_))
  unfold tryStmt
  refine g_bind (g_attempt (h s _ _ W (fun fl h' tk' m' N' e W' => ?_) fun _ _ _ _ _ e _ => e.elim))
  cases fl with
  | next => exact (wg (wpAny_execs_nil (q .next h' tk' m' N' e W')))
  | _ => exact (wg (wpAny_pure (q _ h' tk' m' N' e W')))
theorem gv_m2 {o e1 e2 : Expr} {name : Str} {apos p : Pos} {pl : Sem Bool} {f : Addr} {P1 P2 : Value → Prop} {P : Value → Led → Prop} (B : Bs K g) (ho : EvP (model prog w) A g L m N (eval o env) (IsV (.ref x))) (hm : Mth K g N name x f)
 (h1 : EvP (model prog w) A g L m N (eval e1 env) P1) (h2 : EvP (model prog w) A g L m N (eval e2 env) P2) (hc : ∀ v u, P1 v → P2 u → Gc (model prog w) A g L m N (.call (.ref f) ⟨[.ref x, v, u], []⟩) P X)
 (he : eval (.Call (.Attribute o name apos) [e1, e2] [] p) env = (do
  let ov ← eval o env
  standAt apos.atName
  let (f, first) ← holding [ov] (getMethod ov name pl)
  callWith p f first (backTo p (starEach [e1, e2] env)) (backToKw p (keywordEach [] env))) := by rfl)
 (he1 : starEach [e1, e2] env = (false, eval e1 env) :: starEach [e2] env := by rfl) (he2 : starEach [e2] env = (false, eval e2 env) :: starEach [] env := by rfl) (hplain : (backTo p (starEach [e1, e2] env)).any (·.1) = false := by rfl) : Gv (model prog w) A g L m N (eval (.Call (.Attribute o name apos) [e1, e2] [] p) env) P X := by
 refine gv_MCall (Po := fun v N' => v = .ref x ∧ N' = N) (PM := fun ov fx N2 => fx = (.ref f, [.ref x]) ∧ N2 = N) ho.gv ?_ ?_ he
 · refine i_b ?_
   exact (hm.gm B).gv
 · rintro ov f' first N2 ⟨e, rfl⟩
   obtain ⟨rfl, rfl⟩ := Prod.mk.inj e
   exact gv_callWith (PA := fun vs N' => (∃ v u, vs = [v, u] ∧ P1 v ∧ P2 u) ∧ N' = N2) (PK := fun vs ks N' => (∃ v u, vs = [v, u] ∧ P1 v ∧ P2 u ∧ ks = []) ∧ N' = N2) B hm.kp (by
    refine gr_cons h1.gv (fun v N' e => ?_) he1
    obtain ⟨e, rfl⟩ := e
    refine gr_cons h2.gv (fun u N3 e' => ?_) he2
    obtain ⟨e', rfl⟩ := e'
    exact gr_nil ⟨⟨v, u, rfl, e, e'⟩, rfl⟩)
    (fun vs N' e => by obtain ⟨⟨v, u, rfl, e1, e2⟩, rfl⟩ := e; exact gk_nil ⟨⟨v, u, rfl, e1, e2, rfl⟩, rfl⟩) (fun vs ks N' e => by obtain ⟨⟨v, u, rfl, e1, e2, rfl⟩, rfl⟩ := e; exact gv_of_gc (hc v u e1 e2)) (by rfl) hplain (by rfl)
end
section
variable {w : World} {A : Around} {prog : Program} {s : Shared} {g base : Heap} {L R C x : Addr} {m : Loc} {N : Led} {env : Env} {l outer : List Env} {k : HD} {i : Nat} {X : Value → Led → Prop}
theorem ev_sub31 {l r : Expr} {p : Pos} (hge : 2147483648 ≤ i) (h1 : EvP (model prog w) A g L m N (eval l env) (IsI (i : Int))) (h2 : EvP (model prog w) A g L m N (eval r env) (IsI 2147483648)) : EvP (model prog w) A g L m N (eval (.BinOp l .Sub r p) env) (IsI ((i : Int) - 2147483648)) := by
 have := ev_subN (p := p) (x := i) (y := 2147483648) h1 h2 rfl hge
 rwa [show ((i - 2147483648 : Nat) : Int) = (i : Int) - 2147483648 by omega] at this
theorem s_lchild {v u : Value} {fb : Bool} (B : Bs (KF w.params) g) (r : Rm A 12) (h : HdO w.params (Ob g N) x k) (ok : k.Gd) (hv : IsI (i : Int) v) (hu : IsT fb u) (hfb : fb = true → 2147483648 ≤ i) (hi : i < 4294967296) (hp : 2147483648 ≤ i → k.pr = true) (hz : 0 < k.cnum i) (hd : k.dep + 1 < 256) :
 Gc (model PR w) A g L m N (.call (.ref 1556) ⟨[.ref x, v, u], []⟩) (fun v N' => ∃ y, v = .ref y ∧ HdE w.params (k.child i) y N N') X := by
 obtain ⟨t, rfl⟩ := hv
 obtain rfl : u = .bool fb := hu
 refine gc_mono (gc_call (C := []) (R := N) (P := fun v C' => ∃ y, v = .ref y ∧ HdE w.params (k.child i) y [] C') [("parent", .ref x), ("index", .int (i : Int) t), ("flag", .bool fb)] B r rfl (by kernel_rfl) (fun s X => BindsTo.of_eq rfl) (by rfl) ?_ (by decide)) ?_
 · intro h₀ L' A' r st sr B
   have H := fun N' => h.up ⟨st, sr⟩ N'
   refine gs_try (gs_return (P := fun v C' => ∃ y, v = .ref y ∧ HdE w.params (k.child i) y [] C') (gv_ifexp (P1 := fun c N' => c = fb ∧ N' = []) (tst_T (ev_local rfl)).gv fun c N' e => ?_) fun v N' h => h)
   obtain ⟨rfl, rfl⟩ := e
   cases c with
   | false =>
    refine gv_m1 (Po := fun v N' => v = .ref x ∧ N' = []) B (ev_local rfl).gv fun ov N1 e => ?_
    obtain ⟨rfl, rfl⟩ := e
    refine ⟨x, 1447, fun v N' => IsI (i : Int) v ∧ N' = [], rfl, (H _).mth (fm_HDKey_child _) (fn_1447 _) (kp_1447 _), Ev.gv (ev_localI rfl), fun v N2 e => ?_⟩
    obtain ⟨⟨t', rfl⟩, rfl⟩ := e
    exact s_child B r.le (H _) ok (.inl ⟨t', rfl⟩) hi hp hz hd
   | true =>
    refine gv_m2 (P1 := IsI ((i : Int) - 2147483648)) (P2 := IsT true) B (ev_local rfl) ((H _).mth (fm_HDKey_child _) (fn_1447 _) (kp_1447 _)) (ev_sub31 (hfb rfl) (ev_localI rfl) ev_int) ev_bool fun v u h1 h2 => ?_
    obtain ⟨t', rfl⟩ := h1
    obtain rfl : u = .bool true := h2
    exact s_child B r.le (H _) ok (.inr ⟨hfb rfl, t', rfl⟩) hi hp hz hd
 · refine i_f (i_g ?_); rintro y C' hE
   exact ⟨y, rfl, hE.app⟩
theorem s_lchild0 {v u : Value} {fb : Bool} (B : Bs (KF w.params) g) (r : Rm A 12) (ll : LL A L) (H : HdO w.params (Ob g N) x k) (ok : k.Gd) (hv : IsI (i : Int) v) (hu : IsT fb u) (hfb : fb = true → 2147483648 ≤ i) (hi : i < 4294967296) (hp : k.pr = true) (hz : k.cnum i = 0) :
 GcP (model PR w) A g L m N (.call (.ref 1556) ⟨[.ref x, v, u], []⟩) (IsV .none) X := by
 obtain ⟨tv, rfl⟩ := hv
 obtain rfl : u = .bool fb := hu
 intro s S W qq xx
 obtain ⟨outer, KB, BB, hsub⟩ := ll_base B ll W
 have B0 : Bs (KF w.params) s.heap := B.keeps W.fr.keep
 have HF := HdO.flat W H
 refine cg_call_def (fd := fnX nx68 nx68 (fp1 62) (fb1 62) (fs1 62) [] .none .none .none (.str n_law_be0012_01 2376) none (.ref 1555) .none) (body := fb1 62) (binds := [("parent", .ref x), ("index", .int (i : Int) tv), ("flag", .bool fb)]) r.room (B0.X _ _ rfl) rfl B0.nolimit (codeRec_of B0.X (by kernel_rfl)) rfl (BindsTo.of_eq rfl) (by decide) (locs (by rfl)) (fun h₁ hns hk₁ => ?_)
 have W₁ : Wf s.heap s.heap.objs.size h₁ [("flag", .bool fb), ("index", .int (i : Int) tv), ("parent", .ref x)] [] := ⟨⟨hns, hk₁, Nat.le_refl _⟩, fun p hp => absurd hp (List.not_mem_nil), List.nodup_nil⟩
 have r1 : Rm (A.deeper (envX nx68 (fs1 62) s.heap.objs.size 1556 (.ref 1555) [])) 11 := r.deep
 have KB' : ∀ h₂ m₂, Fr s.heap s.heap.objs.size h₂ m₂ → Below (A.deeper (envX nx68 (fs1 62) s.heap.objs.size 1556 (.ref 1555) [])) (hideAll s.heap [L]) (envX nx68 (fs1 62) s.heap.objs.size 1556 (.ref 1555) [] :: outer) h₂ := fun h₂ m₂ F => KB.push F rfl
 show wpG _ _ (execs (.Try _ [.ExceptHandler (some (.Name _ _)) none (.Return (some _) _ :: []) _] [] [] _ :: _) (envX nx68 (fs1 62) s.heap.objs.size 1556 (.ref 1555) [])) _ _ _
 rw [execs_cons]
 refine g_bind (g_tryX (g₀ := s.heap) (base := hideAll s.heap [L]) (outer := outer) (C := 980) BB (Around.frames_deeper KB.stack) (fun h m F => hsub _ _ _ (Nat.le_refl _) F) (gl_ECError _) (ex_ECError _) ?_ fun e h' tk' m₂ E' F hu => ?_)
 · have body : Gz (model PR w) (A.deeper (envX nx68 (fs1 62) s.heap.objs.size 1556 (.ref 1555) [])) s.heap s.heap.objs.size [("flag", .bool fb), ("index", .int (i : Int) tv), ("parent", .ref x)] [] (execs (match fb1 62 with | .Try b _ _ _ _ :: _ => b | _ => []) (envX nx68 (fs1 62) s.heap.objs.size 1556 (.ref 1555) [])) (EZ (hideAll s.heap [L]) (envX nx68 (fs1 62) s.heap.objs.size 1556 (.ref 1555) [] :: outer) 980 s.heap s.heap.objs.size) := by
    refine gz_return (gz_ifexp (c := fb) (tst_T (ev_local rfl)) ?_)
    cases fb with
    | false =>
     refine gz_m1 (P1 := fun v N' => IsI (i : Int) v ∧ N' = []) B0 (ev_local rfl) (HF.mth (fm_HDKey_child _) (fn_1447 _) (kp_1447 _)) (Ev.gv (ev_localI rfl)) fun v N' e => ?_
     obtain ⟨⟨t', rfl⟩, rfl⟩ := e
     exact gz_call fun s₂ W₂ => z_child0 (B0.keeps W₂.fr.keep) r1.le (KB' _ _ W₂.fr) (HF.flat W₂) ok (.inl ⟨t', rfl⟩) hi hp hz
    | true =>
     refine gz_m2 (P1 := IsI ((i : Int) - 2147483648)) (P2 := IsT true) B0 (ev_local rfl) (HF.mth (fm_HDKey_child _) (fn_1447 _) (kp_1447 _)) (ev_sub31 (hfb rfl) (ev_localI rfl) ev_int) ev_bool fun v u h1 h2 => ?_
     obtain ⟨t', rfl⟩ := h1
     obtain rfl : u = .bool true := h2
     exact gz_call fun s₂ W₂ => z_child0 (B0.keeps W₂.fr.keep) r1.le (KB' _ _ W₂.fr) (HF.flat W₂) ok (.inr ⟨hfb rfl, t', rfl⟩) hi hp hz
   exact body _ _ _ W₁ fun v h' tk' z => ⟨h', tk', rfl, z⟩
 · show wpAny _ _ (execs (.Return (some _) _ :: []) _) _ _ _
   rw [execs_cons, exec_Return_some]
   refine wpAny_bind (wpAny_bind (wpAny_standAt (wpAny_bind (wpAny_Constant_none (wpAny_pure (wpAny_pure ?_))))))
   exact g_pure (qq _ _ _ _ ⟨rfl, rfl⟩ (ll_back W F.keep hu))
end
noncomputable def jn : List (List Nat) → List Nat
 | [] => []
 | [x] => x
 | x :: r => x ++ 47 :: jn r
theorem cut_uniq : ∀ {x y a b : List Nat}, 47 ∉ x → 47 ∉ y → x ++ 47 :: a = y ++ 47 :: b → x = y ∧ a = b
 | [], [], a, b, _, _, h => ⟨rfl, (List.cons.inj h).2⟩
 | [], c :: y, a, b, _, hy, h => absurd (List.mem_cons.mpr (.inl (List.cons.inj h).1)) hy
 | c :: x, [], a, b, hx, _, h => absurd (List.mem_cons.mpr (.inl (List.cons.inj h).1.symm)) hx
 | c :: x, d :: y, a, b, hx, hy, h => by
  have h1 := (List.cons.inj h).1
  have h2 := (List.cons.inj h).2
  obtain ⟨e1, e2⟩ := cut_uniq (x := x) (y := y) (fun q => hx (List.mem_cons_of_mem _ q)) (fun q => hy (List.mem_cons_of_mem _ q)) h2
  exact ⟨by rw [h1, e1], e2⟩
theorem jn_cons2 (x y : List Nat) (r : List (List Nat)) : jn (x :: y :: r) = x ++ 47 :: jn (y :: r) := rfl
theorem jn_uniq : ∀ {l k : List (List Nat)}, l ≠ [] → k ≠ [] → (∀ p ∈ l, 47 ∉ p) → (∀ p ∈ k, 47 ∉ p) → jn l = jn k → l = k
 | [], _, h, _, _, _, _ => absurd rfl h
 | _ :: _, [], _, h, _, _, _ => absurd rfl h
 | [x], [y], _, _, _, _, h => by rw [show x = y from h]
 | [x], y :: z :: r, _, _, hx, _, h => by
  have h' : x = y ++ 47 :: jn (z :: r) := h
  exact absurd (h' ▸ List.mem_append_right _ (.head _)) (hx x (.head _))
 | y :: z :: r, [x], _, _, _, hx, h => by
  have h' : y ++ 47 :: jn (z :: r) = x := h
  exact absurd (h' ▸ List.mem_append_right _ (.head _)) (hx x (.head _))
 | x :: a :: l, y :: b :: k, _, _, hl, hk, h => by
  rw [jn_cons2, jn_cons2] at h
  obtain ⟨e1, e2⟩ := cut_uniq (hl x (.head _)) (hk y (.head _)) h
  rw [e1, jn_uniq (l := a :: l) (k := b :: k) (List.cons_ne_nil _ _) (List.cons_ne_nil _ _) (fun p hp => hl p (.tail _ hp)) (fun p hp => hk p (.tail _ hp)) e2]
theorem join_jn : ∀ (l : List Str), (Str.join ⟨#[47]⟩ l).cps.toList = jn (l.map fun x => x.cps.toList)
 | [] => rfl
 | [x] => rfl
 | x :: y :: r => by
  show (x ++ ⟨#[47]⟩ ++ Str.join ⟨#[47]⟩ (y :: r)).cps.toList = _
  rw [Str.cps_append, Str.cps_append, Array.toList_append, Array.toList_append, join_jn (y :: r)]
  simp [jn_cons2]
theorem split_tx {l : List (List Nat)} (hne : l ≠ []) (hf : ∀ p ∈ l, 47 ∉ p) : Txt.split (tx (jn l)) ⟨#[47]⟩ = l.map tx := by
 have h1 := congrArg (fun x : Str => x.cps.toList) (StrLaws.join_split (tx (jn l)) ⟨#[47]⟩)
 have h2 := StrLaws.split_free (tx (jn l)) 47
 have h3 := split_pos (tx (jn l)) ⟨#[47]⟩
 generalize Txt.split (tx (jn l)) ⟨#[47]⟩ = ps at h1 h2 h3
 rw [join_jn, tx_cps] at h1
 have hne' : ps.map (fun x => x.cps.toList) ≠ [] := by
  intro e
  rw [List.map_eq_nil_iff] at e
  subst e
  simp at h3
 have := jn_uniq hne' hne (fun p hp => by
  obtain ⟨x, hx, rfl⟩ := List.mem_map.mp hp
  exact h2 x hx) hf h1
 rw [← this, List.map_map]
 exact (List.map_id'' (fun x => tx_list x) _).symm
theorem rstrip_tx {l : List Nat} {c d : Nat} (hc : c ≠ d) : Txt.rstripChars (tx (l ++ [c])) ⟨#[d]⟩ = tx (l ++ [c]) := by
 unfold Txt.rstripChars Txt.stripBy
 have hh : stripHi (#[d] : Array Nat).contains true (tx (l ++ [c])) 0 = (tx (l ++ [c])).length := by
  unfold stripHi
  rw [if_pos rfl, tx_cps, List.drop_zero, List.reverse_append, List.reverse_singleton, List.singleton_append, List.takeWhile_cons]
  simp [hc]
 have : stripSame (#[d] : Array Nat).contains false true (tx (l ++ [c])) = true := by
  unfold stripSame
  have h0 : stripLo (#[d] : Array Nat).contains false (tx (l ++ [c])) = 0 := rfl
  rw [h0, hh]
  simp
 rw [if_pos this]
noncomputable def dg (n : Nat) : List Nat := (Nat.toDigits 10 n).map Char.toNat
theorem str_dg (n : Nat) : Str.ofString (toString (n : Int)) = tx (dg n) := by
 rw [← tx_list (Str.ofString (toString (n : Int))), KIN.signs_num]; rfl
theorem dg_range {n c : Nat} (h : c ∈ dg n) : 48 ≤ c ∧ c ≤ 57 := by
 obtain ⟨ch, hch, e⟩ := List.mem_map.mp h
 have r := digit_range (Nat.isDigit_of_mem_toDigits (by decide) (by decide) hch)
 rw [← e]
 exact r
theorem dg_ne (n : Nat) : dg n ≠ [] := fun e => by
 have h := toDigits_len_ge 10 n
 rw [List.map_eq_nil_iff.mp e] at h
 exact absurd h (by decide)
theorem dg_free (n : Nat) : 47 ∉ dg n := fun h => absurd (dg_range h).1 (by decide)
theorem dg_len {n : Nat} (h : n < 10000000000) : (dg n).length ≤ 10 := by
 have := KT.len_num (n := (n : Int)) (by omega) (by omega)
 rwa [str_dg, tx_len] at this
theorem dg_reads {n : Nat} (h : n < 10000000000) : PySem.intText? (tx (dg n)) = some (n : Int) := by
 rw [← str_dg]
 exact KIN.num_reads (by omega) (by omega)
noncomputable def ptx (p : List Nat) : List Nat := p.flatMap fun n => 47 :: dg n
theorem ptx_cons (n : Nat) (p : List Nat) : ptx (n :: p) = 47 :: dg n ++ ptx p := rfl
theorem ptx_app (p q : List Nat) : ptx (p ++ q) = ptx p ++ ptx q := List.flatMap_append ..
theorem jn_path : ∀ (p : List Nat) (x y : List Nat), jn (x :: (p.map dg ++ [y])) = x ++ ptx p ++ 47 :: y
 | [], x, y => by simp [jn, ptx]
 | n :: r, x, y => by
  show x ++ 47 :: jn (dg n :: (r.map dg ++ [y])) = _
  rw [jn_path r, ptx_cons]
  simp
section
variable {w : World} {A : Around} {prog : Program} {E : Value → Shared → Prop} {s : Shared} {g : Heap} {L : Addr} {m : Loc} {N : Led}
theorem fmt_d {n : Nat} {u v : Value} (h1 : IsS (Str.ofString "/%d") u) (h2 : IsI (n : Int) v) (hn : n < 10000000000) : EvP (model prog w) A g L m N (binaryOp .Mod u v) (IsS (tx (47 :: dg n))) := by
 obtain ⟨t, rfl⟩ := h1
 obtain ⟨t', rfl⟩ := h2
 intro s Q E W q
 refine' KPc.mod_int ?kpcF ?kpcl ?kpch ?kpcm ?_
 case kpcF => kpc_eq
 case kpcl => omega
 case kpch => omega
 case kpcm => kpc_run
 intro t' k
 have e : Str.ofString "/" ++ Str.ofString (toString (n : Int)) = tx (47 :: dg n) := by
  rw [str_dg, show Str.ofString "/" = tx [47] by decide, tx_append]; rfl
 have := q (.str (Str.ofString "/" ++ Str.ofString (toString (n : Int))) t') s.heap k N ⟨⟨t', by rw [e]⟩, rfl⟩ W
 exact this
theorem fmt_dh {n : Nat} {u v : Value} (h1 : IsS (Str.ofString "/%dh") u) (h2 : IsI (n : Int) v) (hn : n < 10000000000) : EvP (model prog w) A g L m N (binaryOp .Mod u v) (IsS (tx (47 :: dg n ++ [104]))) := by
 obtain ⟨t, rfl⟩ := h1
 obtain ⟨t', rfl⟩ := h2
 intro s Q E W q
 refine' KPc.mod_int ?kpcF ?kpcl ?kpch ?kpcm ?_
 case kpcF => kpc_eq
 case kpcl => omega
 case kpch => omega
 case kpcm => kpc_run
 intro t' k
 have e : Str.ofString "/" ++ Str.ofString (toString (n : Int)) ++ Str.ofString "h" = tx (47 :: dg n ++ [104]) := by
  rw [str_dg, show Str.ofString "/" = tx [47] by decide, show Str.ofString "h" = tx [104] by decide, tx_append, tx_append]; rfl
 have := q (.str (Str.ofString "/" ++ Str.ofString (toString (n : Int)) ++ Str.ofString "h") t') s.heap k N ⟨⟨t', by rw [e]⟩, rfl⟩ W
 exact this
end
noncomputable def p2 (el : Nat) : List Nat := if 2147483648 ≤ el then 47 :: dg (el - 2147483648) ++ [104] else 47 :: dg el
theorem p2_hi {el : Nat} (h : 2147483648 ≤ el) : p2 el = 47 :: dg (el - 2147483648) ++ [104] := if_pos h
theorem p2_lo {el : Nat} (h : ¬ 2147483648 ≤ el) : p2 el = 47 :: dg el := if_neg h
theorem len_hi (x : Nat) (h : x < 10000000000) : (47 :: dg x ++ [104]).length ≤ 12 := by
 have := dg_len h
 rw [List.length_append, List.length_cons]
 show (dg x).length + 1 + 1 ≤ 12
 omega
theorem len_lo (x : Nat) (h : x < 10000000000) : (47 :: dg x).length ≤ 12 := by
 have := dg_len h
 rw [List.length_cons]
 omega
theorem p2_len {el : Nat} (h : el < 4294967296) : (p2 el).length ≤ 12 := by
 by_cases hh : 2147483648 ≤ el
 · rw [p2_hi hh]; exact len_hi _ (by omega)
 · rw [p2_lo hh]; exact len_lo _ (by omega)
theorem p2s_len : ∀ {p : List Nat}, (∀ i ∈ p, i < 4294967296) → (p.flatMap p2).length ≤ 12 * p.length
 | [], _ => Nat.le_refl _
 | x :: r, h => by
  have h1 := p2_len (h x (.head _))
  have h2 := p2s_len (p := r) fun i hi => h i (.tail _ hi)
  simp only [List.flatMap_cons, List.length_append, List.length_cons]
  omega
section
variable {w : World} {A : Around} {prog : Program} {s : Shared} {g : Heap} {L I c D : Addr} {m : Loc} {N : Led} {X : Value → Led → Prop} {its : List Value} {n : Nat} {p : List Nat}
theorem s_p2s (B : Bs (KF w.params) g) (r : Rm A 3) (hD : Ob g N D (listOf its.toArray n)) (hi : IntsAre its (p.map fun (i : Nat) => (i : Int))) (hb : ∀ i ∈ p, i < 4294967296) (hl : p.length ≤ 1000) :
 CdP (model PR w) A g L m N (.call (.ref 1521) ⟨[.ref D], []⟩) (IsS (tx (109 :: p.flatMap p2))) := by
 refine cd_pcall [("path", .ref D), ("fingerprint", .none)] B r rfl (by kernel_rfl) (fun s X => binds_K X rfl rfl rfl rfl rfl) (by rfl) ?_ (by decide)
 intro h₀ L' A' r st sr B
 have hD0 : h₀.get? D = some (listOf its.toArray n) := hD.elim (sr _) (st _ _)
 have hlen : its.length = p.length := by rw [hi.length, List.length_map]
 refine xs_assign (P := fun v N' => IsS (tx [109]) v ∧ N' = []) (ev_ifexp (c := true) (tst_cmp1 (ev_local rfl) ev_none fun x y h h' => co_is h h' rfl) (fun _ => evS_eq ev_str (by decide)) fun h => nomatch h) ?_
 refine i_a fun t0 => ?_
 refine xs_for (n := its.length) (P := fun i v => its[i]? = some v) (kp := []) (fun j m' N' => N' = [] ∧ ∃ t, lk m' "s" = some (.str (tx (109 :: (p.take j).flatMap p2)) t)) (ev_mono (ev_local rfl) fun v N' e => ?_) (fun _ _ _ _ q hq => nomatch hq) ?_ ?_
 · obtain ⟨rfl, rfl⟩ := e
   refine ⟨?_, rfl, t0, rfl⟩
   have := it_list (prog := PR) (w := w) (g := h₀) (L := L') (N := []) (r.le (d' := 0)) (.inr hD0)
   rwa [if_pos (by rw [hD0]; rfl)] at this
 · rintro j v m₁ N₁ I it hj hv ⟨rfl, t, l1⟩
   obtain ⟨z, tz, rfl, hz⟩ := hi.at j v hv
   obtain ⟨i, hpi, rfl⟩ : ∃ i : Nat, p[j]? = some i ∧ (i : Int) = z := by
    rw [List.getElem?_map] at hz
    exact Option.map_eq_some_iff.mp hz
   have hib := hb i (List.mem_of_getElem? hpi)
   have hjp : j < p.length := by omega
   have hln : (tx (109 :: (p.take j).flatMap p2)).length ≤ 12001 := by
    have := p2s_len (p := p.take j) fun i hi => hb i (List.mem_of_mem_take hi)
    rw [List.length_take] at this
    rw [tx_len, List.length_cons]
    omega
   have e : p.take (j + 1) = p.take j ++ [i] := by rw [List.take_succ, hpi]; rfl
   have key : ∀ {q : List Nat}, q = p2 i → tx (109 :: (p.take j).flatMap p2) ++ tx q = tx (109 :: (p.take (j + 1)).flatMap p2) := fun h => by
    rw [e, List.flatMap_append, tx_append, h]
    simp
   have hp2 := p2_len hib
   refine xs_if (c := decide (2147483648 ≤ i)) (tst_eq (tst_cmp1 (ev_localI rfl) (ev_globalI B (gl_HARDENED_INDEX _)) fun x y h h' => co_ge h h') (by simp only [decide_eq_decide]; omega)) (fun h => ?_) fun h => ?_
   · have hge := of_decide_eq_true h
     have hq : 47 :: dg (i - 2147483648) ++ [104] = p2 i := (p2_hi hge).symm
     refine xs_aug (pv := IsS (tx (47 :: dg (i - 2147483648) ++ [104]))) (P := fun v N' => IsS (tx (109 :: (p.take (j + 1)).flatMap p2)) v ∧ N' = [] ++ [(I, it)]) l1 (ev_BinOp ev_str (ev_subN (x := i) (y := 2147483648) (ev_localI rfl) (ev_globalI B (gl_HARDENED_INDEX _)) rfl hge) fun x y e1 e2 => fmt_dh e1 e2 (by omega)) (fun v hv => ?_) ?_
     · have := in_addS (x := tx (109 :: (p.take j).flatMap p2)) (prog := PR) (w := w) (A := A') (g := h₀) (L := L') (m := ("el", .int (i : Int) tz) :: m₁) (N := [] ++ [(I, it)]) ⟨t, rfl⟩ hv (by rw [hq, tx_len (p2 i), sizeLine_eq]; omega)
       rwa [key hq] at this
     · refine i_a fun t' => ?_
       exact nx_nil (xs_nil ⟨[], rfl, rfl, t', rfl⟩)
   · have hlt := of_decide_eq_false h
     have hq : 47 :: dg i = p2 i := (p2_lo hlt).symm
     refine xs_aug (pv := IsS (tx (47 :: dg i))) (P := fun v N' => IsS (tx (109 :: (p.take (j + 1)).flatMap p2)) v ∧ N' = [] ++ [(I, it)]) l1 (ev_BinOp ev_str (ev_localI rfl) fun x y e1 e2 => fmt_d e1 e2 (by omega)) (fun v hv => ?_) ?_
     · have := in_addS (x := tx (109 :: (p.take j).flatMap p2)) (prog := PR) (w := w) (A := A') (g := h₀) (L := L') (m := ("el", .int (i : Int) tz) :: m₁) (N := [] ++ [(I, it)]) ⟨t, rfl⟩ hv (by rw [hq, tx_len (p2 i), sizeLine_eq]; omega)
       rwa [key hq] at this
     · refine i_a fun t' => ?_
       exact nx_nil (xs_nil ⟨[], rfl, rfl, t', rfl⟩)
 · rintro m₁ N₁ ⟨rfl, t, l1⟩
   rw [List.take_of_length_le (by omega)] at l1
   exact xs_return (ev_localS l1) fun v N' h => h.1
end
section
variable {w : World} {A : Around} {prog : Program} {E : Value → Shared → Prop} {s : Shared} {g : Heap} {L a c D : Addr} {m : Loc} {N : Led} {K : Frag} {env : Env} {X : Value → Led → Prop} {n : Nat} {p : List Nat}
theorem tst_inMarks {l : Expr} {x a b c : Str} {k1 k2 k3 : Nat} {p1 p2 p3 sp p : Pos} (B : Bs K g) (hc : kdsCode K env.code = true) (h : EvP (model prog w) A g L m N (eval l env) (IsS x)) (hab : a ≠ b) (hac : a ≠ c) (hbc : b ≠ c) :
 Tst (model prog w) A g L m N (.Compare l [.In] [.Set [.Constant (.str a) k1 p1, .Constant (.str b) k2 p2, .Constant (.str c) k3 p3] 0 sp] p) env (decide (x = a) || decide (x = b) || decide (x = c)) := by
 intro s Q E W q
 refine kdi_test rfl (h s _ E W fun v h1 tk1 N1 e1 W1 => ?_)
 obtain ⟨⟨t, rfl⟩, rfl⟩ := e1
 refine kds_eval (Q := fun b s₂ => KdiMark (model prog w) A E b (fun s₃ => wpAny (model prog w) A (compareOp .In (.str x t) b) (fun c s₄ => wpAny (model prog w) A (truthy c) Q E s₄) E s₃) s₂) W1.fr W1.nw B.X hc (by rfl) (by rfl) (by show 3 ≤ 30; decide) fun D h2 led F2 N2 lt _ hs => ?_
 have hD : ∀ p ∈ N1, p.1 ≠ D := fun p hp => Nat.ne_of_lt (lt p hp)
 have U : ∀ o, UpdF D o ((D, o) :: N1) (fun o' => (D, o') :: N1) := fun o => .head hD
 show wpAny _ _ (eval (.Constant (.str a) k1 p1) env) _ _ _
 refine Constant_str ?_
 show wpAny _ _ (eval (.Constant (.str b) k2 p2) env) _ _ _
 refine Constant_str ?_
 show wpAny _ _ (eval (.Constant (.str c) k3 p3) env) _ _ _
 refine Constant_str ?_
 show KdsFill _ _ _ _ _ _ [_, _, _] _
 refine kds_fill_cons (kds_add_new F2 N2 (U _) hs (by decide) (strKind_is prog w a _) rfl rfl fun h3 o3 F3 N3 hs3 => ?_)
 refine kds_fill_cons (kds_add_new F3 N3 (U _) hs3 (by decide) (strKind_is prog w b _) rfl (by simp [hab.symm]) fun h4 o4 F4 N4 hs4 => ?_)
 refine kds_fill_cons (kds_add_new F4 N4 (U _) hs4 (by decide) (strKind_is prog w c _) rfl (by simp [hac.symm, hbc.symm]) fun h5 o5 F5 N5 hs5 => ?_)
 refine kds_fill_unled (by rfl) (kds_unled F5 N5 (U _) hs5 (by decide) fun h6 o6 F6 N6 hs6 => ?_)
 refine kdi_mark (kds_unled F6 N6 (U _) hs6 (by decide) fun h7 o7 F7 N7 hs7 => ?_)
 refine kse_in N7 (U _) hs7 (by decide) (strKind_is prog w x _) rfl ?_
 refine wpAny_truthy_bool ?_
 refine q _ h7 _ N1 ⟨?_, rfl⟩ ⟨F7, fun p hp => N7 p (.tail _ hp), W1.nd⟩
 simp [Bool.or_assoc]
theorem ev_ixM1 {v e : Expr} {p' : Pos} {l : List Nat} {c : Nat} (h : EvP (model prog w) A g L m N (eval v env) (IsS (tx (l ++ [c])))) (hi : EvP (model prog w) A g L m N (eval e env) (IsI (-1))) (hl : l.length < 1000000)
 (hs : ∀ x t i u, subscripted e false (.str x t) (.int i u) = operate [.str x t, .int i u] (getItem (.str x t) (.int i u)) := by intro _ _ _ _; with_unfolding_all rfl) :
 EvP (model prog w) A g L m N (eval (.Subscript v e p') env) (IsS (tx [c])) := fun s Q E W q =>
 Subscript_ (h s _ E W fun o h1 tk1 N1 e1 W1 => by
  obtain ⟨⟨t, rfl⟩, rfl⟩ := e1
  refine hi _ _ E W1 fun i h2 tk2 N2 e2 W2 => ?_
  obtain ⟨⟨u, rfl⟩, rfl⟩ := e2
  refine subscriptTail_builtin (typeIs_str _ _ _) F.slot_str_getitem.lookup ?_ (hs _ _ _ _) (by intro _; cases v <;> with_unfolding_all rfl)
  refine P.getItem_str (c := c) (by decide) ?_ (q _ h2 (tk2 + 1) N2 ⟨⟨_, rfl⟩, rfl⟩ W2)
  have hlen : (tx (l ++ [c])).length = l.length + 1 := by rw [tx_len, List.length_append]; rfl
  have : seqIndex? (-1 : Int) (tx (l ++ [c])).length = some l.length := by
   rw [hlen]
   unfold seqIndex?
   simp
   omega
  rw [this]
  show (tx (l ++ [c])).cps[l.length]? = some c
  rw [← Array.getElem?_toList, tx_cps]
  simp)
theorem call_intT {l : List Nat} {v : Value} {n : Int} (h : IsS (tx l) v) (hn : PySem.intText? (tx l) = some n) (hl : l.length ≤ 640) : EvP (model prog w) A g L m N (call (.type "int") [v]) (IsI n) := by
 obtain ⟨t, rfl⟩ := h
 exact fun s Q E W q => KIN.call_text hn (by rw [tx_len]; exact hl) (q _ s.heap _ N ⟨⟨_, rfl⟩, rfl⟩ W)
theorem s_pder1 {v : Value} {h mk : Nat} (B : Bs (KF w.params) g) (r : Rm A 2) (hv : IsS (tx (dg h ++ [mk])) v) (hm : mk = 104 ∨ mk = 72 ∨ mk = 39) (hh : h < 2147483648) : CdP (model PR w) A g L m N (.call (.ref 1508) ⟨[v], []⟩) (IsI ((h + 2147483648 : Nat) : Int)) := by
 obtain ⟨t, rfl⟩ := hv
 refine cd_pcall [("e", .str (tx (dg h ++ [mk])) t)] B r rfl (by kernel_rfl) (fun s X => BindsTo.of_eq rfl) (by rfl) ?_ (by decide)
 intro h₀ L' A' r st sr B
 have hl := dg_len (n := h) (by omega)
 refine xs_if (c := true) (tst_eq (tst_inMarks B (by kernel_rfl) (ev_ixM1 (ev_localS rfl) (ev_neg ev_int) (by omega)) (by decide) (by decide) (by decide)) ?_) (fun _ => ?_) fun h => nomatch h
 · rcases hm with rfl | rfl | rfl <;> decide
 refine xs_return (ev_addN (x := h) (y := 2147483648) (ev_Call1 B (ev_builtin B (no_int _) (by rfl)) kp_t (evS_eq (ev_slS (ev_localS rfl) pt_none (pt_int (ev_neg ev_int)) (by rw [tx_len, List.length_append, sizeLine_eq]; simp; omega)) ((slS_to1 _ (by simp)).trans (by rw [List.dropLast_concat]))) fun v h => call_intT h (dg_reads (by omega)) (by omega)) (ev_globalI B (gl_HARDENED_INDEX _)) rfl) fun v N' h => h.1
theorem s_pder2 {v : Value} {h : Nat} (B : Bs (KF w.params) g) (r : Rm A 2) (hv : IsS (tx (dg h)) v) (hh : h < 2147483648) : CdP (model PR w) A g L m N (.call (.ref 1508) ⟨[v], []⟩) (IsI (h : Int)) := by
 obtain ⟨t, rfl⟩ := hv
 refine cd_pcall [("e", .str (tx (dg h)) t)] B r rfl (by kernel_rfl) (fun s X => BindsTo.of_eq rfl) (by rfl) ?_ (by decide)
 intro h₀ L' A' r st sr B
 have hl := dg_len (n := h) (by omega)
 have hd : dg h = (dg h).dropLast ++ [(dg h).getLast (dg_ne h)] := (List.dropLast_concat_getLast (dg_ne h)).symm
 have hc := dg_range (List.getLast_mem (dg_ne h))
 have hlc : (dg h).dropLast.length < 1000000 := by rw [List.length_dropLast]; omega
 generalize (dg h).dropLast = l0 at hd hlc
 generalize (dg h).getLast (dg_ne h) = c0 at hd hc
 refine xs_if (c := false) (tst_eq (tst_inMarks B (by kernel_rfl) (ev_ixM1 (l := l0) (c := c0) (evS_eq (ev_localS rfl) (by rw [hd])) (ev_neg ev_int) hlc) (by decide) (by decide) (by decide)) ?_) (fun h => nomatch h) (fun _ => ?_)
 · have e : ∀ d : Nat, d ≠ c0 → ∀ z : Str, z = tx [d] → decide (tx [c0] = z) = false := fun d hd z hz => decide_eq_false fun q => by
    have := congrArg (fun x : Str => x.cps.toList) (q.trans hz)
    exact hd (List.cons.inj this).1.symm
   rw [e 104 (by omega) _ (by decide), e 72 (by omega) _ (by decide), e 39 (by omega) _ (by decide)]
   rfl
 exact xs_return (ev_Call1 B (ev_builtin B (no_int _) (by rfl)) kp_t (ev_localS rfl) fun v h => call_intT h (dg_reads (by omega)) (by omega)) fun v N' h => h.1
theorem pick1 (x : Value) (r : List Value) : slicePick (x :: r).toArray (some 1) none none = r.toArray := by
 rw [kms_pick_eq]
 unfold kms_pick kms_lo kms_hi
 simp
end
noncomputable def Piece (l : List Nat) (n : Nat) : Prop := (l = dg n ∧ n < 2147483648) ∨ ∃ h mk, l = dg h ++ [mk] ∧ (mk = 104 ∨ mk = 72 ∨ mk = 39) ∧ h < 2147483648 ∧ n = h + 2147483648
theorem Piece.free {l : List Nat} {n : Nat} (h : Piece l n) : 47 ∉ l := by
 rcases h with ⟨rfl, -⟩ | ⟨h, mk, rfl, hm, -⟩
 · exact dg_free n
 · intro q
   rcases List.mem_append.mp q with q | q
   · exact dg_free h q
   · have := List.mem_singleton.mp q
     omega
section
variable {w : World} {A : Around} {E : Value → Shared → Prop} {s : Shared} {g : Heap} {L C c D : Addr} {m : Loc} {N : Led} {X : Value → Led → Prop} {its : List Value} {n : Nat} {p : List Nat}
theorem strs_at : ∀ {vs : List Value} {ys : List Str}, StrsAre vs ys → ∀ (i : Nat) v, vs[i]? = some v → ∃ y, ys[i]? = some y ∧ IsS y v
 | _, _, .nil, i, v, h => by simp at h
 | _, _, .cons y t r, 0, v, h => ⟨y, rfl, t, by simpa using h.symm⟩
 | _, _, .cons y t r, i + 1, v, h => strs_at r i v (by simpa using h)
theorem ints_of : ∀ {ys : List Value} {ns : List Nat}, ys.length = ns.length → (∀ (j : Nat) y, ys[j]? = some y → ∃ n : Nat, ns[j]? = some n ∧ IsI (n : Int) y) → IntsAre ys (ns.map fun (i : Nat) => (i : Int))
 | [], [], _, _ => .nil
 | y :: ys, n :: ns, hl, h => by
  obtain ⟨n', e, t, rfl⟩ := h 0 y rfl
  obtain rfl : n = n' := Option.some.inj e
  exact .cons _ t (ints_of (by simpa using hl) fun j y hy => h (j + 1) y hy)
theorem s_ppath {v : Value} {ls : List (List Nat)} {ns : List Nat} {l0 : List Nat} {c0 : Nat} (B : Bs (KF w.params) g) (r : Rm A 3) (hv : IsS (tx (jn ([109] :: ls))) v) (hne : ls ≠ []) (hlen : ls.length = ns.length) (hP : ∀ (i : Nat) l, ls[i]? = some l → ∃ n, ns[i]? = some n ∧ Piece l n) (hlast : jn ([109] :: ls) = l0 ++ [c0]) (hc : c0 ≠ 47) (hz : (jn ([109] :: ls)).length ≤ 1000000) (hz2 : ls.length ≤ 1000) :
 Cd (model PR w) A g L m N (.call (.ref 1513) ⟨[v], []⟩) (fun v N' => ∃ (D : Addr) (its : List Value) (c : Nat), v = .ref D ∧ IntsAre its (ns.map fun (i : Nat) => (i : Int)) ∧ N' = (D, listOf its.toArray c) :: N) := by
 obtain ⟨t, rfl⟩ := hv
 refine cd_mono (cd_call (C := []) (R := N) (P := fun v C' => ∃ (D : Addr) (its : List Value) (c : Nat), v = .ref D ∧ IntsAre its (ns.map fun (i : Nat) => (i : Int)) ∧ C' = [(D, listOf its.toArray c)]) [("path", .str (tx (jn ([109] :: ls))) t)] B r rfl (by kernel_rfl) (fun s X => BindsTo.of_eq rfl) (by rfl) ?_ (by decide)) ?_
 · intro h₀ L' A' r st sr B
   have hsep : Str.ofString "/" = ⟨#[47]⟩ := by decide
   have hfree : ∀ p ∈ [109] :: ls, 47 ∉ p := fun p hp => by
    rcases List.mem_cons.mp hp with rfl | hp
    · decide
    · obtain ⟨i, hi⟩ := List.mem_iff_getElem?.mp hp
      obtain ⟨n, -, h⟩ := hP i p hi
      exact h.free
   refine xs_assign (P := fun v N' => ∃ D its, v = .ref D ∧ StrsAre its (([109] :: ls).map tx) ∧ N' = [(D, listOf its.toArray 0)]) (ev_SM1 (x := tx (jn ([109] :: ls))) B (ev_SM1 (P := fun v N' => IsS (tx (jn ([109] :: ls))) v ∧ N' = []) B (ev_localS rfl) ev_str (fun t s Q E q => GM.rstrip q) (fun t v N' e => ?_)) ev_str (fun t s Q E q => GM.split q) (fun t v N' e => ?_)) ?_
   · obtain ⟨⟨t', rfl⟩, rfl⟩ := e
     refine fun s Q E W q => SC.rstripChars (fun t' k => ?_) (by rw [tx_len, sizeLine_eq]; omega)
     rw [hsep, hlast, rstrip_tx hc, ← hlast]
     exact q _ s.heap k [] ⟨⟨t', rfl⟩, rfl⟩ W
   · obtain ⟨⟨t', rfl⟩, rfl⟩ := e
     rw [hsep]
     refine fun s Q E W q => KSpl.split1 W.fr W.nw (by decide) (fun D l h' k e hs F' N' lt => ?_) (by rw [tx_len, sizeLine_eq]; omega)
     rw [split_tx (List.cons_ne_nil _ _) hfree] at e
     exact q _ h' k _ ⟨D, _, rfl, e ▸ hs, rfl⟩ (nodup_push W lt F' N')
   rintro v N' ⟨D, its, rfl, hs, rfl⟩
   obtain ⟨v0, its', rfl, t0, rfl, hs'⟩ : ∃ v0 its', its = v0 :: its' ∧ ∃ t0, v0 = .str (tx [109]) t0 ∧ StrsAre its' (ls.map tx) := by
    cases hs with
    | cons y t hs' => exact ⟨_, _, rfl, _, rfl, hs'⟩
   have hl' : its'.length = ls.length := by rw [hs'.length, List.length_map]
   have hD : ∀ N', (D, listOf (Value.str (tx [109]) t0 :: its').toArray 0) ∈ N' → Ob h₀ N' D (listOf (Value.str (tx [109]) t0 :: its').toArray 0) := fun N' h => .inl h
   refine xs_if (c := true) (tst_eq (tst_cmp1 (p1 := IsS (tx [109])) (ev_ixL (i := 0) (ev_mono (ev_local rfl) fun v N' e => ⟨D, _, 0, _, e.1, (hD _ (e.2 ▸ .head _)).lo, e.2 ▸ List.Sublist.refl _, rfl, ⟨t0, rfl⟩⟩) (fun N => ev_int) rfl (by decide)) ev_str fun x y h h' => co_eqS h h') (by rw [tx_cps]; decide)) (fun _ => ?_) fun h => nomatch h
   refine xs_assign (ev_slL (ev_local rfl) (hD _ (.head _)) (pt_int ev_int) pt_none (by simp; omega)) ?_
   refine i_g fun D2 => i_0 ?_
   rw [pick1]
   have hD2 : ∀ N', (D2, listOf its'.toArray 0) ∈ N' → Ob h₀ N' D2 (listOf its'.toArray 0) := fun N' h => .inl h
   have hpos : 0 < ls.length := List.length_pos_iff.mpr hne
   refine nx_nil (xs_if (c := false) (tst_eq (tst_cmp1 (ev_Call1 B (ev_builtin B (no_len _) (by rfl)) kp_b (ev_local rfl) fun v h => call_lenL h (hD2 _ (.head _)).lo (by omega)) ev_int fun x y h h' => co_eq h h') (beq_eq_false_iff_ne.mpr (by omega))) (fun h => nomatch h) fun _ => nx_nil ?_)
   refine xs_return (P := fun v N' => ∃ (D : Addr) (its : List Value) (c : Nat), v = .ref D ∧ IntsAre its (ns.map fun (i : Nat) => (i : Int)) ∧ N' = [(D, listOf its.toArray c)]) (ev_weaken (ev_listComp (n := its'.length) (P := fun i v => its'[i]? = some v) (F := fun i y => ∃ n : Nat, ns[i]? = some n ∧ IsI (n : Int) y) (J := fun N' => N' = [(D2, listOf its'.toArray 0), (D, listOf (Value.str (tx [109]) t0 :: its').toArray 0)]) (kp := if (h₀.get? D2).isSome then [] else [(D2, listOf its'.toArray 0)]) (by rw [sizeLine_eq]; omega) (ev_mono (ev_local rfl) fun v N' e => ?_) fun N' h1 hJ st1 sr1 i v C mC N₁ hv hl => ?_) fun v N' e => ?_) fun v N' h => h
   · obtain ⟨rfl, rfl⟩ := e
     refine ⟨it_list (r.le (d' := 0)) (hD2 _ (.head _)), fun q hq => ?_, rfl⟩
     split at hq
     · nomatch hq
     · rw [List.mem_singleton.mp hq]; exact .head _
   · obtain ⟨y, hy, hS⟩ := strs_at hs' i v hv
     rw [List.getElem?_map] at hy
     obtain ⟨l, hli, rfl⟩ := Option.map_eq_some_iff.mp hy
     obtain ⟨n, hn, hp⟩ := hP i l hli
     have B1 := B.keeps st1
     refine ev_mono (P := fun v N' => IsI (n : Int) v ∧ N' = N₁) (ev_g1 B1 (ev_cg B1 (gl_parse_der_item _)) (kp_parse_der_item _) (ev_cl hl) fun v' h' => ?_) fun v N' e => ⟨⟨n, hn, e.1⟩, e.2⟩
     obtain rfl : v' = v := h'
     rcases hp with ⟨rfl, hlt⟩ | ⟨h, mk, rfl, hm, hlt, rfl⟩
     · exact s_pder2 B1 r.le hS hlt
     · exact s_pder1 B1 r.le hS hm hlt
   · obtain ⟨D3, ys, c, N₂, rfl, rfl, rfl, hyl, hF⟩ := e
     exact ⟨_, List.Sublist.cons_cons _ (List.nil_sublist _), D3, ys, c, rfl, ints_of (by omega) hF, rfl⟩
 · refine i_f ?_; rintro v C' ⟨D, its, c, rfl, hi, rfl⟩
   exact ⟨D, its, c, rfl, hi, rfl⟩
end
section
variable {w : World} {A : Around} {E : Value → Shared → Prop} {s : Shared} {g : Heap} {L C a c D x : Addr} {m : Loc} {N : Led} {X : Value → Led → Prop} {its : List Value} {n : Nat} {k : HD}
theorem s_deriveS {v : Value} {ls : List (List Nat)} {ns : List Nat} {l0 : List Nat} {c0 : Nat} (B : Bs (KF w.params) g) (r : Rm A 12) (h : HdO w.params (Ob g N) x k) (ok : k.Gd) (hp : PathOk k ns) (hv : IsS (tx (jn ([109] :: ls))) v) (hne : ls ≠ []) (hlen : ls.length = ns.length) (hP : ∀ (i : Nat) l, ls[i]? = some l → ∃ n, ns[i]? = some n ∧ Piece l n) (hlast : jn ([109] :: ls) = l0 ++ [c0]) (hc : c0 ≠ 47) (hz : (jn ([109] :: ls)).length ≤ 1000000) (hz2 : ls.length ≤ 1000) :
 Gc (model PR w) A g L m N (.call (.ref 1454) ⟨[.ref x, v], []⟩) (fun v N' => ∃ y, v = .ref y ∧ HdD w.params g (k.path ns) y N N') X := by
 obtain ⟨t, rfl⟩ := hv
 refine gc_mono (gc_call (C := []) (R := N) (P := fun v C' => ∃ y, v = .ref y ∧ ((ns = [] ∧ y = x) ∨ HdO w.params (fun a o => (a, o) ∈ C') y (k.path ns))) [("self", .ref x), ("path", .str (tx (jn ([109] :: ls))) t)] B r rfl (by kernel_rfl) (fun s X => BindsTo.of_eq rfl) (by rfl) ?_ (by decide)) ?_
 · intro h₀ L' A' r st sr B
   have H := fun N' => h.up ⟨st, sr⟩ N'
   refine gs_split (n := 1) (J := fun m' N' => lk m' "self" = some (.ref x) ∧ ∃ (D : Addr) (its : List Value) (c : Nat), lk m' "path" = some (.ref D) ∧ IntsAre its (ns.map fun (i : Nat) => (i : Int)) ∧ N' = [(D, listOf its.toArray c)]) ?_ ?_
   · refine gs_ifJ (fun m' N' => lk m' "self" = some (.ref x) ∧ ∃ (D : Addr) (its : List Value) (c : Nat), lk m' "path" = some (.ref D) ∧ IntsAre its (ns.map fun (i : Nat) => (i : Int)) ∧ N' = [(D, listOf its.toArray c)]) (c := true) (tst_T (ev_Call2 B (ev_builtin B (no_isinstance _) (by rfl)) kp_b (ev_local rfl) (ev_builtin B (no_str _) (by rfl)) fun v u h1 h2 => ?_)) (fun _ => ?_) (fun h => nomatch h) fun m' N' J => gs_nil ⟨rfl, J⟩
     · obtain rfl : v = .str (tx (jn ([109] :: ls))) t := h1
       obtain rfl : u = .type "str" := h2
       exact fun s Q E W q => IsiPair.str_str (q _ s.heap s.toks [] ⟨rfl, rfl⟩ W)
     · refine gs_assign (P := fun v N' => ∃ (D : Addr) (its : List Value) (c : Nat), v = .ref D ∧ IntsAre its (ns.map fun (i : Nat) => (i : Int)) ∧ N' = [(D, listOf its.toArray c)]) (gv_c1 (p1 := IsS (tx (jn ([109] :: ls)))) B (ev_global B (gl_parse_path _)) (kp_parse_path _) (Ev.gv (ev_localS rfl)) fun v hv => gv_of_gc (Cd.gc (s_ppath B r.le hv hne hlen hP hlast hc hz hz2))) ?_
       rintro v N' ⟨D, its, c, rfl, hi, rfl⟩
       exact gs_nil ⟨rfl, rfl, D, its, c, rfl, hi, rfl⟩
   · rintro m' N' ⟨l1, D, its, c, l2, hi, rfl⟩
     exact derive_loop (kp := if (h₀.get? D).isSome then [] else [(D, listOf its.toArray c)]) B r H ok hp l1 l2 hi (it_list (r.le (d' := 0)) (.inl (.head _))) fun q hq => by
      split at hq
      · nomatch hq
      · rw [List.mem_singleton.mp hq]; exact .head _
 · refine i_f (i_g ?_); rintro y C' hy
   refine ⟨y, rfl, ⟨C', rfl⟩, ?_⟩
   rcases hy with ⟨rfl, rfl⟩ | hy
   · exact h.mono fun a o e => e.mono (fun _ _ e => e) fun q hq => .inl (List.mem_append_right _ hq)
   · exact hy.mono fun a o e => .inl (List.mem_append_left _ e)
end
section
variable {w : World} {A : Around} {prog : Program} {E : Value → Shared → Prop} {s : Shared} {g : Heap} {L a c D R : Addr} {m : Loc} {N : Led} {env : Env} {cs : Scope} {cl : List (Str × Addr)} {cn : Str} {ccd : Value} {XS : Value → Loc → Led → Prop} {n : Nat}
theorem cg_call_cells {RR : Result → Shared → Prop} {a : Addr} {o : Obj} {fd : FuncData} {body : List Stmt} {vals : List Value} {binds : List (Str × Value)}
 (hroom : A.depth < recursionLimit) (ho : s.heap.get? a = some o) (hdata : o.data = .func fd) (hlim : s.heap.NoLimit) (hcd : s.heap.CodeRec fd.code fd.qualname)
 (hbody : fd.body = .stmts body) (hbind : bindArgs fd ⟨vals, []⟩ = pure binds) (hclo : fd.closure = [])
 (hkind : ∀ x ∈ binds, fd.scope.names.lookup x.1 = some .local ∨ (fd.scope.names.lookup x.1 = some .cell ∧ ((cellsFrom (s.heap.objs.size + 1) fd.scope.names []).lookup x.1).isSome = true))
 (h : ∀ s₁, InCallC s (callEnvC fd s.heap.objs.size a).locals (bindL (callEnvC fd s.heap.objs.size a).kindOf binds fun _ => none) (callEnvC fd s.heap.objs.size a).cells
  (bindC (callEnvC fd s.heap.objs.size a).kindOf binds fun _ => none) s₁ →
  wpG (model prog w) (A.deeper (callEnvC fd s.heap.objs.size a)) (execs body (callEnvC fd s.heap.objs.size a)) (fun f s' => RR (.ok (.ret (match f with | .ret v => v | _ => .none))) s')
   (fun e s' => wpG (model prog w) (A.deeper (callEnvC fd s.heap.objs.size a)) (leaving (callEnvC fd s.heap.objs.size a) e) (fun _ s'' => RR (.error e) s'') (fun e' s'' => RR (.error e') s'') s') s₁)
 (hco : fd.scope.isCoroutine = false := by rfl) (hgen : fd.scope.isGenerator = false := by rfl) (hk : fd.scope.kind = .function := by rfl) :
 codeG (model prog w) A (.call (.ref a) ⟨vals, []⟩) RR s := by
 refine cg_of_tree ?_
 show wpG _ A.in1 (callAny (.ref a) ⟨vals, []⟩) _ _ s
 unfold callAny
 refine g_bind (wg (wpAny_load ho ?_))
 obtain ⟨c, oc, vs, tq, hc, hoc, hdc, hq⟩ := hcd
 simp only [hdata, callFunction, hco, hgen, hbody, hc, hclo, hbind]
 refine g_bind (m := field (.ref c) 1) (wg (wpAny_field hoc hdc hq (g_bind (g_pure ?_))))
 refine g_bind (g_pure ?_)
 refine g_bind (m := newFunctionEnv _ _ _ _ _ _ _ _ _) (wg (wpAny_newFunctionEnv_cells hk hkind fun env he s' x => ?_))
 subst he
 refine g_bind (wg (wpAny_enterFrame (A := A.in1) (hlim.keeps x.toInCall.keep) hroom ?_))
 have h' := h s' x
 unfold callEnvC at h'
 rw [hc] at h'
 exact g_pure (And.intro rfl (And.intro rfl (cg_func h')))
noncomputable abbrev rangeO (n : Int) (t u v : Tok) : Obj := { cls := .type "range", data := .fields #[.int 0 t, .int n u, .int 1 v] }
theorem call_range {v : Value} (h : IsI (n : Int) v) : Ev (model prog w) A g L m N (call (.type "range") [v]) (fun v N' => ∃ R t u t', v = .ref R ∧ N' = (R, rangeO n t u t') :: N) := by
 obtain ⟨t, rfl⟩ := h
 exact fun s Q E W q => call_range_1 (q _ _ _ _ ⟨_, _, _, _, rfl, rfl⟩ (nodup_push W (fun p hp => Heap.lt_size (W.nw p hp).1) (W.fr.push _) (W.nw.push W.fr _)))
theorem it_range {t u t' : Tok} (r : Rm A 0) (hn : n ≤ 1000000) (h : Ob g N R (rangeO n t u t')) : It prog w A g L N [] (.ref R) n (fun i v => i < n ∧ IsI (i : Int) v) := fun m s Q E W q => by
 refine wpAny_pyIter_range (a := 0) (b := n) (c := 1) (t := t) (u := u) (v := t') (h.at W) (small_one (by decide) (by decide) (by omega) (by omega)) ?_
 have hsz : Builtin.Range.rangeSize 0 (n : Int) 1 = (n : Int) := by rw [rangeSize_one]; split <;> omega
 have W' := Walks.range (prog := prog) (w := w) r.h s.heap.objs.size 0 1 n
 refine q _ [_] _ ⟨W'.sub, W'.frame, fun i s Q E hi st hQ => W'.item i s Q E hi st fun v h' tk hP => hQ v h' tk ?_, fun s Q E st hQ => W'.done s Q E st hQ, W'.self⟩ (fun b hb => .inl (List.mem_singleton.mp hb)) (fun i h st => ⟨_, st⟩) ?_
 · obtain ⟨t, rfl⟩ := hP
   exact ⟨hi, t, by simp⟩
 · have e1 : (0 + ((0 : Nat) : Int) * 1) = 0 := by simp
   have e2 : ((n : Int) - ((0 : Nat) : Int)) = Builtin.Range.rangeSize 0 n 1 := by rw [hsz]; simp
   rw [e1, e2]
   exact Heap.get?_push_size _ rfl
theorem gs_tup2 {x y : Str} {e : Expr} {k : Nat} {p p1 p2 p3 : Pos} {rest : List Stmt} {P : Value → Value → Led → Prop} {RR : Flow → Loc → Led → Prop} (r : Rm A 0) (he : Gv (model prog w) A g L m N (eval e (envX cn cs L a ccd cl)) (fun v N' => ∃ (D : Addr) (v1 v2 : Value) (n : Nat) (N2 : Led), v = .ref D ∧ N' = (D, { cls := .type "tuple", data := .seq #[v1, v2] n }) :: N2 ∧ P v1 v2 N2) (fun v N' => XS v m N'))
 (kk : ∀ v1 v2 N', P v1 v2 N' → Gs (model prog w) A g L ((x, v1) :: (y, v2) :: m) N' (execs rest (envX cn cs L a ccd cl)) RR XS)
 (hs : swapsWithSole [.Tuple [.Name x p1, .Name y p2] k p3] e p.line (envX cn cs L a ccd cl) = pure false := by rfl) (hw : swappedStores [.Tuple [.Name x p1, .Name y p2] k p3] e (envX cn cs L a ccd cl) = pure (some [x, y]) := by rfl)
 (hk : cs.kind = .function := by rfl) (hx : (envX cn cs L a ccd cl).kindOf x = some .local := by rfl) (hy : (envX cn cs L a ccd cl).kindOf y = some .local := by rfl) :
 Gs (model prog w) A g L m N (execs (.Assign [.Tuple [.Name x p1, .Name y p2] k p3] e p :: rest) (envX cn cs L a ccd cl)) RR XS :=
 gs_cons fun s Q E W q xx => by
  rw [exec_Assign]
  refine g_bind (wg (wpAny_standAt ?_))
  rw [hs]
  refine g_bind (g_pure ?_)
  rw [if_neg (by decide)]
  refine g_bind (he s _ E W (fun v h' tk' N' e1 W' => ?_) fun v h' tk' N' p1 W' => xx v h' tk' m N' p1 W')
  rw [hw]
  refine g_bind (g_pure ?_)
  show wpG _ _ (do rule "assign.swapped-stores"; let items ← unpackItems v 2 none; assignInOrder ([y, x].map fun n => bindName (envX cn cs L a ccd cl) n) items.reverse; pure .next) Q E _
  obtain ⟨D, v1, v2, n, N2, rfl, rfl, hP⟩ := e1
  refine (wg (wpAny_bind (wpAny_rule (wpAny_bind ?_))))
  refine unpackItems_tuple (items := #[v1, v2]) r.h (W'.nw.isTup (.head _)) fun h2 he2 => ?_
  have n2 : News g L h2 ((D, { cls := .type "tuple", data := .seq #[v1, v2] n }) :: N2) := fun p hp => ⟨he2 _ _ (Nat.ne_of_lt (Heap.lt_size (W'.nw p hp).1)) (W'.nw p hp).1, (W'.nw p hp).2⟩
  have F2 := W'.fr.extBut he2 (Nat.le_refl _)
  refine wpAny_bind ?_
  show wpAny _ _ (assignInOrder [bindName (envX cn cs L a ccd cl) y, bindName (envX cn cs L a ccd cl) x] [v2, v1]) _ _ _
  refine assignInOrder_cons (wpAny_bindName (storeX_L F2 n2 (fun h3 F3 n3 => ?_) hk hy))
  have F3 := lk_cons m y v2 ▸ F3
  refine assignInOrder_cons (wpAny_bindName (storeX_L F3 n3 (fun h4 F4 n4 => ?_) hk hx))
  refine assignInOrder_nil ?_
  have F4 := lk_cons ((y, v2) :: m) x v1 ▸ F4
  exact wpAny_pure (q .next h4 _ _ N2 (kk v1 v2 N2 hP) ((⟨F4, n4, W'.nd⟩ : Wf g L h4 _ _).sub (List.sublist_cons_self _ _)))
end
noncomputable def md (z : Int) (m : Nat) : Nat := (z % (m : Int)).toNat
theorem md_lt (z : Int) {m : Nat} (h : 0 < m) : md z m < m := by
 unfold md
 have h1 := Int.emod_lt_of_pos z (b := (m : Int)) (by omega)
 have h0 := Int.emod_nonneg z (b := (m : Int)) (by omega)
 omega
theorem md_eq (z : Int) {m : Nat} (h : 0 < m) : z.fmod (m : Int) = ((md z m : Nat) : Int) := by
 unfold md
 have h0 := Int.emod_nonneg z (b := (m : Int)) (by omega)
 rw [Int.fmod_eq_emod_of_nonneg _ (by omega), Int.toNat_of_nonneg h0]
noncomputable def netS (j : Nat) : Str := if j = 0 then Str.ofString "main" else Str.ofString "test"
noncomputable def nmS (i : Nat) : Str := if i = 0 then Str.ofString "x" else if i = 1 then Str.ofString "y" else Str.ofString "Z"
noncomputable def vpr (j i : Nat) : List UInt8 := vPrv.getD (3 * j + i) []
theorem net_val {j : Nat} (hj : j < 2) : valueAt (kvsOf netsL) (netS j) = some (.ref (256 + j)) := by
 match j, hj with
 | 0, _ => decide +kernel
 | 1, _ => decide +kernel
theorem vpr_val {j i : Nat} (hj : j < 2) (hi : i < 3) : (∃ t, valueAt (kvsOf (netL j)) (nmS i ++ Str.ofString "prv") = some (.bytes (vpr j i).toArray t)) ∧ (∃ t, valueAt (kvsOf (netL j)) (nmS i ++ Str.ofString "pub") = some (.bytes (toPub (vpr j i)).toArray t)) ∧ vpr j i ∈ vPrv ∧ (nmS i).length ≤ 10 := by
 match j, i, hj, hi with
 | 0, 0, _, _ => exact ⟨⟨533, by kernel_rfl⟩, ⟨535, by kernel_rfl⟩, by decide, by decide⟩
 | 0, 1, _, _ => exact ⟨⟨537, by kernel_rfl⟩, ⟨545, by kernel_rfl⟩, by decide, by decide⟩
 | 0, 2, _, _ => exact ⟨⟨543, by kernel_rfl⟩, ⟨551, by kernel_rfl⟩, by decide, by decide⟩
 | 1, 0, _, _ => exact ⟨⟨579, by kernel_rfl⟩, ⟨581, by kernel_rfl⟩, by decide, by decide⟩
 | 1, 1, _, _ => exact ⟨⟨583, by kernel_rfl⟩, ⟨591, by kernel_rfl⟩, by decide, by decide⟩
 | 1, 2, _, _ => exact ⟨⟨589, by kernel_rfl⟩, ⟨597, by kernel_rfl⟩, by decide, by decide⟩
noncomputable def rootK (ns : List Int) : HD := ⟨true, be 32 (lon (lnum ns 0)), be 32 (lon (lnum ns 1)), vpr (md (lnum ns 3) 2) (md (lnum ns 2) 3), [0, 0, 0, 0], 0, 0⟩
theorem rootK_gd (ns : List Int) : (rootK ns).Gd := by
 have hv := (vpr_val (j := md (lnum ns 3) 2) (i := md (lnum ns 2) 3) (md_lt _ (by decide)) (md_lt _ (by decide))).2.2.1
 have h1 := lon_pos (lnum ns 0)
 have h2 := lon_lt (lnum ns 0)
 refine ⟨⟨be_length _ _, ?_, ?_, be_length _ _, ?_, rfl, show 0 < 256 by decide, show 0 < 256 ^ 4 by decide⟩, hv⟩
 · show 0 < num (be 32 (lon (lnum ns 0)))
   rw [num_be32 h2]; exact h1
 · show num (be 32 (lon (lnum ns 0))) < gP
   rw [num_be32 h2]; exact h2
 · have : ∀ v ∈ vPrv, v.length = 4 := by decide
   exact this _ hv
structure Scr (g : Heap) (oc : Obj) (D : Addr) (its : List Value) (n : Nat) (ns : List Int) : Prop where
 hd : oc.data = .cell (some (.ref D))
 ho : ∃ od, g.get? D = some od ∧ od.cls = .type "list" ∧ od.data = .seq its.toArray n
 hi : IntsAre its ns
 hs : Small ns
theorem Scr.lo {g g' : Heap} {oc : Obj} {D : Addr} {its : List Value} {n : Nat} {ns : List Int} {N : Led} (S : Scr g oc D its n ns) (st : ∀ b o, g.get? b = some o → g'.get? b = some o) : LO g' N D its := let ⟨od, h1, h2, h3⟩ := S.ho; ⟨od, .inr (st _ _ h1), h2, n, h3⟩
noncomputable abbrev LW (L : Addr) : Env := envX n_law (fs1 65) L 1575 (.ref 1574) [("script", L + 1)]
section
variable {w : World} {A : Around} {prog : Program} {E : Value → Shared → Prop} {s : Shared} {g : Heap} {L a c D : Addr} {m : Loc} {N : Led} {env : Env} {its : List Value} {n : Nat} {ns : List Int} {oc : Obj}
theorem ev_lnum {e : Expr} {p : Nat} {p1 p2 p3 : Pos} (B : Bs (KF w.params) g) (r : Rm A 2) (S : Scr g oc D its n ns) (hm : (L + 1, oc) ∈ N) (he : EvP (model PR w) A g L m N (eval e (LW L)) (IsI (p : Int))) (hp : p < 1000)
 (he1 : starEach [e] (LW L) = (false, eval e (LW L)) :: starEach [] (LW L) := by rfl) (hpl : (backTo p3 (starEach [e] (LW L))).any (·.1) = false := by rfl) :
 EvP (model PR w) A g L m N (eval (.Call (.Name "_law_number" p1) [.Name "script" p2, e] [] p3) (LW L)) (IsI (lnum ns p)) :=
 ev_g2 B (ev_global B (gl_law_number _)) (kp_law_number _) (ev_cell (.inl hm) S.hd) he (fun v u h1 h2 => by
  obtain rfl : v = .ref D := h1
  exact s_lnum B r.le (S.lo fun _ _ e => e) S.hi S.hs h2 hp) (he2 := he1) (hplain := hpl)
theorem ev_md {l e : Expr} {p : Pos} {z : Int} {k : Nat} {k' : Int} (h1 : EvP (model prog w) A g L m N (eval l env) (IsI z)) (h2 : EvP (model prog w) A g L m N (eval e env) (IsI k')) (hk : 0 < k) (e' : k' = (k : Int) := by rfl) : EvP (model prog w) A g L m N (eval (.BinOp l .Mod e p) env) (IsI ((md z k : Nat) : Int)) := by
 subst e'
 rw [← md_eq z hk]
 exact ev_mod h1 h2 (by omega)
theorem ev_at_list {v ix : Expr} {sp : Pos} {i : Nat} {px : Value → Prop} (h : Ev (model prog w) A g L m N (eval v env) (fun v N' => ∃ (D : Addr) (its : List Value) (n : Nat) (x : Value), v = .ref D ∧ N' = (D, listOf its.toArray n) :: N ∧ its[i]? = some x ∧ px x)) (hi : ∀ D o, EvP (model prog w) A g L m ((D, o) :: N) (eval ix env) (IsI (i : Int))) (hl : i < 1000000)
 (hs : ∀ D i u, subscripted ix false (.ref D) (.int i u) = operate [.ref D, .int i u] (getItem (.ref D) (.int i u)) := by intro _ _ _; with_unfolding_all rfl) :
 EvP (model prog w) A g L m N (eval (.Subscript v ix sp) env) px := fun s Q E W q =>
 Subscript_ (h s _ E W fun o h1 tk1 N1 e1 W1 => by
  obtain ⟨D, its, n, x, rfl, rfl, hx, hp⟩ := e1
  refine hi _ _ _ _ E W1 fun l h2 tk2 N2 e2 W2 => ?_
  obtain ⟨⟨u, rfl⟩, rfl⟩ := e2
  have hl2 : h2.IsList D its.toArray := isList_of (W2.nw _ (.head _)).1
  refine tail_any hl2.typeIs slot_list_getitem.lookup (wpAny_getItem_list hl2 (by omega) (by omega) (x := x) ?_ (q x h2 tk2 N ⟨hp, rfl⟩ (W2.sub (List.sublist_cons_self _ _)))) (hs _ _ _)
  rw [Int.toNat_natCast]
  simpa using hx)
theorem ev_pick2 {e0 e1 ix : Expr} {lp sp : Pos} {i : Nat} {P0 P1 : Value → Prop} (h0 : EvP (model prog w) A g L m N (eval e0 env) P0) (h1 : EvP (model prog w) A g L m N (eval e1 env) P1) (hi : ∀ D o, EvP (model prog w) A g L m ((D, o) :: N) (eval ix env) (IsI (i : Int))) (hlt : i < 2)
 (he0 : starEach [e0, e1] env = (false, eval e0 env) :: starEach [e1] env := by rfl) (he1 : starEach [e1] env = (false, eval e1 env) :: starEach [] env := by rfl)
 (hs : ∀ D i u, subscripted ix false (.ref D) (.int i u) = operate [.ref D, .int i u] (getItem (.ref D) (.int i u)) := by intro _ _ _; with_unfolding_all rfl) :
 EvP (model prog w) A g L m N (eval (.Subscript (.List [e0, e1] lp) ix sp) env) (fun v => if i = 0 then P0 v else P1 v) := by
 refine ev_at_list (i := i) (ev_list (PA := fun vs N' => (∃ a b, vs = [a, b] ∧ P0 a ∧ P1 b) ∧ N' = N) (ar_cons h0 (fun a N' e => ?_) he0) fun vs N' e => ?_) hi (by omega) hs
 · obtain ⟨e, rfl⟩ := e
   refine ar_cons h1 (fun b N' e' => ?_) he1
   obtain ⟨e', rfl⟩ := e'
   exact ar_nil ⟨⟨a, b, rfl, e, e'⟩, rfl⟩
 · obtain ⟨⟨a, b, rfl, ha, hb⟩, rfl⟩ := e
   refine ev_mono (ev_newList (by show 2 ≤ sizeLine; decide)) fun v N2 ⟨D, e1, e2⟩ => ?_
   match i, hlt with
   | 0, _ => exact ⟨D, _, 0, a, e1, e2, rfl, by rw [if_pos rfl]; exact ha⟩
   | 1, _ => exact ⟨D, _, 0, b, e1, e2, rfl, by rw [if_neg (by decide)]; exact hb⟩
theorem ev_pick3 {e0 e1 e2 ix : Expr} {lp sp : Pos} {i : Nat} {P0 P1 P2 : Value → Prop} (h0 : EvP (model prog w) A g L m N (eval e0 env) P0) (h1 : EvP (model prog w) A g L m N (eval e1 env) P1) (h2 : EvP (model prog w) A g L m N (eval e2 env) P2) (hi : ∀ D o, EvP (model prog w) A g L m ((D, o) :: N) (eval ix env) (IsI (i : Int))) (hlt : i < 3)
 (he0 : starEach [e0, e1, e2] env = (false, eval e0 env) :: starEach [e1, e2] env := by rfl) (he1 : starEach [e1, e2] env = (false, eval e1 env) :: starEach [e2] env := by rfl) (he2 : starEach [e2] env = (false, eval e2 env) :: starEach [] env := by rfl)
 (hs : ∀ D i u, subscripted ix false (.ref D) (.int i u) = operate [.ref D, .int i u] (getItem (.ref D) (.int i u)) := by intro _ _ _; with_unfolding_all rfl) :
 EvP (model prog w) A g L m N (eval (.Subscript (.List [e0, e1, e2] lp) ix sp) env) (fun v => if i = 0 then P0 v else if i = 1 then P1 v else P2 v) := by
 refine ev_at_list (i := i) (ev_list (PA := fun vs N' => (∃ a b c, vs = [a, b, c] ∧ P0 a ∧ P1 b ∧ P2 c) ∧ N' = N) (ar_cons h0 (fun a N' e => ?_) he0) fun vs N' e => ?_) hi (by omega) hs
 · obtain ⟨e, rfl⟩ := e
   refine ar_cons h1 (fun b N' e' => ?_) he1
   obtain ⟨e', rfl⟩ := e'
   refine ar_cons h2 (fun c N' e'' => ?_) he2
   obtain ⟨e'', rfl⟩ := e''
   exact ar_nil ⟨⟨a, b, c, rfl, e, e', e''⟩, rfl⟩
 · obtain ⟨⟨a, b, c, rfl, ha, hb, hc⟩, rfl⟩ := e
   refine ev_mono (ev_newList (by show 3 ≤ sizeLine; decide)) fun v N2 ⟨D, e1, e2⟩ => ?_
   match i, hlt with
   | 0, _ => exact ⟨D, _, 0, a, e1, e2, rfl, by rw [if_pos rfl]; exact ha⟩
   | 1, _ => exact ⟨D, _, 0, b, e1, e2, rfl, by rw [if_neg (by decide), if_pos rfl]; exact hb⟩
   | 2, _ => exact ⟨D, _, 0, c, e1, e2, rfl, by rw [if_neg (by decide), if_neg (by decide)]; exact hc⟩
end
noncomputable abbrev HL (P : Params) (N : Led) (x : Addr) (k : HD) : Prop := HdO P (fun a o => (a, o) ∈ N) x k
theorem HL.sub {P : Params} {N N' : Led} {x : Addr} {k : HD} (h : HL P N x k) (s : ∀ p ∈ N, p ∈ N') : HL P N' x k := h.mono fun a o e => s _ e
theorem HL.O {P : Params} {N : Led} {x : Addr} {k : HD} {g : Heap} (h : HL P N x k) : HdO P (Ob g N) x k := h.mono fun a o e => .inl e
noncomputable def pcnt (ns : List Int) : Nat := if md (lnum ns 4) 4 = 0 then 2 else 1
noncomputable def pst (ns : List Int) (i : Nat) : Nat := md (lnum ns (5 + i) * 65537) 2147483648
noncomputable def pth (ns : List Int) : List Nat := (List.range (pcnt ns)).map (pst ns)
theorem pcnt_le (ns : List Int) : pcnt ns ≤ 2 ∧ 0 < pcnt ns := by unfold pcnt; split <;> omega
theorem pth_len (ns : List Int) : (pth ns).length = pcnt ns := by unfold pth; simp
theorem pth_lt {ns : List Int} {i : Nat} (h : i ∈ pth ns) : i < 2147483648 := by
 obtain ⟨j, -, rfl⟩ := List.mem_map.mp h
 exact md_lt _ (by decide)
structure LS (P : Params) (ns : List Int) (L : Addr) (oc : Obj) (x0 pb Dp : Addr) (m : Loc) (N : Led) : Prop where
 cell : (L + 1, oc) ∈ N
 lroot : lk m "root" = some (.ref x0)
 lpub : lk m "public" = some (.ref pb)
 lpath : lk m "path" = some (.ref Dp)
 root : HL P N x0 (rootK ns)
 pub : HL P N pb (rootK ns).pub
 path : ∃ (ys : List Value) (c : Nat), (Dp, listOf ys.toArray c) ∈ N ∧ IntsAre ys ((pth ns).map fun (i : Nat) => (i : Int))
section
variable {w : World} {A : Around} {g : Heap} {L C a c D R : Addr} {m : Loc} {N : Led} {env : Env} {XS : Value → Loc → Led → Prop} {X : Value → Led → Prop} {its : List Value} {n : Nat} {ns : List Int} {oc : Obj} {k : HD}
theorem gv_hdroot {p q3 fp : Pos} {e1 e2 e3 : Expr} {P1 : Addr → Led → Prop} (B : Bs (KF w.params) g) (r : Rm A 10) (ok : k.Gd) (hf : EvP (model PR w) A g L m N (eval (.Name "HDKey" fp) env) (IsV (.ref 1499))) (h1 : Gv (model PR w) A g L m N (eval e1 env) (fun v N' => ∃ kx, v = .ref kx ∧ P1 kx N') X)
 (hk : ∀ kx N', P1 kx N' → KeyO w.params (Ob g N') kx k.pr k.kb ∧ EvP (model PR w) A g L m N' (eval e2 env) (IsB k.cc) ∧ EvP (model PR w) A g L m N' (eval e3 env) (IsB k.ver)) (z1 : k.dep = 0) (z2 : k.fp = [0, 0, 0, 0]) (z3 : k.ix = 0)
 (he1 : starEach [e1, e2] env = (false, eval e1 env) :: starEach [e2] env := by rfl) (he2 : starEach [e2] env = (false, eval e2 env) :: starEach [] env := by rfl) (hplain : (backTo p (starEach [e1, e2] env)).any (·.1) = false := by rfl)
 (he : eval (.Call (.Name "HDKey" fp) [e1, e2] [⟨some "version", e3, q3⟩] p) env = (do callWith p (← eval (.Name "HDKey" fp) env) [] (backTo p (starEach [e1, e2] env)) (backToKw p (keywordEach [⟨some "version", e3, q3⟩] env))) := by rfl) :
 Gv (model PR w) A g L m N (eval (.Call (.Name "HDKey" fp) [e1, e2] [⟨some "version", e3, q3⟩] p) env) (fun v N' => ∃ x kx N1, v = .ref x ∧ P1 kx N1 ∧ HdN w.params k x kx N1 N') X := by
 refine gv_Call hf (gv_callWith (PA := fun vs N' => ∃ kx cv, vs = [.ref kx, cv] ∧ P1 kx N' ∧ IsB k.cc cv) (PK := fun vs ks N' => ∃ kx cv vv, vs = [.ref kx, cv] ∧ P1 kx N' ∧ IsB k.cc cv ∧ ks = [vv] ∧ IsB k.ver vv) B (kp_HDKey _) (gr_cons h1 ?_ he1) ?_ ?_ (by rfl) hplain (by rfl)) he
 · refine i_g ?_; rintro kx N' hp
   refine gr_cons (hk kx N' hp).2.1.gv ?_ he2
   refine i_c fun cv hc => ?_
   exact gr_nil ⟨kx, cv, rfl, hp, hc⟩
 · rintro vs N' ⟨kx, cv, rfl, hp, hc⟩
   refine gk_cons (hk kx N' hp).2.2.gv ?_
   refine i_c fun vv hv => ?_
   exact gk_nil ⟨kx, cv, vv, rfl, hp, hc, rfl, hv⟩
 · rintro vs ks N' ⟨kx, cv, vv, rfl, hp, hc, rfl, hv⟩
   exact gv_of_gc (gc_mono (s_hdnew1 B r (hk kx N' hp).1 ok hc hv z1 z2 z3) fun v N2 ⟨x, e, h⟩ => ⟨x, kx, N', e, hp, h⟩)
theorem law_pre (B : Bs (KF w.params) g) (r : Rm A 14) (S : Scr g oc D its n ns) :
 Gs (model PR w) A g L [] [(L + 1, oc)] (execs (takeS (fb1 65) 6) (LW L)) (fun fl m' N' => fl = .next ∧ ∃ x0 pb Dp, LS w.params ns L oc x0 pb Dp m' N' ∧ lk m' "key" = some (.ref x0) ∧ lk m' "bare" = some (.ref pb)) XS := by
 have hj : md (lnum ns 3) 2 < 2 := md_lt _ (by decide)
 have hi : md (lnum ns 2) 3 < 3 := md_lt _ (by decide)
 obtain ⟨⟨tv, hv1⟩, ⟨tp, hv2⟩, hvm, hnl⟩ := vpr_val hj hi
 have hns := net_val hj
 have kg := rootK_gd ns
 have hnets : g.get? 255 = some ⟨.type "dict", none, .dict (ents w.params netsL).toArray 4, #[]⟩ := B.X _ _ (nets_look _)
 have hnet : g.get? (256 + md (lnum ns 3) 2) = some ⟨.type "dict", none, .dict (ents w.params (netL (md (lnum ns 3) 2))).toArray 15, #[]⟩ := B.X _ _ (net_look _ _ (by omega))
 have hnd := net_nd (md (lnum ns 3) 2) (by omega)
 refine gs_tup2 r.le (P := fun v1 v2 N' => IsS (netS (md (lnum ns 3) 2)) v1 ∧ IsS (nmS (md (lnum ns 2) 3)) v2 ∧ N' = [(L + 1, oc)]) (Ev.gv (ev_mono (ev_tuple (Pv := fun vs => ∃ a b, vs = [a, b] ∧ IsS (netS (md (lnum ns 3) 2)) a ∧ IsS (nmS (md (lnum ns 2) 3)) b) (ar_cons (ev_pick2 ev_str ev_str (fun D o => ev_md (ev_lnum B r.le S (.tail _ (.head _)) ev_int (by decide)) ev_int (by decide)) hj) (fun a N' e => ?_)) fun vs ⟨a, b, e, _⟩ => by rw [e]; show 2 ≤ 1000; decide) fun v N' e => ?_)) ?_
 · obtain ⟨e, rfl⟩ := e
   refine ar_cons (ev_pick3 ev_str ev_str ev_str (fun D o => ev_md (ev_lnum B r.le S (.tail _ (.head _)) ev_int (by decide)) ev_int (by decide)) hi) fun b N' e' => ?_
   obtain ⟨e', rfl⟩ := e'
   refine ar_nil ⟨⟨a, b, rfl, ?_, ?_⟩, rfl⟩
   · unfold netS; split at e <;> simp_all
   · unfold nmS; split at e' <;> simp_all
     split at e' <;> simp_all
 · obtain ⟨T, vs, rfl, ⟨a, b, rfl, ha, hb⟩, rfl⟩ := e
   exact ⟨T, a, b, 0, _, rfl, rfl, ha, hb, rfl⟩
 rintro v1 v2 N' ⟨⟨t1, rfl⟩, ⟨t2, rfl⟩, rfl⟩
 refine gs_assign (P := fun v N' => ∃ x0 kx N1, v = .ref x0 ∧ PkN w.params (be 32 (lon (lnum ns 0))) kx [(L + 1, oc)] N1 ∧ HdN w.params (rootK ns) x0 kx N1 N') (gv_hdroot (k := rootK ns) (P1 := fun kx N1 => PkN w.params (be 32 (lon (lnum ns 0))) kx [(L + 1, oc)] N1) B r.le kg (ev_global B (gl_HDKey _)) (gv_c1 (p1 := IsB (be 32 (lon (lnum ns 0)))) B (ev_global B (gl_PrivateKey _)) (kp_PrivateKey _) (Ev.gv (ev_g1 B (ev_global B (gl_law_octets _)) (kp_law_octets _) (ev_lnum B r.le S (.head _) ev_int (by decide)) fun v h => s_loct B r.le h (Nat.le_trans (lnum_bits S.hs (by decide)) (by decide)))) fun v h => gv_of_gc (Cd.gc (s_pknew B r.le h (be_length _ _) kg.1.k0 kg.1.k1))) (fun kx N1 h => ?_) rfl rfl rfl) ?_
 · obtain ⟨kd, u1, u2, u3, u, rfl⟩ := h
   refine ⟨⟨kd, u1, u2, u3, u, .inl (.head _), .inl (.tail _ (.head _))⟩, ev_g1 B (ev_global B (gl_law_octets _)) (kp_law_octets _) (ev_lnum B r.le S (.tail _ (.tail _ (.head _))) ev_int (by decide)) fun v h => s_loct B r.le h (Nat.le_trans (lnum_bits S.hs (by decide)) (by decide)), ?_⟩
   exact is_B (ev_ixD hnet hnd (ev_ixD hnets nets_nd (ev_global B (gl_NETWORKS _)) (ev_localS rfl) hns) (ev_addS (ev_localS rfl) ev_str (by rw [sizeLine_eq, show (Str.ofString "prv").length = 3 by decide]; omega)) hv1)
 rintro v N' ⟨x0, kx, N1, rfl, hpk, hN⟩
 have hroot : HL w.params N' x0 (rootK ns) := by
  obtain ⟨kd, u1, u2, u3, u, rfl⟩ := hpk
  obtain ⟨dx, T, rfl⟩ := hN
  exact ⟨dx, kx, T, [], .head _, .tail _ (.head _), ⟨kd, u1, u2, u3, u, .tail _ (.tail _ (.head _)), .tail _ (.tail _ (.tail _ (.head _)))⟩, .inl rfl⟩
 have hcell : (L + 1, oc) ∈ N' := by
  obtain ⟨kd, u1, u2, u3, u, rfl⟩ := hpk
  obtain ⟨dx, T, rfl⟩ := hN
  exact .tail _ (.tail _ (.tail _ (.tail _ (.head _))))
 clear hpk hN
 refine gs_assign (P := fun v N2 => ∃ y, v = .ref y ∧ HdE w.params (rootK ns).pub y N' N2) (gv_m0 (Po := fun v N2 => v = .ref x0 ∧ N2 = N') B (ev_local rfl).gv fun ov N1 e => ?_) ?_
 · obtain ⟨rfl, rfl⟩ := e
   exact ⟨x0, 1410, rfl, hroot.O.mth (fm_HDKey_to_public _) (fn_1410 _) (kp_1410 _), s_topub B r.le hroot.O kg rfl⟩
 refine i_g fun pb => i_k fun E2 hpub => ?_
 have hpub : HL w.params (E2 ++ N') pb (rootK ns).pub := hpub.mono fun a o e => List.mem_append_left _ e
 have hroot : HL w.params (E2 ++ N') x0 (rootK ns) := hroot.sub fun p hp => List.mem_append_right _ hp
 have hcell : (L + 1, oc) ∈ E2 ++ N' := List.mem_append_right _ hcell
 generalize E2 ++ N' = N2 at hpub hroot hcell
 refine gs_if0 (tst_eq (tst_cmp1 (ev_hver B (ev_local rfl) hpub.O) (is_B (ev_ixD hnet hnd (ev_ixD hnets nets_nd (ev_global B (gl_NETWORKS _)) (ev_localS rfl) hns) (ev_addS (ev_localS rfl) ev_str (by rw [sizeLine_eq, show (Str.ofString "pub").length = 3 by decide]; omega)) hv2)) fun x y h h' => co_neB h h') (by show (toPub (rootK ns).ver != toPub (vpr _ _)) = false; exact bne_self_eq_false _)) ?_
 refine gs_assignComp (n := pcnt ns) (P := fun i v => i < pcnt ns ∧ IsI (i : Int) v) (F := fun i y => IsI ((pst ns i : Nat) : Int) y) (kp := []) (J := fun N' => ∃ p, N' = p :: N2) (by have := pcnt_le ns; rw [sizeLine_eq]; omega) (ev_mono (ev_Call1 (p1 := IsI (pcnt ns : Int)) B (ev_builtin B (no_range _) (by rfl)) kp_t (ev_ifexp (c := decide (md (lnum ns 4) 4 = 0)) (P := fun v N' => IsI (pcnt ns : Int) v ∧ N' = N2) (tst_eq (tst_cmp1 (ev_md (k := 4) (ev_lnum B r.le S hcell ev_int (by decide)) ev_int (by decide)) ev_int fun x y h h' => co_eq h h') ?_) (fun h => ?_) fun h => ?_) fun v h => call_range h) fun v N' e => ?_) (fun N' h1 hJ st1 sr1 i v C mC N₁ hv hl => ?_) fun Dp ys c N₂ hJ hyl hF => ?_
 · by_cases h : md (lnum ns 4) 4 = 0
   · rw [h]; rfl
   · rw [decide_eq_false h]; exact beq_eq_false_iff_ne.mpr (fun q : ((md (lnum ns 4) 4 : Nat) : Int) = 0 => h (by omega))
 · rw [show (pcnt ns : Int) = 2 by unfold pcnt; rw [if_pos (of_decide_eq_true h)]; rfl]; exact ev_int
 · rw [show (pcnt ns : Int) = 1 by unfold pcnt; rw [if_neg (of_decide_eq_false h)]; rfl]; exact ev_int
 · obtain ⟨R, t, u, t', rfl, rfl⟩ := e
   exact ⟨it_range (r.le (d' := 0)) (by have := pcnt_le ns; omega) (.inl (.head _)), fun q hq => absurd hq (List.not_mem_nil), _, rfl⟩
 · obtain ⟨hlt, t, rfl⟩ := hv
   obtain ⟨p, rfl⟩ := hJ
   have B1 := B.keeps st1
   have hc := sr1 _ (List.mem_cons_of_mem _ hcell)
   have hpc := pcnt_le ns
   exact ev_md (ev_mul (ev_g2 B1 (ev_cg B1 (gl_law_number _)) (kp_law_number _) (ev_cc hc S.hd) (evI_eq (ev_add ev_int (ev_clI hl)) (y := ((5 + i : Nat) : Int)) (by omega)) fun v u h1 h2 => by
    obtain rfl : v = .ref D := h1
    exact s_lnum B1 r.le (S.lo st1) S.hi S.hs h2 (by omega)) ev_int (IntMulOk.of_le (m := 1048577) (n := 17) (lnum_bits S.hs (by omega)) (intBits_le_iff.mpr (by decide)) (by decide))) ev_int (by decide)
 obtain ⟨p, rfl⟩ := hJ
 refine gs_tup2 r.le (P := fun v1 v2 N' => v1 = .ref x0 ∧ v2 = .ref pb ∧ N' = (Dp, listOf ys.toArray c) :: p :: N2) (Ev.gv (ev_mono (ev_tuple (Pv := fun vs => vs = [.ref x0, .ref pb]) (ar_cons (ev_local rfl) (fun a N' e => ?_)) fun vs e => by rw [e]; show 2 ≤ 1000; decide) fun v N' e => ?_)) ?_
 · obtain ⟨rfl, rfl⟩ := e
   refine ar_cons (ev_local rfl) fun b N' e' => ?_
   obtain ⟨rfl, rfl⟩ := e'
   exact ar_nil ⟨rfl, rfl⟩
 · obtain ⟨T, vs, rfl, rfl, rfl⟩ := e
   exact ⟨T, _, _, 0, _, rfl, rfl, rfl, rfl, rfl⟩
 rintro v1 v2 N' ⟨rfl, rfl, rfl⟩
 have hin : ∀ q ∈ N2, q ∈ (Dp, listOf ys.toArray c) :: p :: N2 := fun q hq => .tail _ (.tail _ hq)
 refine gs_nil ⟨rfl, x0, pb, Dp, ⟨hin _ hcell, rfl, rfl, rfl, hroot.sub hin, hpub.sub hin, ys, c, .head _, ?_⟩, rfl, rfl⟩
 refine ints_of (by rw [hyl, pth_len]) fun j y hy => ?_
 have hjl : j < pcnt ns := by rw [← hyl]; exact (List.getElem?_eq_some_iff.mp hy).1
 refine ⟨pst ns j, ?_, hF j y hy⟩
 unfold pth
 rw [List.getElem?_map, List.getElem?_range hjl]; rfl
end
theorem int_nobytes : typeLookup (.type "int") "__bytes__" = pure none := by rw [typeLookup_type, builtinLookup_eq_fast]; kernel_rfl
theorem int_index : typeLookup (.type "int") "__index__" = pure (some (.builtin "int.__index__")) := by rw [typeLookup_type, builtinLookup_eq_fast]; kernel_rfl
section
variable {w : World} {A : Around} {prog : Program} {E : Value → Shared → Prop} {s : Shared} {g : Heap} {L a : Addr} {m : Loc} {N : Led}
theorem call_bytes32 {v : Value} (h : IsI 32 v) : EvP (model prog w) A g L m N (call (.type "bytes") [v]) (IsB (List.replicate 32 0)) := fun s Q E W q => by
 obtain ⟨t, rfl⟩ := h
 have hT := typeIs_int s 32 t
 have main : codeAny (model prog w) A.in1 (.call (.builtin "bytes.__new__") ⟨[.type "bytes", .int 32 t], []⟩) (wants (fun obj s₁ => s₁.TypeIs obj "bytes" ∧ Q obj s₁) E) s := by
  refine codeAny_of_tree ?_
  show wpAny _ A.in1.in1 (do checkBuiltinCall "bytes.__new__" ⟨[.type "bytes", .int 32 t], []⟩; again (.builtin "bytes.__new__" ⟨[.type "bytes", .int 32 t], []⟩)) _ _ s
  refine wpAny_bind (wpAny_of_eq (F.bm_newCall _) (wpAny_pure ⟨plainId_quiet F.bm_plain _, codeAny_builtin F.bm_entry ?_⟩))
  rw [Around.under_plainId F.bm_plain _]
  unfold Builtin.«bytes.__new__»
  refine wpAny_bind (wpAny_of_eq (a := true) rfl ?_)
  refine bm_if_false rfl ?_
  refine wpAny_bind (wpAny_of_eq F.bm_sub ?_)
  refine bm_if_false rfl ?_
  refine wpAny_bind (wpAny_of_eq (F.bm_bind _) ?_)
  refine wpAny_bind (wpAny_of_eq (a := ()) rfl ?_)
  refine wpAny_bind (wpAny_of_eq (a := ()) rfl ?_)
  refine bm_if_false rfl ?_
  refine wpAny_bind (wpAny_specialOf hT int_nobytes ?_)
  refine wpAny_bind (wpAny_of_eq (a := false) rfl ?_)
  refine bm_if_false rfl ?_
  refine wpAny_bind (wpAny_specialOf hT int_index ?_)
  refine bm_if_false rfl ?_
  refine wpAny_bind (wpAny_of_eq (a := .ok (32 : Int)) rfl ?_)
  refine bm_if_false rfl ?_
  rw [if_neg (by decide)]
  try dsimp only
  rw [if_neg (by decide)]
  try dsimp only
  refine bm_if_false rfl ?_
  refine wpAny_bind (wpAny_rule ?_)
  refine wpAny_bind (wpAny_mkBytes ?_ (by decide))
  have W' : ∀ tk, Q (.bytes (List.replicate 32 0).toArray tk) { s with toks := s.toks + 1 } := fun tk => q _ s.heap _ N ⟨⟨tk, rfl⟩, rfl⟩ W
  refine bm_if_true (by decide) ?_
  first
   | exact wpAny_pure ⟨typeIs_bytes _ _ _, W' _⟩
   | exact wpAny_bind (wpAny_pure (wpAny_pure ⟨typeIs_bytes _ _ _, W' _⟩))
 refine callType_codes (Q₁ := fun obj s₁ => s₁.TypeIs obj "bytes" ∧ Q obj s₁) F.bm_called (F.bm_typeCall _) F.entry_object_init main fun obj s₁ h₁ => ?_
 exact ⟨h₁.1, F.args_object_init_2 obj _, object_init_meets F.bm_called.init.lookup F.bm_called.made (by decide) prog w A.in1 _ s₁ ⟨h₁.1, rfl, h₁.2⟩⟩
end
theorem path_dep : ∀ (p : List Nat) (k : HD), (k.path p).dep = k.dep + p.length
 | [], k => rfl
 | i :: r, k => by
  show ((k.child i).path r).dep = _
  rw [path_dep r]
  show k.dep + 1 + r.length = k.dep + (r.length + 1)
  omega
theorem path_pr : ∀ (p : List Nat) (k : HD), (k.path p).pr = k.pr
 | [], k => rfl
 | i :: r, k => path_pr r (k.child i)
section
variable {w : World} {M : Model} {A : Around} {prog : Program} {E : Value → Shared → Prop} {s : Shared} {g : Heap} {L a c x : Addr} {m : Loc} {N N₁ : Led} {K : Frag} {env : Env} {XS : Value → Loc → Led → Prop} {X : Value → Led → Prop}
theorem gs_perm {t : Sem Flow} {RR : Flow → Loc → Led → Prop} (p : N.Perm N₁) (h : Gs M A g L m N₁ t RR XS) : Gs M A g L m N t RR XS :=
 fun s Q E W q x => h s Q E ⟨W.fr, fun x hx => W.nw x (p.mem_iff.mpr hx), (p.map _).nodup_iff.mp W.nd⟩ q x
theorem gv_tuple {es : List Expr} {kk : Nat} {p : Pos} {PA : List Value → Led → Prop} (h : Gv M A g L m N (spliced (backTo p (starEach es env))) PA X) (hz : ∀ vs N', PA vs N' → vs.length ≤ 1000) : Gv M A g L m N (eval (.Tuple es kk p) env) (fun v N' => ∃ T vs N2, v = .ref T ∧ PA vs N2 ∧ N' = (T, tupO vs) :: N2) X := by
 rw [arm_eval_Tuple]
 refine gv_at (gv_bind h fun vs N' e => ?_)
 exact Ev.gv fun s Q E W q => wpAny_newTuple (q _ _ s.toks _ ⟨_, vs, N', rfl, e, rfl⟩ (nodup_push W (fun p hp => Heap.lt_size (W.nw p hp).1) (W.fr.push _) (W.nw.push W.fr _))) (by have := hz vs N' e; rw [sizeLine_eq]; omega)
theorem gv_c2G {fe e1 e2 : Expr} {p : Pos} {f : Value} {p1 : Value → Led → Prop} {p2 : Value → Value → Led → Prop} {P : Value → Led → Prop} (B : Bs K g) (hf : EvP M A g L m N (eval fe env) (IsV f)) (hk : Kp K f) (h1 : Gv M A g L m N (eval e1 env) p1 X) (h2 : ∀ v N', p1 v N' → Gv M A g L m N' (eval e2 env) (p2 v) X) (hc : ∀ v u N', p2 v u N' → Gv M A g L m N' (call f [v, u]) P X)
 (he : eval (.Call fe [e1, e2] [] p) env = (do callWith p (← eval fe env) [] (backTo p (starEach [e1, e2] env)) (backToKw p (keywordEach [] env))) := by rfl)
 (he1 : starEach [e1, e2] env = (false, eval e1 env) :: starEach [e2] env := by rfl) (he2 : starEach [e2] env = (false, eval e2 env) :: starEach [] env := by rfl) (hplain : (backTo p (starEach [e1, e2] env)).any (·.1) = false := by rfl) : Gv M A g L m N (eval (.Call fe [e1, e2] [] p) env) P X :=
 gv_Call hf (gv_callWith (PA := fun vs N' => ∃ v u, vs = [v, u] ∧ p2 v u N') (PK := fun vs ks N' => ∃ v u, vs = [v, u] ∧ ks = [] ∧ p2 v u N') B hk (gr_cons h1 (fun v N' e => gr_cons (h2 v N' e) (fun u N2 e' => gr_nil ⟨v, u, rfl, e'⟩) he2) he1)
  (fun vs N' e => gk_nil (by obtain ⟨v, u, rfl, e⟩ := e; exact ⟨v, u, rfl, rfl, e⟩)) (fun vs ks N' e => by obtain ⟨v, u, rfl, rfl, e⟩ := e; exact hc v u N' e) (by rfl) hplain (by rfl)) he
theorem gv_c3 {fe e1 e2 e3 : Expr} {p : Pos} {f : Value} {p1 p2 p3 : Value → Prop} {P : Value → Led → Prop} (B : Bs K g) (hf : EvP M A g L m N (eval fe env) (IsV f)) (hk : Kp K f) (h1 : EvP M A g L m N (eval e1 env) p1) (h2 : EvP M A g L m N (eval e2 env) p2) (h3 : EvP M A g L m N (eval e3 env) p3) (hc : ∀ v u t, p1 v → p2 u → p3 t → Gv M A g L m N (call f [v, u, t]) P X)
 (he : eval (.Call fe [e1, e2, e3] [] p) env = (do callWith p (← eval fe env) [] (backTo p (starEach [e1, e2, e3] env)) (backToKw p (keywordEach [] env))) := by rfl)
 (he1 : starEach [e1, e2, e3] env = (false, eval e1 env) :: starEach [e2, e3] env := by rfl) (he2 : starEach [e2, e3] env = (false, eval e2 env) :: starEach [e3] env := by rfl) (he3 : starEach [e3] env = (false, eval e3 env) :: starEach [] env := by rfl) (hplain : (backTo p (starEach [e1, e2, e3] env)).any (·.1) = false := by rfl) : Gv M A g L m N (eval (.Call fe [e1, e2, e3] [] p) env) P X :=
 gv_Call hf (gv_callWith (PA := fun vs N' => (∃ v u t, vs = [v, u, t] ∧ p1 v ∧ p2 u ∧ p3 t) ∧ N' = N) (PK := fun vs ks N' => (∃ v u t, vs = [v, u, t] ∧ p1 v ∧ p2 u ∧ p3 t ∧ ks = []) ∧ N' = N) B hk (by
  refine gr_cons h1.gv (fun v N' e => ?_) he1
  obtain ⟨e, rfl⟩ := e
  refine gr_cons h2.gv (fun u N2 e' => ?_) he2
  obtain ⟨e', rfl⟩ := e'
  refine gr_cons h3.gv (fun t N3 e'' => ?_) he3
  obtain ⟨e'', rfl⟩ := e''
  exact gr_nil ⟨⟨v, u, t, rfl, e, e', e''⟩, rfl⟩)
  (fun vs N' e => by obtain ⟨⟨v, u, t, rfl, e1, e2, e3⟩, rfl⟩ := e; exact gk_nil ⟨⟨v, u, t, rfl, e1, e2, e3, rfl⟩, rfl⟩) (fun vs ks N' e => by obtain ⟨⟨v, u, t, rfl, e1, e2, e3, rfl⟩, rfl⟩ := e; exact hc v u t e1 e2 e3) (by rfl) hplain (by rfl)) he
theorem gv_g3 {fe e1 e2 e3 : Expr} {p : Pos} {f : Value} {p1 p2 p3 : Value → Prop} {P : Value → Led → Prop} (B : Bs K g) (hf : EvP (model prog w) A g L m N (eval fe env) (IsV f)) (hk : Kp K f) (h1 : EvP (model prog w) A g L m N (eval e1 env) p1) (h2 : EvP (model prog w) A g L m N (eval e2 env) p2) (h3 : EvP (model prog w) A g L m N (eval e3 env) p3) (hc : ∀ v u t, p1 v → p2 u → p3 t → Gc (model prog w) A g L m N (.call f ⟨[v, u, t], []⟩) P X)
 (he : eval (.Call fe [e1, e2, e3] [] p) env = (do callWith p (← eval fe env) [] (backTo p (starEach [e1, e2, e3] env)) (backToKw p (keywordEach [] env))) := by rfl)
 (he1 : starEach [e1, e2, e3] env = (false, eval e1 env) :: starEach [e2, e3] env := by rfl) (he2 : starEach [e2, e3] env = (false, eval e2 env) :: starEach [e3] env := by rfl) (he3 : starEach [e3] env = (false, eval e3 env) :: starEach [] env := by rfl) (hplain : (backTo p (starEach [e1, e2, e3] env)).any (·.1) = false := by rfl) : Gv (model prog w) A g L m N (eval (.Call fe [e1, e2, e3] [] p) env) P X :=
 gv_c3 B hf hk h1 h2 h3 (fun v u t a b c => gv_of_gc (hc v u t a b c)) he he1 he2 he3 hplain
end
noncomputable def kj (ns : List Int) (j : Nat) : HD := (rootK ns).path ((pth ns).take j)
theorem kj_pr (ns : List Int) (j : Nat) : (kj ns j).pr = true := path_pr _ _
theorem kj_dep (ns : List Int) (j : Nat) : (kj ns j).dep + 1 < 256 := by
 unfold kj
 rw [path_dep]
 have h1 := List.length_take_le j (pth ns)
 have h2 := pcnt_le ns
 have h3 := pth_len ns
 have h4 : (rootK ns).dep = 0 := rfl
 have h5 := List.length_take_le' j (pth ns)
 omega
theorem LS.mono {P : Params} {ns : List Int} {L : Addr} {oc : Obj} {x0 pb Dp : Addr} {m m' : Loc} {N N' : Led} (h : LS P ns L oc x0 pb Dp m N) (h1 : lk m' "root" = lk m "root") (h2 : lk m' "public" = lk m "public") (h3 : lk m' "path" = lk m "path") (hN : ∀ p ∈ N, p ∈ N') : LS P ns L oc x0 pb Dp m' N' :=
 ⟨hN _ h.cell, h1 ▸ h.lroot, h2 ▸ h.lpub, h3 ▸ h.lpath, h.root.sub hN, h.pub.sub hN, let ⟨ys, c, a, b⟩ := h.path; ⟨ys, c, hN _ a, b⟩⟩
structure LK (P : Params) (ns : List Int) (L : Addr) (oc : Obj) (x0 pb Dp : Addr) (j : Nat) (m : Loc) (N : Led) : Prop where
 s : LS P ns L oc x0 pb Dp m N
 ok : PathOk (rootK ns) ((pth ns).take j)
 ky : ∃ xk xb, lk m "key" = some (.ref xk) ∧ lk m "bare" = some (.ref xb) ∧ HL P N xk (kj ns j) ∧ HL P N xb (kj ns j).pub
theorem LK.gd {P : Params} {ns : List Int} {L : Addr} {oc : Obj} {x0 pb Dp : Addr} {j : Nat} {m : Loc} {N : Led} (h : LK P ns L oc x0 pb Dp j m N) : (kj ns j).Gd := h.ok.gd (rootK_gd ns)
theorem kj_succ {ns : List Int} {j i : Nat} (h : (pth ns)[j]? = some i) : kj ns (j + 1) = (kj ns j).child i := by
 unfold kj
 rw [List.take_succ, h, path_app]
 rfl
theorem ok_succ {ns : List Int} {j i : Nat} (h : (pth ns)[j]? = some i) (ok : PathOk (rootK ns) ((pth ns).take j)) (hz : 0 < (kj ns j).cnum i) : PathOk (rootK ns) ((pth ns).take (j + 1)) := by
 rw [List.take_succ, h]
 refine (pathOk_app _ _ _).mpr ⟨ok, ?_⟩
 have hi := pth_lt (List.mem_of_getElem? h)
 exact ⟨by omega, fun e => by omega, hz, kj_dep ns j, trivial⟩
noncomputable def loopB : List Stmt → List Stmt
 | .For _ _ b _ _ :: _ => b
 | _ => []
section
variable {w : World} {M : Model} {A : Around} {g : Heap} {L D x y : Addr} {m : Loc} {N : Led} {env : Env} {X : Value → Led → Prop} {n : Nat} {k : HD} {i : Nat}
theorem gv_pairC {e1 e2 : Expr} {kk : Nat} {p : Pos} {p1 : Value → Prop} {p2 : Value → Led → Prop} (h1 : EvP M A g L m N (eval e1 env) p1) (h2 : Gv M A g L m N (eval e2 env) p2 X)
 (he1 : starEach [e1, e2] env = (false, eval e1 env) :: starEach [e2] env := by rfl) (he2 : starEach [e2] env = (false, eval e2 env) :: starEach [] env := by rfl) :
 Gv M A g L m N (eval (.Tuple [e1, e2] kk p) env) (fun v N' => ∃ (D : Addr) (v1 v2 : Value) (n : Nat) (N2 : Led), v = .ref D ∧ N' = (D, { cls := .type "tuple", data := .seq #[v1, v2] n }) :: N2 ∧ p1 v1 ∧ p2 v2 N2) X := by
 refine gv_mono (gv_tuple (PA := fun vs N' => ∃ v1 v2, vs = [v1, v2] ∧ p1 v1 ∧ p2 v2 N') (gr_cons h1.gv (fun v N' e => ?_) he1) fun vs N' ⟨v1, v2, e, _⟩ => by rw [e]; show 2 ≤ 1000; decide) ?_
 · obtain ⟨e, rfl⟩ := e
   exact gr_cons h2 (fun u N2 e2 => gr_nil ⟨v, u, rfl, e, e2⟩) he2
 · rintro v N' ⟨T, vs, N2, rfl, ⟨v1, v2, rfl, h1, h2⟩, rfl⟩
   exact ⟨T, v1, v2, _, N2, rfl, rfl, h1, h2⟩
theorem gv_nokey {xn yn : Str} {p1 p2 p3 p4 p5 p6 p7 p8 p9 q1 q2 q3 q4 q5 q6 : Pos} {k1 k2 : Nat} (B : Bs (KF w.params) g) (r : Rm A 10) (h : HdO w.params (Ob g N) x k) (ok : k.Gd) (hp : k.pr = true) (hi : i < 4294967296) (hz : k.cnum i = 0)
 (h1 : ∀ p, EvP (model PR w) A g L m N (eval (.Name xn p) (LW L)) (IsV (.ref x))) (h2 : ∀ p, EvP (model PR w) A g L m N (eval (.Name yn p) (LW L)) (IsI (i : Int))) :
 EvP (model PR w) A g L m N (eval (.Compare (.Call (.Name "ec_privkey_add" p1) [.Subscript (.Call (.Name "_law_raw" p2) [.Name xn q4, .Name yn q5] [] p3) (.Slice none (some (.Constant (.int 32) k1 q1)) none q2) p4, .Attribute (.Name xn q6) "secret" p5] [] p6) [.Eq] [.Call (.Name "bytes" p7) [.Constant (.int 32) k2 q3] [] p8] p9) (LW L)) (IsT true) := by
 have hrl := k.raw_len i
 have kl := ok.1.kl
 refine evT_eq (ev_cmp1 (ev_g2 B (ev_global B (gl_ec_privkey_add _)) (kp_ec_privkey_add _) (evB_eq (ev_slB (ev_g2 B (ev_global B (gl_law_raw _)) (kp_law_raw _) (h1 _) (h2 _) fun v u h1 h2 => by
  obtain rfl : v = _ := h1
  exact s_lraw B r.le h ok.1 hp h2 hi) pt_none (pt_int ev_int) (by omega)) (sl_to _ 32)) (ev_hsecret B r.le (h1 _) h hp) fun v u h1 h2 => s_privadd B r.le (by simp; omega) (by omega) h1 h2) (ev_Call1 B (ev_builtin B (no_bytes _) (by rfl)) kp_t ev_int fun v h => call_bytes32 h) fun x y h h' => co_eqB h h') ?_
 rw [← k.cnum_t hp, hz]
 decide
end
noncomputable def ifT : List Stmt → Expr
 | .If t _ _ _ :: _ => t
 | _ => .Constant .none 0 default
section
variable {w : World} {A : Around} {E : Value → Shared → Prop} {g : Heap} {L C a c R x y : Addr} {m : Loc} {X : Value → Led → Prop} {k : HD} {i : Nat}
theorem law_test {C R : Led} {xk xb y : Addr} (B : Bs (KF w.params) g) (r : Rm A 14) (kg : k.Gd) (kg' : (k.child i).Gd) (hp : k.pr = true) (hi : i < 4294967296)
 (hk : HL w.params R xk k) (hy : HdO w.params (fun a o => (a, o) ∈ C) y (k.child i)) (hb : HL w.params R xb (k.child i).pub)
 (l1 : lk m "parent" = some (.ref xk)) (l2 : lk m "key" = some (.ref y)) (l3 : lk m "bare" = some (.ref xb)) (l4 : ∃ t, lk m "index" = some (.int (i : Int) t)) :
 GTst (model PR w) A g L m (C ++ R) (ifT (dropS (loopB (dropS (fb1 65) 6)) 3)) (LW L) (fun b N' => b = false ∧ ∃ C', HdO w.params (fun a o => (a, o) ∈ C') y (k.child i) ∧ N' = C' ++ R) X := by
 obtain ⟨ti, l4⟩ := l4
 have inR : ∀ {C : Led}, ∀ q ∈ R, q ∈ C ++ R := fun q hq => List.mem_append_right _ hq
 have inC : ∀ {C : Led}, HdO w.params (fun a o => (a, o) ∈ C) y (k.child i) → HL w.params (C ++ R) y (k.child i) := fun h => h.mono fun a o e => List.mem_append_left _ e
 refine gt_or (p1 := fun b N' => b = false ∧ N' = C ++ R) (gts_eq (gts_not (gts_T (c := true) (gv_g3 B (ev_global B (gl_law_right _)) (kp_law_right _) (ev_local l2) (ev_local l1) (ev_localI l4) fun a b t h1 h2 h3 => ?_))) rfl) (fun N' e => by cases e.1) fun N' e => ?_
 · obtain rfl : a = _ := h1
   obtain rfl : b = _ := h2
   exact s_lright B r.le (hk.sub inR).O (inC hy).O kg kg' hp h3 hi
 obtain ⟨-, rfl⟩ := e
 refine gt_or (p1 := fun b N' => b = false ∧ ∃ C', HdO w.params (fun a o => (a, o) ∈ C') y (k.child i) ∧ N' = C' ++ R) (gt_cmp1 (p1 := fun v N' => IsB (k.child i).fpr v ∧ ∃ C', HdO w.params (fun a o => (a, o) ∈ C') y (k.child i) ∧ N' = C' ++ R) (p2 := fun x v N' => IsB (k.child i).fpr x ∧ IsB (k.child i).fpr v ∧ ∃ C', HdO w.params (fun a o => (a, o) ∈ C') y (k.child i) ∧ N' = C' ++ R) (ev_hmf B r.le (ev_local l2) hy kg').gv (fun x N' e => ?_) fun x v N' e => ?_) (fun N' e => by cases e.1) fun N' e => ?_
 · obtain ⟨e, C', hy', rfl⟩ := e
   exact Ev.gv (ev_mono (evB_eq (ev_slB (ev_g1 B (ev_global B (gl_hash160 _)) (kp_hash160 _) (ev_hsec B r.le (ev_local l2) (inC hy').O kg'.1) fun v h => s_h160 B r.le (by rw [HD.sec_len]; decide) h) pt_none (pt_int ev_int) (by unfold h160 ripe; simp [sha_length])) (sl_to _ 4)) fun v N2 e2 => ⟨e, e2.1, C', hy', e2.2⟩)
 · obtain ⟨e1, e2, C', hy', rfl⟩ := e
   exact Ev.gv (ev_mono (evT_eq (co_neB e1 e2) (bne_self_eq_false _)) fun v N2 e3 => ⟨false, e3.1, rfl, C', hy', e3.2⟩)
 obtain ⟨-, C', hy', rfl⟩ := e
 refine gt_or (p1 := fun b N' => b = false ∧ N' = C' ++ R) (gts_eq (gts_not (gts_T (c := true) (gv_weaken (gv_c2G (p1 := fun v N' => ∃ z, v = .ref z ∧ HdE w.params (k.child i).pub z (C' ++ R) N') (p2 := fun v u N' => ∃ z, v = .ref z ∧ u = .ref xb ∧ HdE w.params (k.child i).pub z (C' ++ R) N') (P := fun v N' => IsT true v ∧ ∃ E, N' = E ++ (C' ++ R)) B (ev_global B (gl_law_same _)) (kp_law_same _) (gv_m0 (Po := fun v N' => v = .ref y ∧ N' = C' ++ R) B (ev_local l2).gv fun ov N1 e => ?_) (fun v N' e => ?_) fun v u N' e => ?_) fun v N' e => ?_))) rfl) (fun N' e => by cases e.1) fun N' e => ?_
 · obtain ⟨rfl, rfl⟩ := e
   exact ⟨y, 1410, rfl, (inC hy').O.mth (fm_HDKey_to_public _) (fn_1410 _) (kp_1410 _), s_topub B r.le (inC hy').O kg' hp⟩
 · obtain ⟨z, rfl, hE⟩ := e
   exact Ev.gv (ev_mono (ev_local l3) fun u N2 e => ⟨z, rfl, e.1, e.2 ▸ hE⟩)
 · obtain ⟨z, rfl, rfl, E, hE, rfl⟩ := e
   exact gv_mono (gv_of_gc (s_lsame B r.le (HL.O (hE.mono fun a o e => List.mem_append_left _ e)) (HL.O (hb.sub fun q hq => List.mem_append_right _ (inR q hq))) (kg'.pub hp))) fun v N' e => ⟨e.1, E, e.2⟩
 · obtain ⟨e, E, rfl⟩ := e
   exact ⟨C' ++ R, List.sublist_append_right _ _, e, rfl⟩
 obtain ⟨-, rfl⟩ := e
 refine gt_or (p1 := fun b N' => b = false ∧ N' = C' ++ R) (gts_T (ev_hpriv (k := (k.child i).pub) B r.le (ev_local l3) (hb.sub inR).O).gv) (fun N' e => by cases e.1) fun N' e => ?_
 obtain ⟨-, rfl⟩ := e
 refine gt_or (p1 := fun b N' => b = false ∧ N' = C' ++ R) (gts_eq (gts_not (gts_T (c := true) (Ev.gv (evT_eq (ev_hpriv B r.le (ev_local l2) (inC hy').O) hp)))) rfl) (fun N' e => by cases e.1) fun N' e => ?_
 obtain ⟨-, rfl⟩ := e
 exact gt_or0 ⟨rfl, C', hy', rfl⟩
end
section
variable {w : World} {A : Around} {s : Shared} {g : Heap} {L C I a c x y x0 pb Dp : Addr} {m : Loc} {N N₁ : Led} {XS : Value → Loc → Led → Prop} {ns : List Int} {oc : Obj} {k : HD} {i j : Nat}
theorem law_step {v : Value} {it : Obj} (B : Bs (KF w.params) g) (r : Rm A 14) (ll : LL A L) (J : LK w.params ns L oc x0 pb Dp j m N) (hi : (pth ns)[j]? = some i) (hv : IsI (i : Int) v) :
 Gs (model PR w) A g L (("index", v) :: m) (N ++ [(I, it)]) (execs (loopB (dropS (fb1 65) 6)) (LW L)) (fun fl m' N' => fl = .ret (.bool true) ∨ (fl = .next ∧ ∃ N₃, N' = N₃ ++ [(I, it)] ∧ LK w.params ns L oc x0 pb Dp (j + 1) m' N₃ ∧ ∀ q ∈ N, q ∈ N₃)) XS := by
 have kg := J.gd
 have kp := kj_pr ns j
 have hd := kj_dep ns j
 have hlt := pth_lt (List.mem_of_getElem? hi)
 have hs1 := kj_succ hi
 have hos := ok_succ hi J.ok
 obtain ⟨xk, xb, l1, l2, h1, h2⟩ := J.ky
 have JS := J.s
 clear J
 generalize kj ns j = k at *
 obtain ⟨ti, rfl⟩ := hv
 have inN : ∀ q ∈ N, q ∈ N ++ [(I, it)] := fun q hq => List.mem_append_left _ hq
 have l1' : lk (("index", .int (i : Int) ti) :: m) "key" = some (.ref xk) := l1
 have l2' : lk (("index", .int (i : Int) ti) :: m) "bare" = some (.ref xb) := l2
 by_cases hz : k.cnum i = 0
 · refine gs_tup2 r.le (P := fun v1 v2 N' => IsV (.ref xk) v1 ∧ IsV .none v2 ∧ N' = N ++ [(I, it)]) (gv_pairC (p1 := IsV (.ref xk)) (p2 := fun v N' => IsV .none v ∧ N' = N ++ [(I, it)]) (ev_local l1') (gv_g3 B (ev_global B (gl_law_child _)) (kp_law_child _) (ev_local l1') (ev_localI rfl) ev_bool fun v u t a b c => ?_)) ?_
   · obtain rfl : v = _ := a
     exact s_lchild0 B r.le ll (h1.sub inN).O kg b c (fun e => by cases e) (by omega) kp hz
   rintro v1 v2 N' ⟨e1, e2, rfl⟩
   obtain rfl : v1 = _ := e1
   obtain rfl : v2 = _ := e2
   refine gs_if1 (tst_eq (tst_cmp1 (ev_local rfl) ev_none fun x y h h' => co_is h h' rfl) rfl) ?_
   exact gs_return (gv_nokey B r.le (h1.sub inN).O kg kp (by omega) hz (fun p => ev_local rfl) (fun p => ev_localI rfl)).gv fun v N' h => .inl (by rw [show v = .bool true from h.1])
 · have hz : 0 < k.cnum i := Nat.pos_of_ne_zero hz
   have kg' : (k.child i).Gd := kg.child hz hd (by omega)
   refine gs_tup2 r.le (P := fun v1 v2 N' => IsV (.ref xk) v1 ∧ ∃ y, v2 = .ref y ∧ HdE w.params (k.child i) y (N ++ [(I, it)]) N') (gv_pairC (p1 := IsV (.ref xk)) (p2 := fun v N' => ∃ y, v = .ref y ∧ HdE w.params (k.child i) y (N ++ [(I, it)]) N') (ev_local l1') (gv_g3 B (ev_global B (gl_law_child _)) (kp_law_child _) (ev_local l1') (ev_localI rfl) ev_bool fun v u t a b c => ?_)) ?_
   · obtain rfl : v = _ := a
     exact s_lchild B r.le (h1.sub inN).O kg b c (fun e => by cases e) (by omega) (fun e => by omega) hz hd
   rintro v1 v2 N' ⟨e1, y, rfl, C, hy, rfl⟩
   obtain rfl : v1 = _ := e1
   refine gs_if0 (tst_eq (tst_cmp1 (ev_local rfl) ev_none fun x y h h' => co_is h h' rfl) rfl) ?_
   refine gs_assign (P := fun v N' => ∃ z, v = .ref z ∧ HdE w.params (k.child i).pub z (C ++ (N ++ [(I, it)])) N') (gv_m1 (Po := fun v N2 => v = .ref xb ∧ N2 = C ++ (N ++ [(I, it)])) B (Ev.gv (ev_local l2')) fun ov N1 e => ?_) ?_
   · obtain ⟨rfl, rfl⟩ := e
     have hb : HdO w.params (Ob g (C ++ (N ++ [(I, it)]))) xb k.pub := (h2.sub fun q hq => List.mem_append_right _ (inN q hq)).O
     refine ⟨xb, 1447, fun v N2 => IsI (i : Int) v ∧ N2 = C ++ (N ++ [(I, it)]), rfl, hb.mth (fm_HDKey_child _) (fn_1447 _) (kp_1447 _), Ev.gv (ev_localI rfl), fun v N2 e => ?_⟩
     obtain ⟨⟨t, rfl⟩, rfl⟩ := e
     rw [HD.pub_child kp hlt]
     refine s_child B r.le hb (kg.pub kp) (.inl ⟨t, rfl⟩) (by omega) (fun e => by omega) ?_ hd
     rw [HD.pub_cnum kp hlt]
     exact mulB_pos hz (k.cnum_lt i)
   refine i_g fun z => i_k fun C2 hz2 => ?_
   refine gs_perm (N₁ := C ++ ((C2 ++ N) ++ [(I, it)])) ?_ ?_
   · refine (List.perm_append_comm_assoc C2 C (N ++ [(I, it)])).trans ?_
     rw [List.append_assoc]
   have inR : ∀ q ∈ N, q ∈ (C2 ++ N) ++ [(I, it)] := fun q hq => List.mem_append_left _ (List.mem_append_right _ hq)
   have hR : HL w.params ((C2 ++ N) ++ [(I, it)]) z (k.child i).pub := hz2.mono fun a o e => List.mem_append_left _ (List.mem_append_left _ e)
   refine gs_if (law_test B r kg kg' kp (by omega) (h1.sub inR) hy hR rfl rfl rfl ⟨ti, rfl⟩) (fun N' e => by cases e.1) fun N' e => ?_
   obtain ⟨-, C', hy', rfl⟩ := e
   have hY : HL w.params (C' ++ ((C2 ++ N) ++ [(I, it)])) y (k.child i) := hy'.mono fun a o e => List.mem_append_left _ e
   have hZ : HL w.params (C' ++ ((C2 ++ N) ++ [(I, it)])) z (k.child i).pub := hR.sub fun q hq => List.mem_append_right _ hq
   refine ny_nil (gs_ifF (gts_tupNeL (ds := [.inl ((k.dep + 1 : Nat) : Int), .inl (i : Int), .inr k.fpr, .inr ((k.raw i).drop 32)]) r.le (ad_int (ev_hdep (k := (k.child i).pub) B (ev_local rfl) hZ.O) (ad_int (ev_hix (k := (k.child i).pub) B (ev_local rfl) hZ.O) (ad_byt (ev_hfp (k := (k.child i).pub) B (ev_local rfl) hZ.O) (ad_byt (ev_hcc (k := (k.child i).pub) B (ev_local rfl) hZ.O) ad_nil)))) (fun t => ?_) (by simp)) ?_)
   · have hYt : HL w.params (t :: (C' ++ ((C2 ++ N) ++ [(I, it)]))) y (k.child i) := hY.sub fun q hq => .tail _ hq
     exact ad_int (ev_hdep B (ev_local rfl) hYt.O) (ad_int (ev_hix B (ev_local rfl) hYt.O) (ad_byt (ev_hfp B (ev_local rfl) hYt.O) (ad_byt (ev_hcc B (ev_local rfl) hYt.O) ad_nil)))
   refine gs_nil (.inr ⟨rfl, C' ++ (C2 ++ N), by simp, ?_⟩)
   have inX : ∀ q ∈ N, q ∈ C' ++ (C2 ++ N) := fun q hq => List.mem_append_right _ (List.mem_append_right _ hq)
   refine ⟨⟨JS.mono rfl rfl rfl inX, hos hz, y, z, rfl, rfl, ?_, ?_⟩, inX⟩
   · rw [hs1]; exact hy'.mono fun a o e => List.mem_append_left _ e
   · rw [hs1]; exact hz2.mono fun a o e => List.mem_append_right _ (List.mem_append_left _ e)
end
section
variable {w : World} {A : Around} {g : Heap} {L I c x0 pb Dp : Addr} {m : Loc} {N N₁ : Led} {XS : Value → Loc → Led → Prop} {n : Nat} {ns : List Int} {oc : Obj} {k : HD} {i j : Nat}
noncomputable abbrev Yes : Flow → Loc → Led → Prop := fun fl _ _ => fl = .ret (.bool true)
theorem law_loop (B : Bs (KF w.params) g) (r : Rm A 14) (ll : LL A L) (J : LS w.params ns L oc x0 pb Dp m N) (l1 : lk m "key" = some (.ref x0)) (l2 : lk m "bare" = some (.ref pb))
 (k : ∀ m' N', LK w.params ns L oc x0 pb Dp (pth ns).length m' N' → Gs (model PR w) A g L m' N' (execs (dropS (fb1 65) 7) (LW L)) Yes XS) : Gs (model PR w) A g L m N (execs (dropS (fb1 65) 6) (LW L)) Yes XS := by
 obtain ⟨ys, c, hD, hys⟩ := J.path
 have hlen : ys.length = (pth ns).length := by rw [hys.length, List.length_map]
 refine gs_for (n := ys.length) (P := fun i v => ys[i]? = some v) (kp := if (g.get? Dp).isSome then [] else [(Dp, listOf ys.toArray c)]) (fun j m' N' => LK w.params ns L oc x0 pb Dp j m' N' ∧ (Dp, listOf ys.toArray c) ∈ N')
  (Ev.gv (ev_mono (ev_local J.lpath) fun v N' e => by obtain ⟨rfl, rfl⟩ := e; exact ⟨it_list r.le (.inl hD), ⟨J, trivial, x0, pb, l1, l2, J.root, J.pub⟩, hD⟩)) (fun j m' N' h q hq => ?_) ?_ ?_
 · split at hq
   · exact absurd hq (List.not_mem_nil)
   · rw [List.mem_singleton.mp hq]; exact h.2
 · rintro j v m₁ N₁ I it hj hv ⟨hJ, hd⟩
   obtain ⟨z, t, rfl, hz⟩ := hys.at j v hv
   obtain ⟨i, hpi, rfl⟩ : ∃ i : Nat, (pth ns)[j]? = some i ∧ (i : Int) = z := by
    rw [List.getElem?_map] at hz
    exact Option.map_eq_some_iff.mp hz
   refine gs_mono (law_step (it := it) B r ll hJ hpi ⟨t, rfl⟩) fun fl m' N' e => ?_
   rcases e with rfl | ⟨rfl, N₃, rfl, h, hN⟩
   · rfl
   · exact ⟨N₃, rfl, h, hN _ hd⟩
 · rintro m₁ N₁ ⟨hJ, -⟩
   rw [hlen] at hJ
   exact k _ _ hJ
end
noncomputable def stp (ns : List Int) : Nat := 2147483648 + md (lnum ns 9 * 65537) 2147483648
theorem stp_ge (ns : List Int) : 2147483648 ≤ stp ns := Nat.le_add_right _ _
theorem stp_lt (ns : List Int) : stp ns < 4294967296 := by
 unfold stp
 have := md_lt (lnum ns 9 * 65537) (m := 2147483648) (by decide)
 omega
noncomputable def kl (ns : List Int) : HD := (rootK ns).path (pth ns)
noncomputable def kh (ns : List Int) : HD := (kl ns).child (stp ns)
theorem kl_eq (ns : List Int) : kj ns (pth ns).length = kl ns := by unfold kj kl; rw [List.take_length]
theorem kh_eq (ns : List Int) : kh ns = (rootK ns).path (pth ns ++ [stp ns]) := by rw [path_app]; rfl
theorem kl_pr (ns : List Int) : (kl ns).pr = true := path_pr _ _
theorem kl_dep (ns : List Int) : (kl ns).dep + 2 < 256 := by
 unfold kl
 rw [path_dep]
 have h2 := pcnt_le ns
 have h3 := pth_len ns
 have h4 : (rootK ns).dep = 0 := rfl
 omega
theorem tail_ne {k : HD} {i : Nat} (h : k.dep + 1 < 256) : ((k.child i).tail == k.tail) = false := by
 refine beq_eq_false_iff_ne.mpr fun e => ?_
 have h1 : UInt8.ofNat (k.dep + 1) = UInt8.ofNat k.dep := by
  have := congrArg List.head? e
  simpa [HD.tail, HD.child] using this
 have h2 := congrArg UInt8.toNat h1
 rw [UInt8.toNat_ofNat', UInt8.toNat_ofNat'] at h2
 omega
structure LH (P : Params) (ns : List Int) (L : Addr) (oc : Obj) (x0 pb Dp xb xh : Addr) (m : Loc) (N : Led) : Prop where
 s : LS P ns L oc x0 pb Dp m N
 ok : PathOk (rootK ns) (pth ns ++ [stp ns])
 lb : lk m "bare" = some (.ref xb)
 lh : lk m "hard" = some (.ref xh)
 lst : ∃ t, lk m "step" = some (.int (stp ns : Int) t)
 bare : HL P N xb (kl ns).pub
 hard : HL P N xh (kh ns)
section
variable {w : World} {A : Around} {s : Shared} {g : Heap} {L C a c D x y x0 pb Dp xb xh : Addr} {m : Loc} {N : Led} {XS : Value → Loc → Led → Prop} {its : List Value} {n : Nat} {ns : List Int} {oc : Obj} {k : HD} {i : Nat}
theorem LH.mono {P : Params} {m' : Loc} {N' : Led} (h : LH P ns L oc x0 pb Dp xb xh m N) (h1 : lk m' "root" = lk m "root") (h2 : lk m' "public" = lk m "public") (h3 : lk m' "path" = lk m "path") (h4 : lk m' "bare" = lk m "bare") (h5 : lk m' "hard" = lk m "hard") (h6 : lk m' "step" = lk m "step") (hN : ∀ p ∈ N, p ∈ N') : LH P ns L oc x0 pb Dp xb xh m' N' :=
 ⟨h.s.mono h1 h2 h3 hN, h.ok, h4 ▸ h.lb, h5 ▸ h.lh, h6 ▸ h.lst, h.bare.sub hN, h.hard.sub hN⟩
theorem LH.klgd {P : Params} (h : LH P ns L oc x0 pb Dp xb xh m N) : (kl ns).Gd := ((pathOk_app _ _ _).mp h.ok).1.gd (rootK_gd ns)
theorem LH.khgd {P : Params} (h : LH P ns L oc x0 pb Dp xb xh m N) : (kh ns).Gd := kh_eq ns ▸ h.ok.gd (rootK_gd ns)
theorem ev_lstep {p : Nat} {p1 p2 p3 p4 p5 p6 p7 p8 : Pos} {k1 k2 k3 : Nat} (B : Bs (KF w.params) g) (r : Rm A 2) (S : Scr g oc D its n ns) (hm : (L + 1, oc) ∈ N) (hp : p < 1000) :
 EvP (model PR w) A g L m N (eval (.BinOp (.BinOp (.Call (.Name "_law_number" p1) [.Name "script" p2, .Constant (.int (p : Int)) k1 p3] [] p4) .Mult (.Constant (.int 65537) k2 p5) p6) .Mod (.Constant (.int 2147483648) k3 p7) p8) (LW L)) (IsI ((md (lnum ns p * 65537) 2147483648 : Nat) : Int)) :=
 ev_md (ev_mul (ev_lnum B r S hm ev_int hp) ev_int (IntMulOk.of_le (m := 1048577) (n := 17) (lnum_bits S.hs (by omega)) (intBits_le_iff.mpr (by decide)) (by decide))) ev_int (by decide)
theorem law_hard (B : Bs (KF w.params) g) (r : Rm A 14) (ll : LL A L) (S : Scr g oc D its n ns) (J : LK w.params ns L oc x0 pb Dp (pth ns).length m N)
 (k : ∀ m' N' xb xh, LH w.params ns L oc x0 pb Dp xb xh m' N' → Gs (model PR w) A g L m' N' (execs (dropS (fb1 65) 11) (LW L)) Yes XS) : Gs (model PR w) A g L m N (execs (dropS (fb1 65) 7) (LW L)) Yes XS := by
 have kg := J.gd
 have kok := J.ok
 obtain ⟨xk, xb, l1, l2, h1, h2⟩ := J.ky
 have JS := J.s
 clear J
 rw [kl_eq] at kg h1 h2
 rw [List.take_length] at kok
 have kp := kl_pr ns
 have kd := kl_dep ns
 have hlt := stp_lt ns
 have hge := stp_ge ns
 refine gs_assign (P := fun v N' => IsI (stp ns : Int) v ∧ N' = N) (Ev.gv (evI_eq (ev_add ev_int (ev_lstep (p := 9) B r.le S JS.cell (by decide))) (by unfold stp; omega))) ?_
 refine i_a fun ti => ?_
 by_cases hz : (kl ns).cnum (stp ns) = 0
 · refine gs_assign (P := fun v N' => IsV .none v ∧ N' = N) (gv_g3 B (ev_global B (gl_law_child _)) (kp_law_child _) (ev_local l1) (ev_localI rfl) (ev_cmp1 (ev_md (k := 2) (ev_lnum B r.le S JS.cell ev_int (by decide)) ev_int (by decide)) ev_int fun x y h h' => co_eq h h') fun v u t a b c => ?_) ?_
   · obtain rfl : v = _ := a
     exact s_lchild0 B r.le ll h1.O kg b c (fun e => hge) hlt kp hz
   refine i_c fun v e1 => ?_
   obtain rfl : v = _ := e1
   refine gs_if1 (tst_eq (tst_cmp1 (ev_local rfl) ev_none fun x y h h' => co_is h h' rfl) rfl) ?_
   exact gs_return (Ev.gv (gv_nokey B r.le h1.O kg kp hlt hz (fun p => ev_local l1) (fun p => ev_localI rfl))) fun v N' h => congrArg Flow.ret h.1
 · have hz : 0 < (kl ns).cnum (stp ns) := Nat.pos_of_ne_zero hz
   have kg' : (kh ns).Gd := kg.child hz (by omega) (by omega)
   refine gs_assign (P := fun v N' => ∃ y, v = .ref y ∧ HdE w.params (kh ns) y N N') (gv_g3 B (ev_global B (gl_law_child _)) (kp_law_child _) (ev_local l1) (ev_localI rfl) (ev_cmp1 (ev_md (k := 2) (ev_lnum B r.le S JS.cell ev_int (by decide)) ev_int (by decide)) ev_int fun x y h h' => co_eq h h') fun v u t a b c => ?_) ?_
   · obtain rfl : v = _ := a
     exact s_lchild B r.le h1.O kg b c (fun e => hge) hlt (fun e => kp) hz (by omega)
   refine i_g fun xh => i_k fun C hy => ?_
   have inN : ∀ q ∈ N, q ∈ C ++ N := fun q hq => List.mem_append_right _ hq
   have hh : HL w.params (C ++ N) xh (kh ns) := hy.mono fun a o e => List.mem_append_left _ e
   have h1 := h1.sub inN
   have h2 := h2.sub inN
   have JS := JS.mono (m' := ("hard", .ref xh) :: ("step", .int (stp ns : Int) ti) :: m) rfl rfl rfl inN
   refine gs_if0 (tst_eq (tst_cmp1 (ev_local rfl) ev_none fun x y h h' => co_is h h' rfl) rfl) ?_
   refine gs_ifF (gts_eq (gts_or (b := false) (c := false) (gts_eq (gts_not (gts_T (c := true) (gv_g3 B (ev_global B (gl_law_right _)) (kp_law_right _) (ev_local rfl) (ev_local l1) (ev_localI rfl) fun a b t e1 e2 e3 => ?_))) rfl) fun _ => gts_or (b := false) (c := false) (gts_eq (gts_cmp1 (Ev.gv (ev_local rfl)) (Ev.gv (ev_local l1)) fun x y e1 e2 => ?_) (tail_ne (k := kl ns) (i := stp ns) (by omega))) fun _ => gts_or0) rfl) ?_
   · obtain rfl : a = _ := e1
     obtain rfl : b = _ := e2
     exact s_lright B r.le h1.O hh.O kg kg' kp e3 hlt
   · obtain rfl : x = _ := e1
     obtain rfl : y = _ := e2
     exact co_eqH B r.le hh.O h1.O kg' kg
   exact k _ _ xb xh ⟨JS, (pathOk_app _ _ _).mpr ⟨kok, hlt, fun e => kp, hz, by show (kl ns).dep + 1 < 256; omega, trivial⟩, l2, rfl, ⟨ti, rfl⟩, h2, hh⟩
end
theorem join_tx : ∀ l : List (List Nat), Txt.join (Str.ofString "") (l.map tx) = tx l.flatten := by
 have h : ∀ l : List (List Nat), Str.join (Str.ofString "") (l.map tx) = tx l.flatten := by
  intro l
  induction l with
  | nil => rfl
  | cons c r ih =>
   cases r with
   | nil => show tx c = tx (c ++ []); rw [List.append_nil]
   | cons d r =>
    show tx c ++ Str.ofString "" ++ Str.join (Str.ofString "") ((d :: r).map tx) = _
    rw [ih, show Str.ofString "" = tx [] from rfl, tx_append, tx_append, List.append_nil]
    rfl
 exact fun l => by rw [eq_of_beq (join_plain_closes (Str.ofString "") (l.map tx)), h]
theorem strs_of : ∀ {ys : List Value} {xs : List Str}, ys.length = xs.length → (∀ (j : Nat) y, ys[j]? = some y → ∃ x, xs[j]? = some x ∧ IsS x y) → StrsAre ys xs
 | [], [], _, _ => .nil
 | y :: ys, n :: ns, hl, h => by
  obtain ⟨n', e, t, rfl⟩ := h 0 y rfl
  obtain rfl : n = n' := Option.some.inj e
  exact .cons _ t (strs_of (by simpa using hl) fun j y hy => h (j + 1) y hy)
theorem ptx_len : ∀ {p : List Nat}, (∀ i ∈ p, i < 10000000000) → (ptx p).length ≤ 11 * p.length
 | [], _ => Nat.le_refl _
 | n :: r, h => by
  have h1 := dg_len (h n (.head _))
  have h2 := ptx_len fun i hi => h i (.tail _ hi)
  rw [ptx_cons, List.length_append, List.length_cons, List.length_cons]
  omega
theorem sum_len : ∀ {p : List Nat}, (∀ i ∈ p, i < 10000000000) → ((((p.map fun n => 47 :: dg n).map tx)).map (·.length)).sum ≤ 11 * p.length
 | [], _ => Nat.le_refl _
 | n :: r, h => by
  have h1 := dg_len (h n (.head _))
  have h2 := sum_len fun i hi => h i (.tail _ hi)
  rw [List.map_cons, List.map_cons, List.map_cons, List.sum_cons, tx_len, List.length_cons, List.length_cons]
  omega
theorem p2s_low : ∀ {p : List Nat}, (∀ i ∈ p, i < 2147483648) → p.flatMap p2 = ptx p
 | [], _ => rfl
 | n :: r, h => by
  rw [List.flatMap_cons, p2s_low fun i hi => h i (.tail _ hi), p2_lo (by have := h n (.head _); omega), ptx_cons]
noncomputable def sth (ns : List Int) : Nat := md (lnum ns 9 * 65537) 2147483648
theorem stp_sub (ns : List Int) : stp ns - 2147483648 = sth ns := Nat.add_sub_cancel_left _ _
theorem sth_lt (ns : List Int) : sth ns < 2147483648 := md_lt _ (by decide)
noncomputable def txt (ns : List Int) : List Nat := 109 :: ptx (pth ns) ++ 47 :: dg (sth ns)
theorem pth_big {ns : List Int} : ∀ i ∈ pth ns, i < 10000000000 := fun i h => by have := pth_lt h; omega
theorem txt_len (ns : List Int) : (txt ns).length ≤ 40 := by
 have h1 := ptx_len (pth_big (ns := ns))
 have h2 := pth_len ns
 have h3 := pcnt_le ns
 have h4 := dg_len (n := sth ns) (by have := sth_lt ns; omega)
 unfold txt
 rw [List.length_append, List.length_cons, List.length_cons]
 omega
theorem p2s_txt (ns : List Int) : 109 :: (pth ns ++ [stp ns]).flatMap p2 = txt ns ++ [104] := by
 rw [List.flatMap_append, p2s_low fun i h => pth_lt h, List.flatMap_cons, List.flatMap_nil, p2_hi (stp_ge ns), stp_sub]
 unfold txt
 simp
section
variable {w : World} {M : Model} {A : Around} {prog : Program} {E : Value → Shared → Prop} {s : Shared} {g : Heap} {L a c D x y : Addr} {m : Loc} {N : Led} {env : Env} {X : Value → Led → Prop} {its : List Value} {n : Nat} {k : HD}
theorem call_strI {v : Value} {n : Nat} (h : IsI (n : Int) v) (hn : n < 10000000000) : EvP (model prog w) A g L m N (call (.type "str") [v]) (IsS (tx (dg n))) := fun s Q E W q => by
 obtain ⟨t, rfl⟩ := h
 refine P.str_of_int (a := (n : Int)) ?_ (q _ s.heap _ N ⟨⟨s.toks, ?_⟩, rfl⟩ W)
 · show n.log2 < 1920
   rcases Nat.eq_zero_or_pos n with rfl | h
   · decide
   · exact Nat.lt_trans ((Nat.log2_lt (k := 64) (by omega)).mpr (Nat.lt_trans hn (by decide))) (by decide)
 · rw [← str_dg]
theorem gv_BinOp2 {l r : Expr} {op : Operator} {p : Pos} {p1 : Value → Led → Prop} {p2 : Value → Value → Led → Prop} {P : Value → Led → Prop} (h1 : Gv M A g L m N (eval l env) p1 X) (h2 : ∀ x N', p1 x N' → Gv M A g L m N' (eval r env) (p2 x) X)
 (h : ∀ x y N2, p2 x y N2 → Gv M A g L m N2 (binaryOp op x y) P X) : Gv M A g L m N (eval (.BinOp l op r p) env) P X := by
 rw [arm_eval_BinOp]
 exact gv_bind h1 fun x N1 e1 => gv_bind (gv_holding (h2 x N1 e1)) fun y N2 e2 => gv_at (gv_operate (h x y N2 e2))
theorem gv_addL {l e : Expr} {lp p : Pos} {J : Led → Prop} {P2 : Value → Prop} (h1 : Gv (model prog w) A g L m N (eval l env) (fun v N' => ∃ D c, v = .ref D ∧ Ob g N' D (listOf its.toArray c) ∧ J N') X) (h2 : ∀ N', J N' → EvP (model prog w) A g L m N' (eval e env) P2) (hz : its.length ≤ 1000)
 (he : starEach [e] env = (false, eval e env) :: starEach [] env := by rfl) :
 Gv (model prog w) A g L m N (eval (.BinOp l .Add (.List [e] lp) p) env) (fun v N' => ∃ D' x N1, v = .ref D' ∧ P2 x ∧ J N1 ∧ ∃ t, N' = (D', listOf (its ++ [x]).toArray 0) :: t :: N1) X := by
 refine gv_BinOp2 (p2 := fun v u N' => ∃ D c D' x N1, v = .ref D ∧ u = .ref D' ∧ P2 x ∧ Ob g N1 D (listOf its.toArray c) ∧ J N1 ∧ N' = (D', listOf [x].toArray 0) :: N1) h1 (fun v N' h => ?_) fun v u N2 h => ?_
 · obtain ⟨D, c, rfl, hO, hJ⟩ := h
   refine Ev.gv (ev_list (PA := fun vs N2 => ∃ x, vs = [x] ∧ P2 x ∧ N2 = N') (ar_cons (h2 N' hJ) (fun x N2 e => ar_nil ⟨x, rfl, e.1, e.2⟩) he) fun vs N2 e => ?_)
   obtain ⟨x, rfl, hx, rfl⟩ := e
   exact ev_mono (ev_newList (by show 1 ≤ sizeLine; decide)) fun u N3 ⟨D', e1, e2⟩ => ⟨D, c, D', x, N2, rfl, e1, hx, hO, hJ, e2⟩
 · obtain ⟨D, c, D', x, N1, rfl, rfl, hx, hO, hJ, rfl⟩ := h
   refine Ev.gv fun s Q E W q => add_lists W.fr W.nw (hO.at (W.sub (List.sublist_cons_self _ _)) |> isList_of) (isList_of (W.nw _ (.head _)).1) (fun h' F' N' => ?_) (by rw [sizeLine_eq]; simp; omega)
   exact q _ h' s.toks _ ⟨_, x, N1, rfl, hx, hJ, _, rfl⟩ (nodup_push W (fun p hp => Heap.lt_size (W.nw p hp).1) F' N')
end
noncomputable def asgE : List Stmt → Expr
 | .Assign _ e _ :: _ => e
 | _ => .Constant .none 0 default
theorem s_slash : Str.ofString "/" = tx [47] := by decide
theorem s_m : Str.ofString "m" = tx [109] := by decide
theorem s_h : Str.ofString "h" = tx [104] := by decide
section
variable {w : World} {A : Around} {s : Shared} {g : Heap} {L C c x y x0 pb Dp xb xh : Addr} {m : Loc} {N N₁ : Led} {K : Frag} {env : Env} {n : Nat} {ns : List Int} {oc : Obj} {i j : Nat}
theorem ev_lpiece {b : Nat} {p1 p2 p3 p4 p5 : Pos} {h1 : Heap} {n : Nat} {env : Env} (hs : EvP (model PR w) A h1 L m N (eval (.Name "str" p1) env) (IsV (.type "str"))) (hx : EvP (model PR w) A h1 L m N (eval (.Name "index" p2) env) (IsI (n : Int))) (B : Bs K h1) (hn : n < 10000000000) :
 EvP (model PR w) A h1 L m N (eval (.BinOp (.Constant (.str "/") b p3) .Add (.Call (.Name "str" p1) [.Name "index" p2] [] p4) p5) env) (IsS (tx (47 :: dg n))) := by
 have := dg_len hn
 refine evS_eq (ev_addS (x := tx [47]) (y := tx (dg n)) (evS_eq ev_str s_slash) (ev_Call1 B hs kp_t hx fun v h => call_strI h hn) ?_) ?_
 · rw [sizeLine_eq, tx_len, tx_len, List.length_singleton]; omega
 · rw [tx_append]; rfl
theorem ev_ltext (B : Bs (KF w.params) g) (r : Rm A 14) (J : LH w.params ns L oc x0 pb Dp xb xh m N) : EvP (model PR w) A g L m N (eval (asgE (dropS (fb1 65) 11)) (LW L)) (IsS (tx (txt ns))) := by
 obtain ⟨ys, c, hD, hys⟩ := J.s.path
 obtain ⟨ti, hst⟩ := J.lst
 have hlen : ys.length = (pth ns).length := by rw [hys.length, List.length_map]
 have hpl := pth_len ns
 have hpc := pcnt_le ns
 have hlt := stp_lt ns
 have hge := stp_ge ns
 have hxl := ptx_len (pth_big (ns := ns))
 have hsb := sth_lt ns
 have hdl := dg_len (n := sth ns) (by omega)
 have hsl := sizeLine_eq
 refine evS_eq (ev_addS (x := tx (109 :: ptx (pth ns) ++ [47])) (y := tx (dg (sth ns))) (evS_eq (ev_addS (x := tx (109 :: ptx (pth ns))) (y := tx [47]) (evS_eq (ev_addS (x := tx [109]) (y := tx (ptx (pth ns))) (evS_eq ev_str s_m) (evS_eq (ev_join (ys := ((pth ns).map fun n => 47 :: dg n).map tx) B ev_str (ev_mono (ev_listComp (n := ys.length) (P := fun i v => ys[i]? = some v) (F := fun i y => ∃ n : Nat, (pth ns)[i]? = some n ∧ IsS (tx (47 :: dg n)) y) (J := fun N' => N' = N) (kp := if (g.get? Dp).isSome then [] else [(Dp, listOf ys.toArray c)]) (by rw [hsl]; omega) (ev_mono (ev_local J.s.lpath) fun v N' e => ?_) fun N' h1 hJ st1 sr1 i v C mC N₁ hv hl => ?_) fun v N' e => ?_) ?_) (join_tx _)) ?_) ?_) (evS_eq ev_str s_slash) ?_) ?_) (ev_Call1 B (ev_builtin B (no_str _) (by rfl)) kp_t (evI_eq (ev_sub31 hge (ev_localI hst) ev_int) (y := (sth ns : Int)) (by have := stp_sub ns; omega)) fun v h => call_strI h (by omega)) ?_) ?_
 · obtain ⟨rfl, rfl⟩ := e
   refine ⟨it_list (r.le (d' := 0)) (.inl hD), fun q hq => ?_, rfl⟩
   split at hq
   · nomatch hq
   · rw [List.mem_singleton.mp hq]; exact hD
 · obtain ⟨z, t, rfl, hz⟩ := hys.at i v hv
   rw [List.getElem?_map] at hz
   obtain ⟨n, hn, rfl⟩ := Option.map_eq_some_iff.mp hz
   have B1 := B.keeps st1
   exact ev_mono (ev_lpiece (K := KF w.params) (ev_cb B1 (no_str _) (by rfl)) (ev_clI hl) B1 (pth_big _ (List.mem_of_getElem? hn))) fun v N' e => ⟨⟨n, hn, e.1⟩, e.2⟩
 · obtain ⟨D', zs, c', N₂, rfl, rfl, rfl, hzl, hF⟩ := e
   refine ⟨D', zs, c', rfl, strs_of (by rw [List.length_map, List.length_map]; omega) fun j y hy => ?_, .inl (.head _), List.sublist_cons_self _ _⟩
   obtain ⟨n, hn, hS⟩ := hF j y hy
   exact ⟨tx (47 :: dg n), by rw [List.getElem?_map, List.getElem?_map, hn]; rfl, hS⟩
 · have := sum_len (pth_big (ns := ns))
   rw [List.length_map, List.length_map, show (Str.ofString "").length = 0 from rfl]; omega
 · rw [hsl, tx_len, tx_len, List.length_singleton]; omega
 · rw [tx_append]; rfl
 · rw [hsl, tx_len, tx_len, List.length_cons, List.length_singleton]; omega
 · rw [tx_append]
 · rw [hsl, tx_len, tx_len, List.length_append, List.length_cons, List.length_singleton]; omega
 · rw [tx_append]
   unfold txt
   rw [List.append_assoc]; rfl
end
section
variable {w : World} {A : Around} {s : Shared} {g : Heap} {L c x y x0 pb Dp xb xh : Addr} {m : Loc} {N : Led} {XS : Value → Loc → Led → Prop} {its : List Value} {ns : List Int} {oc : Obj} {k : HD} {i : Nat}
theorem law_text (B : Bs (KF w.params) g) (r : Rm A 14) (J : LH w.params ns L oc x0 pb Dp xb xh m N)
 (k : ∀ m' N' t, LH w.params ns L oc x0 pb Dp xb xh m' N' → lk m' "text" = some (.str (tx (txt ns)) t) → Gs (model PR w) A g L m' N' (execs (dropS (fb1 65) 13) (LW L)) Yes XS) : Gs (model PR w) A g L m N (execs (dropS (fb1 65) 11) (LW L)) Yes XS := by
 obtain ⟨ys, c, hD, hys⟩ := J.s.path
 obtain ⟨ti, hst⟩ := J.lst
 have hlen : ys.length = (pth ns).length := by rw [hys.length, List.length_map]
 have hpl := pth_len ns
 have hpc := pcnt_le ns
 have hlt := stp_lt ns
 have hge := stp_ge ns
 have hl1000 : (pth ns ++ [stp ns]).length ≤ 1000 := by rw [List.length_append, List.length_singleton]; omega
 refine gs_assign (P := fun v N' => IsS (tx (txt ns)) v ∧ N' = N) (Ev.gv (ev_ltext B r J)) ?_
 refine i_a fun tt => ?_
 have htl := txt_len ns
 refine gs_ifF (gts_cmp1 (p1 := IsS (tx (txt ns ++ [104]))) (p2 := IsS (tx (txt ns ++ [104]))) (gv_weaken (gv_g1 (P := fun v N' => IsS (tx (txt ns ++ [104])) v ∧ N.Sublist N') B (ev_global B (gl_path_to_str _)) (kp_path_to_str _) (gv_addL (its := ys) (J := fun N' => N' = N) (P2 := IsI (stp ns : Int)) (Ev.gv (ev_mono (ev_local J.s.lpath) fun v N' e => ?_)) (fun N' e => ?_) (by omega)) fun v N' e => ?_) fun v N' e => ⟨N, e.2, e.1, rfl⟩) (Ev.gv (evS_eq (ev_addS (x := tx (txt ns)) (y := tx [104]) (ev_localS rfl) (evS_eq ev_str s_h) ?_) ?_)) fun x y h h' => Ev.gv (evT_eq (co_neS h h') (bne_self_eq_false _))) ?_
 · obtain ⟨rfl, rfl⟩ := e
   exact ⟨Dp, c, rfl, .inl hD, rfl⟩
 · obtain rfl := e
   exact ev_localI hst
 · obtain ⟨D', z, N1, rfl, ⟨tz, rfl⟩, rfl, t, rfl⟩ := e
   have hj : IntsAre (ys ++ [.int (stp ns : Int) tz]) ((pth ns ++ [stp ns]).map fun (i : Nat) => (i : Int)) := by
    rw [List.map_append]
    exact hys.append (.cons _ _ .nil)
   refine gv_mono (Ev.gv (ev_of_cd (s_p2s B r.le (.inl (.head _)) hj (fun i hi => ?_) hl1000))) fun v N' e => ⟨?_, by rw [e.2]; exact (List.sublist_cons_self _ _).trans (List.sublist_cons_self _ _)⟩
   · rcases List.mem_append.mp hi with h | h
     · have := pth_lt h; omega
     · rw [List.mem_singleton.mp h]; exact hlt
   · have e1 := e.1
     rw [p2s_txt] at e1
     exact e1
 · rw [sizeLine_eq, tx_len, tx_len, List.length_singleton]; omega
 · rw [tx_append]
 exact k _ _ tt (J.mono rfl rfl rfl rfl rfl rfl fun q hq => hq) rfl
end
noncomputable def mrk (i : Nat) : Nat := if i = 0 then 104 else if i = 1 then 72 else 39
theorem mrk_is (i : Nat) : mrk i = 104 ∨ mrk i = 72 ∨ mrk i = 39 := by
 unfold mrk
 split
 · exact .inl rfl
 · split
   · exact .inr (.inl rfl)
   · exact .inr (.inr rfl)
noncomputable def pcs (ns : List Int) (mk : Nat) : List (List Nat) := (pth ns).map dg ++ [dg (sth ns) ++ [mk]]
theorem jn_pcs (ns : List Int) (mk : Nat) : jn ([109] :: pcs ns mk) = txt ns ++ [mk] := by
 unfold pcs
 rw [jn_path]
 unfold txt
 simp
theorem pcs_len (ns : List Int) (mk : Nat) : (pcs ns mk).length = (pth ns ++ [stp ns]).length := by
 unfold pcs
 rw [List.length_append, List.length_append, List.length_map, List.length_singleton, List.length_singleton]
theorem pcs_at (ns : List Int) {mk : Nat} (hm : mk = 104 ∨ mk = 72 ∨ mk = 39) (i : Nat) (l : List Nat) (h : (pcs ns mk)[i]? = some l) : ∃ n, (pth ns ++ [stp ns])[i]? = some n ∧ Piece l n := by
 have hlen : ((pth ns).map dg).length = (pth ns).length := List.length_map _
 rcases Nat.lt_or_ge i (pth ns).length with hlt | hge
 · unfold pcs at h
   rw [List.getElem?_append_left (by omega), List.getElem?_map] at h
   obtain ⟨n, hn, rfl⟩ := Option.map_eq_some_iff.mp h
   exact ⟨n, by rw [List.getElem?_append_left hlt]; exact hn, .inl ⟨rfl, pth_lt (List.mem_of_getElem? hn)⟩⟩
 · unfold pcs at h
   rw [List.getElem?_append_right (by omega)] at h
   rw [List.getElem?_append_right hge]
   have h0 : i - (pth ns).length = 0 := by
    have := (List.getElem?_eq_some_iff.mp h).1
    rw [List.length_singleton] at this
    omega
   rw [hlen, h0] at h
   rw [h0]
   obtain rfl := Option.some.inj h
   exact ⟨stp ns, rfl, .inr ⟨sth ns, mk, rfl, hm, sth_lt ns, Nat.add_comm _ _⟩⟩
noncomputable def atp (ns : List Int) : Nat := md (lnum ns 8) (pcnt ns + 1)
theorem atp_le (ns : List Int) : atp ns ≤ (pth ns).length := by
 have := md_lt (lnum ns 8) (m := pcnt ns + 1) (by omega)
 have := pth_len ns
 unfold atp
 omega
section
variable {w : World} {M : Model} {A : Around} {E : Value → Shared → Prop} {s : Shared} {g : Heap} {L a c D x y x0 pb Dp xb xh : Addr} {m : Loc} {N : Led} {XS : Value → Loc → Led → Prop} {its : List Value} {n : Nat} {ns : List Int} {oc : Obj} {k : HD} {i : Nat}
theorem evS_pick {t : Sem Value} {i : Nat} (h : EvP M A g L m N t (fun v => if i = 0 then IsS (Str.ofString "h") v else if i = 1 then IsS (Str.ofString "H") v else IsS (Str.ofString "'") v)) : EvP M A g L m N t (IsS (tx [mrk i])) := by
 refine ev_mono h fun v N' e => ⟨?_, e.2⟩
 have e := e.1
 unfold mrk
 split at e
 · rw [if_pos ‹_›]; exact e
 · rw [if_neg ‹_›]
   split at e
   · rw [if_pos ‹_›]; exact e
   · rw [if_neg ‹_›]; exact e
theorem law_derive {tt : Tok} (B : Bs (KF w.params) g) (r : Rm A 14) (S : Scr g oc D its n ns) (J : LH w.params ns L oc x0 pb Dp xb xh m N) (ht : lk m "text" = some (.str (tx (txt ns)) tt))
 (k : ∀ m' N', LH w.params ns L oc x0 pb Dp xb xh m' N' → Gs (model PR w) A g L m' N' (execs (dropS (fb1 65) 15) (LW L)) Yes XS) : Gs (model PR w) A g L m N (execs (dropS (fb1 65) 13) (LW L)) Yes XS := by
 obtain ⟨ys, c, hD, hys⟩ := J.s.path
 obtain ⟨ti, hst⟩ := J.lst
 have hlen : ys.length = (pth ns).length := by rw [hys.length, List.length_map]
 have hpl := pth_len ns
 have hpc := pcnt_le ns
 have htl := txt_len ns
 have hat := atp_le ns
 have rg := rootK_gd ns
 have hg := J.khgd
 have hok := J.ok
 have hsp : pth ns ++ [stp ns] = (pth ns).take (atp ns) ++ ((pth ns).drop (atp ns) ++ [stp ns]) := by rw [← List.append_assoc, List.take_append_drop]
 have hok12 := hok
 rw [hsp, pathOk_app] at hok12
 obtain ⟨hok1, hok2⟩ := hok12
 have htk : slicePick ys.toArray none (some (atp ns : Int)) none = (ys.take (atp ns)).toArray := slicePick_upto _ _ (by simp; omega)
 have hdp : slicePick ys.toArray (some (atp ns : Int)) none none = (ys.drop (atp ns)).toArray := slicePick_from _ _ (by simp; omega)
 have hit : IntsAre (ys.take (atp ns)) (((pth ns).take (atp ns)).map fun (i : Nat) => (i : Int)) := by
  have := slice_ints_uptoW hys (y := (atp ns : Int)) (by omega)
  rw [htk] at this
  rw [List.map_take]
  exact this
 have hid : IntsAre (ys.drop (atp ns)) (((pth ns).drop (atp ns)).map fun (i : Nat) => (i : Int)) := by
  have := slice_ints_fromW hys (x := (atp ns : Int)) (by omega)
  rw [hdp] at this
  rw [List.map_drop]
  exact this
 refine gs_assign (P := fun v N' => IsI (atp ns : Int) v ∧ N' = N) (Ev.gv (ev_md (k := pcnt ns + 1) (ev_lnum B r.le S J.s.cell ev_int (by decide)) (ev_add (ev_Call1 B (ev_builtin B (no_len _) (by rfl)) kp_b (ev_local J.s.lpath) fun v h => call_lenL h (Ob.lo (.inl hD)) (by omega)) ev_int) (by omega) (by omega))) ?_
 refine i_a fun ta => ?_
 have J := J.mono (m' := ("at", .int (atp ns : Int) ta) :: m) rfl rfl rfl rfl rfl rfl fun q hq => hq
 refine gs_ifF (gts_eq (gts_not (gts_T (c := true) (gv_weaken (gv_c2G (p1 := fun v N' => ∃ y, v = .ref y ∧ HdD w.params g (kh ns) y N N') (p2 := fun v u N' => ∃ y, v = .ref y ∧ u = .ref xh ∧ HdD w.params g (kh ns) y N N') (P := fun v N' => IsT true v ∧ ∃ E, N' = E ++ N) B (ev_global B (gl_law_same _)) (kp_law_same _) (gv_ifexp (P1 := fun c N' => N' = N) (gv_mono (Ev.gv (tst_plain (b := (((md (lnum ns 10) 2 : Nat) : Int) != 0)) (ev_md (k := 2) (ev_lnum B r.le S J.s.cell ev_int (by decide)) ev_int (by decide)) fun v h => tru_I h)) fun c N' e => e.2) fun c N' e => ?_) (fun v N' e => ?_) fun v u N' e => ?_) fun v N' e => ?_))) rfl) ?_
 · rw [show N' = N from e]
   cases c with
   | false =>
    rw [if_neg (by decide)]
    refine gv_m1 (Po := fun v N2 => ∃ y, v = .ref y ∧ HdD w.params g ((rootK ns).path ((pth ns).take (atp ns))) y N N2) B (gv_m1 (Po := fun v N2 => v = .ref x0 ∧ N2 = N) B (Ev.gv (ev_local J.s.lroot)) fun ov N1 e => ?_) fun ov N1 e => ?_
    · obtain ⟨rfl, rfl⟩ := e
      refine ⟨x0, 1454, fun v N2 => ∃ D', v = .ref D' ∧ N2 = (D', listOf (ys.take (atp ns)).toArray 0) :: N1, rfl, J.s.root.O.mth (fm_HDKey_derive _) (fn_1454 _) (kp_1454 _), Ev.gv (ev_mono (ev_slL (ev_local J.s.lpath) (.inl hD) pt_none (pt_int (ev_localI rfl)) (by omega)) fun v N' ⟨D', e1, e2⟩ => ⟨D', e1, by rw [e2, htk]⟩), fun v N2 e => ?_⟩
      obtain ⟨D', rfl, rfl⟩ := e
      refine gc_mono (s_deriveL B r.le (J.s.root.sub fun q hq => .tail _ hq).O rg hok1 (.inl (.head _)) hit) ?_
      refine i_g ?_; rintro y N' ⟨⟨E, rfl⟩, hy⟩
      exact ⟨y, rfl, ⟨E ++ [_], by rw [List.append_assoc]; rfl⟩, hy⟩
    · obtain ⟨y, rfl, ⟨E, rfl⟩, hy⟩ := e
      refine ⟨y, 1454, fun v N2 => ∃ D' x N1, v = .ref D' ∧ IsI (stp ns : Int) x ∧ (∃ t, N1 = t :: (E ++ N)) ∧ ∃ t, N2 = (D', listOf (ys.drop (atp ns) ++ [x]).toArray 0) :: t :: N1, rfl, hy.mth (fm_HDKey_derive _) (fn_1454 _) (kp_1454 _), gv_addL (its := ys.drop (atp ns)) (J := fun N' => ∃ t, N' = t :: (E ++ N)) (Ev.gv (ev_mono (ev_slL (ev_local J.s.lpath) (.inl (List.mem_append_right _ hD)) (pt_int (ev_localI rfl)) pt_none (by omega)) fun v N' ⟨D', e1, e2⟩ => ?_)) (fun N' e => ev_localI hst) (by rw [List.length_drop]; omega), fun v N2 e => ?_⟩
      · rw [hdp] at e2
        subst e2
        exact ⟨D', 0, e1, .inl (.head _), _, rfl⟩
      · obtain ⟨D', z, N1, rfl, ⟨tz, rfl⟩, ⟨t1, rfl⟩, t2, rfl⟩ := e
        have hj : IntsAre (ys.drop (atp ns) ++ [.int (stp ns : Int) tz]) (((pth ns).drop (atp ns) ++ [stp ns]).map fun (i : Nat) => (i : Int)) := by
         rw [List.map_append]
         exact hid.append (.cons _ _ .nil)
        have hy2 : HdO w.params (Ob g ((D', listOf (ys.drop (atp ns) ++ [Value.int (stp ns : Int) tz]).toArray 0) :: t2 :: t1 :: (E ++ N))) y ((rootK ns).path ((pth ns).take (atp ns))) := hy.mono fun a o e => e.mono (fun _ _ e => e) fun q hq => .inl (.tail _ (.tail _ (.tail _ hq)))
        refine gc_mono (s_deriveL B r.le hy2 (hok1.gd rg) hok2 (.inl (.head _)) hj) ?_
        refine i_g ?_; rintro y N' ⟨⟨E2, rfl⟩, hy⟩
        refine ⟨y, rfl, ⟨E2 ++ _ :: t2 :: t1 :: E, (List.append_assoc E2 (_ :: t2 :: t1 :: E) N).symm⟩, ?_⟩
        rw [← path_app, ← hsp, ← kh_eq] at hy
        exact hy
   | true =>
    rw [if_pos rfl]
    refine gv_m1 (Po := fun v N2 => v = .ref x0 ∧ N2 = N) B (Ev.gv (ev_local J.s.lroot)) fun ov N1 e => ?_
    obtain ⟨rfl, rfl⟩ := e
    refine ⟨x0, 1454, fun v N2 => IsS (tx (txt ns ++ [mrk (md (lnum ns 8) 3)])) v ∧ N2 = N1, rfl, J.s.root.O.mth (fm_HDKey_derive _) (fn_1454 _) (kp_1454 _), Ev.gv (evS_eq (ev_addS (x := tx (txt ns)) (y := tx [mrk (md (lnum ns 8) 3)]) (ev_localS ht) (evS_pick (ev_pick3 ev_str ev_str ev_str (fun D o => ev_md (ev_lnum B r.le S (.tail _ J.s.cell) ev_int (by decide)) ev_int (by decide)) (md_lt _ (by decide)))) (by rw [sizeLine_eq, tx_len, tx_len, List.length_singleton]; omega)) (tx_append _ _)), fun v N2 e => ?_⟩
    obtain ⟨hv, rfl⟩ := e
    rw [← jn_pcs] at hv
    refine gc_mono (s_deriveS B r.le J.s.root.O rg hok hv (by unfold pcs; simp) (pcs_len _ _) (pcs_at ns (mrk_is _)) (jn_pcs _ _) (by rcases mrk_is (md (lnum ns 8) 3) with h | h | h <;> omega) (by rw [jn_pcs, List.length_append, List.length_singleton]; omega) (by rw [pcs_len, List.length_append, List.length_singleton]; omega)) ?_
    refine i_g ?_; rintro y N' hy
    rw [← kh_eq] at hy
    exact ⟨y, rfl, hy⟩
 · obtain ⟨y, rfl, hy⟩ := e
   exact Ev.gv (ev_mono (ev_local J.lh) fun u N2 e => ⟨y, rfl, e.1, e.2 ▸ hy⟩)
 · obtain ⟨y, rfl, rfl, ⟨E, rfl⟩, hy⟩ := e
   exact gv_mono (gv_of_gc (s_lsame B r.le hy (J.hard.sub fun q hq => List.mem_append_right _ hq).O hg)) fun v N' e => ⟨e.1, E, e.2⟩
 · obtain ⟨e, E, rfl⟩ := e
   exact ⟨N, List.sublist_append_right _ _, e, rfl⟩
 exact k _ _ J
end
theorem ser_laid (k : HD) : k.ver ++ [UInt8.ofNat k.dep] ++ k.fp ++ be 4 k.ix ++ k.cc ++ ((if k.pr then [0] else []) ++ serK k.pr k.kb) = k.ser := by
 unfold HD.ser HD.tail
 simp only [List.append_assoc]
section
variable {w : World} {A : Around} {E : Value → Shared → Prop} {s : Shared} {g : Heap} {L a c D y x0 pb Dp xb xh : Addr} {m : Loc} {N : Led} {cl : List (Str × Addr)} {XS : Value → Loc → Led → Prop} {its : List Value} {n : Nat} {ns : List Int} {oc : Obj} {k : HD}
theorem law_back {xo : Addr} (B : Bs (KF w.params) g) (r : Rm A 14) (S : Scr g oc D its n ns) (J : LH w.params ns L oc x0 pb Dp xb xh m N) (hl : lk m "one" = some (.ref xo)) (h : HL w.params N xo k) (ok : k.Gd) (hd0 : 0 < k.dep) (ht : k.pr = true → k = kh ns) (hf : k.pr = false → k = (kl ns).pub)
 (kk : ∀ m' N', LH w.params ns L oc x0 pb Dp xb xh m' N' → Gs (model PR w) A g L m' N' (execs (dropS (fb1 65) 19) (LW L)) Yes XS) : Gs (model PR w) A g L m N (execs (dropS (fb1 65) 16) (LW L)) Yes XS := by
 have h1 := ok.1.kl
 have h2 := ok.1.cl
 have h3 := ok.1.vl
 have h4 := ok.1.fl
 have h5 := k.ser_length ok.1
 have hks : ((if k.pr then [0] else []) ++ serK k.pr k.kb : List UInt8).length ≤ 33 := by
  rw [← ser_laid] at h5
  simp only [List.length_append, be_length, List.length_singleton] at h5 ⊢
  omega
 refine gs_assign (P := fun v N' => IsB k.ser v ∧ N' = N) (Ev.gv (evB_eq (ev_addB (ev_addB (ev_addB (ev_addB (ev_addB (ev_hver B (ev_local hl) h.O) (ev_bytes1 (n := k.dep) B r.le (no_bytes _) (ev_hdep B (ev_local hl) h.O) rfl ok.1.dl) ?_) (ev_hfp B (ev_local hl) h.O) ?_) (ev_to (k := 4) B (ev_hix B (ev_local hl) h.O) ev_int ev_str (by decide) ok.1.il) ?_) (ev_hcc B (ev_local hl) h.O) ?_) (ev_ifexp (c := k.pr) (P := fun v N' => IsB ((if k.pr then [0] else []) ++ serK k.pr k.kb) v ∧ N' = N) (tst_T (ev_hpriv B r.le (ev_local hl) h.O)) (fun hp => ?_) fun hp => ?_) ?_) (ser_laid k))) ?_
 · simp; omega
 · simp; omega
 · simp [be_length]; omega
 · simp [be_length]; omega
 · have e := ht hp
   rw [hp, if_pos rfl, serK_t, e]
   exact ev_addB ev_bytes (ev_hsecret B r.le (ev_local J.lh) J.hard.O (by rw [← e]; exact hp)) (by have := congrArg (fun k => k.kb.length) e; simp at this ⊢; omega)
 · have e := hf hp
   rw [hp, if_neg (by decide), serK_f, List.nil_append, e]
   refine evB_eq (ev_hsec B r.le (ev_local J.lb) J.bare.O (e ▸ ok.1)) ?_
   show psec (ptK false _) = _
   rw [ptK_f]
 · simp only [List.length_append, be_length, List.length_singleton] at hks ⊢; omega
 refine i_a fun tl => ?_
 have J := J.mono (m' := ("laid", .bytes k.ser.toArray tl) :: m) rfl rfl rfl rfl rfl rfl fun q hq => hq
 refine gs_assign (P := fun v N' => ∃ E, (∃ y, v = .ref y ∧ HdO w.params (fun a o => (a, o) ∈ E) y k) ∧ N' = E ++ N) (gv_ifexp (P1 := fun c N' => N' = N) (gv_mono (Ev.gv (tst_plain (b := (((md (lnum ns 13) 2 : Nat) : Int) != 0)) (ev_md (k := 2) (ev_lnum B r.le S J.s.cell ev_int (by decide)) ev_int (by decide)) fun v h => tru_I h)) fun c N' e => e.2) fun c N' e => ?_) ?_
 · rw [show N' = N from e]
   cases c with
   | false =>
    rw [if_neg (by decide)]
    exact gv_cm1 (p1 := IsB k.ser) B (ev_global B (gl_HDKey _)) (sg_HDKey _) (sm_HDKey _) (by kernel_rfl) (sf_HDKey_parse _) (sp_848 _) (by kernel_rfl) (fun N => Ev.gv (ev_localB rfl)) fun v N2 hv => s_hdparse B r.le hv ok hd0
   | true =>
    rw [if_pos rfl]
    refine gv_cm1 (p1 := IsS (e58 k.ser)) B (ev_global B (gl_HDKey _)) (sg_HDKey _) (sm_HDKey _) (by kernel_rfl) (sf_HDKey_from_base58 _) (sp_1333 _) (by kernel_rfl) (fun t => gv_m0 (Po := fun v N2 => v = .ref xo ∧ N2 = t :: N) B (Ev.gv (ev_local hl)) fun ov N1 e => ?_) fun v N2 hv => s_from58 B r.le hv ok hd0
    obtain ⟨rfl, rfl⟩ := e
    have h : HdO w.params (Ob g (t :: N)) xo k := (h.sub fun q hq => .tail _ hq).O
    exact ⟨xo, 1374, rfl, h.mth (fm_HDKey_to_base58 _) (fn_1374 _) (kp_1374 _), s_hd58 B r.le h ok⟩
 refine i_f (i_g ?_); rintro y E hy
 have inN : ∀ q ∈ N, q ∈ E ++ N := fun q hq => List.mem_append_right _ hq
 have hy : HdO w.params (Ob g (E ++ N)) y k := hy.mono fun a o e => .inl (List.mem_append_left _ e)
 have h := (h.sub inN).O (g := g)
 refine gs_ifF (gts_eq (gts_or (b := false) (c := false) (gts_cmp1 (gv_hser0 B r.le (ev_local hl) h ok.1) (Ev.gv (ev_localB rfl)) fun u v e e' => Ev.gv (evT_eq (co_neB e e') (bne_self_eq_false _))) fun _ => gts_or (b := false) (c := false) (gts_eq (gts_not (gts_T (c := true) (gv_c2 B (ev_global B (gl_law_same _)) (kp_law_same _) (Ev.gv (ev_local rfl)) (Ev.gv (ev_local hl)) fun u v e e' => ?_))) rfl) fun _ => gts_or (b := false) (c := false) (gts_cmp1 (Ev.gv (ev_hdep B (ev_local rfl) hy)) (Ev.gv (ev_hdep B (ev_local hl) h)) fun u v e e' => Ev.gv (evT_eq (co_ne e e') (bne_self_eq_false _))) fun _ => gts_or (b := false) (c := false) (gts_cmp1 (Ev.gv (ev_hver B (ev_local rfl) hy)) (Ev.gv (ev_hver B (ev_local hl) h)) fun u v e e' => Ev.gv (evT_eq (co_neB e e') (bne_self_eq_false _))) fun _ => gts_or0) rfl) ?_
 · obtain rfl : u = _ := e
   obtain rfl : v = _ := e'
   exact gv_of_gc (s_lsame B r.le hy h ok)
 exact kk _ _ (J.mono rfl rfl rfl rfl rfl rfl inN)
end
section
variable {w : World} {A : Around} {s : Shared} {g : Heap} {L a c D y x0 pb Dp xb xh : Addr} {m : Loc} {N : Led} {XS : Value → Loc → Led → Prop} {X : Value → Led → Prop} {its : List Value} {n : Nat} {ns : List Int} {oc : Obj} {k : HD} {i : Nat}
theorem law_ref (B : Bs (KF w.params) g) (r : Rm A 14) (ll : LL A L) (S : Scr g oc D its n ns) (J : LH w.params ns L oc x0 pb Dp xb xh m N) : Gs (model PR w) A g L m N (execs (dropS (fb1 65) 19) (LW L)) Yes XS := by
 have tr : ∀ {X : Value → Led → Prop} (v : Value) (N' : Led), IsT true v ∧ N' = N → Gv (model PR w) A g L m N' (truthy v) (fun b N2 => b = true ∧ N2 = N') X := fun v N' e => by
  obtain rfl : v = .bool true := e.1
  exact Ev.gv tru_bool
 obtain ⟨ti, hst⟩ := J.lst
 have hge := stp_ge ns
 refine gs_return (P := fun v N' => IsT true v ∧ N' = N) ?_ fun v N' h => congrArg Flow.ret h.1
 refine gv_and (p1 := fun v N' => IsT true v ∧ N' = N) (c := fun _ _ => true) (gv_g3 B (ev_global B (gl_law_refused _)) (kp_law_refused _) (ev_local J.lb) (ev_localI hst) ev_int fun a b t e1 e2 e3 => ?_) tr fun v N' e => ?_
 · obtain rfl : a = _ := e1
   exact s_refused (kd := 0) B r.le ll J.bare.O e2 e3 (.inl ⟨by decide, .inr ⟨hge, rfl⟩⟩)
 rw [if_pos rfl, show N' = N from e.2]
 refine gv_and (p1 := fun v N' => IsT true v ∧ N' = N) (c := fun _ _ => true) (gv_g3 B (ev_global B (gl_law_refused _)) (kp_law_refused _) (ev_local J.s.lpub) (ev_localI hst) ev_int fun a b t e1 e2 e3 => ?_) tr fun v N' e => ?_
 · obtain rfl : a = _ := e1
   exact s_refused (kd := 1) B r.le ll J.s.pub.O e2 e3 (.inl ⟨by decide, .inr ⟨hge, rfl⟩⟩)
 rw [if_pos rfl, show N' = N from e.2]
 refine gv_and (p1 := fun v N' => IsT true v ∧ N' = N) (c := fun _ _ => true) (gv_g3 B (ev_global B (gl_law_refused _)) (kp_law_refused _) (ev_local J.s.lroot) (evI_eq (ev_add (ev_pow ev_int ev_int (by decide) (by decide) (by decide)) (ev_md (k := 9) (ev_lnum B r.le S J.s.cell ev_int (by decide)) ev_int (by decide))) (y := ((4294967296 + md (lnum ns 9) 9 : Nat) : Int)) ?_) ev_int fun a b t e1 e2 e3 => ?_) tr fun v N' e => ?_
 · rw [show ((2 : Int) ^ (32 : Int).toNat) = 4294967296 by decide]
   exact (by omega : (4294967296 : Int) + ((md (lnum ns 9) 9 : Nat) : Int) = ((4294967296 + md (lnum ns 9) 9 : Nat) : Int))
 · obtain rfl : a = _ := e1
   exact s_refused (kd := 0) B r.le ll J.s.root.O e2 e3 (.inl ⟨by decide, .inl (by omega)⟩)
 rw [if_pos rfl, show N' = N from e.2]
 refine gv_and1 (gv_g3 B (ev_global B (gl_law_refused _)) (kp_law_refused _) (ev_local J.lb) ev_int ev_int fun a b t e1 e2 e3 => ?_)
 obtain rfl : a = _ := e1
 exact s_refused (i := 0) (kd := 2) B r.le ll J.bare.O e2 e3 (.inr ⟨rfl, rfl⟩)
theorem law_one (B : Bs (KF w.params) g) (r : Rm A 14) (ll : LL A L) (S : Scr g oc D its n ns) (J : LH w.params ns L oc x0 pb Dp xb xh m N) : Gs (model PR w) A g L m N (execs (dropS (fb1 65) 15) (LW L)) Yes XS := by
 refine gs_assign (Ev.gv (ev_pick2 (ev_local J.lh) (ev_local J.lb) (fun D o => ev_md (k := 2) (ev_lnum B r.le S (.tail _ J.s.cell) ev_int (by decide)) ev_int (by decide)) (md_lt _ (by decide)))) ?_
 refine i_c fun v e => ?_
 have hkd : 0 < (kl ns).dep := by
  unfold kl
  rw [path_dep, pth_len]
  have := pcnt_le ns
  omega
 by_cases h0 : md (lnum ns 12) 2 = 0
 · rw [if_pos h0] at e
   obtain rfl : v = _ := e
   exact law_back B r S (J.mono rfl rfl rfl rfl rfl rfl fun q hq => hq) rfl J.hard J.khgd (Nat.succ_pos _) (fun _ => rfl) (fun h => absurd ((kl_pr ns).symm.trans h) (by decide)) fun m' N' J' => law_ref B r ll S J'
 · rw [if_neg h0] at e
   obtain rfl : v = _ := e
   exact law_back B r S (J.mono rfl rfl rfl rfl rfl rfl fun q hq => hq) rfl J.bare (J.klgd.pub (kl_pr ns)) hkd (fun h => absurd (show false = true from h) (by decide)) (fun _ => rfl) fun m' N' J' => law_ref B r ll S J'
end
section
variable {w : World} {A : Around} {g : Heap} {L D x0 pb Dp xb xh : Addr} {m : Loc} {N : Led} {XS : Value → Loc → Led → Prop} {its : List Value} {n : Nat} {ns : List Int} {oc : Obj}
theorem law_mid {tt : Tok} (B : Bs (KF w.params) g) (r : Rm A 14) (ll : LL A L) (S : Scr g oc D its n ns) (J : LH w.params ns L oc x0 pb Dp xb xh m N) (ht : lk m "text" = some (.str (tx (txt ns)) tt)) : Gs (model PR w) A g L m N (execs (dropS (fb1 65) 13) (LW L)) Yes XS :=
 law_derive B r S J ht fun m' N' J => law_one B r ll S J
theorem law_mid2 (B : Bs (KF w.params) g) (r : Rm A 14) (ll : LL A L) (S : Scr g oc D its n ns) (J : LH w.params ns L oc x0 pb Dp xb xh m N) : Gs (model PR w) A g L m N (execs (dropS (fb1 65) 11) (LW L)) Yes XS :=
 law_text B r J fun m' N' t J ht => law_mid B r ll S J ht
theorem law_mid3 (B : Bs (KF w.params) g) (r : Rm A 14) (ll : LL A L) (S : Scr g oc D its n ns) (J : LK w.params ns L oc x0 pb Dp (pth ns).length m N) : Gs (model PR w) A g L m N (execs (dropS (fb1 65) 7) (LW L)) Yes XS :=
 law_hard B r ll S J fun m' N' xb xh J => law_mid2 B r ll S J
theorem law_body (B : Bs (KF w.params) g) (r : Rm A 14) (ll : LL A L) (S : Scr g oc D its n ns) : Gs (model PR w) A g L [] [(L + 1, oc)] (execs (fb1 65) (LW L)) Yes XS := by
 refine gs_split (n := 6) (law_pre B r S) ?_
 rintro m' N' ⟨x0, pb, Dp, J, l1, l2⟩
 exact law_loop B r ll J l1 l2 fun m' N' J => law_mid3 B r ll S J
end
noncomputable abbrev rowL : RowW := PySem.Challenge.rw_be0012_01.row.toRowW
theorem args_of {cl : Str → Option Addr} {P : Params} {h : Heap} {args : List WData} {vals : List Value} {as : List Addr} (hpre : rowL.claim.pre args = true) (hlay : WData.layableAll args = true) (hrd : ReadsAllW rowL.records cl h vals args as) (hwl : WellAll P h vals args) (hlo : ∀ a ∈ as, (a == sysModules) = false) :
 ∃ (D : Addr) (its : List Value) (ns : List Int), args = [ofPy (.list (ns.map .int))] ∧ vals = [.ref D] ∧ h.IsList D its.toArray ∧ IntsAre its ns ∧ Small ns := by
 wrow_args hpre hlay hrd hwl hlo
 refine ⟨_, _, _, rfl, rfl, by assumption, by assumption, by omega, fun x hx => ?_⟩
 exact Nat.le_trans (PyData.bits_item_of_ints (by assumption) hx) (by decide)
theorem post_of {ns : List Int} : rowL.claim.post [ofPy (.list (ns.map .int))] (.bool true) [ofPy (.list (ns.map .int))] = true := by
 wrow_post
section
open PySem PySem.W PySem.Spec PySem.Calls PyProof.Rows
theorem cl_caller : Cl ⟨.builtin "claim.caller" {}, none, none, [], none⟩ := ⟨by kernel_rfl, fun x hx => (nomatch hx)⟩
theorem g_done {M : Model} {t : Sem Fin} {R : Result → Shared → Prop} {s : Shared} (h : wpG M callerA t (fun fin s' => ∃ f, fin = .done f ∧ R (.ok f) s') (fun e s' => R (.error e) s') s) (p : Pos) :
 Sem.wp M ⟨.builtin "claim.caller" {}, none, none, [], none⟩ t (Sem.finPost M ⟨.builtin "claim.caller" {}, none, none, [], none⟩ R) (fun e _ s' => R (.error e) s') p s :=
 Sem.wp_mono M _ t (fun fin p' s' ⟨f, e, hf⟩ => by subst e; exact hf) (fun _ _ _ x => x) p s (h _ p caller_in cl_caller)
theorem ends_bothG {prog : Program} {w : World} {t : Sem Fin} {s : Shared} {R : Result → Shared → Prop} (hreg : s.asleep)
 (h : wpG (model prog w) callerA t (fun fin s' => ∃ f, fin = .done f ∧ (R (.ok f) s' ∧ leftWithCleanup s'.gens = false)) (fun e s' => R (.error e) s' ∧ leftWithCleanup s'.gens = false) s) :
 ∃ n r s' s'', runN (denote table) prog w n s ⟨t, .builtin "claim.caller" {}, default, []⟩ = .halted (outcomeOf r) s' ∧
  schedN (denote table) prog w n (.single s ⟨t, .builtin "claim.caller" {}, default, []⟩) = .halted (outcomeOf r) s' ∧ s'.forget = s''.forget ∧ R r s'' := by
 obtain ⟨n, r, s₁, s₂, hs, hn, hfo, hR⟩ := wp_halts_full (M := model prog w) (R := R) hreg (g_done (R := fun r s' => R r s' ∧ leftWithCleanup s'.gens = false) h default)
 exact ⟨n, r, s₂, s₁, hn, hs, hfo, hR⟩
theorem callFrom_G {c : ClaimW} {tree : List Value → Sem Fin} {w : World} {s : Shared} {free : Addr → Prop} {gens : Prop} {kept : Heap → Prop} (hz : s.asleep) (hgens : s.gens = #[])
 (hspec : ∀ args, c.pre args = true → WData.layableAll args = true → ∀ ord : List DictEntry → List DictEntry, (∀ l, (ord l).Perm l) →
  ∃ vs s₁, layAllW c.records (classAt s.heap) w.params ord args s = some (vs, s₁) ∧
   wpG (model c.prog w) callerA (tree vs) (fun fin s' => ∃ f, fin = .done f ∧ (c.Ends s args vs s₁ (.ok f) s' ∧ s'.os = s.os ∧ AllBare s'.gens ∧ kept s'.heap))
    (fun e s' => c.Ends s args vs s₁ (.error e) s' ∧ s'.os = s.os ∧ AllBare s'.gens ∧ kept s'.heap) s₁) :
 c.CallFrom (fun vs => ⟨tree vs, .builtin "claim.caller" {}, default, []⟩) w free gens kept s := by
 intro args hpre hlay ord hord
 obtain ⟨vs, s₁, hlaid, hcode⟩ := hspec args hpre hlay ord hord
 have hal := layAllW_rest _ _ _ hlaid
 obtain ⟨k, r, s', s'', hrun, hsched, hfo, hcase, hos, hkp⟩ := ends_bothG (prog := c.prog) (w := w) (t := tree vs) (s := s₁) (R := fun r s' => c.Ends s args vs s₁ r s' ∧ s'.os = s.os ∧ kept s'.heap) (Shared.asleep_of_life hal.2.2.2 hz)
  (g_mono hcode (fun fin s' ⟨f, e, h1, h2, h3, h4⟩ => ⟨f, e, ⟨h1, h2, h4⟩, leftWithCleanup_false_of_bare h3⟩) fun e s' ⟨h1, h2, h3, h4⟩ => ⟨⟨h1, h2, h4⟩, leftWithCleanup_false_of_bare h3⟩)
 obtain ⟨eh, _, _, eo, _⟩ := Shared.forget_eq hfo
 have hcase := hcase.congr eh
 have hkp : kept s'.heap := by rw [eh]; exact hkp
 rw [← eo] at hos
 have hlife : s'.heap.life = s.heap.life := (runN_life _ _ _ hrun).trans hal.2.2.2
 refine ⟨vs, s₁, hlaid, k, _, s', hsched, ?_, (fun _ i x hx => by rw [hgens] at hx; simp at hx), hkp, by rw [hlife], Shared.rest_eq hos⟩
 rcases hcase with ⟨v, rfl, d1, d2, d3, d4, d5⟩ | ⟨e, ob, cls, rfl, d1, d2, d3, d4, d5⟩
 · exact .inl ⟨v, rfl, d1, d2, d3, fun b o y _ => d4 b o y, d5⟩
 · exact .inr ⟨e, ob, cls, rfl, d1, d2, d3, d4, fun b o y _ => d5 b o y⟩
noncomputable abbrev WalkG (q : Program) (loose : List Str) (XP : (Str → Option Value) → Heap → Prop) (YP : World → Heap → Prop) (r : RowW) (d : DefRec) (kwd : List (Str × Expr)) : Prop :=
 ∀ (w : World) (s₀ s₁ : Shared) (mg mb : Str → Option Value), Ground q loose r.records XP w s₀ mg mb s₁.heap → YP w s₁.heap → ∀ (a : Addr), mg d.name = some (.ref a) → s₁.gens = #[] →
  ∀ (args : List WData) (vals : List Value) (as : List Addr), r.claim.pre args = true → WData.layableAll args = true → ReadsAllW r.records (classAt s₀.heap) s₁.heap vals args as → WellAll w.params s₁.heap vals args → (∀ a ∈ as, (a == sysModules) = false) →
   wpG (model r.prog w) callerA (PySem.call (.ref a) vals) (fun v s' => GoodWG r.claim (classAt s₀.heap) (ExcName.means s₀.heap) args s₁ (.ok (.ret v)) s')
    (fun e s' => GoodWG r.claim (classAt s₀.heap) (ExcName.means s₀.heap) args s₁ (.error e) s') s₁
theorem holds_openG {r : OpenRow} {q : Program} {loose : List Str} {Xt : Shared → Bool} {XP : (Str → Option Value) → Heap → Prop} {α : Type} {Yf : Shared → α} {Ya : World → α} {YP : World → Heap → Prop} {d : DefRec} {kwd : List (Str × Expr)} {N : Nat}
 (left : LeftO r.prog q loose Xt Yf Ya N) (hY : ∀ w s, Yf s = Ya w → YP w s.heap) (hYk : ∀ w h h', YP w h → (∀ b o, h.get? b = some o → h'.get? b = some o) → YP w h')
 (hX : ∀ s, Xt s = true → XP (s.heap.nsMap mainGlobals) s.heap) (hXk : ∀ mg h h', XP mg h → (∀ b o, h.get? b = some o → h'.get? b = some o) → XP mg h')
 (hdef : defOf q r.name = some (d, kwd)) (hp : r.prog.theDef r.name = some (d.params, d.body, d.scope)) (hk : kwWritten? d.params.kwonlyargs d.params.kw_defaults = some kwd) (hRf : ∀ s, Xt s = true → RecFacts r.records s.heap) (hwr : (!r.writes || r.records.isEmpty) = true)
 (k1 : r.wellSaid = true) (ok : (chainsOk q && opensWell r.prog && (frees r.toRowW && r.within.isEmpty)) = true) (hb : r.prog.bare) (hw : r.toRowW.promised)
 (call : WalkG q loose XP YP r.toRowW d kwd) : r.Holds := by
 obtain ⟨ok, k5⟩ := Bool.and_eq_true_iff.mp ok
 obtain ⟨hch, o1⟩ := Bool.and_eq_true_iff.mp ok
 obtain ⟨k5, k6⟩ := Bool.and_eq_true_iff.mp k5
 obtain ⟨hsame, hu, ha, hap, hm⟩ := frees_parts k5
 refine ⟨k1, hw, ⟨hb, o1, by show r.makers.map _ = []; rw [hm]; rfl⟩, hw.witness, fun w => ⟨(left.behind hX hch w).1, fun s' hs' => ?_⟩⟩
 obtain ⟨s₀, hf, hg0, s, hT, hz, hgens, hg, G00, y⟩ := (left.behind (XP := fun mg h => XP mg h ∧ RecFacts r.records h) (fun s hs => ⟨hX s hs, hRf s hs⟩) hch w).2 s' hs'
 have G0 : Ground q loose [] XP w s (s.heap.nsMap mainGlobals) (s.heap.nsMap builtinsNs) s.heap := ⟨G00.T, G00.B, G00.D, G00.TE, G00.TD, G00.W, G00.X.1, G00.cls, G00.has, G00.apart, G00.once, G00.K⟩
 have RF := G00.X.2
 have hT' := hT
 refine ⟨s₀, hf, hg0, s, hT, ?_, RF.1, RF.2.1, ?_⟩
 · intro n hn
   obtain rfl : n = r.name := by split at hn <;> simp_all
   exact pinned_of_view hg G0 hdef hp hk
 have hgens : s.gens = #[] := Array.eq_empty_of_size_eq_zero (beq_iff_eq.mp hgens)
 have G : Ground q loose r.records XP w s _ _ s.heap := RF.ground G0
 refine callFrom_G (c := r.toRowW.claim) hz hgens fun args hpre hlay ord hord => ?_
 obtain ⟨⟨vs, s₁⟩, hlaid⟩ := Option.isSome_iff_exists.mp (layAllW_isSome (P := w.params) (ord := ord) G.has args r.args s (pre_splitW hpre).1)
 have keeps := layAllW_keeps _ _ _ hlaid
 have hal := layAllW_rest _ _ _ hlaid
 obtain ⟨as, hrd, hin, hold⟩ := reads_layAllW hord _ _ _ hlaid hlay s₁.heap (fun _ _ e => e)
 have L : Laid r.records w s s₁ args vs as := ⟨⟨ord, hord, hlaid⟩, hrd, hin, hold, keeps, hal.1.trans hgens, hal.2.2.1⟩
 have G₁ := G.keeps hXk keeps
 obtain ⟨a, o, pm, cd, doc, dV, kV, h1, h2, h3, h4, h5⟩ := G₁.fn hdef
 have h := call w s s₁ _ _ G₁ (hYk _ _ _ (hY w s y) keeps) a (defOf_name hdef ▸ h1) L.gens args vs as hpre hlay L.reads L.well (L.low G.low)
 have hi := ident_freeW hu ha hap
 have hwi : r.toRowW.claim.within = [] := List.isEmpty_iff.mp k6
 refine ⟨vs, s₁, hlaid, ?_⟩
 show wpG _ callerA (do match ← nsGet mainNs r.name with
  | some f => do ret (← PySem.call f vs)
  | none => unsupported "claim.caller:no-such-global") _ _ s₁
 refine g_bind (wg (wpAny_nsGet G₁.T.g ?_))
 rw [h1]
 refine g_bind (g_mono h (fun v s' g => g_pure ⟨_, rfl, ?_⟩) fun e s' g => ?_)
 · have z := g.laid (c := r.toRowW.claim) hsame hwi hi L
   exact ⟨z.1, z.2.1, z.2.2, fun q => ⟨namesKept_of hT' hg _ keeps g.2.1.old, noTable hwr q⟩⟩
 · have z := g.laid (c := r.toRowW.claim) hsame hwi hi L
   exact ⟨z.1, z.2.1, z.2.2, fun q => ⟨namesKept_of hT' hg _ keeps g.2.1.old, noTable hwr q⟩⟩
end
theorem law_look (P : Params) : (KF P).lookup 1575 = some ⟨.type "function", none, .func (fnX n_law n_law (fp1 65) (fb1 65) (fs1 65) [] .none .none .none (.str n_law_be0012_01 2376) none (.ref 1574) .none), #[]⟩ := rfl
theorem law_bind {D : Addr} : bindArgs (fnX n_law n_law (fp1 65) (fb1 65) (fs1 65) [] .none .none .none (.str n_law_be0012_01 2376) none (.ref 1574) .none) ⟨[.ref D], []⟩ = pure [(Str.ofString "script", Value.ref D)] := by kernel_rfl
theorem law_env (L : Addr) : callEnvC (fnX n_law n_law (fp1 65) (fb1 65) (fs1 65) [] .none .none .none (.str n_law_be0012_01 2376) none (.ref 1574) .none) L 1575 = LW L := rfl
theorem law_walk {q : Program} {loose : List Str} {XP : (Str → Option Value) → Heap → Prop} {d : DefRec} {kwd : List (Str × Expr)} (hd : d.name = "law") : WalkG q loose XP HK.says rowL d kwd := by
 intro w s₀ s₁ mg mb G Y a hma hgens args vals as hpre hlay hrd hwl hlo
 have KX : (KF w.params).In s₁.heap := kIn_of Y
 obtain ⟨D, its, ns, rfl, rfl, ⟨od, hod, hc, n, hdat⟩, hI, hS⟩ := args_of hpre hlay hrd hwl hlo
 have T := topRead_of G.T
 have B : Bs (KF w.params) s₁.heap := ⟨KX, ⟨_, _, _, _, T⟩, G.T.nodigits⟩
 rw [hd] at hma
 have ha := mg_of KX T.g (gl_law w.params)
 rw [hma] at ha
 obtain rfl : a = 1575 := by injection ha with h; injection h
 refine g_call ?_
 have r0 : Rm callerA 15 := ⟨rfl, by decide, by decide⟩
 refine cg_call_cells (fd := fnX n_law n_law (fp1 65) (fb1 65) (fs1 65) [] .none .none .none (.str n_law_be0012_01 2376) none (.ref 1574) .none) (body := fb1 65) (binds := [("script", .ref D)]) r0.room (KX _ _ (law_look _)) rfl B.nolimit (codeRec_of KX (by kernel_rfl)) rfl law_bind rfl (fun x hx => ?_) (fun s' IC => ?_)
 · rw [List.mem_singleton.mp hx]
   exact .inr ⟨rfl, rfl⟩
 rw [law_env] at IC ⊢
 obtain ⟨⟨⟨h', tk, rfl⟩, hns, hkeep, hfr⟩, hcell, hap, hab⟩ := IC
 obtain ⟨oc, hoc, hocd⟩ := hcell "script" (s₁.heap.objs.size + 1) rfl
 have hocd : oc.data = .cell (some (.ref D)) := hocd
 have hsc : s₁.heap.get? (s₁.heap.objs.size + 1) = none := by
  cases e : s₁.heap.get? (s₁.heap.objs.size + 1) with
  | none => rfl
  | some o => exact absurd (Nat.lt_of_succ_lt (Heap.lt_size e)) (Nat.lt_irrefl _)
 have W : Wf s₁.heap s₁.heap.objs.size h' [] [(s₁.heap.objs.size + 1, oc)] := by
  refine ⟨⟨?_, hkeep, Nat.le_refl _⟩, fun p hp => ?_, by simp⟩
  · have e : (fun _ : Str => (none : Option Value)) = lk [] := rfl
    exact e ▸ hns
  · rw [List.mem_singleton.mp hp]
    exact ⟨hoc, by show s₁.heap.objs.size + 1 ≠ s₁.heap.objs.size; omega, hsc⟩
 have S : Scr s₁.heap oc D its n ns := ⟨hocd, ⟨od, hod, hc, hdat⟩, hI, hS⟩
 have ll : LL (callerA.deeper (LW s₁.heap.objs.size)) s₁.heap.objs.size := ⟨LW s₁.heap.objs.size, rfl, fun e => (nomatch (show ScopeKind.function = ScopeKind.module from e)), rfl⟩
 refine law_body (XS := nxs) B r0.deep ll S _ _ _ W (fun fl h2 tk2 m' N' e W2 => ?_) fun _ _ _ _ _ h _ => h.elim
 obtain rfl : fl = .ret (.bool true) := e
 refine ⟨.inl ⟨.bool true, .bool true, [], rfl, fun cls => rfl, .bool _, post_of, fun _ => ⟨List.nodup_nil, fun a h => nomatch h⟩⟩, .of_keep W2.fr.keep, rfl, .of_eq hgens⟩
theorem fin0 : PySem.Challenge.rw_be0012_01.Holds :=
 holds_law said_all fun said => holds_openG (r := PySem.Challenge.rw_be0012_01.row) (q := qvL) (loose := looseL) (Xt := fun _ => true) (XP := fun _ _ => True) (Yf := HK.obs) (Ya := HK.val) (YP := HK.says) (N := 14000) (d := dL) (kwd := [])
  left_all HK.of HK.keeps (fun _ _ => trivial) (fun _ _ _ _ _ => trivial) d_of d_the d_kw (fun s _ => recFacts_nil rfl) rfl said d_ok ⟨rfl, rfl, rfl, rfl, rfl, by decide +kernel⟩ d_prom (law_walk rfl)
end
end Mine
theorem PySem.Challenge.cw_be0012_01_holds : PySem.Challenge.rw_be0012_01.Holds :=
  Mine.fin0
