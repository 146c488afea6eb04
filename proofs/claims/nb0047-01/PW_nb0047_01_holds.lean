import PyProof.Rows.All
import Wide.All
import OpenK.AllK
import Wide.FinOn
import PySem.Challenge.RW_nb0047_01
set_option Elab.async false
-- part Hd
section
open PySem PySem.W PyProof.Rows
set_option maxRecDepth 100000
set_option maxHeartbeats 8000000
namespace Mine
-- the head once, with the code tables 56 and 63 of __len__ and __str__ seen empty
section
local macro_rules | `(tactic| o_head ($_ $K $A $E)) => `(tactic| o_head (kmHook $K $A $E [56, 63]))
open_top hd for PySem.Challenge.rw_nb0047_01
end
end Mine
end
-- part Base
section
open PySem PySem.W PyProof.Rows PySem.Calls
set_option maxRecDepth 100000
set_option maxHeartbeats 8000000
namespace Mine
/-- a mark at which the walk stops -/
def Halt (p : Prop) : Prop := p
theorem Halt.out {p : Prop} (h : Halt p) : p := h
theorem Halt.mk {p : Prop} (h : p) : Halt p := h

/-- all that stands in h stands in h' -/
def Keep (h h' : Heap) : Prop := ∀ b o, h.get? b = some o → h'.get? b = some o
theorem Keep.refl (h : Heap) : Keep h h := fun _ _ e => e
theorem Keep.trans {h h' h'' : Heap} (k : Keep h h') (k' : Keep h' h'') : Keep h h'' := fun b o e => k' b o (k b o e)
/-- all that stands in h, but at the addresses of ls, stands in h' -/
def KeepBut (ls : List Addr) (h h' : Heap) : Prop := ∀ b o, b ∉ ls → h.get? b = some o → h'.get? b = some o
theorem KeepBut.of_hide {ls : List Addr} {h h' : Heap} (k : Keep (hideAll h ls) h') : KeepBut ls h h' := fun b o n e => k b o (hideAll_get ls e n)
theorem Keep.but {h h' : Heap} (k : Keep h h') (ls : List Addr) : KeepBut ls h h' := fun b o _ e => k b o e

/-- a caller: a frame of a def of the text, with a ledger of objects that may turn -/
inductive Here (w : World) (led : List (Addr × Obj)) : Nat → Nat → Around → Heap → Prop
  | mk {p : Program} {loose : List Str} {mean : ExcName → Option Value} {mg mb : Str → Option Value} {dp un : Nat} {gd : Option (List Code)} {cn : Str} {cs : Scope} {a : Addr} {ccd : Value} {cl : List (Str × Addr)} {outer : List Env} {A₀ : Around} {base h₀ : Heap} {L : Addr} {m : Str → Option Value} {h : Heap} :
    Below A₀ base outer h₀ → Fr h₀ L h m → (Mine.hd.heap_39 w.params).In h₀ → Top p loose mean mg mb h₀ → News h₀ L h led → cs.kind = .function → Here w led dp un (ktrTop dp un gd cn cs L a ccd cl outer) h

theorem Here.sub {w : World} {led led' : List (Addr × Obj)} {dp un : Nat} {A : Around} {h : Heap} (H : Here w led dp un A h) (hs : ∀ q ∈ led', q ∈ led) : Here w led' dp un A h := by
  cases H with
  | mk B F X T N hk => exact .mk B F X T (fun q hq => N q (hs q hq)) hk
theorem Here.nil {w : World} {led : List (Addr × Obj)} {dp un : Nat} {A : Around} {h : Heap} (H : Here w led dp un A h) : Here w [] dp un A h := H.sub fun _ h => nomatch h
theorem Fr.keepK {h₀ h h' : Heap} {L : Addr} {m : Str → Option Value} (F : Fr h₀ L h m) (k : Keep h h') : Fr h₀ L h' m :=
  ⟨F.ns.keeps k, fun b o e => k b o (F.keep b o e), F.above⟩
theorem News.keepK {h₀ h h' : Heap} {L : Addr} {led : List (Addr × Obj)} (N : News h₀ L h led) (k : Keep h h') : News h₀ L h' led := fun q hq => ⟨k _ _ (N q hq).1, (N q hq).2⟩
theorem Here.keep {w : World} {led : List (Addr × Obj)} {dp un : Nat} {A : Around} {h h' : Heap} (H : Here w led dp un A h) (k : Keep h h') : Here w led dp un A h' := by
  cases H with
  | mk B F X T N hk => exact .mk B (Fr.keepK F k) X T (News.keepK N k) hk
theorem Here.in {w : World} {led : List (Addr × Obj)} {dp un : Nat} {A : Around} {h : Heap} (H : Here w led dp un A h) : (Mine.hd.heap_39 w.params).In h := by
  cases H with
  | mk B F X T N hk => exact X.keeps F.keep
/-- more C units, as under a built-in -/
theorem Here.in1 {w : World} {led : List (Addr × Obj)} {dp un : Nat} {A : Around} {h : Heap} (H : Here w led dp un A h) : Here w led dp (un + 1) A.in1 h := by
  cases H with
  | mk B F X T N hk => exact .mk B F X T N hk

/-- enter a def of the written part -/
theorem enterP {w : World} {led : List (Addr × Obj)} {dp un : Nat} {A : Around} {s : Shared} {Q E : Value → Shared → Prop}
    {name qual : Str} {params : Arguments} {body : List Stmt} {scope : Scope} {cl' : List (Str × Addr)} {dV kV doc pm cdv ct oc : Value} {an od : Option Addr} {osl : Array (Option Value)} {f : Addr} {args : List Value}
    (H : Here w led dp un A s.heap) (binds : List (Str × Value)) (hd : dp < recursionLimit)
    (ho : (Mine.hd.heap_39 w.params).lookup f = some ⟨oc, od, .func (fnX name qual params body scope cl' dV kV doc pm an cdv ct), osl⟩) (hcd : codeIn (Mine.hd.heap_39 w.params) cdv qual = true)
    (hbind : BindsTo s (fnX name qual params body scope cl' dV kV doc pm an cdv ct) ⟨args, []⟩ binds) (hloc : ∀ y ∈ binds, scope.names.lookup y.1 = some .local)
    (hco : scope.isCoroutine = false) (hgen : scope.isGenerator = false) (hks : scope.kind = .function) (hcell : ∀ x ∈ scope.names, x.2 ≠ .cell)
    (h : ∀ {p : Program} {loose : List Str} {mean : ExcName → Option Value} {mg mb : Str → Option Value} {gd : Option (List Code)} {A₀ : Around} {base g : Heap} {outer : List Env} (L' : Addr) (h₁ : Heap), g = hideAll s.heap (led.map (·.1)) → s.heap.objs.size ≤ L' →
      Below A₀ base outer g → Fr g L' h₁ (fun y => binds.reverse.lookup y) → (Mine.hd.heap_39 w.params).In g → News g L' h₁ led → Top p loose mean mg mb g →
      wpAny (model PySem.Challenge.rw_nb0047_01.row.prog w) (ktrTop (dp + 1) (un + 3) gd qual scope L' f cdv cl' outer) (execs body (envX qual scope L' f cdv cl'))
        (fun fl s' => Q (match fl with | .ret v => v | _ => .none) s')
        (fun _ _ => False)
        { s with heap := h₁, toks := s.toks + binds.length }) :
    wpAny (model PySem.Challenge.rw_nb0047_01.row.prog w) A (call (.ref f) args) Q E s := by
  cases H with
  | mk B F X T N hk =>
    rename_i p loose mean mg mb gd cn cs a ccd cl outer A₀ base h₀ L m
    have X' := X.keeps F.keep
    obtain ⟨FG, BG, st, _⟩ := groundX (A := ktrTop dp un gd cn cs L a ccd cl outer) (env := envX cn cs L a ccd cl) (R := fun _ _ => False) B F N rfl rfl hk
    refine wpAny_call (codeAny_call_def (fd := fnX name qual params body scope cl' dV kV doc pm an cdv ct) (body := body) (binds := binds) hd (X' _ _ ho) rfl (T.nolimit.keeps F.keep) (codeRec_of X' hcd) rfl hbind hcell hloc (fun h₁ hns hk₁ => ?_) hco hgen hks)
    exact wpAny_mono (h s.heap.objs.size h₁ rfl (Nat.le_refl _) BG ⟨hns, fun b o e => hk₁ b o (of_hideAll _ e), Nat.le_of_eq (hideAll_size _ _)⟩ (X.keeps st) (fun q hq => ⟨hk₁ _ _ (N q hq).1, Nat.ne_of_lt (Heap.lt_size (N q hq).1), hideAll_none _ (List.mem_map_of_mem hq)⟩) (T.keeps st)) (fun _ _ x => x) (fun _ _ x => x.elim)

/-- enter a def that turns nothing -/
theorem enter0 {w : World} {dp un : Nat} {A : Around} {s : Shared} {Q E : Value → Shared → Prop}
    {name qual : Str} {params : Arguments} {body : List Stmt} {scope : Scope} {dV kV doc pm cdv ct oc : Value} {an od : Option Addr} {osl : Array (Option Value)} {f : Addr} {args : List Value}
    (H : Here w [] dp un A s.heap) (binds : List (Str × Value)) (hd : dp < recursionLimit)
    (ho : (Mine.hd.heap_39 w.params).lookup f = some ⟨oc, od, .func (fnOf name qual params body scope dV kV doc pm an cdv ct), osl⟩) (hcd : codeIn (Mine.hd.heap_39 w.params) cdv qual = true)
    (hbind : BindsTo s (fnOf name qual params body scope dV kV doc pm an cdv ct) ⟨args, []⟩ binds) (hloc : ∀ y ∈ binds, scope.names.lookup y.1 = some .local)
    (hco : scope.isCoroutine = false) (hgen : scope.isGenerator = false) (hks : scope.kind = .function) (hcell : ∀ x ∈ scope.names, x.2 ≠ .cell)
    (h : ∀ {p : Program} {loose : List Str} {mean : ExcName → Option Value} {mg mb : Str → Option Value} {gd : Option (List Code)} {A₀ : Around} {base : Heap} {outer : List Env} (L' : Addr) (h₁ : Heap), s.heap.objs.size ≤ L' →
      Below A₀ base outer s.heap → Fr s.heap L' h₁ (fun y => binds.reverse.lookup y) → (Mine.hd.heap_39 w.params).In s.heap → News s.heap L' h₁ [] → Top p loose mean mg mb s.heap →
      wpAny (model PySem.Challenge.rw_nb0047_01.row.prog w) (ktrTop (dp + 1) (un + 3) gd qual scope L' f cdv [] outer) (execs body (envOf qual scope L' f cdv))
        (fun fl s' => Q (match fl with | .ret v => v | _ => .none) s')
        (fun _ _ => False)
        { s with heap := h₁, toks := s.toks + binds.length }) :
    wpAny (model PySem.Challenge.rw_nb0047_01.row.prog w) A (call (.ref f) args) Q E s := by
  refine enterP H binds hd ho hcd hbind hloc hco hgen hks hcell ?_
  intro p loose mean mg mb gd A₀ base g outer L' h₁ hg hL B F X N T
  subst hg
  exact h L' h₁ hL B F X N T

/-- enter a def that turns nothing and whose names are cells -/
theorem enterC {w : World} {dp un : Nat} {A : Around} {s : Shared} {Q E : Value → Shared → Prop}
    {name qual : Str} {params : Arguments} {body : List Stmt} {scope : Scope} {dV kV doc pm cdv ct oc : Value} {an od : Option Addr} {osl : Array (Option Value)} {f : Addr} {args : List Value}
    (H : Here w [] dp un A s.heap) (binds : List (Str × Value)) (hd : dp < recursionLimit)
    (ho : (Mine.hd.heap_39 w.params).lookup f = some ⟨oc, od, .func (fnOf name qual params body scope dV kV doc pm an cdv ct), osl⟩) (hcd : codeIn (Mine.hd.heap_39 w.params) cdv qual = true)
    (hbind : BindsTo s (fnOf name qual params body scope dV kV doc pm an cdv ct) ⟨args, []⟩ binds)
    (hkind : (binds.all fun y => scope.names.lookup y.1 == some .local || scope.names.lookup y.1 == some .cell) = true) (hnd : ((cellsFrom 0 scope.names []).map (·.1)).Nodup)
    (hco : scope.isCoroutine = false) (hgen : scope.isGenerator = false) (hks : scope.kind = .function)
    (h : ∀ {p : Program} {loose : List Str} {mean : ExcName → Option Value} {mg mb : Str → Option Value} {gd : Option (List Code)} {A₀ : Around} {base : Heap} {outer : List Env} (L' : Addr) (h₁ : Heap) (tk : Nat) (cells : List (Addr × Obj)),
      Below A₀ base outer s.heap → Fr s.heap L' h₁ (bindL (envOfC qual scope L' f cdv).kindOf binds fun _ => none) → (Mine.hd.heap_39 w.params).In s.heap → News s.heap L' h₁ cells → Top p loose mean mg mb s.heap →
      CellsAre (bindC (envOfC qual scope L' f cdv).kindOf binds fun _ => none) (cellsFrom (L' + 1) scope.names []) cells →
      wpAny (model PySem.Challenge.rw_nb0047_01.row.prog w) (ktrTop (dp + 1) (un + 3) gd qual scope L' f cdv (cellsFrom (L' + 1) scope.names []) outer) (execs body (envOfC qual scope L' f cdv))
        (fun fl s' => Q (match fl with | .ret v => v | _ => .none) s')
        (fun _ _ => False)
        { s with heap := h₁, toks := tk }) :
    wpAny (model PySem.Challenge.rw_nb0047_01.row.prog w) A (call (.ref f) args) Q E s := by
  cases H with
  | mk B F X T N hk =>
    rename_i p loose mean mg mb gd cn cs a ccd cl outer A₀ base h₀ L m
    have X' := X.keeps F.keep
    obtain ⟨FG, BG, st, _⟩ := groundX (A := ktrTop dp un gd cn cs L a ccd cl outer) (env := envX cn cs L a ccd cl) (R := fun _ _ => False) B F N rfl rfl hk
    refine wpAny_call ?_
    refine codeAny_call_function (fd := fnOf name qual params body scope dV kV doc pm an cdv ct) (body := body) hd (X' _ _ ho) rfl hco hgen rfl (codeRec_of X' hcd) (hbind _ _ _ _ ?_)
    refine wpAny_newFunctionEnv_cells hks (kindsX hkind _) fun env' he s' x => ?_
    subst he
    refine ⟨(T.nolimit.keeps F.keep).keeps x.toInCall.keep, codeAny_func ?_⟩
    obtain ⟨h₁, tk, rfl, _⟩ := x.done
    have hk₁ := x.toInCall.keep
    obtain ⟨cells, NC, Y⟩ := Cl.news (h₀ := s.heap) (Nat.le_refl _) fun n c hm => ⟨x.cell n c (lookup_of_mem_nodup (cellsFrom_names scope.names 0 (s.heap.objs.size + 1) [] [] rfl ▸ hnd) hm), x.above n c hm⟩
    exact wpAny_mono (h s.heap.objs.size h₁ tk cells BG ⟨x.toInCall.ns, fun b o e => hk₁ b o e, Nat.le_refl _⟩ (X.keeps st) NC (T.keeps st) Y) (fun _ _ x => x) (fun _ _ x => x.elim)

theorem ksw_while' {σ : Type} {prog : Program} {w : World} {A : Around} {E : Value → Shared → Prop} {Q : Flow → Shared → Prop} {s : Shared} {env : Env} {h₀ : Heap} {L : Addr} {test : Expr} {body : List Stmt} {pos : Pos} {m₀ : Str → Option Value} {news : List (Addr × Obj)} (ps : σ → List (Str × Value)) (stored : List Str) (P : σ → Prop) (μ : σ → Nat)
    (F : Fr h₀ L s.heap m₀) (N : News h₀ L s.heap news) (start : ∃ c₀, (∀ p ∈ ps c₀, m₀ p.1 = some p.2) ∧ P c₀)
    (turn : ∀ (c : σ) (u : Str → Option Value) h tk, P c → Fr h₀ L h (kstB (fun z => if stored.contains z then u z else m₀ z) (ps c)) → News h₀ L h news →
      wpAny (model prog w) A (isTrue test env (eval test env)) (fun b s₂ =>
        if b = true then wpAny (model prog w) A (execs body env) (KswPost h₀ L s (fun _ => news) ps (fun _ => True) stored m₀ P μ Q c) E s₂ else Q .next s₂) E { s with heap := h, toks := tk })
    (hE : PassesOwn (model prog w) A env E := by passes_own) :
    wpAny (model prog w) A (exec (.While test body [] pos) env) Q E s := by
  obtain ⟨c₀, h1, h2⟩ := start
  exact ksw_while (fun _ => news) ps (fun _ => True) stored P μ c₀ F N trivial h1 h2 (fun c u h tk _ hp F N => turn c u h tk hp F N) hE
end Mine
end
-- part L1
section
open PySem PySem.W PyProof.Rows PySem.Calls PySem.Builtin PySem.Builtin._codecs
set_option maxRecDepth 100000
set_option maxHeartbeats 8000000
namespace Mine
theorem forIn_path {α σ : Type} (f : α → σ → Sem (ForInStep σ)) (S : Nat → σ) : ∀ (l : List α) (j : Nat), (∀ i a, j ≤ i → i < j + l.length → f a (S i) = pure (.yield (S (i + 1)))) → forIn l (S j) f = (pure (S (j + l.length)) : Sem σ)
  | [], j, _ => rfl
  | a :: l, j, h => by
    rw [List.forIn_cons, h j a (Nat.le_refl _) (by simp)]
    show forIn l (S (j + 1)) f = _
    rw [forIn_path f S l (j + 1) fun i a h1 h2 => h i a (by omega) (by simp only [List.length_cons]; omega)]
    congr 2; simp only [List.length_cons]; omega
theorem pb {α β : Type} (a : α) (f : α → Sem β) : ((pure a : Sem α) >>= f) = f a := rfl
theorem take_map_push (b : Array UInt8) (i : Nat) (h : i < b.size) : ((b.toList.take (i + 1)).map UInt8.toNat).toArray = ((b.toList.take i).map UInt8.toNat).toArray ++ #[(b.getD i 0).toNat] := by
  have : b.toList.take (i + 1) = b.toList.take i ++ [b[i]] := by
    rw [List.take_add_one]; simp [h]
  rw [this]
  simp [h]
theorem runDec (id : String) (b : Array UInt8) (hb : ∀ x ∈ b.toList, x.toNat < 128) (hs : b.size ≤ sizeLine) :
    runDecoder id asciiDecoder none true b 0 [] = pure ((b.toList.map UInt8.toNat).toArray, b.size) := by
  unfold runDecoder
  simp only [Std.Legacy.Range.forIn_eq_forIn_range']
  rw [show [:b.size].size = b.size from by simp [Std.Legacy.Range.size]]
  refine Eq.trans (congrArg (fun t : Sem (Nat × Array Nat × Faults) => t >>= fun s => pure (s.2.1, s.1)) (forIn_path _ (fun i => ((i, ((b.toList.take i).map UInt8.toNat).toArray, ({} : Faults)) : Nat × Array Nat × Faults)) (List.range' 0 b.size) 0 ?_)) ?_
  · intro i a _ hi
    simp only [List.length_range', Nat.zero_add] at hi
    have h1 : ¬ (((b.toList.take i).map UInt8.toNat).toArray.size > sizeLine) := by simp; omega
    have h2 : ¬ (i ≥ b.size) := by omega
    dsimp only
    rw [if_neg h1, if_neg h2]
    have h3 : (b.getD i 0).toNat < 128 := by
      have : b.getD i 0 ∈ b.toList := by simp [hi]
      exact hb _ this
    have h4 : asciiDecoder.find true b i = Found.text [(b.getD i 0).toNat] (i + 1) := by
      show (if (b.getD i 0).toNat < 128 then _ else _) = _
      rw [if_pos h3]; rfl
    rw [h4]
    dsimp only
    rw [take_map_push b i hi]
  · rw [pb]
    simp only [List.length_range', Nat.zero_add]
    rw [List.take_of_length_le (by simp)]
theorem foldl_bytes (l : List Nat) (acc : Array UInt8) : l.foldl (fun acc y => acc ++ (asciiCodec.bytesOf y).toArray) acc = acc ++ (l.map Nat.toUInt8).toArray := by
  induction l generalizing acc with
  | nil => simp
  | cons x l ih =>
    rw [List.foldl_cons, ih]
    show acc ++ #[x.toUInt8] ++ _ = _
    simp
theorem encN (id : String) (self : Value) (s : Str) (hb : ∀ x ∈ s.cps.toList, x < 128) (hs : s.length ≤ sizeLine) :
    encodeNarrow id asciiCodec none self s = pure ((s.cps.toList.map Nat.toUInt8).toArray) := by
  unfold encodeNarrow
  simp only [Std.Legacy.Range.forIn_eq_forIn_range']
  rw [show [:s.length].size = s.length from by simp [Std.Legacy.Range.size]]
  have hl : s.length = s.cps.size := rfl
  cases hn : s.length with
  | zero =>
    have : s.cps.toList = [] := by apply List.eq_nil_of_length_eq_zero; rw [Array.length_toList]; omega
    rw [this]; rfl
  | succ k =>
    rw [List.range'_succ, List.forIn_cons]
    have h0 : ¬ ((#[] : Array UInt8).size > sizeLine) := by simp [sizeLine]
    have hlt : 0 < s.cps.size := by omega
    have h1 : s.cps[0]? = some s.cps[0] := by simp [hlt]
    have hbad : ∀ x ∈ s.cps.toList, asciiCodec.bad x = false := fun x hx => by
      have := hb x hx
      show decide (x ≥ 128) = false
      simp; omega
    have h2 : (!asciiCodec.bad s.cps[0]) = true := by rw [hbad _ (by simp)]; rfl
    have h3 : Array.findIdx? asciiCodec.bad (s.cps.extract 0) = none := by
      rw [Array.findIdx?_eq_none_iff]
      intro x hx
      simp at hx
      rw [hbad x (by simpa using hx)]
    dsimp only
    rw [if_neg h0, h1]
    dsimp only
    rw [if_pos h2, h3]
    dsimp only [Option.getD_none]
    have e1 : Array.foldl (fun acc y => acc ++ (asciiCodec.bytesOf y).toArray) #[] ((s.cps.extract 0).extract 0 (s.cps.extract 0).size) = (s.cps.toList.map Nat.toUInt8).toArray := by
      have := foldl_bytes s.cps.toList #[]
      rw [← Array.foldl_toList]
      simpa using this
    rw [e1]
    have e2 : (0 + (s.cps.extract 0).size) = s.cps.size := by simp
    rw [e2]
    have hz : ¬ ((s.cps.toList.map Nat.toUInt8).toArray.size > sizeLine) := by rw [List.size_toArray, List.length_map, Array.length_toList]; omega
    have hnone : s.cps[s.cps.size]? = none := by simp
    cases k with
    | zero => rfl
    | succ k =>
      rw [List.range'_succ, pb]
      dsimp only
      rw [List.forIn_cons]
      dsimp only
      rw [if_neg hz, hnone]
      rfl

section
variable {b : Array UInt8} {t t1 : Tok}
theorem dec_road {id : String} : decodeRoad id b (Str.ofString "ascii") none [] = (runDecoder id asciiDecoder none true b 0 [] >>= fun r => mkStr ⟨r.1⟩) := by kernel_rfl
theorem dec_text {t2 : Tok} {d : Str} (hb : ∀ x ∈ b.toList, x.toNat < 128) (hs : b.size ≤ sizeLine) :
    Meets («_codecs.decode.text» ⟨[.bytes b t, .str (Str.ofString "ascii") t1, .none, .str d t2], []⟩) (fun _ R s => R (.ok (.ret (.str ⟨(b.toList.map UInt8.toNat).toArray⟩ s.toks))) { s with toks := s.toks + 1 }) := by
  refine .of_wp fun prog w A R s h => ?_
  show wpAny _ _ (Bytes.bytesLike _ (.bytes b t) >>= fun r => _) _ _ s
  refine wpAny_bind (wpAny_of_eq KBd.like_eq ?_)
  refine wpAny_bind (wpAny_of_eq KBd.held_eq ?_)
  show wpAny _ _ (decodeRoad _ b (Str.ofString "ascii") none [] >>= fun v => _) _ _ s
  rw [dec_road, runDec _ _ hb hs]
  refine wpAny_bind (wpAny_bind (wpAny_pure ?_))
  exact wpAny_mkStr (wpAny_pure ⟨_, rfl, h⟩) (by show (b.toList.map UInt8.toNat).toArray.size ≤ _; simpa using hs)
theorem dec_entry : «bytes.decode» ⟨[.bytes b t, .str (Str.ofString "ascii") t1], []⟩ = (if b.isEmpty then (rule "bytes.decode.empty" >>= fun _ => retStr Str.empty) else (mkStr (Str.ofString "utf-8") >>= fun _ => mkStr (Str.ofString "ascii") >>= fun e => mkStr (Str.ofString "bytes.decode") >>= fun d =>
    call (.builtin "_codecs.decode.text") [.bytes b t, e, .none, d] >>= fun v => ret v)) := by
  with_unfolding_all rfl
theorem dec_args (x y : Value) : argsOk "bytes.decode" ⟨[x, y], []⟩ := by unfold argsOk; kernel_rfl
theorem dec_call {prog : Program} {w : World} {A : Around} {E : Value → Shared → Prop} {s : Shared} {Q : Value → Shared → Prop} (hb : ∀ x ∈ b.toList, x.toNat < 128) (hs : b.size ≤ 16777216) (h : ∀ t' k, Q (.str ⟨(b.toList.map UInt8.toNat).toArray⟩ t') { s with toks := k }) :
    wpAny (model prog w) A (call (.builtin "bytes.decode") [.bytes b t, .str (Str.ofString "ascii") t1]) Q E s := by
  refine call_meets FB.slot_bytes_decode (typeIs_bytes _ _ _) FB.entry_bytes_decode (dec_args _ _) (S := fun _ R s => ∀ t' k, R (.ok (.ret (.str ⟨(b.toList.map UInt8.toNat).toArray⟩ t'))) { s with toks := k }) (.of_wp fun prog w A R s h => ?_) h
  rw [dec_entry]
  by_cases he : b.isEmpty = true
  · rw [if_pos he]
    have e0 : b = #[] := by simpa using he
    subst e0
    exact wpAny_bind (wpAny_rule (wpAny_bind (wpAny_mkStr (wpAny_pure ⟨_, rfl, h _ _⟩) (by decide))))
  · rw [if_neg he]
    refine wpAny_bind (wpAny_mkStr (wpAny_bind (wpAny_mkStr (wpAny_bind (wpAny_mkStr ?_ (by decide))) (by decide))) (by decide))
    exact wpAny_bind (call_function_meets KBd.kind_text KBd.plain_text KBd.entry_text (KBd.args_text _ _ _ _) (dec_text hb (by rw [sizeLine_eq]; exact hs)) (wpAny_pure ⟨_, rfl, h _ _⟩))
end
end Mine
end
-- part L2
section
open PySem PySem.W PyProof.Rows PySem.Calls
set_option maxRecDepth 100000
set_option maxHeartbeats 8000000
namespace Mine
/-- the values are tuples of two -/
def Pairs (h : Heap) (v : Value) (p : Value × Value) : Prop := ∃ t, v = .ref t ∧ IsTup h t #[p.1, p.2]
theorem Pairs.keep {h h' : Heap} {v : Value} {p : Value × Value} (x : Pairs h v p) (k : Keep h h') : Pairs h' v p := by
  obtain ⟨t, rfl, o, ho, r⟩ := x
  exact ⟨t, rfl, o, k _ _ ho, r⟩
theorem Paired.get {α β : Type} {R : α → β → Prop} : ∀ {l : List α} {l' : List β}, Paired R l l' → ∀ {i : Nat} {a : α} {b : β}, l[i]? = some a → l'[i]? = some b → R a b
  | _, _, .nil, i, a, b, h, _ => by simp at h
  | _, _, .cons h t, 0, a, b, h1, h2 => by simp at h1 h2; subst h1 h2; exact h
  | _, _, .cons h t, i + 1, a, b, h1, h2 => Paired.get t (by simpa using h1) (by simpa using h2)
theorem Paired.take {α β : Type} {R : α → β → Prop} : ∀ {l : List α} {l' : List β} (i : Nat), Paired R l l' → Paired R (l.take i) (l'.take i)
  | _, _, 0, _ => by simpa using Paired.nil
  | _, _, _ + 1, .nil => .nil
  | _, _, i + 1, .cons h t => .cons h (Paired.take i t)
theorem Paired.drop {α β : Type} {R : α → β → Prop} : ∀ {l : List α} {l' : List β} (i : Nat), Paired R l l' → Paired R (l.drop i) (l'.drop i)
  | _, _, 0, h => h
  | _, _, _ + 1, .nil => .nil
  | _, _, i + 1, .cons _ t => Paired.drop i t
theorem Paired.app {α β : Type} {R : α → β → Prop} : ∀ {l l₁ : List α} {l' l₁' : List β}, Paired R l l' → Paired R l₁ l₁' → Paired R (l ++ l₁) (l' ++ l₁')
  | _, _, _, _, .nil, h => h
  | _, _, _, _, .cons h t, h' => .cons h (Paired.app t h')
theorem Paired.rev {α β : Type} {R : α → β → Prop} : ∀ {l : List α} {l' : List β}, Paired R l l' → Paired R l.reverse l'.reverse
  | _, _, .nil => .nil
  | _, _, .cons h t => by rw [List.reverse_cons, List.reverse_cons]; exact Paired.app (Paired.rev t) (.cons h .nil)

section
variable {prog : Program} {w : World} {A : Around} {E : Value → Shared → Prop} {s : Shared} {env : Env}
theorem comp_pairs {elt iter : Expr} {x x₂ : Str} {px px₂ tp : Pos} {tk1} {scope : Scope} {pos : Pos} {Q : Value → Shared → Prop} (Y : Value × Value → Value → Prop)
    (hh : A.handled = none) (hfree : ∀ y ∈ scope.names, y.2 ≠ .free) (hcell : ∀ y ∈ scope.names, y.2 ≠ .cell) (hkind : scope.kind = .function)
    (hnames : ∀ y ∈ scope.names, y.2 = .local → scope.names.lookup y.1 = some .local) (hx : scope.names.lookup x = some .local) (hx₂ : scope.names.lookup x₂ = some .local) (hxx : x ≠ x₂)
    (h : wpAny (model prog w) A (eval iter env) (fun xv s₁ => ∃ ax vs ps, xv = .ref ax ∧ s₁.heap.IsList ax vs.toArray ∧ vs.length ≤ sizeLine ∧ Paired (Pairs s₁.heap) vs ps ∧
      (∀ C p s₂ m₂ E', p ∈ ps → s₂.heap.Ns C m₂ → m₂ x = some p.1 → m₂ x₂ = some p.2 → Keep s₁.heap s₂.heap →
        wpAny (model prog w) A (eval elt (compEnv scope C env)) (fun y s₃ => Y p y ∧ Keeps s₂ s₃) E' s₂) ∧
      (∀ D h' tk ys, s₁.heap.get? D = none → h'.PlainList D ys.toArray → Paired Y ps ys → Keep s₁.heap h' → Q (.ref D) { s₁ with heap := h', toks := tk })) E s)
    (hs : ∀ x, foldedSetIterable iter env x = pure x := by intro _; rfl) :
    wpAny (model prog w) A (eval (.ListComp elt [⟨.Tuple [.Name x px, .Name x₂ px₂] tk1 tp, iter, [], 0⟩] scope pos) env) Q E s := by
  refine wpAny_ListComp hfree hkind hnames (wpAny_mono h (fun xv s₁ h₁ => ?_) fun _ _ e => e) hs
  obtain ⟨ax, vs, ps, rfl, hl, hsz, hP, helt, hQ⟩ := h₁
  refine wpAny_pyIter_list hl (wpAny_newObj_type (hd := by size_fits) (wpAny_newFunctionEnv hcell (by intro y hy; simp at hy) (fun h₁ hns₁ hsb₁ => ?_) hkind))
  dsimp only at hns₁ hsb₁ ⊢
  obtain ⟨ol, hol, hol'⟩ := id hl
  have hax : ax < s₁.heap.objs.size := Heap.lt_size hol
  generalize hH1 : s₁.heap.push { cls := .type "list_iterator", data := .fields #[.ref ax, .int 0 0] } = H1 at hns₁ hsb₁ ⊢
  have hD : H1.objs.size = s₁.heap.objs.size + 1 := by rw [← hH1, Heap.size_push]
  generalize hH2 : H1.push { cls := .type "list", dict := none, data := .seq ([] : List Value).toArray } = H2 at hns₁ hsb₁ ⊢
  have hC : H2.objs.size = s₁.heap.objs.size + 2 := by rw [← hH2, Heap.size_push, hD]
  generalize hI : s₁.heap.objs.size = I at *
  generalize hDD : H1.objs.size = D at *
  generalize hCC : H2.objs.size = C at *
  have below : ∀ b o, s₁.heap.get? b = some o → b ≠ C ∧ b ≠ I ∧ b ≠ D := fun b o e => by
    have := ltN (hI ▸ Heap.lt_size e : b < I)
    refine ⟨neN ?_, neN ?_, neN ?_⟩ <;> omega
  have old : Keep s₁.heap h₁ := fun b o e =>
    hsb₁.extBut b o (below b o e).1 (Heap.get?_push_of_some _ (hH2 ▸ Heap.get?_push_of_some _ (hH1 ▸ Heap.get?_push_of_some _ e)))
  have hit : h₁.IsListIter I ax 0 :=
    ⟨_, hsb₁.extBut _ _ (neN (by omega)) (Heap.get?_push_of_some _ (hH2 ▸ Heap.get?_push_of_some _ (hH1 ▸ hI ▸ Heap.get?_push_size _ rfl))), rfl, rfl⟩
  have hacc : h₁.PlainList D #[] := ⟨_, hsb₁.extBut _ _ (neN (by omega)) (Heap.get?_push_of_some _ (hH2 ▸ hDD ▸ Heap.get?_push_size _ rfl))⟩
  have hnew : s₁.heap.get? D = none := by
    cases e : s₁.heap.get? D with
    | none => rfl
    | some o' => exact absurd rfl (below _ _ e).2.2
  have loop : ∀ s₂ : Shared, s₂ = { s₁ with heap := h₁, toks := s₁.toks + ([] : List (Str × Value)).length } →
      codeAny (model prog w) A (.compLoop (.ListComp elt [⟨.Tuple [.Name x px, .Name x₂ px₂] tk1 tp, iter, [], 0⟩] scope pos) 0 (.ref I) (.ref D) (compEnv scope C env))
        (fun r s' => ∃ m, s'.heap.Ns C m ∧ ∀ h', Heap.SameBut C s'.heap h' →
          match r with | .ok _ => Q (.ref D) { s' with heap := h' } | .error x => wpAny (model prog w) A (passOn "comprehension.variables-let-go" x (compEnv scope C env)) Q E { s' with heap := h' }) s₂ := by
    rintro s₂ rfl
    refine LCp.codeAny_compLoop_pair
      (fun k s' => ∃ h' tk i ys m', s' = { s₁ with heap := h', toks := tk } ∧ i ≤ vs.length ∧ k = vs.length + 1 - i ∧ h'.IsListIter I ax i ∧ h'.PlainList D ys.toArray ∧ h'.Ns C m' ∧ Paired Y (ps.take i) ys ∧ Keep s₁.heap h') ?_ (vs.length + 1)
      ⟨h₁, _, 0, [], _, rfl, Nat.zero_le _, rfl, hit, hacc, hns₁, by simpa using Paired.nil, old⟩
    rintro k s' ⟨h', tk, i, ys, m', rfl, hi, rfl, hit', hacc', hn', hY, hk⟩
    have hl' : h'.IsList ax vs.toArray := hl.at fun o e => hk _ _ e
    cases hv : vs[i]? with
    | none =>
      have hie : i = vs.length := by have := List.getElem?_eq_none_iff.mp hv; omega
      refine wpAny_pyNext_list_end hh hit' hl' (by simpa using hv) fun h₂ he₂ => ?_
      refine ⟨m', hn'.extBut he₂ (neN (by omega)), fun h₃ hs₃ => ?_⟩
      refine hQ D h₃ tk ys hnew ((hacc'.at fun o e => he₂ _ _ (neN (by omega)) e).at fun o e => hs₃.extBut _ _ (neN (by omega)) e) ?_ fun b o e => hs₃.extBut b o (below b o e).1 (he₂ b o (below b o e).2.1 (hk b o e))
      rw [hie, hP.length, List.take_length] at hY
      exact hY
    | some v =>
      have hlt : i < vs.length := (List.getElem?_eq_some_iff.mp hv).1
      have hlt' : i < ps.length := by rw [← hP.length]; exact hlt
      have hp : ps[i]? = some ps[i] := by simp [hlt']
      obtain ⟨t, rfl, ht⟩ := Paired.get hP hv hp
      refine wpAny_pyNext_list_item hit' hl' (by simpa using hv) fun h₂ hit₂ hs₂ => ?_
      refine wpAny_letOwnedTupleGo_listiter hit₂ ?_
      have k₂ : Keep s₁.heap h₂ := fun b o e => hs₂.extBut b o (below b o e).2.1 (hk b o e)
      refine assign_Tuple_tuple hh (IsTup.keeps ht k₂) rfl rfl fun h₅ he => ?_
      have he' : Keep h₂ h₅ := fun b o e => he b o (Nat.ne_of_lt (Heap.lt_size e)) e
      refine assignInOrder_cons (wpAny_assign_Name (wpAny_storeName_local (env := compEnv scope C env) hx ((hn'.sameBut hs₂ (neN (by omega))).keeps he') (fun h₆ hn₆ hs₆ => ?_) (by simp [compEnv, hkind])))
      refine assignInOrder_cons (wpAny_assign_Name (wpAny_storeName_local (env := compEnv scope C env) hx₂ hn₆ (fun h₇ hn₇ hs₇ => ?_) (by simp [compEnv, hkind])))
      refine assignInOrder_nil ?_
      have up₇ : ∀ b o, b ≠ C → h₂.get? b = some o → h₇.get? b = some o := fun b o hb e => hs₇.extBut b o hb (hs₆.extBut b o hb (he' b o e))
      have k₇ : Keep s₁.heap h₇ := fun b o e => up₇ b o (below b o e).1 (k₂ b o e)
      refine wpAny_mono (helt C ps[i] _ _ _ (List.getElem_mem hlt') hn₇ (by simp [hxx]) (by simp) k₇) (fun y s₈ h₈ => ?_) fun _ _ e => e
      obtain ⟨hYy, h₈, tk₈, rfl, k₈⟩ := h₈
      have hit₈ : h₈.IsListIter I ax (i + 1) := (hit₂.at fun o e => up₇ _ _ (neN (by omega)) e).at fun o e => k₈ _ _ e
      have hacc₈ : h₈.PlainList D ys.toArray := ((hacc'.at fun o e => hs₂.extBut _ _ (neN (by omega)) e).at fun o e => up₇ _ _ (neN (by omega)) e).at fun o e => k₈ _ _ e
      have hyl : ys.length = i := by rw [← hY.length, List.length_take]; omega
      refine wpAny_list_append_plain (hsz := by simp only [List.size_toArray]; omega) hacc₈ fun h₉ hl₉ hs₉ => ?_
      refine ⟨vs.length + 1 - (i + 1), by omega, h₉, tk₈, i + 1, ys ++ [y], _, rfl, hlt, rfl, (hit₈.at fun o e => hs₉.extBut _ _ (neN (by omega)) e), by simpa using hl₉, (hn₇.keeps k₈).sameBut hs₉ (show C ≠ D from neN (by omega)), ?_, fun b o e => hs₉.extBut b o (below b o e).2.2 (k₈ b o (k₇ b o e))⟩
      have e1 : ps.take (i + 1) = ps.take i ++ [ps[i]] := by rw [List.take_add_one, hp]; rfl
      rw [e1]
      exact Paired.snoc hY hYy
  exact codeAny_compStart_list (loop _ rfl) (wpAny_pyIter_listiter hit (loop _ rfl))

theorem sum_plain {l : Addr} {ys : List Value} {ns : List Int} {Q : Value → Shared → Prop} (hh : A.handled = none) (hl : s.heap.IsList l ys.toArray) (hi : IntsAre ys ns)
    (h : ∀ h' tk t', Keep s.heap h' → Q (.int ns.sum t') { s with heap := h', toks := tk }) : wpAny (model prog w) A (call (.builtin "sum") [.ref l]) Q E s := by
  obtain ⟨xs, hx⟩ := hi.allInts.items
  have e := hi.numsOf
  have e2 : numsOf ys = numsOf (intItems xs).toList := by rw [← hx]
  rw [e2, nums_intItems] at e
  rw [hx] at hl
  refine sum_intListG hh hl fun h' tk t' hk => ?_
  have := h h' tk t' hk
  rw [preSum_eq, List.take_of_length_le (by simp), e]
  exact this
end
/-- a list of pairs of ints -/
def SizeAt (h : Heap) (v : Value) (k : Nat × Nat) : Prop := ∃ t1 t2, Pairs h v (.int k.1 t1, .int k.2 t2)
def Sizes (h : Heap) (a : Addr) (ks : List (Nat × Nat)) : Prop := ∃ vs, h.IsList a vs.toArray ∧ Paired (SizeAt h) vs ks
theorem SizeAt.keep {h h' : Heap} {v : Value} {k : Nat × Nat} (x : SizeAt h v k) (kp : Keep h h') : SizeAt h' v k := by
  obtain ⟨t1, t2, r⟩ := x
  exact ⟨t1, t2, r.keep kp⟩
theorem Sizes.keep {h h' : Heap} {a : Addr} {ks : List (Nat × Nat)} (x : Sizes h a ks) (kp : Keep h h') : Sizes h' a ks := by
  obtain ⟨vs, hl, r⟩ := x
  exact ⟨vs, hl.at fun o e => kp _ _ e, r.mono fun _ _ q => q.keep kp⟩
theorem sizes_pairs {h : Heap} : ∀ {vs : List Value} {ks : List (Nat × Nat)}, Paired (SizeAt h) vs ks → ∃ ps, Paired (Pairs h) vs ps ∧ Paired (fun (p : Value × Value) (k : Nat × Nat) => ∃ t1 t2, p = (.int k.1 t1, .int k.2 t2)) ps ks
  | _, _, .nil => ⟨[], .nil, .nil⟩
  | _, _, .cons ⟨t1, t2, r⟩ t => by
    obtain ⟨ps, h1, h2⟩ := sizes_pairs t
    exact ⟨_ :: ps, .cons r h1, .cons ⟨t1, t2, rfl⟩ h2⟩
def totK (ks : List (Nat × Nat)) : Nat := (ks.map fun k => k.1 + k.2).sum
theorem ints_of {ps : List (Value × Value)} {ks : List (Nat × Nat)} {ys : List Value} (h1 : Paired (fun (p : Value × Value) (k : Nat × Nat) => ∃ t1 t2, p = (.int k.1 t1, .int k.2 t2)) ps ks)
    (h2 : Paired (fun (p : Value × Value) y => ∀ a b t1 t2, p = (.int a t1, .int b t2) → ∃ t, y = .int (a + b) t) ps ys) : IntsAre ys (ks.map fun k => ((k.1 : Int) + (k.2 : Int))) := by
  induction h1 generalizing ys with
  | nil => cases h2; exact .nil
  | cons h t ih =>
    cases h2 with
    | cons g r =>
      obtain ⟨t1, t2, e⟩ := h
      obtain ⟨t3, rfl⟩ := g _ _ _ _ e
      exact .cons _ _ (ih r)
theorem totK_sum : ∀ ks : List (Nat × Nat), (ks.map fun k => ((k.1 : Int) + (k.2 : Int))).sum = (totK ks : Int)
  | [] => rfl
  | k :: ks => by
    have := totK_sum ks
    simp only [totK, List.map_cons, List.sum_cons] at this ⊢
    rw [this]; omega
end Mine
end
-- part L3
section
open PySem PySem.W PyProof.Rows PySem.Calls
set_option maxRecDepth 100000
set_option maxHeartbeats 8000000
namespace Mine
section
variable {prog : Program} {w : World} {A : Around} {s : Shared} {env : Env}
theorem letGo_list {E : Value → Shared → Prop} {target : Expr} {I l : Addr} {i : Nat} {v : Value} {Q : Unit → Shared → Prop} (hit : s.heap.IsListIter I l i) (hQ : Q () s) :
    wpAny (model prog w) A (letOwnedTupleGo target (.ref I) v) Q E s := by
  cases target <;> first
    | exact wpAny_pure hQ
    | (cases v <;> first
      | exact wpAny_pure hQ
      | exact wpAny_letOwnedTupleGo_listiter hit hQ
      | exact (show wpAny (model prog w) A (letOwnedTupleGo (.Tuple [] 0 default) _ _) Q E s from wpAny_letOwnedTupleGo_listiter hit hQ))

/-- what a turn of a loop leaves -/
def TurnEnd (g : Heap) (L : Addr) (s : Shared) (It : Addr) (oI : Obj) (J : (Str → Option Value) → List (Addr × Obj) → Array GenState → Prop) (Q : Flow → Shared → Prop) (f : Flow) (s₃ : Shared) : Prop := match f with
  | .next | .cont => ∃ h' tk' gs' m' led', s₃ = { s with heap := h', toks := tk', gens := gs' } ∧ Fr g L h' m' ∧ News g L h' ((It, oI) :: led') ∧ (∀ q ∈ led', q.1 ≠ It) ∧ J m' led' gs'
  | .brk => Q .next s₃
  | .ret v => Q (.ret v) s₃

/-- a loop over a list: what is wanted where its list is at hand -/
def ForOn (prog : Program) (w : World) (A : Around) (env : Env) (target : Expr) (body : List Stmt) (g : Heap) (L : Addr) (Q : Flow → Shared → Prop) (xv : Value) (s : Shared) : Prop :=
  ∃ (ax : Addr) (vs : List Value) (J : Nat → (Str → Option Value) → List (Addr × Obj) → Array GenState → Prop), xv = .ref ax ∧ (∃ m₁ led₁, Fr g L s.heap m₁ ∧ News g L s.heap led₁ ∧ J 0 m₁ led₁ s.gens) ∧
    (∀ i m led gs h, J i m led gs → Fr g L h m → News g L h led → h.IsList ax vs.toArray ∧ ax ≠ L) ∧
    (∀ i v m led gs h tk It oI, vs[i]? = some v → J i m led gs → Fr g L h m → News g L h ((It, oI) :: led) → (∀ q ∈ led, q.1 ≠ It) →
      wpAny (model prog w) A (assign target env v) (fun _ s₂ => wpAny (model prog w) A (execs body env) (TurnEnd g L s It oI (J (i + 1)) Q) (fun _ _ => False) s₂) (fun _ _ => False) { s with heap := h, toks := tk, gens := gs }) ∧
    (∀ m led gs h tk, J vs.length m led gs → Fr g L h m → News g L h led → Q .next { s with heap := h, toks := tk, gens := gs })

theorem for_led {Q : Flow → Shared → Prop} {target iter : Expr} {body : List Stmt} {pos : Pos} (g : Heap) (L : Addr)
    (hh : A.handled = none) (h : wpAny (model prog w) A (eval iter env) (ForOn prog w A env target body g L Q) (fun _ _ => False) s)
    (hs : ∀ x, foldedSetIterable iter env x = pure x := by intro _; rfl) :
    wpAny (model prog w) A (exec (.For target iter body [] pos) env) Q (fun _ _ => False) s := by
  refine wpAny_For (wpAny_mono h (fun xv s₁ h₁ => ?_) fun _ _ e => e) hs
  clear h
  obtain ⟨ax, vs, J, rfl, ⟨m₁, led₁, F₁, N₁, J₁⟩, hax, turn, done⟩ := h₁
  obtain ⟨h₁, g₁, d₁, tk₁, o₁⟩ := s₁
  dsimp only at *
  obtain ⟨hl₁, hneL⟩ := hax _ _ _ _ _ J₁ F₁ N₁
  refine wpAny_pyIter_list hl₁ ?_
  dsimp only
  generalize hI : h₁.objs.size = It
  have fr : ∀ b o, h₁.get? b = some o → b ≠ It := fun b o e => neN (by have := ltN (Heap.lt_size e); omega)
  have hIt₀ : g.get? It = none := by
    cases e : g.get? It with
    | none => rfl
    | some o => exact absurd rfl (fr _ _ (F₁.keep _ _ e))
  have hItL : It ≠ L := by obtain ⟨oL, _, _, hL, _⟩ := F₁.ns; exact Ne.symm (fr _ _ hL)
  obtain ⟨ol, hol, _⟩ := id hl₁
  have haxI : ax ≠ It := fr _ _ hol
  refine codeAny_forLoop_any (fun k s' => ∃ h tk gs m led i, s' = ⟨h, gs, d₁, tk, o₁⟩ ∧ i ≤ vs.length ∧ k = vs.length + 1 - i ∧ h.IsListIter It ax i ∧ Fr g L h m ∧ News g L h led ∧ (∀ q ∈ led, q.1 ≠ It) ∧ J i m led gs) ?_ (vs.length + 1)
    ⟨_, tk₁, g₁, m₁, led₁, 0, rfl, Nat.zero_le _, rfl, ⟨_, hI ▸ Heap.get?_push_size _ rfl, rfl, rfl⟩, F₁.push _, (fun q hq => ⟨Heap.get?_push_of_some _ (N₁ q hq).1, (N₁ q hq).2⟩), (fun q hq => fr _ _ (N₁ q hq).1), J₁⟩
  rintro k s' ⟨h, tk, gs, m, led, i, rfl, hi, rfl, hit, F, N, off, hJ⟩
  have hl := (hax _ _ _ _ _ hJ F N).1
  cases hv : vs[i]? with
  | none =>
    have hie : i = vs.length := by have := List.getElem?_eq_none_iff.mp hv; omega
    refine wpAny_pyNext_list_end hh hit hl (by simpa using hv) fun h₂ he₂ => ?_
    refine wpAny_execs_nil ?_
    obtain ⟨oL, es, ep, hL, r⟩ := F.ns
    refine done m led gs h₂ tk (hie ▸ hJ) ⟨⟨oL, es, ep, he₂ _ _ (Ne.symm hItL) hL, r⟩, fun b o e => he₂ b o (fun q => by rw [q, hIt₀] at e; cases e) (F.keep b o e), F.above⟩ fun q hq => ⟨he₂ _ _ (off q hq) (N q hq).1, (N q hq).2⟩
  | some v =>
    have hlt : i < vs.length := (List.getElem?_eq_some_iff.mp hv).1
    refine wpAny_pyNext_list_item hit hl (by simpa using hv) fun h₂ hit₂ hs₂ => ?_
    refine letGo_list hit₂ ?_
    obtain ⟨oL, es, ep, hL, r⟩ := F.ns
    obtain ⟨oI, hoI, hcI, hdI⟩ := hit₂
    refine wpAny_mono (turn i v m led gs h₂ tk It oI hv hJ ⟨⟨oL, es, ep, hs₂.extBut _ _ (Ne.symm hItL) hL, r⟩, fun b o e => hs₂.extBut b o (fun q => by rw [q, hIt₀] at e; cases e) (F.keep b o e), F.above⟩
      (fun q hq => ?_) off) (fun _ s₂ h₃ => wpAny_mono h₃ (fun f s₃ h₄ => ?_) fun _ _ e => e.elim) fun _ _ e => e.elim
    · rcases List.mem_cons.mp hq with rfl | hq
      · exact ⟨hoI, hItL, hIt₀⟩
      · exact ⟨hs₂.extBut _ _ (off q hq) (N q hq).1, (N q hq).2⟩
    · cases f with
      | next =>
        obtain ⟨h', tk', gs', m', led', rfl, F', N', off', J'⟩ := h₄
        exact ⟨vs.length + 1 - (i + 1), by omega, h', tk', gs', m', led', i + 1, rfl, hlt, rfl, ⟨oI, (N' _ (.head _)).1, hcI, hdI⟩, F', (fun q hq => N' q (.tail _ hq)), off', J'⟩
      | cont =>
        obtain ⟨h', tk', gs', m', led', rfl, F', N', off', J'⟩ := h₄
        exact ⟨vs.length + 1 - (i + 1), by omega, h', tk', gs', m', led', i + 1, rfl, hlt, rfl, ⟨oI, (N' _ (.head _)).1, hcI, hdI⟩, F', (fun q hq => N' q (.tail _ hq)), off', J'⟩
      | brk => exact h₄
      | ret v => exact h₄

theorem upd_led {g h h' : Heap} {L D : Addr} {m : Str → Option Value} {o o' : Obj} {pre post : List (Addr × Obj)} (F : Fr g L h m) (N : News g L h (pre ++ (D, o) :: post)) (hs : Heap.SameBut D h h') (ho : h'.get? D = some o')
    (h1 : ∀ q ∈ pre, q.1 ≠ D) (h2 : ∀ q ∈ post, q.1 ≠ D) : Fr g L h' m ∧ News g L h' (pre ++ (D, o') :: post) := by
  have HD := N (D, o) (by simp)
  obtain ⟨oL, es, ep, hL, r⟩ := F.ns
  refine ⟨⟨⟨oL, es, ep, hs.extBut _ _ (Ne.symm HD.2.1) hL, r⟩, fun b o e => hs.extBut b o (fun q => by rw [q, HD.2.2] at e; cases e) (F.keep b o e), F.above⟩, fun q hq => ?_⟩
  rcases List.mem_append.mp hq with hq | hq
  · exact ⟨hs.extBut _ _ (h1 q hq) (N q (List.mem_append_left _ hq)).1, (N q (List.mem_append_left _ hq)).2⟩
  · rcases List.mem_cons.mp hq with rfl | hq
    · exact ⟨ho, HD.2⟩
    · have := N q (List.mem_append_right _ (.tail _ hq))
      exact ⟨hs.extBut _ _ (h2 q hq) this.1, this.2⟩
theorem fdivN (a b : Nat) : (a : Int).fdiv (b : Int) = ((a / b : Nat) : Int) := by
  rw [Int.fdiv_eq_ediv_of_nonneg _ (by omega)]; exact (Int.natCast_ediv a b).symm
theorem fmodN (a b : Nat) : (a : Int).fmod (b : Int) = ((a % b : Nat) : Int) := by
  rw [Int.fmod_eq_emod_of_nonneg _ (by omega)]; exact (Int.natCast_emod a b).symm
theorem pow16 (k : Nat) : (16 : Int) ^ k = ((16 ^ k : Nat) : Int) := by rw [Int.natCast_pow]; rfl
theorem pow16_pos (k : Nat) : 0 < 16 ^ k := Nat.pow_pos (by omega)
theorem log16 {k : Nat} (h : k ≤ 1000) : (16 ^ k : Nat).log2 < 9000 := by
  refine (Nat.log2_lt (Nat.ne_of_gt (pow16_pos k))).mpr ?_
  rw [show (16 : Nat) = 2 ^ 4 from rfl, ← Nat.pow_mul]
  exact Nat.pow_lt_pow_right (by omega) (by omega)
theorem divmod_nat {E : Value → Shared → Prop} {Q : Value → Shared → Prop} {x y : Int} {t u : Tok} {a b : Nat} {h₀ : Heap} {L : Addr} {m : Str → Option Value} {news : List (Addr × Obj)} (hx : x = a) (hy : y = b) (hb : 0 < b) (hl : b.log2 < 9000) (F : Fr h₀ L s.heap m) (N : News h₀ L s.heap news)
    (h : ∀ D h' t1 t2 tk, Fr h₀ L h' m → News h₀ L h' ((D, { cls := .type "tuple", data := .seq #[.int ((a / b : Nat) : Int) t1, .int ((a % b : Nat) : Int) t2] }) :: news) → (∀ q ∈ news, q.1 < D) → Q (.ref D) { s with heap := h', toks := tk }) :
    wpAny (model prog w) A (call (.builtin "divmod") [.int x t, .int y u]) Q E s := by
  subst hx hy
  refine divmod_N F N (by omega) (fun h' F' N' => ?_) (.inl (PyProof.noPylong_of_log2 (by simpa using hl)))
  rw [fdivN, fmodN] at N'
  exact h _ h' _ _ _ F' N' fun q hq => Heap.lt_size (N q hq).1
theorem floordiv_nat {E : Value → Shared → Prop} {Q : Value → Shared → Prop} {x y : Int} {t u : Tok} {a b : Nat} (hx : x = a) (hy : y = b) (hb : 0 < b) (hl : b.log2 < 9000)
    (h : Q (.int ((a / b : Nat) : Int) s.toks) { s with toks := s.toks + 1 }) : wpAny (model prog w) A (binaryOp .FloorDiv (.int x t) (.int y u)) Q E s := by
  subst hx hy
  refine floordiv_int (by omega) (by rw [fdivN]; exact h) (.inl (PyProof.noPylong_of_log2 (by simpa using hl)))
theorem mod_nat {E : Value → Shared → Prop} {Q : Value → Shared → Prop} {x y : Int} {t u : Tok} {a b : Nat} (hx : x = a) (hy : y = b) (hb : 0 < b)
    (h : Q (.int ((a % b : Nat) : Int) s.toks) { s with toks := s.toks + 1 }) : wpAny (model prog w) A (binaryOp .Mod (.int x t) (.int y u)) Q E s := by
  subst hx hy
  refine mod_int' (by omega) (by rw [fmodN]; exact h)
end
end Mine
end
-- part C1
section
open PySem PySem.W PyProof.Rows
set_option maxRecDepth 100000
set_option maxHeartbeats 8000000
namespace Mine
def digs : Nat → List Nat
  | 0 => []
  | n + 1 => digs ((n + 1) / 16) ++ [(n + 1) % 16]
decreasing_by omega
def encB (l : List Nat) : Array UInt8 := (l.map fun d => UInt8.ofNat (65 + d)).toArray
def apBytes (n : Nat) : Array UInt8 := encB (digs n)

theorem digs_pos {k : Nat} (h : k ≠ 0) : digs k = digs (k / 16) ++ [k % 16] := by
  cases k with
  | zero => exact absurd rfl h
  | succ n => rw [digs]
theorem encB_cons (d : Nat) (l : List Nat) : #[UInt8.ofNat (65 + d)] ++ encB l = encB (d :: l) := by
  unfold encB; simp
theorem picked_ap' : ∀ d : Fin 16, KBy.picked #[65, 66, 67, 68, 69, 70, 71, 72, 73, 74, 75, 76, 77, 78, 79, 80] (some (d.val : Int)) (some ((d.val : Int) + 1)) = #[UInt8.ofNat (65 + d.val)] := by decide +kernel
theorem picked_ap {d : Nat} (h : d < 16) : KBy.picked #[65, 66, 67, 68, 69, 70, 71, 72, 73, 74, 75, 76, 77, 78, 79, 80] (some (d : Int)) (some ((d : Int) + 1)) = #[UInt8.ofNat (65 + d)] := picked_ap' ⟨d, h⟩
section
local macro_rules | `(tactic| walk_at "exec While") => `(tactic| refine Halt.out ?_)
theorem int2ap_spec {w : World} {dp un : Nat} {A : Around} {s : Shared} {Q E : Value → Shared → Prop} {n : Nat} {t : Tok} (H : Here w [] dp un A s.heap)
    (hd : dp + 1 < recursionLimit) (hu : un + 8 < cLine) (hn : (digs n).length ≤ 1000)
    (ret : ∀ h' tk' t', Keep s.heap h' → Q (.bytes (apBytes n) t') { s with heap := h', toks := tk' }) :
    wpAny (model PySem.Challenge.rw_nb0047_01.row.prog w) A (call (.ref 105) [.int n t]) Q E s := by
  have X := H.in
  revert X
  k_fill
  intro X
  w_on
  refine enter0 H [("num", .int n t)] (by omega) (by k_is) (by k_is) (BindsTo.of_eq rfl) (locs rfl) rfl rfl rfl (by decide) ?_
  intro p loose mean mg mb gd A₀ base outer L' h₁ hL B' F' X' N' T'
  k_steps
  refine Halt.mk ?_
  have e1 : (if (n : Int) < 0 then -(n : Int) else n) = n := by split <;> omega
  rename Fr _ _ _ _ => F2
  rename News _ _ _ _ => N2
  simp only [e1] at F2
  clear e1
  refine ksw_while' (σ := Nat × Tok × List Nat × Tok) (fun c => [("num", .int c.1 c.2.1), ("val", .bytes (encB c.2.2.1) c.2.2.2)]) ["num", "val", "mod"] (fun c => digs n = digs c.1 ++ c.2.2.1) (fun c => c.1) F2 N2
    ⟨(n, _, [], _), List.forall_mem_cons.mpr ⟨rfl, List.forall_mem_cons.mpr ⟨rfl, fun _ h => nomatch h⟩⟩, by simp⟩ ?turn (by passes_own)
  rintro ⟨k, tk1, tl, tv⟩ u h tk hP F1 N1
  dsimp only [kstB] at F1 N1 hP
  k_steps
  · rename Fr _ _ _ _ => F3
    rename News _ _ _ _ => N3
    have e2 : (k : Int).fmod 16 = ((k % 16 : Nat) : Int) := by rw [Int.fmod_eq_emod_of_nonneg _ (by omega)]; omega
    have e3 : (k : Int).fdiv 16 = ((k / 16 : Nat) : Int) := by rw [Int.fdiv_eq_ediv_of_nonneg _ (by omega)]; omega
    simp only [e2, e3] at F3 N3 ⊢
    refine KBc.slice_K (s := ⟨_, _, _, _, _⟩) F3 N3 rfl (IsPart.int _ _) (IsPart.int _ _) (by decide) ?_
    intro h4 t4 k4 F4 N4 _
    rw [picked_ap (Nat.mod_lt _ (by omega))]
    clear F3 N3
    have e5 : digs n = digs (k / 16) ++ ((k % 16) :: tl) := by rw [hP, digs_pos (by omega), List.append_assoc]; rfl
    k_steps
    refine KBy.add_bytes ?hsz ?_
    case hsz => (rw [e5] at hn; simp [encB] at hn ⊢; omega)
    intro t5 k5
    rw [encB_cons]
    k_steps
  · have e0 : k = 0 := by omega
    subst e0
    have e1 : apBytes n = encB tl := by unfold apBytes; rw [hP, digs]; rfl
    rw [← e1]
    rename Fr _ _ _ _ => F7
    exact ret _ _ _ F7.keep
end
end Mine
end
-- part C2
section
open PySem PySem.W PyProof.Rows
set_option maxRecDepth 100000
set_option maxHeartbeats 8000000
namespace Mine
def encS (l : List Nat) : Str := ⟨(l.map fun d => 65 + d).toArray⟩
def apStr (n : Nat) : Str := encS (digs n)
theorem digs_lt (n : Nat) : ∀ d ∈ digs n, d < 16 := by
  induction n using digs.induct with
  | case1 => intro d h; rw [digs] at h; cases h
  | case2 n ih =>
    intro d h
    rw [digs] at h
    rcases List.mem_append.mp h with h | h
    · exact ih d h
    · rw [List.mem_singleton.mp h]; omega
theorem encB_list (l : List Nat) : (encB l).toList = l.map fun d => UInt8.ofNat (65 + d) := by simp [encB]
theorem encB_lt {l : List Nat} (h : ∀ d ∈ l, d < 16) : ∀ x ∈ (encB l).toList, x.toNat < 128 := by
  intro x hx
  rw [encB_list] at hx
  obtain ⟨d, hd, rfl⟩ := List.mem_map.mp hx
  have := h d hd
  simp; omega
theorem encB_nat {l : List Nat} (h : ∀ d ∈ l, d < 16) : ((encB l).toList.map UInt8.toNat) = l.map fun d => 65 + d := by
  rw [encB_list, List.map_map]
  apply List.map_congr_left
  intro d hd
  have := h d hd
  simp; omega

section
local macro_rules | `(tactic| walk_at "call ref") => `(tactic| refine Halt.out ?_)
local macro_rules | `(tactic| walk_at "call builtin:bytes.decode") => `(tactic| refine Halt.out ?_)
theorem lawtext_spec {w : World} {dp un : Nat} {A : Around} {s : Shared} {Q E : Value → Shared → Prop} {n : Nat} {t : Tok} (H : Here w [] dp un A s.heap)
    (hd : dp + 2 < recursionLimit) (hu : un + 16 < cLine) (hn : (digs n).length ≤ 1000)
    (ret : ∀ h' tk' t', Keep s.heap h' → Q (.str (apStr n) t') { s with heap := h', toks := tk' }) :
    wpAny (model PySem.Challenge.rw_nb0047_01.row.prog w) A (call (.ref 112) [.int n t]) Q E s := by
  have X := H.in
  revert X
  k_fill
  intro X
  w_on
  refine enter0 H [("number", .int n t)] (by omega) (by k_is) (by k_is) (BindsTo.of_eq rfl) (locs rfl) rfl rfl rfl (by decide) ?_
  intro p loose mean mg mb gd A₀ base outer L' h₁ hL B' F' X' N' T'
  k_steps
  refine Halt.mk ?_
  rename Fr _ _ _ _ => F1
  rename News _ _ _ _ => N1
  refine int2ap_spec (.mk B' F1 X' T' N1 rfl) (by omega) (by omega) hn ?_
  intro h2 tk2 t2 k2
  replace F1 := Fr.keepK F1 k2
  replace N1 := News.keepK N1 k2
  k_steps
  refine Halt.mk ?_
  refine dec_call (encB_lt (digs_lt n)) (by simp [apBytes, encB]; omega) ?_
  intro t3 k3
  unfold apBytes
  rw [encB_nat (digs_lt n)]
  k_steps
  rename Fr _ _ _ _ => F7
  exact ret _ _ _ F7.keep
end
end Mine
end
-- part C3
section
open PySem PySem.W PyProof.Rows
set_option maxRecDepth 100000
set_option maxHeartbeats 8000000
namespace Mine
def szN (n : Nat) : Nat := if 256 ≤ n then 3 else if 16 ≤ n then 2 else if 1 ≤ n then 1 else 0
section
theorem lawsize_spec {w : World} {dp un : Nat} {A : Around} {s : Shared} {Q E : Value → Shared → Prop} {n : Nat} {t : Tok} (H : Here w [] dp un A s.heap)
    (hd : dp + 2 < recursionLimit) (hu : un + 16 < cLine)
    (ret : ∀ h' tk' t', Keep s.heap h' → Q (.int (szN n) t') { s with heap := h', toks := tk' }) :
    wpAny (model PySem.Challenge.rw_nb0047_01.row.prog w) A (call (.ref 117) [.int n t]) Q E s := by
  have X := H.in
  revert X
  k_fill
  intro X
  w_on
  refine enterC H [("number", .int n t)] (by omega) (by k_is) (by k_is) (BindsTo.of_eq rfl) rfl (by decide +kernel) rfl rfl rfl ?_
  intro p loose mean mg mb gd A₀ base outer L' h₁ tk cells B' F' X' N' T' Y'
  k_cells Y'
  (try simp only [List.cons_append, List.nil_append] at N')
  k_steps
  all_goals
    rename Fr _ _ _ _ => F7
    have key : ∀ z : Int, z = (szN n : Int) → ∀ tk' t', Q (Value.int z t') { s with heap := _, toks := tk' } := fun z hz tk' t' => hz ▸ ret _ tk' t' F7.keep
    refine key _ ?_ _ _
    clear key ret
    simp only [Int.zero_add, Int.toNat_natCast, Nat.zero_add, Nat.reduceAdd, Int.reducePow] at *
    unfold szN
    (repeat' split) <;> omega
end
end Mine
end
-- part C4
section
open PySem PySem.W PyProof.Rows
set_option maxRecDepth 100000
set_option maxHeartbeats 8000000
namespace Mine
theorem Paired.left {α β : Type} {R : α → β → Prop} : ∀ {l : List α} {l' : List β}, Paired R l l' → ∀ a ∈ l, ∃ b, R a b
  | _, _, .cons h t, a, hm => by
    rcases List.mem_cons.mp hm with rfl | hm
    · exact ⟨_, h⟩
    · exact Paired.left t a hm
section
local macro_rules | `(tactic| walk_at "eval ListComp") => `(tactic| refine Halt.out ?_)
local macro_rules | `(tactic| walk_at "call builtin:sum") => `(tactic| refine Halt.out ?_)
theorem lawtotal_spec {w : World} {dp un : Nat} {A : Around} {s : Shared} {Q E : Value → Shared → Prop} {a : Addr} {ks : List (Nat × Nat)} (H : Here w [] dp un A s.heap)
    (hd : dp + 2 < recursionLimit) (hu : un + 16 < cLine) (hS : Sizes s.heap a ks) (hlen : ks.length ≤ 1000)
    (ret : ∀ h' tk' t', Keep s.heap h' → Q (.int (totK ks) t') { s with heap := h', toks := tk' }) :
    wpAny (model PySem.Challenge.rw_nb0047_01.row.prog w) A (call (.ref 122) [.ref a]) Q E s := by
  have X := H.in
  revert X
  k_fill
  intro X
  w_on
  refine enter0 H [("sizes", .ref a)] (by omega) (by k_is) (by k_is) (BindsTo.of_eq rfl) (locs rfl) rfl rfl rfl (by decide) ?_
  intro p loose mean mg mb gd A₀ base outer L' h₁ hL B' F' X' N' T'
  k_steps
  refine Halt.mk ?_
  rename Fr _ _ _ _ => F1
  rename News _ _ _ _ => N1
  refine comp_pairs (fun (p : Value × Value) y => ∀ a b t1 t2, p = (.int a t1, .int b t2) → ∃ t, y = .int (a + b) t) rfl (by decide) (by decide) rfl (by decide) rfl rfl (by decide) ?_
  refine ld F1 rfl ?_
  obtain ⟨vs, hl, hPr⟩ := hS
  obtain ⟨ps, hp1, hp2⟩ := sizes_pairs hPr
  have k1 : Keep s.heap h₁ := F1.keep
  refine ⟨a, vs, ps, rfl, hl.at fun o e => k1 _ _ e, by rw [hPr.length]; exact Nat.le_trans hlen (by decide), hp1.mono fun _ _ q => q.keep k1, ?_, ?_⟩
  · intro C p s₂ m₂ E' hpm hn e1 e2 kp
    obtain ⟨k, hkm⟩ := Paired.left hp2 p hpm
    obtain ⟨t1, t2, rfl⟩ := hkm
    refine wpAny_BinOp (wpAny_Name (wpAny_loadName_local rfl rfl hn e1 (wpAny_Name (wpAny_loadName_local rfl rfl hn e2 (wpAny_add_int ⟨?_, _, _, rfl, fun _ _ e => e⟩)))))
    intro a b t1 t2 e
    cases e
    exact ⟨_, rfl⟩
  · intro D h2 tk2 ys hD hpl hY k2
    have hi := ints_of hp2 hY
    replace F1 := Fr.keepK F1 k2
    replace N1 := News.keepK N1 k2
    k_steps
    refine Halt.mk (sum_plain rfl hpl.isList hi ?_)
    intro h3 tk3 t3 k3
    rw [totK_sum]
    k_steps
    exact ret _ _ _ (k1.trans (k2.trans k3))
end
end Mine
end
-- part C5
section
open PySem PySem.W PyProof.Rows PySem.Calls
set_option maxRecDepth 100000
set_option maxHeartbeats 8000000
namespace Mine
/-- a pair of words -/
def TextAt (h : Heap) (v : Value) (p : Nat × Nat) : Prop := ∃ t1 t2, Pairs h v (.str (apStr p.1) t1, .str (apStr p.2) t2)
def Texts (h : Heap) (a : Addr) (ps : List (Nat × Nat)) : Prop := ∃ vs, h.IsList a vs.toArray ∧ Paired (TextAt h) vs ps
theorem TextAt.keep {h h' : Heap} {v : Value} {k : Nat × Nat} (x : TextAt h v k) (kp : Keep h h') : TextAt h' v k := by
  obtain ⟨t1, t2, r⟩ := x
  exact ⟨t1, t2, r.keep kp⟩
theorem Texts.keep {h h' : Heap} {a : Addr} {ks : List (Nat × Nat)} (x : Texts h a ks) (kp : Keep h h') : Texts h' a ks := by
  obtain ⟨vs, hl, r⟩ := x
  exact ⟨vs, hl.at fun o e => kp _ _ e, r.mono fun _ _ q => q.keep kp⟩
/-- the same, of tuples that stood not in h0 -/
def TextF (h0 h : Heap) (v : Value) (p : Nat × Nat) : Prop := TextAt h v p ∧ ∀ T, v = .ref T → h0.get? T = none
def TextsF (h0 h : Heap) (a : Addr) (ps : List (Nat × Nat)) : Prop := ∃ vs, h.IsList a vs.toArray ∧ Paired (TextF h0 h) vs ps
theorem TextsF.texts {h0 h : Heap} {a : Addr} {ps : List (Nat × Nat)} (x : TextsF h0 h a ps) : Texts h a ps := by
  obtain ⟨vs, hl, r⟩ := x
  exact ⟨vs, hl, r.mono fun _ _ q => q.1⟩
abbrev txtObj (x y : Nat) (t1 t2 : Tok) : Obj := { cls := .type "tuple", data := .seq #[.str (apStr x) t1, .str (apStr y) t2] }
/-- the same by a ledger -/
def TextIn (im : List (Addr × Obj)) (v : Value) (p : Nat × Nat) : Prop := ∃ t t1 t2, v = .ref t ∧ (t, txtObj p.1 p.2 t1 t2) ∈ im
theorem TextIn.at {g : Heap} {L : Addr} {h : Heap} {im : List (Addr × Obj)} {v : Value} {p : Nat × Nat} (x : TextIn im v p) (N : News g L h im) : TextAt h v p := by
  obtain ⟨t, t1, t2, rfl, hm⟩ := x
  exact ⟨t1, t2, t, rfl, _, (N _ hm).1, rfl, _, rfl⟩
theorem TextIn.sub {im im' : List (Addr × Obj)} {v : Value} {p : Nat × Nat} (x : TextIn im v p) (hs : ∀ q ∈ im, q ∈ im') : TextIn im' v p := by
  obtain ⟨t, t1, t2, rfl, hm⟩ := x
  exact ⟨t, t1, t2, rfl, hs _ hm⟩
theorem fr_ov {g h : Heap} {L : Addr} {m : Str → Option Value} (F : Fr g L h m) (ps : List (Str × Value)) (hp : ∀ p ∈ ps, m p.1 = some p.2) : Fr g L h (kstB m ps) := by
  have : kstB m ps = m := funext fun z => kstB_eq hp (fun _ => rfl)
  rw [this]; exact F
def splitK : Nat → List (Nat × Nat) → List (Nat × Nat)
  | _, [] => []
  | n, (f, b) :: r => (n % 16 ^ (f + b) / 16 ^ b, n % 16 ^ (f + b) % 16 ^ b) :: splitK (n / 16 ^ (f + b)) r
def pairsOf (n : Nat) (ks : List (Nat × Nat)) : List (Nat × Nat) := (splitK n ks.reverse).reverse
def restK : Nat → List (Nat × Nat) → Nat
  | n, [] => n
  | n, (f, b) :: r => restK (n / 16 ^ (f + b)) r
theorem splitK_snoc (n : Nat) (f b : Nat) : ∀ l : List (Nat × Nat), splitK n (l ++ [(f, b)]) = splitK n l ++ [(restK n l % 16 ^ (f + b) / 16 ^ b, restK n l % 16 ^ (f + b) % 16 ^ b)] := by
  intro l
  induction l generalizing n with
  | nil => rfl
  | cons k l ih => obtain ⟨f', b'⟩ := k; rw [List.cons_append, splitK, splitK, restK, ih, List.cons_append]
theorem restK_snoc (n : Nat) (f b : Nat) : ∀ l : List (Nat × Nat), restK n (l ++ [(f, b)]) = restK n l / 16 ^ (f + b) := by
  intro l
  induction l generalizing n with
  | nil => rfl
  | cons k l ih => obtain ⟨f', b'⟩ := k; rw [List.cons_append, restK, restK, ih]
theorem splitK_len (n : Nat) : ∀ l : List (Nat × Nat), (splitK n l).length = l.length := by
  intro l
  induction l generalizing n with
  | nil => rfl
  | cons k l ih => obtain ⟨f', b'⟩ := k; rw [splitK, List.length_cons, List.length_cons, ih]
theorem restK_le (n : Nat) : ∀ l : List (Nat × Nat), restK n l ≤ n := by
  intro l
  induction l generalizing n with
  | nil => exact Nat.le_refl _
  | cons k l ih => obtain ⟨f', b'⟩ := k; rw [restK]; exact Nat.le_trans (ih _) (Nat.div_le_self ..)
theorem digs_len_mono : ∀ y x : Nat, x ≤ y → (digs x).length ≤ (digs y).length := by
  intro y
  induction y using Nat.strongRecOn with
  | _ y ih =>
    intro x h
    by_cases h0 : x = 0
    · subst h0; rw [digs]; exact Nat.zero_le _
    · have hy : y ≠ 0 := by omega
      rw [digs_pos h0, digs_pos hy, List.length_append, List.length_append]
      have := ih (y / 16) (Nat.div_lt_self (by omega) (by omega)) (x / 16) (Nat.div_le_div_right h)
      simpa using this
def JPairs (gs₀ : Array GenState) (n : Nat) (kr : List (Nat × Nat)) (vr : List Value) (D R : Addr) (i : Nat) (m : Str → Option Value) (led : List (Addr × Obj)) (gs : Array GenState) : Prop :=
  gs = gs₀ ∧ (∃ t', m "number" = some (.int (restK n (kr.take i)) t')) ∧ m "pairs" = some (.ref D) ∧
    ∃ ys ep im, led = (D, listOf (List.toArray ys) ep) :: (R, listOf (vr.toArray) 0) :: im ∧ (∀ q ∈ im, q.1 ≠ D) ∧ Paired (TextIn im) ys (splitK n (kr.take i))
section
local macro_rules | `(tactic| walk_at "call builtin:divmod") => `(tactic| refine Halt.out ?_)
local macro_rules | `(tactic| walk_at "binaryOp FloorDiv") => `(tactic| refine Halt.out ?_)
local macro_rules | `(tactic| walk_at "binaryOp Mod") => `(tactic| refine Halt.out ?_)
local macro_rules | `(tactic| walk_at "exec For") => `(tactic| refine Halt.out ?_)
local macro_rules | `(tactic| walk_at "call ref") => `(tactic| refine Halt.out ?_)
local macro_rules | `(tactic| walk_at "call builtin:list.append") => `(tactic| refine Halt.out ?_)
local macro_rules | `(tactic| walk_at "subscriptTail") => `(tactic| refine Halt.out ?_)
theorem lawpairs_spec {w : World} {dp un : Nat} {A : Around} {s : Shared} {Q E : Value → Shared → Prop} {a : Addr} {n : Nat} {t : Tok} {ks : List (Nat × Nat)} (H : Here w [] dp un A s.heap)
    (hd : dp + 4 < recursionLimit) (hu : un + 32 < cLine) (hS : Sizes s.heap a ks) (hlen : ks.length ≤ 100) (hk : ∀ k ∈ ks, k.1 ≤ 3 ∧ k.2 ≤ 3) (hn : (digs n).length ≤ 1000)
    (ret : ∀ h' tk' r, Keep s.heap h' → s.heap.get? r = none → TextsF s.heap h' r (pairsOf n ks) → Q (.ref r) { s with heap := h', toks := tk' }) :
    wpAny (model PySem.Challenge.rw_nb0047_01.row.prog w) A (call (.ref 129) [.int n t, .ref a]) Q E s := by
  have X := H.in
  revert X
  k_fill
  intro X
  w_on
  refine enter0 H [("number", .int n t), ("sizes", .ref a)] (by omega) (by k_is) (by k_is) (BindsTo.of_eq rfl) (locs rfl) rfl rfl rfl (by decide) ?_
  intro p loose mean mg mb gd A₀ base outer L' h₁ hL B' F' X' N' T'
  k_steps
  refine Halt.mk ?_
  rename Fr _ _ _ _ => F1
  rename News _ _ _ _ => N1
  rename_i D h2 l2 h3
  obtain ⟨vs, hl, hPr⟩ := hS
  refine for_led s.heap L' rfl ?_
  k_steps
  refine Halt.mk ?_
  refine krv_lit (s := ⟨_, _, _, _, _⟩) F1 N1 (hl.at fun o e => F1.keep _ _ e) (IsPart.int _ _) rfl ?_ (by with_unfolding_all rfl) (by intro _; with_unfolding_all rfl) (by rw [List.size_toArray, hPr.length]; exact Nat.le_trans hlen (by decide))
  intro R h4 F4 N4 l4
  have hRD : D ≠ R := neN (by have := ltN (l4 _ (.head _)); omega)
  clear F1 N1
  refine ⟨R, vs.reverse, JPairs s.gens n ks.reverse vs.reverse D R, rfl, ⟨_, _, F4, fun q hq => N4 q (by simp only [List.mem_cons] at hq ⊢; rcases hq with h | h | h; exact .inr (.inl h); exact .inl h; cases h), rfl, ⟨_, rfl⟩, rfl, [], 0, [], rfl, (fun _ h => nomatch h), by simpa [splitK] using Paired.nil⟩, ?_, ?_, ?_⟩
  · rintro i m led gs h ⟨_, _, _, ys, ep, im, rfl, _, _⟩ F N
    have := N _ (.tail _ (.head _))
    exact ⟨⟨_, this.1, rfl, _, rfl⟩, this.2.1⟩
  · rintro i v m led gs h tk9 It oI hv ⟨rfl, ⟨tn, en⟩, ep', ys, ep, im, rfl, hoff, hT⟩ F N hIt
    have hrev := Paired.rev hPr
    have hi : i < ks.reverse.length := by rw [← hrev.length]; exact (List.getElem?_eq_some_iff.mp hv).1
    have hkk : ks.reverse[i]? = some ks.reverse[i] := List.getElem?_eq_getElem hi
    have hb := hk ks.reverse[i] (by simpa using List.getElem_mem hi)
    obtain ⟨t1, t2, tp, rfl, htp⟩ := Paired.get hrev hv hkk
    have htk : ks.reverse.take (i + 1) = ks.reverse.take i ++ [ks.reverse[i]] := by rw [List.take_add_one, hkk]; rfl
    generalize ks.reverse[i] = kk at *
    obtain ⟨f, b⟩ := kk
    dsimp only at hb htp ⊢
    refine assign_Tuple_tuple rfl (IsTup.keeps htp F.keep) rfl rfl fun h5 he5 => ?_
    have k5 : Keep h h5 := fun b o e => he5 b o (Nat.ne_of_lt (Heap.lt_size e)) e
    replace F := fr_ov (Fr.keepK F k5) [("number", .int (restK n (ks.reverse.take i)) tn), ("pairs", .ref D)] (List.forall_mem_cons.mpr ⟨en, List.forall_mem_cons.mpr ⟨ep', fun _ h => nomatch h⟩⟩)
    replace N := News.keepK N k5
    dsimp only [kstB] at F
    k_steps
    refine Halt.mk ?_
    rename Fr _ _ _ _ => F6
    rename News _ _ _ _ => N6
    refine divmod_nat (b := 16 ^ (f + b)) rfl (by rw [pow16]; rfl) (pow16_pos _) (log16 (by omega)) F6 N6 ?_
    clear F6 N6
    intro D7 h7 t71 t72 tk7 F7 N7 l7
    k_steps
    refine Halt.mk ?_
    refine floordiv_nat (b := 16 ^ b) rfl (by rw [pow16]; rfl) (pow16_pos _) (log16 (by omega)) ?_
    k_steps
    refine Halt.mk ?_
    rename Fr _ _ _ _ => F8
    rename News _ _ _ _ => N8
    have hle : restK n (List.take i ks.reverse) % 16 ^ (f + b) ≤ n := Nat.le_trans (Nat.mod_le ..) (restK_le _ _)
    refine lawtext_spec (.mk B' F8 X' T' (fun _ h => nomatch h) rfl) (by omega) (by omega) (Nat.le_trans (digs_len_mono _ _ (Nat.le_trans (Nat.div_le_self ..) hle)) hn) ?_
    intro h9 tk9 t9 k9
    replace F8 := Fr.keepK F8 k9
    replace N8 := News.keepK N8 k9
    k_steps
    refine Halt.mk ?_
    simp only [Int.toNat_natCast, pow16, fmodN]
    refine lawtext_spec (.mk B' F8 X' T' (fun _ h => nomatch h) rfl) (by omega) (by omega) (Nat.le_trans (digs_len_mono _ _ (Nat.le_trans (Nat.mod_le ..) hle)) hn) ?_
    intro h10 tk10 t10 k10
    replace F8 := Fr.keepK F8 k10
    replace N8 := News.keepK N8 k10
    k_steps
    refine Halt.mk ?_
    rename Fr _ _ _ _ => F11
    rename News _ _ _ _ => N11
    rename_i D11 h11 l11
    have hyl : ys.length ≤ 100 := by
      have := hT.length
      rw [this, splitK_len, List.length_take, List.length_reverse]; omega
    refine wpAny_list_append_plain (hsz := by rw [List.size_toArray]; exact Nat.le_trans hyl (by decide)) ⟨ep, (N11 (D, listOf (List.toArray ys) ep) (.tail _ (.tail _ (.tail _ (.head _))))).1⟩ fun h12 hp12 hs12 => ?_
    obtain ⟨ep12, ho12⟩ := hp12
    obtain ⟨F12, N12⟩ := upd_led (pre := [_, _, _]) F11 N11 hs12 ho12
      (List.forall_mem_cons.mpr ⟨neN (by dsimp only; omega), List.forall_mem_cons.mpr ⟨neN (by have := ltN (l7 _ (.tail _ (.head _))); dsimp only at this ⊢; omega), List.forall_mem_cons.mpr ⟨Ne.symm (hIt _ (.head _)), fun _ h => nomatch h⟩⟩⟩)
      (List.forall_mem_cons.mpr ⟨Ne.symm hRD, hoff⟩)
    have hlt := l11.2.2.2.2
    refine wpAny_execs_nil ?_
    refine ⟨h12, tk10, s.gens, _, (D, listOf (List.toArray (ys ++ [Value.ref D11])) ep12) :: (R, listOf vs.reverse.toArray 0) :: (D11, txtObj (restK n (List.take i ks.reverse) % 16 ^ (f + b) / 16 ^ b) (restK n (List.take i ks.reverse) % 16 ^ (f + b) % 16 ^ b) t9 t10) :: im, rfl, F12, fun q hq => N12 q ?_, ?_, rfl, ⟨t71, ?_⟩, rfl, ys ++ [Value.ref D11], ep12, (D11, txtObj (restK n (List.take i ks.reverse) % 16 ^ (f + b) / 16 ^ b) (restK n (List.take i ks.reverse) % 16 ^ (f + b) % 16 ^ b) t9 t10) :: im, rfl, ?_, ?_⟩
    · simp only [List.mem_cons, List.cons_append, List.nil_append, List.push_toArray] at hq ⊢
      rcases hq with h | h | h | h | h
      · exact .inr (.inr (.inl h))
      · exact .inr (.inr (.inr (.inl h)))
      · exact .inr (.inr (.inr (.inr (.inl h))))
      · exact .inl h
      · exact .inr (.inr (.inr (.inr (.inr h))))
    · refine List.forall_mem_cons.mpr ⟨hIt (D, listOf (List.toArray ys) ep) (.head _), List.forall_mem_cons.mpr ⟨hIt _ (.tail _ (.head _)), List.forall_mem_cons.mpr ⟨neN (by dsimp only; omega), fun q hq => hIt q (.tail _ (.tail _ hq))⟩⟩⟩
    · rw [htk, restK_snoc]; rfl
    · exact List.forall_mem_cons.mpr ⟨neN (by dsimp only; omega), hoff⟩
    · rw [htk, splitK_snoc]
      exact Paired.snoc (hT.mono fun _ _ q => q.sub fun _ h => .tail _ h) ⟨D11, t9, t10, rfl, .head _⟩
  · rintro m led gs h tk9 ⟨rfl, ⟨tn, en⟩, ep', ys, ep, im, rfl, hoff, hT⟩ F N
    have e1 : ks.reverse.take vs.reverse.length = ks.reverse := by
      rw [List.length_reverse, hPr.length, ← List.length_reverse (as := ks), List.take_length]
    rw [e1] at hT
    replace F := fr_ov F [("pairs", .ref D)] (List.forall_mem_cons.mpr ⟨ep', fun _ h => nomatch h⟩)
    dsimp only [kstB] at F
    dsimp only
    k_steps
    refine Halt.mk ?_
    have hyl : ys.length ≤ 100 := by
      have := hT.length
      rw [this, splitK_len, List.length_reverse]; omega
    refine krv_lit (s := ⟨_, _, _, _, _⟩) F N ⟨_, (N _ (.head _)).1, rfl, _, rfl⟩ (IsPart.int _ _) rfl ?_ (by with_unfolding_all rfl) (by intro _; with_unfolding_all rfl) (by rw [List.size_toArray]; exact Nat.le_trans hyl (by decide))
    intro R2 h6 F6 N6 l6
    refine ret h6 _ R2 F6.keep (N6 _ (.head _)).2.2 ⟨ys.reverse, ⟨_, (N6 _ (.head _)).1, rfl, _, rfl⟩, ?_⟩
    refine (Paired.rev hT).mono fun _ _ q => ⟨q.at fun r hr => N6 r (.tail _ (.tail _ (.tail _ hr))), fun T e => ?_⟩
    obtain ⟨t, t1, t2, rfl, hm⟩ := q
    cases e
    exact (N6 _ (.tail _ (.tail _ (.tail _ hm)))).2.2
end
end Mine
end
-- part P0
section
open PySem PySem.W PyProof.Rows PySem.Calls
set_option maxRecDepth 100000
set_option maxHeartbeats 8000000
namespace Mine
section
variable (P : Params)
theorem f_ga : findIn (Mine.hd.heap_39 P) (.ref 94) "__getattribute__" = some (some (.builtin "list.__getattribute__")) := by kernel_rfl
theorem f_gattr : findIn (Mine.hd.heap_39 P) (.ref 94) "__getattr__" = some none := by kernel_rfl
theorem f_sattr : findIn (Mine.hd.heap_39 P) (.ref 94) "__setattr__" = some (some (.builtin "object.__setattr__")) := by kernel_rfl
theorem f_append : findIn (Mine.hd.heap_39 P) (.ref 94) "append" = some (some (.builtin "list.append")) := by kernel_rfl
theorem f_push : findIn (Mine.hd.heap_39 P) (.ref 94) "push" = some (some (.ref 38)) := by kernel_rfl
theorem f_pop_from : findIn (Mine.hd.heap_39 P) (.ref 94) "pop_from" = some (some (.ref 46)) := by kernel_rfl
theorem f_pop : findIn (Mine.hd.heap_39 P) (.ref 94) "pop" = some (some (.ref 54)) := by kernel_rfl
theorem f_len : findIn (Mine.hd.heap_39 P) (.ref 94) "__len__" = some (some (.ref 61)) := by kernel_rfl
theorem f_str : findIn (Mine.hd.heap_39 P) (.ref 94) "__str__" = some (some (.ref 68)) := by kernel_rfl
theorem f_reset : findIn (Mine.hd.heap_39 P) (.ref 94) "reset" = some (some (.ref 76)) := by kernel_rfl
theorem f_onlyws : findIn (Mine.hd.heap_39 P) (.ref 94) "is_onlyws" = some (some (.ref 83)) := by kernel_rfl
theorem f_count : findIn (Mine.hd.heap_39 P) (.ref 94) "part_count" = some (some (.ref 91)) := by kernel_rfl
theorem f_init : findIn (Mine.hd.heap_39 P) (.ref 94) "__init__" = some (some (.ref 31)) := by kernel_rfl
theorem f_getitem : findIn (Mine.hd.heap_39 P) (.ref 94) "__getitem__" = some (some (.builtin "list.__getitem__")) := by kernel_rfl
theorem f_setitem : findIn (Mine.hd.heap_39 P) (.ref 94) "__setitem__" = some (some (.builtin "list.__setitem__")) := by kernel_rfl
theorem f_iter : findIn (Mine.hd.heap_39 P) (.ref 94) "__iter__" = some (some (.builtin "list.__iter__")) := by kernel_rfl
theorem f_bool : findIn (Mine.hd.heap_39 P) (.ref 94) "__bool__" = some none := by kernel_rfl
theorem f_isz : findIn (Mine.hd.heap_39 P) (.ref 94) "_initial_size" = some none := by kernel_rfl
theorem f_fn {f : Addr} (h : f = 38 ∨ f = 46 ∨ f = 54 ∨ f = 61 ∨ f = 68 ∨ f = 76 ∨ f = 83 ∨ f = 91 ∨ f = 31) : typeIn (Mine.hd.heap_39 P) (.ref f) = some (.type "function") := by
  rcases h with rfl | rfl | rfl | rfl | rfl | rfl | rfl | rfl | rfl <;> kernel_rfl
theorem f_sublist : subIn (Mine.hd.heap_39 P) (.ref 94) (.type "list") = some true := by kernel_rfl
theorem f_subobj : subIn (Mine.hd.heap_39 P) (.ref 94) (.type "object") = some true := by kernel_rfl
end
end Mine
end
-- part P1
section
open PySem PySem.W PyProof.Rows PySem.Calls PySem.Builtin
set_option maxRecDepth 100000
set_option maxHeartbeats 8000000
namespace Mine
/-- the accumulator as an object -/
abbrev pileO (dx : Addr) (vs : List Value) (ep : Nat) : Obj := { cls := .ref 94, dict := some dx, data := .seq vs.toArray ep }
section
variable {prog : Program} {w : World} {A : Around} {E : Value → Shared → Prop} {s : Shared} {p dx : Addr} {vs : List Value} {ep : Nat} {od : Obj}
theorem pile_list {M : Model} (X : (Mine.hd.heap_39 w.params).In s.heap) (I : InstAt s.heap p (pileO dx vs ep) 94 (some od)) : Looks M s.heap (isInstance (.ref p) (.type "list")) true :=
  I.type.andThen (looks_subIn X (f_sublist _))
theorem check_list {id n : String} {rest : List Value} {Q : Unit → Shared → Prop} (hk : builtinKind id = some .method ∨ builtinKind id = some .slot) (hs : splitId id = some ("list", n)) (X : (Mine.hd.heap_39 w.params).In s.heap) (I : InstAt s.heap p (pileO dx vs ep) 94 (some od))
    (ha : argsOk id ⟨.ref p :: rest, []⟩) (q : Q () s) : wpAny (model prog w) A (checkBuiltinCall id ⟨.ref p :: rest, []⟩) Q E s := by
  have hi := pile_list (M := model prog w) X I
  have fin : ∀ sig, Manifest.signature? id = some sig → wpAny (model prog w) A (Bind.checkArgs id sig ⟨.ref p :: rest, []⟩) Q E s := by
    intro sig hsig
    simp only [argsOk, hsig] at ha
    have h2 : Bind.checkArgs id sig ⟨.ref p :: rest, []⟩ = pure () := ha
    rw [h2]; exact wpAny_pure q
  rcases hk with hk | hk
  · simp only [checkBuiltinCall, hk, hs]
    refine wpAny_bind (hi.here ?_)
    simp only [Bool.not_true, Bool.false_eq_true, if_false]
    cases hsig : Manifest.signature? id with
    | none => exact wpAny_pure q
    | some sig => exact fin sig hsig
  · simp only [checkBuiltinCall, hk, hs]
    refine wpAny_bind (hi.here ?_)
    simp only [Bool.not_true, Bool.false_eq_true, if_false]
    cases hsig : Manifest.signature? id with
    | none => exact wpAny_pure q
    | some sig => exact fin sig hsig
theorem call_list {id n : String} {rest : List Value} {b : Builtin} {Q : Value → Shared → Prop} (hk : builtinKind id = some .method ∨ builtinKind id = some .slot) (hs : splitId id = some ("list", n)) (hp : plainId id = true) (hb : entryFor table id = some b)
    (X : (Mine.hd.heap_39 w.params).In s.heap) (I : InstAt s.heap p (pileO dx vs ep) 94 (some od)) (ha : argsOk id ⟨.ref p :: rest, []⟩)
    (hc : wpAny (model prog w) A.in1 (b ⟨.ref p :: rest, []⟩) (fun fin s' => ∃ v, fin = .done (.ret v) ∧ Q v s') E s) : wpAny (model prog w) A (call (.builtin id) (.ref p :: rest)) Q E s := by
  refine wpAny_call (codeAny_call_builtin hp hb (check_list hk hs X I ha (wpAny_mono hc (fun fin s' h' => ?_) fun _ _ h' => h')))
  obtain ⟨v, rfl, hv⟩ := h'; exact hv

theorem upd_seq {a : Addr} {o : Obj} {items : Array Value} {n : Nat} {f : Array Value → Array Value} {Q : Unit → Shared → Prop} (ho : s.heap.get? a = some o) (hd : o.data = .seq items n) (hz : (f items).size ≤ sizeLine + 1)
    (h : ∀ h' n', h'.get? a = some { o with data := .seq (f items) n' } → Heap.SameBut a s.heap h' → Q () { s with heap := h' }) : wpAny (model prog w) A (updateSeq a f) Q E s := by
  obtain ⟨c, d, dt, sl⟩ := o
  dsimp only at hd
  subst hd
  have hg := Heap.get?_update_self (h := s.heap) (Obj.mapSeq f) ho rfl
  unfold updateSeq
  refine wpAny_bind (wpAny_load ho ?_)
  dsimp only
  refine wpAny_bind (wpAny_update ho ?_)
  unfold lookBehind
  refine wpAny_bind (wpAny_loadPart hg ?_)
  have hl : (Obj.mapSeq f ⟨c, d, .seq items n, sl⟩).data.pastItsLine = none := by
    show (if (f items).size > sizeLine + 1 then _ else _) = _
    rw [if_neg (by omega)]
  rw [hl]
  exact wpAny_pure (h _ _ hg (Heap.SameBut.update ..))

theorem append_pile {x : Value} {Q : Value → Shared → Prop} (X : (Mine.hd.heap_39 w.params).In s.heap) (I : InstAt s.heap p (pileO dx vs ep) 94 (some od)) (hz : vs.length ≤ 1000)
    (h : ∀ h' ep', h'.get? p = some (pileO dx (vs ++ [x]) ep') → Heap.SameBut p s.heap h' → Q .none { s with heap := h' }) : wpAny (model prog w) A (call (.builtin "list.append") [.ref p, x]) Q E s := by
  refine call_list (n := "append") (.inl (by decide +kernel)) (by decide +kernel) (by decide +kernel) entry_list_append X I (args_list_append _ _) ?_
  show wpAny _ _ (updateSeq p (·.push x) >>= fun _ => ret .none) _ _ s
  refine wpAny_bind (upd_seq I.at_ rfl (by simp [sizeLine]; omega) fun h' n' hg hs => ?_)
  refine wpAny_pure ⟨_, rfl, h h' n' ?_ hs⟩
  rw [hg]
  simp

theorem method_p {name : Str} {f : Addr} {pl : Sem Bool} {Q : Value × List Value → Shared → Prop} (X : (Mine.hd.heap_39 w.params).In s.heap) (I : InstAt s.heap p (pileO dx vs ep) 94 (some od))
    (hf : findIn (Mine.hd.heap_39 w.params) (.ref 94) name = some (some (.ref f))) (ht : typeIn (Mine.hd.heap_39 w.params) (.ref f) = some (.type "function")) (hs : lookIn name od = some none) (h : Q (.ref f, [.ref p]) s) :
    wpAny (model prog w) A (getMethod (.ref p) name pl) Q E s := by
  unfold getMethod specialOf
  refine wpAny_bind (wpAny_bind (I.type.here ((looks_findIn X (f_ga _)).here ?_)))
  dsimp only
  rw [if_neg (by decide +kernel)]
  refine wpAny_bind (wpAny_bind (I.type.here ((looks_findIn X (f_gattr _)).here ?_)))
  refine wpAny_bind (wpAny_bind (I.type.here ((looks_findIn X hf).here (wpAny_bind ((looks_typeIn X ht).here ?_)))))
  rw [if_neg (by decide +kernel)]
  refine wpAny_bind (wpAny_loadPart I.at_ ?_)
  have hd := I.dict
  dsimp only at hd ⊢
  refine wpAny_bind (wpAny_bind (wpAny_loadPart hd ?_))
  rw [nsLook_of hs]
  exact wpAny_pure (wpAny_bind (wpAny_rule (wpAny_pure h)))
theorem method_append {pl : Sem Bool} {Q : Value × List Value → Shared → Prop} (X : (Mine.hd.heap_39 w.params).In s.heap) (I : InstAt s.heap p (pileO dx vs ep) 94 (some od))
    (hs : lookIn "append" od = some none) (h : Q (.builtin "list.append", [.ref p]) s) :
    wpAny (model prog w) A (getMethod (.ref p) "append" pl) Q E s := by
  unfold getMethod specialOf
  refine wpAny_bind (wpAny_bind (I.type.here ((looks_findIn X (f_ga _)).here ?_)))
  dsimp only
  rw [if_neg (by decide +kernel)]
  refine wpAny_bind (wpAny_bind (I.type.here ((looks_findIn X (f_gattr _)).here ?_)))
  refine wpAny_bind (wpAny_bind (I.type.here ((looks_findIn X (f_append _)).here (wpAny_bind (wpAny_of_eq type_list_append ?_)))))
  rw [if_neg (by decide +kernel)]
  refine wpAny_bind (wpAny_loadPart I.at_ ?_)
  have hd := I.dict
  dsimp only at hd ⊢
  refine wpAny_bind (wpAny_bind (wpAny_loadPart hd ?_))
  rw [nsLook_of hs]
  exact wpAny_pure (wpAny_bind (wpAny_rule (wpAny_pure h)))
end
end Mine
end
-- part P2
section
open PySem PySem.W PyProof.Rows PySem.Calls PySem.Builtin
set_option maxRecDepth 100000
set_option maxHeartbeats 8000000
namespace Mine
section
variable {prog : Program} {w : World} {A : Around} {E : Value → Shared → Prop} {s : Shared} {p dx : Addr} {vs : List Value} {ep : Nat} {od : Obj}
theorem seqKey_pile {M : Model} {k : Value} {name : Str} {Q : Value → Shared → Prop} (X : (Mine.hd.heap_39 w.params).In s.heap) (I : InstAt s.heap p (pileO dx vs ep) 94 (some od)) (h : Q k s) :
    wpAny M A (sequenceKey (.ref p) k name) Q E s := by
  have h1 : subIn (Mine.hd.heap_39 w.params) (.ref 94) (.type "collections.deque") = some false := by kernel_rfl
  unfold sequenceKey
  refine wpAny_bind (I.type.here ?_)
  dsimp only
  have h2 : (seqItemTypes.anyM fun n => isSubtype (.ref 94) (.type n)) = (isSubtype (.ref 94) (.type "collections.deque") >>= fun b => if b = true then pure true else pure false) := by
    simp only [seqItemTypes, List.anyM]
    congr 1
    funext b
    cases b <;> rfl
  rw [h2]
  refine wpAny_bind (wpAny_bind ((looks_subIn X h1).here ?_))
  exact wpAny_pure (wpAny_pure h)
theorem special_list {M : Model} {id : String} {name : Str} {args : List Value} {Q : Option Value → Shared → Prop} (X : (Mine.hd.heap_39 w.params).In s.heap) (I : InstAt s.heap p (pileO dx vs ep) 94 (some od))
    (hf : findIn (Mine.hd.heap_39 w.params) (.ref 94) name = some (some (.builtin id))) (hb : ∀ self, bindSpecial (.builtin id) self = pure (.builtin id, [self]))
    (h : wpAny M A (call (.builtin id) (.ref p :: args)) (fun v => Q (some v)) E s) : wpAny M A (callSpecial? (.ref p) name args) Q E s := by
  unfold callSpecial? specialOf
  refine wpAny_bind (wpAny_bind (I.type.here ((looks_findIn X hf).here ?_)))
  dsimp only
  rw [hb]
  exact wpAny_holding (wpAny_bind (wpAny_pure (wpAny_bind (wpAny_mono h (fun v s' h' => wpAny_pure h') fun _ _ h' => h'))))
theorem getslice_pile {sl : Addr} {vl vu vk : Value} {lo hi st : Option Int} {Q : Value → Shared → Prop} (X : (Mine.hd.heap_39 w.params).In s.heap) (I : InstAt s.heap p (pileO dx vs ep) 94 (some od))
    (hs : s.heap.IsSliceOf sl vl vu vk) (pl : IsPart vl lo) (pu : IsPart vu hi) (ps : IsPart vk st) (h0 : st ≠ some 0)
    (h : Q (.ref s.heap.objs.size) { s with heap := s.heap.push { cls := .type "list", data := .seq (slicePick vs.toArray lo hi st) } })
    (hsz : vs.length ≤ 1000) : wpAny (model prog w) A (getItem (.ref p) (.ref sl)) Q E s := by
  obtain ⟨os, hos, hcs, hds⟩ := id hs
  have hTs : s.TypeIs (.ref sl) "slice" := ⟨os, hos, hcs⟩
  unfold getItem
  refine wpAny_holding ?_
  refine wpAny_bind (seqKey_pile X I ?_)
  refine wpAny_bind (special_list X I (f_getitem _) slot_list_getitem.bind (call_list (n := "__getitem__") (.inl (by decide +kernel)) (by decide +kernel) (by decide +kernel) entry_list_getitem X I (args_list_getitem _ _) ?_))
  show wpAny _ _ (Builtin.List.listSubscript? (.ref sl) >>= _) _ _ s
  refine wpAny_bind ?_
  · unfold Builtin.List.listSubscript?
    refine wpAny_bind (wpAny_specialOf hTs slice_no_index ?_)
    simp only [Option.isNone_none, if_true]
    refine wpAny_pure ?_
    show wpAny _ _ (typeOf (.ref sl) >>= _) _ _ s
    refine wpAny_bind (wpAny_typeOf hTs ?_)
    rw [if_neg (by decide)]
    rw [listSliceParts_eq]
    have hstep : ¬ ((rawPart st == rawInt 0) = true) := by
      cases st with
      | none => exact Bool.false_ne_true
      | some c =>
        intro hh
        have : c = 0 := by simpa [rawPart, rawInt] using hh
        exact h0 (by rw [this])
    refine wpAny_bind (wpAny_bind (wpAny_field hos hds (x := vk) rfl (wpAny_bind (wpAny_listPart ps ?_))))
    rw [if_neg hstep]
    refine wpAny_bind (wpAny_field hos hds (x := vl) rfl (wpAny_bind (wpAny_listPart pl ?_)))
    refine wpAny_bind (wpAny_field hos hds (x := vu) rfl (wpAny_bind (wpAny_listPart pu (wpAny_pure ?_))))
    refine wpAny_bind (m := Builtin.List.listItems (.ref p)) ?_
    · unfold Builtin.List.listItems
      refine wpAny_bind (wpAny_seqItems I.at_ rfl (wpAny_pure ?_))
      refine wpAny_bind (wpAny_of_eq (sliceIndices_raw lo hi st vs.toArray.size h0) ?_)
      refine wpAny_bind (wpAny_newObj_type (wpAny_pure ⟨_, rfl, wpAny_pure h⟩) (Nat.le_trans (slicePick_size_le vs.toArray lo hi st) (by rw [List.size_toArray]; exact Nat.le_trans hsz (by decide))))
theorem slice_pile {value slice : Expr} {vl vu vk : Value} {lo hi st : Option Int} {ops : List Value} {Q : Value → Shared → Prop} {h₀ : Heap} {L : Addr} {m : Str → Option Value} {news : List (Addr × Obj)}
    (F : Fr h₀ L s.heap m) (N : News h₀ L s.heap news) (X : (Mine.hd.heap_39 w.params).In s.heap) (I : InstAt s.heap p (pileO dx vs ep) 94 (some od)) (pl : IsPart vl lo) (pu : IsPart vu hi) (pk : IsPart vk st) (h0 : st ≠ some 0)
    (h : ∀ R h', Fr h₀ L h' m → News h₀ L h' ((R, listOf (slicePick vs.toArray lo hi st) 0) :: news) → (∀ q ∈ news, q.1 < R) → Q (.ref R) { s with heap := h' })
    (hs : subscripted slice false (.ref p) (.ref s.heap.objs.size) = operate ops (getItem (.ref p) (.ref s.heap.objs.size)))
    (ht : ∀ r, letTemporaryGo value (.ref p) r = pure ()) (hsz : vs.length ≤ 1000) :
    wpAny (model prog w) A (subscriptTail value slice (.ref p) (.ref s.heap.objs.size)) Q E { s with heap := s.heap.push { cls := .type "slice", data := .fields #[vl, vu, vk] } } := by
  have I' : InstAt (s.heap.push { cls := .type "slice", data := .fields #[vl, vu, vk] }) p (pileO dx vs ep) 94 (some od) := ⟨Heap.get?_push_of_some _ I.at_, rfl, rfl, Heap.get?_push_of_some _ I.dict⟩
  have X' := X.keeps (h' := s.heap.push { cls := .type "slice", data := .fields #[vl, vu, vk] }) fun _ _ e => Heap.get?_push_of_some _ e
  unfold subscriptTail getitemInPython specialOf
  refine wpAny_bind (wpAny_bind (wpAny_bind (InstAt.type I' |>.here ((looks_findIn X' (f_getitem _)).here ?_))))
  refine wpAny_pure ?_
  rw [hs]
  refine wpAny_bind (wpAny_operating ?_)
  refine getslice_pile (s := { s with heap := s.heap.push { cls := .type "slice", data := .fields #[vl, vu, vk] } }) X' I' (Heap.IsSliceOf.new ..) pl pu pk h0 ?_ hsz
  refine wpAny_bind (wpAny_of_eq (ht _) (wpAny_pure ?_))
  have N1 := News.push (F.push { cls := .type "slice", data := .fields #[vl, vu, vk] }) (N.grown fun _ _ e => Heap.get?_push_of_some _ e) { cls := .type "list", data := .seq (slicePick vs.toArray lo hi st) }
  exact h _ _ ((F.push _).push _) N1 fun q hq => by rw [Heap.size_push]; exact Nat.lt_succ_of_lt (Heap.lt_size (N q hq).1)

theorem setslice_pile {sl e : Addr} {vl vu : Value} {lo hi : Option Int} {new : List Value} {Q : Unit → Shared → Prop} (X : (Mine.hd.heap_39 w.params).In s.heap) (I : InstAt s.heap p (pileO dx vs ep) 94 (some od))
    (hs : s.heap.IsSliceOf sl vl vu .none) (pl : IsPart vl lo) (pu : IsPart vu hi) (he : s.heap.IsList e new.toArray) (hne : p ≠ e)
    (h : ∀ h' ep', h'.get? p = some (pileO dx (vs.take (lo.elim 0 (clipAt vs.length)) ++ new ++ vs.drop (max (lo.elim 0 (clipAt vs.length)) (hi.elim vs.length (clipAt vs.length)))) ep') → Heap.SameBut p s.heap h' → Q () { s with heap := h' })
    (hsz : vs.length ≤ 1000) (hsz' : new.length ≤ 1000) : wpAny (model prog w) A (setItem (.ref p) (.ref sl) (.ref e)) Q E s := by
  obtain ⟨os, hos, hcs, hds⟩ := id hs
  obtain ⟨oe, hoe, hce, ne, hde⟩ := id he
  have hTs : s.TypeIs (.ref sl) "slice" := ⟨os, hos, hcs⟩
  have hTe : s.TypeIs (.ref e) "list" := ⟨oe, hoe, hce⟩
  unfold setItem
  refine wpAny_holding ?_
  refine wpAny_bind (seqKey_pile X I ?_)
  refine wpAny_bind (special_list X I (f_setitem _) slot_list_setitem.bind (call_list (n := "__setitem__") (.inr (by decide +kernel)) (by decide +kernel) (by decide +kernel) entry_list_setitem X I (args_list_setitem _ _ _) ?_))
  show wpAny _ _ (Builtin.List.listSubscript? (.ref sl) >>= _) _ _ s
  refine wpAny_bind ?_
  unfold Builtin.List.listSubscript?
  refine wpAny_bind (wpAny_specialOf hTs slice_no_index ?_)
  simp only [Option.isNone_none, if_true]
  refine wpAny_pure ?_
  show wpAny _ _ (typeOf (.ref sl) >>= _) _ _ s
  refine wpAny_bind (wpAny_typeOf hTs ?_)
  rw [if_neg (by decide)]
  rw [listSliceParts_eq]
  refine wpAny_bind (wpAny_bind (wpAny_field hos hds (x := .none) rfl (wpAny_bind (wpAny_listPart .none ?_))))
  rw [if_neg (show ¬ ((rawPart none == rawInt 0) = true) from Bool.false_ne_true)]
  refine wpAny_bind (wpAny_field hos hds (x := vl) rfl (wpAny_bind (wpAny_listPart pl ?_)))
  refine wpAny_bind (wpAny_field hos hds (x := vu) rfl (wpAny_bind (wpAny_listPart pu (wpAny_pure ?_))))
  have hsame : Builtin.List.listSameRef (.ref p) (.ref e) = false := by
    show (p == e) = false
    exact beq_eq_false_iff_ne.mpr hne
  rw [hsame, if_neg Bool.false_ne_true]
  refine wpAny_bind (m := Builtin.List.listAllItems (.ref e) _) ?_
  unfold Builtin.List.listAllItems
  refine wpAny_bind (wpAny_typeOf hTe ?_)
  rw [if_pos (by rfl)]
  unfold Builtin.List.listItems
  refine wpAny_bind (wpAny_seqItems hoe hde (wpAny_pure ?_))
  refine wpAny_bind (wpAny_bind (wpAny_seqItems I.at_ rfl (wpAny_pure ?_)))
  refine wpAny_bind (wpAny_of_eq (sliceIndices_raw lo hi none vs.toArray.size (by nofun)) ?_)
  rw [sliceBounds_plain]
  dsimp only
  generalize ha : lo.elim 0 (clipAt vs.toArray.size) = a
  generalize hb : hi.elim vs.toArray.size (clipAt vs.toArray.size) = b
  rw [List.size_toArray] at ha hb
  rw [ha, hb] at h
  rw [if_pos (by rfl)]
  refine wpAny_bind (wpAny_rule ?_)
  rw [if_neg (show ¬ (Builtin.List.listTooLong (vs.toArray.size + new.toArray.size) = true) by
    show ¬ (decide (vs.toArray.size + new.toArray.size > sizeLine) = true)
    rw [decide_eq_true_eq, List.size_toArray, List.size_toArray, sizeLine_eq]; omega)]
  unfold Builtin.List.listUpdate
  have e1 : (max (a : Int) (b : Int)).toNat = max a b := by omega
  rw [Int.toNat_natCast, e1]
  refine wpAny_bind (upd_seq I.at_ rfl ?_ fun h' n' hg hs' => ?_)
  · simp only [Array.size_append, Array.size_extract, List.size_toArray, sizeLine_eq]; omega
  · refine wpAny_bind (wpAny_letGo (wpAny_pure ⟨_, rfl, wpAny_pure (h h' n' ?_ hs')⟩))
    rw [hg]
    congr 2
    simp
    exact List.take_of_length_le (by rw [List.length_drop]; exact Nat.le_refl _)
end
end Mine
end
-- part C6
section
open PySem PySem.W PyProof.Rows PySem.Calls
set_option maxRecDepth 100000
set_option maxHeartbeats 8000000
namespace Mine
theorem inst_pile {h : Heap} {p dx : Addr} {vs : List Value} {ep : Nat} {od : Obj} (h1 : h.get? p = some (pileO dx vs ep)) (h2 : h.get? dx = some od) : InstAt h p (pileO dx vs ep) 94 (some od) := ⟨h1, rfl, rfl, h2⟩
theorem fresh_of {g h : Heap} {ls : List Addr} {a : Addr} (hg : g = hideAll h ls) (e : g.get? a = none) (n : a ∉ ls) : h.get? a = none := by
  cases q : h.get? a with
  | none => rfl
  | some o => rw [hg, hideAll_get _ q n] at e; cases e
section
local macro_rules | `(tactic| walk_at "getMethod ref") => `(tactic| refine Halt.out ?_)
local macro_rules | `(tactic| walk_at "call builtin:list.append") => `(tactic| refine Halt.out ?_)
theorem push_spec {w : World} {dp un : Nat} {A : Around} {s : Shared} {Q E : Value → Shared → Prop} {p dx : Addr} {vs : List Value} {ep : Nat} {od : Obj} {v1 v2 : Value} (H : Here w [(p, pileO dx vs ep)] dp un A s.heap)
    (hd : dp + 1 < recursionLimit) (hu : un + 16 < cLine) (hdx : s.heap.get? dx = some od) (hne : dx ≠ p) (hlk : lookIn "append" od = some none) (hz : vs.length ≤ 100)
    (ret : ∀ h' tk' ep' T, KeepBut [p] s.heap h' → s.heap.get? T = none → h'.get? p = some (pileO dx (vs ++ [.ref T]) ep') → h'.get? T = some { cls := .type "tuple", data := .seq #[v1, v2] } → Q .none { s with heap := h', toks := tk' }) :
    wpAny (model PySem.Challenge.rw_nb0047_01.row.prog w) A (call (.ref 38) [.ref p, v1, v2]) Q E s := by
  have X := H.in
  revert X
  k_fill
  intro X
  w_on
  refine enterP H [("self", .ref p), ("fws", v1), ("string", v2)] (by omega) (by k_is) (by k_is) (BindsTo.of_eq rfl) (locs rfl) rfl rfl rfl (by decide) ?_
  intro p' loose mean mg mb gd A₀ base g outer L' h₁ hg hL B' F' X' N' T'
  have hdg : g.get? dx = some od := by rw [hg]; exact hideAll_get _ hdx (by simpa using hne)
  k_steps
  refine Halt.mk ?_
  rename Fr _ _ _ _ => F1
  rename News _ _ _ _ => N1
  refine method_append (X'.keeps F1.keep) (inst_pile (N1 _ (.head _)).1 (F1.keep _ _ hdg)) hlk ?_
  k_steps
  refine Halt.mk ?_
  rename Fr _ _ _ _ => F2
  rename News _ _ _ _ => N2
  rename_i D h2 l2
  refine append_pile (X'.keeps F2.keep) (inst_pile (N2 _ (.tail _ (.head _))).1 (F2.keep _ _ hdg)) (by omega) ?_
  intro h3 ep3 ho3 hs3
  obtain ⟨F3, N3⟩ := upd_led (pre := [_]) (post := []) F2 N2 hs3 ho3 (List.forall_mem_cons.mpr ⟨neN (by dsimp only; omega), fun _ h => nomatch h⟩) (fun _ h => nomatch h)
  dsimp only
  refine wpAny_execs_nil ?_
  exact ret h3 _ ep3 D (.of_hide (hg ▸ F3.keep)) (fresh_of hg (N3 _ (.head _)).2.2 (by simpa using neN (by omega))) (N3 _ (.tail _ (.head _))).1 (N3 _ (.head _)).1
end
end Mine
end
-- part C7
section
open PySem PySem.W PyProof.Rows PySem.Calls
set_option maxRecDepth 100000
set_option maxHeartbeats 8000000
namespace Mine
section
local macro_rules | `(tactic| walk_at "subscriptTail") => `(tactic| refine Halt.out ?_)
local macro_rules | `(tactic| walk_at "setItem") => `(tactic| refine Halt.out ?_)
theorem popfrom_spec {w : World} {dp un : Nat} {A : Around} {s : Shared} {Q E : Value → Shared → Prop} {p dx : Addr} {vs : List Value} {ep : Nat} {od : Obj} {i : Int} {ti : Tok} {args : List Value} (H : Here w [(p, pileO dx vs ep)] dp un A s.heap)
    (hargs : args = [.ref p, .int i ti] ∨ (args = [.ref p] ∧ i = 0 ∧ ti = 222))
    (hd : dp + 1 < recursionLimit) (hu : un + 16 < cLine) (hdx : s.heap.get? dx = some od) (hne : dx ≠ p) (hz : vs.length ≤ 100)
    (ret : ∀ h' tk' ep' R, KeepBut [p] s.heap h' → s.heap.get? R = none → h'.get? p = some (pileO dx (vs.take (clipAt vs.length i)) ep') → h'.get? R = some (listOf (List.toArray (vs.drop (clipAt vs.length i))) 0) → Q (.ref R) { s with heap := h', toks := tk' }) :
    wpAny (model PySem.Challenge.rw_nb0047_01.row.prog w) A (call (.ref 46) args) Q E s := by
  have X := H.in
  revert X
  k_fill
  intro X
  w_on
  refine enterP H [("self", .ref p), ("i", .int i ti)] (by omega) (by k_is) (by k_is) (by
      rcases hargs with rfl | ⟨rfl, rfl, rfl⟩
      · exact binds_K X rfl (by k_is) rfl rfl rfl
      · exact binds_K X rfl (by k_is) rfl rfl rfl) (locs rfl) rfl rfl rfl (by decide) ?_
  intro p' loose mean mg mb gd A₀ base g outer L' h₁ hg hL B' F' X' N' T'
  have hdg : g.get? dx = some od := by rw [hg]; exact hideAll_get _ hdx (by simpa using hne)
  k_steps
  refine Halt.mk ?_
  rename Fr _ _ _ _ => F1
  rename News _ _ _ _ => N1
  refine slice_pile (s := ⟨_, _, _, _, _⟩) F1 N1 (X'.keeps F1.keep) (inst_pile (N1 _ (.head _)).1 (F1.keep _ _ hdg)) (IsPart.int _ _) .none .none (by nofun) ?_ (by with_unfolding_all rfl) (by intro _; with_unfolding_all rfl) (by omega)
  clear F1 N1
  intro R h2 F2 N2 l2
  k_steps
  refine Halt.mk ?_
  rename Fr _ _ _ _ => F3
  rename News _ _ _ _ => N3
  rename_i h3 e3 h4 l4
  have F4 := Fr.push F3 { cls := .type "slice", data := .fields #[.int i ti, .none, .none] }
  have N4 : News g L' (h4.push { cls := .type "slice", data := .fields #[.int i ti, .none, .none] }) _ := N3.grown fun _ _ e => Heap.get?_push_of_some _ e
  refine setslice_pile (s := ⟨_, _, _, _, _⟩) (new := []) (X'.keeps F4.keep) (inst_pile (N4 _ (.tail _ (.tail _ (.head _)))).1 (F4.keep _ _ hdg)) (Heap.IsSliceOf.new ..) (IsPart.int _ _) .none ⟨_, (N4 _ (.head _)).1, rfl, _, rfl⟩ (neN (by omega)) ?_ (by omega) (by decide)
  intro h5 ep5 ho5 hs5
  obtain ⟨F5, N5⟩ := upd_led (pre := [_, _]) (post := []) F4 N4 hs5 ho5 (List.forall_mem_cons.mpr ⟨neN (by dsimp only; omega), List.forall_mem_cons.mpr ⟨neN (by have := ltN (l2 _ (.head _)); dsimp only at this ⊢; omega), fun _ h => nomatch h⟩⟩) (fun _ h => nomatch h)
  clear F4 N4 F3 N3
  dsimp only
  k_steps
  rename Fr _ _ _ _ => F6
  rename News _ _ _ _ => N6
  have e1 : slicePick vs.toArray (some i) none none = (vs.drop (clipAt vs.length i)).toArray := by
    rw [slicePick_plain]
    simp only [Option.elim]
    rw [List.take_of_length_le (by simp)]
    simp
  have e2 : vs.take ((some i).elim 0 (clipAt vs.length)) ++ [] ++ vs.drop (max ((some i).elim 0 (clipAt vs.length)) ((none : Option Int).elim vs.length (clipAt vs.length))) = vs.take (clipAt vs.length i) := by
    simp only [Option.elim]
    rw [List.drop_of_length_le (by omega)]
    simp
  rw [e1, e2] at N6
  exact ret h5 _ ep5 R (.of_hide (hg ▸ F6.keep)) (fresh_of hg (N6 _ (.tail _ (.head _))).2.2 (by simpa using neN (by have := ltN (l2 _ (.head _)); dsimp only at this ⊢; omega))) (N6 _ (.tail _ (.tail _ (.head _)))).1 (N6 _ (.tail _ (.head _))).1
end
end Mine
end
-- part P3
section
open PySem PySem.W PyProof.Rows PySem.Calls PySem.Builtin
set_option maxRecDepth 100000
set_option maxHeartbeats 8000000
namespace Mine
theorem slot_wd : Slot "wrapper_descriptor" "__get__" "wrapper_descriptor.__get__" :=
  .of (owner := "wrapper_descriptor") (n := "__get__") (by rw [typeLookup_type, builtinLookup_eq_fast]; kernel_rfl) (by decide +kernel) (by decide +kernel) (by decide +kernel)
    (by first | exact .inl (by decide +kernel) | exact .inr (by decide +kernel)) (by rw [isSubtype_type]; kernel_rfl)
theorem entry_wd : entryFor table "wrapper_descriptor.__get__" = some Builtin.«wrapper_descriptor.__get__» := entryFor_of_tree (by kernel_rfl)
theorem args_wd (a b c : Value) : argsOk "wrapper_descriptor.__get__" ⟨[a, b, c], []⟩ := by unfold argsOk; kernel_rfl
theorem slot_md : Slot "method_descriptor" "__get__" "method_descriptor.__get__" :=
  .of (owner := "method_descriptor") (n := "__get__") (by rw [typeLookup_type, builtinLookup_eq_fast]; kernel_rfl) (by decide +kernel) (by decide +kernel) (by decide +kernel)
    (by first | exact .inl (by decide +kernel) | exact .inr (by decide +kernel)) (by rw [isSubtype_type]; kernel_rfl)
theorem entry_md : entryFor table "method_descriptor.__get__" = some Builtin.«method_descriptor.__get__» := entryFor_of_tree (by kernel_rfl)
theorem args_md (a b c : Value) : argsOk "method_descriptor.__get__" ⟨[a, b, c], []⟩ := by unfold argsOk; kernel_rfl
theorem type_len : typeOf (.builtin "list.__len__") = pure (.type "wrapper_descriptor") := by show builtinType _ = _; rw [builtinType_eq_fast]; kernel_rfl
theorem type_init : typeOf (.builtin "list.__init__") = pure (.type "wrapper_descriptor") := by show builtinType _ = _; rw [builtinType_eq_fast]; kernel_rfl
abbrev boundO (ty : String) (id : String) (p : Addr) : Obj := { cls := .type ty, data := .fields #[.builtin id, .ref p] }
section
variable {prog : Program} {w : World} {A : Around} {E : Value → Shared → Prop} {s : Shared} {p dx : Addr} {vs : List Value} {ep : Nat} {od : Obj} {Q : Value → Shared → Prop}
theorem str_len : ".".intercalate ("list.__len__".cutAt '.').dropLast = "list" := by decide +kernel
theorem str_init : ".".intercalate ("list.__init__".cutAt '.').dropLast = "list" := by decide +kernel
theorem str_pop : ".".intercalate ("list.pop".cutAt '.').dropLast = "list" := by decide +kernel
theorem get_len (X : (Mine.hd.heap_39 w.params).In s.heap) (I : InstAt s.heap p (pileO dx vs ep) 94 (some od)) (h : Q (.ref s.heap.objs.size) { s with heap := s.heap.push (boundO "method-wrapper" "list.__len__" p) }) :
    wpAny (model prog w) A (call (.builtin "wrapper_descriptor.__get__") [.builtin "list.__len__", .ref p, .ref 94]) Q E s := by
  refine wpAny_call_entry slot_wd type_len entry_wd ?_ (args_wd _ _ _)
  have hp := I.at_
  have hi := looks_subIn (M := model prog w) X (f_sublist _)
  obtain ⟨hh, g, d, t, os⟩ := s
  unfold Builtin.«wrapper_descriptor.__get__»
  repeat (first | rw [str_len] | lk)
  exact ⟨_, rfl, h⟩
theorem get_init (X : (Mine.hd.heap_39 w.params).In s.heap) (I : InstAt s.heap p (pileO dx vs ep) 94 (some od)) (h : Q (.ref s.heap.objs.size) { s with heap := s.heap.push (boundO "method-wrapper" "list.__init__" p) }) :
    wpAny (model prog w) A (call (.builtin "wrapper_descriptor.__get__") [.builtin "list.__init__", .ref p, .ref 94]) Q E s := by
  refine wpAny_call_entry slot_wd type_init entry_wd ?_ (args_wd _ _ _)
  have hp := I.at_
  have hi := looks_subIn (M := model prog w) X (f_sublist _)
  obtain ⟨hh, g, d, t, os⟩ := s
  unfold Builtin.«wrapper_descriptor.__get__»
  repeat (first | rw [str_init] | lk)
  exact ⟨_, rfl, h⟩
theorem get_pop (X : (Mine.hd.heap_39 w.params).In s.heap) (I : InstAt s.heap p (pileO dx vs ep) 94 (some od)) (h : Q (.ref s.heap.objs.size) { s with heap := s.heap.push (boundO "builtin_function_or_method" "list.pop" p) }) :
    wpAny (model prog w) A (call (.builtin "method_descriptor.__get__") [.builtin "list.pop", .ref p, .ref 94]) Q E s := by
  refine wpAny_call_entry slot_md F.type_list_pop entry_md ?_ (args_md _ _ _)
  have hp := I.at_
  have hi := looks_subIn (M := model prog w) X (f_sublist _)
  obtain ⟨hh, g, d, t, os⟩ := s
  unfold Builtin.«method_descriptor.__get__»
  repeat (first | rw [str_pop] | lk)
  exact ⟨_, rfl, h⟩
theorem f_opq (P : Params) : nsIn (Mine.hd.heap_39 P) cStatics "thirdparty.any" = some none := by kernel_rfl
theorem f_cls (P : Params) : clsIn (Mine.hd.heap_39 P) 94 = some { name := "_Accumulator", bases := [.type "list"], mro := [.ref 94, .type "list", .type "object"], ns := 93, qualname := "_Accumulator" } := by kernel_rfl
theorem pile_ne (X : (Mine.hd.heap_39 w.params).In s.heap) (I : InstAt s.heap p (pileO dx vs ep) 94 (some od)) : p ≠ 94 := ks_ne X I (f_cls _)
theorem super_ga_bi {so : Addr} {name : Str} {tk : Tok} {id ty getid : String} {Q : Fin → Shared → Prop} (X : (Mine.hd.heap_39 w.params).In s.heap) (I : InstAt s.heap p (pileO dx vs ep) 94 (some od))
    (hso : s.heap.get? so = some (ks_superObj 94 p 94)) (hf : alongIn (Mine.hd.heap_39 w.params) name [.type "list", .type "object"] = some (some (.builtin id)))
    (hty : typeOf (.builtin id) = pure (.type ty)) (hlk : typeLookup (.type ty) "__get__" = pure (some (.builtin getid))) (hn : (name == ("__class__" : Str)) = false)
    (hq : wpAny (model prog w) A (call (.builtin getid) [.builtin id, .ref p, .ref 94]) (fun v s' => Q (.done (.ret v)) s') E s) :
    wpAny (model prog w) A (Builtin.«super.__getattribute__» ⟨[.ref so, .str name tk], []⟩) Q E s := by
  have hne : (Value.ref p == Value.ref 94) = false := by simp [pile_ne X I]
  have hC : Looks (model prog w) s.heap (mroOf (.ref 94)) [.ref 94, .type "list", .type "object"] := (looks_clsIn X (f_cls _)).andThen .now
  have hno := looks_opaque (M := model prog w) (C := 94) X (f_opq _)
  obtain ⟨h, g, d, t, os⟩ := s
  dsimp only at X I hso hC hno
  have hdt : (ks_superObj 94 p 94).data = .fields #[.ref 94, .ref p, .ref 94] := rfl
  have f0 : (#[.ref 94, .ref p, .ref 94] : Array Value)[0]? = some (.ref 94) := rfl
  have f1 : (#[.ref 94, .ref p, .ref 94] : Array Value)[1]? = some (.ref p) := rfl
  have f2 : (#[.ref 94, .ref p, .ref 94] : Array Value)[2]? = some (.ref 94) := rfl
  have hl : (([.ref 94, .type "list", .type "object"] : List Value).dropWhile (· != .ref 94)).drop 1 = [.type "list", .type "object"] := by decide
  unfold Builtin.«super.__getattribute__»
  repeat (first
    | (with_reducible refine wpAny_field hso hdt f0 ?_) | (with_reducible refine wpAny_field hso hdt f1 ?_) | (with_reducible refine wpAny_field hso hdt f2 ?_)
    | (with_reducible refine ks_wpAny_notOpaque hno ?_)
    | (with_reducible refine Looks.at hC ?_; rw [hl])
    | (refine ks_forIn_along X (fun _ _ => rfl) rfl ?_ hf)
    | (with_reducible refine wpAny_of_eq hty ?_)
    | (with_reducible refine wpAny_of_eq hlk ?_)
    | (with_reducible refine wpAny_mono hq ?_ (fun _ _ z => z))
    | (simp only [hn, hne, Bool.or_false, Bool.false_eq_true, if_false])
    | wp_step
    | dsimp only)
  all_goals (intro v s' z; exact wpAny_bind (wpAny_pure (wpAny_pure (wpAny_pure z))))
theorem super_method_bi {so : Addr} {name : Str} {id ty getid : String} {pl : Sem Bool} {o : Obj} {Q : Value × List Value → Shared → Prop} (X : (Mine.hd.heap_39 w.params).In s.heap) (I : InstAt s.heap p (pileO dx vs ep) 94 (some od))
    (hso : s.heap.get? so = some (ks_superObj 94 p 94)) (hf : alongIn (Mine.hd.heap_39 w.params) name [.type "list", .type "object"] = some (some (.builtin id)))
    (hty : typeOf (.builtin id) = pure (.type ty)) (hlk : typeLookup (.type ty) "__get__" = pure (some (.builtin getid))) (hn : (name == ("__class__" : Str)) = false)
    (hget : ∀ (A' : Around) (s' : Shared) (Q' : Value → Shared → Prop) (E' : Value → Shared → Prop), s'.heap = s.heap → Q' (.ref s'.heap.objs.size) { s' with heap := s'.heap.push o } → wpAny (model prog w) A' (call (.builtin getid) [.builtin id, .ref p, .ref 94]) Q' E' s')
    (hq : Q (.ref s.heap.objs.size, []) { s with heap := s.heap.push o, toks := s.toks + 1 }) :
    wpAny (model prog w) A (getMethod (.ref so) name pl) Q E s := by
  obtain ⟨h, g, d, t, os⟩ := s
  dsimp only at X I hso hget
  have hlks := F.ks_slot_super_ga.lookup
  have hcan := F.ks_canon_super_ga
  have hT : ∀ t', (⟨h, g, d, t', os⟩ : Shared).TypeIs (.ref so) "super" := fun _ => ⟨_, hso, rfl⟩
  unfold getMethod
  refine wpAny_bind (wpAny_specialOf (hT _) hlks ?_)
  show wpAny _ _ (if (Manifest.canonical "super.__getattribute__" != "object.__getattribute__") = true then _ else _) _ _ _
  rw [if_pos hcan]
  unfold getAttr getAttrBy
  refine wpAny_bind (wpAny_bind (wpAny_mkText (wpAny_holding (wpAny_bind (wpAny_typeOf (hT _) (wpAny_bind (wpAny_of_eq hlks ?_)))))))
  show wpAny _ _ (getAttrByItsOwn (.ref so) (.str name t) (.type "super") (.builtin "super.__getattribute__") true false) _ _ _
  unfold getAttrByItsOwn hookBefore callGetattribute boundAndCalled
  refine wpAny_bind (wpAny_of_eq (show (if onTheHeap (.type "super") then typeLookup (.type "super") "__getattr__" else pure none) = pure none from rfl) ?_)
  refine wpAny_bind (wpAny_attempt (wpAny_holding ?_))
  show wpAny _ _ (bindSpecial (.builtin "super.__getattribute__") (.ref so) >>= _) _ _ _
  refine wpAny_bind (wpAny_of_eq (F.ks_slot_super_ga.bind _) ?_)
  refine wpAny_mono (Q := fun v s' => v = .ref h.objs.size ∧ s' = ⟨h.push o, g, d, t + 1, os⟩) (E := fun _ _ => False)
    (wpAny_call_entry F.ks_slot_super_ga (hT _) F.ks_entry_super_ga (super_ga_bi (s := ⟨h, g, d, t + 1, os⟩) X I hso hf hty hlk hn (hget _ ⟨h, g, d, t + 1, os⟩ _ _ rfl ⟨_, rfl, rfl, rfl⟩)) (F.ks_gaArgs_super _ _)) (fun v s' hv => ?_) fun _ _ z => z.elim
  obtain ⟨rfl, rfl⟩ := hv
  exact wpAny_pure (wpAny_pure hq)
end
end Mine
end
-- part P4
section
open PySem PySem.W PyProof.Rows PySem.Calls PySem.Builtin Builtin.ObjectAttr
set_option maxRecDepth 100000
set_option maxHeartbeats 8000000
namespace Mine
theorem f_has (P : Params) : hasDictIn (Mine.hd.heap_39 P) 94 = true := by kernel_rfl
theorem f_taker (P : Params) : takerIn (Mine.hd.heap_39 P) 94 "_initial_size" = some none := by kernel_rfl
theorem pass_pile (self : Value) : refuseLoop self "__setattr__" [.ref 94, .type "list", .type "object"] = pure () := by
  rw [refuseLoop_ref]; kernel_rfl
/-- the accumulator's own dict -/
abbrev isD (hs : Int) (tk : Tok) (v : Value) (n : Nat) : Obj := dictOf [⟨hs, .str "_initial_size" tk, v⟩] n
theorem look_isD (hs : Int) (tk : Tok) (v : Value) (n : Nat) : lookIn "_initial_size" (isD hs tk v n) = some (some v) := rfl
section
variable {prog : Program} {w : World} {A : Around} {E : Value → Shared → Prop} {s : Shared} {p dx : Addr} {vs : List Value} {ep : Nat} {od : Obj}
theorem get_is {expr : Bool} {v : Value} {Q : Value → Shared → Prop} (X : (Mine.hd.heap_39 w.params).In s.heap) (I : InstAt s.heap p (pileO dx vs ep) 94 (some od))
    (hl : lookIn "_initial_size" od = some (some v)) (hv : handedIn v = true) (h : Q v { s with toks := s.toks + 1 }) : wpAny (model prog w) A (getAttr (.ref p) "_initial_size" expr) Q E s := by
  obtain ⟨hh, g, d, t, os⟩ := s
  dsimp only at X I h
  have L0 := I.type (M := model prog w)
  have L1 := looks_findIn (M := model prog w) X (f_ga _)
  have L2 := looks_findIn (M := model prog w) X (f_gattr _)
  have L3 := looks_find (M := model prog w) X I (findObj_own (f_has _) (f_isz _) rfl hl)
  have L4 := pile_list (M := model prog w) (s := ⟨hh, g, d, t + 1, os⟩) X I
  unfold getAttr getAttrBy
  refine wpAny_bind (wpAny_mkText (wpAny_holding (wpAny_bind (L0.at (wpAny_bind (L1.at ?_))))))
  show wpAny _ _ (getAttrByItsOwn _ _ _ _ _ _) _ _ _
  unfold getAttrByItsOwn
  refine wpAny_bind (L2.at (wpAny_bind (wpAny_attempt (wpAny_holding ?_))))
  unfold callGetattribute
  have hc : (expr && onTheHeap (.builtin "list.__getattribute__")) = false := by cases expr <;> rfl
  rw [hc]
  simp only [Bool.false_eq_true, if_false]
  unfold boundAndCalled
  rw [F.slot_list_getattribute.bind]
  refine wpAny_bind (wpAny_pure ?_)
  refine call_list (n := "__getattribute__") (.inr (by decide +kernel)) (by decide +kernel) F.slot_list_getattribute.plain F.entry_list_ga X I (F.args_list_getattribute_2 _ _) ?_
  unfold Builtin.«object.__getattribute__»
  refine wpAny_bind (wpAny_pure (wpAny_bind (wpAny_pure (wpAny_bind (L0.at (wpAny_bind (L3.at ?_)))))))
  refine wpAny_pure ⟨_, rfl, ?_⟩
  show wpAny _ _ (handedOut v) _ _ _
  rw [handedOut_of hv]; exact wpAny_pure h
theorem set_is {es es' : List DictEntry} {n n' : Nat} {v : Value} {Q : Unit → Shared → Prop} (X : (Mine.hd.heap_39 w.params).In s.heap) (I : InstAt s.heap p (pileO dx vs ep) 94 (some (dictOf es n)))
    (hl : (getL "_initial_size" es).isSome = true) (e : (putL "_initial_size" (PyData.keyHash w.params "_initial_size") (.str "_initial_size" (s.toks + 1)) v es, putN "_initial_size" es n) = (es', n')) (hz : es'.length ≤ 1000)
    (h : ∀ h', h'.get? dx = some (dictOf es' n') → Heap.SameBut dx s.heap h' → Q () { s with heap := h', toks := s.toks + 2 }) :
    wpAny (model prog w) A (setAttr (.ref p) "_initial_size" v) Q E s := by
  obtain ⟨e1, e2⟩ := Prod.mk.inj e
  refine set_plain X I (f_sattr _) ?_
  have SF := PySem.F.store_object
  obtain ⟨hh, g, d, t, os⟩ := s
  dsimp only at X I h e1 e2
  have sub : Looks (model prog w) hh (isInstance (.ref p) (.type "object")) true := I.type.andThen (looks_subIn X (f_subobj _))
  have hm : Looks (model prog w) hh (mroOf (.ref 94)) [.ref 94, .type "list", .type "object"] := (looks_clsIn X (f_cls _)).andThen .now
  have L0 := I.type (M := model prog w)
  have L2 := looks_findIn (M := model prog w) X (f_isz _)
  refine codeAny_call_builtin SF.slot.plain SF.entry (@check_slot (model prog w) _ _ _ "object.__setattr__" "object" "__setattr__" (.ref p) [.str "_initial_size" t, v] [] _ SF.kind SF.split sub (SF.args _ _ _) ?_)
  rw [osa_eq, refuse_eq]
  refine wpAny_bind (wpAny_bind (L0.at (wpAny_bind (hm.at ?_))))
  rw [pass_pile]
  refine wpAny_pure (wpAny_bind (L0.at (wpAny_bind (L2.at (wpAny_bind (wpAny_pure ?_))))))
  have D := I.dict
  have hx := I.at_
  dsimp only at D hx
  have D' := Heap.get?_update_self (h := hh) (Obj.putName "_initial_size" (PyData.keyHash w.params "_initial_size") (.str "_initial_size" (t + 1)) v) D (by rw [putName_dict]; rfl)
  show wpAny _ _ (storeInOwnDict (.ref p) (.ref 94) (.str "_initial_size" t) "_initial_size" v false) _ _ _
  refine wpAny_bind (wpAny_pure (wpAny_bind (wpAny_bind (wpAny_loadPart hx (wpAny_bind ((looks_clsIn X (f_cls _)).at ?_))))))
  refine wpAny_pure (a := some dx) (wpAny_bind (wpAny_pure (wpAny_bind ?_)))
  unfold nsSet
  refine wpAny_bind (wpAny_bind (wpAny_askSetting (wpAny_pure (wpAny_bind (wpAny_mkText (wpAny_bind (wpAny_loadPart D ?_)))))))
  dsimp only
  have c : (!es.toArray.any (·.key.isStr "_initial_size") && es.toArray.any (·.refKey)) = false := by
    rw [← Array.any_toList, ← Array.any_toList]
    unfold getL at hl
    split at hl
    · rename_i en he
      rw [List.any_eq_true.mpr ⟨en, List.mem_of_find?_eq_some he, List.find?_some he⟩]; rfl
    · split at hl
      · cases hl
      · rename_i z; rw [Bool.not_eq_true] at z; rw [z, Bool.and_false]
  rw [aRefKeyMayBeTheName_at, c]
  refine wpAny_updatePart D ?_
  rw [putName_dict, e1, e2] at D'
  refine wpAny_bind (wpAny_lookBehind D' (pastItsLine_dict (by rw [List.size_toArray, sizeLine_eq]; omega)) ?_)
  exact wpAny_pure (h _ D' (Heap.SameBut.update ..))
end
end Mine
end
-- part P5
section
open PySem PySem.W PyProof.Rows PySem.Calls PySem.Builtin
set_option maxRecDepth 100000
set_option maxHeartbeats 8000000
namespace Mine
theorem Here.led {w : World} {led : List (Addr × Obj)} {dp un : Nat} {A : Around} {h : Heap} (H : Here w led dp un A h) : ∀ q ∈ led, h.get? q.1 = some q.2 := by
  cases H with
  | mk B F X T N hk => exact fun q hq => (N q hq).1
theorem keep_back {w : World} {led : List (Addr × Obj)} {dp un : Nat} {A : Around} {h g h' : Heap} {L : Addr} {m : Str → Option Value} (hg : g = hideAll h (led.map (·.1))) (H : Here w led dp un A h) (F : Fr g L h' m) (N : News g L h' led) : Keep h h' := by
  intro b o e
  by_cases hb : b ∈ led.map (·.1)
  · obtain ⟨q, hq, rfl⟩ := List.mem_map.mp hb
    have := H.led q hq
    rw [e] at this
    cases this
    exact (N q hq).1
  · exact F.keep b o (by rw [hg]; exact hideAll_get _ e hb)
/-- enter a def of the written part whose body asks super() -/
theorem enterS {w : World} {led : List (Addr × Obj)} {dp un : Nat} {A : Around} {s : Shared} {Q E : Value → Shared → Prop}
    {name qual : Str} {params : Arguments} {body : List Stmt} {scope : Scope} {cl' : List (Str × Addr)} {dV kV doc pm cdv ct oc : Value} {an od : Option Addr} {osl : Array (Option Value)} {f : Addr} {args : List Value}
    (H : Here w led dp un A s.heap) (binds : List (Str × Value)) (hd : dp < recursionLimit)
    (ho : (Mine.hd.heap_39 w.params).lookup f = some ⟨oc, od, .func (fnX name qual params body scope cl' dV kV doc pm an cdv ct), osl⟩) (hcd : codeIn (Mine.hd.heap_39 w.params) cdv qual = true)
    (hbind : BindsTo s (fnX name qual params body scope cl' dV kV doc pm an cdv ct) ⟨args, []⟩ binds) (hloc : ∀ y ∈ binds, scope.names.lookup y.1 = some .local)
    (hco : scope.isCoroutine = false) (hgen : scope.isGenerator = false) (hks : scope.kind = .function) (hcell : ∀ x ∈ scope.names, x.2 ≠ .cell)
    (h : ∀ {p : Program} {loose : List Str} {mean : ExcName → Option Value} {mg mb : Str → Option Value} {gd : Option (List Code)} {A₀ : Around} {base g : Heap} {outer : List Env} (L' : Addr) (h₁ : Heap), g = hideAll s.heap (led.map (·.1)) → s.heap.objs.size ≤ L' →
      Below A₀ base outer g → Fr g L' h₁ (fun y => binds.reverse.lookup y) → (Mine.hd.heap_39 w.params).In g → News g L' h₁ led → Top p loose mean mg mb g →
      _root_.PySem.wpAt (model PySem.Challenge.rw_nb0047_01.row.prog w) (ktrTop (dp + 1) (un + 3) gd qual scope L' f cdv cl' outer) (.func body (envX qual scope L' f cdv cl')) (execs body (envX qual scope L' f cdv cl'))
        (fun fl s' => Q (match fl with | .ret v => v | _ => .none) s')
        (fun _ _ => False)
        { s with heap := h₁, toks := s.toks + binds.length }) :
    wpAny (model PySem.Challenge.rw_nb0047_01.row.prog w) A (call (.ref f) args) Q E s := by
  cases H with
  | mk B F X T N hk =>
    rename_i p loose mean mg mb gd cn cs a ccd cl outer A₀ base h₀ L m
    have X' := X.keeps F.keep
    obtain ⟨FG, BG, st, _⟩ := groundX (A := ktrTop dp un gd cn cs L a ccd cl outer) (env := envX cn cs L a ccd cl) (R := fun _ _ => False) B F N rfl rfl hk
    refine wpAny_call (ks_codeAny_call_defAt (fd := fnX name qual params body scope cl' dV kV doc pm an cdv ct) (body := body) (binds := binds) hd (X' _ _ ho) rfl (T.nolimit.keeps F.keep) (codeRec_of X' hcd) rfl hbind hcell hloc (fun h₁ hns hk₁ => ?_) hco hgen hks)
    exact ks_wpAt_mono (h s.heap.objs.size h₁ rfl (Nat.le_refl _) BG ⟨hns, fun b o e => hk₁ b o (of_hideAll _ e), Nat.le_of_eq (hideAll_size _ _)⟩ (X.keeps st) (fun q hq => ⟨hk₁ _ _ (N q hq).1, Nat.ne_of_lt (Heap.lt_size (N q hq).1), hideAll_none _ (List.mem_map_of_mem hq)⟩) (T.keeps st)) (fun _ _ x => x) (fun _ _ x => x.elim)
section
variable {prog : Program} {w : World} {A : Around} {E : Value → Shared → Prop} {s : Shared} {p dx : Addr} {vs : List Value} {ep : Nat} {od : Obj} {Q : Value → Shared → Prop}
theorem check_len (a : Value) : checkBoundCall "list.__len__" ⟨[a], []⟩ = pure () := by kernel_rfl
theorem check_init (a : Value) : checkBoundCall "list.__init__" ⟨[a], []⟩ = pure () := by kernel_rfl
theorem f_submod (P : Params) : subIn (Mine.hd.heap_39 P) (.ref 94) (.type "module") = some false := by kernel_rfl
theorem f_type94 (P : Params) : typeIn (Mine.hd.heap_39 P) (.ref 94) = some (.type "type") := by kernel_rfl
theorem sig_pop (a : Value) : (match Manifest.signature? "list.pop" with | some sig => Bind.checkArgs "list.pop" { sig with full := toString "_Accumulator" ++ toString "." ++ toString (Bind.lastOf "list.pop") } ⟨[a], []⟩ | none => pure ()) = pure () := by kernel_rfl
theorem check_pop {Q : Unit → Shared → Prop} (X : (Mine.hd.heap_39 w.params).In s.heap) (I : InstAt s.heap p (pileO dx vs ep) 94 (some od)) (q : Q () s) : wpAny (model prog w) A (checkBoundCall "list.pop" ⟨[.ref p], []⟩) Q E s := by
  have h2 := sig_pop (.ref p)
  have hk : builtinKind "list.pop" = some .method := by decide +kernel
  have hv : Manifest.varargsMethods.contains "list.pop" = false := by decide +kernel
  have hp := I.at_
  have L0 := I.type (M := model prog w)
  have L1 : Looks (model prog w) s.heap (isInstance (.ref p) (.type "module")) false := L0.andThen (looks_subIn X (f_submod _))
  have L2 := looks_typeIn (M := model prog w) X (f_type94 _)
  have L3 := looks_clsIn (M := model prog w) X (f_cls _)
  unfold checkBoundCall
  cases h1 : Manifest.signature? "list.pop" with
  | none => exact wpAny_pure q
  | some sig =>
    rw [h1] at h2
    dsimp only at h2
    simp only [hk]
    refine wpAny_bind (L1.here ?_)
    rw [hv]
    simp only [Bool.or_self, Bool.false_eq_true, if_false]
    refine wpAny_bind (m := isType (.ref p)) ?_
    unfold isType loadHead
    refine wpAny_bind (wpAny_loadPart hp ?_)
    refine wpAny_pure ?_
    refine wpAny_bind (L0.here ?_)
    refine wpAny_bind (L3.here (wpAny_bind (L2.here ?_)))
    refine wpAny_of_eq h2 q
theorem call_bound {b : Addr} {ty : String} {id : String} {bi : Builtin} (hb : s.heap.get? b = some (boundO ty id p)) (hty : ty = "method-wrapper" ∨ ty = "builtin_function_or_method") (hq : ∀ a, (Code.builtin id a).quiet = true) (he : entryFor table id = some bi)
    (hc : ∀ {Q' : Unit → Shared → Prop} {E' : Value → Shared → Prop} {A' : Around}, Q' () s → wpAny (model prog w) A' (checkBoundCall id ⟨[.ref p], []⟩) Q' E' s)
    (h : ∀ A', wpAny (model prog w) A' (bi ⟨[.ref p], []⟩) (fun fin s' => ∃ v, fin = .done (.ret v) ∧ Q v s') E s) : wpAny (model prog w) A (call (.ref b) []) Q E s := by
  refine wpAny_call (codeAny_of_tree ?_)
  show wpAny _ A.in1 (callAny (.ref b) ⟨[], []⟩) _ _ s
  simp only [callAny]
  refine wpAny_bind (wpAny_load hb ?_)
  have c1 : (Value.type ty == Value.type "method" || Value.type ty == Value.type "builtin_function_or_method" || Value.type ty == Value.type "method-wrapper") = true := by rcases hty with rfl | rfl <;> decide
  have c2 : (Value.type ty != Value.type "method") = true := by rcases hty with rfl | rfl <;> decide
  simp only [c1, if_true]
  show wpAny _ _ (if (Value.type ty != Value.type "method") = true then _ else _) _ _ _
  rw [if_pos c2]
  refine wpAny_bind (hc ?_)
  refine wpAny_bind (wpAny_pure (wpAny_pure ?_))
  refine And.intro (hq _) (codeAny_builtin he (wpAny_mono (h _) (fun fin s' z => ?_) fun _ _ z => z))
  obtain ⟨v, rfl, hv⟩ := z; exact hv
theorem keeper_bound {M : Model} {h : Heap} {b : Addr} {ty : String} {id : String} (hty : ty = "method-wrapper" ∨ ty = "builtin_function_or_method") (hb : h.get? b = some (boundO ty id p)) : Looks M h (keeperOf (.ref b)) .machine := by
  have c1 : (Value.type ty != Value.type "method") = true := by rcases hty with rfl | rfl <;> decide
  have c2 : (Value.type ty == Value.type "builtin_function_or_method" || Value.type ty == Value.type "method-wrapper") = true := by rcases hty with rfl | rfl <;> decide
  refine (Looks.ld (part := none) hb).andThen ?_
  dsimp only [boundO]
  rw [if_pos c1, if_pos c2]
  exact .now
theorem callWith_b0 {M : Model} {pos : Pos} {env : Env} {b : Addr} {ty : String} {id : String} (hty : ty = "method-wrapper" ∨ ty = "builtin_function_or_method") (hb : s.heap.get? b = some (boundO ty id p)) (h : wpAny M A (call (.ref b) []) Q E s) : wpAny M A (callWith pos (.ref b) [] (backTo pos (starEach [] env)) []) Q E s :=
  callWith_of (P := fun h => h.get? b = some (boundO ty id p)) rfl (fun h hb => ⟨.machine, .inr (.inl rfl), keeper_bound hty hb⟩) (evalArgs_nil3 ⟨hb, h⟩)
theorem run_len {Q : Fin → Shared → Prop} (hp : s.heap.get? p = some (pileO dx vs ep)) (h : Q (.done (.ret (.int vs.length s.toks))) { s with toks := s.toks + 1 }) : wpAny (model prog w) A (Builtin.«list.__len__» ⟨[.ref p], []⟩) Q E s := by
  refine wpAny_bind (wpAny_pure (wpAny_bind (wpAny_bind (wpAny_loadPart hp (wpAny_pure ?_)))))
  refine wpAny_bind (wpAny_mkInt (wpAny_pure ?_))
  exact h
theorem erase_last (vs : List Value) (x : Value) : (vs ++ [x]).toArray.eraseIdxIfInBounds vs.length = vs.toArray := by
  simp [Array.eraseIdxIfInBounds, List.eraseIdx_append_of_length_le]
theorem run_pop {x : Value} {Q : Fin → Shared → Prop} (hp : s.heap.get? p = some (pileO dx (vs ++ [x]) ep)) (hz : vs.length ≤ 1000)
    (h : ∀ h' ep', h'.get? p = some (pileO dx vs ep') → Heap.SameBut p s.heap h' → Q (.done (.ret x)) { s with heap := h' }) : wpAny (model prog w) A (Builtin.«list.pop» ⟨[.ref p], []⟩) Q E s := by
  refine wpAny_bind (wpAny_pure (wpAny_bind (wpAny_pure ?_)))
  show wpAny _ _ (Builtin.List.listItems (.ref p) >>= _) _ _ _
  refine wpAny_bind (wpAny_bind (wpAny_bind (wpAny_loadPart hp (wpAny_pure (wpAny_pure ?_)))))
  have h1 : (vs ++ [x]).toArray.isEmpty = false := by simp [Array.isEmpty]
  have h2 : ((seqIndex? (-1) (vs ++ [x]).toArray.size).bind fun k => (vs ++ [x]).toArray[k]?.map (k, ·)) = some (vs.length, x) := by
    have : seqIndex? (-1) (vs ++ [x]).toArray.size = some vs.length := by simp [seqIndex?]; omega
    rw [this]; simp
  rw [h1]
  dsimp only
  rw [h2]
  dsimp only
  refine wpAny_bind (upd_seq hp rfl (by rw [erase_last]; simp [sizeLine]; omega) fun h' n' hg hs => ?_)
  refine wpAny_pure (h h' n' ?_ hs)
  rw [hg, erase_last]
theorem run_init {Q : Fin → Shared → Prop} (hp : s.heap.get? p = some (pileO dx [] ep))
    (h : ∀ h' ep', h'.get? p = some (pileO dx [] ep') → Heap.SameBut p s.heap h' → Q (.done (.ret .none)) { s with heap := h' }) : wpAny (model prog w) A (Builtin.«list.__init__» ⟨[.ref p], []⟩) Q E s := by
  show wpAny _ _ (Builtin.List.listItems (.ref p) >>= _) _ _ _
  refine wpAny_bind (wpAny_bind (wpAny_bind (wpAny_loadPart hp (wpAny_pure (wpAny_pure ?_)))))
  refine wpAny_bind (upd_seq hp rfl (by simp [sizeLine]) fun h' n' hg hs => ?_)
  refine wpAny_bind (wpAny_pure (wpAny_pure (h h' n' hg hs)))
end
section
local macro_rules | `(tactic| walk_at "getMethod ref") => `(tactic| refine Halt.out ?_)
local macro_rules | `(tactic| walk_at "call ref") => `(tactic| refine Halt.out ?_)
theorem count_spec {w : World} {dp un : Nat} {A : Around} {s : Shared} {Q E : Value → Shared → Prop} {p dx : Addr} {vs : List Value} {ep : Nat} {od : Obj} (H : Here w [(p, pileO dx vs ep), (dx, od)] dp un A s.heap)
    (hd : dp + 1 < recursionLimit) (hu : un + 16 < cLine)
    (ret : ∀ h' tk' t', Keep s.heap h' → Q (.int vs.length t') { s with heap := h', toks := tk' }) :
    wpAny (model PySem.Challenge.rw_nb0047_01.row.prog w) A (call (.ref 91) [.ref p]) Q E s := by
  have X := H.in
  revert X
  k_fill
  intro X
  w_on
  refine enterS H [("self", .ref p)] (by omega) (by k_is) (by k_is) (BindsTo.of_eq rfl) (locs rfl) rfl rfl rfl (by decide) ?_
  intro p' loose mean mg mb gd A₀ base g outer L' h₁ hg hL B' F' X' N' T'
  k_steps
  refine ks_node F' X' N' T' (by k_is) (by rfl) (by rfl) (inst_pile (N' _ (.head _)).1 (N' _ (.tail _ (.head _))).1) (by k_is) (by rfl) (by first | rfl | decide +kernel) (by k_is) (by k_is) (by k_is) (by k_is) (by decide) (by rfl) (by rfl) (by rfl) (by rfl) (by decide +kernel) (by first | boot_by_name | rfl | kernel_rfl) ?_
  intro so h2 F2 N2 l2
  refine super_method_bi (id := "list.__len__") (ty := "wrapper_descriptor") (getid := "wrapper_descriptor.__get__") (X'.keeps F2.keep) (inst_pile (N2 _ (.tail _ (.head _))).1 (N2 _ (.tail _ (.tail _ (.head _)))).1) (N2 _ (.head _)).1 (by kernel_rfl) type_len (by rw [typeLookup_type, builtinLookup_eq_fast]; kernel_rfl) (by decide) (o := boundO "method-wrapper" "list.__len__" p) ?_ ?_
  · intro A' s' Q' E' hs hq
    obtain ⟨hh, gg, dd, tt, oo⟩ := s'
    cases hs
    exact get_len (X'.keeps F2.keep) (inst_pile (N2 _ (.tail _ (.head _))).1 (N2 _ (.tail _ (.tail _ (.head _)))).1) hq
  have F3 := F2.push (boundO "method-wrapper" "list.__len__" p)
  have N3 := N2.push F2 (boundO "method-wrapper" "list.__len__" p)
  refine callWith_b0 (.inl rfl) (N3 _ (.head _)).1 (call_bound (N3 _ (.head _)).1 (.inl rfl) (fun a => Code.quiet_builtin a (by decide +kernel)) entry_list_len (fun q => wpAny_of_eq (check_len _) q) (fun A' => run_len (N3 _ (.tail _ (.tail _ (.head _)))).1 ⟨_, rfl, ?_⟩))
  refine ret _ _ _ (fun b o e => ?_)
  exact keep_back hg H F3 (fun q hq => N3 q (.tail _ (.tail _ hq))) b o e
end
end Mine
end
-- part C9
section
open PySem PySem.W PyProof.Rows PySem.Calls PySem.Builtin
set_option maxRecDepth 100000
set_option maxHeartbeats 8000000
namespace Mine
section
local macro_rules | `(tactic| walk_at "getMethod ref") => `(tactic| refine Halt.out ?_)
local macro_rules | `(tactic| walk_at "call ref") => `(tactic| refine Halt.out ?_)
local macro_rules | `(tactic| walk_at "ite") => `(tactic| refine Halt.out ?_)
theorem pop_spec {w : World} {dp un : Nat} {A : Around} {s : Shared} {Q E : Value → Shared → Prop} {p dx : Addr} {vs : List Value} {ep : Nat} {od : Obj} (H : Here w [(p, pileO dx vs ep), (dx, od)] dp un A s.heap)
    (hd : dp + 2 < recursionLimit) (hu : un + 32 < cLine) (hlk : lookIn "part_count" od = some none) (hz : vs.length ≤ 1000) (hne : dx ≠ p)
    (ret0 : vs = [] → ∀ h' tk' D t1 t2, Keep s.heap h' → h'.get? D = some { cls := .type "tuple", data := .seq #[.str "" t1, .str "" t2] } → Q (.ref D) { s with heap := h', toks := tk' })
    (ret : ∀ us x, vs = us ++ [x] → ∀ h' tk' ep', KeepBut [p] s.heap h' → h'.get? p = some (pileO dx us ep') → Q x { s with heap := h', toks := tk' }) :
    wpAny (model PySem.Challenge.rw_nb0047_01.row.prog w) A (call (.ref 54) [.ref p]) Q E s := by
  have X := H.in
  revert X
  k_fill
  intro X
  w_on
  refine enterS H [("self", .ref p)] (by omega) (by k_is) (by k_is) (BindsTo.of_eq rfl) (locs rfl) rfl rfl rfl (by decide) ?_
  intro p' loose mean mg mb gd A₀ base g outer L' h₁ hg hL B' F' X' N' T'
  k_steps
  refine Halt.mk ?_
  rename Fr _ _ _ _ => F1
  rename News _ _ _ _ => N1
  refine method_p (X'.keeps F1.keep) (inst_pile (N1 _ (.head _)).1 (N1 _ (.tail _ (.head _))).1) (f_count _) (f_fn _ (by decide)) hlk ?_
  k_steps
  refine Halt.mk ?_
  rename Fr _ _ _ _ => F2
  rename News _ _ _ _ => N2
  refine count_spec (.mk B' F2 X' T' N2 rfl) (by omega) (by omega) ?_
  intro h3 tk3 t3 k3
  replace F2 := Fr.keepK F2 k3
  replace N2 := News.keepK N2 k3
  k_steps
  refine Halt.mk ?_
  rcases List.eq_nil_or_concat vs with hv | ⟨us, x, hv⟩
  · subst hv
    rw [if_pos (show ((([] : List Value).length : Int) == 0) = true from rfl)]
    k_steps
    rename Fr _ _ _ _ => F4
    rename News _ _ _ _ => N4
    refine ret0 rfl _ _ _ _ _ (keep_back hg H F4 fun q hq => N4 q (.tail _ hq)) (N4 _ (.head _)).1
  · rw [List.concat_eq_append] at hv
    subst hv
    rw [if_neg (by simp; omega)]
    refine wpAt_of_wpAny (wpAny_execs_nil ?_)
    dsimp only
    refine ks_wpAt_execs_cons (ks_wpAt_Return_some (ks_wpAt_MethodCall ?_))
    refine ks_node F2 X' N2 T' (by k_is) (by rfl) (by rfl) (inst_pile (N2 _ (.head _)).1 (N2 _ (.tail _ (.head _))).1) (by k_is) (by rfl) (by first | rfl | decide +kernel) (by k_is) (by k_is) (by k_is) (by k_is) (by decide) (by rfl) (by rfl) (by rfl) (by rfl) (by decide +kernel) (by first | boot_by_name | rfl | kernel_rfl) ?_
    intro so h4 F4 N4 l4
    refine super_method_bi (id := "list.pop") (ty := "method_descriptor") (getid := "method_descriptor.__get__") (X'.keeps F4.keep) (inst_pile (N4 _ (.tail _ (.head _))).1 (N4 _ (.tail _ (.tail _ (.head _)))).1) (N4 _ (.head _)).1 (by kernel_rfl) F.type_list_pop (by rw [typeLookup_type, builtinLookup_eq_fast]; kernel_rfl) (by decide) (o := boundO "builtin_function_or_method" "list.pop" p) ?_ ?_
    · intro A' s' Q' E' hs hq
      obtain ⟨hh, gg, dd, tt, oo⟩ := s'
      cases hs
      exact get_pop (X'.keeps F4.keep) (inst_pile (N4 _ (.tail _ (.head _))).1 (N4 _ (.tail _ (.tail _ (.head _)))).1) hq
    have F5 := F4.push (boundO "builtin_function_or_method" "list.pop" p)
    have N5 := N4.push F4 (boundO "builtin_function_or_method" "list.pop" p)
    refine callWith_b0 (.inr rfl) (N5 _ (.head _)).1 (call_bound (N5 _ (.head _)).1 (.inr rfl) (fun a => Code.quiet_builtin a (by decide +kernel)) F.entry_list_pop (fun q => check_pop (X'.keeps F5.keep) (inst_pile (N5 _ (.tail _ (.tail _ (.head _)))).1 (N5 _ (.tail _ (.tail _ (.tail _ (.head _))))).1) q) (fun A' => run_pop (N5 _ (.tail _ (.tail _ (.head _)))).1 (by simp at hz; omega) ?_))
    intro h6 ep6 ho6 hs6
    refine ⟨_, rfl, ?_⟩
    have lp := l4 _ (.head _)
    obtain ⟨F6, N6⟩ := upd_led (pre := [_, _]) (post := [_]) F5 N5 hs6 ho6 (List.forall_mem_cons.mpr ⟨Ne.symm (Nat.ne_of_lt (Heap.lt_size (N4 _ (.tail _ (.head _))).1)), List.forall_mem_cons.mpr ⟨Ne.symm (Nat.ne_of_lt lp), fun _ h => nomatch h⟩⟩) (List.forall_mem_cons.mpr ⟨hne, fun _ h => nomatch h⟩)
    refine ret us x rfl _ _ ep6 (fun b o nb e => ?_) ho6
    by_cases hb : b = dx
    · subst hb
      have := H.led (_, od) (.tail _ (.head _))
      rw [e] at this
      cases this
      exact (N6 _ (.tail _ (.tail _ (.tail _ (.head _))))).1
    · exact F6.keep b o (by rw [hg]; refine hideAll_get _ e ?_; simpa using ⟨by simpa using nb, hb⟩)
local macro_rules | `(tactic| walk_at "setAttr ref") => `(tactic| refine Halt.out ?_)
theorem init_spec {w : World} {dp un : Nat} {A : Around} {s : Shared} {Q E : Value → Shared → Prop} {p dx : Addr} {ep : Nat} {v : Value} (H : Here w [(p, pileO dx [] ep), (dx, emptyDict)] dp un A s.heap)
    (hd : dp + 2 < recursionLimit) (hu : un + 32 < cLine) (hne : dx ≠ p)
    (ret : ∀ h' tk' ep' hs tk n, KeepBut [p, dx] s.heap h' → h'.get? p = some (pileO dx [] ep') → h'.get? dx = some (isD hs tk v n) → Q .none { s with heap := h', toks := tk' }) :
    wpAny (model PySem.Challenge.rw_nb0047_01.row.prog w) A (call (.ref 31) [.ref p, v]) Q E s := by
  have X := H.in
  revert X
  k_fill
  intro X
  w_on
  refine enterS H [("self", .ref p), ("initial_size", v)] (by omega) (by k_is) (by k_is) (binds_K X rfl (by k_is) rfl rfl rfl) (locs rfl) rfl rfl rfl (by decide) ?_
  intro p' loose mean mg mb gd A₀ base g outer L' h₁ hg hL B' F' X' N' T'
  refine ks_wpAt_execs_cons (wpAt_of_wpAny ?_)
  k_steps
  refine Halt.mk ?_
  rename Fr _ _ _ _ => F1
  rename News _ _ _ _ => N1
  refine set_is (es := []) (n := 0) (X'.keeps F1.keep) (inst_pile (N1 _ (.head _)).1 (N1 _ (.tail _ (.head _))).1) rfl rfl (Nat.le_of_ble_eq_true rfl) ?_
  intro h2 ho2 hs2
  obtain ⟨F2, N2⟩ := upd_led (pre := [_]) (post := []) F1 N1 hs2 ho2 (List.forall_mem_cons.mpr ⟨Ne.symm hne, fun _ h => nomatch h⟩) (fun _ h => nomatch h)
  dsimp only
  refine ks_wpAt_execs_cons (ks_wpAt_Expr_any (ks_wpAt_MethodCall ?_))
  refine ks_node F2 X' N2 T' (by k_is) (by rfl) (by rfl) (inst_pile (N2 _ (.head _)).1 (N2 _ (.tail _ (.head _))).1) (by k_is) (by rfl) (by first | rfl | decide +kernel) (by k_is) (by k_is) (by k_is) (by k_is) (by decide) (by rfl) (by rfl) (by rfl) (by rfl) (by decide +kernel) (by first | boot_by_name | rfl | kernel_rfl) ?_
  intro so h4 F4 N4 l4
  refine super_method_bi (id := "list.__init__") (ty := "wrapper_descriptor") (getid := "wrapper_descriptor.__get__") (X'.keeps F4.keep) (inst_pile (N4 _ (.tail _ (.head _))).1 (N4 _ (.tail _ (.tail _ (.head _)))).1) (N4 _ (.head _)).1 (by kernel_rfl) type_init (by rw [typeLookup_type, builtinLookup_eq_fast]; kernel_rfl) (by decide) (o := boundO "method-wrapper" "list.__init__" p) ?_ ?_
  · intro A' s' Q' E' hs hq
    obtain ⟨hh, gg, dd, tt, oo⟩ := s'
    cases hs
    exact get_init (X'.keeps F4.keep) (inst_pile (N4 _ (.tail _ (.head _))).1 (N4 _ (.tail _ (.tail _ (.head _)))).1) hq
  have F5 := F4.push (boundO "method-wrapper" "list.__init__" p)
  have N5 := N4.push F4 (boundO "method-wrapper" "list.__init__" p)
  refine callWith_b0 (.inl rfl) (N5 _ (.head _)).1 (call_bound (N5 _ (.head _)).1 (.inl rfl) (fun a => Code.quiet_builtin a (by decide +kernel)) F.entry_list_init (fun q => wpAny_of_eq (check_init _) q) (fun A' => run_init (N5 _ (.tail _ (.tail _ (.head _)))).1 ?_))
  intro h6 ep6 ho6 hs6
  refine ⟨_, rfl, ?_⟩
  have lp := l4 _ (.head _)
  obtain ⟨F6, N6⟩ := upd_led (pre := [_, _]) (post := [_]) F5 N5 hs6 ho6 (List.forall_mem_cons.mpr ⟨Ne.symm (Nat.ne_of_lt (Heap.lt_size (N4 _ (.tail _ (.head _))).1)), List.forall_mem_cons.mpr ⟨Ne.symm (Nat.ne_of_lt lp), fun _ h => nomatch h⟩⟩) (List.forall_mem_cons.mpr ⟨hne, fun _ h => nomatch h⟩)
  dsimp only
  refine wpAt_of_wpAny (wpAny_execs_nil ?_)
  exact ret _ _ ep6 _ _ _ (.of_hide (hg ▸ F6.keep)) ho6 (N6 _ (.tail _ (.tail _ (.tail _ (.head _))))).1
end
end Mine
end
-- part P6
section
open PySem PySem.W PyProof.Rows PySem.Calls PySem.Builtin
set_option maxRecDepth 100000
set_option maxHeartbeats 8000000
namespace Mine
theorem Here.under {w : World} {led : List (Addr × Obj)} {dp un : Nat} {A : Around} {h : Heap} {args : List Value} (H : Here w led dp un A h) : Here w led (dp + 1) (un + 1) (A.under (.builtin "type.__call__" ⟨.ref 94 :: args, []⟩)) h := by
  cases H with
  | mk B F X T N hk => exact .mk B F X T N hk
def makesL (K : Frag) : Bool := match K.lookup 94 with
  | some ⟨_, _, .cls cd, sl⟩ => !cd.abstract && !cd.hasDel && (sl.toList[4]?).join == some (.builtin "list.__new__") && cd.mro == [.ref 94, .type "list", .type "object"] &&
      specialIn K (.ref 94) "__call__" == some (some (.builtin "type.__call__")) && instIn K (.ref 94) (.type "type") == some true
  | _ => false
theorem f_makes (P : Params) : makesL (Mine.hd.heap_39 P) = true := by kernel_rfl
theorem new_kind : builtinKind "list.__new__" = some .builtinFn := by decide +kernel
theorem new_split : splitId "list.__new__" = some ("list", "__new__") := by decide +kernel
theorem new_args (c a : Value) : argsOk "list.__new__" ⟨[c, a], []⟩ := by unfold argsOk; kernel_rfl
theorem f_self (P : Params) : subIn (Mine.hd.heap_39 P) (.ref 94) (.ref 94) = some true := by kernel_rfl
abbrev emptyPile (dx : Addr) : Obj := { cls := .ref 94, dict := some dx, data := .seq #[] }
theorem sig_new (v : Value) : (match Manifest.signature? "list.__new__" with | some sig => Bind.checkArgs "list.__new__" sig ⟨[.ref 94, v], []⟩ | x => pure ()) = pure () := by kernel_rfl
section
variable {prog : Program} {w : World} {A : Around} {R : Result → Shared → Prop} {h : Heap} {g : Array GenState} {d : Drawn} {t : Nat} {os : OsState}
theorem make_core_p {v : Value} (X : (Mine.hd.heap_39 w.params).In h)
    (hq : wpAny (model prog w) (A.under (.builtin "type.__call__" ⟨[.ref 94, v], []⟩)) (call (.ref 31) ([.ref (h.objs.size + 1)] ++ [v])) (fun r s' => r = .none ∧ R (.ok (.ret (.ref (h.objs.size + 1)))) s') (fun _ _ => False) ⟨(h.push emptyDict).push (emptyPile h.objs.size), g, d, t, os⟩) :
    codeAny (model prog w) A (.call (.ref 94) ⟨[v], []⟩) R ⟨h, g, d, t, os⟩ := by
  have e := f_makes w.params
  unfold makesL at e
  split at e
  · rename_i oc od cd sl ho
    simp only [Bool.and_eq_true, Bool.not_eq_true', beq_iff_eq] at e
    obtain ⟨⟨⟨⟨⟨e1, e2⟩, e3⟩, e4⟩, e5⟩, e6⟩ := e
    have hc : clsIn (Mine.hd.heap_39 w.params) 94 = some cd := by unfold clsIn; rw [ho]
    have hm : Looks (model prog w) h (mroOf (.ref 94)) cd.mro := (looks_clsIn X hc).andThen .now
    have hC := X _ _ ho
    have made : Looks (model prog w) h (Bind.madeBy (.ref 94)) (some "list.__new__") := by
      intro A Q E s k q
      unfold Bind.madeBy
      refine wpAny_bind (hm A _ E s k ?_)
      rw [e4, List.forIn_cons]
      refine wpAny_bind (wpAny_bind (wpAny_bind (wpAny_bind (wpAny_loadPart (k _ _ hC) (wpAny_pure ?_)))))
      dsimp only
      rw [← Array.getElem?_toList, e3]
      exact wpAny_pure (wpAny_pure (wpAny_pure q))
    have base : Looks (model prog w) h (Bind.staticBase (.ref 94)) (.ref 94) := by
      intro A Q E s k q
      unfold Bind.staticBase
      refine wpAny_bind (hm A _ E s k ?_)
      rw [e4, List.forIn_cons]
      exact wpAny_bind (wpAny_bind (wpAny_bind (made A _ E s k (wpAny_pure (wpAny_pure (wpAny_pure q))))))
    have call := looks_specialIn (M := model prog w) X e5
    have typ := looks_instIn (M := model prog w) X e6
    have subl := looks_subIn (M := model prog w) X (f_sublist _)
    refine codeAny_of_tree ?_
    show wpAny _ _ (callAny (.ref 94) _) _ _ _
    refine nd_load hC ?_
    show wpAny _ _ (callAny.viaDunder (.ref 94) _) _ _ _
    unfold callAny.viaDunder
    refine wpAny_bind (call.at ?_)
    dsimp only
    rw [tc_bind]
    refine wpAny_bind (wpAny_pure (wpAny_bind (wpAny_pure ?_)))
    refine wpAny_pure (a := Fin.again (.call (.builtin "type.__call__") ⟨[.ref 94, v], []⟩)) (And.intro rfl ?_)
    refine codeAny_call_builtin_at (Code.quiet_builtin _ (by decide +kernel)) entry_typeCall (check_slot tc_kind tc_split typ (tc_args _ _ _) ?_)
    unfold Builtin.«type.__call__»
    rw [e4] at hm
    repeat (first | simp only [Bool.false_eq_true, if_false] | with_reducible refine wpAny_call ?_ | lk)
    refine codeAny_call_builtin_code (Code.quiet_builtin _ (by decide +kernel)) ?_
    have ha := new_args (.ref 94) v
    simp only [argsOk] at ha
    simp only [checkBuiltinCall, new_kind, new_split]
    have here : Looks (model prog w) h (Bind.madeHere "list.__new__" (.ref 94)) () := base.andThen (made.andThen (Looks.of_pure (by simp only [Option.map_some, bne_self_eq_false, Bool.false_eq_true, if_false])))
    have fin : codeAny (model prog w) (A.under (Code.builtin "type.__call__" ⟨[.ref 94, v], []⟩)) (Code.builtin "list.__new__" ⟨[.ref 94, v], []⟩) (fun r s' => match r with
          | .ok (.ret x) => x = .ref (h.objs.size + 1) ∧ s' = ⟨(h.push emptyDict).push (emptyPile h.objs.size), g, d, t, os⟩
          | .ok _ => False
          | .error _ => False) ⟨h, g, d, t, os⟩ := by
      refine codeAny_builtin_stack F.entry_list_new rfl fun p st => ?_
      have hown := owner_list_new
      simp only [hown]
      refine wpAny_bind (ks_wpAny_isType_cls hC rfl ?_)
      refine wpAny_bind (subl.at ?_)
      refine wpAny_bind (wpAny_pure ?_)
      show wpAny _ _ (newDict >>= _) _ _ _
      refine wpAny_bind (wpAny_bind (wpAny_alloc (wpAny_pure ?_)))
      refine wpAny_bind ?_
      show wpAny _ _ (newObjAsIs _ _ _) _ _ _
      unfold newObjAsIs classHasDel
      refine wpAny_bind (wpAny_alloc (wpAny_bind (wpAny_bind (wpAny_load (Heap.get?_push_of_some _ (Heap.get?_push_of_some _ hC)) (wpAny_pure ?_)))))
      rw [e2]
      refine wpAny_pure (wpAny_pure ?_)
      refine And.intro ?_ rfl
      rw [Heap.size_push]
    refine wpAny_bind (ks_wpAny_isType_cls hC rfl ?_)
    refine wpAny_bind (subl.at ?_)
    refine wpAny_bind (base.at ?_)
    refine wpAny_bind (made.at ?_)
    dsimp only
    rw [if_neg (by simp)]
    refine wpAny_of_eq (sig_new v) ?_
    refine codeAny_mono fin fun r s' z => ?_
    rcases r with e | (x | _ | _ | _) <;> first | exact z.elim | skip
    obtain ⟨rfl, rfl⟩ := z
    dsimp only
    have k : ∀ b o, h.get? b = some o → ((h.push emptyDict).push (emptyPile h.objs.size)).get? b = some o := fun b o e => Heap.get?_push_of_some _ (Heap.get?_push_of_some _ e)
    have hx : ((h.push emptyDict).push (emptyPile h.objs.size)).get? (h.objs.size + 1) = some (emptyPile h.objs.size) := by heap_get
    have t1 : Looks (model prog w) ((h.push emptyDict).push (emptyPile h.objs.size)) (typeOf (.ref (h.objs.size + 1))) (.ref 94) := (Looks.ld hx).andThen .now
    have s1 := (looks_subIn (M := model prog w) X (f_self _)).keeps k
    have i1 := (looks_findIn (M := model prog w) X (f_init _)).keeps k
    have b1 := (bind_fn (M := model prog w) X (.ref (h.objs.size + 1)) (f_fn _ (f := 31) (by decide))).keeps k
    unfold isInstance callSpecial? specialOf
    repeat (first | with_reducible refine wpAny_mono hq ?_ ?_ | lk)
    rotate_left
    · exact fun _ _ z => z.elim
    intro r s' z
    obtain ⟨rfl, z⟩ := z
    exact wpAny_pure (wpAny_pure z)
  · cases e
end
theorem make_spec {w : World} {led : List (Addr × Obj)} {dp un : Nat} {A : Around} {s : Shared} {Q E : Value → Shared → Prop} {v : Value} (H : Here w led dp un A s.heap)
    (hd : dp + 4 < recursionLimit) (hu : un + 64 < cLine)
    (ret : ∀ h' tk' p dx ep hs tk n, Keep s.heap h' → s.heap.get? p = none → s.heap.get? dx = none → dx < p → (∀ q ∈ led, q.1 < dx) → h'.get? p = some (pileO dx [] ep) → h'.get? dx = some (isD hs tk v n) → Q (.ref p) { s with heap := h', toks := tk' }) :
    wpAny (model PySem.Challenge.rw_nb0047_01.row.prog w) A (call (.ref 94) [v]) Q E s := by
  obtain ⟨h, g, d, t, os⟩ := s
  refine wpAny_call (make_core_p H.in ?_)
  cases H with
  | mk B F X T N hk =>
    dsimp only at N F
    have N2 := (N.push F emptyDict).push (F.push _) (emptyPile h.objs.size)
    rw [Heap.size_push] at N2
    have hlt : ∀ q ∈ led, q.1 < h.objs.size := fun q hq => Heap.lt_size (N q hq).1
    have none_of : ∀ b, h.objs.size ≤ b → h.get? b = none := fun b hb => by
      cases q : h.get? b with
      | none => rfl
      | some o => exact absurd (Nat.lt_of_lt_of_le (Heap.lt_size q) hb) (Nat.lt_irrefl _)
    refine init_spec (ep := 0) (Here.under (args := [v]) (.mk B ((F.push _).push _) X T (fun q hq => N2 q ?_) hk)) (by omega) (by omega) (Nat.ne_of_lt (Nat.lt_succ_self _)) ?_
    · rcases List.mem_cons.mp hq with rfl | hq
      · exact .head _
      · exact .tail _ (by rcases List.mem_cons.mp hq with rfl | hq; exact .head _; cases hq)
    · intro h' tk' ep' hs tk n kb h1 h2
      refine ⟨rfl, ret h' tk' _ _ ep' hs tk n (fun b o e => kb b o ?_ (Heap.get?_push_of_some _ (Heap.get?_push_of_some _ e))) (none_of _ (Nat.le_succ _)) (none_of _ (Nat.le_refl _)) (Nat.lt_succ_self _) hlt h1 h2⟩
      have := Heap.lt_size e
      simp only [List.mem_cons, List.not_mem_nil, or_false, not_or]
      exact ⟨Nat.ne_of_lt (Nat.lt_succ_of_lt this), Nat.ne_of_lt this⟩
end Mine
end
-- part C10
section
open PySem PySem.W PyProof.Rows PySem.Calls
set_option maxRecDepth 100000
set_option maxHeartbeats 8000000
namespace Mine
section
local macro_rules | `(tactic| walk_at "setItem") => `(tactic| refine Halt.out ?_)
local macro_rules | `(tactic| walk_at "setAttr ref") => `(tactic| refine Halt.out ?_)
theorem reset_none {w : World} {dp un : Nat} {A : Around} {s : Shared} {Q E : Value → Shared → Prop} {p dx : Addr} {vs : List Value} {ep : Nat} {hs0 : Int} {tk0 : Tok} {v0 : Value} {n0 : Nat} (H : Here w [(p, pileO dx vs ep), (dx, isD hs0 tk0 v0 n0)] dp un A s.heap)
    (hd : dp + 1 < recursionLimit) (hu : un + 16 < cLine) (hne : dx ≠ p) (hz : vs.length ≤ 100)
    (ret : ∀ h' tk' ep' t, KeepBut [p, dx] s.heap h' → h'.get? p = some (pileO dx [] ep') → h'.get? dx = some (isD hs0 tk0 (.int 0 t) n0) → Q .none { s with heap := h', toks := tk' }) :
    wpAny (model PySem.Challenge.rw_nb0047_01.row.prog w) A (call (.ref 76) [.ref p]) Q E s := by
  have X := H.in
  revert X
  k_fill
  intro X
  w_on
  refine enterP H [("self", .ref p), ("startval", .none)] (by omega) (by k_is) (by k_is) (binds_K X rfl (by k_is) rfl rfl rfl) (locs rfl) rfl rfl rfl (by decide) ?_
  intro p' loose mean mg mb gd A₀ base g outer L' h₁ hg hL B' F' X' N' T'
  k_steps
  refine Halt.mk ?_
  rename Fr _ _ _ _ => F3
  rename News _ _ _ _ => N3
  rename_i l0 h0 l1 h4
  have F4 := Fr.push F3 { cls := .type "slice", data := .fields #[.none, .none, .none] }
  have N4 : News g L' (h4.push { cls := .type "slice", data := .fields #[.none, .none, .none] }) _ := N3.grown fun _ _ e => Heap.get?_push_of_some _ e
  refine setslice_pile (s := ⟨_, _, _, _, _⟩) (new := []) (X'.keeps F4.keep) (inst_pile (N4 _ (.tail _ (.head _))).1 (N4 _ (.tail _ (.tail _ (.head _)))).1) (Heap.IsSliceOf.new ..) .none .none ⟨_, (N4 _ (.head _)).1, rfl, _, rfl⟩ (neN (by omega)) ?_ (by omega) (by decide)
  intro h5 ep5 ho5 hs5
  obtain ⟨F5, N5⟩ := upd_led (pre := [_]) (post := [_]) F4 N4 hs5 ho5 (List.forall_mem_cons.mpr ⟨neN (by dsimp only; omega), fun _ h => nomatch h⟩) (List.forall_mem_cons.mpr ⟨hne, fun _ h => nomatch h⟩)
  clear F4 N4 F3 N3
  dsimp only
  k_steps
  refine Halt.mk ?_
  rename Fr _ _ _ _ => F6
  rename News _ _ _ _ => N6
  have e2 : vs.take ((none : Option Int).elim 0 (clipAt vs.length)) ++ [] ++ vs.drop (max ((none : Option Int).elim 0 (clipAt vs.length)) ((none : Option Int).elim vs.length (clipAt vs.length))) = [] := by
    simp [Option.elim]
  rw [e2] at N6
  refine set_is (X'.keeps F6.keep) (inst_pile (N6 _ (.tail _ (.head _))).1 (N6 _ (.tail _ (.tail _ (.head _)))).1) rfl rfl (Nat.le_of_ble_eq_true rfl) ?_
  intro h7 ho7 hs7
  obtain ⟨F7, N7⟩ := upd_led (pre := [_, _]) (post := []) F6 N6 hs7 ho7 (List.forall_mem_cons.mpr ⟨neN (by dsimp only; omega), List.forall_mem_cons.mpr ⟨Ne.symm hne, fun _ h => nomatch h⟩⟩) (fun _ h => nomatch h)
  dsimp only
  refine wpAny_execs_nil ?_
  exact ret h7 _ ep5 _ (.of_hide (hg ▸ F7.keep)) (N7 _ (.tail _ (.head _))).1 (N7 _ (.tail _ (.tail _ (.head _)))).1
theorem reset_hand {w : World} {dp un : Nat} {A : Around} {s : Shared} {Q E : Value → Shared → Prop} {p dx a : Addr} {vs us : List Value} {ep : Nat} {hs0 : Int} {tk0 : Tok} {v0 : Value} {n0 : Nat} (H : Here w [(p, pileO dx vs ep), (dx, isD hs0 tk0 v0 n0)] dp un A s.heap)
    (hd : dp + 1 < recursionLimit) (hu : un + 16 < cLine) (hne : dx ≠ p) (hz : vs.length ≤ 100) (ha : s.heap.IsList a us.toArray) (hap : a ≠ p) (had : a ≠ dx) (hus : us.length ≤ 100)
    (ret : ∀ h' tk' ep' t, KeepBut [p, dx] s.heap h' → h'.get? p = some (pileO dx us ep') → h'.get? dx = some (isD hs0 tk0 (.int 0 t) n0) → Q .none { s with heap := h', toks := tk' }) :
    wpAny (model PySem.Challenge.rw_nb0047_01.row.prog w) A (call (.ref 76) [.ref p, .ref a]) Q E s := by
  have X := H.in
  revert X
  k_fill
  intro X
  w_on
  refine enterP H [("self", .ref p), ("startval", .ref a)] (by omega) (by k_is) (by k_is) (binds_K X rfl (by k_is) rfl rfl rfl) (locs rfl) rfl rfl rfl (by decide) ?_
  intro p' loose mean mg mb gd A₀ base g outer L' h₁ hg hL B' F' X' N' T'
  k_steps
  refine Halt.mk ?_
  rename Fr _ _ _ _ => F3
  rename News _ _ _ _ => N3
  obtain ⟨oa, ha1, ha2, ea, ha3⟩ := ha
  have hag : g.get? a = some oa := by rw [hg]; exact hideAll_get _ ha1 (by simpa using ⟨hap, had⟩)
  have F4 := Fr.push F3 { cls := .type "slice", data := .fields #[.none, .none, .none] }
  have N4 : News g L' (h₁.push { cls := .type "slice", data := .fields #[.none, .none, .none] }) _ := N3.grown fun _ _ e => Heap.get?_push_of_some _ e
  refine setslice_pile (s := ⟨_, _, _, _, _⟩) (new := us) (X'.keeps F4.keep) (inst_pile (N4 _ (.head _)).1 (N4 _ (.tail _ (.head _))).1) (Heap.IsSliceOf.new ..) .none .none ⟨_, F4.keep _ _ hag, ha2, ea, ha3⟩ (Ne.symm hap) ?_ (by omega) (by omega)
  intro h5 ep5 ho5 hs5
  obtain ⟨F5, N5⟩ := upd_led (pre := []) (post := [_]) F4 N4 hs5 ho5 (fun _ h => nomatch h) (List.forall_mem_cons.mpr ⟨hne, fun _ h => nomatch h⟩)
  clear F4 N4 F3 N3
  dsimp only
  k_steps
  refine Halt.mk ?_
  rename Fr _ _ _ _ => F6
  rename News _ _ _ _ => N6
  have e2 : vs.take ((none : Option Int).elim 0 (clipAt vs.length)) ++ us ++ vs.drop (max ((none : Option Int).elim 0 (clipAt vs.length)) ((none : Option Int).elim vs.length (clipAt vs.length))) = us := by
    simp [Option.elim]
  rw [e2] at N6
  refine set_is (X'.keeps F6.keep) (inst_pile (N6 _ (.head _)).1 (N6 _ (.tail _ (.head _))).1) rfl rfl (Nat.le_of_ble_eq_true rfl) ?_
  intro h7 ho7 hs7
  obtain ⟨F7, N7⟩ := upd_led (pre := [_]) (post := []) F6 N6 hs7 ho7 (List.forall_mem_cons.mpr ⟨Ne.symm hne, fun _ h => nomatch h⟩) (fun _ h => nomatch h)
  dsimp only
  refine wpAny_execs_nil ?_
  exact ret h7 _ ep5 _ (.of_hide (hg ▸ F7.keep)) (N7 _ (.head _)).1 (N7 _ (.tail _ (.head _))).1
end
end Mine
end
-- part G1
section
open PySem PySem.W PyProof.Rows PySem.Calls PySem.Builtin
set_option maxRecDepth 100000
set_option maxHeartbeats 8000000
namespace Mine
section
variable {prog : Program} {w : World} {A : Around} {E : Value → Shared → Prop} {s : Shared} {p dx : Addr} {vs : List Value} {ep : Nat} {od : Obj}
abbrev liO (l : Addr) : Obj := { cls := .type "list_iterator", data := .fields #[.ref l, .int 0 0] }
theorem iter_pile {Q : Value → Shared → Prop} (X : (Mine.hd.heap_39 w.params).In s.heap) (I : InstAt s.heap p (pileO dx vs ep) 94 (some od))
    (hQ : Q (.ref s.heap.objs.size) { s with heap := s.heap.push (liO p) }) : wpAny (model prog w) A (pyIter (.ref p)) Q E s := by
  have L0 := I.type (M := model prog w)
  have L1 := looks_findIn (M := model prog w) X (f_iter _)
  unfold pyIter specialOf
  refine wpAny_bind (wpAny_bind (L0.here (L1.here ?_)))
  dsimp only
  simp only [callSpecialIfBoundUnlessNone?, bindSpecialIfBound?, specialOf]
  refine wpAny_bind (wpAny_holding (wpAny_bind (wpAny_bind (wpAny_bind (L0.here (L1.here ?_))))))
  simp only [slot_list_iter.bind]
  refine wpAny_bind (wpAny_askSetting (wpAny_ite ?_))
  have fin : wpAny (model prog w) A (call (.builtin "list.__iter__") [.ref p]) (fun it s' => it = .ref s.heap.objs.size ∧ s' = { s with heap := s.heap.push (liO p) }) E s := by
    refine call_list (n := "__iter__") (.inr (by decide +kernel)) (by decide +kernel) (by decide +kernel) entry_list_iter X I (args_list_iter _) ?_
    show wpAny _ _ (do ret (← newFields "list_iterator" [.ref p, rawInt 0])) _ _ s
    exact wpAny_bind (wpAny_newObj_type (wpAny_pure ⟨_, rfl, rfl, rfl⟩))
  have hT : ({ s with heap := s.heap.push (liO p) } : Shared).TypeIs (.ref s.heap.objs.size) "list_iterator" := ⟨_, Heap.get?_push_size _ rfl, rfl⟩
  split
  · refine wpAny_bind (wpAny_pure (wpAny_pure (wpAny_mono (Q := fun x s' => x = some (.ref s.heap.objs.size) ∧ s' = { s with heap := s.heap.push (liO p) }) (E := E) ?_ (fun x s' h' => ?_) fun _ _ z => z)))
    · simp only [builtin_beq_none, Bool.false_eq_true, if_false]
      exact wpAny_bind (wpAny_mono fin (fun v s' h' => wpAny_pure ⟨congrArg some h'.1, h'.2⟩) fun _ _ h' => h')
    · obtain ⟨rfl, rfl⟩ := h'
      exact wpAny_bind (wpAny_bind (wpAny_typeOf hT (wpAny_of_eq slot_listiter_next.lookup (wpAny_pure hQ))))
  · refine wpAny_tryCatch (wpAny_bind (wpAny_pure (wpAny_pure (wpAny_mono (Q := fun x s' => x = some (.ref s.heap.objs.size) ∧ s' = { s with heap := s.heap.push (liO p) }) (E := E) ?_ (fun x s' h' => ?_) fun _ _ z => z))))
    · simp only [builtin_beq_none, Bool.false_eq_true, if_false]
      exact wpAny_bind (wpAny_mono fin (fun v s' h' => wpAny_pure ⟨congrArg some h'.1, h'.2⟩) fun _ _ h' => h')
    · obtain ⟨rfl, rfl⟩ := h'
      exact wpAny_bind (wpAny_bind (wpAny_typeOf hT (wpAny_of_eq slot_listiter_next.lookup (wpAny_pure hQ))))
theorem next_item {it : Addr} {i : Nat} {x : Value} {Q : Option Value → Shared → Prop} (hit : s.heap.IsListIter it p i) (hl : s.heap.get? p = some (pileO dx vs ep)) (hx : vs[i]? = some x)
    (hQ : ∀ h', h'.IsListIter it p (i + 1) → Heap.SameBut it s.heap h' → Q (some x) { s with heap := h' }) : wpAny (model prog w) A (pyNext (.ref it)) Q E s := by
  obtain ⟨o, ho, hc, hd⟩ := id hit
  unfold pyNext
  refine wpAny_bind (wpAny_attempt (wpAny_callSpecial?_slot (name := Str.ofString "__next__") hit.typeIs slot_listiter_next (wpAny_call_entry slot_listiter_next hit.typeIs entry_listiter_next ?_ (args_listiter_next _))))
  show wpAny _ _ (field (.ref it) 0 >>= _) _ _ s
  refine wpAny_bind (wpAny_field ho hd (x := .ref p) rfl ?_)
  show wpAny _ _ (if (Value.ref p == Value.none) = true then _ else _) _ _ s
  rw [if_neg (show ¬ ((Value.ref p == Value.none) = true) from Bool.false_ne_true)]
  show wpAny _ _ (field (.ref it) 1 >>= _) _ _ s
  refine wpAny_bind (wpAny_field ho hd (x := .int i 0) rfl ?_)
  show wpAny _ _ (seqItems? (.ref p) >>= _) _ _ s
  refine wpAny_bind (wpAny_seqItems hl rfl ?_)
  have hx' : vs.toArray[i]? = some x := by simpa using hx
  simp only [Int.toNat_natCast, hx']
  refine wpAny_bind (wpAny_setField ho hd (by simp) (wpAny_pure ⟨x, rfl, wpAny_pure (hQ _ ?_ (Heap.SameBut.update ..))⟩))
  exact ⟨_, Heap.get?_update_self _ ho (Obj.isFreed_of_fields (Obj.data_mapFields hd _)), (Obj.cls_mapFields ..).trans hc, by rw [Obj.data_mapFields hd]; simp [rawInt]⟩
theorem next_end {it : Addr} {i : Nat} {Q : Option Value → Shared → Prop} (hh : A.handled = none) (hit : s.heap.IsListIter it p i) (hl : s.heap.get? p = some (pileO dx vs ep)) (hx : vs[i]? = none)
    (hQ : ∀ h', Heap.ExtBut it s.heap h' → Q none { s with heap := h' }) : wpAny (model prog w) A (pyNext (.ref it)) Q E s := by
  obtain ⟨o, ho, hc, hd⟩ := id hit
  unfold pyNext
  refine wpAny_bind (wpAny_attempt (wpAny_callSpecial?_slot (name := Str.ofString "__next__") hit.typeIs slot_listiter_next (wpAny_call_entry slot_listiter_next hit.typeIs entry_listiter_next ?_ (args_listiter_next _))))
  show wpAny _ _ (field (.ref it) 0 >>= _) _ _ s
  refine wpAny_bind (wpAny_field ho hd (x := .ref p) rfl ?_)
  show wpAny _ _ (if (Value.ref p == Value.none) = true then _ else _) _ _ s
  rw [if_neg (show ¬ ((Value.ref p == Value.none) = true) from Bool.false_ne_true)]
  show wpAny _ _ (field (.ref it) 1 >>= _) _ _ s
  refine wpAny_bind (wpAny_field ho hd (x := .int i 0) rfl ?_)
  show wpAny _ _ (seqItems? (.ref p) >>= _) _ _ s
  refine wpAny_bind (wpAny_seqItems hl rfl ?_)
  have hx' : vs.toArray[i]? = none := by simpa using hx
  simp only [Int.toNat_natCast, hx']
  refine wpAny_bind (wpAny_rule (wpAny_bind (wpAny_setField ho hd (by simp) ?_)))
  show wpAny _ _ (newExc (.type "StopIteration") [] >>= _) _ _ _
  refine wpAny_bind ?_
  simp only [newExc, newTuple]
  refine wpAny_bind (wpAny_newObj_type ?_ (by size_fits))
  refine wpAny_bind (m := firstArgMember _ _) (wpAny_of_eq (a := Value.none) (by first | rfl | (simp only [firstArgMember]; rfl)) ?_)
  refine wpAny_newObj_type ?_ (by size_fits)
  simp only [raiseNew]
  refine wpAny_bind (wpAny_handled ?_)
  rw [show A.in1.handled = none from hh]
  refine wpAny_bind (wpAny_pure (wpAny_throw ?_))
  refine wpAny_bind (wpAny_isInstance (T := "StopIteration") (b := true) ⟨_, Heap.get?_push_size _ rfl, rfl⟩ isSubtype_stop ?_)
  exact wpAny_pure (hQ _ (((Heap.SameBut.update ..).extBut.push _).push _))
end
theorem walks_pile {prog : Program} {w : World} {A : Around} (hh : A.handled = none) (I p dx : Addr) (ep : Nat) (hne : p ≠ I) (vs : List Value) (Ts : Nat → Addr) (vals : Nat → Array Value)
    (hit : ∀ j, j < vs.length → vs[j]? = some (.ref (Ts j))) (hTI : ∀ j, j < vs.length → Ts j ≠ I) :
    WalksU prog w A I (I :: p :: (List.range vs.length).map Ts) [I] vs.length (fun j v => j < vs.length ∧ v = vals j)
      (fun j h => h.IsListIter I p j ∧ h.get? p = some (pileO dx vs ep) ∧ ∀ k, k < vs.length → h.IsTuple (Ts k) (vals k))
      (fun j T h => (j < vs.length ∧ T = Ts j) ∧ h.IsListIter I p (j + 1) ∧ h.get? p = some (pileO dx vs ep) ∧ ∀ k, k < vs.length → h.IsTuple (Ts k) (vals k)) where
  sub := fun b hb => by simp at hb; simp [hb]
  frame := fun _ _ _ st hk => ⟨st.1.at fun o e => hk I (by simp) o e, hk p (by simp) _ st.2.1,
    fun k hk' => (st.2.2 k hk').at fun o e => hk (Ts k) (List.mem_cons_of_mem _ (List.mem_cons_of_mem _ (List.mem_map.mpr ⟨k, List.mem_range.mpr hk', rfl⟩))) o e⟩
  item := fun i s Q E hi st hQ => by
    refine next_item st.1 st.2.1 (x := .ref (Ts i)) (hit i hi) fun h' hit' hs' => ?_
    have tup : ∀ k, k < vs.length → h'.IsTuple (Ts k) (vals k) := fun k hk' => (st.2.2 k hk').extBut hs'.extBut (hTI k hk')
    exact hQ (Ts i) (vals i) h' s.toks ⟨hi, rfl⟩ (tup i hi) ⟨⟨hi, rfl⟩, hit', hs'.extBut _ _ hne st.2.1, tup⟩ fun b o hb e => hs'.extBut b o (fun h => hb (by simp [h])) e
  go := fun _ _ _ _ _ s Q _ hm hQ => wpAny_letOwnedTupleGo_listiter hm.2.1 (hQ s.heap hm.2 fun _ _ _ e => e)
  apart := fun j T _ hm hmem => by
    rcases List.mem_cons.mp hmem with e | e
    · exact hTI j hm.1.1 (hm.1.2 ▸ e)
    · cases e
  done := fun s Q E st hQ => next_end hh st.1 st.2.1 (by simp) fun h' he' => hQ h' s.toks fun b o hb e => he' b o (fun h => hb (by simp [h])) e
  self := fun _ _ _ _ st hQ => wpAny_pyIter_listiter st.1 hQ
end Mine
end
-- part G2
section
open PySem PySem.W PyProof.Rows PySem.Calls PySem.Builtin
set_option maxRecDepth 100000
set_option maxHeartbeats 8000000
namespace Mine
/-- a code's table: empty, or with the one generator expression's code -/
def TabOk (pos : Pos) (ps : Array Value) : Prop := ps = #[] ∨ ∃ c' : Addr, ps = #[rawInt pos.line, rawInt pos.col, .ref c']
theorem among_one (pos : Pos) (c' : Addr) : codeAmong pos [rawInt pos.line, rawInt pos.col, .ref c'] = some (.ref c') := by
  simp [codeAmong, rawInt]
section
variable {M : Model} {A : Around} {E : Value → Shared → Prop} {s : Shared}
theorem gen_code {env : Env} {c P : Addr} {ps : Array Value} {pos : Pos} {qualname : Str} {scope : Scope} {Q : Value → Shared → Prop} (hc : env.code = .ref c) (H : CodeHd s.heap c P) (hP : s.heap.get? P = some (tabObj ps)) (ok : TabOk pos ps)
    (hQ : ∀ code h' tk ps', Heap.ExtBut P s.heap h' → s.heap.objs.size ≤ h'.objs.size → h'.get? P = some (tabObj ps') → TabOk pos ps' → Q code { s with heap := h', toks := tk }) : wpAny M A (genexprCode env pos qualname scope) Q E s := by
  rcases ok with rfl | ⟨c', rfl⟩
  · refine wpAny_genexprCodeX hc (H.code hP trivial) (H.tab hP) rfl fun c' h' tk hx hge hlt _ _ htab _ => ?_
    exact hQ _ h' tk _ hx (Nat.le_trans hge (Nat.le_of_lt hlt)) htab.2 (.inr ⟨c', rfl⟩)
  · obtain ⟨o, vs, file, tf, flags, tg, inF, text, tt, e1, _, e3, _, f3, f4, f5, f6, f7, f11⟩ := H
    unfold genexprCode codeAt
    rw [hc, if_neg (show ¬ ((Value.ref c == Value.none) = true) from Bool.false_ne_true)]
    refine wpAny_bind (wpAny_fieldsOf e1 e3 ?_)
    rw [f3]
    refine wpAny_bind (wpAny_fieldsOf hP rfl ?_)
    rw [show (#[rawInt pos.line, rawInt pos.col, Value.ref c'] : Array Value).toList = [rawInt pos.line, rawInt pos.col, .ref c'] from rfl, among_one]
    exact wpAny_pure (hQ _ s.heap s.toks _ (Heap.ExtBut.refl _ _) (Nat.le_refl _) hP (.inr ⟨c', rfl⟩))
end
section
variable {w : World} {A : Around} {E : Value → Shared → Prop} {s : Shared} {p dx L f c P : Addr} {vs : List Value} {ep : Nat} {od : Obj}
theorem gen_pile {qual : Str} {cs scope : Scope} {elt : Expr} {xa xb : Str} {pa pb pt px pos : Pos} {kt : Nat} {g : Heap} {m mg mb : Str → Option Value} {p' : Program} {loose : List Str} {mean : ExcName → Option Value} {ps : Array Value} {Ts : Nat → Addr} {va vb : Nat → Value} {Fn : Nat → Value → Prop} {Q : Value → Shared → Prop}
    (hh : A.handled = none) (hroom : A.depth < recursionLimit)
    (hco : scope.isCoroutine = false) (hclos : closureFor scope (envX qual cs L f (.ref c) []) = pure []) (hcell : ∀ y ∈ scope.names, y.2 ≠ .cell) (h0 : scope.names.lookup (".0" : Str) = some NameKind.local)
    (hxa : scope.names.lookup xa = some .local) (hxb : scope.names.lookup xb = some .local) (hab : xa ≠ xb) (hkind : scope.kind = .function) (hks : cs.kind = .function) (hself : cs.names.lookup ("self" : Str) = some .local)
    (F : Fr g L s.heap m) (X : (Mine.hd.heap_39 w.params).In g) (T : Top p' loose mean mg mb g) (hm : m "self" = some (.ref p)) (hp : s.heap.get? p = some (pileO dx vs ep)) (hdx : s.heap.get? dx = some od)
    (hP : s.heap.get? P = some (tabObj ps)) (hPg : g.get? P = none) (hPp : P ≠ p) (hPT : ∀ j, j < vs.length → Ts j ≠ P) (hcd : CodeHd g c P) (ok : TabOk pos ps)
    (hTs : ∀ j, j < vs.length → vs[j]? = some (.ref (Ts j)) ∧ s.heap.IsTuple (Ts j) #[va j, vb j])
    (helt : ∀ (C : Addr) (code : Value) (A' : Around) (E' : Value → Shared → Prop) (j : Nat) (s₂ : Shared) (m₂ : Str → Option Value), A'.handled = none → j < vs.length → Fr g C s₂.heap m₂ → m₂ xa = some (va j) → m₂ xb = some (vb j) →
      wpAny (model PySem.Challenge.rw_nb0047_01.row.prog w) A' (eval elt (genEnv scope [] C code builtinsNs (envX qual cs L f (.ref c) []))) (fun y s₃ => Fn j y ∧ Keeps s₂ s₃) E' s₂)
    (hQ : ∀ a h' tk gs ps' k, gs.bare = true → Heap.ExtBut P s.heap h' → h'.get? P = some (tabObj ps') → TabOk pos ps' → s.heap.objs.size = k + 1 → s.heap.get? a = none →
      Gen PySem.Challenge.rw_nb0047_01.row.prog w A k a vs.length (fun j y => j < vs.length ∧ Fn j y) { s with gens := s.gens.push gs, toks := tk, heap := h' } → Q (.ref a) { s with gens := s.gens.push gs, toks := tk, heap := h' }) :
    wpAny (model PySem.Challenge.rw_nb0047_01.row.prog w) A (eval (.GeneratorExp elt [⟨.Tuple [.Name xa pa, .Name xb pb] kt pt, .Name "self" px, [], 0⟩] scope pos) (envX qual cs L f (.ref c) [])) Q E s := by
  have hpass : passing (fun _ => true) vs.length 0 = List.range vs.length := by simp [passing]
  obtain ⟨bm, ob, M⟩ := bmod_of_top T
  obtain ⟨k, hk⟩ : ∃ k, s.heap.objs.size = k + 1 := ⟨s.heap.objs.size - 1, by have := Heap.lt_size hp; have : 0 < s.heap.objs.size := Nat.lt_of_le_of_lt (Nat.zero_le _) this; omega⟩
  have Xs := X.keeps F.keep
  refine wpAny_GeneratorExp_walksQT hh hco hclos hcell h0 hxa hxb hab hkind hroom ?_ (fun _ => rfl)
  refine wpAny_Name (wpAny_loadName_local hks hself F.ns hm ?_) (by decide)
  refine iter_pile Xs (inst_pile hp hdx) ?_
  obtain ⟨hh0, gg, dd, tt, oo⟩ := s
  dsimp only at F hp hdx hP hTs hQ Xs hk ⊢
  have hpush : ∀ b o, hh0.get? b = some o → (hh0.push (liO p)).get? b = some o := fun b o e => Heap.get?_push_of_some _ e
  refine ⟨T.nolimit.keeps fun b o e => hpush b o (F.keep b o e), ?_⟩
  refine gen_code (s := ⟨hh0.push (liO p), gg, dd, tt, oo⟩) rfl (hcd.keeps fun b o e => hpush b o (F.keep b o e)) (hpush _ _ hP) ok ?_
  intro code h3 tk3 ps3 hx3 hsz3 hP3 ok3
  have keepG : ∀ b o, g.get? b = some o → h3.get? b = some o := fun b o e => hx3 b o (fun q => by rw [q, hPg] at e; cases e) (hpush b o (F.keep b o e))
  have M3 := M.keeps keepG
  refine wpAny_builtinsFor M3.ns M3.name M3.ne M3.obj M3.cls M3.dict M3.data ?_
  have hsz0 : (hh0.push (liO p)).objs.size = hh0.objs.size + 1 := Heap.size_push ..
  have hszp : hh0.objs.size < h3.objs.size := by have := hsz3; dsimp only at this; omega
  have hPI : P ≠ hh0.objs.size := Nat.ne_of_lt (Heap.lt_size hP)
  have hpI : p ≠ hh0.objs.size := Nat.ne_of_lt (Heap.lt_size hp)
  have hTI : ∀ j, j < vs.length → Ts j ≠ hh0.objs.size := fun j hj => by obtain ⟨o, ho, _⟩ := (hTs j hj).2; exact Nat.ne_of_lt (Heap.lt_size ho)
  have hTup : ∀ j, j < vs.length → h3.IsTuple (Ts j) #[va j, vb j] := fun j hj => ((hTs j hj).2.at fun o e => hx3 _ o (hPT j hj) (hpush _ _ e))
  have hI3 : h3.IsListIter hh0.objs.size p 0 := ⟨liO p, hx3 _ _ (Ne.symm hPI) (Heap.get?_push_size _ rfl), rfl, rfl⟩
  have hfp : ∀ b ∈ (hh0.objs.size :: p :: (List.range vs.length).map Ts), b < h3.objs.size := by
    intro b hb
    rcases List.mem_cons.mp hb with rfl | hb
    · exact hszp
    · rcases List.mem_cons.mp hb with rfl | hb
      · exact Nat.lt_trans (Heap.lt_size hp) hszp
      · obtain ⟨j, hj, rfl⟩ := List.mem_map.mp hb
        obtain ⟨o, ho, _⟩ := (hTs j (List.mem_range.mp hj)).2
        exact Nat.lt_trans (Heap.lt_size ho) hszp
  refine ⟨hh0.objs.size, _, _, _, _, _, _, (fun _ => true), Fn, rfl, (fun A' hA => walks_pile hA hh0.objs.size p dx ep hpI vs Ts (fun j => #[va j, vb j]) (fun j hj => (hTs j hj).1) hTI), (fun i vals hv => ⟨va i, vb i, hv.2⟩),
    ⟨hI3, hx3 _ _ (Ne.symm hPp) (hpush _ _ hp), hTup⟩, hfp, T.nolimit.keeps keepG, ?_, ?_, ?_⟩
  · intro hm
    simp only [List.mem_singleton] at hm
    obtain ⟨_, ⟨_, _, _, ho, _⟩, _⟩ := T.nolimit
    exact Nat.ne_of_lt (Heap.lt_size (F.keep _ _ ho)) hm
  · intro href hhref
    refine ⟨fun A' E' i va' vb' s₂ m₂ hA hP' hn _ _ _ => ?_, fun A' E' i va' vb' s₂ m₂ hA hP' _ hn hma hmb hkp => ?_⟩
    · exact wpAny_pure ⟨rfl, s₂.heap, s₂.toks, rfl, fun _ _ e => e⟩
    · obtain ⟨hi, e⟩ := hP'
      obtain ⟨e1, e2⟩ : va' = va i ∧ vb' = vb i := by simpa using congrArg Array.toList e
      subst e1 e2
      refine helt _ code A' E' i s₂ m₂ hA hi ⟨hn, fun b o e => ?_, ?_⟩ hma hmb
      · refine hkp b (List.mem_range.mpr (Heap.lt_size (keepG b o e))) ?_ o (hhref b o (keepG b o e))
        simp only [List.mem_singleton]
        exact Nat.ne_of_lt (Heap.lt_size (F.keep b o e))
      · exact Nat.le_trans F.above (Nat.le_of_lt (Nat.lt_trans F.ns.lt hszp))
  · intro a h5 tk gs hgb hag hsz5 hk5 W hat
    rw [hpass] at W
    refine hQ a h5 tk gs ps3 k hgb (fun b o hb e => hk5 b o (hx3 b o hb (hpush b o e))) (hk5 _ _ hP3) ok3 hk ?_ ?_
    · cases q : hh0.get? a with
      | none => rfl
      | some o => exact absurd (Nat.lt_trans (Heap.lt_size q) (Nat.lt_trans hszp hag)) (Nat.lt_irrefl _)
    · rw [List.length_range] at W
      have W' := W.imp (P' := fun j y => j < vs.length ∧ Fn j y) (fun j y hy => by
        obtain ⟨i, hi, hy⟩ := hy
        have hj : j < (List.range vs.length).length := (List.getElem?_eq_some_iff.mp hi).1
        have e : i = j := by have := (List.getElem?_eq_some_iff.mp hi).2; simpa using this.symm
        subst e
        exact ⟨by simpa using hj, hy⟩)
      refine ⟨_, _, _, _, W', hat, (fun i s' st => st.1.typeIs), List.mem_cons_self, ?_, ?_⟩
      · intro b hb
        show b < h5.objs.size
        rw [hsz5]
        rcases List.mem_cons.mp hb with rfl | hb
        · exact Nat.lt_succ_self _
        · rcases List.mem_cons.mp hb with rfl | hb
          · exact Nat.lt_succ_of_lt hag
          · exact Nat.lt_succ_of_lt (Nat.lt_trans (List.mem_range.mp hb) hag)
      · intro b hb
        rcases List.mem_cons.mp hb with rfl | hb
        · exact Nat.lt_trans (by rw [hk]; exact Nat.lt_succ_self _) hszp
        · rcases List.mem_cons.mp hb with rfl | hb
          · rw [hk]; exact Nat.lt_succ_self _
          · cases hb
end
end Mine
end
-- part G3
section
open PySem PySem.W PyProof.Rows PySem.Calls PySem.Builtin
set_option maxRecDepth 100000
set_option maxHeartbeats 8000000
namespace Mine
theorem args_sum2 (a b : Value) : argsOk "sum" ⟨[a, b], []⟩ := by unfold argsOk; kernel_rfl
theorem walks_shift {prog : Program} {w : World} {A : Around} {I : Addr} {fp wr : List Addr} {G : Array GenState → Array GenState → Prop} {n : Nat} {P : Nat → Value → Prop} {St : Nat → Shared → Prop} (W : WalksS prog w A I fp wr G n P St) :
    WalksS prog w A I fp wr G (n + 1) (fun i v => ∃ j, i = j + 1 ∧ P j v) (fun i s => ∃ j, i = j + 1 ∧ St j s) where
  sub := W.sub
  grefl := W.grefl
  gtrans := W.gtrans
  frame := fun i s h' tk st ht hk => by obtain ⟨j, rfl, st⟩ := st; exact ⟨j, rfl, W.frame j s h' tk st ht hk⟩
  item := fun i s Q E hi st hQ => by
    obtain ⟨j, rfl, st⟩ := st
    exact W.item j s Q E (by omega) st fun v s' hP hst hm => hQ v s' ⟨j, rfl, hP⟩ ⟨j + 1, rfl, hst⟩ hm
  done := fun s Q E st hQ => by
    obtain ⟨j, hj, st⟩ := st
    have : j = n := by omega
    subst this
    exact W.done s Q E st hQ
  self := fun i s Q E st hQ => by obtain ⟨j, rfl, st⟩ := st; exact W.self j s Q E st hQ
def valOf (st : Int) (val : Nat → Int) : Nat → Int
  | 0 => st
  | j + 1 => val j
theorem preSum_valOf (st : Int) (val : Nat → Int) : ∀ n, preSum (valOf st val) (n + 1) = st + preSum val n
  | 0 => by simp [preSum, valOf]
  | n + 1 => by rw [preSum, preSum_valOf st val n, preSum]; simp only [valOf]; omega
section
variable {prog : Program} {w : World} {A : Around} {E : Value → Shared → Prop} {s : Shared}
theorem sum_start {a : Addr} {K n : Nat} {Fn : Nat → Value → Prop} {st : Int} {tst : Tok} {Q : Value → Shared → Prop} (X : Gen prog w A K a n Fn s) (val : Nat → Int) (hval : ∀ j v, Fn j v → ∃ t, v = .int (val j) t)
    (hQ : ∀ h' tk gs t', (AllBare s.gens → AllBare gs) → (∀ b o, b ≤ K → s.heap.get? b = some o → h'.get? b = some o) → Q (.int (st + preSum val n) t') { s with heap := h', toks := tk, gens := gs }) :
    wpAny (model prog w) A (call (.builtin "sum") [.ref a, .int st tst]) Q E s := by
  obtain ⟨fp, wr, g, St, W, hst, _, _, hfp, hwr⟩ := X
  have W1 := W.in4_1
  refine call_function_tree F.kind_sum F.plain_sum F.entry_sum (args_sum2 _ _) ?_
  unfold Builtin.«sum»
  simp only [List.length_cons, List.length_nil]
  rw [if_neg (by decide)]
  refine wpAny_bind (wpAny_of_eq (show Builtin.Builtins.bindParams "sum" ["start"] 0 ⟨[.int st tst], []⟩ = pure [some (.int st tst)] from rfl) ?_)
  refine wpAny_bind (W1.self 0 _ _ _ hst ?_)
  have hSf : s.heap.objs.size ∉ fp := fun hm => Nat.lt_irrefl _ (hfp _ hm)
  have hval' : ∀ i v, (∃ j, i = j + 1 ∧ Fn j v) → ∃ t, v = .int (valOf st val i) t := by
    rintro i v ⟨j, rfl, hv⟩
    exact hval j v hv
  have fin : ∀ s' t', Moved wr (GenOnlyQ g) s s' → Q (.int (preSum (valOf st val) (n + 1)) t') s' := by
    intro s' t' hm'
    rw [preSum_valOf]
    obtain ⟨hh, gs, d, tk, os⟩ := s'
    obtain ⟨m1, m2, m3, m4, m5⟩ := hm'
    dsimp only at m1 m2 m3 m4 m5
    subst m3 m4
    exact hQ hh tk gs t' (fun h => h.moved m2) (fun b o hb e => m1 b o (fun hmem => Nat.lt_irrefl _ (Nat.lt_of_lt_of_le (hwr b hmem) hb)) e)
  dsimp only
  split
  · refine wpAny_bind (wpAny_rule (wpAny_bind (wpAny_mkInt (wpAny_bind (wpAny_pure ?_)))))
    simp only [List.forIn_cons, List.forIn_nil]
    refine wpAny_bind (wpAny_bind (wpAny_bind (wpAny_isInstance (T := "int") (b := false) (typeIs_int _ _ _) PySem.sub_int_str ?_)))
    simp only [Bool.false_eq_true, if_false]
    refine wpAny_pure (wpAny_bind (wpAny_bind (wpAny_isInstance (T := "int") (b := false) (typeIs_int _ _ _) sub_int_bytes ?_)))
    simp only [Bool.false_eq_true, if_false]
    refine wpAny_pure (wpAny_bind (wpAny_bind (wpAny_isInstance (T := "int") (b := false) (typeIs_int _ _ _) sub_int_bytearray ?_)))
    simp only [Bool.false_eq_true, if_false]
    refine wpAny_pure (wpAny_pure ?_)
    refine wpAny_bind (wpAny_newObj_type ?_)
    refine wpAny_pure ⟨plainId_quiet F.plain_sum_loop _, codeAny_sum_loopAnyS (walks_shift W1) (valOf st val) hval' s.heap.objs.size hSf n 1 _ s.toks 0 0 (.inl rfl) (by omega) (by omega)
      ⟨0, rfl, W1.frame 0 s _ _ hst (by first | exact Nat.le_refl _ | exact Nat.le_succ _ | omega) fun b _ o e => Heap.get?_push_of_some _ e⟩ ?_ fun s' t' hm => ?_⟩
    · rw [show preSum (valOf st val) 1 = st by simp [preSum, valOf]]
      exact Heap.get?_push_size _ rfl
    · exact fin s' t' (hm.drop_new (by first | exact Nat.le_refl _ | exact Nat.le_succ _ | omega))
  · refine wpAny_bind (wpAny_pure ?_)
    simp only [List.forIn_cons, List.forIn_nil]
    refine wpAny_bind (wpAny_bind (wpAny_bind (wpAny_isInstance (T := "int") (b := false) (typeIs_int _ _ _) PySem.sub_int_str ?_)))
    simp only [Bool.false_eq_true, if_false]
    refine wpAny_pure (wpAny_bind (wpAny_bind (wpAny_isInstance (T := "int") (b := false) (typeIs_int _ _ _) sub_int_bytes ?_)))
    simp only [Bool.false_eq_true, if_false]
    refine wpAny_pure (wpAny_bind (wpAny_bind (wpAny_isInstance (T := "int") (b := false) (typeIs_int _ _ _) sub_int_bytearray ?_)))
    simp only [Bool.false_eq_true, if_false]
    refine wpAny_pure (wpAny_pure ?_)
    refine wpAny_bind (wpAny_newObj_type ?_)
    refine wpAny_pure ⟨plainId_quiet F.plain_sum_loop _, codeAny_sum_loopAnyS (walks_shift W1) (valOf st val) hval' s.heap.objs.size hSf n 1 _ tst 0 2 (.inr rfl) (by omega) (by omega)
      ⟨0, rfl, W1.frame 0 s _ _ hst (by first | exact Nat.le_refl _ | exact Nat.le_succ _ | omega) fun b _ o e => Heap.get?_push_of_some _ e⟩ ?_ fun s' t' hm => ?_⟩
    · rw [show preSum (valOf st val) 1 = st by simp [preSum, valOf]]
      exact Heap.get?_push_size _ rfl
    · exact fin s' t' (hm.drop_new (by first | exact Nat.le_refl _ | exact Nat.le_succ _ | omega))
theorem join_pile {a : Addr} {K n : Nat} {Fn : Nat → Value → Prop} {sep : Str} {t : Tok} {Q : Value → Shared → Prop} (X : Gen prog w A K a n Fn s) (tx : Nat → Str) (htx : ∀ j v, Fn j v → ∃ u, v = .str (tx j) u) (hok : JoinOk sep ((List.range n).map tx) = true)
    (hQ : ∀ h' tk gs t', (AllBare s.gens → AllBare gs) → (∀ b o, b ≤ K → s.heap.get? b = some o → h'.get? b = some o) → Q (.str (Txt.join sep ((List.range n).map tx)) t') { s with heap := h', toks := tk, gens := gs })
    (hsz : n ≤ 1000) : wpAny (model prog w) A (call (.builtin "str.join") [.str sep t, .ref a]) Q E s := by
  obtain ⟨fp, wr, g, St, W, hst, hT, ha, hfp, hwr⟩ := X
  have W := W.in4_2
  refine SC.joinGen W hT hst hfp ha (fun j v hv => let ⟨u, e⟩ := htx j v hv; ⟨_, u, e⟩) (fun s' lt hm hacc => ?_) (by rw [sizeLine_eq]; omega)
  have hl : lt.map (·.1) = (List.range n).map tx := by
    apply List.ext_getElem?
    intro j
    have hsz : lt.length = n := by simpa [strValues] using hacc.1
    by_cases hj : j < n
    · have hj' : j < lt.length := hsz ▸ hj
      obtain ⟨u, hv⟩ := htx j _ (hacc.2 j (.str lt[j].1 lt[j].2) (by simp [strValues, List.getElem?_eq_getElem hj']))
      injection hv with h1 _
      simp [List.getElem?_eq_getElem hj', hj, h1]
    · rw [List.getElem?_eq_none (by simpa [hsz] using Nat.le_of_not_lt hj), List.getElem?_eq_none (by simpa using Nat.le_of_not_lt hj)]
  rw [hl]
  refine ⟨hok, fun t' k => ?_⟩
  obtain ⟨hh, gs, d, tk, os⟩ := s'
  obtain ⟨m1, m2, m3, m4, m5⟩ := hm
  dsimp only at m1 m2 m3 m4 m5
  subst m3 m4
  exact hQ hh k gs t' (fun h => h.moved m2) (fun b o hb e => m1 b o (fun hmem => Nat.lt_irrefl _ (Nat.lt_of_lt_of_le (hwr b hmem) hb)) e)
end
end Mine
end
-- part G4
section
open PySem PySem.W PyProof.Rows PySem.Calls PySem.Builtin
set_option maxRecDepth 100000
set_option maxHeartbeats 8000000
namespace Mine
section
variable {M : Model} {A : Around} {E : Value → Shared → Prop} {s : Shared} {w : World} {g : Heap} {C : Addr} {m mg mb : Str → Option Value} {p' : Program} {loose : List Str} {mean : ExcName → Option Value} {scope : Scope} {cl : List (Str × Addr)} {code : Value} {env : Env} {pos : Pos} {Q : Value → Shared → Prop} {x : Str} {v : Value}
theorem gen_built (F : Fr g C s.heap m) (X : (Mine.hd.heap_39 w.params).In g) (T : Top p' loose mean mg mb g) (e : nsIn (Mine.hd.heap_39 w.params) mainGlobals x = some none) (hv : bootBuiltins x = some v) (hn : x ≠ "__name__") (h : Q v s)
    (hg : env.globals = mainGlobals := by rfl) (hk : scope.kind = .function := by rfl) (hx : (genEnv scope cl C code builtinsNs env).kindOf x = some .globalImplicit := by rfl) (hd : (x == ("__debug__" : Str)) = false := by decide) :
    wpAny M A (eval (.Name x pos) (genEnv scope cl C code builtinsNs env)) Q E s :=
  Name_function_global hk hx (loadGlobal_builtin (env := genEnv scope cl C code builtinsNs env) (show s.heap.Ns env.globals mg from hg ▸ (T.keeps F.keep).g) (mg_none_of X T.g e) (T.keeps F.keep).b ((T.builtins x hn).trans hv) h) hd
theorem gen_global (F : Fr g C s.heap m) (X : (Mine.hd.heap_39 w.params).In g) (T : Top p' loose mean mg mb g) (e : nsIn (Mine.hd.heap_39 w.params) mainGlobals x = some (some v)) (h : Q v s)
    (hg : env.globals = mainGlobals := by rfl) (hk : scope.kind = .function := by rfl) (hx : (genEnv scope cl C code builtinsNs env).kindOf x = some .globalImplicit := by rfl) (hd : (x == ("__debug__" : Str)) = false := by decide) :
    wpAny M A (eval (.Name x pos) (genEnv scope cl C code builtinsNs env)) Q E s :=
  Name_function_global hk hx (loadGlobal_global (env := genEnv scope cl C code builtinsNs env) (show s.heap.Ns env.globals mg from hg ▸ (T.keeps F.keep).g) (mg_of X T.g e) h) hd
end
/-- what the pile's items are, as functions of the place -/
theorem texts_fun {h : Heap} {vs : List Value} {qs : List (Nat × Nat)} (H : Paired (TextAt h) vs qs) :
    ∃ (Ts : Nat → Addr) (va vb : Nat → Value), ∀ j, j < vs.length → vs[j]? = some (.ref (Ts j)) ∧ h.IsTuple (Ts j) #[va j, vb j] ∧ ∃ q t1 t2, qs[j]? = some q ∧ va j = .str (apStr q.1) t1 ∧ vb j = .str (apStr q.2) t2 := by
  have key : ∀ j, ∃ T a b, j < vs.length → vs[j]? = some (.ref T) ∧ h.IsTuple T #[a, b] ∧ ∃ q t1 t2, qs[j]? = some q ∧ a = .str (apStr q.1) t1 ∧ b = .str (apStr q.2) t2 := by
    intro j
    by_cases hj : j < vs.length
    · have hj' : j < qs.length := H.length ▸ hj
      obtain ⟨t1, t2, T, e1, e2⟩ := Mine.Paired.get H (List.getElem?_eq_getElem hj) (List.getElem?_eq_getElem hj')
      exact ⟨T, .str (apStr qs[j].1) t1, .str (apStr qs[j].2) t2, fun _ => ⟨by rw [List.getElem?_eq_getElem hj, e1], e2, _, t1, t2, List.getElem?_eq_getElem hj', rfl, rfl⟩⟩
    · exact ⟨0, .none, .none, fun h => absurd h hj⟩
  obtain ⟨Ts, h1⟩ := Classical.skolem.mp key
  obtain ⟨va, h2⟩ := Classical.skolem.mp h1
  obtain ⟨vb, h3⟩ := Classical.skolem.mp h2
  exact ⟨Ts, va, vb, h3⟩
end Mine
end
-- part C11
section
open PySem PySem.W PyProof.Rows PySem.Calls
set_option maxRecDepth 100000
set_option maxHeartbeats 1000000
namespace Mine
theorem code60 (P : Params) : codeHdIn (Mine.hd.heap_39 P) 60 56 = true := by kernel_rfl
theorem code67 (P : Params) : codeHdIn (Mine.hd.heap_39 P) 67 63 = true := by kernel_rfl
theorem apStr_len (n : Nat) : (apStr n).length = (digs n).length := by simp [apStr, encS, Str.length]
theorem preSum_len (qs : List (Nat × Nat)) : ∀ n, preSum (fun j => ((digs (qs.getD j (0, 0)).1).length + (digs (qs.getD j (0, 0)).2).length : Int)) n = ((qs.take n).map fun q => ((digs q.1).length + (digs q.2).length : Int)).sum
  | 0 => by simp [preSum]
  | n + 1 => by
    rw [preSum, preSum_len qs n]
    by_cases h : n < qs.length
    · rw [List.take_succ, List.map_append, List.sum_append, List.getD_eq_getElem?_getD, List.getElem?_eq_getElem h]; simp
    · rw [List.take_of_length_le (Nat.le_of_not_lt h), List.take_of_length_le (Nat.le_succ_of_le (Nat.le_of_not_lt h)), List.getD_eq_getElem?_getD, List.getElem?_eq_none (Nat.le_of_not_lt h)]; simp [digs]
theorem gen_toks {prog : Program} {w : World} {A : Around} {K a n : Nat} {Fn : Nat → Value → Prop} {s : Shared} (X : Gen prog w A K a n Fn s) (tk : Nat) (h : s.toks ≤ tk) : Gen prog w A K a n Fn { s with toks := tk } := by
  obtain ⟨fp, wr, g, St, W, hst, a1, a2, a3, a4⟩ := X
  exact ⟨fp, wr, g, St, W, W.frame 0 s s.heap tk hst h (fun _ _ _ e => e), a1, a2, a3, a4⟩
section
local macro_rules | `(tactic| walk_at "And") => `(tactic| refine Halt.out ?_)
local macro_rules | `(tactic| walk_at "call builtin:len") => `(tactic| refine Halt.out ?_)
local macro_rules | `(tactic| walk_at "eval GeneratorExp") => `(tactic| refine Halt.out ?_)
local macro_rules | `(tactic| walk_at "getAttr ref") => `(tactic| refine Halt.out ?_)
local macro_rules | `(tactic| walk_at "call builtin:sum") => `(tactic| refine Halt.out ?_)
local macro_rules | `(tactic| walk_at "eval Name") => `(tactic| ((with_reducible refine inGen ?_); refine Halt.out ?_))
theorem len_spec {w : World} {dp un : Nat} {A : Around} {s : Shared} {Q E : Value → Shared → Prop} {p dx : Addr} {vs : List Value} {ep : Nat} {hs0 : Int} {tk0 t0 : Tok} {z : Int} {n0 : Nat} {ps : Array Value} {qs : List (Nat × Nat)}
    (H : Here w [(p, pileO dx vs ep), (dx, isD hs0 tk0 (.int z t0) n0), (56, tabObj ps)] dp un A s.heap)
    (hd : dp + 2 < recursionLimit) (hu : un + 64 < cLine) (hz : vs.length ≤ 100) (hq : Paired (TextAt s.heap) vs qs) (ok : TabOk ⟨23, 19, 23, 63⟩ ps) (G : AllBare s.gens) (h56 : 56 ≠ p) (h56d : 56 ≠ dx) (hb1 : ∀ q ∈ qs, (digs q.1).length ≤ 1000 ∧ (digs q.2).length ≤ 1000)
    (ret : ∀ h' tk' gs' t ps', KeepBut [56] s.heap h' → h'.get? 56 = some (tabObj ps') → TabOk ⟨23, 19, 23, 63⟩ ps' → AllBare gs' → Q (.int (z + (qs.map fun q => ((digs q.1).length + (digs q.2).length : Int)).sum) t) { s with heap := h', toks := tk', gens := gs' }) :
    wpAny (model PySem.Challenge.rw_nb0047_01.row.prog w) A (call (.ref 61) [.ref p]) Q E s := by
  have X := H.in
  revert X
  k_fill
  intro X
  w_on
  refine enterP H [("self", .ref p)] (by omega) (by k_is) (by k_is) (BindsTo.of_eq rfl) (locs rfl) rfl rfl rfl (by decide) ?_
  intro p' loose mean mg mb gd A₀ base g outer L' h₁ hg hL B' F' X' N' T'
  k_steps
  refine Halt.mk ?_
  rename Fr _ _ _ _ => F1
  rename News _ _ _ _ => N1
  have K1 : Keep s.heap h₁ := keep_back hg H F1 N1
  obtain ⟨Ts, va, vb, hTs⟩ := texts_fun hq
  have hT56 : ∀ j, j < vs.length → Ts j ≠ 56 := fun j hj e => by
    obtain ⟨o, ho, hc, _⟩ := (hTs j hj).2.1
    have h2 := H.led (56, tabObj ps) (.tail _ (.tail _ (.head _)))
    rw [e] at ho
    rw [ho] at h2
    cases h2
    cases hc
  refine gen_pile (Ts := Ts) (va := va) (vb := vb) (ps := ps) (P := 56) (Fn := fun j y => ∃ t, y = .int ((digs (qs.getD j (0, 0)).1).length + (digs (qs.getD j (0, 0)).2).length) t) rfl (by show dp + 1 < _; omega) rfl rfl (by decide) rfl rfl rfl (by decide) rfl rfl rfl F1 X' T' rfl (N1 _ (.head _)).1 (N1 _ (.tail _ (.head _))).1 (N1 _ (.tail _ (.tail _ (.head _)))).1 (N1 _ (.tail _ (.tail _ (.head _)))).2.2 h56 hT56 (codeHd_of_K X' (code60 _)) ok (fun j hj => ⟨(hTs j hj).1, let ⟨o, ho, r⟩ := (hTs j hj).2.1; ⟨o, K1 _ _ ho, r⟩⟩) ?_ ?_
  · intro C code A' E' j s₂ m₂ hA hj F2 ha hb
    obtain ⟨-, -, q, t1, t2, hq', e1, e2⟩ := hTs j hj
    rw [e1] at ha
    rw [e2] at hb
    have e3 : qs.getD j (0, 0) = q := by simp [List.getD_eq_getElem?_getD, hq']
    simp only [e3]
    have N2 : News g C s₂.heap [] := fun _ h => nomatch h
    clear F1 N1
    k_steps
    refine Halt.mk ?_
    refine gen_built F2 X' T' (by k_is) (by boot_by_name) (by decide) ?_
    k_steps
    refine Halt.mk ?_
    refine ldVarG F2 ha ?_
    k_steps
    refine Halt.mk ?_
    have hql := hb1 q (List.mem_of_getElem? hq')
    refine len_str (by rw [apStr_len]; omega) ?_
    k_steps
    refine Halt.mk ?_
    refine gen_built F2 X' T' (by k_is) (by boot_by_name) (by decide) ?_
    k_steps
    refine Halt.mk ?_
    refine ldVarG F2 hb ?_
    k_steps
    refine Halt.mk ?_
    refine len_str (by rw [apStr_len]; omega) ?_
    k_steps
    refine Halt.mk ⟨⟨_, by rw [apStr_len, apStr_len]⟩, _, _, rfl, fun _ _ e => e⟩
  · intro a h2 tk2 gs ps2 k hgb hx2 hP2 ok2 hk ha0 X2
    have F2 : Fr g L' h2 _ := ⟨F1.ns.extBut hx2 (Ne.symm (N1 _ (.tail _ (.tail _ (.head _)))).2.1), fun b o e => hx2 b o (fun q => by rw [q, (N1 _ (.tail _ (.tail _ (.head _)))).2.2] at e; cases e) (F1.keep b o e), F1.above⟩
    have hp1 := (N1 _ (.head _)).1
    have hd1 := (N1 _ (.tail _ (.head _))).1
    have hp2 := hx2 _ _ (Ne.symm h56) hp1
    have hd2 := hx2 _ _ (Ne.symm h56d) hd1
    have N2 : News g L' h2 [] := fun _ h => nomatch h
    have hk1 : h₁.objs.size = k + 1 := hk
    have lt1 : ∀ b o, h₁.get? b = some o → b ≤ k := fun b o e => Nat.le_of_lt_succ (Nat.lt_of_lt_of_eq (Heap.lt_size e) hk1)
    have h56l := lt1 _ _ (N1 _ (.tail _ (.tail _ (.head _)))).1
    clear F1 N1
    dsimp only
    k_steps
    refine Halt.mk ?_
    refine get_is (X'.keeps F2.keep) (inst_pile hp2 hd2) (look_isD _ _ _ _) rfl ?_
    k_steps
    refine Halt.mk ?_
    refine sum_start (gen_toks X2 _ (Nat.le_succ _)) (fun j => ((digs (qs.getD j (0, 0)).1).length + (digs (qs.getD j (0, 0)).2).length : Int)) (fun j v hv => hv.2) ?_
    intro h3 tk3 gs3 t3 hb3 kp3
    rw [preSum_len qs, List.take_of_length_le (Nat.le_of_eq hq.length.symm)]
    refine ret h3 tk3 gs3 t3 ps2 (fun b o nb e => ?_) (kp3 _ _ h56l hP2) ok2 (hb3 (G.push hgb))
    have e1 := K1 b o e
    exact kp3 b o (lt1 _ _ e1) (hx2 b o (by simpa using nb) e1)
end
end Mine
end
-- part C12
section
open PySem PySem.W PyProof.Rows PySem.Calls
set_option maxRecDepth 100000
set_option maxHeartbeats 1000000
namespace Mine
/-- the figures of all pieces -/
def figs (qs : List (Nat × Nat)) : List Nat := qs.flatMap fun q => digs q.1 ++ digs q.2
theorem join_empty : ∀ (ls : List (List Nat)), Txt.join (Str.ofString "") (ls.map encS) = encS ls.flatten := by
  intro ls
  have fold : ∀ (r : List (List Nat)) (acc : List Nat), (r.map encS).foldl (fun (a : Array Nat) (p : Str) => a ++ (Str.ofString "").cps ++ p.cps) (encS acc).cps = (encS (acc ++ r.flatten)).cps := by
    intro r
    induction r with
    | nil => intro acc; simp
    | cons x r ih =>
      intro acc
      rw [List.map_cons, List.foldl_cons]
      have e : (encS acc).cps ++ (Str.ofString "").cps ++ (encS x).cps = (encS (acc ++ x)).cps := by
        have e0 : (Str.ofString "").cps = #[] := by decide +kernel
        rw [e0]; simp [encS]
      rw [e, ih]
      simp
  unfold Txt.join Builtin.Str.glued
  cases ls with
  | nil => simp [encS, Str.empty]
  | cons x r =>
    simp only [List.map_cons, List.drop_one, List.tail_cons, List.headD_cons]
    rw [fold r x]
    simp
theorem join_two (a b : Nat) : Txt.join (Str.ofString "") [apStr a, apStr b] = encS (digs a ++ digs b) := by
  have := join_empty [digs a, digs b]
  simpa [apStr] using this
theorem map_range_getD (qs : List (Nat × Nat)) : (List.range qs.length).map (fun j => digs (qs.getD j (0, 0)).1 ++ digs (qs.getD j (0, 0)).2) = qs.map fun q => digs q.1 ++ digs q.2 := by
  apply List.ext_getElem
  · simp
  · intro i h1 h2
    simp at h1 h2
    simp [h1]
theorem join_range (qs : List (Nat × Nat)) (n : Nat) (hn : n = qs.length) : Txt.join (Str.ofString "") ((List.range n).map fun j => encS (digs (qs.getD j (0, 0)).1 ++ digs (qs.getD j (0, 0)).2)) = encS (figs qs) := by
  subst hn
  have := map_range_getD qs
  have e : (List.range qs.length).map (fun j => encS (digs (qs.getD j (0, 0)).1 ++ digs (qs.getD j (0, 0)).2)) = (qs.map fun q => digs q.1 ++ digs q.2).map encS := by
    rw [← this, List.map_map]; rfl
  rw [e, join_empty]
  simp [figs, List.flatMap]
theorem empty_len : (Str.ofString "").length = 0 := by decide +kernel
theorem encS_len (l : List Nat) : (encS l).length = l.length := by simp [encS, Str.length]
theorem sum_le {α : Type} (l : List α) (f : α → Nat) (B : Nat) (h : ∀ x ∈ l, f x ≤ B) : (l.map f).sum ≤ l.length * B := by
  induction l with
  | nil => simp
  | cons x r ih =>
    have h1 := h x (.head _)
    have h2 := ih fun y hy => h y (.tail _ hy)
    simp only [List.map_cons, List.sum_cons, List.length_cons, Nat.succ_mul]
    omega
section
local macro_rules | `(tactic| walk_at "And") => `(tactic| refine Halt.out ?_)
local macro_rules | `(tactic| walk_at "newTuple") => `(tactic| refine Halt.out ?_)
local macro_rules | `(tactic| walk_at "eval GeneratorExp") => `(tactic| refine Halt.out ?_)
local macro_rules | `(tactic| walk_at "call builtin:str.join") => `(tactic| refine Halt.out ?_)
local macro_rules | `(tactic| walk_at "eval Name") => `(tactic| ((with_reducible refine inGen ?_); refine Halt.out ?_))
theorem str_spec {w : World} {dp un : Nat} {A : Around} {s : Shared} {Q E : Value → Shared → Prop} {p dx : Addr} {vs : List Value} {ep : Nat} {od : Obj} {ps : Array Value} {qs : List (Nat × Nat)}
    (H : Here w [(p, pileO dx vs ep), (dx, od), (63, tabObj ps)] dp un A s.heap)
    (hd : dp + 2 < recursionLimit) (hu : un + 64 < cLine) (hz : vs.length ≤ 100) (hq : Paired (TextAt s.heap) vs qs) (ok : TabOk ⟨26, 32, 26, 85⟩ ps) (G : AllBare s.gens) (h63 : 63 ≠ p) (h63d : 63 ≠ dx) (hb1 : ∀ q ∈ qs, (digs q.1).length ≤ 1000 ∧ (digs q.2).length ≤ 1000)
    (ret : ∀ h' tk' gs' t ps', KeepBut [63] s.heap h' → h'.get? 63 = some (tabObj ps') → TabOk ⟨26, 32, 26, 85⟩ ps' → AllBare gs' → Q (.str (encS (figs qs)) t) { s with heap := h', toks := tk', gens := gs' }) :
    wpAny (model PySem.Challenge.rw_nb0047_01.row.prog w) A (call (.ref 68) [.ref p]) Q E s := by
  have X := H.in
  revert X
  k_fill
  intro X
  w_on
  refine enterP H [("self", .ref p)] (by omega) (by k_is) (by k_is) (BindsTo.of_eq rfl) (locs rfl) rfl rfl rfl (by decide) ?_
  intro p' loose mean mg mb gd A₀ base g outer L' h₁ hg hL B' F' X' N' T'
  k_steps
  refine Halt.mk ?_
  rename Fr _ _ _ _ => F1
  rename News _ _ _ _ => N1
  have K1 : Keep s.heap h₁ := keep_back hg H F1 N1
  obtain ⟨Ts, va, vb, hTs⟩ := texts_fun hq
  have hT63 : ∀ j, j < vs.length → Ts j ≠ 63 := fun j hj e => by
    obtain ⟨o, ho, hc, _⟩ := (hTs j hj).2.1
    have h2 := H.led (63, tabObj ps) (.tail _ (.tail _ (.head _)))
    rw [e] at ho
    rw [ho] at h2
    cases h2
    cases hc
  refine gen_pile (Ts := Ts) (va := va) (vb := vb) (ps := ps) (P := 63) (Fn := fun j y => ∃ t, y = .str (encS (digs (qs.getD j (0, 0)).1 ++ digs (qs.getD j (0, 0)).2)) t) rfl (by show dp + 1 < _; omega) rfl rfl (by decide) rfl rfl rfl (by decide) rfl rfl rfl F1 X' T' rfl (N1 _ (.head _)).1 (N1 _ (.tail _ (.head _))).1 (N1 _ (.tail _ (.tail _ (.head _)))).1 (N1 _ (.tail _ (.tail _ (.head _)))).2.2 h63 hT63 (codeHd_of_K X' (code67 _)) ok (fun j hj => ⟨(hTs j hj).1, let ⟨o, ho, r⟩ := (hTs j hj).2.1; ⟨o, K1 _ _ ho, r⟩⟩) ?_ ?_
  · intro C code A' E' j s₂ m₂ hA hj F2 ha hb
    obtain ⟨-, -, q, t1, t2, hq', e1, e2⟩ := hTs j hj
    rw [e1] at ha
    rw [e2] at hb
    have e3 : qs.getD j (0, 0) = q := by simp [List.getD_eq_getElem?_getD, hq']
    simp only [e3]
    have hql := hb1 q (List.mem_of_getElem? hq')
    have N2 : News g C s₂.heap [] := fun _ h => nomatch h
    clear F1 N1
    k_steps
    refine Halt.mk ?_
    refine gen_global F2 X' T' (by k_is) ?_
    k_steps
    refine Halt.mk ?_
    refine ldVarG F2 ha ?_
    k_steps
    refine Halt.mk ?_
    refine ldVarG F2 hb ?_
    k_steps
    refine Halt.mk ?_
    refine wpAny_newObj_type ?_ (by size_fits)
    have F3 := F2.push { cls := .type "tuple", data := .seq #[.str (apStr q.1) t1, .str (apStr q.2) t2] }
    clear F2 N2
    have N3 : News g C (s₂.heap.push { cls := .type "tuple", data := .seq #[.str (apStr q.1) t1, .str (apStr q.2) t2] }) [] := fun _ h => nomatch h
    k_steps
    refine Halt.mk ?_
    refine join_tuple (ys := [apStr q.1, apStr q.2]) ⟨_, Heap.get?_push_size _ rfl, rfl, _, rfl⟩ (.cons _ _ (.cons _ _ .nil)) (by simp [apStr_len, empty_len]; omega) ?_
    intro t' k'
    exact ⟨⟨t', by rw [← join_two]⟩, _, _, rfl, fun b o e => Heap.get?_push_of_some _ e⟩
  · intro a h2 tk2 gs ps2 k hgb hx2 hP2 ok2 hk ha0 X2
    have F2 : Fr g L' h2 _ := ⟨F1.ns.extBut hx2 (Ne.symm (N1 _ (.tail _ (.tail _ (.head _)))).2.1), fun b o e => hx2 b o (fun q => by rw [q, (N1 _ (.tail _ (.tail _ (.head _)))).2.2] at e; cases e) (F1.keep b o e), F1.above⟩
    have N2 : News g L' h2 [] := fun _ h => nomatch h
    have hk1 : h₁.objs.size = k + 1 := hk
    have lt1 : ∀ b o, h₁.get? b = some o → b ≤ k := fun b o e => Nat.le_of_lt_succ (Nat.lt_of_lt_of_eq (Heap.lt_size e) hk1)
    have h63l := lt1 _ _ (N1 _ (.tail _ (.tail _ (.head _)))).1
    clear F1 N1
    dsimp only
    k_steps
    refine Halt.mk ?_
    refine join_pile X2 (fun j => encS (digs (qs.getD j (0, 0)).1 ++ digs (qs.getD j (0, 0)).2)) (fun j v hv => hv.2) ?_ ?_ (by omega)
    · refine joinOk_of ?_
      rw [empty_len, Nat.mul_zero, List.map_map]
      have := sum_le (List.range vs.length) (Str.length ∘ fun j => encS (digs (qs.getD j (0, 0)).1 ++ digs (qs.getD j (0, 0)).2)) 2000 (fun j hj => by
        have hj' : j < qs.length := by rw [← hq.length]; exact List.mem_range.mp hj
        have h1 := hb1 _ (List.getElem_mem hj')
        simp only [Function.comp, encS_len, List.getD_eq_getElem?_getD, List.getElem?_eq_getElem hj', Option.getD_some, List.length_append]
        omega)
      rw [List.length_range] at this
      exact Nat.le_trans (show _ ≤ vs.length * 2000 from this) (by omega)
    intro h3 tk3 gs3 t3 hb3 kp3
    rw [join_range qs _ hq.length]
    refine ret h3 tk3 gs3 t3 ps2 (fun b o nb e => ?_) (kp3 _ _ h63l hP2) ok2 (hb3 (G.push hgb))
    have e1 := K1 b o e
    exact kp3 b o (lt1 _ _ e1) (hx2 b o (by simpa using nb) e1)
end
end Mine
end
-- part C13
section
open PySem PySem.W PyProof.Rows PySem.Calls
set_option maxRecDepth 100000
set_option maxHeartbeats 2000000
namespace Mine
theorem f_isfn {P : Params} {f : Addr} (h : f = 38 ∨ f = 46 ∨ f = 54 ∨ f = 61 ∨ f = 68 ∨ f = 76 ∨ f = 83 ∨ f = 91 ∨ f = 31) : isFn (Mine.hd.heap_39 P) (.ref f) = true := beq_iff_eq.mpr (f_fn P h)
section
variable {prog : Program} {w : World} {A : Around} {E : Value → Shared → Prop} {s : Shared} {p dx : Addr} {vs : List Value} {ep : Nat} {od : Obj}
theorem truthy_pile {Q : Bool → Shared → Prop} (X : (Mine.hd.heap_39 w.params).In s.heap) (I : InstAt s.heap p (pileO dx vs ep) 94 (some od))
    (h : wpAny (model prog w) A.in1 (call (.ref 61) [.ref p]) (fun v s' => ∃ n t, v = .int n t ∧ (0 ≤ n ∧ n < 2 ^ 63) ∧ Q (n != 0) { s' with toks := s'.toks + 1 }) E s) : wpAny (model prog w) A (truthy (.ref p)) Q E s := by
  unfold truthy
  refine wpAny_bind (m := callSpecial? (.ref p) (Str.ofString "__bool__")) (wpAny_bind (wpAny_bind (I.type.here ((looks_findIn X (f_bool _)).here (wpAny_pure ?_)))))
  refine wpAny_bind (wpAny_bind (I.type.here ((looks_findIn X (f_len _)).here ?_)))
  show wpAny _ _ (runValue (.builtin "len" ⟨[.ref p], []⟩) >>= _) _ _ _
  refine wpAny_bind (wpAny_runValue (codeAny_builtin entry_len ?_))
  rw [Around.under_plainId plain_len _]
  unfold Builtin.«len»
  refine wpAny_bind (m := oneArg "len" _) (wpAny_pure ?_)
  refine wpAny_bind (m := callSpecial? (.ref p) (Str.ofString "__len__")) (special_fn X I (f_len _) (f_fn _ (by decide)) (wpAny_mono h (fun r s' hr => ?_) fun _ _ y => y))
  obtain ⟨n, t, rfl, ⟨h0, h1⟩, hq⟩ := hr
  refine wpAny_bind (wpAny_holding (wpAny_pure ?_))
  refine wpAny_bind (wpAny_letGo ?_)
  show wpAny _ _ (if n < 0 then _ else _) _ _ _
  rw [if_neg (by omega)]
  show wpAny _ _ (if n ≥ 2 ^ 63 then _ else _) _ _ _
  rw [if_neg (by omega)]
  exact wpAny_bind (wpAny_mkInt (wpAny_pure (wpAny_pure hq)))
end
theorem pmono {α β : Type} {R S : α → β → Prop} : ∀ {l : List α} {l' : List β}, Paired R l l' → (∀ a b, R a b → S a b) → Paired S l l'
  | _, _, .nil, _ => .nil
  | _, _, .cons h t, f => .cons (f _ _ h) (pmono t f)
theorem TextAt.but {h h' : Heap} {v : Value} {q : Nat × Nat} {ls : List Addr} (x : TextAt h v q) (k : KeepBut ls h h') (hl : ∀ D ∈ ls, ∃ o, h.get? D = some o ∧ o.cls ≠ .type "tuple") : TextAt h' v q := by
  obtain ⟨t1, t2, T, e, o, ho, hc, r⟩ := x
  refine ⟨t1, t2, T, e, o, k _ _ (fun hm => ?_) ho, hc, r⟩
  obtain ⟨o', e1, e2⟩ := hl _ hm
  rw [ho] at e1
  cases e1
  exact e2 hc
theorem news_first {g h : Heap} {L : Addr} {a b c : Addr × Obj} {r : List (Addr × Obj)} (N : News g L h (a :: b :: c :: r)) : News g L h [a, b, c] := fun q hq => N q (List.mem_of_mem_take (i := 3) (l := a :: b :: c :: r) hq)
theorem news_other {g h : Heap} {L : Addr} {a b c d : Addr × Obj} {r : List (Addr × Obj)} (N : News g L h (a :: b :: c :: d :: r)) : News g L h [a, b, d] := fun q hq => N q (by
  rcases List.mem_cons.mp hq with e | hq
  · exact e ▸ .head _
  · rcases List.mem_cons.mp hq with e | hq
    · exact e ▸ .tail _ (.head _)
    · rcases List.mem_cons.mp hq with e | hq
      · exact e ▸ .tail _ (.tail _ (.tail _ (.head _)))
      · cases hq)
theorem figs_lt (qs : List (Nat × Nat)) : ∀ d ∈ figs qs, d < 16 := by
  intro d hd
  obtain ⟨q, _, h⟩ := List.mem_flatMap.mp hd
  rcases List.mem_append.mp h with h | h
  · exact digs_lt _ d h
  · exact digs_lt _ d h
theorem isspace_figs {qs : List (Nat × Nat)} (h : figs qs ≠ []) : Txt.isspace (encS (figs qs)) = false := by
  have hl := figs_lt qs
  cases e : figs qs with
  | nil => exact absurd e h
  | cons d r =>
    have hd := hl d (by rw [e]; exact .head _)
    have hs : Unicode.isSpace (65 + d) = false := by
      have : ∀ d, d < 16 → Unicode.isSpace (65 + d) = false := by decide +kernel
      exact this d hd
    simp [Txt.isspace, encS, hs]
theorem lens_figs (qs : List (Nat × Nat)) : (qs.map fun q => ((digs q.1).length + (digs q.2).length : Int)).sum = ((figs qs).length : Int) := by
  induction qs with
  | nil => simp [figs]
  | cons q r ih =>
    simp only [List.map_cons, List.sum_cons, ih, figs, List.flatMap_cons, List.length_append]
    omega
theorem figs_len_le {qs : List (Nat × Nat)} (h : ∀ q ∈ qs, (digs q.1).length ≤ 1000 ∧ (digs q.2).length ≤ 1000) : (figs qs).length ≤ qs.length * 2000 := by
  induction qs with
  | nil => simp [figs]
  | cons q r ih =>
    have h1 := h q (.head _)
    have h2 := ih fun x hx => h x (.tail _ hx)
    simp only [figs, List.flatMap_cons, List.length_append, List.length_cons, Nat.succ_mul] at h2 ⊢
    omega
theorem upd_ext {g h h' : Heap} {L D : Addr} {m : Str → Option Value} {o o' : Obj} {pre post : List (Addr × Obj)} (F : Fr g L h m) (N : News g L h (pre ++ (D, o) :: post)) (hs : Heap.ExtBut D h h') (ho : h'.get? D = some o')
    (h1 : ∀ q ∈ pre, q.1 ≠ D) (h2 : ∀ q ∈ post, q.1 ≠ D) : Fr g L h' m ∧ News g L h' (pre ++ (D, o') :: post) := by
  have HD := N (D, o) (by simp)
  obtain ⟨oL, es, ep, hL, r⟩ := F.ns
  refine ⟨⟨⟨oL, es, ep, hs _ _ (Ne.symm HD.2.1) hL, r⟩, fun b o e => hs b o (fun q => by rw [q, HD.2.2] at e; cases e) (F.keep b o e), F.above⟩, fun q hq => ?_⟩
  rcases List.mem_append.mp hq with hq | hq
  · exact ⟨hs _ _ (h1 q hq) (N q (List.mem_append_left _ hq)).1, (N q (List.mem_append_left _ hq)).2⟩
  · rcases List.mem_cons.mp hq with rfl | hq
    · exact ⟨ho, HD.2⟩
    · exact ⟨hs _ _ (h2 q hq) (N q (List.mem_append_right _ (.tail _ hq))).1, (N q (List.mem_append_right _ (.tail _ hq))).2⟩
section
local macro_rules | `(tactic| walk_at "getAttr ref") => `(tactic| refine Halt.out ?_)
local macro_rules | `(tactic| walk_at "truthy ref") => `(tactic| refine Halt.out ?_)
local macro_rules | `(tactic| walk_at "call type:str") => `(tactic| refine Halt.out ?_)
local macro_rules | `(tactic| walk_at "call builtin:str.isspace") => `(tactic| refine Halt.out ?_)
theorem onlyws_spec {w : World} {dp un : Nat} {A : Around} {s : Shared} {Q E : Value → Shared → Prop} {p dx : Addr} {vs : List Value} {ep : Nat} {hs0 : Int} {tk0 t0 : Tok} {z : Nat} {n0 : Nat} {ps ps2 : Array Value} {qs : List (Nat × Nat)}
    (H : Here w [(p, pileO dx vs ep), (dx, isD hs0 tk0 (.int z t0) n0), (56, tabObj ps), (63, tabObj ps2)] dp un A s.heap)
    (hd : dp + 4 < recursionLimit) (hu : un + 100 < cLine) (hz : vs.length ≤ 100) (hq : Paired (TextAt s.heap) vs qs) (ok : TabOk ⟨23, 19, 23, 63⟩ ps) (ok2 : TabOk ⟨26, 32, 26, 85⟩ ps2) (G : AllBare s.gens) (h56 : 56 ≠ p) (h56d : 56 ≠ dx) (h63 : 63 ≠ p) (h63d : 63 ≠ dx) (hb1 : ∀ q ∈ qs, (digs q.1).length ≤ 1000 ∧ (digs q.2).length ≤ 1000)
    (ret : ∀ h' tk' gs' ps' ps2', KeepBut [56, 63] s.heap h' → h'.get? 56 = some (tabObj ps') → TabOk ⟨23, 19, 23, 63⟩ ps' → h'.get? 63 = some (tabObj ps2') → TabOk ⟨26, 32, 26, 85⟩ ps2' → AllBare gs' → Q (.bool (decide (z = 0) && decide (figs qs = []))) { s with heap := h', toks := tk', gens := gs' }) :
    wpAny (model PySem.Challenge.rw_nb0047_01.row.prog w) A (call (.ref 83) [.ref p]) Q E s := by
  have X := H.in
  revert X
  k_fill
  intro X
  w_on
  refine enterP H [("self", .ref p)] (by omega) (by k_is) (by k_is) (BindsTo.of_eq rfl) (locs rfl) rfl rfl rfl (by decide) ?_
  intro p' loose mean mg mb gd A₀ base g outer L' h₁ hg hL B' F' X' N' T'
  k_steps
  refine Halt.mk ?_
  rename Fr _ _ _ _ => F1
  rename News _ _ _ _ => N1
  refine get_is (X'.keeps F1.keep) (inst_pile (N1 _ (.head _)).1 (N1 _ (.tail _ (.head _))).1) (look_isD _ _ _ _) rfl ?_
  have K1 : Keep s.heap h₁ := keep_back hg H F1 N1
  have hq1 : Paired (TextAt h₁) vs qs := pmono hq fun _ _ x => x.keep K1
  k_steps
  · rename_i hz0
    have hz0 : z = 0 := by omega
    subst hz0
    refine Halt.mk ?_
    refine truthy_pile (X'.keeps F1.keep) (inst_pile (N1 _ (.head _)).1 (N1 _ (.tail _ (.head _))).1) ?_
    refine len_spec (qs := qs) (Here.in1 (.mk B' F1 X' T' (news_first N1) rfl)) (by omega) (by omega) hz hq1 ok G h56 h56d hb1 ?_
    intro h2 tk2 gs2 t2 ps' k2 e2 ok' G2
    rw [lens_figs]
    refine ⟨_, _, rfl, ⟨by omega, by have := figs_len_le hb1; have := hq.length; omega⟩, ?_⟩
    obtain ⟨F2, N2⟩ := upd_ext (pre := [_, _]) (post := [_]) F1 N1 (fun b o hb e => k2 b o (by simpa using hb) e) e2 (List.forall_mem_cons.mpr ⟨Ne.symm h56, List.forall_mem_cons.mpr ⟨Ne.symm h56d, fun _ h => nomatch h⟩⟩) (List.forall_mem_cons.mpr ⟨show (63 : Nat) ≠ 56 by decide, fun _ h => nomatch h⟩)
    have hq2 : Paired (TextAt h2) vs qs := pmono hq1 fun _ _ x => x.but k2 (fun D hD => by simp only [List.mem_singleton] at hD; subst hD; exact ⟨_, (N1 _ (.tail _ (.tail _ (.head _)))).1, by simp⟩)
    clear F1 N1
    dsimp only
    have kk2 : KeepBut [56] s.heap h2 := fun b o nb e => k2 b o nb (K1 b o e)
    have e63 := (N2 _ (.tail _ (.tail _ (.tail _ (.head _))))).1
    k_steps
    · rename_i hf
      have hf : figs qs ≠ [] := fun q => hf (by simp [q])
      refine Halt.mk ?_
      refine kso_call (by show un + 3 + 1 + 1 < _; omega) (X'.keeps F2.keep) (inst_pile (N2 _ (.head _)).1 (N2 _ (.tail _ (.head _))).1) (f_str _) (f_isfn (by decide)) ?_
      refine str_spec (qs := qs) (Here.in1 (Here.in1 (.mk B' F2 X' T' (news_other N2) rfl))) (by omega) (by omega) hz hq2 ok2 G2 h63 h63d hb1 ?_
      intro h3 tk3 gs3 t3 ps2' k3 e3 ok2' G3
      obtain ⟨F3, N3⟩ := upd_ext (pre := [_, _, _]) (post := []) F2 N2 (fun b o hb e => k3 b o (by simpa using hb) e) e3 (List.forall_mem_cons.mpr ⟨Ne.symm h63, List.forall_mem_cons.mpr ⟨Ne.symm h63d, List.forall_mem_cons.mpr ⟨show (56 : Nat) ≠ 63 by decide, fun _ h => nomatch h⟩⟩⟩) (fun _ h => nomatch h)
      have e56 := (N3 _ (.tail _ (.tail _ (.head _)))).1
      have kk3 : KeepBut [56, 63] s.heap h3 := fun b o nb e => k3 b o (fun q => nb (by simp only [List.mem_singleton] at q; simp [q])) (kk2 b o (fun q => nb (by simp only [List.mem_singleton] at q; simp [q])) e)
      clear F2 N2
      show StrBack _ _ _
      dsimp only [StrBack]
      k_steps
      refine Halt.mk ?_
      refine SC.isspace ?_
      rw [show Txt.isspace (encS (figs qs)) = false from isspace_figs hf]
      k_steps
      have := ret h3 tk3 gs3 ps' ps2' kk3 e56 ok' e3 ok2' G3
      simpa [hf] using this
    · rename_i hf
      have hf : figs qs = [] := List.eq_nil_of_length_eq_zero (by omega)
      have := ret h2 (tk2 + 1) gs2 ps' ps2 (fun b o nb e => kk2 b o (fun q => nb (by simp only [List.mem_singleton] at q; simp [q])) e) e2 ok' e63 ok2 G2
      simpa [hf] using this
  · rename_i hz0
    have fin : ∀ tk', Q (.bool (decide (z = 0) && decide (figs qs = []))) { s with heap := h₁, toks := tk', gens := s.gens } := fun tk' => ret h₁ tk' s.gens ps ps2 (K1.but _) (N1 _ (.tail _ (.tail _ (.head _)))).1 ok (N1 _ (.tail _ (.tail _ (.tail _ (.head _))))).1 ok2 G
    have hz1 : z ≠ 0 := by omega
    have hz2 : ((z : Int) == 0) = false := by simpa using hz1
    rw [hz2]
    have := fin (tk + 1 + 1)
    simpa [hz1] using this
end
end Mine
end
-- part L4
section
open PySem PySem.W PyProof.Rows PySem.Calls
set_option maxRecDepth 100000
set_option maxHeartbeats 2000000
namespace Mine
section
variable {prog : Program} {w : World} {A : Around} {s : Shared} {env : Env}
theorem letGo_str {E : Value → Shared → Prop} {v : Str} {px : Pos} {it x : Value} {Q : Unit → Shared → Prop} (hQ : Q () s) : wpAny (model prog w) A (letOwnedTupleGo (.Name v px) it x) Q E s := wpAny_pure hQ
/-- what a turn over a text leaves -/
def TurnS (g : Heap) (L : Addr) (s : Shared) (It : Addr) (oI : Obj) (led : List (Addr × Obj)) (J : (Str → Option Value) → Prop) (f : Flow) (s₃ : Shared) : Prop := f = .next ∧ ∃ h' tk' m', s₃ = { s with heap := h', toks := tk' } ∧ Fr g L h' m' ∧ News g L h' ((It, oI) :: led) ∧ J m'
/-- a loop over the signs of a text -/
theorem for_str {Q : Flow → Shared → Prop} {v : Str} {px : Pos} {iter : Expr} {body : List Stmt} {pos : Pos} {x : Str} {t : Tok} {g : Heap} {L : Addr} {m₀ : Str → Option Value} {led : List (Addr × Obj)}
    (hh : A.handled = none) (ha : x.cps.all (· < 128) = true) (F₁ : Fr g L s.heap m₀) (N₁ : News g L s.heap led) (J : Nat → (Str → Option Value) → Prop) (h0 : J 0 m₀)
    (hi : wpAny (model prog w) A (eval iter env) (fun xv s₁ => xv = .str x t ∧ s₁ = s) (fun _ _ => False) s)
    (turn : ∀ i c m h tk It oI, x.cps[i]? = some c → J i m → Fr g L h m → News g L h ((It, oI) :: led) → (∀ q ∈ led, q.1 ≠ It) →
      wpAny (model prog w) A (assign (.Name v px) env (.str ⟨#[c]⟩ tk)) (fun _ s₂ => wpAny (model prog w) A (execs body env) (TurnS g L s It oI led (J (i + 1))) (fun _ _ => False) s₂) (fun _ _ => False) { s with heap := h, toks := tk + 1 })
    (done : ∀ m h tk, J x.cps.size m → Fr g L h m → News g L h led → Q .next { s with heap := h, toks := tk })
    (hs : ∀ x, foldedSetIterable iter env x = pure x := by intro _; rfl) :
    wpAny (model prog w) A (exec (.For (.Name v px) iter body [] pos) env) Q (fun _ _ => False) s := by
  refine wpAny_For (wpAny_mono hi (fun xv s₁ h₁ => ?_) fun _ _ e => e) hs
  obtain ⟨rfl, rfl⟩ := h₁
  obtain ⟨h₁, g₁, d₁, tk₁, o₁⟩ := s₁
  dsimp only at *
  refine wpAny_pyIter_ascii ha ?_
  dsimp only
  generalize hI : h₁.objs.size = It
  have fr : ∀ b o, h₁.get? b = some o → b ≠ It := fun b o e => neN (by have := ltN (Heap.lt_size e); omega)
  have hIt₀ : g.get? It = none := by
    cases e : g.get? It with
    | none => rfl
    | some o => exact absurd rfl (fr _ _ (F₁.keep _ _ e))
  have hItL : It ≠ L := by obtain ⟨oL, _, _, hL, _⟩ := F₁.ns; exact Ne.symm (fr _ _ hL)
  have off : ∀ q ∈ led, q.1 ≠ It := fun q hq => fr _ _ (N₁ q hq).1
  refine codeAny_forLoop_any (fun k s' => ∃ h tk m i, s' = ⟨h, g₁, d₁, tk, o₁⟩ ∧ i ≤ x.cps.size ∧ k = x.cps.size + 1 - i ∧ h.IsStrIter It "str_ascii_iterator" x t i ∧ Fr g L h m ∧ News g L h led ∧ J i m) ?_ (x.cps.size + 1)
    ⟨_, tk₁, m₀, 0, rfl, Nat.zero_le _, rfl, ⟨_, hI ▸ Heap.get?_push_size _ rfl, rfl, rfl⟩, F₁.push _, (fun q hq => ⟨Heap.get?_push_of_some _ (N₁ q hq).1, (N₁ q hq).2⟩), h0⟩
  rintro k s' ⟨h, tk, m, i, rfl, hi, rfl, hit, F, N, hJ⟩
  cases hv : x.cps[i]? with
  | none =>
    have hie : i = x.cps.size := Nat.le_antisymm hi (by simpa using hv)
    refine wpAny_pyNext_ascii_end hh hit hv fun h₂ he₂ => ?_
    refine wpAny_execs_nil ?_
    obtain ⟨oL, es, ep, hL, r⟩ := F.ns
    exact done m h₂ tk (hie ▸ hJ) ⟨⟨oL, es, ep, he₂ _ _ (Ne.symm hItL) hL, r⟩, fun b o e => he₂ b o (fun q => by rw [q, hIt₀] at e; cases e) (F.keep b o e), F.above⟩ fun q hq => ⟨he₂ _ _ (off q hq) (N q hq).1, (N q hq).2⟩
  | some c =>
    have hlt : i < x.cps.size := (Array.getElem?_eq_some_iff.mp hv).1
    refine wpAny_pyNext_ascii_item hit hv fun h₂ hit₂ hs₂ => ?_
    refine letGo_str ?_
    obtain ⟨oL, es, ep, hL, r⟩ := F.ns
    obtain ⟨oI, hoI, hcI, hdI⟩ := hit₂
    refine wpAny_mono (turn i c m h₂ tk It oI hv hJ ⟨⟨oL, es, ep, hs₂.extBut _ _ (Ne.symm hItL) hL, r⟩, fun b o e => hs₂.extBut b o (fun q => by rw [q, hIt₀] at e; cases e) (F.keep b o e), F.above⟩
      (fun q hq => ?_) off) (fun _ s₂ h₃ => wpAny_mono h₃ (fun f s₃ h₄ => ?_) fun _ _ e => e.elim) fun _ _ e => e.elim
    · rcases List.mem_cons.mp hq with rfl | hq
      · exact ⟨hoI, hItL, hIt₀⟩
      · exact ⟨hs₂.extBut _ _ (off q hq) (N q hq).1, (N q hq).2⟩
    · obtain ⟨rfl, h', tk', m', rfl, F', N', J'⟩ := h₄
      exact ⟨x.cps.size + 1 - (i + 1), by omega, h', tk', m', i + 1, rfl, hlt, rfl, ⟨oI, (N' _ (.head _)).1, hcI, hdI⟩, F', (fun q hq => N' q (.tail _ hq)), J'⟩
end
end Mine
end
-- part L5
section
open PySem PySem.W PyProof.Rows PySem.Calls PySem.Builtin PySem.Builtin._codecs
set_option maxRecDepth 100000
set_option maxHeartbeats 2000000
namespace Mine
theorem enc_road {x : Str} {v : Value} {id : String} : encodeRoad id v x (Str.ofString "ascii") none = (encodeNarrow id asciiCodec none v x >>= fun b => mkBytes b) := by kernel_rfl
theorem enc_arg {t1 : Tok} : Str.codecArg "str.encode" "encode" "'encoding'" (some (.str (Str.ofString "ascii") t1)) = pure (some (Str.ofString "ascii")) := by kernel_rfl
theorem enc_bind {t1 : Tok} : Str.bindOptional "str.encode" "encode" 0 ["encoding", "errors"] [.str (Str.ofString "ascii") t1] [] = pure [some (.str (Str.ofString "ascii") t1), none] := by kernel_rfl
theorem enc_entry {x : Str} {t t1 : Tok} : «str.encode» ⟨[.str x t, .str (Str.ofString "ascii") t1], []⟩ = (encodeNarrow "str.encode" asciiCodec none (.str x t) x >>= fun b => mkBytes b) >>= fun v => ret v := by
  have h0 : Str.strSelf ⟨[.str x t, .str (Str.ofString "ascii") t1], []⟩ = pure (.str x t, x, [.str (Str.ofString "ascii") t1]) := by kernel_rfl
  unfold «str.encode»
  rw [h0, pb]
  dsimp only
  rw [enc_bind, pb]
  dsimp only
  rw [enc_arg, pb]
  show Str.codecArg "str.encode" "encode" "'errors'" none >>= _ = _
  rw [show Str.codecArg "str.encode" "encode" "'errors'" none = pure none from rfl, pb]
  show (encodeRoad "str.encode" (.str x t) x (Str.ofString "ascii") none >>= _) = _
  rw [enc_road]
theorem enc_call {prog : Program} {w : World} {A : Around} {E : Value → Shared → Prop} {s : Shared} {x : Str} {t t1 : Tok} {Q : Value → Shared → Prop} (hb : ∀ c ∈ x.cps.toList, c < 128) (hs : x.length ≤ 1000000) (h : ∀ t' k, Q (.bytes (x.cps.toList.map Nat.toUInt8).toArray t') { s with toks := k }) :
    wpAny (model prog w) A (call (.builtin "str.encode") [.str x t, .str (Str.ofString "ascii") t1]) Q E s := by
  refine call_meets F.slot_str_encode (typeIs_str _ _ _) F.entry_str_encode (F.args_str_encode_2 _ _) (S := fun _ R s => ∀ t' k, R (.ok (.ret (.bytes (x.cps.toList.map Nat.toUInt8).toArray t'))) { s with toks := k }) (.of_wp fun prog w A R s h => ?_) h
  rw [enc_entry, encN _ _ _ hb (by rw [sizeLine_eq]; omega)]
  refine wpAny_bind (wpAny_bind (wpAny_pure ?_))
  refine wpAny_mkBytes (wpAny_pure ⟨_, rfl, h _ _⟩) ?_
  rw [List.size_toArray, List.length_map, Array.length_toList, sizeLine_eq]
  exact Nat.le_trans hs (by decide)
theorem enc_meth {M : Model} {A : Around} {E : Value → Shared → Prop} {s : Shared} {x : Str} {t : Tok} {pl : Sem Bool} {Q : Value × List Value → Shared → Prop} (h : Q (.builtin "str.encode", [.str x t]) s) : wpAny M A (getMethod (.str x t) "encode" pl) Q E s :=
  GM.of (.str x t) (typeIs_str _ _ _) F.slot_str_encode F.type_str_encode GM.noRef h
end Mine
end
-- part C14
section
open PySem PySem.W PyProof.Rows PySem.Calls
set_option maxRecDepth 100000
set_option maxHeartbeats 2000000
namespace Mine
theorem KeepBut.hide (h : Heap) (ls : List Addr) : KeepBut ls h (hideAll h ls) := fun _ _ nb e => hideAll_get ls e nb
theorem keep_but {w : World} {led : List (Addr × Obj)} {dp un : Nat} {A : Around} {h g h' : Heap} {L : Addr} {m : Str → Option Value} (ls : List Addr) (hg : g = hideAll h (led.map (·.1))) (H : Here w led dp un A h) (F : Fr g L h' m) (N : ∀ q ∈ led, q.1 ∉ ls → h'.get? q.1 = some q.2) : KeepBut ls h h' := by
  intro b o nb e
  by_cases hb : b ∈ led.map (·.1)
  · obtain ⟨q, hq, rfl⟩ := List.mem_map.mp hb
    have := H.led q hq
    rw [e] at this
    cases this
    exact N q hq nb
  · exact F.keep b o (by rw [hg]; exact hideAll_get _ e hb)
theorem SizeAt.but {h h' : Heap} {v : Value} {q : Nat × Nat} {ls : List Addr} (x : SizeAt h v q) (k : KeepBut ls h h') (hl : ∀ D ∈ ls, ∃ o, h.get? D = some o ∧ o.cls ≠ .type "tuple") : SizeAt h' v q := by
  obtain ⟨t1, t2, T, e, o, ho, hc, r⟩ := x
  refine ⟨t1, t2, T, e, o, k _ _ (fun hm => ?_) ho, hc, r⟩
  obtain ⟨o', e1, e2⟩ := hl _ hm
  rw [ho] at e1
  cases e1
  exact e2 hc
theorem Sizes.but {h h' : Heap} {a : Addr} {ks : List (Nat × Nat)} {ls : List Addr} (x : Sizes h a ks) (k : KeepBut ls h h') (hl : ∀ D ∈ ls, ∃ o, h.get? D = some o ∧ o.cls ≠ .type "tuple" ∧ o.cls ≠ .type "list") : Sizes h' a ks := by
  obtain ⟨vs, ⟨o, ho, hc, r⟩, hp⟩ := x
  refine ⟨vs, ⟨o, k _ _ (fun hm => ?_) ho, hc, r⟩, pmono hp fun _ _ y => y.but k fun D hD => let ⟨o, a, b, _⟩ := hl D hD; ⟨o, a, b⟩⟩
  obtain ⟨o', e1, _, e2⟩ := hl _ hm
  rw [ho] at e1
  cases e1
  exact e2 hc
theorem fr_but {g h h' : Heap} {L : Addr} {m : Str → Option Value} {ls : List Addr} (F : Fr g L h m) (k : KeepBut ls h h') (hl : ∀ D ∈ ls, D ≠ L ∧ g.get? D = none) : Fr g L h' m := by
  obtain ⟨oL, es, ep, hL, r⟩ := F.ns
  exact ⟨⟨oL, es, ep, k _ _ (fun q => (hl _ q).1 rfl) hL, r⟩, fun b o e => k b o (fun q => by rw [(hl _ q).2] at e; cases e) (F.keep b o e), F.above⟩
/-- the number that figures stand for -/
def dval (l : List Nat) : Nat := l.foldl (fun a d => a * 16 + d) 0
theorem dval_snoc (l : List Nat) (d : Nat) : dval (l ++ [d]) = dval l * 16 + d := by simp [dval]
theorem dval_digs (n : Nat) : dval (digs n) = n := by
  induction n using digs.induct with
  | case1 => rw [digs]; rfl
  | case2 n ih => rw [digs, dval_snoc, ih]; omega
theorem ascii_digs (n : Nat) : (encS (digs n)).cps.all (· < 128) = true := by
  have := digs_lt n
  simp only [encS, List.all_toArray, List.all_map, List.all_eq_true, Function.comp, decide_eq_true_eq]
  intro d hd
  have := this d hd
  omega
theorem ascii_digs' (n : Nat) : ∀ c ∈ (encS (digs n)).cps.toList, c < 128 := by
  intro c hc
  simp only [encS, List.toList_toArray, List.mem_map] at hc
  obtain ⟨d, hd, rfl⟩ := hc
  have := digs_lt n d hd
  omega
theorem enc_bytes (n : Nat) : ((encS (digs n)).cps.toList.map Nat.toUInt8).toArray = apBytes n := by
  simp [encS, apBytes, encB]
theorem told_step {n i c : Nat} (hc : (encS (digs n)).cps[i]? = some c) : ((dval ((digs n).take i) : Int) * 16 + c - 65) = (dval ((digs n).take (i + 1)) : Int) := by
  have h1 : ((digs n).map fun d => 65 + d)[i]? = some c := by simpa [encS] using hc
  rw [List.getElem?_map] at h1
  obtain ⟨d, hd, rfl⟩ := Option.map_eq_some_iff.mp h1
  rw [List.take_add_one, hd]
  simp only [Option.toList_some, dval_snoc]
  omega
section
local macro_rules | `(tactic| walk_at "ite") => `(tactic| refine Halt.out ?_)
local macro_rules | `(tactic| walk_at "getMethod str") => `(tactic| refine Halt.out ?_)
local macro_rules | `(tactic| walk_at "call builtin:str.encode") => `(tactic| refine Halt.out ?_)
local macro_rules | `(tactic| walk_at "call builtin:ord") => `(tactic| refine Halt.out ?_)
local macro_rules | `(tactic| walk_at "call type:str") => `(tactic| refine Halt.out ?_)
local macro_rules | `(tactic| walk_at "exec For") => `(tactic| refine Halt.out ?_)
local macro_rules | `(tactic| walk_at "getMethod ref") => `(tactic| refine Halt.out ?_)
local macro_rules | `(tactic| walk_at "call ref") => `(tactic| refine Halt.out ?_)
local macro_rules | `(tactic| walk_at "call builtin:len") => `(tactic| refine Halt.out ?_)
theorem same_spec {w : World} {dp un : Nat} {A : Around} {s : Shared} {Q E : Value → Shared → Prop} {p dx a : Addr} {vs : List Value} {ep : Nat} {hs0 : Int} {tk0 t0 th tn : Tok} {z n : Nat} {n0 : Nat} {ps ps2 : Array Value} {qs ks : List (Nat × Nat)}
    (H : Here w [(p, pileO dx vs ep), (dx, isD hs0 tk0 (.int z t0) n0), (56, tabObj ps), (63, tabObj ps2)] dp un A s.heap)
    (hd : dp + 6 < recursionLimit) (hu : un + 200 < cLine) (hz : vs.length ≤ 100) (hq : Paired (TextAt s.heap) vs qs) (ok : TabOk ⟨23, 19, 23, 63⟩ ps) (ok2 : TabOk ⟨26, 32, 26, 85⟩ ps2) (G : AllBare s.gens) (h56 : 56 ≠ p) (h56d : 56 ≠ dx) (h63 : 63 ≠ p) (h63d : 63 ≠ dx) (hb1 : ∀ q ∈ qs, (digs q.1).length ≤ 1000 ∧ (digs q.2).length ≤ 1000)
    (hlk : lookIn "part_count" (isD hs0 tk0 (.int z t0) n0) = some none) (hlk2 : lookIn "is_onlyws" (isD hs0 tk0 (.int z t0) n0) = some none)
    (hk : Sizes s.heap a ks) (hfn : figs qs = digs n) (htot : totK ks = (figs qs).length) (hlen : ks.length = vs.length) (hdn : (digs n).length ≤ 1000) (hz2 : z ≤ 1000)
    (ret : ∀ h' tk' gs' ps' ps2', KeepBut [56, 63] s.heap h' → h'.get? 56 = some (tabObj ps') → TabOk ⟨23, 19, 23, 63⟩ ps' → h'.get? 63 = some (tabObj ps2') → TabOk ⟨26, 32, 26, 85⟩ ps2' → AllBare gs' → Q (.bool true) { s with heap := h', toks := tk', gens := gs' }) :
    wpAny (model PySem.Challenge.rw_nb0047_01.row.prog w) A (call (.ref 136) [.ref p, .int z th, .int n tn, .ref a]) Q E s := by
  have X := H.in
  revert X
  k_fill
  intro X
  w_on
  refine enterP H [("pile", .ref p), ("head", .int z th), ("value", .int n tn), ("sizes", .ref a)] (by omega) (by k_is) (by k_is) (BindsTo.of_eq rfl) (locs rfl) rfl rfl rfl (by decide) ?_
  intro p' loose mean mg mb gd A₀ base g outer L' h₁ hg hL B' F' X' N' T'
  k_steps
  refine Halt.mk ?_
  rename Fr _ _ _ _ => F1
  rename News _ _ _ _ => N1
  have hls : ∀ D ∈ [p, dx, 56, 63], ∃ o, s.heap.get? D = some o ∧ o.cls ≠ .type "tuple" ∧ o.cls ≠ .type "list" := by
    intro D hD
    have hl := H.led
    simp only [List.mem_cons, List.not_mem_nil, or_false] at hD
    rcases hD with rfl | rfl | rfl | rfl
    · exact ⟨_, hl _ (.head _), by simp, by simp⟩
    · exact ⟨_, hl _ (.tail _ (.head _)), by simp, by simp⟩
    · exact ⟨_, hl _ (.tail _ (.tail _ (.head _))), by simp, by simp⟩
    · exact ⟨_, hl _ (.tail _ (.tail _ (.tail _ (.head _)))), by simp, by simp⟩
  have kg : KeepBut [p, dx, 56, 63] s.heap g := hg ▸ KeepBut.hide _ _
  have hqg : Paired (TextAt g) vs qs := pmono hq fun _ _ x => x.but kg fun D hD => let ⟨o, a, b, _⟩ := hls D hD; ⟨o, a, b⟩
  have hkg : Sizes g a ks := hk.but kg hls
  have hq1 : Paired (TextAt h₁) vs qs := pmono hqg fun _ _ x => x.keep F1.keep
  refine kso_call (by show un + 3 + 1 + 1 < _; omega) (X'.keeps F1.keep) (inst_pile (N1 _ (.head _)).1 (N1 _ (.tail _ (.head _))).1) (f_str _) (f_isfn (by decide)) ?_
  refine str_spec (qs := qs) (Here.in1 (Here.in1 (.mk B' F1 X' T' (news_other N1) rfl))) (by omega) (by omega) hz hq1 ok2 G h63 h63d hb1 ?_
  intro h2 tk2 gs2 t2 ps2' k2 e2 ok2' G2
  obtain ⟨F2, N2⟩ := upd_ext (pre := [_, _, _]) (post := []) F1 N1 (fun b o hb e => k2 b o (by simpa using hb) e) e2 (List.forall_mem_cons.mpr ⟨Ne.symm h63, List.forall_mem_cons.mpr ⟨Ne.symm h63d, List.forall_mem_cons.mpr ⟨show (56 : Nat) ≠ 63 by decide, fun _ h => nomatch h⟩⟩⟩) (fun _ h => nomatch h)
  rw [hfn]
  clear F1 N1
  show StrBack _ _ _
  dsimp only [StrBack]
  k_steps
  refine Halt.mk ?_
  rename Fr _ _ _ _ => F3
  rename News _ _ _ _ => N3
  refine for_str (x := encS (digs n)) (t := t2) rfl (ascii_digs n) F3 N3 (fun i m => (∃ t, m "told" = some (.int (dval ((digs n).take i)) t)) ∧ m "text" = some (.str (encS (digs n)) t2) ∧ m "pile" = some (.ref p) ∧ m "head" = some (.int z th) ∧ m "value" = some (.int n tn) ∧ m "sizes" = some (.ref a)) ⟨⟨_, rfl⟩, rfl, rfl, rfl, rfl, rfl⟩ ?_ ?_ ?_
  · k_steps
  · rintro i c m h tk It oI hc ⟨⟨tt, j1⟩, j2, j3, j4, j5, j6⟩ F N off
    clear F3 N3
    replace F := fr_ov F [("told", .int (dval ((digs n).take i)) tt), ("text", .str (encS (digs n)) t2), ("pile", .ref p), ("head", .int z th), ("value", .int n tn), ("sizes", .ref a)] (List.forall_mem_cons.mpr ⟨j1, List.forall_mem_cons.mpr ⟨j2, List.forall_mem_cons.mpr ⟨j3, List.forall_mem_cons.mpr ⟨j4, List.forall_mem_cons.mpr ⟨j5, List.forall_mem_cons.mpr ⟨j6, fun _ h => nomatch h⟩⟩⟩⟩⟩⟩)
    dsimp only [kstB] at F
    k_steps
    refine Halt.mk ?_
    refine P.ord_of_char ?_
    k_steps
    rename Fr _ _ _ _ => F4
    rename News _ _ _ _ => N4
    have hval : ((dval ((digs n).take i) : Int) * 16 + c - 65) = (dval ((digs n).take (i + 1)) : Int) := told_step hc
    exact ⟨rfl, _, _, _, rfl, F4, N4, ⟨_, Eq.trans rfl (congrArg (fun z : Int => some (Value.int z _)) hval)⟩, rfl, rfl, rfl, rfl, rfl⟩
  · rintro m h tk ⟨⟨tt, j1⟩, j2, j3, j4, j5, j6⟩ F N
    clear F3 N3
    have hsz : (encS (digs n)).cps.size = (digs n).length := by simp [encS]
    rw [hsz, List.take_length, dval_digs] at j1
    replace F := fr_ov F [("told", .int n tt), ("text", .str (encS (digs n)) t2), ("pile", .ref p), ("head", .int z th), ("value", .int n tn), ("sizes", .ref a)] (List.forall_mem_cons.mpr ⟨j1, List.forall_mem_cons.mpr ⟨j2, List.forall_mem_cons.mpr ⟨j3, List.forall_mem_cons.mpr ⟨j4, List.forall_mem_cons.mpr ⟨j5, List.forall_mem_cons.mpr ⟨j6, fun _ h => nomatch h⟩⟩⟩⟩⟩⟩)
    dsimp only [kstB] at F
    dsimp only
    k_steps
    refine Halt.mk ?_
    rw [if_neg (by simp)]
    k_steps
    refine Halt.mk ?_
    refine enc_meth ?_
    k_steps
    refine Halt.mk ?_
    refine enc_call (ascii_digs' n) (by rw [encS_len]; omega) ?_
    intro t5 tk5
    rw [enc_bytes]
    k_steps
    refine Halt.mk ?_
    refine int2ap_spec (.mk B' F X' T' (fun _ h => nomatch h) rfl) (by omega) (by omega) hdn ?_
    intro h6 tk6 t6 k6
    replace F := Fr.keepK F k6
    replace N := News.keepK N k6
    dsimp only
    k_steps
    refine Halt.mk ?_
    rw [if_neg (by simp)]
    k_steps
    refine Halt.mk ?_
    rw [if_neg (by simp)]
    k_steps
    refine Halt.mk ?_
    refine len_K F X' (inst_pile (N _ (.head _)).1 (N _ (.tail _ (.head _))).1) (f_len _) (f_isfn (by decide)) ?_
    refine len_spec (qs := qs) (Here.in1 (.mk B' F X' T' (news_first N) rfl)) (by omega) (by omega) hz (pmono hqg fun _ _ x => x.keep F.keep) ok G2 h56 h56d hb1 ?_
    intro h7 tk7 gs7 t7 ps' k7 e7 ok' G7
    obtain ⟨F7, N7⟩ := upd_ext (pre := [_, _]) (post := [_]) F N (fun b o hb e => k7 b o (by simpa using hb) e) e7 (List.forall_mem_cons.mpr ⟨Ne.symm h56, List.forall_mem_cons.mpr ⟨Ne.symm h56d, fun _ h => nomatch h⟩⟩) (List.forall_mem_cons.mpr ⟨show (63 : Nat) ≠ 56 by decide, fun _ h => nomatch h⟩)
    clear F N
    rw [lens_figs]
    refine ⟨⟨by omega, by have := figs_len_le hb1; have := hq.length; omega⟩, ?_⟩
    k_steps
    refine Halt.mk ?_
    refine lawtotal_spec (.mk B' F7 X' T' (fun _ h => nomatch h) rfl) (by omega) (by omega) (hkg.keep F7.keep) (by omega) ?_
    intro h8 tk8 t8 k8
    replace F7 := Fr.keepK F7 k8
    replace N7 := News.keepK N7 k8
    rw [htot]
    dsimp only
    k_steps
    refine Halt.mk ?_
    rw [if_neg (by simp)]
    k_steps
    refine Halt.mk ?_
    refine method_p (X'.keeps F7.keep) (inst_pile (N7 _ (.head _)).1 (N7 _ (.tail _ (.head _))).1) (f_count _) (f_fn _ (by decide)) hlk ?_
    k_steps
    refine Halt.mk ?_
    refine count_spec (.mk B' F7 X' T' (fun q hq => N7 q (List.mem_of_mem_take (i := 2) (l := _ :: _ :: _ :: _ :: []) hq)) rfl) (by omega) (by omega) ?_
    intro h9 tk9 t9 k9
    replace F7 := Fr.keepK F7 k9
    replace N7 := News.keepK N7 k9
    dsimp only
    k_steps
    refine Halt.mk ?_
    obtain ⟨ws, hws, hpw⟩ := hkg
    have hwl : ws.length = vs.length := by rw [hpw.length, hlen]
    refine call_len_list (hws.at fun o e => F7.keep _ _ e) (by rw [List.size_toArray]; omega) ?_
    rw [List.size_toArray, hwl]
    k_steps
    refine Halt.mk ?_
    rw [if_neg (by simp)]
    k_steps
    refine Halt.mk ?_
    rw [if_neg (by simp)]
    k_steps
    refine Halt.mk ?_
    refine method_p (X'.keeps F7.keep) (inst_pile (N7 _ (.head _)).1 (N7 _ (.tail _ (.head _))).1) (f_onlyws _) (f_fn _ (by decide)) hlk2 ?_
    k_steps
    refine Halt.mk ?_
    refine onlyws_spec (qs := qs) (.mk B' F7 X' T' N7 rfl) (by omega) (by omega) hz (pmono hqg fun _ _ x => x.keep F7.keep) ok' ok2' G7 h56 h56d h63 h63d hb1 ?_
    intro h10 tk10 gs10 ps10 ps210 k10 e56 ok56 e63 ok63 G10
    have F10 := fr_but F7 k10 (fun D hD => by
      simp only [List.mem_cons, List.not_mem_nil, or_false] at hD
      rcases hD with rfl | rfl
      · exact (N7 _ (.tail _ (.tail _ (.head _)))).2
      · exact (N7 _ (.tail _ (.tail _ (.tail _ (.head _))))).2)
    have e1 := k10 _ _ (by simpa using ⟨Ne.symm h56, Ne.symm h63⟩) (N7 _ (.head _)).1
    have e2' := k10 _ _ (by simpa using ⟨Ne.symm h56d, Ne.symm h63d⟩) (N7 _ (.tail _ (.head _))).1
    have fin : ∀ tk', Q (.bool true) { s with heap := h10, toks := tk', gens := gs10 } := fun tk' => ret h10 tk' gs10 ps10 ps210 (keep_but [56, 63] hg H F10 (by
      intro q hq nq
      simp only [List.mem_cons, List.not_mem_nil, or_false] at hq
      rcases hq with rfl | rfl | rfl | rfl
      · exact e1
      · exact e2'
      · simp at nq
      · simp at nq)) e56 ok56 e63 ok63 G10
    clear F7 N7
    have N10 : News g L' h10 [] := fun _ h => nomatch h
    dsimp only
    k_steps
    have hb : ((decide (z = 0) && decide (figs qs = [])) == ((z : Int) + (n : Int) == 0)) = true := by
      rw [hfn]
      by_cases hn : n = 0
      · subst hn
        rw [digs]
        by_cases hz0 : z = 0
        · subst hz0; rfl
        · have : ((z : Int) + ((0 : Nat) : Int) == 0) = false := by simpa using hz0
          rw [this]; simp [hz0]
      · have : ((z : Int) + (n : Int) == 0) = false := by simp; omega
        rw [this, digs_pos hn]
        simp
    rw [hb]
    exact fin _
end
end Mine
end
-- part A1
section
set_option maxRecDepth 100000
namespace Mine
theorem rev_ind {P : List Nat → Prop} (h0 : P []) (hs : ∀ l d, P l → P (l ++ [d])) : ∀ l, P l := fun l => by
  have key : ∀ r : List Nat, P r.reverse := fun r => by
    induction r with
    | nil => exact h0
    | cons d r ih => rw [List.reverse_cons]; exact hs _ _ ih
  have := key l.reverse
  rwa [List.reverse_reverse] at this
theorem dval_append (a b : List Nat) : dval (a ++ b) = dval a * 16 ^ b.length + dval b := by
  induction b using rev_ind with
  | h0 => simp [dval]
  | hs b d ih =>
    rw [← List.append_assoc, dval_snoc, ih, dval_snoc, List.length_append, List.length_singleton, Nat.pow_succ, Nat.add_mul, Nat.mul_assoc, Nat.add_assoc]
theorem dval_lt (l : List Nat) (h : ∀ d ∈ l, d < 16) : dval l < 16 ^ l.length := by
  induction l using rev_ind with
  | h0 => simp [dval]
  | hs l d ih =>
    have h1 := ih fun x hx => h x (List.mem_append_left _ hx)
    have h2 := h d (by simp)
    rw [dval_snoc, List.length_append, List.length_singleton, Nat.pow_succ]
    omega
/-- no leading nought -/
def Lead (l : List Nat) : Prop := ∀ d r, l = d :: r → d ≠ 0
theorem Lead.append {a b : List Nat} (ha : Lead a) (hb : Lead b) : Lead (a ++ b) := by
  intro d r e
  cases a with
  | nil => exact hb d r e
  | cons x a => cases e; exact ha _ _ rfl
theorem dval_pos {l : List Nat} (hl : Lead l) (hne : l ≠ []) : 0 < dval l := by
  cases l with
  | nil => exact absurd rfl hne
  | cons d r =>
    have hd := hl d r rfl
    have : dval (d :: r) = dval [d] * 16 ^ r.length + dval r := dval_append [d] r
    rw [this]
    have : dval [d] = d := by simp [dval]
    rw [this]
    have : 0 < d * 16 ^ r.length := Nat.mul_pos (Nat.pos_of_ne_zero hd) (Nat.pow_pos (by decide))
    omega
theorem digs_dval (l : List Nat) (h : ∀ d ∈ l, d < 16) (hl : Lead l) : digs (dval l) = l := by
  induction l using rev_ind with
  | h0 => simp [dval, digs]
  | hs l d ih =>
    have hd := h d (by simp)
    have hll : Lead l := fun x r e => hl x (r ++ [d]) (by rw [e]; rfl)
    have h1 := ih (fun x hx => h x (List.mem_append_left _ hx)) hll
    have hne : dval (l ++ [d]) ≠ 0 := by
      have := dval_pos hl (by simp)
      omega
    rw [digs_pos hne, dval_snoc]
    have e1 : (dval l * 16 + d) / 16 = dval l := by omega
    have e2 : (dval l * 16 + d) % 16 = d := by omega
    rw [e1, e2, h1]
theorem digs_lead (n : Nat) : Lead (digs n) := by
  induction n using digs.induct with
  | case1 => intro d r e; rw [digs] at e; cases e
  | case2 n ih =>
    intro d r e
    rw [digs] at e
    by_cases hq : (n + 1) / 16 = 0
    · rw [hq, digs] at e
      simp at e
      omega
    · cases hd : digs ((n + 1) / 16) with
      | nil =>
        rw [digs_pos hq] at hd
        simp at hd
      | cons x y =>
        rw [hd] at e
        cases e
        exact ih _ _ hd
theorem figs_lead (qs : List (Nat × Nat)) : Lead (figs qs) := by
  induction qs with
  | nil => intro d r e; cases e
  | cons q r ih => exact Lead.append ((digs_lead _).append (digs_lead _)) ih
theorem digs_figs (qs : List (Nat × Nat)) : digs (dval (figs qs)) = figs qs := digs_dval _ (figs_lt qs) (figs_lead qs)
theorem szN_len {n : Nat} (h : n < 4096) : szN n = (digs n).length := by
  unfold szN
  by_cases h0 : n = 0
  · subst h0; simp [digs]
  · rw [digs_pos h0]
    by_cases h1 : n / 16 = 0
    · rw [h1, digs]; simp only [List.nil_append, List.length_singleton]; repeat' split
      all_goals omega
    · rw [digs_pos h1]
      by_cases h2 : n / 16 / 16 = 0
      · rw [h2, digs]; simp only [List.nil_append, List.length_append, List.length_singleton]; repeat' split
        all_goals omega
      · rw [digs_pos h2]
        have h3 : n / 16 / 16 / 16 = 0 := by omega
        rw [h3, digs]; simp only [List.nil_append, List.length_append, List.length_singleton]; repeat' split
        all_goals omega
def szP (q : Nat × Nat) : Nat × Nat := (szN q.1, szN q.2)
/-- a piece as the law makes them -/
def Small (qs : List (Nat × Nat)) : Prop := ∀ q ∈ qs, q.1 < 4096 ∧ q.2 < 4096
theorem Small.tail {q : Nat × Nat} {r : List (Nat × Nat)} (h : Small (q :: r)) : Small r := fun x hx => h x (.tail _ hx)
theorem Small.append {a b : List (Nat × Nat)} (ha : Small a) (hb : Small b) : Small (a ++ b) := fun x hx => (List.mem_append.mp hx).elim (ha x) (hb x)
theorem tot_figs {qs : List (Nat × Nat)} (h : Small qs) : totK (qs.map szP) = (figs qs).length := by
  induction qs with
  | nil => rfl
  | cons q r ih =>
    have h1 := h q (.head _)
    have h2 := ih h.tail
    simp only [totK, List.map_cons, List.sum_cons, figs, List.flatMap_cons, List.length_append, szP, szN_len h1.1, szN_len h1.2] at h2 ⊢
    omega
theorem figs_append (a b : List (Nat × Nat)) : figs (a ++ b) = figs a ++ figs b := by simp [figs]
theorem val_append {a b : List (Nat × Nat)} (hb : Small b) : dval (figs (a ++ b)) = dval (figs a) * 16 ^ totK (b.map szP) + dval (figs b) := by
  rw [figs_append, dval_append, tot_figs hb]
theorem val_lt {b : List (Nat × Nat)} (hb : Small b) : dval (figs b) < 16 ^ totK (b.map szP) := by
  rw [tot_figs hb]; exact dval_lt _ (figs_lt b)
theorem val_div {a b : List (Nat × Nat)} (hb : Small b) : dval (figs (a ++ b)) / 16 ^ totK (b.map szP) = dval (figs a) := by
  rw [val_append hb, Nat.mul_comm, Nat.mul_add_div (Nat.pow_pos (by decide)), Nat.div_eq_of_lt (val_lt hb), Nat.add_zero]
theorem val_mod {a b : List (Nat × Nat)} (hb : Small b) : dval (figs (a ++ b)) % 16 ^ totK (b.map szP) = dval (figs b) := by
  rw [val_append hb, Nat.mul_comm, Nat.mul_add_mod, Nat.mod_eq_of_lt (val_lt hb)]
theorem val_one (f b : Nat) : dval (figs [(f, b)]) = f * 16 ^ (digs b).length + b := by
  have : figs [(f, b)] = digs f ++ digs b := by simp [figs]
  rw [this, dval_append, dval_digs, dval_digs]
theorem splitK_figs : ∀ (r : List (Nat × Nat)), Small r → splitK (dval (figs r.reverse)) (r.map szP) = r
  | [], _ => rfl
  | (f, b) :: r, h => by
    have h1 := h (f, b) (.head _)
    have hs : Small [(f, b)] := fun x hx => by rw [List.mem_singleton.mp hx]; exact h1
    have e : totK ([(f, b)].map szP) = szN f + szN b := by simp [totK, szP]
    have hb : b < 16 ^ szN b := by
      have := dval_lt (digs b) (digs_lt b)
      rwa [dval_digs, ← szN_len h1.2] at this
    have ed := val_div (a := r.reverse) hs
    have em := val_mod (a := r.reverse) hs
    rw [e] at ed em
    rw [val_one, ← szN_len h1.2] at em
    rw [List.reverse_cons, List.map_cons, szP, splitK, ed, em, splitK_figs r h.tail]
    congr 2
    · rw [Nat.mul_comm, Nat.mul_add_div (Nat.pow_pos (by decide)), Nat.div_eq_of_lt hb, Nat.add_zero]
    · rw [Nat.mul_comm, Nat.mul_add_mod, Nat.mod_eq_of_lt hb]
theorem pairs_figs {qs : List (Nat × Nat)} (h : Small qs) : pairsOf (dval (figs qs)) (qs.map szP) = qs := by
  unfold pairsOf
  have := splitK_figs qs.reverse fun x hx => h x (List.mem_reverse.mp hx)
  rw [List.reverse_reverse] at this
  rw [← List.map_reverse, this, List.reverse_reverse]
end Mine
end
-- part J1
section
open PySem PySem.W PyProof.Rows PySem.Calls
set_option maxRecDepth 100000
set_option maxHeartbeats 4000000
namespace Mine
abbrev p23 : Pos := ⟨23, 19, 23, 63⟩
abbrev p26 : Pos := ⟨26, 32, 26, 85⟩
abbrev sizObj (x y : Nat) (t1 t2 : Tok) : Obj := { cls := .type "tuple", data := .seq #[.int x t1, .int y t2] }
def SizeIn (im : List (Addr × Obj)) (v : Value) (p : Nat × Nat) : Prop := ∃ t t1 t2, v = .ref t ∧ (t, sizObj p.1 p.2 t1 t2) ∈ im
def ListIn (im : List (Addr × Obj)) (a : Addr) (vs : List Value) : Prop := ∃ ep, (a, W.listOf (List.toArray vs) ep) ∈ im
theorem SizeIn.at {g : Heap} {L : Addr} {h : Heap} {im : List (Addr × Obj)} {v : Value} {p : Nat × Nat} (x : SizeIn im v p) (N : News g L h im) : SizeAt h v p := by
  obtain ⟨t, t1, t2, rfl, hm⟩ := x
  exact ⟨t1, t2, t, rfl, _, (N _ hm).1, rfl, _, rfl⟩
theorem SizeIn.sub {im im' : List (Addr × Obj)} {v : Value} {p : Nat × Nat} (x : SizeIn im v p) (hs : ∀ q ∈ im, q ∈ im') : SizeIn im' v p := by
  obtain ⟨t, t1, t2, rfl, hm⟩ := x
  exact ⟨t, t1, t2, rfl, hs _ hm⟩
theorem ListIn.sub {im im' : List (Addr × Obj)} {a : Addr} {vs : List Value} (x : ListIn im a vs) (hs : ∀ q ∈ im, q ∈ im') : ListIn im' a vs := let ⟨ep, h⟩ := x; ⟨ep, hs _ h⟩
theorem ListIn.at {g : Heap} {L : Addr} {h : Heap} {im : List (Addr × Obj)} {a : Addr} {vs : List Value} (x : ListIn im a vs) (N : News g L h im) : h.IsList a vs.toArray := let ⟨_, hm⟩ := x; ⟨_, (N _ hm).1, rfl, _, rfl⟩
/-- what the ledger's tail holds -/
structure Hold (im : List (Addr × Obj)) (qs hqs : List (Nat × Nat)) (vs : List Value) (aS aH aK : Addr) : Prop where
  small : Small qs
  hsmall : Small hqs
  texts : Paired (TextIn im) vs qs
  hand : ∃ hvs, ListIn im aH hvs ∧ Paired (TextIn im) hvs hqs
  sizes : ∃ svs, ListIn im aS svs ∧ Paired (SizeIn im) svs (qs.map szP)
  kept : ∃ kvs, ListIn im aK kvs ∧ Paired (SizeIn im) kvs (hqs.map szP)
theorem Hold.sub {im im' : List (Addr × Obj)} {qs hqs : List (Nat × Nat)} {vs : List Value} {aS aH aK : Addr} (x : Hold im qs hqs vs aS aH aK) (hs : ∀ q ∈ im, q ∈ im') : Hold im' qs hqs vs aS aH aK where
  small := x.small
  hsmall := x.hsmall
  texts := pmono x.texts fun _ _ y => y.sub hs
  hand := let ⟨hvs, a, b⟩ := x.hand; ⟨hvs, a.sub hs, pmono b fun _ _ y => y.sub hs⟩
  sizes := let ⟨hvs, a, b⟩ := x.sizes; ⟨hvs, a.sub hs, pmono b fun _ _ y => y.sub hs⟩
  kept := let ⟨hvs, a, b⟩ := x.kept; ⟨hvs, a.sub hs, pmono b fun _ _ y => y.sub hs⟩
abbrev ledOf (p dx : Addr) (vs : List Value) (ep : Nat) (hs : Int) (tk : Tok) (z : Nat) (tz : Tok) (n : Nat) (ps ps2 : Array Value) (im : List (Addr × Obj)) : List (Addr × Obj) :=
  (p, pileO dx vs ep) :: (dx, isD hs tk (.int z tz) n) :: (56, tabObj ps) :: (63, tabObj ps2) :: im
/-- the four objects that turn lie apart -/
structure Apart (p dx : Addr) : Prop where
  pd : dx ≠ p
  p56 : 56 ≠ p
  d56 : 56 ≠ dx
  p63 : 63 ≠ p
  d63 : 63 ≠ dx
structure Names (m : Str → Option Value) (p : Addr) (z n hn : Nat) (aS aH aK : Addr) (th tv tk : Tok) : Prop where
  pile : m "pile" = some (.ref p)
  head : m "head" = some (.int z th)
  value : m "value" = some (.int n tv)
  sizes : m "sizes" = some (.ref aS)
  hand : m "hand" = some (.ref aH)
  kept : m "kept" = some (.int hn tk)
  ksizes : m "kept_sizes" = some (.ref aK)
/-- the loop's invariant -/
def JLaw (p dx D : Addr) (ws : List Value) (i : Nat) (m : Str → Option Value) (led : List (Addr × Obj)) (gs : Array GenState) : Prop :=
  AllBare gs ∧ ∃ z qs hqs vs aS aH aK ep hs tk tz n ps ps2 im th tv tk', z ≤ 2 ∧ qs.length ≤ i ∧ hqs.length ≤ i ∧ led = ledOf p dx vs ep hs tk z tz n ps ps2 im ∧ TabOk p23 ps ∧ TabOk p26 ps2 ∧
    (∀ q ∈ im, q.1 ≠ p ∧ q.1 ≠ dx ∧ q.1 ≠ 56 ∧ q.1 ≠ 63) ∧ Hold im qs hqs vs aS aH aK ∧ ListIn im D ws ∧ Names m p z (dval (figs qs)) (dval (figs hqs)) aS aH aK th tv tk'
/-- what a deed leaves -/
def Deed (g : Heap) (L : Addr) (s : Shared) (It : Addr) (oI : Obj) (J : (Str → Option Value) → List (Addr × Obj) → Array GenState → Prop) (f : Flow) (s₃ : Shared) : Prop :=
  f = .next ∧ ∃ h' tk' gs' m' led', s₃ = { s with heap := h', toks := tk', gens := gs' } ∧ Fr g L h' m' ∧ News g L h' ((It, oI) :: led') ∧ (∀ q ∈ led', q.1 ≠ It) ∧ J m' led' gs'
def DeedSpec (w : World) (body : List Stmt) (scope : Scope) (Kc : Int → Int → Prop) : Prop :=
  ∀ (p' : Program) (loose : List Str) (mean : ExcName → Option Value) (mg mb : Str → Option Value) (un : Nat) (gd : Option (List Code)) (A₀ : Around) (base g : Heap) (outer : List Env) (L a : Addr) (cd : Value) (s : Shared) (It : Addr) (oI : Obj) (p dx D : Addr) (ws : List Value) (i : Nat) (m : Str → Option Value) (led : List (Addr × Obj)) (h : Heap) (tk : Nat) (gs : Array GenState) (kind rest : Int) (tkd trs : Tok),
    Below A₀ base outer g → Fr g L h m → (Mine.hd.heap_39 w.params).In g → Top p' loose mean mg mb g → News g L h ((It, oI) :: led) → (∀ q ∈ led, q.1 ≠ It) → Apart p dx → JLaw p dx D ws i m led gs → i ≤ 8 → un ≤ 100 → m "kind" = some (.int kind tkd) → m "rest" = some (.int rest trs) → Kc kind rest →
    wpAny (model PySem.Challenge.rw_nb0047_01.row.prog w) (ktrTop 302 un gd "law" scope L a cd [] outer) (execs body (envX "law" scope L a cd [])) (Deed g L s It oI (JLaw p dx D ws (i + 1))) (fun _ _ => False) { s with heap := h, toks := tk, gens := gs }
/-- the statements of the law's loop -/
structure Parts where
  scope : Scope
  B1 : List Stmt
  B2 : List Stmt
  B3 : List Stmt
  B4 : List Stmt
  B5 : List Stmt
def partsOf (K : Frag) : Parts := match K.lookup 143 with
  | some ⟨_, _, .func fd, _⟩ => (match fd.body with
    | .stmts (_ :: _ :: _ :: _ :: _ :: _ :: _ :: _ :: .For _ _ (_ :: _ :: .If _ B1 [.If _ B2 [.If _ B3 [.If _ B4 B5 _] _] _] _ :: _) _ _ :: _) => ⟨fd.scope, B1, B2, B3, B4, B5⟩
    | _ => ⟨fd.scope, [], [], [], [], []⟩)
  | _ => ⟨default, [], [], [], [], []⟩
theorem parts_of {w : World} {s1 s2 s3 s4 s5 s6 s7 s8 b1 b2 : Stmt} {t it c1 c2 c3 c4 : Expr} {B1 B2 B3 B4 B5 r r2 oe : List Stmt} {q1 q2 q3 q4 q5 : Pos} {scope : Scope} {name qual : Str} {params : Arguments} {cl : List (Str × Addr)} {dV kV doc pm cdv ct oc : Value} {an od : Option Addr} {osl : Array (Option Value)}
    (h : (Mine.hd.heap_39 w.params).lookup 143 = some ⟨oc, od, .func (fnX name qual params (s1 :: s2 :: s3 :: s4 :: s5 :: s6 :: s7 :: s8 :: .For t it (b1 :: b2 :: .If c1 B1 [.If c2 B2 [.If c3 B3 [.If c4 B4 B5 q4] q3] q2] q1 :: r) oe q5 :: r2) scope cl dV kV doc pm an cdv ct), osl⟩) :
    partsOf (Mine.hd.heap_39 w.params) = ⟨scope, B1, B2, B3, B4, B5⟩ := by
  unfold partsOf
  rw [h]
theorem b1_of {w : World} {sc : Scope} {B1 B2 B3 B4 B5 : List Stmt} {Kc : Int → Int → Prop} (h : partsOf (Mine.hd.heap_39 w.params) = ⟨sc, B1, B2, B3, B4, B5⟩) (x : DeedSpec w B1 sc Kc) : DeedSpec w (partsOf (Mine.hd.heap_39 w.params)).B1 (partsOf (Mine.hd.heap_39 w.params)).scope Kc := by rw [h]; exact x
theorem b2_of {w : World} {sc : Scope} {B1 B2 B3 B4 B5 : List Stmt} {Kc : Int → Int → Prop} (h : partsOf (Mine.hd.heap_39 w.params) = ⟨sc, B1, B2, B3, B4, B5⟩) (x : DeedSpec w B2 sc Kc) : DeedSpec w (partsOf (Mine.hd.heap_39 w.params)).B2 (partsOf (Mine.hd.heap_39 w.params)).scope Kc := by rw [h]; exact x
theorem b3_of {w : World} {sc : Scope} {B1 B2 B3 B4 B5 : List Stmt} {Kc : Int → Int → Prop} (h : partsOf (Mine.hd.heap_39 w.params) = ⟨sc, B1, B2, B3, B4, B5⟩) (x : DeedSpec w B3 sc Kc) : DeedSpec w (partsOf (Mine.hd.heap_39 w.params)).B3 (partsOf (Mine.hd.heap_39 w.params)).scope Kc := by rw [h]; exact x
theorem b4_of {w : World} {sc : Scope} {B1 B2 B3 B4 B5 : List Stmt} {Kc : Int → Int → Prop} (h : partsOf (Mine.hd.heap_39 w.params) = ⟨sc, B1, B2, B3, B4, B5⟩) (x : DeedSpec w B4 sc Kc) : DeedSpec w (partsOf (Mine.hd.heap_39 w.params)).B4 (partsOf (Mine.hd.heap_39 w.params)).scope Kc := by rw [h]; exact x
theorem b5_of {w : World} {sc : Scope} {B1 B2 B3 B4 B5 : List Stmt} {Kc : Int → Int → Prop} (h : partsOf (Mine.hd.heap_39 w.params) = ⟨sc, B1, B2, B3, B4, B5⟩) (x : DeedSpec w B5 sc Kc) : DeedSpec w (partsOf (Mine.hd.heap_39 w.params)).B5 (partsOf (Mine.hd.heap_39 w.params)).scope Kc := by rw [h]; exact x
/-- news after a contract that turned the objects at ls -/
theorem news_but {g h h' : Heap} {L : Addr} {led : List (Addr × Obj)} {ls : List Addr} (N : News g L h led) (k : KeepBut ls h h') (hl : ∀ q ∈ led, q.1 ∉ ls) : News g L h' led := fun q hq => ⟨k _ _ (hl q hq) (N q hq).1, (N q hq).2⟩
/-- the ledger after a contract that turned the pile and its dict -/
theorem turn_pd {g h h' : Heap} {L p dx : Addr} {m : Str → Option Value} {pre rest : List (Addr × Obj)} {o1 o2 o1' o2' : Obj} (F : Fr g L h m) (N : News g L h (pre ++ (p, o1) :: (dx, o2) :: rest)) (k : KeepBut [p, dx] h h') (e1 : h'.get? p = some o1') (e2 : h'.get? dx = some o2')
    (hp : ∀ q ∈ pre, q.1 ≠ p ∧ q.1 ≠ dx) (hr : ∀ q ∈ rest, q.1 ≠ p ∧ q.1 ≠ dx) : Fr g L h' m ∧ News g L h' (pre ++ (p, o1') :: (dx, o2') :: rest) := by
  have n1 := N (p, o1) (by simp)
  have n2 := N (dx, o2) (by simp)
  refine ⟨fr_but F k (fun D hD => ?_), fun q hq => ?_⟩
  · simp only [List.mem_cons, List.not_mem_nil, or_false] at hD
    rcases hD with rfl | rfl
    · exact n1.2
    · exact n2.2
  · rcases List.mem_append.mp hq with hq | hq
    · exact ⟨k _ _ (by simpa using hp q hq) (N q (List.mem_append_left _ hq)).1, (N q (List.mem_append_left _ hq)).2⟩
    · rcases List.mem_cons.mp hq with rfl | hq
      · exact ⟨e1, n1.2⟩
      · rcases List.mem_cons.mp hq with rfl | hq
        · exact ⟨e2, n2.2⟩
        · have := N q (List.mem_append_right _ (.tail _ (.tail _ hq)))
          exact ⟨k _ _ (by simpa using hr q hq) this.1, this.2⟩
theorem turn_p {g h h' : Heap} {L p : Addr} {m : Str → Option Value} {pre rest : List (Addr × Obj)} {o1 o1' : Obj} (F : Fr g L h m) (N : News g L h (pre ++ (p, o1) :: rest)) (k : KeepBut [p] h h') (e1 : h'.get? p = some o1')
    (hp : ∀ q ∈ pre, q.1 ≠ p) (hr : ∀ q ∈ rest, q.1 ≠ p) : Fr g L h' m ∧ News g L h' (pre ++ (p, o1') :: rest) := by
  have n1 := N (p, o1) (by simp)
  refine ⟨fr_but F k (fun D hD => ?_), fun q hq => ?_⟩
  · simp only [List.mem_cons, List.not_mem_nil, or_false] at hD
    rcases hD with rfl
    exact n1.2
  · rcases List.mem_append.mp hq with hq | hq
    · exact ⟨k _ _ (by simpa using hp q hq) (N q (List.mem_append_left _ hq)).1, (N q (List.mem_append_left _ hq)).2⟩
    · rcases List.mem_cons.mp hq with rfl | hq
      · exact ⟨e1, n1.2⟩
      · have := N q (List.mem_append_right _ (.tail _ hq))
        exact ⟨k _ _ (by simpa using hr q hq) this.1, this.2⟩
/-- one new object behind the four that turn -/
theorem new_in {pre : List (Addr × Obj)} {x It a b c d : Addr × Obj} {im : List (Addr × Obj)} {q : Addr × Obj} (hq : q ∈ It :: a :: b :: c :: d :: x :: im) : q ∈ pre ++ x :: ([It] ++ a :: b :: c :: d :: im) := by
  refine List.mem_append_right _ ?_
  simp only [List.mem_cons, List.mem_append, List.not_mem_nil, or_false] at hq ⊢
  rcases hq with h | h | h | h | h | h | h <;> simp [h]
theorem new_off {It l : Addr} {oI ol : Obj} {a b c d a' b' : Addr × Obj} {im : List (Addr × Obj)} (off : ∀ q ∈ a' :: b' :: c :: d :: im, q.1 ≠ It) (hl : ∀ q ∈ [(It, oI)] ++ a :: b :: c :: d :: im, q.1 < l) (ha : a.1 = a'.1 := by rfl) (hb : b.1 = b'.1 := by rfl) : ∀ q ∈ a :: b :: c :: d :: (l, ol) :: im, q.1 ≠ It := by
  have h0 := hl (It, oI) (.head _)
  intro q hq
  simp only [List.mem_cons] at hq
  rcases hq with h | h | h | h | h | h
  · rw [h, ha]; exact off _ (.head _)
  · rw [h, hb]; exact off _ (.tail _ (.head _))
  · rw [h]; exact off _ (.tail _ (.tail _ (.head _)))
  · rw [h]; exact off _ (.tail _ (.tail _ (.tail _ (.head _))))
  · rw [h]; exact Ne.symm (Nat.ne_of_lt h0)
  · exact off _ (.tail _ (.tail _ (.tail _ (.tail _ h))))
theorem new_off' {It l : Addr} {ol : Obj} {a b c d a' b' : Addr × Obj} {im : List (Addr × Obj)} (off : ∀ q ∈ a' :: b' :: c :: d :: im, q.1 ≠ It) (h0 : l ≠ It) (ha : a.1 = a'.1 := by rfl) (hb : b.1 = b'.1 := by rfl) : ∀ q ∈ a :: b :: c :: d :: (l, ol) :: im, q.1 ≠ It := by
  intro q hq
  simp only [List.mem_cons] at hq
  rcases hq with h | h | h | h | h | h
  · rw [h, ha]; exact off _ (.head _)
  · rw [h, hb]; exact off _ (.tail _ (.head _))
  · rw [h]; exact off _ (.tail _ (.tail _ (.head _)))
  · rw [h]; exact off _ (.tail _ (.tail _ (.tail _ (.head _))))
  · rw [h]; exact h0
  · exact off _ (.tail _ (.tail _ (.tail _ (.tail _ h))))
theorem new_in' {pre mid : List (Addr × Obj)} {x It a b c d : Addr × Obj} {im : List (Addr × Obj)} {q : Addr × Obj} (hq : q ∈ It :: a :: b :: c :: d :: x :: im) : q ∈ pre ++ x :: (mid ++ It :: a :: b :: c :: d :: im) := by
  refine List.mem_append_right _ ?_
  simp only [List.mem_cons, List.mem_append] at hq ⊢
  rcases hq with h | h | h | h | h | h | h <;> simp [h]
theorem ap_cons {l p dx : Addr} {o : Obj} {im : List (Addr × Obj)} (hap : ∀ q ∈ im, q.1 ≠ p ∧ q.1 ≠ dx ∧ q.1 ≠ 56 ∧ q.1 ≠ 63) (h1 : p ≠ l) (h2 : dx ≠ l) (h3 : (56 : Nat) ≠ l) (h4 : (63 : Nat) ≠ l) : ∀ q ∈ (l, o) :: im, q.1 ≠ p ∧ q.1 ≠ dx ∧ q.1 ≠ 56 ∧ q.1 ≠ 63 := by
  intro q hq
  rcases List.mem_cons.mp hq with rfl | hq
  · exact ⟨Ne.symm h1, Ne.symm h2, Ne.symm h3, Ne.symm h4⟩
  · exact hap q hq
theorem same_off {It : Addr} {a b c d a' b' : Addr × Obj} {im : List (Addr × Obj)} (off : ∀ q ∈ a' :: b' :: c :: d :: im, q.1 ≠ It) (ha : a.1 = a'.1 := by rfl) (hb : b.1 = b'.1 := by rfl) : ∀ q ∈ a :: b :: c :: d :: im, q.1 ≠ It := by
  intro q hq
  simp only [List.mem_cons] at hq
  rcases hq with h | h | h | h | h
  · rw [h, ha]; exact off _ (.head _)
  · rw [h, hb]; exact off _ (.tail _ (.head _))
  · rw [h]; exact off _ (.tail _ (.tail _ (.head _)))
  · rw [h]; exact off _ (.tail _ (.tail _ (.tail _ (.head _))))
  · exact off _ (.tail _ (.tail _ (.tail _ (.tail _ h))))
theorem new_ap {It l p dx : Addr} {oI ol o1 o2 o3 o4 : Obj} {im : List (Addr × Obj)} (_ : Apart p dx) (hap : ∀ q ∈ im, q.1 ≠ p ∧ q.1 ≠ dx ∧ q.1 ≠ 56 ∧ q.1 ≠ 63) (hl : ∀ q ∈ [(It, oI)] ++ (p, o1) :: (dx, o2) :: (56, o3) :: (63, o4) :: im, q.1 < l) : ∀ q ∈ (l, ol) :: im, q.1 ≠ p ∧ q.1 ≠ dx ∧ q.1 ≠ 56 ∧ q.1 ≠ 63 := by
  intro q hq
  rcases List.mem_cons.mp hq with rfl | hq
  · exact ⟨Ne.symm (Nat.ne_of_lt (hl (p, o1) (.tail _ (.head _)))), Ne.symm (Nat.ne_of_lt (hl (dx, o2) (.tail _ (.tail _ (.head _))))), Ne.symm (Nat.ne_of_lt (hl (56, o3) (.tail _ (.tail _ (.tail _ (.head _)))))), Ne.symm (Nat.ne_of_lt (hl (63, o4) (.tail _ (.tail _ (.tail _ (.tail _ (.head _)))))))⟩
  · exact hap q hq
theorem szN_le (n : Nat) : szN n ≤ 3 := by unfold szN; repeat' split
                                           all_goals omega
theorem totK_le : ∀ (qs : List (Nat × Nat)), totK (qs.map szP) ≤ 6 * qs.length
  | [] => by simp [totK]
  | q :: r => by
    have h1 := szN_le q.1
    have h2 := szN_le q.2
    have h3 := totK_le r
    simp only [totK, List.map_cons, List.sum_cons, List.length_cons, szP] at h3 ⊢
    omega
theorem fresh_news {g h : Heap} {L T : Addr} {m : Str → Option Value} (F : Fr g L h m) (e : h.get? T = none) : T ≠ L ∧ g.get? T = none := by
  refine ⟨fun q => ?_, ?_⟩
  · obtain ⟨oL, _, _, hL, _⟩ := F.ns
    rw [q, hL] at e; cases e
  · cases q : g.get? T with
    | none => rfl
    | some o => rw [F.keep _ _ q] at e; cases e
theorem ncons {g h : Heap} {L T : Addr} {o : Obj} {led : List (Addr × Obj)} (N : News g L h led) (e : h.get? T = some o) (f : T ≠ L ∧ g.get? T = none) : News g L h ((T, o) :: led) := fun q hq => by
  rcases List.mem_cons.mp hq with rfl | hq
  · exact ⟨e, f⟩
  · exact N q hq
theorem ntl {g h : Heap} {L : Addr} {a : Addr × Obj} {r : List (Addr × Obj)} (N : News g L h (a :: r)) : News g L h r := fun q hq => N q (.tail _ hq)
theorem ntl5 {g h : Heap} {L : Addr} {a b c d e : Addr × Obj} {r : List (Addr × Obj)} (N : News g L h (a :: b :: c :: d :: e :: r)) : News g L h r := ntl (ntl (ntl (ntl (ntl N))))
/-- the pile and its dict alone -/
theorem npd {g h : Heap} {L : Addr} {a b c : Addr × Obj} {r : List (Addr × Obj)} (N : News g L h (a :: b :: c :: r)) : News g L h [b, c] := fun q hq => N q (.tail _ (List.mem_of_mem_take (i := 2) (l := b :: c :: r) hq))
theorem Apart.tabs {p dx : Addr} (AP : Apart p dx) {ps ps2 : Array Value} {im : List (Addr × Obj)} (hap : ∀ q ∈ im, q.1 ≠ p ∧ q.1 ≠ dx ∧ q.1 ≠ 56 ∧ q.1 ≠ 63) : ∀ q ∈ ((56, tabObj ps) :: (63, tabObj ps2) :: im : List (Addr × Obj)), q.1 ≠ p ∧ q.1 ≠ dx := by
  intro q hq
  rcases List.mem_cons.mp hq with rfl | hq
  · exact ⟨AP.p56, AP.d56⟩
  · rcases List.mem_cons.mp hq with rfl | hq
    · exact ⟨AP.p63, AP.d63⟩
    · exact ⟨(hap q hq).1, (hap q hq).2.1⟩
end Mine
end
-- part Q1
section
open PySem PySem.W PyProof.Rows PySem.Calls PySem.Spec
set_option maxRecDepth 100000
set_option maxHeartbeats 4000000
namespace Mine
def datQ (q : Nat × Nat) : PySem.W.Dat := .tuple [.str (apStr q.1), .str (apStr q.2)]
theorem strOk_ap (n : Nat) : PyData.strOk (apStr n) = true := by
  have := ascii_digs' n
  unfold PyData.strOk
  rw [Array.all_eq_true']
  intro c hc
  have := this c (by simpa [apStr] using hc)
  simp; omega
theorem okQ (q : Nat × Nat) : kqdOk 8 (datQ q) = true := by simp [datQ, kqdOk, strOk_ap]
theorem reads_text {h : Heap} {v : Value} {q : Nat × Nat} (x : TextAt h v q) : ∃ as, Reads h v (kqdP (datQ q)) as := by
  obtain ⟨t1, t2, T, rfl, o, ho, hc, n, hd⟩ := x
  exact ⟨_, reads_tuple_at ho hc hd (.cons (.str _ _) (.cons (.str _ _) .nil))⟩
theorem reads_texts {h : Heap} : ∀ {vs : List Value} {qs : List (Nat × Nat)}, Paired (TextAt h) vs qs → ∃ as, ReadsAll h vs (kqdPs (qs.map datQ)) as
  | _, _, .nil => ⟨_, .nil⟩
  | _, _, .cons x r => by
    obtain ⟨a, h1⟩ := reads_text x
    obtain ⟨b, h2⟩ := reads_texts r
    exact ⟨_, .cons h1 h2⟩
theorem lay_q (q : Nat × Nat) : SeqAt.shaped (kqdP (datQ q)) = true := by
  have la := kqd_lay 8 (datQ q) (okQ q)
  unfold SeqAt.shaped; rw [la.1, Bool.true_and]; exact decide_eq_true (Nat.le_trans la.2 (by decide))
theorem lay_qs (qs : List (Nat × Nat)) : SeqAt.shaped (.list (kqdPs (qs.map datQ))) = true := by
  have la := kqd_lay 9 (.list (qs.map datQ)) (by simp only [kqdOk, List.all_eq_true, List.mem_map]; rintro _ ⟨q, _, rfl⟩; exact okQ q)
  rw [kqdP] at la
  unfold SeqAt.shaped; rw [la.1, Bool.true_and]; exact decide_eq_true (Nat.le_trans la.2 (by decide))
section
variable {prog : Program} {w : World} {A : Around} {E : Value → Shared → Prop} {s : Shared} {Q : Value → Shared → Prop}
theorem text_ne {v u : Value} {q : Nat × Nat} (h1 : TextAt s.heap v q) (h2 : TextAt s.heap u q) (hu : A.units + 64 < cLine) (h : Q (.bool false) s) : wpAny (model prog w) A (compareOp .NotEq v u) Q E s := by
  obtain ⟨as, ra⟩ := reads_text h1
  obtain ⟨bs, rb⟩ := reads_text h2
  refine ne_dataH ra rb (lay_q q) (lay_q q) hu ?_
  rw [(kqd_eqv 8 (datQ q) (datQ q) 8 (okQ q) (okQ q)).mpr rfl]
  exact h
theorem eqv_qs (qs : List (Nat × Nat)) : PyData.eqv (.list (kqdPs (qs.map datQ))) (.list (kqdPs (qs.map datQ))) = true := by
  have hk : kqdOk 9 (.list (qs.map datQ)) = true := by simp only [kqdOk, List.all_eq_true, List.mem_map]; rintro _ ⟨q, _, rfl⟩; exact okQ q
  have := (kqd_eqv 9 (.list (qs.map datQ)) (.list (qs.map datQ)) 9 hk hk).mpr rfl
  rwa [kqdP] at this
theorem texts_ne {a b : Addr} {qs : List (Nat × Nat)} (h1 : Texts s.heap a qs) (h2 : Texts s.heap b qs) (hu : A.units + 64 < cLine) (h : Q (.bool false) s) : wpAny (model prog w) A (compareOp .NotEq (.ref a) (.ref b)) Q E s := by
  obtain ⟨vs, ⟨o, ho, hc, n, hd⟩, p1⟩ := h1
  obtain ⟨us, ⟨o', ho', hc', n', hd'⟩, p2⟩ := h2
  obtain ⟨as, ra⟩ := reads_texts p1
  obtain ⟨bs, rb⟩ := reads_texts p2
  refine ne_dataH (reads_list_at ho hc hd (by simpa using ra)) (reads_list_at ho' hc' hd' (by simpa using rb)) (lay_qs qs) (lay_qs qs) hu ?_
  rw [eqv_qs]
  exact h
theorem texts_eq {a b : Addr} {qs : List (Nat × Nat)} (h1 : Texts s.heap a qs) (h2 : Texts s.heap b qs) (hu : A.units + 64 < cLine) (h : Q (.bool true) s) : wpAny (model prog w) A (compareOp .Eq (.ref a) (.ref b)) Q E s := by
  obtain ⟨vs, ⟨o, ho, hc, n, hd⟩, p1⟩ := h1
  obtain ⟨us, ⟨o', ho', hc', n', hd'⟩, p2⟩ := h2
  obtain ⟨as, ra⟩ := reads_texts p1
  obtain ⟨bs, rb⟩ := reads_texts p2
  refine eq_dataH (reads_list_at ho hc hd (by simpa using ra)) (reads_list_at ho' hc' hd' (by simpa using rb)) (lay_qs qs) (lay_qs qs) hu ?_
  rw [eqv_qs]
  exact h
end
theorem text_empty {h : Heap} {D : Addr} {t1 t2 : Tok} (e : h.get? D = some { cls := .type "tuple", data := .seq #[.str (Str.ofString "") t1, .str (Str.ofString "") t2] }) : TextAt h (.ref D) (0, 0) := by
  have e0 : apStr 0 = Str.ofString "" := by rw [apStr, digs]; decide +kernel
  exact ⟨t1, t2, D, rfl, _, e, rfl, _, by rw [e0]⟩
end Mine
end
-- part D4
section
open PySem PySem.W PyProof.Rows PySem.Calls
set_option maxRecDepth 100000
set_option maxHeartbeats 4000000
namespace Mine
section
local macro_rules | `(tactic| walk_at "call ref") => `(tactic| refine Halt.out ?_)
local macro_rules | `(tactic| walk_at "getMethod ref") => `(tactic| refine Halt.out ?_)
theorem deed4 (w : World) : DeedSpec w (partsOf (Mine.hd.heap_39 w.params)).B4 (partsOf (Mine.hd.heap_39 w.params)).scope (fun _ _ => True) := by
  refine And.left (b := PySem.Challenge.rw_nb0047_01 = PySem.Challenge.rw_nb0047_01) ?_
  k_fill
  w_on
  refine ⟨?_, rfl⟩
  refine' b4_of (parts_of ?h) ?s
  case h => k_is
  case s =>
    intro p' loose mean mg mb un gd A₀ base g outer L a cd s It oI p dx D ws i m led h tk gs kind rest tkd trs B F X T N off AP J hi hu hkd hrs _
    obtain ⟨G, z, qs, hqs, vs, aS, aH, aK, ep, hs, tk0, tz, n0, ps, ps2, im, th, tv, tkk, hz, hql, hhl, rfl, ok, ok2, hap, HO, hD, NM⟩ := J
    replace F := fr_ov F [("pile", .ref p), ("head", .int z th), ("value", .int (dval (figs qs)) tv), ("sizes", .ref aS), ("hand", .ref aH), ("kept", .int (dval (figs hqs)) tkk), ("kept_sizes", .ref aK)] (List.forall_mem_cons.mpr ⟨NM.pile, List.forall_mem_cons.mpr ⟨NM.head, List.forall_mem_cons.mpr ⟨NM.value, List.forall_mem_cons.mpr ⟨NM.sizes, List.forall_mem_cons.mpr ⟨NM.hand, List.forall_mem_cons.mpr ⟨NM.kept, List.forall_mem_cons.mpr ⟨NM.ksizes, fun _ h => nomatch h⟩⟩⟩⟩⟩⟩⟩)
    dsimp only [kstB] at F
    k_steps
    refine Halt.mk ?_
    rename Fr _ _ _ _ => F1
    rename News _ _ _ _ => N1
    have hvl : vs.length ≤ 100 := by rw [HO.texts.length]; omega
    refine method_p (X.keeps F1.keep) (inst_pile (N1 _ (.tail _ (.head _))).1 (N1 _ (.tail _ (.tail _ (.head _)))).1) (f_reset _) (f_fn _ (by decide)) rfl ?_
    k_steps
    refine Halt.mk ?_
    refine reset_none (.mk B F1 X T (fun q hq => N1 q (.tail _ (List.mem_of_mem_take (i := 2) (l := ledOf p dx vs ep hs tk0 z tz n0 ps ps2 im) hq))) rfl) (by decide) (by have : cLine = 9900 := rfl; omega) AP.pd hvl ?_
    intro h2 tk2 ep2 t2 k2 e1 e2
    have oIt := off
    obtain ⟨F2, N2⟩ := turn_pd (pre := [(It, oI)]) F1 N1 k2 e1 e2 (fun q hq => by
      rw [List.mem_singleton.mp hq]
      exact ⟨Ne.symm (off _ (.head _)), Ne.symm (off _ (.tail _ (.head _)))⟩) (AP.tabs hap)
    clear F1 N1
    dsimp only
    k_steps
    rename Fr _ _ _ _ => F3
    rename News _ _ _ _ => N3
    rename_i l h5 l1 D2 h4 l2 h6 h7 h8 h9
    refine ⟨rfl, _, _, gs, _, ledOf p dx [] ep2 hs tk0 0 t2 n0 ps ps2 ((l, W.listOf #[] 0) :: im), rfl, F3, ?_, ?_, G, 0, [], hqs, [], l, aH, aK, ep2, hs, tk0, t2, n0, ps, ps2, _, _, _, _, by omega, by simp, by omega, rfl, ok, ok2, ?_, ?_, hD.sub fun q hq => .tail _ hq, ⟨rfl, rfl, rfl, rfl, rfl, rfl, rfl⟩⟩
    · exact fun q hq => N3 q (new_in (pre := [_]) hq)
    · exact new_off off l1
    · exact new_ap AP hap l1
    · have HO' := HO.sub (im' := (l, W.listOf #[] 0) :: im) fun q hq => .tail _ hq
      exact ⟨(fun x hx => nomatch hx), HO'.hsmall, .nil, HO'.hand, ⟨[], ⟨0, .head _⟩, .nil⟩, HO'.kept⟩
end
end Mine
end
-- part D5
section
open PySem PySem.W PyProof.Rows PySem.Calls
set_option maxRecDepth 100000
set_option maxHeartbeats 4000000
namespace Mine
section
local macro_rules | `(tactic| walk_at "call ref") => `(tactic| refine Halt.out ?_)
local macro_rules | `(tactic| walk_at "getMethod ref") => `(tactic| refine Halt.out ?_)
theorem deed5 (w : World) : DeedSpec w (partsOf (Mine.hd.heap_39 w.params)).B5 (partsOf (Mine.hd.heap_39 w.params)).scope (fun _ _ => True) := by
  refine And.left (b := PySem.Challenge.rw_nb0047_01 = PySem.Challenge.rw_nb0047_01) ?_
  k_fill
  w_on
  refine ⟨?_, rfl⟩
  refine' b5_of (parts_of ?h) ?s
  case h => k_is
  case s =>
    intro p' loose mean mg mb un gd A₀ base g outer L a cd s It oI p dx D ws i m led h tk gs kind rest tkd trs B F X T N off AP J hi hu hkd hrs _
    obtain ⟨G, z, qs, hqs, vs, aS, aH, aK, ep, hs, tk0, tz, n0, ps, ps2, im, th, tv, tkk, hz, hql, hhl, rfl, ok, ok2, hap, HO, hD, NM⟩ := J
    replace F := fr_ov F [("pile", .ref p), ("head", .int z th), ("value", .int (dval (figs qs)) tv), ("sizes", .ref aS), ("hand", .ref aH), ("kept", .int (dval (figs hqs)) tkk), ("kept_sizes", .ref aK)] (List.forall_mem_cons.mpr ⟨NM.pile, List.forall_mem_cons.mpr ⟨NM.head, List.forall_mem_cons.mpr ⟨NM.value, List.forall_mem_cons.mpr ⟨NM.sizes, List.forall_mem_cons.mpr ⟨NM.hand, List.forall_mem_cons.mpr ⟨NM.kept, List.forall_mem_cons.mpr ⟨NM.ksizes, fun _ h => nomatch h⟩⟩⟩⟩⟩⟩⟩)
    dsimp only [kstB] at F
    k_steps
    refine Halt.mk ?_
    rename Fr _ _ _ _ => F1
    rename News _ _ _ _ => N1
    have hvl : vs.length ≤ 100 := by rw [HO.texts.length]; omega
    refine method_p (X.keeps F1.keep) (inst_pile (N1 _ (.tail _ (.head _))).1 (N1 _ (.tail _ (.tail _ (.head _)))).1) (f_reset _) (f_fn _ (by decide)) rfl ?_
    k_steps
    refine Halt.mk ?_
    obtain ⟨hvs, hH, hHp⟩ := HO.hand
    have Nim : News g L h im := fun q hq => N1 q (.tail _ (.tail _ (.tail _ (.tail _ (.tail _ hq)))))
    have hHa : ∃ o, (aH, o) ∈ im := let ⟨_, q⟩ := hH; ⟨_, q⟩
    obtain ⟨oH, hHa⟩ := hHa
    refine reset_hand (.mk B F1 X T (fun q hq => N1 q (.tail _ (List.mem_of_mem_take (i := 2) (l := ledOf p dx vs ep hs tk0 z tz n0 ps ps2 im) hq))) rfl) (by decide) (by have : cLine = 9900 := rfl; omega) AP.pd hvl (hH.at Nim) (hap _ hHa).1 (hap _ hHa).2.1 (by rw [hHp.length]; omega) ?_
    intro h2 tk2 ep2 t2 k2 e1 e2
    obtain ⟨F2, N2⟩ := turn_pd (pre := [(It, oI)]) F1 N1 k2 e1 e2 (fun q hq => by
      rw [List.mem_singleton.mp hq]
      exact ⟨Ne.symm (off _ (.head _)), Ne.symm (off _ (.tail _ (.head _)))⟩) (AP.tabs hap)
    clear F1 N1
    dsimp only
    k_steps
    rename Fr _ _ _ _ => F3
    rename News _ _ _ _ => N3
    refine ⟨rfl, _, _, gs, _, ledOf p dx hvs ep2 hs tk0 0 t2 n0 ps ps2 im, rfl, F3, ?_, ?_, G, 0, hqs, hqs, hvs, aK, aH, aK, ep2, hs, tk0, t2, n0, ps, ps2, _, _, _, _, by omega, by omega, by omega, rfl, ok, ok2, hap, ?_, hD, ⟨rfl, rfl, rfl, rfl, rfl, rfl, rfl⟩⟩
    · exact fun q hq => N3 q (.tail _ hq)
    · exact same_off off
    · exact ⟨HO.hsmall, HO.hsmall, hHp, HO.hand, HO.kept, HO.kept⟩
end
end Mine
end
-- part D2
section
open PySem PySem.W PyProof.Rows PySem.Calls
set_option maxRecDepth 100000
set_option maxHeartbeats 4000000
namespace Mine
theorem psnoc {α β : Type} {R : α → β → Prop} {l : List α} {l' : List β} {b : β} (h : Paired R l (l' ++ [b])) : ∃ k a, l = k ++ [a] ∧ Paired R k l' ∧ R a b := by
  induction l' generalizing l with
  | nil =>
    cases h with
    | cons x r => cases r; exact ⟨[], _, rfl, .nil, x⟩
  | cons c l' ih =>
    cases h with
    | cons x r =>
      obtain ⟨k, a, e, h1, h2⟩ := ih r
      exact ⟨_ :: k, a, by rw [e]; rfl, .cons x h1, h2⟩
theorem clip_last (n : Nat) : clipAt (n + 1) (-1) = n := by
  unfold clipAt
  rw [if_pos (by omega)]
  omega
theorem slice_last (k : List Value) (y : Value) : (slicePick (k ++ [y]).toArray (some (-1)) none none).toList = [y] := by
  rw [slicePick_plain]
  simp only [Option.elim, List.size_toArray, List.length_append, List.length_singleton, clip_last]
  simp
theorem slice_init (k : List Value) (y : Value) : (slicePick (k ++ [y]).toArray none (some (-1)) none).toList = k := by
  rw [slicePick_plain]
  simp only [Option.elim, List.size_toArray, List.length_append, List.length_singleton, clip_last]
  simp
section
local macro_rules | `(tactic| walk_at "call ref") => `(tactic| refine Halt.out ?_)
local macro_rules | `(tactic| walk_at "getMethod ref") => `(tactic| refine Halt.out ?_)
local macro_rules | `(tactic| walk_at "truthy ref") => `(tactic| refine Halt.out ?_)
local macro_rules | `(tactic| walk_at "ite") => `(tactic| refine Halt.out ?_)
local macro_rules | `(tactic| walk_at "compareOp NotEq ref ref") => `(tactic| refine Halt.out ?_)
local macro_rules | `(tactic| walk_at "subscriptTail") => `(tactic| refine Halt.out ?_)
local macro_rules | `(tactic| walk_at "call builtin:divmod") => `(tactic| refine Halt.out ?_)
theorem deed2 (w : World) : DeedSpec w (partsOf (Mine.hd.heap_39 w.params)).B2 (partsOf (Mine.hd.heap_39 w.params)).scope (fun _ _ => True) := by
  refine And.left (b := PySem.Challenge.rw_nb0047_01 = PySem.Challenge.rw_nb0047_01) ?_
  k_fill
  w_on
  refine ⟨?_, rfl⟩
  refine' b2_of (parts_of ?h) ?s
  case h => k_is
  case s =>
    intro p' loose mean mg mb un gd A₀ base g outer L a cd s It oI p dx D ws i m led h tk gs kind rest tkd trs B F X T N off AP J hi hu hkd hrs _
    obtain ⟨G, z, qs, hqs, vs, aS, aH, aK, ep, hs, tk0, tz, n0, ps, ps2, im, th, tv, tkk, hz, hql, hhl, rfl, ok, ok2, hap, HO, hD, NM⟩ := J
    replace F := fr_ov F [("pile", .ref p), ("head", .int z th), ("value", .int (dval (figs qs)) tv), ("sizes", .ref aS), ("hand", .ref aH), ("kept", .int (dval (figs hqs)) tkk), ("kept_sizes", .ref aK)] (List.forall_mem_cons.mpr ⟨NM.pile, List.forall_mem_cons.mpr ⟨NM.head, List.forall_mem_cons.mpr ⟨NM.value, List.forall_mem_cons.mpr ⟨NM.sizes, List.forall_mem_cons.mpr ⟨NM.hand, List.forall_mem_cons.mpr ⟨NM.kept, List.forall_mem_cons.mpr ⟨NM.ksizes, fun _ h => nomatch h⟩⟩⟩⟩⟩⟩⟩)
    dsimp only [kstB] at F
    have hvl : vs.length ≤ 100 := by rw [HO.texts.length]; omega
    have cl : cLine = 9900 := rfl
    k_steps
    refine Halt.mk ?_
    rename Fr _ _ _ _ => F1
    rename News _ _ _ _ => N1
    rename_i Tt h1 lT h2
    obtain ⟨svs, hS, hSp⟩ := HO.sizes
    have Nim : News g L h2 im := fun q hq => N1 q (.tail _ (.tail _ (.tail _ (.tail _ (.tail _ (.tail _ hq))))))
    have NP : News g L h2 [(p, pileO dx vs ep), (dx, isD hs tk0 (.int z tz) n0)] := fun q hq => N1 q (.tail _ (.tail _ (List.mem_of_mem_take (i := 2) (l := ledOf p dx vs ep hs tk0 z tz n0 ps ps2 im) hq)))
    rcases List.eq_nil_or_concat qs with hq0 | ⟨qs', q, hq0⟩
    · subst hq0
      have hs0 : svs = [] := List.eq_nil_of_length_eq_zero (by rw [hSp.length]; rfl)
      have hv0 : vs = [] := List.eq_nil_of_length_eq_zero (by rw [HO.texts.length]; rfl)
      subst hs0 hv0
      refine wpAny_truthy_list (hS.at Nim) (by decide) ?_
      rw [if_neg (by simp)]
      k_steps
      refine Halt.mk ?_
      refine method_p (X.keeps F1.keep) (inst_pile (NP _ (.head _)).1 (NP _ (.tail _ (.head _))).1) (f_pop _) (f_fn _ (by decide)) rfl ?_
      k_steps
      refine Halt.mk ?_
      refine pop_spec (.mk B F1 X T NP rfl) (by decide) (by omega) rfl (by decide) AP.pd ?_ (fun us x e => absurd e (by simp))
      intro _ h3 tk3 D3 t1 t2 k3 e3
      replace F1 := Fr.keepK F1 k3
      replace N1 := News.keepK N1 k3
      dsimp only
      k_steps
      refine Halt.mk ?_
      refine text_ne (text_empty e3) (text_empty (N1 _ (.head _)).1) (by show un + 64 < _; omega) ?_
      k_steps
      refine Halt.mk ?_
      rw [if_neg (by simp)]
      k_steps
      refine ⟨rfl, _, _, gs, _, ledOf p dx [] ep hs tk0 z tz n0 ps ps2 im, rfl, F1, (fun q hq => N1 q (.tail _ hq)), off, G, z, [], hqs, [], aS, aH, aK, ep, hs, tk0, tz, n0, ps, ps2, _, _, _, _, hz, by simp, by omega, rfl, ok, ok2, hap, HO, hD, ⟨rfl, rfl, rfl, rfl, rfl, rfl, rfl⟩⟩
    · rw [List.concat_eq_append] at hq0
      subst hq0
      obtain ⟨svs', y, rfl, hSp', hy⟩ := psnoc (show Paired (SizeIn im) svs (qs'.map szP ++ [szP q]) by simpa using hSp)
      obtain ⟨vs', x, rfl, hTp', hx⟩ := psnoc HO.texts
      have hsm : Small [q] := fun r hr => HO.small r (by simp [List.mem_singleton.mp hr])
      have hsl : svs'.length ≤ 100 := by rw [hSp'.length, List.length_map]; simp at hql; omega
      refine wpAny_truthy_list (hS.at Nim) (by simp; omega) ?_
      rw [if_pos (by simp)]
      k_steps
      refine Halt.mk ?_
      refine kmk_slice_lit (s := ⟨_, _, _, _, _⟩) (zs := [y]) F1 N1 (hS.at Nim) (IsPart.int _ _) .none (slice_last _ _) ?_ (by with_unfolding_all rfl) (by intro _; with_unfolding_all rfl) (by rw [List.size_toArray, sizeLine_eq]; simp; omega)
      clear F1 N1
      intro Z h3 F3 N3 l3
      k_steps
      refine Halt.mk ?_
      refine lawtotal_spec (ks := [szP q]) (.mk B F3 X T (fun _ h => nomatch h) rfl) (by decide) (by omega) ⟨[y], ⟨_, (N3 _ (.head _)).1, rfl, _, rfl⟩, .cons (hy.at (ntl5 (ntl (ntl N3)))) .nil⟩ (by simp) ?_
      intro h4 tk4 t4 k4
      replace F3 := Fr.keepK F3 k4
      replace N3 := News.keepK N3 k4
      have htb : totK [szP q] ≤ 6 := totK_le [q]
      dsimp only
      k_steps
      refine Halt.mk ?_
      refine divmod_nat (a := dval (figs (qs' ++ [q]))) (b := 16 ^ totK [szP q]) rfl (by rw [pow16]; rfl) (pow16_pos _) (log16 (by omega)) F3 N3 ?_
      clear F3 N3
      rw [show 16 ^ totK [szP q] = 16 ^ totK ([q].map szP) from rfl, val_div hsm, val_mod hsm]
      intro D7 h7 t71 t72 tk7 F7 N7 l7
      k_steps
      refine Halt.mk ?_
      rename Fr _ _ _ _ => F8
      rename News _ _ _ _ => N8
      refine kmk_slice_lit (s := ⟨_, _, _, _, _⟩) (zs := [y]) F8 N8 (hS.at (ntl5 (ntl (ntl (ntl N8))))) (IsPart.int _ _) .none (slice_last _ _) ?_ (by with_unfolding_all rfl) (by intro _; with_unfolding_all rfl) (by rw [List.size_toArray, sizeLine_eq]; simp; omega)
      clear F8 N8
      intro Z9 h9 F9 N9 l9
      k_steps
      refine Halt.mk ?_
      have hdq : (digs (dval (figs [q]))).length ≤ 1000 := by
        rw [digs_figs, ← tot_figs hsm]
        exact Nat.le_trans htb (by decide)
      refine lawpairs_spec (ks := [szP q]) (.mk B F9 X T (fun _ h => nomatch h) rfl) (by decide) (by omega) ⟨[y], ⟨_, (N9 _ (.head _)).1, rfl, _, rfl⟩, .cons (hy.at (ntl5 (ntl (ntl (ntl (ntl N9)))))) .nil⟩ (by simp) (by
        intro k hk
        rw [List.mem_singleton.mp hk]
        exact ⟨szN_le _, szN_le _⟩) hdq ?_
      intro h10 tk10 r10 k10 e10 x10
      rw [show pairsOf (dval (figs [q])) [szP q] = [q] from pairs_figs hsm] at x10
      obtain ⟨rvs, hr, hrp⟩ := x10
      obtain ⟨v10, rfl, hv10, hf10⟩ : ∃ v, rvs = [v] ∧ TextAt h10 v q ∧ ∀ T, v = .ref T → h9.get? T = none := by
        cases hrp with
        | cons x r => cases r; exact ⟨_, rfl, x⟩
      obtain ⟨u1, u2, T10, rfl, o10, ho10, hc10, n10, hd10⟩ := hv10
      have f10 := fresh_news F9 (hf10 _ rfl)
      have hold9 : ∀ q ∈ ((It, oI) :: ledOf p dx (vs' ++ [x]) ep hs tk0 z tz n0 ps ps2 im), h9.get? q.1 = some q.2 := fun q hq => (N9 q (.tail _ (.tail _ (.tail _ (.tail _ hq))))).1
      replace F9 := Fr.keepK F9 k10
      replace N9 := ncons (News.keepK N9 k10) ho10 f10
      dsimp only
      k_steps
      refine Halt.mk ?_
      refine tail_any hr.typeIs slot_list_getitem.lookup (wpAny_getItem_list hr (by decide) (by decide) (x := .ref T10) rfl ?_) (by with_unfolding_all rfl)
      k_steps
      refine Halt.mk ?_
      rename Fr _ _ _ _ => F11
      rename News _ _ _ _ => N11
      refine kmk_slice_lit (s := ⟨_, _, _, _, _⟩) (zs := svs') F11 N11 (hS.at (ntl5 (ntl (ntl (ntl (ntl (ntl N11))))))) .none (IsPart.int _ _) (slice_init _ _) ?_ (by with_unfolding_all rfl) (by intro _; with_unfolding_all rfl) (by rw [List.size_toArray, sizeLine_eq]; simp; omega)
      clear F11 N11
      intro Z12 h12 F12 N12 l12
      have hT10 : ∀ q ∈ ((It, oI) :: ledOf p dx (vs' ++ [x]) ep hs tk0 z tz n0 ps ps2 im), q.1 ≠ T10 := fun q hq e => by
        have := (N12 q (.tail _ (.tail _ (.tail _ (.tail _ (.tail _ (.tail _ hq)))))) ).1
        have := hold9 q hq
        rw [e, hf10 _ rfl] at this
        cases this
      have lZ : ∀ q ∈ ((It, oI) :: ledOf p dx (vs' ++ [x]) ep hs tk0 z tz n0 ps ps2 im), q.1 < Z12 := fun q hq => l12 q (.tail _ (.tail _ (.tail _ (.tail _ (.tail _ hq)))))
      replace N12 : News g L h12 ((Z12, W.listOf svs'.toArray 0) :: (T10, o10) :: (It, oI) :: ledOf p dx (vs' ++ [x]) ep hs tk0 z tz n0 ps ps2 im) := fun q hq => by
        rcases List.mem_cons.mp hq with e | hq
        · exact N12 q (e ▸ .head _)
        · rcases List.mem_cons.mp hq with e | hq
          · exact N12 q (e ▸ .tail _ (.head _))
          · exact N12 q (.tail _ (.tail _ (.tail _ (.tail _ (.tail _ (.tail _ hq))))))
      k_steps
      refine Halt.mk ?_
      rename Fr _ _ _ _ => F13
      rename News _ _ _ _ => N13
      refine method_p (X.keeps F13.keep) (inst_pile (npd (ntl (ntl N13)) _ (.head _)).1 (npd (ntl (ntl N13)) _ (.tail _ (.head _))).1) (f_pop _) (f_fn _ (by decide)) rfl ?_
      k_steps
      refine Halt.mk ?_
      refine pop_spec (.mk B F13 X T (npd (ntl (ntl N13))) rfl) (by decide) (by omega) rfl (by omega) AP.pd (fun e => absurd e (by simp)) ?_
      intro us x' e h14 tk14 ep14 k14 e14
      obtain ⟨e1, e2⟩ := List.append_inj' e rfl
      cases e2
      subst e1
      obtain ⟨F14, N14⟩ := turn_p (pre := [_, _, _]) F13 N13 k14 e14 (by
        intro q hq
        rcases List.mem_cons.mp hq with e | hq
        · rw [e]; exact Ne.symm (Nat.ne_of_lt (lZ _ (.tail _ (.head _))))
        · rcases List.mem_cons.mp hq with e | hq
          · rw [e]; exact Ne.symm (hT10 _ (.tail _ (.head _)))
          · rw [List.mem_singleton.mp hq]; exact Ne.symm (off _ (.head _))) (by
        intro q hq
        rcases List.mem_cons.mp hq with e | hq
        · rw [e]; exact AP.pd
        · exact (AP.tabs hap q hq).1)
      clear F13 N13
      dsimp only
      k_steps
      refine Halt.mk ?_
      refine text_ne (hx.at (ntl5 (ntl (ntl N14)))) ⟨u1, u2, T10, rfl, o10, (N14 _ (.tail _ (.head _))).1, hc10, n10, hd10⟩ (by show un + 64 < _; omega) ?_
      k_steps
      refine Halt.mk ?_
      rw [if_neg (by simp)]
      k_steps
      have HO' := HO.sub (im' := (Z12, W.listOf svs'.toArray 0) :: im) fun q hq => .tail _ hq
      refine ⟨rfl, _, _, gs, _, ledOf p dx vs' ep14 hs tk0 z tz n0 ps ps2 ((Z12, W.listOf svs'.toArray 0) :: im), rfl, F14, ?_, ?_, G, z, qs', hqs, vs', Z12, aH, aK, ep14, hs, tk0, tz, n0, ps, ps2, _, _, _, _, hz, by simp at hql; omega, by omega, rfl, ok, ok2, ?_, ?_, hD.sub fun q hq => .tail _ hq, ⟨rfl, rfl, rfl, rfl, rfl, rfl, rfl⟩⟩
      · exact fun q hq => N14 q (new_in' (pre := []) (mid := [_]) hq)
      · exact new_off' off (Ne.symm (Nat.ne_of_lt (lZ _ (.head _))))
      · exact new_ap AP hap lZ
      · exact ⟨fun r hr => HO.small r (List.mem_append_left _ hr), HO'.hsmall, pmono hTp' fun _ _ y => y.sub fun q hq => .tail _ hq, HO'.hand, ⟨svs', ⟨0, .head _⟩, pmono hSp' fun _ _ y => y.sub fun q hq => .tail _ hq⟩, HO'.kept⟩
end
end Mine
end
-- part D3
section
open PySem PySem.W PyProof.Rows PySem.Calls
set_option maxRecDepth 100000
set_option maxHeartbeats 4000000
namespace Mine
theorem slice_from (k : List Value) (i : Int) : (slicePick k.toArray (some i) none none).toList = k.drop (clipAt k.length i) := by
  rw [slicePick_plain]
  simp only [Option.elim, List.size_toArray]
  rw [List.take_of_length_le (by simp)]
theorem slice_to (k : List Value) (i : Int) : (slicePick k.toArray none (some i) none).toList = k.take (clipAt k.length i) := by
  rw [slicePick_plain]
  simp [Option.elim]
section
local macro_rules | `(tactic| walk_at "call ref") => `(tactic| refine Halt.out ?_)
local macro_rules | `(tactic| walk_at "getMethod ref") => `(tactic| refine Halt.out ?_)
local macro_rules | `(tactic| walk_at "subscriptTail") => `(tactic| refine Halt.out ?_)
local macro_rules | `(tactic| walk_at "call builtin:divmod") => `(tactic| refine Halt.out ?_)
local macro_rules | `(tactic| walk_at "call builtin:len") => `(tactic| refine Halt.out ?_)
local macro_rules | `(tactic| walk_at "binaryOp Mod int int") => `(tactic| refine Halt.out ?_)
theorem deed3 (w : World) : DeedSpec w (partsOf (Mine.hd.heap_39 w.params)).B3 (partsOf (Mine.hd.heap_39 w.params)).scope (fun _ _ => True) := by
  refine And.left (b := PySem.Challenge.rw_nb0047_01 = PySem.Challenge.rw_nb0047_01) ?_
  k_fill
  w_on
  refine ⟨?_, rfl⟩
  refine' b3_of (parts_of ?h) ?s
  case h => k_is
  case s =>
    intro p' loose mean mg mb un gd A₀ base g outer L a cd s It oI p dx D ws i m led h tk gs kind rest tkd trs B F X T N off AP J hi hu hkd hrs _
    obtain ⟨G, z, qs, hqs, vs, aS, aH, aK, ep, hs, tk0, tz, n0, ps, ps2, im, th, tv, tkk, hz, hql, hhl, rfl, ok, ok2, hap, HO, hD, NM⟩ := J
    replace F := fr_ov F [("rest", .int rest trs), ("pile", .ref p), ("head", .int z th), ("value", .int (dval (figs qs)) tv), ("sizes", .ref aS), ("hand", .ref aH), ("kept", .int (dval (figs hqs)) tkk), ("kept_sizes", .ref aK)] (List.forall_mem_cons.mpr ⟨hrs, List.forall_mem_cons.mpr ⟨NM.pile, List.forall_mem_cons.mpr ⟨NM.head, List.forall_mem_cons.mpr ⟨NM.value, List.forall_mem_cons.mpr ⟨NM.sizes, List.forall_mem_cons.mpr ⟨NM.hand, List.forall_mem_cons.mpr ⟨NM.kept, List.forall_mem_cons.mpr ⟨NM.ksizes, fun _ h => nomatch h⟩⟩⟩⟩⟩⟩⟩⟩)
    dsimp only [kstB] at F
    have hvl : vs.length ≤ 100 := by rw [HO.texts.length]; omega
    have cl : cLine = 9900 := rfl
    obtain ⟨svs, hS, hSp⟩ := HO.sizes
    have hsv : svs.length = vs.length := by rw [hSp.length, HO.texts.length, List.length_map]
    k_steps
    refine Halt.mk ?_
    refine call_len_list (hS.at (ntl5 N)) (by rw [List.size_toArray]; omega) ?_
    rw [List.size_toArray, hsv]
    k_steps
    refine Halt.mk ?_
    refine mod_int' (by omega) ?_
    k_steps
    refine Halt.mk ?_
    refine call_len_list (hS.at (ntl5 N)) (by rw [List.size_toArray]; omega) ?_
    rw [List.size_toArray, hsv]
    k_steps
    refine Halt.mk ?_
    rename Fr _ _ _ _ => F1
    rename News _ _ _ _ => N1
    refine method_p (X.keeps F1.keep) (inst_pile (npd N1 _ (.head _)).1 (npd N1 _ (.tail _ (.head _))).1) (f_pop_from _) (f_fn _ (by decide)) rfl ?_
    k_steps
    refine Halt.mk ?_
    dsimp only at F1
    generalize rest.fmod (2 * (vs.length : Int) + 3) - (vs.length : Int) - 1 = pl at F1 ⊢
    refine popfrom_spec (.mk B F1 X T (fun q hq => npd N1 q (List.mem_of_mem_take (i := 1) (l := [_, _]) hq)) rfl) (.inl rfl) (by decide) (by omega) (npd N1 _ (.tail _ (.head _))).1 AP.pd hvl ?_
    intro h2 tk2 ep2 R k2 e2 eP eR
    have fR := fresh_news F1 e2
    have hRne : ∀ q ∈ ((It, oI) :: ledOf p dx vs ep hs tk0 z tz n0 ps ps2 im), q.1 ≠ R := fun q hq e => by
      have := (N1 q hq).1
      rw [e, e2] at this
      cases this
    obtain ⟨F2, N2⟩ := turn_p (pre := [(It, oI)]) F1 N1 k2 eP (fun q hq => by
      rw [List.mem_singleton.mp hq]; exact Ne.symm (off _ (.head _))) (by
      intro q hq
      rcases List.mem_cons.mp hq with e | hq
      · rw [e]; exact AP.pd
      · exact (AP.tabs hap q hq).1)
    replace N2 := ncons N2 eR fR
    clear F1 N1
    generalize hcc : clipAt vs.length pl = cc at F2 N2 eP eR
    dsimp only
    k_steps
    refine Halt.mk ?_
    rename Fr _ _ _ _ => F3
    rename News _ _ _ _ => N3
    refine kmk_slice_lit (s := ⟨_, _, _, _, _⟩) (zs := svs.drop cc) F3 N3 (hS.at (ntl5 (ntl N3))) (IsPart.int _ _) .none (by rw [slice_from, hsv, hcc]) ?_ (by with_unfolding_all rfl) (by intro _; with_unfolding_all rfl) (by rw [List.size_toArray, sizeLine_eq]; omega)
    clear F3 N3
    intro KS h4 F4 N4 l4
    k_steps
    refine Halt.mk ?_
    rename Fr _ _ _ _ => F5
    rename News _ _ _ _ => N5
    refine kmk_slice_lit (s := ⟨_, _, _, _, _⟩) (zs := svs.take cc) F5 N5 (hS.at (ntl5 (ntl (ntl N5)))) .none (IsPart.int _ _) (by rw [slice_to, hsv, hcc]) ?_ (by with_unfolding_all rfl) (by intro _; with_unfolding_all rfl) (by rw [List.size_toArray, sizeLine_eq]; omega)
    clear F5 N5
    intro SS h6 F6 N6 l6
    k_steps
    refine Halt.mk ?_
    rename Fr _ _ _ _ => F7
    rename News _ _ _ _ => N7
    have hkp : Paired (SizeIn im) (svs.drop cc) ((qs.drop cc).map szP) := by
      have := Mine.Paired.drop cc hSp
      rwa [← List.map_drop] at this
    have hqd : Small (qs.drop cc) := fun q hq => HO.small q (List.mem_of_mem_drop hq)
    have hqt : Small (qs.take cc) := fun q hq => HO.small q (List.mem_of_mem_take hq)
    refine lawtotal_spec (ks := (qs.drop cc).map szP) (.mk B F7 X T (fun _ h => nomatch h) rfl) (by decide) (by omega) ⟨svs.drop cc, ⟨_, (N7 _ (.tail _ (.head _))).1, rfl, _, rfl⟩, pmono hkp fun _ _ y => y.at (ntl5 (ntl (ntl (ntl N7))))⟩ (by simp; omega) ?_
    intro h8 tk8 t8 k8
    replace F7 := Fr.keepK F7 k8
    replace N7 := News.keepK N7 k8
    have htb : totK ((qs.drop cc).map szP) ≤ 48 := Nat.le_trans (totK_le _) (by simp; omega)
    dsimp only
    k_steps
    refine Halt.mk ?_
    refine divmod_nat (a := dval (figs qs)) (b := 16 ^ totK ((qs.drop cc).map szP)) rfl (by rw [pow16]; rfl) (pow16_pos _) (log16 (by omega)) F7 N7 ?_
    clear F7 N7
    have hqq : dval (figs qs) = dval (figs (qs.take cc ++ qs.drop cc)) := by rw [List.take_append_drop]
    rw [hqq, val_div hqd, val_mod hqd]
    intro D9 h9 t91 t92 tk9 F9 N9 l9
    k_steps
    rename Fr _ _ _ _ => F10
    rename News _ _ _ _ => N10
    have a1 := ap_cons (o := W.listOf (vs.drop cc).toArray 0) hap (hRne _ (.tail _ (.head _))) (hRne _ (.tail _ (.tail _ (.head _)))) (hRne _ (.tail _ (.tail _ (.tail _ (.head _))))) (hRne _ (.tail _ (.tail _ (.tail _ (.tail _ (.head _))))))
    have a2 := ap_cons (o := W.listOf (svs.drop cc).toArray 0) a1 (Nat.ne_of_lt (l4 _ (.tail _ (.tail _ (.head _))))) (Nat.ne_of_lt (l4 _ (.tail _ (.tail _ (.tail _ (.head _)))))) (Nat.ne_of_lt (l4 _ (.tail _ (.tail _ (.tail _ (.tail _ (.head _))))))) (Nat.ne_of_lt (l4 _ (.tail _ (.tail _ (.tail _ (.tail _ (.tail _ (.head _))))))))
    have a3 := ap_cons (o := W.listOf (svs.take cc).toArray 0) a2 (Nat.ne_of_lt (l6 _ (.tail _ (.tail _ (.tail _ (.head _)))))) (Nat.ne_of_lt (l6 _ (.tail _ (.tail _ (.tail _ (.tail _ (.head _))))))) (Nat.ne_of_lt (l6 _ (.tail _ (.tail _ (.tail _ (.tail _ (.tail _ (.head _)))))))) (Nat.ne_of_lt (l6 _ (.tail _ (.tail _ (.tail _ (.tail _ (.tail _ (.tail _ (.head _)))))))))
    have o1 := new_off' (ol := W.listOf (vs.drop cc).toArray 0) (a := (p, pileO dx (vs.take cc) ep2)) (b := (dx, isD hs tk0 (.int z tz) n0)) off (Ne.symm (hRne _ (.head _)))
    have o2 := new_off' (ol := W.listOf (svs.drop cc).toArray 0) (a := (p, pileO dx (vs.take cc) ep2)) (b := (dx, isD hs tk0 (.int z tz) n0)) o1 (Ne.symm (Nat.ne_of_lt (l4 _ (.tail _ (.head _)))))
    have o3 := new_off' (ol := W.listOf (svs.take cc).toArray 0) (a := (p, pileO dx (vs.take cc) ep2)) (b := (dx, isD hs tk0 (.int z tz) n0)) o2 (Ne.symm (Nat.ne_of_lt (l6 _ (.tail _ (.tail _ (.head _))))))
    have sub : ∀ q ∈ im, q ∈ (SS, W.listOf (svs.take cc).toArray 0) :: (KS, W.listOf (svs.drop cc).toArray 0) :: (R, W.listOf (vs.drop cc).toArray 0) :: im := fun q hq => .tail _ (.tail _ (.tail _ hq))
    have hst : Paired (SizeIn im) (svs.take cc) ((qs.take cc).map szP) := by
      have := Mine.Paired.take cc hSp
      rwa [← List.map_take] at this
    refine ⟨rfl, _, _, gs, _, ledOf p dx (vs.take cc) ep2 hs tk0 z tz n0 ps ps2 _, rfl, F10, ?_, o3, G, z, qs.take cc, qs.drop cc, vs.take cc, SS, R, KS, ep2, hs, tk0, tz, n0, ps, ps2, _, _, _, _, hz, by simp; omega, by simp; omega, rfl, ok, ok2, a3, ?_, hD.sub sub, ⟨rfl, rfl, rfl, rfl, rfl, rfl, rfl⟩⟩
    · intro q hq
      refine N10 q ?_
      simp only [List.mem_cons, List.mem_append, List.not_mem_nil, or_false] at hq ⊢
      rcases hq with h | h | h | h | h | h | h | h | h <;> simp [h]
    · exact ⟨hqt, hqd, pmono (Mine.Paired.take cc HO.texts) fun _ _ y => y.sub sub, ⟨vs.drop cc, ⟨0, .tail _ (.tail _ (.head _))⟩, pmono (Mine.Paired.drop cc HO.texts) fun _ _ y => y.sub sub⟩, ⟨svs.take cc, ⟨0, .head _⟩, pmono hst fun _ _ y => y.sub sub⟩, ⟨svs.drop cc, ⟨0, .tail _ (.head _)⟩, pmono hkp fun _ _ y => y.sub sub⟩⟩
end
end Mine
end
-- part D1
section
open PySem PySem.W PyProof.Rows PySem.Calls
set_option maxRecDepth 100000
set_option maxHeartbeats 4000000
namespace Mine
inductive Stop : Prop
  | mk : Stop
/-- where the front number is at hand -/
def FrontAt (s : Shared) (v : Value) (s' : Shared) : Prop := ∃ (f : Nat) (t : Tok) (tk : Nat), f < 20 ∧ v = .int f t ∧ s' = { s with toks := tk }
theorem fmod_nat (x : Int) (b : Nat) (hb : 0 < b) : ∃ f : Nat, x.fmod b = f ∧ f < b := by
  have h1 := Int.fmod_nonneg_of_pos x (show (0 : Int) < b by omega)
  have h2 := Int.fmod_lt_of_pos x (show (0 : Int) < b by omega)
  exact ⟨(x.fmod b).toNat, by omega, by omega⟩
theorem bits16 {k : Nat} (h : k ≤ 6) : Builtin.Int.intBits ((16 : Int) ^ (k : Int).toNat) ≤ 64 := by
  rw [Int.toNat_natCast]
  have : k = 0 ∨ k = 1 ∨ k = 2 ∨ k = 3 ∨ k = 4 ∨ k = 5 ∨ k = 6 := by omega
  rcases this with rfl | rfl | rfl | rfl | rfl | rfl | rfl <;> exact intBits_le_64 (by decide) (by decide)
theorem push_val {qs : List (Nat × Nat)} {f b : Nat} (hf : f < 4096) (hb : b < 4096) : (((dval (figs qs) : Nat) : Int) * 16 ^ ((totK [szP (f, b)] : Nat) : Int).toNat + (f : Int) * 16 ^ ((szN b : Nat) : Int).toNat + (b : Int)) = ((dval (figs (qs ++ [(f, b)])) : Nat) : Int) := by
  have hs : Small [(f, b)] := fun x hx => by rw [List.mem_singleton.mp hx]; exact ⟨hf, hb⟩
  rw [val_append hs, val_one, ← szN_len hb, Int.toNat_natCast, Int.toNat_natCast]
  show _ = ((dval (figs qs) * 16 ^ totK [szP (f, b)] + (f * 16 ^ szN b + b) : Nat) : Int)
  push_cast
  omega
theorem allLt_out {d : Addr} : ∀ {l : List (Addr × Obj)}, AllLt d l → ∀ q ∈ l, q.1 < d
  | [], _, q, hq => nomatch hq
  | _ :: _, h, q, hq => by
    rcases List.mem_cons.mp hq with rfl | hq
    · exact h.1
    · exact allLt_out h.2 q hq
theorem add_lists2 {prog : Program} {w : World} {A : Around} {E : Value → Shared → Prop} {s : Shared} {h₀ : Heap} {L : Addr} {m : Str → Option Value} {news : List (Addr × Obj)} {l b : Addr} {vs ws : List Value} {Q : Value → Shared → Prop} (F : Fr h₀ L s.heap m) (N : News h₀ L s.heap news) (hl : s.heap.IsList l vs.toArray) (hb : s.heap.IsList b ws.toArray)
    (h : ∀ R h', Fr h₀ L h' m → News h₀ L h' ((R, W.listOf (vs ++ ws).toArray 0) :: news) → (∀ q ∈ news, q.1 < R) → Q (.ref R) { s with heap := h' }) (hsz : vs.length + ws.length ≤ sizeLine) :
    wpAny (model prog w) A (binaryOp .Add (.ref l) (.ref b)) Q E s :=
  add_lists F N hl hb (fun h' F' N' => h _ h' F' N' fun q hq => Heap.lt_size (N q hq).1) hsz
section
local macro_rules | `(tactic| walk_at "binaryOp Mult int int") => `(tactic| ((with_reducible rename Stop => st'); refine Halt.out ?_))
local macro_rules | `(tactic| walk_at "binaryOp Add ref ref") => `(tactic| refine Halt.out ?_)
local macro_rules | `(tactic| walk_at "subscriptTail") => `(tactic| refine Halt.out ?_)
local macro_rules | `(tactic| walk_at "eval IfExp") => `(tactic| ((with_reducible rename Stop => st'); refine Halt.out ?_))
local macro_rules | `(tactic| walk_at "call ref") => `(tactic| refine Halt.out ?_)
local macro_rules | `(tactic| walk_at "getMethod ref") => `(tactic| refine Halt.out ?_)
local macro_rules | `(tactic| walk_at "ite") => `(tactic| refine Halt.out ?_)
theorem deed1 (w : World) : DeedSpec w (partsOf (Mine.hd.heap_39 w.params)).B1 (partsOf (Mine.hd.heap_39 w.params)).scope (fun _ _ => True) := by
  refine And.left (b := PySem.Challenge.rw_nb0047_01 = PySem.Challenge.rw_nb0047_01) ?_
  k_fill
  w_on
  refine ⟨?_, rfl⟩
  refine' b1_of (parts_of ?h) ?s
  case h => k_is
  case s =>
    intro p' loose mean mg mb un gd A₀ base g outer L a cd s It oI p dx D ws i m led h tk gs kind rest tkd trs B F X T N off AP J hi hu hkd hrs _
    obtain ⟨G, z, qs, hqs, vs, aS, aH, aK, ep, hs, tk0, tz, n0, ps, ps2, im, th, tv, tkk, hz, hql, hhl, rfl, ok, ok2, hap, HO, hD, NM⟩ := J
    replace F := fr_ov F [("kind", .int kind tkd), ("rest", .int rest trs), ("pile", .ref p), ("head", .int z th), ("value", .int (dval (figs qs)) tv), ("sizes", .ref aS), ("hand", .ref aH), ("kept", .int (dval (figs hqs)) tkk), ("kept_sizes", .ref aK)] (List.forall_mem_cons.mpr ⟨hkd, List.forall_mem_cons.mpr ⟨hrs, List.forall_mem_cons.mpr ⟨NM.pile, List.forall_mem_cons.mpr ⟨NM.head, List.forall_mem_cons.mpr ⟨NM.value, List.forall_mem_cons.mpr ⟨NM.sizes, List.forall_mem_cons.mpr ⟨NM.hand, List.forall_mem_cons.mpr ⟨NM.kept, List.forall_mem_cons.mpr ⟨NM.ksizes, fun _ h => nomatch h⟩⟩⟩⟩⟩⟩⟩⟩⟩)
    dsimp only [kstB] at F
    have hvl : vs.length ≤ 100 := by rw [HO.texts.length]; omega
    have cl : cLine = 9900 := rfl
    obtain ⟨svs, hS, hSp⟩ := HO.sizes
    have hsv : svs.length = vs.length := by rw [hSp.length, HO.texts.length, List.length_map]
    have st0 := Stop.mk
    k_steps
    refine Halt.mk ?_
    rename Stop => st1
    clear st1
    refine wpAny_mono (Q := FrontAt { s with heap := h, toks := tk, gens := gs }) (E := fun _ _ => False) ?_ ?_ (fun _ _ z => z)
    · k_steps
      refine Halt.mk ?_
      split
      · k_steps
        exact ⟨0, _, _, by decide, rfl, rfl⟩
      · k_steps
        obtain ⟨f, e, hf⟩ := fmod_nat rest 20 (by decide)
        exact ⟨f, _, _, hf, by rw [← e]; rfl, rfl⟩
    · rintro v s' ⟨f, tf, tk1, hf, rfl, rfl⟩
      dsimp only
      k_steps
      refine Halt.mk ?_
      rename Fr _ _ _ _ => F1
      rename News _ _ _ _ => N1
      obtain ⟨b, hb0, hb⟩ := fmod_nat (rest * 37 + kind) 600 (by decide)
      replace hb0 : (rest * 37 + kind).fmod 600 = (b : Int) := hb0
      dsimp only at F1
      simp only [hb0] at F1
      refine method_p (X.keeps F1.keep) (inst_pile (npd N1 _ (.head _)).1 (npd N1 _ (.tail _ (.head _))).1) (f_push _) (f_fn _ (by decide)) rfl ?_
      have hfl : (digs f).length ≤ 3 := by rw [← szN_len (by omega)]; exact szN_le _
      have hbl : (digs b).length ≤ 3 := by rw [← szN_len (by omega)]; exact szN_le _
      k_steps
      refine Halt.mk ?_
      refine lawtext_spec (.mk B F1 X T (fun _ h => nomatch h) rfl) (by decide) (by omega) (by omega) ?_
      intro h2 tk2 t2 k2
      replace F1 := Fr.keepK F1 k2
      replace N1 := News.keepK N1 k2
      dsimp only
      k_steps
      refine Halt.mk ?_
      refine lawtext_spec (.mk B F1 X T (fun _ h => nomatch h) rfl) (by decide) (by omega) (by omega) ?_
      intro h3 tk3 t3 k3
      replace F1 := Fr.keepK F1 k3
      replace N1 := News.keepK N1 k3
      dsimp only
      k_steps
      refine Halt.mk ?_
      refine push_spec (.mk B F1 X T (fun q hq => npd N1 q (List.mem_of_mem_take (i := 1) (l := [_, _]) hq)) rfl) (by decide) (by omega) (npd N1 _ (.tail _ (.head _))).1 AP.pd rfl hvl ?_
      intro h4 tk4 ep4 Tn k4 e4 eP eT
      have fT := fresh_news F1 e4
      have hTne : ∀ q ∈ ((It, oI) :: ledOf p dx vs ep hs tk0 z tz n0 ps ps2 im), q.1 ≠ Tn := fun q hq e => by
        have := (N1 q hq).1
        rw [e, e4] at this
        cases this
      obtain ⟨F2, N2⟩ := turn_p (pre := [(It, oI)]) F1 N1 k4 eP (fun q hq => by
        rw [List.mem_singleton.mp hq]; exact Ne.symm (off _ (.head _))) (by
        intro q hq
        rcases List.mem_cons.mp hq with e | hq
        · rw [e]; exact AP.pd
        · exact (AP.tabs hap q hq).1)
      replace N2 := ncons N2 eT fT
      clear F1 N1
      dsimp only
      k_steps
      refine Halt.mk ?_
      refine lawsize_spec (.mk B F2 X T (fun _ h => nomatch h) rfl) (by decide) (by omega) ?_
      intro h5 tk5 t5 k5
      replace F2 := Fr.keepK F2 k5
      replace N2 := News.keepK N2 k5
      dsimp only
      k_steps
      refine Halt.mk ?_
      refine lawsize_spec (.mk B F2 X T (fun _ h => nomatch h) rfl) (by decide) (by omega) ?_
      intro h6 tk6 t6 k6
      replace F2 := Fr.keepK F2 k6
      replace N2 := News.keepK N2 k6
      dsimp only
      k_steps
      refine Halt.mk ?_
      rename Fr _ _ _ _ => F3
      rename News _ _ _ _ => N3
      rename_i Dp h7 l7 AD h8 l8 h9
      refine lawtotal_spec (ks := [szP (f, b)]) (.mk B F3 X T (fun _ h => nomatch h) rfl) (by decide) (by omega) ⟨[.ref Dp], ⟨_, (N3 _ (.head _)).1, rfl, _, rfl⟩, .cons ⟨t5, t6, Dp, rfl, _, (N3 _ (.tail _ (.head _))).1, rfl, _, rfl⟩ .nil⟩ (by simp) ?_
      intro h10 tk10 t10 k10
      replace F3 := Fr.keepK F3 k10
      replace N3 := News.keepK N3 k10
      have htb : totK [szP (f, b)] ≤ 6 := totK_le [(f, b)]
      have hs1 := szN_le b
      have hib := bits16 htb
      dsimp only
      k_steps
      refine Halt.mk ?_
      refine tail_any (Heap.IsList.typeIs ⟨_, (N3 _ (.head _)).1, rfl, _, rfl⟩) slot_list_getitem.lookup (wpAny_getItem_list (l := AD) (items := #[.ref Dp]) ⟨_, (N3 _ (.head _)).1, rfl, _, rfl⟩ (by decide) (by decide) (x := .ref Dp) rfl ?_) (by with_unfolding_all rfl)
      k_steps
      refine Halt.mk ?_
      have hDp : IsTup h10 Dp #[.int (szN f) t5, .int (szN b) t6] := ⟨_, (N3 _ (.tail _ (.head _))).1, rfl, _, rfl⟩
      dsimp only
      refine tail_any (IsTup.typeIs hDp) slot_tuple_getitem.lookup (getItem_tuple hDp (by decide) (by decide) (seqIndex_of (by decide) (by simp)) (x := .int (szN b) t6) rfl ?_) (by with_unfolding_all rfl)
      have st2 := Stop.mk
      k_steps
      refine Halt.mk ?_
      rename Stop => st3
      clear st3
      refine PyProof.Rows.mul_int ?_ (IntMulOk.of_left (intBits_le_64 (by omega) (by omega)))
      dsimp only
      k_steps
      refine Halt.mk ?_
      rename Fr _ _ _ _ => F4
      rename News _ _ _ _ => N4
      refine add_lists2 (vs := svs) (ws := [.ref Dp]) F4 N4 (hS.at (ntl5 (ntl (ntl (ntl N4))))) ⟨_, (N4 _ (.head _)).1, rfl, _, rfl⟩ ?_ (by rw [sizeLine_eq]; simp; omega)
      clear F4 N4
      intro SZ h12 F5 N5 lSZ
      dsimp only at F5 ⊢
      k_steps
      rename Fr _ _ _ _ => F6
      rename News _ _ _ _ => N6
      have e7 : ∀ q ∈ ([(It, oI)] ++ (p, pileO dx (vs ++ [Value.ref Tn]) ep4) :: (dx, isD hs tk0 (Value.int z tz) n0) :: (56, tabObj ps) :: (63, tabObj ps2) :: im : List (Addr × Obj)), q.1 < Dp := allLt_out l7.2
      have a1 := ap_cons (o := txtObj f b t2 t3) hap (hTne _ (.tail _ (.head _))) (hTne _ (.tail _ (.tail _ (.head _)))) (hTne _ (.tail _ (.tail _ (.tail _ (.head _))))) (hTne _ (.tail _ (.tail _ (.tail _ (.tail _ (.head _))))))
      have a2 := ap_cons (o := sizObj (szN f) (szN b) t5 t6) a1 (Nat.ne_of_lt (e7 _ (.tail _ (.head _)))) (Nat.ne_of_lt (e7 _ (.tail _ (.tail _ (.head _))))) (Nat.ne_of_lt (e7 _ (.tail _ (.tail _ (.tail _ (.head _)))))) (Nat.ne_of_lt (e7 _ (.tail _ (.tail _ (.tail _ (.tail _ (.head _)))))))
      have a3 := ap_cons (o := W.listOf (svs ++ [Value.ref Dp]).toArray 0) a2 (Nat.ne_of_lt (lSZ _ (.tail _ (.tail _ (.tail _ (.tail _ (.head _))))))) (Nat.ne_of_lt (lSZ _ (.tail _ (.tail _ (.tail _ (.tail _ (.tail _ (.head _)))))))) (Nat.ne_of_lt (lSZ _ (.tail _ (.tail _ (.tail _ (.tail _ (.tail _ (.tail _ (.head _))))))))) (Nat.ne_of_lt (lSZ _ (.tail _ (.tail _ (.tail _ (.tail _ (.tail _ (.tail _ (.tail _ (.head _))))))))))
      have o1 := new_off' (ol := txtObj f b t2 t3) (a := (p, pileO dx (vs ++ [Value.ref Tn]) ep4)) (b := (dx, isD hs tk0 (.int z tz) n0)) off (Ne.symm (hTne _ (.head _)))
      have o2 := new_off' (ol := sizObj (szN f) (szN b) t5 t6) (a := (p, pileO dx (vs ++ [Value.ref Tn]) ep4)) (b := (dx, isD hs tk0 (.int z tz) n0)) o1 (Ne.symm (Nat.ne_of_lt (e7 _ (.head _))))
      have o3 := new_off' (ol := W.listOf (svs ++ [Value.ref Dp]).toArray 0) (a := (p, pileO dx (vs ++ [Value.ref Tn]) ep4)) (b := (dx, isD hs tk0 (.int z tz) n0)) o2 (Ne.symm (Nat.ne_of_lt (lSZ _ (.tail _ (.tail _ (.tail _ (.head _)))))))
      have sub : ∀ q ∈ im, q ∈ (SZ, W.listOf (svs ++ [Value.ref Dp]).toArray 0) :: (Dp, sizObj (szN f) (szN b) t5 t6) :: (Tn, txtObj f b t2 t3) :: im := fun q hq => .tail _ (.tail _ (.tail _ hq))
      have HO' := HO.sub sub
      have hv := push_val (qs := qs) (f := f) (b := b) (by omega) (by omega)
      refine ⟨rfl, _, _, gs, _, ledOf p dx (vs ++ [Value.ref Tn]) ep4 hs tk0 z tz n0 ps ps2 _, rfl, F6, ?_, o3, G, z, qs ++ [(f, b)], hqs, vs ++ [.ref Tn], SZ, aH, aK, ep4, hs, tk0, tz, n0, ps, ps2, _, _, _, _, hz, by simp; omega, by omega, rfl, ok, ok2, a3, ?_, hD.sub sub, ⟨rfl, rfl, Eq.trans rfl (congrArg (fun z : Int => some (Value.int z _)) hv), rfl, rfl, rfl, rfl⟩⟩
      · intro q hq
        refine N6 q ?_
        simp only [List.mem_cons, List.mem_append, List.not_mem_nil, or_false] at hq ⊢
        rcases hq with h | h | h | h | h | h | h | h | h <;> simp [h]
      · refine ⟨HO.small.append (fun x hx => by rw [List.mem_singleton.mp hx]; exact ⟨by show f < _; omega, by show b < _; omega⟩), HO'.hsmall, Paired.snoc HO'.texts ⟨Tn, t2, t3, rfl, .tail _ (.tail _ (.head _))⟩, HO'.hand, ⟨svs ++ [.ref Dp], ⟨0, .head _⟩, ?_⟩, HO'.kept⟩
        rw [List.map_append]
        exact Paired.snoc (pmono hSp fun _ _ y => y.sub sub) ⟨Dp, t5, t6, rfl, .tail _ (.head _)⟩
end
end Mine
end
-- part C15
section
open PySem PySem.W PyProof.Rows PySem.Calls
set_option maxRecDepth 100000
set_option maxHeartbeats 4000000
namespace Mine
def bodyOf (K : Frag) (f : Addr) : List Stmt := match K.lookup f with
  | some ⟨_, _, .func fd, _⟩ => (match fd.body with | .stmts b => b | _ => [])
  | _ => []
def scopeOf (K : Frag) (f : Addr) : Scope := match K.lookup f with
  | some ⟨_, _, .func fd, _⟩ => fd.scope
  | _ => default
/-- what the law's body comes to -/
def LawSpec (w : World) (body : List Stmt) (scope : Scope) : Prop :=
  ∀ (p : Program) (loose : List Str) (mean : ExcName → Option Value) (mg mb : Str → Option Value) (un : Nat) (gd : Option (List Code)) (A₀ : Around) (base g : Heap) (outer : List Env) (L a : Addr) (cd : Value) (s : Shared) (m0 : Str → Option Value) (S : Addr) (vs : List Value) (ns : List Int) (Q : Value → Shared → Prop),
    Below A₀ base outer g → Fr g L s.heap m0 → (Mine.hd.heap_39 w.params).In g → Top p loose mean mg mb g → News g L s.heap [(56, tabObj #[]), (63, tabObj #[])] → m0 = (fun y => List.lookup y ([("script", Value.ref S)] : List (Str × Value))) → g.IsList S vs.toArray → IntsAre vs ns → ns.length ≤ 63 → AllBare s.gens → un ≤ 100 →
    (∀ h' tk' gs' m' ps ps2, Fr g L h' m' → h'.get? 56 = some (tabObj ps) → h'.get? 63 = some (tabObj ps2) → TabOk p23 ps → TabOk p26 ps2 → AllBare gs' → Q (.bool true) { s with heap := h', toks := tk', gens := gs' }) →
    wpAny (model PySem.Challenge.rw_nb0047_01.row.prog w) (ktrTop 302 un gd "law" scope L a cd [] outer) (execs body (envX "law" scope L a cd [])) (fun fl s' => Q (match fl with | .ret v => v | _ => .none) s') (fun _ _ => False) s
theorem spec_of {w : World} {body : List Stmt} {scope : Scope} {name qual : Str} {params : Arguments} {cl : List (Str × Addr)} {dV kV doc pm cdv ct oc : Value} {an od : Option Addr} {osl : Array (Option Value)}
    (h : (Mine.hd.heap_39 w.params).lookup 143 = some ⟨oc, od, .func (fnX name qual params body scope cl dV kV doc pm an cdv ct), osl⟩) (x : LawSpec w body scope) : LawSpec w (bodyOf (Mine.hd.heap_39 w.params) 143) (scopeOf (Mine.hd.heap_39 w.params) 143) := by
  unfold bodyOf scopeOf
  rw [h]
  exact x
theorem spec_of5 {w : World} {s1 s2 s3 s4 s5 s6 s7 s8 b1 b2 : Stmt} {t it c1 c2 c3 c4 : Expr} {B1 B2 B3 B4 B5 r r2 oe : List Stmt} {q1 q2 q3 q4 q5 : Pos} {scope : Scope} {name qual : Str} {params : Arguments} {cl : List (Str × Addr)} {dV kV doc pm cdv ct oc : Value} {an od : Option Addr} {osl : Array (Option Value)}
    (h : (Mine.hd.heap_39 w.params).lookup 143 = some ⟨oc, od, .func (fnX name qual params (s1 :: s2 :: s3 :: s4 :: s5 :: s6 :: s7 :: s8 :: .For t it (b1 :: b2 :: .If c1 B1 [.If c2 B2 [.If c3 B3 [.If c4 B4 B5 q4] q3] q2] q1 :: r) oe q5 :: r2) scope cl dV kV doc pm an cdv ct), osl⟩)
    (x : DeedSpec w B1 scope (fun _ _ => True) → DeedSpec w B2 scope (fun _ _ => True) → DeedSpec w B3 scope (fun _ _ => True) → DeedSpec w B4 scope (fun _ _ => True) → DeedSpec w B5 scope (fun _ _ => True) → LawSpec w (s1 :: s2 :: s3 :: s4 :: s5 :: s6 :: s7 :: s8 :: .For t it (b1 :: b2 :: .If c1 B1 [.If c2 B2 [.If c3 B3 [.If c4 B4 B5 q4] q3] q2] q1 :: r) oe q5 :: r2) scope) : LawSpec w (bodyOf (Mine.hd.heap_39 w.params) 143) (scopeOf (Mine.hd.heap_39 w.params) 143) := by
  have e := parts_of h
  have d1 := deed1 w
  have d2 := deed2 w
  have d3 := deed3 w
  have d4 := deed4 w
  have d5 := deed5 w
  rw [e] at d1 d2 d3 d4 d5
  exact spec_of h (x d1 d2 d3 d4 d5)
/-- where the list of numbers is at hand -/
def DrawnAt (g : Heap) (L S : Addr) (s : Shared) (v : Value) (s' : Shared) : Prop :=
  ∃ D ws ms h tk, v = .ref D ∧ s' = { s with heap := h, toks := tk } ∧ Fr g L h (fun y => List.lookup y ([("script", Value.ref S)] : List (Str × Value))) ∧ News g L h [(D, W.listOf (List.toArray ws) 0), (56, tabObj #[]), (63, tabObj #[])] ∧ IntsAre ws ms ∧ ms.length ≤ 8 ∧ 56 < D ∧ 63 < D
theorem JLaw.names {g h : Heap} {L p dx D : Addr} {ws : List Value} {i : Nat} {m : Str → Option Value} {led : List (Addr × Obj)} {gs : Array GenState} {x kd rs : Value} (J : JLaw p dx D ws i m led gs)
    (_ : Fr g L h (fun (y : Str) => if y = "rest" then some rs else if y = "kind" then some kd else if y = "number" then some x else m y)) : JLaw p dx D ws i (fun (y : Str) => if y = "rest" then some rs else if y = "kind" then some kd else if y = "number" then some x else m y) led gs := by
  obtain ⟨G, z, qs, hqs, vs, aS, aH, aK, ep, hs, tk0, tz, n0, ps, ps2, im, th, tv, tkk, hz, hql, hhl, rfl, ok, ok2, hap, HO, hD, NM⟩ := J
  exact ⟨G, z, qs, hqs, vs, aS, aH, aK, ep, hs, tk0, tz, n0, ps, ps2, im, th, tv, tkk, hz, hql, hhl, rfl, ok, ok2, hap, HO, hD, ⟨NM.pile, NM.head, NM.value, NM.sizes, NM.hand, NM.kept, NM.ksizes⟩⟩
theorem szs_le (qs : List (Nat × Nat)) : ∀ k ∈ qs.map szP, k.1 ≤ 3 ∧ k.2 ≤ 3 := by
  intro k hk
  obtain ⟨q, _, rfl⟩ := List.mem_map.mp hk
  exact ⟨szN_le _, szN_le _⟩
theorem digs_le {qs : List (Nat × Nat)} (h : Small qs) (hl : qs.length ≤ 100) : (digs (dval (figs qs))).length ≤ 1000 := by
  rw [digs_figs, ← tot_figs h]
  have := totK_le qs
  omega
theorem digs2_le {qs : List (Nat × Nat)} (h : Small qs) : ∀ q ∈ qs, (digs q.1).length ≤ 1000 ∧ (digs q.2).length ≤ 1000 := by
  intro q hq
  have h1 := h q hq
  rw [← szN_len h1.1, ← szN_len h1.2]
  have := szN_le q.1
  have := szN_le q.2
  omega
theorem turn_tabs {g h h' : Heap} {L It p dx : Addr} {oI o1 o2 : Obj} {ps ps2 ps' ps2' : Array Value} {im : List (Addr × Obj)} (N : News g L h ((It, oI) :: (p, o1) :: (dx, o2) :: (56, tabObj ps) :: (63, tabObj ps2) :: im)) (k : KeepBut [56, 63] h h') (e56 : h'.get? 56 = some (tabObj ps')) (e63 : h'.get? 63 = some (tabObj ps2'))
    (off : ∀ q ∈ (p, o1) :: (dx, o2) :: (56, tabObj ps) :: (63, tabObj ps2) :: im, q.1 ≠ It) (AP : Apart p dx) (hap : ∀ q ∈ im, q.1 ≠ p ∧ q.1 ≠ dx ∧ q.1 ≠ 56 ∧ q.1 ≠ 63) : News g L h' ((It, oI) :: (p, o1) :: (dx, o2) :: (56, tabObj ps') :: (63, tabObj ps2') :: im) := by
  intro q hq
  simp only [List.mem_cons] at hq
  rcases hq with rfl | rfl | rfl | rfl | rfl | hq
  · refine ⟨k _ _ ?_ (N _ (.head _)).1, (N _ (.head _)).2⟩
    simpa using ⟨Ne.symm (off _ (.tail _ (.tail _ (.head _)))), Ne.symm (off _ (.tail _ (.tail _ (.tail _ (.head _)))))⟩
  · refine ⟨k _ _ ?_ (N _ (.tail _ (.head _))).1, (N _ (.tail _ (.head _))).2⟩
    simpa using ⟨Ne.symm AP.p56, Ne.symm AP.p63⟩
  · refine ⟨k _ _ ?_ (N _ (.tail _ (.tail _ (.head _)))).1, (N _ (.tail _ (.tail _ (.head _)))).2⟩
    simpa using ⟨Ne.symm AP.d56, Ne.symm AP.d63⟩
  · exact ⟨e56, (N _ (.tail _ (.tail _ (.tail _ (.head _))))).2⟩
  · exact ⟨e63, (N _ (.tail _ (.tail _ (.tail _ (.tail _ (.head _)))))).2⟩
  · have := N q (.tail _ (.tail _ (.tail _ (.tail _ (.tail _ hq)))))
    exact ⟨k _ _ (by simpa using (hap q hq).2.2) this.1, this.2⟩
theorem same_off4 {It p dx : Addr} {o1 o2 o3 o4 o3' o4' : Obj} {im : List (Addr × Obj)} (off : ∀ q ∈ (p, o1) :: (dx, o2) :: (56, o3) :: (63, o4) :: im, q.1 ≠ It) : ∀ q ∈ (p, o1) :: (dx, o2) :: (56, o3') :: (63, o4') :: im, q.1 ≠ It := by
  intro q hq
  simp only [List.mem_cons] at hq
  rcases hq with rfl | rfl | rfl | rfl | h
  · exact off _ (.head _)
  · exact off _ (.tail _ (.head _))
  · exact off (56, o3) (.tail _ (.tail _ (.head _)))
  · exact off (63, o4) (.tail _ (.tail _ (.tail _ (.head _))))
  · exact off _ (.tail _ (.tail _ (.tail _ (.tail _ h))))
theorem clip_zero (n : Nat) : clipAt n 0 = 0 := by
  unfold clipAt
  rw [if_neg (by omega)]
  omega
section
local macro_rules | `(tactic| walk_at "exec If") => `(tactic| ((with_reducible rename Stop => st'); refine Halt.out ?_))
local macro_rules | `(tactic| walk_at "eval BoolOp") => `(tactic| ((with_reducible rename Stop => st'); refine Halt.out ?_))
local macro_rules | `(tactic| walk_at "exec For Name Name cons nil") => `(tactic| refine Halt.out ?_)
local macro_rules | `(tactic| walk_at "exec For") => `(tactic| refine Halt.out ?_)
local macro_rules | `(tactic| walk_at "call ref") => `(tactic| refine Halt.out ?_)
local macro_rules | `(tactic| walk_at "getMethod ref") => `(tactic| refine Halt.out ?_)
local macro_rules | `(tactic| walk_at "ite") => `(tactic| refine Halt.out ?_)
local macro_rules | `(tactic| walk_at "truthy ref") => `(tactic| refine Halt.out ?_)
local macro_rules | `(tactic| walk_at "subscriptTail") => `(tactic| refine Halt.out ?_)
local macro_rules | `(tactic| walk_at "compareOp NotEq ref ref") => `(tactic| refine Halt.out ?_)
local macro_rules | `(tactic| walk_at "compareOp Eq ref ref") => `(tactic| refine Halt.out ?_)
local macro_rules | `(tactic| walk_at "call builtin:sum") => `(tactic| refine Halt.out ?_)
theorem law_walk (w : World) : LawSpec w (bodyOf (Mine.hd.heap_39 w.params) 143) (scopeOf (Mine.hd.heap_39 w.params) 143) := by
  refine And.left (b := PySem.Challenge.rw_nb0047_01 = PySem.Challenge.rw_nb0047_01) ?_
  k_fill
  w_on
  refine ⟨?_, rfl⟩
  refine' spec_of5 ?h ?s
  case h => k_is
  case s =>
    intro d1 d2 d3 d4 d5 p' loose mean mg mb un gd A₀ base g outer L a cd s m0 S vs ns Q B F X T N hm hS hI hlen G hu ret
    subst hm
    have st0 := Stop.mk
    k_steps
    refine Halt.mk ?_
    rename Stop => st1
    clear st1
    refine wpAny_mono (Q := DrawnAt g L S s) (E := fun _ _ => False) ?_ ?_ (fun _ _ z => z)
    · k_steps
      refine Halt.mk ?_
      rename Fr _ _ _ _ => F1
      rename News _ _ _ _ => N1
      rename_i D ws h1 hI1 hC1 hL1 l1
      refine truthy_ints_fit ⟨_, (N1 _ (.head _)).1, rfl, _, rfl⟩ hI1 (by omega) ?_
      split
      · exact ⟨D, ws, _, h1, _, rfl, rfl, F1, N1, hI1, by omega, l1.1, l1.2⟩
      · dsimp only
        k_steps
        rename Fr _ _ _ _ => F3
        rename News _ _ _ _ => N3
        rename_i l3
        exact ⟨_, [_, _, _, _, _], [5, 11, 23, 6, 4], _, _, rfl, rfl, F3, (fun q hq => N3 q (by
          rcases List.mem_cons.mp hq with e | hq
          · exact e ▸ .head _
          · exact .tail _ (.tail _ hq))), .cons _ _ (.cons _ _ (.cons _ _ (.cons _ _ (.cons _ _ .nil)))), by decide, l3.2.1, l3.2.2⟩
    · rintro v s' ⟨D, ws, ms, h1, tk1, rfl, rfl, F1, N1, hI1, hl1, l1, l2⟩
      clear F N
      k_steps
      refine Halt.mk ?_
      rename Fr _ _ _ _ => F2
      rename News _ _ _ _ => N2
      refine sum_plain rfl ⟨_, (N2 _ (.head _)).1, rfl, _, rfl⟩ hI1 ?_
      intro h3 tk3 t3 k3
      replace F2 := Fr.keepK F2 k3
      replace N2 := News.keepK N2 k3
      dsimp only
      k_steps
      refine Halt.mk ?_
      rename Fr _ _ _ _ => F4
      rename News _ _ _ _ => N4
      obtain ⟨z, hz0, hz⟩ := fmod_nat ms.sum 3 (by decide)
      replace hz0 : ms.sum.fmod 3 = (z : Int) := hz0
      dsimp only at F4
      simp only [hz0] at F4
      rw [hz0]
      have cl : cLine = 9900 := rfl
      refine make_spec (.mk B F4 X T N4 rfl) (by decide) (by omega) ?_
      intro h5 tk5 p dx ep hs tk0 n0 k5 fp fd ldp lled e1 e2
      have fp' := fresh_news F4 fp
      have fd' := fresh_news F4 fd
      replace F4 := Fr.keepK F4 k5
      replace N4 := ncons (ncons (News.keepK N4 k5) e2 fd') e1 fp'
      have l56 := lled _ (.tail _ (.head _))
      have l63 := lled _ (.tail _ (.tail _ (.head _)))
      have lD := lled _ (.head _)
      have AP : Apart p dx := ⟨Nat.ne_of_lt ldp, Nat.ne_of_lt (Nat.lt_trans l56 ldp), Nat.ne_of_lt l56, Nat.ne_of_lt (Nat.lt_trans l63 ldp), Nat.ne_of_lt l63⟩
      dsimp only
      k_steps
      refine Halt.mk ?_
      rename Fr _ _ _ _ => F6
      rename News _ _ _ _ => N6
      refine for_led g L rfl ?_
      k_steps
      rename_i lS y1 q1 y2 lH y3 q2 y4 y5 lK y6 q3 y7
      refine ⟨D, ws, JLaw p dx D ws, rfl, ⟨_, ledOf p dx [] ep hs tk0 z (tk3 + 1) n0 #[] #[] [(lK, W.listOf #[] 0), (lH, W.listOf #[] 0), (lS, W.listOf #[] 0), (D, W.listOf ws.toArray 0)], F6, ?_, ?_⟩, ?_, ?_, ?_⟩
      · intro q hq
        refine N6 q ?_
        simp only [List.mem_cons, List.not_mem_nil, or_false] at hq ⊢
        rcases hq with h | h | h | h | h | h | h | h <;> simp [h]
      · refine ⟨G, z, [], [], [], lS, lH, lK, ep, hs, tk0, _, n0, #[], #[], _, _, _, _, by omega, by simp, by simp, rfl, .inl rfl, .inl rfl, ?_, ?_, ⟨0, .tail _ (.tail _ (.tail _ (.head _)))⟩, ⟨rfl, rfl, rfl, rfl, rfl, rfl, rfl⟩⟩
        · refine ap_cons (ap_cons (ap_cons (ap_cons (fun _ h => nomatch h) (Ne.symm (Nat.ne_of_lt (Nat.lt_trans lD ldp))) (Ne.symm (Nat.ne_of_lt lD)) (Nat.ne_of_lt l1) (Nat.ne_of_lt l2)) ?_ ?_ ?_ ?_) ?_ ?_ ?_ ?_) ?_ ?_ ?_ ?_
          all_goals (apply neN; omega)
        · exact ⟨(fun _ h => nomatch h), (fun _ h => nomatch h), .nil, ⟨[], ⟨0, .tail _ (.head _)⟩, .nil⟩, ⟨[], ⟨0, .tail _ (.tail _ (.head _))⟩, .nil⟩, ⟨[], ⟨0, .head _⟩, .nil⟩⟩
      · rintro i m led gs h ⟨_, z, qs, hqs, vs, aS, aH, aK, ep, hs, tk0, tz, n0, ps, ps2, im, th, tv, tkk, hz, hql, hhl, rfl, ok, ok2, hap, HO, hD, NM⟩ F N
        have Nim : News g L h im := ntl (ntl (ntl (ntl N)))
        obtain ⟨e, hm⟩ := hD
        exact ⟨⟨_, (Nim _ hm).1, rfl, _, rfl⟩, (Nim _ hm).2.1⟩
      · clear F6 N6
        intro i v m led gs h tk It oI hv J F N off
        obtain ⟨x, tx, rfl⟩ : ∃ x tx, v = .int x tx := by
          have hi : i < ms.length := by rw [← hI1.length]; exact (List.getElem?_eq_some_iff.mp hv).1
          obtain ⟨t, e⟩ := hI1.get i ms[i] (List.getElem?_eq_getElem hi)
          rw [hv] at e
          exact ⟨_, t, Option.some.inj e⟩
        have st2 := Stop.mk
        k_steps
        refine Halt.mk ?_
        rename Stop => st3
        clear st3
        rename Fr _ _ _ _ => F7
        rename News _ _ _ _ => N7
        dsimp only at F7
        have J7 := J.names F7
        have hi8 : i ≤ 8 := by
          have := (List.getElem?_eq_some_iff.mp hv).1
          rw [hI1.length] at this
          omega
        refine wpAny_mono (Q := Deed g L s It oI (JLaw p dx D ws (i + 1))) (E := fun _ _ => False) ?_ ?_ (fun _ _ z => z)
        · k_steps
          refine Halt.mk ?_
          dsimp only
          split
          · exact d1 p' loose mean mg mb un gd A₀ base g outer L a cd s It oI p dx D ws i _ led _ _ gs _ _ _ _ B F7 X T N7 off AP J7 hi8 hu rfl rfl trivial
          · k_steps
            refine Halt.mk ?_
            dsimp only
            split
            · exact wpAny_mono (d2 p' loose mean mg mb un gd A₀ base g outer L a cd s It oI p dx D ws i _ led _ _ gs _ _ _ _ B F7 X T N7 off AP J7 hi8 hu rfl rfl trivial) (fun f s' z => by obtain ⟨rfl, r⟩ := z; exact (wpAny_execs_nil ⟨rfl, r⟩)) (fun _ _ z => z)
            · k_steps
              refine Halt.mk ?_
              dsimp only
              split
              · exact wpAny_mono (d3 p' loose mean mg mb un gd A₀ base g outer L a cd s It oI p dx D ws i _ led _ _ gs _ _ _ _ B F7 X T N7 off AP J7 hi8 hu rfl rfl trivial) (fun f s' z => by obtain ⟨rfl, r⟩ := z; exact (wpAny_execs_nil (wpAny_execs_nil ⟨rfl, r⟩))) (fun _ _ z => z)
              · k_steps
                refine Halt.mk ?_
                dsimp only
                split
                · exact wpAny_mono (d4 p' loose mean mg mb un gd A₀ base g outer L a cd s It oI p dx D ws i _ led _ _ gs _ _ _ _ B F7 X T N7 off AP J7 hi8 hu rfl rfl trivial) (fun f s' z => by obtain ⟨rfl, r⟩ := z; exact (wpAny_execs_nil (wpAny_execs_nil (wpAny_execs_nil ⟨rfl, r⟩)))) (fun _ _ z => z)
                · exact wpAny_mono (d5 p' loose mean mg mb un gd A₀ base g outer L a cd s It oI p dx D ws i _ led _ _ gs _ _ _ _ B F7 X T N7 off AP J7 hi8 hu rfl rfl trivial) (fun f s' z => by obtain ⟨rfl, r⟩ := z; exact (wpAny_execs_nil (wpAny_execs_nil (wpAny_execs_nil ⟨rfl, r⟩)))) (fun _ _ z => z)
        · clear F7 N7 J7 J off
          rintro f s' ⟨rfl, h8, tk8, gs8, m8, led8, rfl, F8, N8, off8, J8⟩
          obtain ⟨G8, z, qs, hqs, vs, aS, aH, aK, ep, hs, tk0, tz, n0, ps, ps2, im, th, tv, tkk, hz, hql, hhl, rfl, ok, ok2, hap, HO, hD, NM⟩ := J8
          replace F8 := fr_ov F8 [("pile", .ref p), ("head", .int z th), ("value", .int (dval (figs qs)) tv), ("sizes", .ref aS), ("hand", .ref aH), ("kept", .int (dval (figs hqs)) tkk), ("kept_sizes", .ref aK)] (List.forall_mem_cons.mpr ⟨NM.pile, List.forall_mem_cons.mpr ⟨NM.head, List.forall_mem_cons.mpr ⟨NM.value, List.forall_mem_cons.mpr ⟨NM.sizes, List.forall_mem_cons.mpr ⟨NM.hand, List.forall_mem_cons.mpr ⟨NM.kept, List.forall_mem_cons.mpr ⟨NM.ksizes, fun _ h => nomatch h⟩⟩⟩⟩⟩⟩⟩)
          dsimp only [kstB] at F8
          dsimp only
          k_steps
          refine Halt.mk ?_
          have Nim : News g L h8 im := ntl5 N8
          obtain ⟨hvs, hH, hHp⟩ := HO.hand
          obtain ⟨kvs, hK, hKp⟩ := HO.kept
          obtain ⟨svs, hS, hSp⟩ := HO.sizes
          have hvl : vs.length ≤ 100 := by rw [HO.texts.length]; omega
          refine lawpairs_spec (ks := hqs.map szP) (.mk B F8 X T (fun _ h => nomatch h) rfl) (by decide) (by omega) ⟨kvs, hK.at Nim, pmono hKp fun _ _ y => y.at Nim⟩ (by simp; omega) (szs_le hqs) (digs_le HO.hsmall (by omega)) ?_
          intro h9 tk9 r9 k9 _ x9
          rw [pairs_figs HO.hsmall] at x9
          replace F8 := Fr.keepK F8 k9
          replace N8 := News.keepK N8 k9
          replace Nim := News.keepK Nim k9
          dsimp only
          k_steps
          refine Halt.mk ?_
          refine texts_ne ⟨hvs, hH.at Nim, pmono hHp fun _ _ y => y.at Nim⟩ x9.texts (by show un + 64 < _; omega) ?_
          k_steps
          refine Halt.mk ?_
          rw [if_neg (by simp)]
          k_steps
          refine Halt.mk ?_
          refine same_spec (qs := qs) (ks := qs.map szP) (.mk B F8 X T (fun q hq => N8 q (.tail _ (List.mem_of_mem_take (i := 4) (l := ledOf p dx vs ep hs tk0 z tz n0 ps ps2 im) hq))) rfl) (by decide) (by omega) hvl (pmono HO.texts fun _ _ y => y.at Nim) ok ok2 G8 AP.p56 AP.d56 AP.p63 AP.d63 (digs2_le HO.small) rfl rfl ⟨svs, hS.at Nim, pmono hSp fun _ _ y => y.at Nim⟩ (digs_figs qs).symm (tot_figs HO.small) (by rw [List.length_map, HO.texts.length]) (digs_le HO.small (by omega)) (by omega) ?_
          intro h10 tk10 gs10 ps10 ps210 k10 e56 ok56 e63 ok63 G10
          have F10 := fr_but F8 k10 (fun D hD => by
            simp only [List.mem_cons, List.not_mem_nil, or_false] at hD
            rcases hD with rfl | rfl
            · exact (N8 _ (.tail _ (.tail _ (.tail _ (.head _))))).2
            · exact (N8 _ (.tail _ (.tail _ (.tail _ (.tail _ (.head _)))))).2)
          have N10 := turn_tabs N8 k10 e56 e63 off8 AP hap
          clear F8 N8
          dsimp only
          k_steps
          refine Halt.mk ?_
          rw [if_neg (by simp)]
          k_steps
          refine Halt.mk ?_
          rw [if_neg (by simp)]
          k_steps
          exact ⟨_, _, gs10, _, ledOf p dx vs ep hs tk0 z tz n0 ps10 ps210 im, rfl, F10, N10, same_off4 off8, G10, z, qs, hqs, vs, aS, aH, aK, ep, hs, tk0, tz, n0, ps10, ps210, im, _, _, _, hz, hql, hhl, rfl, ok56, ok63, hap, HO, hD, ⟨rfl, rfl, rfl, rfl, rfl, rfl, rfl⟩⟩
      · clear F6 N6
        rintro m led gs h tk ⟨G8, z, qs, hqs, vs, aS, aH, aK, ep, hs, tk0, tz, n0, ps, ps2, im, th, tv, tkk, hz, hql, hhl, rfl, ok, ok2, hap, HO, hD, NM⟩ F8 N8
        replace F8 := fr_ov F8 [("pile", .ref p), ("head", .int z th), ("value", .int (dval (figs qs)) tv), ("sizes", .ref aS), ("hand", .ref aH), ("kept", .int (dval (figs hqs)) tkk), ("kept_sizes", .ref aK)] (List.forall_mem_cons.mpr ⟨NM.pile, List.forall_mem_cons.mpr ⟨NM.head, List.forall_mem_cons.mpr ⟨NM.value, List.forall_mem_cons.mpr ⟨NM.sizes, List.forall_mem_cons.mpr ⟨NM.hand, List.forall_mem_cons.mpr ⟨NM.kept, List.forall_mem_cons.mpr ⟨NM.ksizes, fun _ h => nomatch h⟩⟩⟩⟩⟩⟩⟩)
        dsimp only [kstB] at F8
        dsimp only
        k_steps
        refine Halt.mk ?_
        have hwl : ws.length ≤ 8 := by rw [hI1.length]; omega
        have hvl : vs.length ≤ 100 := by rw [HO.texts.length]; omega
        obtain ⟨svs, hS, hSp⟩ := HO.sizes
        refine method_p (X.keeps F8.keep) (inst_pile (N8 _ (.head _)).1 (N8 _ (.tail _ (.head _))).1) (f_pop_from _) (f_fn _ (by decide)) rfl ?_
        k_steps
        refine Halt.mk ?_
        refine popfrom_spec (.mk B F8 X T (fun q hq => N8 q (List.mem_of_mem_take (i := 1) (l := ledOf p dx vs ep hs tk0 z tz n0 ps ps2 im) hq)) rfl) (.inr ⟨rfl, rfl, rfl⟩) (by decide) (by omega) (N8 _ (.tail _ (.head _))).1 AP.pd hvl ?_
        intro h9 tk9 ep9 R k9 e9 eP eR
        have fR := fresh_news F8 e9
        obtain ⟨F9, N9⟩ := turn_p (pre := []) F8 N8 k9 eP (fun q hq => nomatch hq) (by
          intro q hq
          rcases List.mem_cons.mp hq with e | hq
          · rw [e]; exact AP.pd
          · exact (AP.tabs hap q hq).1)
        replace N9 := ncons N9 eR fR
        rw [clip_zero, List.drop_zero] at N9
        clear F8 N8
        dsimp only
        k_steps
        refine Halt.mk ?_
        have Nim : News g L h9 im := ntl5 N9
        refine lawpairs_spec (ks := qs.map szP) (.mk B F9 X T (fun _ h => nomatch h) rfl) (by decide) (by omega) ⟨svs, hS.at Nim, pmono hSp fun _ _ y => y.at Nim⟩ (by simp; omega) (szs_le qs) (digs_le HO.small (by omega)) ?_
        intro h10 tk10 r10 k10 _ x10
        rw [pairs_figs HO.small] at x10
        replace F9 := Fr.keepK F9 k10
        replace N9 := News.keepK N9 k10
        replace Nim := News.keepK Nim k10
        dsimp only
        k_steps
        refine Halt.mk ?_
        refine texts_eq ⟨vs, ⟨_, (N9 _ (.head _)).1, rfl, _, rfl⟩, pmono HO.texts fun _ _ y => y.at Nim⟩ x10.texts (by show un + 64 < _; omega) ?_
        k_steps
        exact ret h10 _ gs _ ps ps2 F9 (N9 _ (.tail _ (.tail _ (.tail _ (.head _))))).1 (N9 _ (.tail _ (.tail _ (.tail _ (.tail _ (.head _)))))).1 ok ok2 G8
end
end Mine
end
-- part Fin
open PySem PySem.W PyProof.Rows PySem.Calls
set_option maxRecDepth 100000
set_option maxHeartbeats 8000000
namespace Mine
theorem spec_out {w : World} {body : List Stmt} {scope : Scope} {name qual : Str} {params : Arguments} {cl : List (Str × Addr)} {dV kV doc pm cdv ct oc : Value} {an od : Option Addr} {osl : Array (Option Value)}
    (h : (Mine.hd.heap_39 w.params).lookup 143 = some ⟨oc, od, .func (fnX name qual params body scope cl dV kV doc pm an cdv ct), osl⟩) (x : LawSpec w (bodyOf (Mine.hd.heap_39 w.params) 143) (scopeOf (Mine.hd.heap_39 w.params) 143)) : LawSpec w body scope := by
  unfold bodyOf scopeOf at x
  rw [h] at x
  exact x
abbrev tabs2 : List (Addr × Addr) := [(60, 56), (67, 63)]
theorem tabs_at {w : World} {h : Heap} (X : (Mine.hd.heap_39 w.params).In h) (KT : ∀ P ∈ [56, 63], h.get? P = some (tabObj #[])) : TabsAt tabs2 h :=
  List.forall_mem_cons.mpr ⟨⟨codeHd_of_K X (code60 _), KT 56 (.head _)⟩, List.forall_mem_cons.mpr ⟨⟨codeHd_of_K X (code67 _), KT 63 (.tail _ (.head _))⟩, fun _ h => nomatch h⟩⟩
theorem no_tabs (P : Params) : noTabs (Mine.hd.heap_39 P) = true := by kernel_rfl
/-- an empty code table that has grown counts as it was -/
theorem as_table {g h : Heap} {c P : Addr} {ps : Array Value} {o : Obj} (C : CodeHd g c P) (e0 : g.get? P = some (tabObj #[])) (e1 : h.get? P = some (tabObj ps)) (e : g.get? P = some o) : asItWas g h P o := by
  cases e0.symm.trans e
  exact .inr (.inl ⟨(C.tab e0).isCodeTable, rfl, #[], ps, rfl, by simpa using e1⟩)
theorem good_end {c : ClaimW} {cl : Str → Option Addr} {mean : ExcName → Option Value} {args : List WData} {s₁ : Shared} {h : Heap} {tk : Nat} {gs : Array GenState} {L : Addr} {m : Str → Option Value} {ps ps2 : Array Value} (HT : TabsAt tabs2 s₁.heap)
    (F : Fr (ghostOf s₁.heap tabs2) L h m) (e56 : h.get? 56 = some (tabObj ps)) (e63 : h.get? 63 = some (tabObj ps2)) (G : AllBare gs) (hr : ∀ cls, c.raises args cls = false) (hp : c.post args (.bool true) args = true) :
    GoodWG c cl mean args s₁ (.ok (.ret (.bool true))) { s₁ with heap := h, toks := tk, gens := gs } := by
  have other : ∀ b o, b ≠ 56 → b ≠ 63 → s₁.heap.get? b = some o → h.get? b = some o := fun b o n1 n2 e => F.keep b o (ghost_ne e (by simp [n1, n2]))
  have c1 := HT (60, 56) (.head _)
  have c2 := HT (67, 63) (.tail _ (.head _))
  refine ⟨.inl ⟨_, .bool true, [], rfl, hr, .bool true, hp, fun _ => ⟨.nil, fun _ hm => nomatch hm⟩⟩, ⟨?_, ?_⟩, rfl, G⟩ <;> intro b o e
  · by_cases n1 : b = 56
    · subst n1
      exact as_table c1.1 c1.2 e56 e
    · by_cases n2 : b = 63
      · subst n2
        exact as_table c2.1 c2.2 e63 e
      · exact .inl (other b o n1 n2 e)
  · by_cases n1 : b = 56
    · exact ⟨_, n1 ▸ e56⟩
    · by_cases n2 : b = 63
      · exact ⟨_, n2 ▸ e63⟩
      · exact ⟨o, other b o n1 n2 e⟩
theorem law_in {w : World} {body : List Stmt} {scope : Scope} {name qual : Str} {params : Arguments} {cl' : List (Str × Addr)} {dV kV doc pm cdv ct oc : Value} {an od : Option Addr} {osl : Array (Option Value)}
    {p : Program} {loose : List Str} {mn : ExcName → Option Value} {mg mb : Str → Option Value} {s₁ : Shared} {h₁ : Heap} {L fa : Addr} {cd : Value} {m0 : Str → Option Value} {S : Addr} {vs : List Value} {ns : List Int} {c : ClaimW} {cl : Str → Option Addr} {mean : ExcName → Option Value} {args : List WData} {tk : Nat} {E : Value → Shared → Prop}
    (h : (Mine.hd.heap_39 w.params).lookup 143 = some ⟨oc, od, .func (fnX name qual params body scope cl' dV kV doc pm an cdv ct), osl⟩)
    (HT : TabsAt tabs2 s₁.heap) (F : Fr s₁.heap L h₁ m0) (hm : m0 = (fun y => List.lookup y ([("script", Value.ref S)] : List (Str × Value)))) (KX : (Mine.hd.heap_39 w.params).In s₁.heap) (T : Top p loose mn mg mb s₁.heap) (N : News s₁.heap L h₁ [])
    (hL : s₁.heap.IsList S vs.toArray) (hI : IntsAre vs ns) (hlen : ns.length ≤ 63) (hg : s₁.gens = #[]) (hr : ∀ cls, c.raises args cls = false) (hp : c.post args (.bool true) args = true) :
    wpAny (model PySem.Challenge.rw_nb0047_01.row.prog w) (callerA.deeper (envOf "law" scope L fa cd)) (execs body (envOf "law" scope L fa cd)) (fun f s' => GoodWG c cl mean args s₁ (.ok (.ret (match f with | .ret v => v | _ => .none))) s') E { heap := h₁, gens := s₁.gens, drawn := s₁.drawn, toks := tk, os := s₁.os } := by
  have LW := spec_out h (law_walk w)
  exact wpAny_mono (LW _ _ _ _ _ 7 (some []) callerA _ _ [] L fa cd { heap := h₁, gens := s₁.gens, drawn := s₁.drawn, toks := tk, os := s₁.os } _ S vs ns (fun v s' => GoodWG c cl mean args s₁ (.ok (.ret v)) s') (ghost_below HT) (ghost_fr HT F) (ghost_K HT KX (no_tabs _)) (ghost_top HT T) (ghost_news HT F N) hm (ghost_list HT hL) hI hlen (.of_eq hg) (by decide)
    (fun h' tk' gs' m' ps ps2 F' e56 e63 _ _ G => good_end HT F' e56 e63 G hr hp)) (fun _ _ x => x) (fun _ _ x => x.elim)
end Mine
theorem PySem.Challenge.cw_nb0047_01_holds : PySem.Challenge.rw_nb0047_01.Holds := by
  refine Mine.hd ?_
  w_on
  k_fill
  intro w s₀ s₁ mg mb G Y fa o pm cd doc dV kV ho hd hcd hD hmg hg args vals as hpre hlay hrd hwl hlo
  have KX := km_in_of Y
  have KT := km_tabs_of Y
  have HT := Mine.tabs_at KX KT
  refine Ground.open G ?_
  intro T B D TE TW
  try (refine guard_noD D (by decide +kernel) ?_; clear D)
  clear hmg
  wrow_args hpre hlay hrd hwl hlo
  all_goals (
    first | refine callC_kw (enter_call ?_) | refine enter_call ?_
    w_top on
    w_call any ho hd hcd hD T F)
  rename Heap.IsList _ _ _ => hL
  rename IntsAre _ _ => hI
  rename News _ _ _ _ => N0
  rename ¬ _ => hc
  refine' Mine.law_in (by k_is) HT F rfl KX T N0 hL hI (by omega) hg (fun _ => rfl) (by first | wrow_post | with_unfolding_all rfl)
