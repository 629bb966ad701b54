import PyProof.Rows.All
import Wide.All
import OpenK.AllK
import Wide.FinOn
import PySem.Challenge.RW_sw0012_01
open PySem PySem.W PyProof.Rows
set_option Elab.async false
set_option maxRecDepth 100000
set_option maxHeartbeats 8000000
open_top hd0 for PySem.Challenge.rw_sw0012_01
theorem Mine.walk_off : True := by
  w_top off
  trivial
section
namespace Mine
noncomputable abbrev Led := List (Addr × Obj)
noncomputable abbrev CtrN (nd nu : Nat) (w : World) (mean : ExcName → Option Value) (mg mb : Str → Option Value) (f : Addr) (vs : List Value) (news : Led) (Post : Value → Led → Prop) : Prop :=
  ∀ (dp un : Nat) (gd : Option (List Code)) (cn : Str) (cs : Scope) (a : Addr) (ccd : Value) (cl : List (Str × Addr)) (outer : List Env) (A₀ : Around) (base h₀ : Heap) (L : Addr) (m : Str → Option Value) (s : Shared) (Q E : Value → Shared → Prop),
    Below A₀ base outer h₀ → Fr h₀ L s.heap m → (hd0.heap_39 w.params).In h₀ → News h₀ L s.heap news →
    Top hd0.view_39 (looseW hd0.view_39 [Str.ofString "_twin_re_1", Str.ofString "_twin_re_2"]) mean mg mb h₀ → cs.kind = .function → dp + nd < recursionLimit → un + nu < cLine →
    (∀ v nw h' tk', Post v nw → Fr h₀ L h' m → News h₀ L h' (nw ++ news) → Q v { s with heap := h', toks := tk' }) →
      wpAny (model PySem.Challenge.rw_sw0012_01.row.prog w) (ktrTop dp un gd cn cs L a ccd cl outer) (call (.ref f) vs) Q E s
noncomputable abbrev Ctr (w : World) (mean : ExcName → Option Value) (mg mb : Str → Option Value) (f : Addr) (vs : List Value) (news : Led) (Post : Value → Led → Prop) : Prop := CtrN 4 40 w mean mg mb f vs news Post
noncomputable abbrev CtrL (w : World) (mean : ExcName → Option Value) (mg mb : Str → Option Value) (f : Addr) (vs : List Value) (news : Led) (Post : Value → Led → Prop) : Prop := CtrN 1 8 w mean mg mb f vs news Post
theorem ret_int {x y : Int} {t : Tok} {news news' : Led} {h₀ h' : Heap} {L : Addr} {m : Str → Option Value} {s : Shared} {tk' : Nat} {Q : Value → Shared → Prop}
  (hret : ∀ v nw h' tk', (∃ t, v = Value.int x t ∧ nw = []) → Fr h₀ L h' m → News h₀ L h' (nw ++ news) → Q v { s with heap := h', toks := tk' })
  (e : y = x) (F : Fr h₀ L h' m) (N : News h₀ L h' news') (hs : ∀ p ∈ news, p ∈ news') : Q (.int y t) { s with heap := h', toks := tk' } := by
  subst e
  exact hret _ [] _ _ ⟨t, rfl, rfl⟩ F (fun p hp => N p (hs p hp))
end Mine
namespace Mine
section
variable {prog : Program} {w : World} {A : Around} {E : Value → Shared → Prop} {s : Shared} {h₀ : Heap} {L : Addr} {m : Str → Option Value} {news : Led}
theorem add_K {l b : Addr} {vs ws : List Value} {n n2 : Nat} {Q : Value → Shared → Prop} (F : Fr h₀ L s.heap m) (N : News h₀ L s.heap news) (hl : (l, listOf vs.toArray n) ∈ news) (hb : (b, listOf ws.toArray n2) ∈ news)
    (h : ∀ l' h', Fr h₀ L h' m → News h₀ L h' ((l', listOf (vs ++ ws).toArray 0) :: news) → (∀ p ∈ news, p.1 < l') → Q (.ref l') { s with heap := h' })
    (hsz : vs.length + ws.length ≤ sizeLine) : wpAny (model prog w) A (binaryOp .Add (.ref l) (.ref b)) Q E s :=
  add_lists F N (News.isList N hl) (News.isList N hb) (fun h' F' N' => h _ h' F' N' fun p hp => Heap.lt_size (N p hp).1) hsz
end
end Mine
namespace Mine
theorem of_allLt {d : Addr} : ∀ {l : Led}, AllLt d l → ∀ p ∈ l, p.1 < d
  | p :: r, h, q, hq => by
    rcases List.mem_cons.mp hq with rfl | hq
    · exact h.1
    · exact of_allLt h.2 q hq
  | [], _, _, hq => nomatch hq
theorem news_sub {h₀ h : Heap} {L : Addr} {l l' : Led} (N : News h₀ L h l) (hs : ∀ p ∈ l', p ∈ l) : News h₀ L h l' := fun p hp => N p (hs p hp)
theorem sub_cons {a : Addr × Obj} {l l' : Led} (h1 : a ∈ l) (h2 : ∀ p ∈ l', p ∈ l) : ∀ p ∈ a :: l', p ∈ l := fun p hp => (List.mem_cons.mp hp).elim (fun e => e ▸ h1) (h2 p)
theorem sub_tail {a : Addr × Obj} {l l' : Led} (h2 : ∀ p ∈ l', p ∈ l) : ∀ p ∈ l', p ∈ a :: l := fun p hp => List.Mem.tail _ (h2 p hp)
theorem sub_refl {l : Led} : ∀ p ∈ l, p ∈ l := fun _ hp => hp
noncomputable def drawnOf (ns : List Int) : List Int := (ns.take 6).map (fun a => a.fmod (10 ^ 9)) ++ [6, 12, 8, 20, 9, 3].drop (ns.take 6).length
end Mine
namespace Mine
section
variable {prog : Program} {w : World} {A : Around} {E : Value → Shared → Prop} {s : Shared} {h₀ : Heap} {L : Addr} {m : Str → Option Value} {news : Led}
theorem sliceFrom_K {value slice : Expr} {l : Addr} {vs : List Value} {ns : List Int} {k : Nat} {t : Tok} {Q : Value → Shared → Prop} (F : Fr h₀ L s.heap m) (N : News h₀ L s.heap news) (hl : s.heap.IsList l vs.toArray) (hi' : IntsAre vs ns)
    (h : ∀ D ws h', Fr h₀ L h' m → News h₀ L h' ((D, listOf (List.toArray ws) 0) :: news) → (∀ p ∈ news, p.1 < D) → IntsAre ws (ns.drop k) → Q (.ref D) { s with heap := h' })
    (hs : subscripted slice false (.ref l) (.ref s.heap.objs.size) = operate [.ref s.heap.objs.size, .ref l] (getItem (.ref l) (.ref s.heap.objs.size))) (ht : ∀ r, letTemporaryGo value (.ref l) r = pure ()) (hz : vs.toArray.size ≤ sizeLine) :
    wpAny (model prog w) A (subscriptTail value slice (.ref l) (.ref s.heap.objs.size)) Q E { s with heap := s.heap.push { cls := .type "slice", data := .fields #[.int (k : Int) t, .none, .none] } } :=
  kmk_slice_ints F N hl (IsPart.int _ _) IsPart.none hi' (by rw [slicePick_from']; simpa using hi'.drop k) rfl (fun D ws h' F' N' l1 hI _ _ => h D ws h' F' N' l1 hI) hs ht hz
end
theorem drawnOf_of {ns : List Int} {ys ws : List Value} (h1 : IntsAre ys (List.map (fun a => a.fmod (10 ^ Int.toNat 9)) (List.filter (fun _ => true) (List.take 6 ns)))) (h2 : IntsAre ws (List.drop (List.take 6 ns).length [6, 12, 8, 20, 9, 3])) : IntsAre (ys ++ ws) (drawnOf ns) := by
  have e : List.filter (fun _ => true) (List.take 6 ns) = List.take 6 ns := List.filter_eq_self.mpr (fun _ _ => rfl)
  rw [e] at h1
  exact IntsAre.append h1 h2
end Mine
namespace Mine
theorem numbers_size {ns : List Int} {ys ws : List Value} {k : Nat} (h1 : IntsAre ys (List.map (fun a => a.fmod (10 ^ Int.toNat 9)) (List.filter (fun _ => true) (List.take 6 ns)))) (h2 : IntsAre ws (List.drop k [6, 12, 8, 20, 9, 3])) : ys.length + ws.length ≤ sizeLine := by
  have e1 := h1.length
  have e2 := h2.length
  have e3 := List.length_filter_le (fun (_ : Int) => true) (List.take 6 ns)
  rw [sizeLine_eq]
  simp only [List.length_map, List.length_drop, List.length_cons, List.length_nil, List.length_take] at *
  omega
end Mine
namespace Mine
noncomputable def Sz (x : Int) : Prop := x.natAbs < 2 ^ 200
theorem sz_bits {x : Int} (h : Sz x) : Builtin.Int.intBits x ≤ 2 ^ 20 := by
  unfold Builtin.Int.intBits
  unfold Sz at h
  split
  · omega
  · rename_i h0
    have : x.natAbs.log2 < 200 := (Nat.log2_lt (by simpa using h0)).mpr h
    omega
theorem sz_mul {x y : Int} (hx : Sz x) (hy : Sz y) : IntMulOk x y := IntMulOk.of_bits (sz_bits hx) (sz_bits hy)
theorem sz_py {x y : Int} (hy : Sz y) : Builtin.divisionGoesByPylong x y = false := by
  refine PyProof.noPylong_of_log2 ?_
  by_cases h0 : y.natAbs = 0
  · rw [h0]; decide +kernel
  · have := (Nat.log2_lt h0).mpr hy
    omega
end Mine
namespace Mine
section
variable {prog : Program} {w : World} {A : Around} {E : Value → Shared → Prop} {s : Shared} {h₀ : Heap} {L : Addr} {m : Str → Option Value} {news : Led}
theorem item_K {value slice : PySem.Expr} {l : Addr} {vs : List Value} {n : Nat} {k : Int} {u : Tok} {v : Value} {Q : Value → Shared → Prop} (N : News h₀ L s.heap news) (hm : (l, listOf vs.toArray n) ∈ news)
    (h0 : 0 ≤ k) (hhi : k < 2 ^ 63) (hx : vs[k.toNat]? = some v) (h : Q v s)
    (hs : subscripted slice false (.ref l) (.int k u) = operate [.ref l, .int k u] (getItem (.ref l) (.int k u))) (hg : ∀ r, letTemporaryGo value (.ref l) r = pure ()) :
    wpAny (model prog w) A (subscriptTail value slice (.ref l) (.int k u)) Q E s :=
  item_list (News.isList N hm) h0 hhi (by simpa using hx) h hs hg
end
end Mine
end
section
namespace Mine
noncomputable def trunc (h : Heap) (n : Nat) : Heap := ⟨(h.objs.toList.take n).toArray, h.life⟩
theorem trunc_size (h : Heap) (n : Nat) : (trunc h n).objs.size ≤ n := by
  simp only [trunc, List.size_toArray, List.length_take]; omega
theorem trunc_size' {h : Heap} {n : Nat} (hn : n ≤ h.objs.size) : (trunc h n).objs.size = n := by
  simp only [trunc, List.size_toArray, List.length_take, Array.length_toList]; omega
theorem trunc_get {h : Heap} {n b : Nat} (hb : b < n) : (trunc h n).get? b = h.get? b := by
  unfold Heap.get? trunc
  simp only [List.getElem?_toArray, List.getElem?_take, hb, if_true, Array.getElem?_toList]
theorem trunc_of {h : Heap} {n b : Nat} {o : Obj} (e : (trunc h n).get? b = some o) : h.get? b = some o := by
  have hb : b < n := Nat.lt_of_lt_of_le (Heap.lt_size e) (trunc_size h n)
  rwa [trunc_get hb] at e
noncomputable def small (h₁ : Heap) (L' : Addr) (news₁ : Led) : Heap := hideAll (trunc h₁ L') (news₁.map (·.1))
noncomputable def Kept (news news₁ : Led) (h : Heap) : Prop := ∀ p ∈ news, p.1 ∉ news₁.map (·.1) → h.get? p.1 = some p.2
section
variable {g h₁ : Heap} {L' : Addr} {m₁ : Str → Option Value} {news news₁ cells : Led}
theorem small_of {b : Addr} {o : Obj} (e : (small h₁ L' news₁).get? b = some o) : h₁.get? b = some o := trunc_of (of_hideAll _ e)
theorem small_get {b : Addr} {o : Obj} (hb : b < L') (hn : b ∉ news₁.map (·.1)) (e : h₁.get? b = some o) : (small h₁ L' news₁).get? b = some o :=
  hideAll_get _ (by rw [trunc_get hb]; exact e) hn
theorem small_stays (F : Fr g L' h₁ m₁) (N : News g L' h₁ news) (hs : ∀ q ∈ news₁, q ∈ news) : g.StaysIn (small h₁ L' news₁) := fun b o e =>
  small_get (Nat.lt_of_lt_of_le (Heap.lt_size e) F.above) (fun q => by
    obtain ⟨p, hp, rfl⟩ := List.mem_map.mp q
    rw [(N p (hs p hp)).2.2] at e; cases e) (F.keep b o e)
theorem small_fr (F : Fr g L' h₁ m₁) : Fr (small h₁ L' news₁) L' h₁ m₁ :=
  ⟨F.ns, fun _ _ e => small_of e, Nat.le_trans (Nat.le_of_eq (hideAll_size _ _)) (trunc_size _ _)⟩
theorem small_news (N : News g L' h₁ news) (hs : ∀ q ∈ news₁, q ∈ news) : News (small h₁ L' news₁) L' h₁ news₁ := fun p hp =>
  ⟨(N p (hs p hp)).1, (N p (hs p hp)).2.1, hideAll_none _ (List.mem_map_of_mem hp)⟩
theorem below_stays {A : Around} {base g' : Heap} {outer : List Env} (B : Below A base outer g) (st : g.StaysIn g') : Below A base outer g' :=
  ⟨B.stack, fun b o e => st b o (B.stays b o e), B.frames.of_keeps fun b o e _ => ⟨o, st b o e, rfl⟩⟩
end
section
variable {h₀ s h' : Heap} {L : Addr} {m : Str → Option Value} {news news₁ nw nw' : Led}
theorem kept_news (N : News h₀ L s news) (hs : ∀ q ∈ news₁, q ∈ news) (hk : Kept news news₁ h') (N' : News h₀ L h' nw') (hn : ∀ q ∈ nw ++ news₁, q ∈ nw') : News h₀ L h' (nw ++ news) := fun p hp => by
  rcases List.mem_append.mp hp with hp | hp
  · exact N' p (hn p (List.mem_append_left _ hp))
  · by_cases q : p.1 ∈ news₁.map (·.1)
    · obtain ⟨r, hr, e⟩ := List.mem_map.mp q
      have h1 := (N p hp).1
      have h2 := (N r (hs r hr)).1
      rw [e, h1] at h2
      have : r = p := Prod.ext e (Option.some.inj h2).symm
      exact N' p (hn p (List.mem_append_right _ (this ▸ hr)))
    · exact ⟨hk p hp q, (N p hp).2.1, (N p hp).2.2⟩
end
section
variable {prog : Program} {w : World} {A A₀ : Around} {s : Shared} {K : Frag} {L : Addr} {h₀ base : Heap} {m mg mb : Str → Option Value} {news : Led} {p : Program} {loose : List Str} {mean : ExcName → Option Value}
theorem leave_small {g h₁ : Heap} {L' : Addr} {m₁ : Str → Option Value} {all news₁ : Led} {R : Result → Shared → Prop} {v : Value} {s' : Shared} (F : Fr g L' h₁ m₁) (N : News g L' h₁ all) (hs : ∀ q ∈ news₁, q ∈ all)
    (hn : ∀ q ∈ news, q ∈ all) (lt : ∀ q ∈ news, q.1 < L')
    (h : LeaveK h₀ L m (small h₁ L' news₁) (fun r s' => Kept news news₁ s'.heap → R r s') v s') : LeaveK h₀ L m g R v s' := by
  obtain ⟨L₂, m', nw', F', N', k⟩ := h
  have st := small_stays F N hs
  refine ⟨L₂, m', nw', ⟨F'.ns, fun b o e => F'.keep b o (st b o e), Nat.le_trans ?_ F'.above⟩, fun q hq => ⟨(N' q hq).1, (N' q hq).2.1, ?_⟩, fun F₂ N₂ => k F₂ N₂ fun q hq hnot => ?_⟩
  · have h1 : (small h₁ L' news₁).objs.size = L' := (hideAll_size _ _).trans (trunc_size' (Nat.le_of_lt F.ns.lt))
    rw [h1]; exact F.above
  · cases e : g.get? q.1 with
    | none => rfl
    | some o => have := (N' q hq).2.2; rw [st _ _ e] at this; cases this
  · exact F'.keep _ _ (small_get (lt q hq) hnot (N q (hn q hq)).1)
end

theorem cellsFrom_ge : ∀ (names : List (Str × NameKind)) (n : Nat) (acc : List (Str × Addr)) (b : Nat), b ≤ n → (∀ c ∈ acc, b ≤ c.2) → ∀ c ∈ cellsFrom n names acc, b ≤ c.2
  | [], _, _, _, _, h => h
  | (y, k) :: r, n, acc, b, hb, h => by
    unfold cellsFrom
    split
    · refine cellsFrom_ge r (n + 1) ((y, n) :: acc) b (by omega) fun c hc => ?_
      rcases List.mem_cons.mp hc with rfl | hc
      · exact hb
      · exact h c hc
    · exact cellsFrom_ge r n acc b hb h
theorem cellsAre_addr {cm : Str → Option Value} : ∀ {cs : List (Str × Addr)} {cells : Led}, CellsAre cm cs cells → ∀ c ∈ cells, ∃ d ∈ cs, d.2 = c.1
  | _, _, .nil, _, hc => nomatch hc
  | _, _, .cons _ r, c, hc => by
    rcases List.mem_cons.mp hc with rfl | hc
    · exact ⟨_, .head _, rfl⟩
    · obtain ⟨d, hd, e⟩ := cellsAre_addr r c hc
      exact ⟨d, .tail _ hd, e⟩
theorem cells_ge {cm : Str → Option Value} {names : List (Str × NameKind)} {L' : Nat} {cells : Led} (Y : CellsAre cm (cellsFrom (L' + 1) names []) cells) : ∀ c ∈ cells, L' < c.1 := fun c hc => by
  obtain ⟨d, hd, e⟩ := cellsAre_addr Y c hc
  have h := cellsFrom_ge names (L' + 1) [] (L' + 1) (Nat.le_refl _) (fun _ h => nomatch h) d hd
  exact e ▸ h
section
variable {prog : Program} {w : World} {A A₀ : Around} {s : Shared} {K : Frag} {L : Addr} {h₀ base : Heap} {m mg mb : Str → Option Value} {news : Led} {p : Program} {loose : List Str} {mean : ExcName → Option Value}
theorem enterS {env : Env} {outer : List Env} {R : Result → Shared → Prop} {name qual : Str} {params : Arguments} {body : List Stmt} {scope : Scope} {dV kV doc pm cdv ct oc : Value} {an od : Option Addr} {osl : Array (Option Value)} {f : Addr} {args : Args} {binds : List (Str × Value)} {news₁ : Led}
    (B : Below A₀ base outer h₀) (F : Fr h₀ L s.heap m) (X₀ : K.In h₀) (N : News h₀ L s.heap news) (T : Top p loose mean mg mb h₀) (hA : A.frames = some (env :: outer)) (hf : env.frame = some L) (hke : env.scope.kind = .function)
    (ho : K.lookup f = some ⟨oc, od, .func (fnOf name qual params body scope dV kV doc pm an cdv ct), osl⟩) (hcd : codeIn K cdv qual = true) (hroom : A.depth < recursionLimit)
    (hbind : BindsTo s (fnOf name qual params body scope dV kV doc pm an cdv ct) args binds) (hloc : ∀ y ∈ binds, scope.names.lookup y.1 = some .local) (hs : ∀ q ∈ news₁, q ∈ news)
    (h : ∀ g L' h₁, Fr g L' h₁ (fun y => binds.reverse.lookup y) → News g L' h₁ news₁ → Below A base (env :: outer) g → K.In g → Top p loose mean mg mb g →
      wpAny (model prog w) (A.deeper (envOf qual scope L' f cdv)) (execs body (envOf qual scope L' f cdv))
        (fun fl s' => LeaveK h₀ L m g (fun r s' => Kept news news₁ s'.heap → R r s') (match fl with | .ret v => v | _ => .none) s')
        (fun e s' => wpAny (model prog w) (A.deeper (envOf qual scope L' f cdv)) (leaving (envOf qual scope L' f cdv) e) (fun _ s'' => R (.error e) s'') (fun e' s'' => R (.error e') s'') s')
        { s with heap := h₁, toks := s.toks + binds.length })
    (hco : scope.isCoroutine = false) (hgen : scope.isGenerator = false) (hk : scope.kind = .function)
    (hcell : ∀ x ∈ scope.names, x.2 ≠ .cell) : codeAny (model prog w) A (.call (.ref f) args) R s :=
  callX_plain (cl := []) B F N T.nolimit hA hf hke ((X₀.keeps F.keep) _ _ ho) rfl (codeRec_of (X₀.keeps F.keep) hcd) hroom hbind hloc (fun g L' h₁ _ F' N' B' st lt => by
    have st' := small_stays F' N' hs
    refine wpAny_mono (h (small h₁ L' news₁) L' h₁ (small_fr F') (small_news N' hs) (below_stays B' st') ((X₀.keeps st).keeps st') ((T.keeps st).keeps st')) (fun fl s' hl => ?_) fun _ _ x => x
    exact leave_small F' N' hs (fun _ hq => hq) lt hl) hcell hco hgen hk
theorem enterSC {env : Env} {outer : List Env} {R : Result → Shared → Prop} {name qual : Str} {params : Arguments} {body : List Stmt} {scope : Scope} {dV kV doc pm cdv ct oc : Value} {an od : Option Addr} {osl : Array (Option Value)} {f : Addr} {args : Args} {binds : List (Str × Value)} {news₁ : Led}
    (B : Below A₀ base outer h₀) (F : Fr h₀ L s.heap m) (X₀ : K.In h₀) (N : News h₀ L s.heap news) (T : Top p loose mean mg mb h₀) (hA : A.frames = some (env :: outer)) (hf : env.frame = some L) (hke : env.scope.kind = .function)
    (ho : K.lookup f = some ⟨oc, od, .func (fnOf name qual params body scope dV kV doc pm an cdv ct), osl⟩) (hcd : codeIn K cdv qual = true) (hroom : A.depth < recursionLimit)
    (hbind : BindsTo s (fnOf name qual params body scope dV kV doc pm an cdv ct) args binds) (hkind : (binds.all fun y => scope.names.lookup y.1 == some .local || scope.names.lookup y.1 == some .cell) = true)
    (hnd : ((cellsFrom 0 scope.names []).map (·.1)).Nodup) (hs : ∀ q ∈ news₁, q ∈ news)
    (h : ∀ g L' h₁ tk cells, Fr g L' h₁ (bindL (envOfC qual scope L' f cdv).kindOf binds fun _ => none) → News g L' h₁ (cells ++ news₁) →
      CellsAre (bindC (envOfC qual scope L' f cdv).kindOf binds fun _ => none) (cellsFrom (L' + 1) scope.names []) cells → Below A base (env :: outer) g → K.In g → Top p loose mean mg mb g → (∀ q ∈ news₁, q.1 < L') →
      wpAny (model prog w) (A.deeper (envOfC qual scope L' f cdv)) (execs body (envOfC qual scope L' f cdv))
        (fun fl s' => LeaveK h₀ L m g (fun r s' => Kept news news₁ s'.heap → R r s') (match fl with | .ret v => v | _ => .none) s')
        (fun e s' => wpAny (model prog w) (A.deeper (envOfC qual scope L' f cdv)) (leaving (envOfC qual scope L' f cdv) e) (fun _ s'' => R (.error e) s'') (fun e' s'' => R (.error e') s'') s')
        { s with heap := h₁, toks := tk })
    (hco : scope.isCoroutine = false) (hgen : scope.isGenerator = false) (hk : scope.kind = .function) : codeAny (model prog w) A (.call (.ref f) args) R s :=
  callX_cells B F N T.nolimit hA hf hke ((X₀.keeps F.keep) _ _ ho) rfl (codeRec_of (X₀.keeps F.keep) hcd) hroom hbind (kindsX hkind) hnd (fun g L' h₁ tk cells _ F' N' Y B' st lt => by
    have hs' : ∀ q ∈ cells ++ news₁, q ∈ cells ++ news := fun q hq => (List.mem_append.mp hq).elim (fun x => List.mem_append_left _ x) fun x => List.mem_append_right _ (hs q x)
    have st' := small_stays F' N' hs'
    refine wpAny_mono (h (small h₁ L' (cells ++ news₁)) L' h₁ tk cells (small_fr F') (small_news N' hs') Y (below_stays B' st') ((X₀.keeps st).keeps st') ((T.keeps st).keeps st') fun q hq => lt q (hs q hq)) (fun fl s' hl => ?_) fun _ _ x => x
    refine leave_small F' N' hs' (fun _ hq => List.mem_append_right _ hq) lt ?_
    obtain ⟨L₂, m', nw', F₂, N₂, k⟩ := hl
    refine ⟨L₂, m', nw', F₂, N₂, fun F₃ N₃ hk => k F₃ N₃ fun q hq hnot => hk q hq fun hin => ?_⟩
    rw [List.map_append] at hin
    rcases List.mem_append.mp hin with hin | hin
    · obtain ⟨c, hc, e⟩ := List.mem_map.mp hin
      have h1 := cells_ge Y c hc
      have h2 := lt q hq
      rw [e] at h1
      exact absurd (Nat.lt_trans h1 h2) (Nat.lt_irrefl _)
    · exact hnot hin) hco hgen hk
end
end Mine

namespace Mine
section
variable {prog : Program} {w : World} {A : Around} {E : Value → Shared → Prop} {s : Shared}
theorem replace_K {x y z : Str} {t u v : Tok} {Q : Value → Shared → Prop} (hu : u ≠ 0) (hv : v ≠ 0) (huv : u ≠ v) (hyz : (y == z) = false) (hx : x.length ≤ 1048576) (hz : z.length ≤ 14)
    (hq : ∀ r t' k, r = Txt.replace x y z → Q (.str r t') { s with toks := k }) : wpAny (model prog w) A (call (.builtin "str.replace") [.str x t, .str y u, .str z v]) Q E s :=
  SC.replaceW hu hv huv hyz hx hz fun t' k => hq _ t' k rfl
end
end Mine
namespace Mine
noncomputable def Halt (P : Prop) : Prop := P
theorem Halt.mk {P : Prop} (h : Halt P) : P := h
end Mine
namespace Mine
theorem nameN {g h : Heap} {L a : Addr} {o : Obj} {rest : Led} {P : Prop} (N : News g L h ((a, o) :: rest)) (k : ∀ a' : Addr, a' = a → P) : P := k a rfl
end Mine
namespace Mine
section
variable {prog : Program} {w : World} {A : Around} {E : Value → Shared → Prop} {s : Shared} {h₀ : Heap} {L : Addr} {news : Led}
theorem itemS_K {value slice : PySem.Expr} {l : Addr} {vs : List Value} {ss : List Str} {n : Nat} {k : Int} {u : Tok} {Q : Value → Shared → Prop} (N : News h₀ L s.heap news) (hm : (l, listOf vs.toArray n) ∈ news) (hw : StrsAre vs ss)
    (h0 : 0 ≤ k) (h1 : k < (ss.length : Int)) (hfit : k < 2 ^ 62) (h : ∀ y t', y = ss.getD k.toNat Str.empty → y ∈ ss → Q (.str y t') s)
    (hs : subscripted slice false (.ref l) (.int k u) = operate [.ref l, .int k u] (getItem (.ref l) (.int k u))) (hg : ∀ r, letTemporaryGo value (.ref l) r = pure ()) :
    wpAny (model prog w) A (subscriptTail value slice (.ref l) (.int k u)) Q E s := by
  have hlt : k.toNat < ss.length := by omega
  have e : ss[k.toNat]? = some (ss.getD k.toNat Str.empty) := by
    rw [List.getD_eq_getElem?_getD, List.getElem?_eq_getElem hlt]; rfl
  obtain ⟨t, hx⟩ := hw.get k.toNat _ e
  exact item_list (News.isList N hm) h0 (by omega) (by simpa using hx) (h _ t rfl (List.mem_of_getElem? e)) hs hg
end
end Mine
end
section
namespace Mine
noncomputable def rowStep (D : List Int) (k : Int) (ss : List Str) : Str :=
  if k = (D.getD 4 0).fmod 4 then Txt.mul (Str.ofString ".") (1 + ((D.getD 4 0).fdiv 4).fmod 2) ++ ss.getD ((D.getD k.toNat 0).fmod (k + 1)).toNat Str.empty
  else Txt.replace (ss.getD ((D.getD k.toNat 0).fmod (k + 1)).toNat Str.empty) (Txt.item (Str.ofString "abcd") k)
    (Txt.item (if ((D.getD k.toNat 0).fdiv (k + 1)).fmod 2 = 1 then Str.ofString "pqrs" else Str.ofString "ABCD") k)
noncomputable def rowsF (D : List Int) : Nat → List Str
  | 0 => [Txt.replace (Str.ofString "abcd") (Txt.item (Str.ofString "abcd") ((D.getD 4 0).fmod 4)) (Str.ofString "")]
  | j + 1 => rowsF D j ++ [rowStep D (j : Int) (rowsF D j)]
theorem replace_len (x y z : Str) : (Txt.replace x y z).length ≤ x.length + (x.length + 1) * z.length := by
  unfold Txt.replace
  split
  · omega
  · have h1 := StrLaws.occ_length_le x y 0 x.length (x.length + 1)
    have hy : (Builtin.Str.glued y (Builtin.Str.partsBetween x (Builtin.Str.occurrences x y 0 x.length (x.length + 1)) y.length)).length = x.length := by rw [StrLaws.glued_between_self]
    rw [size_glued, length_partsBetween, Nat.add_sub_cancel] at hy
    rw [size_glued, length_partsBetween, Nat.add_sub_cancel]
    have h2 : (Builtin.Str.occurrences x y 0 x.length (x.length + 1)).length * z.length ≤ (x.length + 1) * z.length := Nat.mul_le_mul_right _ h1
    omega
theorem item_len (x : Str) (k : Int) : (Txt.item x k).length = 1 := rfl
theorem fmod4 (d : Int) : d.fmod 4 = 0 ∨ d.fmod 4 = 1 ∨ d.fmod 4 = 2 ∨ d.fmod 4 = 3 := by
  have := fmod_lo d (n := 4) (by decide)
  have := fmod_hi d (n := 4) (by decide)
  omega
theorem yz0 (d : Int) : (Txt.item (Str.ofString "abcd") (d.fmod 4) == Str.ofString "") = false := by
  rcases fmod4 d with h | h | h | h <;> rw [h] <;> decide +kernel
theorem four {k : Int} {j : Nat} (hk : k = 0 + (j : Int)) (hj : j < 4) : k = 0 ∨ k = 1 ∨ k = 2 ∨ k = 3 := by omega
theorem yzP {k : Int} {j : Nat} (hk : k = 0 + (j : Int)) (hj : j < 4) : (Txt.item (Str.ofString "abcd") k == Txt.item (Str.ofString "pqrs") k) = false := by
  rcases four hk hj with h | h | h | h <;> rw [h] <;> decide +kernel
theorem yzA {k : Int} {j : Nat} (hk : k = 0 + (j : Int)) (hj : j < 4) : (Txt.item (Str.ofString "abcd") k == Txt.item (Str.ofString "ABCD") k) = false := by
  rcases four hk hj with h | h | h | h <;> rw [h] <;> decide +kernel
theorem pow_le {j : Nat} (hj : j < 4) : 6 * 2 ^ j - 2 ≤ 46 := by
  rcases (by omega : j = 0 ∨ j = 1 ∨ j = 2 ∨ j = 3) with h | h | h | h <;> subst h <;> decide
noncomputable def RowsP (D : List Int) (j : Nat) (ss : List Str) : Prop := ss = rowsF D j ∧ ss.length = 1 + j ∧ ∀ z ∈ ss, z.length ≤ 6 * 2 ^ j - 2
theorem rowsP_len {D : List Int} {j : Nat} {ss : List Str} (h : RowsP D j ss) : ss.length = 1 + j := h.2.1
theorem rowsP_mem {D : List Int} {j : Nat} {ss : List Str} (h : RowsP D j ss) (hj : j < 4) {y : Str} (hy : y ∈ ss) : y.length ≤ 46 := Nat.le_trans (h.2.2 y hy) (pow_le hj)
theorem rows_start {D : List Int} {rr : Str} (h : rr = Txt.replace (Str.ofString "abcd") (Txt.item (Str.ofString "abcd") ((D.getD 4 0).fmod 4)) (Str.ofString "")) : RowsP D 0 [rr] := by
  refine ⟨by rw [h]; rfl, rfl, fun z hz => ?_⟩
  rw [List.mem_singleton.mp hz, h]
  have := replace_len (Str.ofString "abcd") (Txt.item (Str.ofString "abcd") ((D.getD 4 0).fmod 4)) (Str.ofString "")
  have e : (Str.ofString "abcd").length = 4 := by decide +kernel
  have e' : (Str.ofString "").length = 0 := by decide +kernel
  rw [e, e'] at this
  simpa using this
theorem mul_len {x : Str} {i : Int} (h : x.length = 1) (h0 : 0 ≤ i) : ((Txt.mul x i).length : Int) = i := by
  unfold Txt.mul
  split
  · have : i = 0 := by omega
    subst this; rfl
  · split
    · rename_i h1 h2
      rcases (Bool.or_eq_true _ _).mp h2 with h3 | h3
      · have : i = 1 := by simpa using h3
        rw [h, this]; rfl
      · simp [h] at h3
    · have key : ∀ (n : Nat) (acc : Array Nat), ((List.replicate n x.cps).foldl (· ++ ·) acc).size = acc.size + n := by
        intro n
        induction n with
        | zero => intro acc; simp
        | succ n ih =>
          intro acc
          rw [List.replicate_succ, List.foldl_cons, ih, Array.size_append]
          have : x.cps.size = 1 := h
          omega
      show ((((List.replicate i.toNat x.cps).foldl (· ++ ·) #[]).size : Nat) : Int) = i
      rw [key]
      simp
      omega
theorem getD_mem_len {ss : List Str} {i b : Nat} (hb : ∀ z ∈ ss, z.length ≤ b) : (ss.getD i Str.empty).length ≤ b := by
  rw [List.getD_eq_getElem?_getD]
  cases h : ss[i]? with
  | none => exact Nat.zero_le _
  | some y => exact hb y (List.mem_of_getElem? h)
theorem rowStep_len {D : List Int} {k : Int} {ss : List Str} {b : Nat} (hb : ∀ z ∈ ss, z.length ≤ b) : (rowStep D k ss).length ≤ 2 * b + 2 := by
  unfold rowStep
  split
  · rw [Str.length_append]
    have h1 := getD_mem_len (i := ((D.getD k.toNat 0).fmod (k + 1)).toNat) hb
    have h2 := fmod_lo ((D.getD 4 0).fdiv 4) (n := 2) (by decide)
    have h3 := fmod_hi ((D.getD 4 0).fdiv 4) (n := 2) (by decide)
    have h4 := mul_len (x := Str.ofString ".") (i := 1 + ((D.getD 4 0).fdiv 4).fmod 2) (by decide +kernel) (by omega)
    omega
  · refine Nat.le_trans (replace_len _ _ _) ?_
    rw [item_len]
    have h1 := getD_mem_len (i := ((D.getD k.toNat 0).fmod (k + 1)).toNat) hb
    omega
theorem rows_turn {D : List Int} {j : Nat} {ss : List Str} {k : Int} {y : Str} (h : RowsP D j ss) (hk : k = 0 + (j : Int)) (hy : y = rowStep D k ss) : RowsP D (j + 1) (ss ++ [y]) := by
  have e : k = (j : Int) := by omega
  subst e
  refine ⟨by rw [hy, h.1]; rfl, by rw [List.length_append, h.2.1]; simp; omega, fun z hz => ?_⟩
  have hp : 2 ^ (j + 1) = 2 * 2 ^ j := by rw [Nat.pow_succ, Nat.mul_comm]
  have hp' : 1 ≤ 2 ^ j := Nat.one_le_two_pow
  rcases List.mem_append.mp hz with hz | hz
  · have := h.2.2 z hz
    omega
  · rw [List.mem_singleton.mp hz, hy]
    have := rowStep_len (D := D) (k := (j : Int)) h.2.2
    omega
theorem rowStep_dot {D : List Int} {k d4 : Int} {ss : List Str} {ya : Str} (hd : D.getD 4 0 = d4) (h : k = d4.fmod 4) (hy : ya = ss.getD ((D.getD k.toNat 0).fmod (k + 1)).toNat Str.empty) :
    Txt.mul (Str.ofString ".") (1 + (d4.fdiv 4).fmod 2) ++ ya = rowStep D k ss := by
  subst hd; unfold rowStep; rw [if_pos h, hy]
theorem rowStep_P {D : List Int} {k d4 : Int} {ss : List Str} {ya rr : Str} (hd : D.getD 4 0 = d4) (h : ¬ k = d4.fmod 4) (hy : ya = ss.getD ((D.getD k.toNat 0).fmod (k + 1)).toNat Str.empty) (hc : ((D.getD k.toNat 0).fdiv (k + 1)).fmod 2 = 1)
    (hr : rr = Txt.replace ya (Txt.item (Str.ofString "abcd") k) (Txt.item (Str.ofString "pqrs") k)) : rr = rowStep D k ss := by
  subst hd; unfold rowStep; rw [if_neg h, if_pos hc, hr, hy]
theorem rowStep_A {D : List Int} {k d4 : Int} {ss : List Str} {ya rr : Str} (hd : D.getD 4 0 = d4) (h : ¬ k = d4.fmod 4) (hy : ya = ss.getD ((D.getD k.toNat 0).fmod (k + 1)).toNat Str.empty) (hc : ¬ ((D.getD k.toNat 0).fdiv (k + 1)).fmod 2 = 1)
    (hr : rr = Txt.replace ya (Txt.item (Str.ofString "abcd") k) (Txt.item (Str.ofString "ABCD") k)) : rr = rowStep D k ss := by
  subst hd; unfold rowStep; rw [if_neg h, if_neg hc, hr, hy]
theorem no_idx {k : Int} {j : Nat} {x : Str} (hk : k = 0 + (j : Int)) (hj : j < 4) (hx : x.length = 4) (h : k < -(x.length : Int) ∨ (x.length : Int) ≤ k) : False := by
  rw [hx] at h; omega
theorem dot_size {D : List Int} {j : Nat} {ss : List Str} {d : Int} {ya : Str} (h : RowsP D j ss) (hj : j < 4) (hm : ya ∈ ss) : (Txt.mul (Str.ofString ".") (1 + (d.fdiv 4).fmod 2)).length + ya.length ≤ sizeLine := by
  have h1 := rowsP_mem h hj hm
  have h2 := fmod_lo (d.fdiv 4) (n := 2) (by decide)
  have h3 := fmod_hi (d.fdiv 4) (n := 2) (by decide)
  have h4 := mul_len (x := Str.ofString ".") (i := 1 + (d.fdiv 4).fmod 2) (by decide +kernel) (by omega)
  rw [sizeLine_eq]
  omega
noncomputable def dueF (l0 l1 l2 l3 x : Int) : List Int := [l0 + x, (-1) ^ 2 * 2 ^ 0 * l0 * (l0 + 0 + 2 * x), (-1) ^ 3 * 2 ^ 1 * (l0 * l1) * (l0 + (l1 + 0) + 2 * x),
  (-1) ^ 4 * 2 ^ 2 * (l0 * l1 * l2) * (l0 + (l1 + (l2 + 0)) + 2 * x), (-1) ^ 5 * 2 ^ 3 * (l0 * l1 * l2 * l3) * (l0 + (l1 + (l2 + (l3 + 0))) + 2 * x)]
noncomputable def lengthsF (D : List Int) : List Int :=
  (List.map (fun k' => 1 + ((D.getD k'.toNat 0).fdiv (k' + 1)).fmod 2) (rangeKs 0 ((4 : Int) - 0).toNat)).set ((D.getD 4 0).fmod 4).toNat (2 * (1 + ((D.getD 4 0).fdiv 4).fmod 2) + 2 * (1 + ((D.getD 4 0).fdiv 8).fmod 2))
end Mine
end
section
namespace Mine
noncomputable def wayG (D L : List Int) : Nat → Int → Int → Int
  | 0, _, _ => 0
  | n + 1, i, j => if i = j then 0 else L.getD (max i j - 1).toNat 0 + wayG D L n (min i j) ((D.getD (max i j - 1).toNat 0).fmod (max i j - 1 + 1))
theorem way_pos {i j : Int} (h1 : 0 ≤ i) (h3 : 0 ≤ j) (hne : i ≠ j) : 0 < max i j - 1 + 1 := by
  rw [Int.sub_add_cancel]
  refine Int.lt_iff_le_and_ne.mpr ⟨Int.le_trans h1 (Int.le_max_left i j), fun e => hne ?_⟩
  have a := Int.le_max_left i j
  have b := Int.le_max_right i j
  rw [← e] at a b
  rw [Int.le_antisymm a h1, Int.le_antisymm b h3]
theorem way_ar {i j q : Int} (hq : q < max i j - 1 + 1) : min i j + q < i + j := by
  rw [Int.sub_add_cancel] at hq
  rcases Int.le_total i j with h | h
  · rw [Int.max_eq_right h] at hq
    rw [Int.min_eq_left h]
    exact Int.add_lt_add_left hq i
  · rw [Int.max_eq_left h] at hq
    rw [Int.min_eq_right h, Int.add_comm i j]
    exact Int.add_lt_add_left hq j
theorem toNat_lt' {a b : Int} (h : 0 ≤ a) (k : a < b) : a.toNat < b.toNat := by omega
theorem way_less {D : List Int} {i j : Int} (h1 : 0 ≤ i) (h3 : 0 ≤ j) (hne : i ≠ j) : (min i j + (D.getD (max i j - 1).toNat 0).fmod (max i j - 1 + 1)).toNat < (i + j).toNat :=
  have hp := way_pos h1 h3 hne
  toNat_lt' (Int.add_nonneg (Int.le_min.mpr ⟨h1, h3⟩) (fmod_lo _ hp)) (way_ar (fmod_hi _ hp))
theorem way_zero {i j : Int} (h1 : 0 ≤ i) (h3 : 0 ≤ j) (h : (i + j).toNat ≤ 0) : i = j := by omega
theorem wayG_self {D L : List Int} (i : Int) : ∀ n, wayG D L n i i = 0
  | 0 => rfl
  | _ + 1 => if_pos rfl
theorem wayG_succ {D L : List Int} {n : Nat} {i j : Int} (h : i ≠ j) : wayG D L (n + 1) i j = L.getD (max i j - 1).toNat 0 + wayG D L n (min i j) ((D.getD (max i j - 1).toNat 0).fmod (max i j - 1 + 1)) := if_neg h
theorem wayG_fuel {D L : List Int} : ∀ (n m : Nat) (i j : Int), 0 ≤ i → 0 ≤ j → (i + j).toNat ≤ n → (i + j).toNat ≤ m → wayG D L n i j = wayG D L m i j
  | 0, _, i, j, h0, h1, hn, _ => by rw [way_zero h0 h1 hn, wayG_self, wayG_self]
  | _, 0, i, j, h0, h1, _, hm => by rw [way_zero h0 h1 hm, wayG_self, wayG_self]
  | n + 1, m + 1, i, j, h0, h1, hn, hm => by
    by_cases e : i = j
    · rw [e, wayG_self, wayG_self]
    · have k := way_less (D := D) h0 h1 e
      rw [wayG_succ e, wayG_succ e, wayG_fuel n m (min i j) _ (Int.le_min.mpr ⟨h0, h1⟩) (fmod_lo _ (way_pos h0 h1 e)) (Nat.le_of_lt_succ (Nat.lt_of_lt_of_le k hn)) (Nat.le_of_lt_succ (Nat.lt_of_lt_of_le k hm))]
noncomputable def WayP (D L : List Int) (i₀ j₀ i j way : Int) : Prop := 0 ≤ i ∧ i ≤ 4 ∧ 0 ≤ j ∧ j ≤ 4 ∧ -4000 ≤ way ∧ way + 1000 * (i + j) ≤ 9000 ∧ way + wayG D L 8 i j = wayG D L 8 i₀ j₀
theorem way_ar1 {way l a b : Int} (c1 : l ≤ 100) (k : a < b) (h : way + 1000 * b ≤ 9000) : way + l + 1000 * a ≤ 9000 := by omega
theorem way_ar2 {i j : Int} (h1 : i ≤ 4) (h2 : j ≤ 4) : (i + j).toNat ≤ 8 := by omega
theorem way_turn {D L : List Int} {i₀ j₀ i j way : Int} (hL : ∀ z ∈ L, 0 ≤ z ∧ z ≤ 100) (h : WayP D L i₀ j₀ i j way) (hne : i ≠ j) :
    WayP D L i₀ j₀ (min i j) ((D.getD (max i j - 1).toNat 0).fmod (max i j - 1 + 1)) (way + L.getD (max i j - 1).toNat 0) := by
  obtain ⟨h1, h2, h3, h4, h5, h6, h7⟩ := h
  have hp := way_pos h1 h3 hne
  have a := fmod_lo (D.getD (max i j - 1).toNat 0) hp
  have b := fmod_hi (D.getD (max i j - 1).toNat 0) hp
  have c : 0 ≤ L.getD (max i j - 1).toNat 0 ∧ L.getD (max i j - 1).toNat 0 ≤ 100 := by
    rw [List.getD_eq_getElem?_getD]
    cases e : L[(max i j - 1).toNat]? with
    | none => exact ⟨Int.le_refl 0, by decide⟩
    | some y => exact hL y (List.mem_of_getElem? e)
  have m0 : 0 ≤ min i j := Int.le_min.mpr ⟨h1, h3⟩
  have m4 : min i j ≤ 4 := Int.le_trans (Int.min_le_left i j) h2
  have q4 : (D.getD (max i j - 1).toNat 0).fmod (max i j - 1 + 1) ≤ 4 := Int.le_trans (Int.le_of_lt b) (by rw [Int.sub_add_cancel]; exact Int.max_le.mpr ⟨h2, h4⟩)
  refine ⟨m0, m4, a, q4, Int.le_trans h5 (Int.le_add_of_nonneg_right c.1), way_ar1 c.2 (way_ar b) h6, ?_⟩
  rw [← h7, Int.add_assoc, wayG_succ (n := 7) hne]
  have k := way_less (D := D) h1 h3 hne
  have k8 := way_ar2 h2 h4
  rw [wayG_fuel 8 7 (min i j) _ m0 a (Nat.le_trans (Nat.le_of_lt k) k8) (Nat.le_of_lt_succ (Nat.lt_of_lt_of_le k k8))]
theorem way_ar3 {i j : Int} (h : i ≤ 4) (h2 : j ≤ 4) : 0 + 1000 * (i + j) ≤ 9000 := by omega
theorem way_start {D L : List Int} {i₀ j₀ : Int} (h : 0 ≤ i₀ ∧ i₀ ≤ 4) (h' : 0 ≤ j₀ ∧ j₀ ≤ 4) : WayP D L i₀ j₀ i₀ j₀ 0 :=
  ⟨h.1, h.2, h'.1, h'.2, by decide, way_ar3 h.2 h'.2, by rw [Int.zero_add]⟩
theorem way_end {D L : List Int} {i₀ j₀ i j way : Int} (h : WayP D L i₀ j₀ i j way) (e : i = j) : wayG D L 8 i₀ j₀ = way := by
  obtain ⟨_, _, _, _, _, _, h7⟩ := h
  rw [← h7, e, wayG_self, Int.add_zero]
theorem if_min (i j : Int) : (if j < i then j else i) = min i j := by
  by_cases h : j < i
  · rw [if_pos h, Int.min_eq_right (Int.le_of_lt h)]
  · rw [if_neg h, Int.min_eq_left (Int.not_lt.mp h)]
theorem if_max (i j : Int) : (if j > i then j else i) = max i j := by
  by_cases h : j > i
  · rw [if_pos h, Int.max_eq_right (Int.le_of_lt h)]
  · rw [if_neg h, Int.max_eq_left (Int.not_lt.mp h)]
end Mine
end
section
namespace Mine
noncomputable def ExitW {σ : Type} (h₀ : Heap) (L : Addr) (s : Shared) (Led : σ → Led) (ps : σ → List (Str × Value)) (Facts : σ → Prop) (stored : List Str) (m₀ : Str → Option Value) (Done : σ → Prop) (s₂ : Shared) : Prop :=
  ∃ (c' : σ) (h' : Heap) (tk : Nat) (m' : Str → Option Value) (news' : List (Addr × Obj)), s₂ = { s with heap := h', toks := tk } ∧ Fr h₀ L h' m' ∧ News h₀ L h' news' ∧ (∀ p ∈ Led c', p ∈ news') ∧ Facts c' ∧ (∀ p ∈ ps c', m' p.1 = some p.2) ∧ (∀ z, (∀ p ∈ ps c', z ≠ p.1) → stored.contains z = false → m' z = m₀ z) ∧ Done c'
section
variable {prog : Program} {w : World} {A : Around} {E : Value → Shared → Prop} {Q : Flow → Shared → Prop} {s : Shared} {env : Env} {h₀ : Heap} {L : Addr}
theorem exit_end {σ : Type} {s : Shared} {Led : σ → List (Addr × Obj)} {ps : σ → List (Str × Value)} {Facts : σ → Prop} {stored : List Str} {m₀ m' : Str → Option Value} {Done : σ → Prop} {h' : Heap} {tk : Nat} {news' : List (Addr × Obj)} (c' : σ)
    (F : Fr h₀ L h' m') (N : News h₀ L h' news') (hn : ∀ p ∈ Led c', p ∈ news') (hf : Facts c') (hk : ∀ p ∈ ps c', m' p.1 = some p.2) (hr : ∀ z, (∀ p ∈ ps c', z ≠ p.1) → stored.contains z = false → m' z = m₀ z) (hp : Done c') :
    ExitW h₀ L s Led ps Facts stored m₀ Done { s with heap := h', toks := tk } := ⟨c', h', tk, m', news', rfl, F, N, hn, hf, hk, hr, hp⟩
theorem whileX {σ : Type} {test : Expr} {body : List Stmt} {pos : Pos} {m₀ : Str → Option Value} (Led : σ → List (Addr × Obj)) (ps : σ → List (Str × Value)) (Facts : σ → Prop) (stored : List Str) (P : σ → Prop) (Done : σ → Prop) (μ : σ → Nat) (c₀ : σ)
    (F : Fr h₀ L s.heap m₀) (N : News h₀ L s.heap (Led c₀)) (hf : Facts c₀) (hk : ∀ p ∈ ps c₀, m₀ p.1 = some p.2) (hp : P c₀)
    (turn : ∀ (c : σ) (u : Str → Option Value) h tk, Facts c → P c → Fr h₀ L h (kstB (fun z => if stored.contains z then u z else m₀ z) (ps c)) → News h₀ L h (Led c) →
      wpAny (model prog w) A (isTrue test env (eval test env)) (fun b s₂ =>
        if b = true then wpAny (model prog w) A (execs body env) (KswPost h₀ L s Led ps Facts stored m₀ P μ Q c) E s₂ else ExitW h₀ L s Led ps Facts stored m₀ Done s₂) E { s with heap := h, toks := tk })
    (done : ∀ (c : σ) (u : Str → Option Value) h tk, Facts c → Done c → Fr h₀ L h (kstB (fun z => if stored.contains z then u z else m₀ z) (ps c)) → News h₀ L h (Led c) → Q .next { s with heap := h, toks := tk })
    (hE : PassesOwn (model prog w) A env E) :
    wpAny (model prog w) A (exec (.While test body [] pos) env) Q E s := by
  refine ksw_while Led ps Facts stored P μ c₀ F N hf hk hp (fun c u h tk hf' hp' F' N' => ?_) hE
  refine wpAny_mono (turn c u h tk hf' hp' F' N') (fun b s₂ q => ?_) fun _ _ x => x
  cases b with
  | true => simpa using q
  | false =>
    simp only [Bool.false_eq_true, if_false] at q ⊢
    obtain ⟨c', h', tk', m', news', rfl, F₂, N₂, hn, hf₂, hk₂, hr₂, hd⟩ := q
    exact done c' m' h' tk' hf₂ hd (ksw_fr hk₂ hr₂ F₂) fun p hp => N₂ p (hn p hp)
theorem cut_eval {e : Expr} {m : Str → Option Value} {news : Led} {Q : Value → Shared → Prop} (r : Str) (F : Fr h₀ L s.heap m) (N : News h₀ L s.heap news)
    (h : ∀ Q' : Value → Shared → Prop, (∀ r' t h' tk, r' = r → Fr h₀ L h' m → News h₀ L h' news → Q' (.str r' t) { s with heap := h', toks := tk }) → wpAny (model prog w) A (eval e env) Q' E s)
    (k : ∀ r' t h' tk, r' = r → Fr h₀ L h' m → News h₀ L h' news → Q (.str r' t) { s with heap := h', toks := tk }) : wpAny (model prog w) A (eval e env) Q E s :=
  h Q k
theorem cutX {σ : Type} {st : Stmt} {m₀ : Str → Option Value} (F : Fr h₀ L s.heap m₀) (Led : σ → List (Addr × Obj)) (ps : σ → List (Str × Value)) (Facts : σ → Prop) (stored : List Str) (Done : σ → Prop)
    (h : wpAny (model prog w) A (exec st env) (fun fl s₂ => match fl with | .next => ExitW h₀ L s Led ps Facts stored m₀ Done s₂ | f => Q f s₂) E s)
    (done : ∀ (c : σ) (u : Str → Option Value) h tk, Facts c → Done c → Fr h₀ L h (kstB (fun z => if stored.contains z then u z else m₀ z) (ps c)) → News h₀ L h (Led c) → Q .next { s with heap := h, toks := tk }) :
    wpAny (model prog w) A (exec st env) Q E s :=
  wpAny_mono h (fun fl s₂ q => by
    cases fl with
    | next =>
      obtain ⟨c', h', tk', m', news', rfl, F₂, N₂, hn, hf₂, hk₂, hr₂, hd⟩ := q
      exact done c' m' h' tk' hf₂ hd (ksw_fr hk₂ hr₂ F₂) fun p hp => N₂ p (hn p hp)
    | ret v => exact q
    | brk => exact q
    | cont => exact q) fun _ _ x => x
end
end Mine
end
section
namespace Mine
noncomputable def lst (x : Str) : List Nat := x.cps.toList
theorem lst_len (x : Str) : x.length = (lst x).length := by
  show x.cps.size = x.cps.toList.length
  simp
theorem lst_mk (l : List Nat) : lst ⟨l.toArray⟩ = l := rfl
theorem slice_from_lst {x : Str} {z : Int} (h0 : 0 ≤ z) : lst (Txt.slice x (some z) none) = (lst x).drop z.toNat := by
  by_cases h : z ≤ x.length
  · rw [slice_from_eq h0 h rfl, lst_mk]
    have : (x.cps.toList.drop z.toNat).length ≤ ((x.length : Int) - z).toNat := by
      rw [List.length_drop]
      have := lst_len x
      unfold lst at this
      omega
    rw [List.take_of_length_le this]; rfl
  · rw [slice_beyond (by omega), List.drop_of_length_le (by rw [← lst_len]; omega)]; rfl
theorem slice_to_lst {x : Str} {z : Int} (h : z < 0) : lst (Txt.slice x none (some z)) = (lst x).take ((lst x).length - (-z).toNat) := by
  have e := lst_len x
  rw [slice_to_neg h, beq_iff_eq.mp (slice_closes_to (x := x) (j := max 0 ((x.length : Int) + z)) ⟨by omega, by show _ ≤ (((lst x).length : Nat) : Int); omega⟩), lst_mk]
  simp only [Int.toNat_zero, List.drop_zero]
  show (lst x).take _ = _
  congr 1
  omega
theorem lst_inj {x y : Str} (h : lst x = lst y) : x = y := by
  cases x; cases y
  exact congrArg Str.mk (Array.toList_inj.mp h)
theorem slice_nn_lst (x : Str) : lst (Txt.slice x none none) = lst x := by
  have e : Txt.slice x none none = Txt.slice x (some 0) none := by
    unfold Txt.slice
    have : Builtin.Str.strSliceIndices none none 1 x.length = Builtin.Str.strSliceIndices (some 0) none 1 x.length := by
      have a2 : ¬ ((x.length : Int) < 0) := by omega
      have e : max (0 : Int) (min 0 (x.length : Int)) = 0 := by omega
      simp [Builtin.Str.strSliceIndices, e]
    rw [this]
  rw [e, slice_from_lst (by decide)]
  rfl
theorem getD_cps (x : Str) (i : Nat) : (x.cps[i]?).getD 0 = (lst x).getD i 0 := by
  rw [List.getD_eq_getElem?_getD]; simp [lst]
theorem item_nat {x : Str} {z : Int} (h0 : 0 ≤ z) (h1 : z < x.length) : Txt.item x z = ⟨#[(lst x).getD z.toNat 0]⟩ := by
  unfold Txt.item Txt.charAt
  have e : seqIndex? z x.length = some z.toNat := by unfold seqIndex?; simp; omega
  rw [e]
  show (⟨#[(x.cps[z.toNat]?).getD 0]⟩ : Str) = _
  rw [getD_cps]
theorem item_neg {x : Str} {z : Int} (h0 : z < 0) (h1 : -(x.length : Int) ≤ z) : Txt.item x z = ⟨#[(lst x).getD (x.length + z).toNat 0]⟩ := by
  unfold Txt.item Txt.charAt
  have e : seqIndex? z x.length = some (x.length + z).toNat := by unfold seqIndex?; simp; omega
  rw [e]
  show (⟨#[(x.cps[(x.length + z).toNat]?).getD 0]⟩ : Str) = _
  rw [getD_cps]
noncomputable def cpl : List Nat → List Nat → Nat
  | a :: r, b :: t => if a = b then cpl r t + 1 else 0
  | _, _ => 0
theorem cpl_left : ∀ X Y : List Nat, cpl X Y ≤ X.length
  | [], _ => by simp [cpl]
  | _ :: _, [] => by simp [cpl]
  | a :: r, b :: t => by
    have := cpl_left r t
    unfold cpl; split <;> simp <;> omega
theorem cpl_right : ∀ X Y : List Nat, cpl X Y ≤ Y.length
  | [], _ => by simp [cpl]
  | _ :: _, [] => by simp [cpl]
  | a :: r, b :: t => by
    have := cpl_right r t
    unfold cpl; split <;> simp <;> omega
theorem cpl_step : ∀ (X Y : List Nat) (p : Nat), p ≤ cpl X Y → p < X.length → p < Y.length → X.getD p 0 = Y.getD p 0 → p + 1 ≤ cpl X Y
  | [], _, _, _, h, _, _ => by simp at h
  | _ :: _, [], _, _, _, h, _ => by simp at h
  | a :: r, b :: t, 0, _, _, _, h => by
    have : a = b := h
    simp [cpl, this]
  | a :: r, b :: t, p + 1, h, h1, h2, h3 => by
    unfold cpl at h ⊢
    split at h
    · rename_i e
      rw [if_pos e]
      have := cpl_step r t p (by omega) (by simpa using h1) (by simpa using h2) (by simpa using h3)
      omega
    · omega
theorem cpl_stop : ∀ (X Y : List Nat) (p : Nat), p ≤ cpl X Y → p < X.length → p < Y.length → X.getD p 0 ≠ Y.getD p 0 → p = cpl X Y
  | [], _, _, _, h, _, _ => by simp at h
  | _ :: _, [], _, _, _, h, _ => by simp at h
  | a :: r, b :: t, 0, _, _, _, h => by
    have : a ≠ b := h
    simp [cpl, this]
  | a :: r, b :: t, p + 1, h, h1, h2, h3 => by
    unfold cpl at h ⊢
    split at h
    · rename_i e
      rw [if_pos e]
      have := cpl_stop r t p (by omega) (by simpa using h1) (by simpa using h2) (by simpa using h3)
      omega
    · omega

noncomputable def cutT (u : Str) (z : Int) : Str := if z = 0 then u else Txt.slice u none (some z)
theorem cutT_lst {u : Str} {z : Int} (h : z ≤ 0) : lst (cutT u z) = (lst u).take ((lst u).length - (-z).toNat) := by
  unfold cutT
  split
  · rename_i e; subst e; simp
  · exact slice_to_lst (by omega)
theorem cutT_len {u : Str} {z : Int} (h : z ≤ 0) : (cutT u z).length = u.length - (-z).toNat := by
  rw [lst_len, cutT_lst h, List.length_take, ← lst_len]; omega
theorem cutT_zero {u : Str} {z : Int} (h : z = 0) : Txt.slice u none none = cutT u z := by
  subst h; exact lst_inj (slice_nn_lst u)
theorem cutT_not {u : Str} {z : Int} (h : z ≠ 0) : Txt.slice u none (some z) = cutT u z := by
  unfold cutT; rw [if_neg h]
theorem item_eq {a b : Nat} (h : ((⟨#[a]⟩ : Str) == ⟨#[b]⟩) = true) : a = b := by
  have := beq_iff_eq.mp h
  simpa using this
theorem item_ne {a b : Nat} (h : ((⟨#[a]⟩ : Str) == ⟨#[b]⟩) = false) : a ≠ b := fun e => by
  subst e; simp at h
noncomputable def Pre1 (x y : Str) (z : Int) : Prop := 0 ≤ z ∧ z.toNat ≤ cpl (lst x) (lst y)
noncomputable def Done1 (x y : Str) (z : Int) : Prop := 0 ≤ z ∧ z.toNat = cpl (lst x) (lst y)
section
variable {x y : Str} {z : Int}
theorem pre_in (h : 0 ≤ z) (ha : ((Txt.slice x (some z) none).length : Int) ≠ 0) : z.toNat < (lst x).length := by
  rw [lst_len, slice_from_lst h, List.length_drop] at ha
  omega
theorem pre_turn (h : Pre1 x y z) (ha : ((Txt.slice x (some z) none).length : Int) ≠ 0) (hb : ((Txt.slice y (some z) none).length : Int) ≠ 0) (hc : (Txt.item x z == Txt.item y z) = true) : Pre1 x y (z + 1) := by
  have h1 := pre_in h.1 ha
  have h2 := pre_in h.1 hb
  have e1 := lst_len x
  have e2 := lst_len y
  have h0 := h.1
  rw [item_nat h0 (by omega), item_nat h0 (by omega)] at hc
  refine ⟨by omega, ?_⟩
  have := cpl_step _ _ _ h.2 h1 h2 (item_eq hc)
  omega
theorem pre_less (h : Pre1 x y z) (hx : x.length ≤ 40) (ha : ((Txt.slice x (some z) none).length : Int) ≠ 0) : (41 - (z + 1)).toNat < (41 - z).toNat := by
  have h1 := pre_in h.1 ha
  have e1 := lst_len x
  omega
theorem pre_exit_a (h : Pre1 x y z) (ha : ((Txt.slice x (some z) none).length : Int) = 0) : Done1 x y z := by
  rw [lst_len, slice_from_lst h.1, List.length_drop] at ha
  have h1 := cpl_left (lst x) (lst y)
  have h2 := h.2
  exact ⟨h.1, by omega⟩
theorem pre_exit_b (h : Pre1 x y z) (ha : ((Txt.slice y (some z) none).length : Int) = 0) : Done1 x y z := by
  rw [lst_len, slice_from_lst h.1, List.length_drop] at ha
  have h1 := cpl_right (lst x) (lst y)
  have h2 := h.2
  exact ⟨h.1, by omega⟩
theorem pre_exit_c (h : Pre1 x y z) (ha : ((Txt.slice x (some z) none).length : Int) ≠ 0) (hb : ((Txt.slice y (some z) none).length : Int) ≠ 0) (hc : (Txt.item x z == Txt.item y z) = false) : Done1 x y z := by
  have h1 := pre_in h.1 ha
  have h2 := pre_in h.1 hb
  have e1 := lst_len x
  have e2 := lst_len y
  have h0 := h.1
  rw [item_nat h0 (by omega), item_nat h0 (by omega)] at hc
  exact ⟨h0, cpl_stop _ _ _ h.2 h1 h2 (item_ne hc)⟩
end
noncomputable def Suf (u v : Str) (z : Int) : Prop := z ≤ 0 ∧ (-z).toNat ≤ cpl (lst u).reverse (lst v).reverse
noncomputable def Done2 (u v : Str) (z : Int) : Prop := z ≤ 0 ∧ -40 ≤ z ∧ (-z).toNat = cpl (lst u).reverse (lst v).reverse
section
variable {u v : Str} {z : Int}
theorem suf_in (h : z ≤ 0) {p : Str} (hp : p = cutT u z) (ha : (p.length : Int) ≠ 0) : (-z).toNat < (lst u).length := by
  rw [hp, cutT_len h, lst_len] at ha
  omega
theorem rev_getD {l : List Nat} {q : Nat} (h : q < l.length) : l.reverse.getD q 0 = l.getD (l.length - 1 - q) 0 := by
  rw [List.getD_eq_getElem?_getD, List.getD_eq_getElem?_getD, List.getElem?_reverse h]
theorem suf_char (h : z ≤ 0) (hin : (-z).toNat < (lst u).length) : Txt.item u (z - 1) = ⟨#[(lst u).reverse.getD (-z).toNat 0]⟩ := by
  have e1 := lst_len u
  have e : ((u.length : Int) + (z - 1)).toNat = (lst u).length - 1 - (-z).toNat := by omega
  rw [item_neg (by omega) (by omega), rev_getD hin, e]
theorem suf_ge (h : Suf u v z) (hu : u.length ≤ 40) : -40 ≤ z := by
  have h1 := cpl_left (lst u).reverse (lst v).reverse
  have e1 := lst_len u
  have := h.2
  rw [List.length_reverse] at h1
  omega
theorem suf_turn {p q : Str} (h : Suf u v z) (hp : p = cutT u z) (hq : q = cutT v z) (ha : (p.length : Int) ≠ 0) (hb : (q.length : Int) ≠ 0) (hc : (Txt.item u (z - 1) == Txt.item v (z - 1)) = true) : Suf u v (z - 1) := by
  have h1 := suf_in h.1 hp ha
  have h2 := suf_in h.1 hq hb
  have h0 := h.1
  rw [suf_char h0 h1, suf_char h0 h2] at hc
  refine ⟨by omega, ?_⟩
  have := cpl_step _ _ _ h.2 (by rw [List.length_reverse]; exact h1) (by rw [List.length_reverse]; exact h2) (item_eq hc)
  omega
theorem suf_less {p : Str} (h : Suf u v z) (hu : u.length ≤ 40) (hp : p = cutT u z) (ha : (p.length : Int) ≠ 0) : (41 + (z - 1)).toNat < (41 + z).toNat := by
  have h1 := suf_in h.1 hp ha
  have e1 := lst_len u
  have := h.1
  omega
theorem suf_exit_a {p : Str} (h : Suf u v z) (hu : u.length ≤ 40) (hp : p = cutT u z) (ha : (p.length : Int) = 0) : Done2 u v z := by
  rw [hp, cutT_len h.1, lst_len] at ha
  have h1 := cpl_left (lst u).reverse (lst v).reverse
  have h2 := h.2
  have := h.1
  rw [List.length_reverse] at h1
  exact ⟨h.1, suf_ge h hu, by omega⟩
theorem suf_exit_b {q : Str} (h : Suf u v z) (hu : u.length ≤ 40) (hq : q = cutT v z) (ha : (q.length : Int) = 0) : Done2 u v z := by
  rw [hq, cutT_len h.1, lst_len] at ha
  have h1 := cpl_right (lst u).reverse (lst v).reverse
  have h2 := h.2
  have := h.1
  rw [List.length_reverse] at h1
  exact ⟨h.1, suf_ge h hu, by omega⟩
theorem suf_exit_c {p q : Str} (h : Suf u v z) (hu : u.length ≤ 40) (hp : p = cutT u z) (hq : q = cutT v z) (ha : (p.length : Int) ≠ 0) (hb : (q.length : Int) ≠ 0) (hc : (Txt.item u (z - 1) == Txt.item v (z - 1)) = false) : Done2 u v z := by
  have h1 := suf_in h.1 hp ha
  have h2 := suf_in h.1 hq hb
  have h0 := h.1
  rw [suf_char h0 h1, suf_char h0 h2] at hc
  exact ⟨h0, suf_ge h hu, cpl_stop _ _ _ h.2 (by rw [List.length_reverse]; exact h1) (by rw [List.length_reverse]; exact h2) (item_ne hc)⟩
end
theorem cut_bound {u p : Str} {z : Int} (h : z ≤ 0) (hp : p = cutT u z) : p.length ≤ u.length ∧ ((p.length : Int) ≠ 0 → -z < u.length) := by
  rw [hp, cutT_len h]
  omega
structure InCut : Prop where
end Mine
end
section
namespace Mine
noncomputable def subC (x y : Str) : Int := if x = y then 0 else if Txt.lower x = Txt.lower y then 1 else 2
noncomputable def costU (c d : Nat) : Int := subC ⟨#[c]⟩ ⟨#[d]⟩
noncomputable abbrev DSt := Int × Int × Int × List Int
noncomputable def inS (cost : Nat → Nat → Int) (b : Nat) (A : List Nat) (st : DSt) (i : Nat) : DSt :=
  (st.2.2.2.getD i 0, min (min st.2.1 (st.2.2.2.getD i 0) + 2) (st.1 + cost b (A.getD i 0)),
    (if min (min st.2.1 (st.2.2.2.getD i 0) + 2) (st.1 + cost b (A.getD i 0)) < st.2.2.1 then min (min st.2.1 (st.2.2.2.getD i 0) + 2) (st.1 + cost b (A.getD i 0)) else st.2.2.1),
    st.2.2.2.set i (min (min st.2.1 (st.2.2.2.getD i 0) + 2) (st.1 + cost b (A.getD i 0))))
noncomputable def inF (cost : Nat → Nat → Int) (b : Nat) (A : List Nat) (st : DSt) : Nat → DSt
  | 0 => st
  | j + 1 => inS cost b A (inF cost b A st j) j
noncomputable def goF (cost : Nat → Nat → Int) (A B : List Nat) (mc : Int) : Nat → Nat → List Int → Int → Int
  | 0, _, _, res => res
  | n + 1, k, row, _ =>
    if (inF cost (B.getD k 0) A ((k : Int) * 2, (k : Int) * 2, 9223372036854775807, row) A.length).2.2.1 > mc then mc + 1
    else goF cost A B mc n (k + 1) (inF cost (B.getD k 0) A ((k : Int) * 2, (k : Int) * 2, 9223372036854775807, row) A.length).2.2.2 (inF cost (B.getD k 0) A ((k : Int) * 2, (k : Int) * 2, 9223372036854775807, row) A.length).2.1
noncomputable def levD (cost : Nat → Nat → Int) (A B : List Nat) (mc : Int) : Int :=
  if ((B.length : Int) - A.length) * 2 > mc then mc + 1 else goF cost A B mc B.length 0 (rangeInts 2 2 A.length) 0
noncomputable def levT (cost : Nat → Nat → Int) (P R : List Nat) (mc : Int) : Int :=
  if P.length = 0 ∨ R.length = 0 then 2 * ((P.length : Int) + R.length) else if R.length < P.length then levD cost R P mc else levD cost P R mc
noncomputable def levF (cost : Nat → Nat → Int) (X Y : List Nat) (mc : Int) : Int :=
  if X = Y then 0 else
  levT cost (((X.drop (cpl X Y))).take ((X.drop (cpl X Y)).length - cpl (X.drop (cpl X Y)).reverse (Y.drop (cpl X Y)).reverse))
    (((Y.drop (cpl X Y))).take ((Y.drop (cpl X Y)).length - cpl (X.drop (cpl X Y)).reverse (Y.drop (cpl X Y)).reverse)) mc
theorem range2 : ∀ n : Fin 41, Builtin.Range.small 2 (2 * (((n : Nat) : Int) + 1)) 2 = true ∧ Builtin.Range.rangeSize 2 (2 * (((n : Nat) : Int) + 1)) 2 = ((n : Nat) : Int) := by decide +kernel
section
variable {prog : Program} {w : World} {A : Around} {E : Value → Shared → Prop} {s : Shared} {h₀ : Heap} {L : Addr} {m : Str → Option Value} {Q : Value → Shared → Prop} {news : Led}
theorem listRange2_K {r : Addr} {t u v : Tok} {n : Nat} (hh : A.handled = none) (F : Fr h₀ L s.heap m) (N : News h₀ L s.heap news) (hr : IsRange s.heap r 2 (2 * ((n : Int) + 1)) 2 t u v) (hn : n ≤ 40)
    (h : ∀ D ys ep h' tk, Fr h₀ L h' m → News h₀ L h' ((D, listOf (List.toArray ys) ep) :: news) → (∀ p ∈ news, p.1 < D) → IntsAre ys (rangeInts 2 2 n) → Q (.ref D) { s with heap := h', toks := tk }) :
    wpAny (model prog w) A (call (.type "list") [.ref r]) Q E s := by
  have q := range2 ⟨n, by omega⟩
  refine list_rangeD hh F N hr q.1 q.2 (by omega) fun h' tk ys F' N' _ hn' _ P C => ?_
  obtain ⟨ep, N₂⟩ := made_enters P F' N' hn'
  have I := CarriedAll.intsOf (f := fun z => z) (as := rangeInts 2 2 n) C
  rw [List.map_id'] at I
  exact h _ ys ep h' tk F' N₂ (fun p hp => Heap.lt_size (N p hp).1) I
end
noncomputable def InP (b : Nat) (A : List Nat) (st : DSt) (j : Nat) (d r mn : Int) (ns : List Int) : Prop := (d, r, mn, ns) = inF costU b A st j ∧ ns.length = A.length
theorem in_start {b : Nat} {A : List Nat} {d r mn : Int} {ns : List Int} (h : ns.length = A.length) : InP b A (d, r, mn, ns) 0 d r mn ns := ⟨rfl, h⟩
theorem in_turn {b : Nat} {A : List Nat} {st : DSt} {j : Nat} {d r mn d' r' mn' : Int} {ns ns' : List Int} (h : InP b A st j d r mn ns)
    (e1 : d' = ns.getD j 0) (e2 : r' = min (min r (ns.getD j 0) + 2) (d + costU b (A.getD j 0))) (e3 : mn' = if r' < mn then r' else mn) (e4 : ns' = ns.set j r') : InP b A st (j + 1) d' r' mn' ns' := by
  refine ⟨?_, by rw [e4, List.length_set]; exact h.2⟩
  have := h.1
  show _ = inS costU b A (inF costU b A st j) j
  rw [← this, e4, e3, e2, e1]
  rfl
noncomputable def OutP (A B : List Nat) (mc : Int) (k : Nat) (ns : List Int) (res : Int) : Prop :=
  goF costU A B mc B.length 0 (rangeInts 2 2 A.length) 0 = goF costU A B mc (B.length - k) k ns res ∧ ns.length = A.length
theorem out_start {A B : List Nat} {mc : Int} : OutP A B mc 0 (rangeInts 2 2 A.length) 0 := ⟨rfl, rangeInts_length _ _ _⟩
theorem out_ret {A B : List Nat} {mc : Int} {k : Nat} {ns ns' : List Int} {res d r mn : Int} (h : OutP A B mc k ns res) (hk : k < B.length)
    (hi : InP (B.getD k 0) A ((k : Int) * 2, (k : Int) * 2, 9223372036854775807, ns) A.length d r mn ns') (hm : mn > mc) : goF costU A B mc B.length 0 (rangeInts 2 2 A.length) 0 = mc + 1 := by
  rw [h.1, show B.length - k = (B.length - (k + 1)) + 1 by omega, goF, ← hi.1, if_pos hm]
theorem out_turn {A B : List Nat} {mc : Int} {k : Nat} {ns ns' : List Int} {res d r mn : Int} (h : OutP A B mc k ns res) (hk : k < B.length)
    (hi : InP (B.getD k 0) A ((k : Int) * 2, (k : Int) * 2, 9223372036854775807, ns) A.length d r mn ns') (hm : ¬ mn > mc) : OutP A B mc (k + 1) ns' r := by
  refine ⟨?_, hi.2⟩
  rw [h.1, show B.length - k = (B.length - (k + 1)) + 1 by omega, goF, ← hi.1, if_neg hm]
theorem out_end {A B : List Nat} {mc : Int} {ns : List Int} {res : Int} (h : OutP A B mc B.length ns res) : goF costU A B mc B.length 0 (rangeInts 2 2 A.length) 0 = res := by
  rw [h.1, Nat.sub_self]; rfl
theorem item_cost {X Y : Str} {i j : Int} (hi : 0 ≤ i) (hi' : i < X.length) (hj : 0 ≤ j) (hj' : j < Y.length) : subC (Txt.item X i) (Txt.item Y j) = costU ((lst X).getD i.toNat 0) ((lst Y).getD j.toNat 0) := by
  rw [item_nat hi hi', item_nat hj hj']; rfl
theorem lev_red {x y u v pu pv : Str} {z mc : Int} (hne : (x == y) = false) (hul : lst u = (lst x).drop (cpl (lst x) (lst y))) (hvl : lst v = (lst y).drop (cpl (lst x) (lst y))) (hD : Done2 u v z) (hpu : pu = cutT u z) (hpv : pv = cutT v z) :
    levF costU (lst x) (lst y) mc = levT costU (lst pu) (lst pv) mc := by
  have hne' : lst x ≠ lst y := fun e => by
    have := lst_inj e
    subst this; simp at hne
  unfold levF
  rw [if_neg hne', ← hul, ← hvl, hpu, hpv, cutT_lst hD.1, cutT_lst hD.1, hD.2.2]
section
variable {p r : Str} {mc : Int}
theorem levT_zero (h : (p.length : Int) = 0 ∨ (r.length : Int) = 0) : levT costU (lst p) (lst r) mc = 2 * ((p.length : Int) + r.length) := by
  unfold levT
  rw [← lst_len, ← lst_len, if_pos (by omega)]
theorem levT_swap (h1 : (p.length : Int) ≠ 0) (h2 : (r.length : Int) ≠ 0) (h3 : (r.length : Int) < p.length) : levT costU (lst p) (lst r) mc = levD costU (lst r) (lst p) mc := by
  unfold levT
  rw [← lst_len, ← lst_len, if_neg (by omega), if_pos (by omega)]
theorem levT_same (h1 : (p.length : Int) ≠ 0) (h2 : (r.length : Int) ≠ 0) (h3 : ¬ (r.length : Int) < p.length) : levT costU (lst p) (lst r) mc = levD costU (lst p) (lst r) mc := by
  unfold levT
  rw [← lst_len, ← lst_len, if_neg (by omega), if_neg (by omega)]
theorem levD_big (h : ((r.length : Int) - p.length) * 2 > mc) : levD costU (lst p) (lst r) mc = mc + 1 := by
  unfold levD
  rw [← lst_len, ← lst_len, if_pos h]
theorem levD_go (h : ¬ ((r.length : Int) - p.length) * 2 > mc) : levD costU (lst p) (lst r) mc = goF costU (lst p) (lst r) mc (lst r).length 0 (rangeInts 2 2 (lst p).length) 0 := by
  unfold levD
  rw [if_neg (by rw [← lst_len, ← lst_len]; exact h)]
end
theorem lev_same {x y : Str} {mc : Int} (h : (x == y) = true) : levF costU (lst x) (lst y) mc = 0 := by
  have := beq_iff_eq.mp h
  subst this
  unfold levF
  rw [if_pos rfl]
theorem if_min' (i j : Int) : (if j < i then j else i) = min i j := by split <;> omega
theorem in_e2 {pu pv : Str} {i j : Nat} {d r X : Int} (hi : i < pu.length) (hj : j < pv.length) :
    (if d + subC (Txt.item pu (i : Int)) (Txt.item pv (j : Int)) < (if X < r then X else r) + 2 then d + subC (Txt.item pu (i : Int)) (Txt.item pv (j : Int)) else (if X < r then X else r) + 2) =
      min (min r X + 2) (d + costU ((lst pu).getD i 0) ((lst pv).getD j 0)) := by
  rw [if_min', if_min', item_cost (by omega) (by omega) (by omega) (by omega)]
  rfl
end Mine
end
section
namespace Mine
theorem pa_pattern : PlainAttrs "re.Pattern" :=
  ⟨⟨"object.__getattribute__", by rw [typeLookup_type, builtinLookup_eq_fast]; kernel_rfl, by decide +kernel⟩, by rw [typeLookup_type, builtinLookup_eq_fast]; kernel_rfl⟩
theorem owner_pattern : Manifest.owners.lookup (String.ofList ['n', 'r', 'e', 't', 't', 'a', 'P', '.', 'e', 'r'].reverse) = some Manifest.sig_re_Pattern := by kernel_rfl
theorem slot_sub : Slot "re.Pattern" "sub" "re.Pattern.sub" :=
  .of (owner := "re.Pattern") (n := "sub") (by rw [typeLookup_type, builtinLookup_eq_fast]; kernel_rfl) (by decide +kernel) (by decide +kernel) (by decide +kernel)
    (by first | exact .inl (by decide +kernel) | exact .inr (by decide +kernel)) (by rw [isSubtype_type]; kernel_rfl)
theorem type_sub : typeOf (.builtin "re.Pattern.sub") = pure (.type "method_descriptor") := by show builtinType _ = _; rw [builtinType_eq_fast]; kernel_rfl
theorem entry_sub : entryFor table "re.Pattern.sub" = some Builtin.«re.Pattern.sub» := entryFor_of_tree (by kernel_rfl)
theorem entry_subloop : entryFor table "re.Pattern.sub.loop" = some Builtin.«re.Pattern.sub.loop» := entryFor_of_tree (by kernel_rfl)
theorem args_sub (a b c : Value) : argsOk "re.Pattern.sub" ⟨[a, b, c], []⟩ := by
  unfold argsOk; rw [signature?_of (id := "re.Pattern.sub") (n := ['b', 'u', 's']) (o := ['n', 'r', 'e', 't', 't', 'a', 'P', '.', 'e', 'r']) (by kernel_rfl) owner_pattern]; kernel_rfl
theorem plain_subloop : plainId "re.Pattern.sub.loop" = true := by decide +kernel
end Mine
end
section
namespace Mine
open PySem.Sre
noncomputable def c2 : Array Nat := #[14, 9, 4, 1, 2, 16, 10, 16, 13, 0, 7, 7, 16, 13, 16, 10, 15, 18, 5, 16, 10, 15, 13, 11, 16, 13, 5, 5, 0, 16, 10, 1, 15, 2, 0, 1]
noncomputable def c1 : Array Nat := #[14, 4, 0, 1, 1, 6, 1, 16, 46, 1]
noncomputable def sm (c T : Array Nat) (s pc pos hd : Nat) (om : Bool) (fr : List Sre.Frame) (wt : Nat) (an : Option Bool) (seen : Sre.Seen) : M :=
  { code := c, text := T, lim := T.size, start := s, lastStart := T.size, pc := pc, pos := pos, handed := hd, outermost := om, marks := #[], frames := fr, weight := wt, answer := an, seen := seen }
noncomputable def fN (wait : Wait) (pc pos : Nat) (om : Bool) : Sre.Frame := { wait := wait, pc := pc, pos := pos, outermost := om, kept := { lastmark := -1, lastindex := -1, whole := false, marks := #[] } }
theorem runFor_step {n : Nat} {m : M} (h : m.outcome = none) : M.runFor (n + 1) m = M.runFor n m.step := by
  show (if m.outcome.isSome then m else M.runFor n m.step) = _
  rw [h]; rfl
theorem runFor_done {n : Nat} {m : M} (h : m.outcome.isSome = true) : M.runFor n m = m := by
  cases n with
  | zero => rfl
  | succ n =>
    show (if m.outcome.isSome then m else M.runFor n m.step) = _
    rw [h]; rfl
theorem run_sm {c T : Array Nat} {s pc pos hd n : Nat} {om : Bool} {fr : List Sre.Frame} {wt : Nat} {an : Option Bool} {seen : Sre.Seen} {m : M} (h : (sm c T s pc pos hd om fr wt an seen).step = m) :
    M.runFor (n + 1) (sm c T s pc pos hd om fr wt an seen) = M.runFor n m := by
  rw [runFor_step rfl, h]
theorem attempt_ok {m : M} {f : Sre.Frame} {t p : Nat} {o : Bool} (h : m.weight + 1 + f.kept.marks.size ≤ 16777216) :
    m.attempt f t p o = { m with frames := f :: m.frames, weight := m.weight + 1 + f.kept.marks.size, pc := t, pos := p, handed := p, outermost := o } := by
  unfold M.attempt
  rw [if_neg (Nat.not_lt.mpr h)]
theorem op16 : ops[16]? = some .LITERAL := rfl
theorem op15 : ops[15]? = some .JUMP := rfl
theorem op7 : ops[7]? = some .BRANCH := rfl
theorem op5 : ops[5]? = some .ASSERT_NOT := rfl
theorem op6 : ops[6]? = some .AT := rfl
theorem op1 : ops[1]? = some .SUCCESS := rfl
section
variable {c T : Array Nat} {s pc pos hd : Nat} {om : Bool} {fr : List Sre.Frame} {wt : Nat} {seen : Sre.Seen}
theorem step_exec (h : pc < c.size) : (sm c T s pc pos hd om fr wt none seen).step = (sm c T s pc pos hd om fr wt none seen).exec := by
  show (if pc < c.size then _ else _) = _
  rw [if_pos h]
theorem w0 {k : Nat} {op : Op} (h0 : c.getD pc 0 = k) (ho : ops[k]? = some op) : ops[(sm c T s pc pos hd om fr wt none seen).word 0]? = some op := by
  show ops[c.getD (pc + 0) 0]? = _
  rw [Nat.add_zero, h0, ho]
theorem step_lit {k : Nat} (h : pc < c.size) (h0 : c.getD pc 0 = 16) (h1 : c.getD (pc + 1) 0 = k) (hp : pos < T.size) (hc : T.getD pos 0 = k) :
    (sm c T s pc pos hd om fr wt none seen).step = sm c T s (pc + 2) (pos + 1) hd om fr wt none (seen.add 16) := by
  rw [step_exec h]
  unfold M.exec
  rw [w0 h0 op16]
  have hp' : ¬ pos ≥ T.size := by omega
  have hb : (k == k) = true := by simp
  simp only [sm, M.word, accepts, itemWidth, Nat.add_zero, h0, h1, hc, hp', if_false, op16, hb]
theorem step_litno {k : Nat} (h : pc < c.size) (h0 : c.getD pc 0 = 16) (h1 : c.getD (pc + 1) 0 = k) (hc : pos < T.size → T.getD pos 0 ≠ k) :
    (sm c T s pc pos hd om fr wt none seen).step = sm c T s pc pos hd om fr wt (some false) (seen.add 16) := by
  rw [step_exec h]
  unfold M.exec
  rw [w0 h0 op16]
  by_cases hp : pos ≥ T.size
  · simp only [sm, M.word, M.say, Nat.add_zero, h0, hp, if_true]
  · have := hc (by omega)
    have hb : (T.getD pos 0 == k) = false := by simpa only [beq_eq_false_iff_ne, ne_eq] using this
    simp only [sm, M.word, M.say, accepts, Nat.add_zero, h0, h1, hp, if_false, op16, hb]
theorem step_jump {k : Nat} (h : pc < c.size) (h0 : c.getD pc 0 = 15) (h1 : c.getD (pc + 1) 0 = k) :
    (sm c T s pc pos hd om fr wt none seen).step = sm c T s (pc + 1 + k) pos hd om fr wt none (seen.add 15) := by
  rw [step_exec h]
  unfold M.exec
  rw [w0 h0 op15]
  simp only [sm, M.word, Nat.add_zero, h0, h1]
theorem step_ok (h : pc < c.size) (h0 : c.getD pc 0 = 1) : (sm c T s pc pos hd om fr wt none seen).step = sm c T s pc pos pos om fr wt (some true) (seen.add 1) := by
  rw [step_exec h]
  unfold M.exec
  rw [w0 h0 op1]
  simp only [sm, M.word, M.say, Nat.add_zero, h0, Bool.false_and, Bool.or_self, Bool.and_false, Bool.false_eq_true, if_false]
theorem step_at (h : pc < c.size) (h0 : c.getD pc 0 = 6) (h1 : c.getD (pc + 1) 0 = 1) (hb : pos = 0 ∨ T.getD (pos - 1) 0 = 10) :
    (sm c T s pc pos hd om fr wt none seen).step = sm c T s (pc + 2) pos hd om fr wt none ((seen.add 6).add 44) := by
  rw [step_exec h]
  unfold M.exec
  rw [w0 h0 op6]
  have hb' : (pos == 0 || T.getD (pos - 1) 0 == 10) = true := by simpa only [Bool.or_eq_true, beq_iff_eq] using hb
  simp only [sm, M.word, M.isAt, Nat.add_zero, h0, h1, hb', if_true]
theorem step_atno (h : pc < c.size) (h0 : c.getD pc 0 = 6) (h1 : c.getD (pc + 1) 0 = 1) (hb : ¬ (pos = 0 ∨ T.getD (pos - 1) 0 = 10)) :
    (sm c T s pc pos hd om fr wt none seen).step = sm c T s pc pos hd om fr wt (some false) ((seen.add 6).add 44) := by
  rw [step_exec h]
  unfold M.exec
  rw [w0 h0 op6]
  have hb' : (pos == 0 || T.getD (pos - 1) 0 == 10) = false := by
    rw [← Bool.not_eq_true]
    simpa only [Bool.or_eq_true, beq_iff_eq] using hb
  simp only [sm, M.word, M.say, M.isAt, Nat.add_zero, h0, h1, hb', Bool.false_eq_true, if_false]
theorem step_branch (h : pc < c.size) (h0 : c.getD pc 0 = 7) (h1 : c.getD (pc + 1) 0 ≠ 0) (hw : wt ≤ 1000) :
    (sm c T s pc pos hd om fr wt none seen).step = sm c T s (pc + 2) pos pos om (fN .nextBranch (pc + 1) pos om :: fr) (wt + 1) none (seen.add 7) := by
  rw [step_exec h]
  unfold M.exec
  rw [w0 h0 op7]
  have hz : (c.getD (pc + 1) 0 == 0) = false := by simpa only [beq_eq_false_iff_ne, ne_eq] using h1
  have hw' : ¬ (wt + 1 + 0 > 16777216) := by omega
  simp only [sm, fN, M.word, M.alternative, M.attempt, M.frame, M.keep, Nat.add_zero, h0, hz, Bool.false_eq_true, if_false, Option.isSome_none]
  rw [if_neg]
  · rfl
  · show ¬ (wt + 1 + 0 > 16777216)
    exact hw'
theorem step_assert (h : pc < c.size) (h0 : c.getD pc 0 = 5) (h1 : c.getD (pc + 2) 0 = 0) (hw : wt ≤ 1000) :
    (sm c T s pc pos hd om fr wt none seen).step = sm c T s (pc + 3) pos pos false (fN .lookNot pc pos om :: fr) (wt + 1) none (seen.add 5) := by
  rw [step_exec h]
  unfold M.exec
  rw [w0 h0 op5]
  have hw' : ¬ (wt + 1 + 0 > 16777216) := by omega
  simp only [sm, fN, M.word, M.attempt, M.frame, M.keep, Nat.add_zero, h0, h1, Nat.not_lt_zero, if_false, Nat.sub_zero, Option.isSome_none, Bool.and_false]
  rw [if_neg]
  · rfl
  · show ¬ (wt + 1 + 0 > 16777216)
    exact hw'
end
section
variable {c T : Array Nat} {s pc pos hd : Nat} {om : Bool} {fr : List Sre.Frame} {wt : Nat} {seen : Sre.Seen} {pc' pos' : Nat} {om' : Bool}
theorem back_yes : (sm c T s pc pos hd om (fN .nextBranch pc' pos' om' :: fr) wt (some true) seen).step = sm c T s pc' pos' hd om' fr (wt - 1) (some true) seen := rfl
theorem back_no (h1 : c.getD (pc' + c.getD pc' 0) 0 ≠ 0) (hw : wt ≤ 1000) :
    (sm c T s pc pos hd om (fN .nextBranch pc' pos' om' :: fr) wt (some false) seen).step =
      sm c T s (pc' + c.getD pc' 0 + 1) pos' pos' om' (fN .nextBranch (pc' + c.getD pc' 0) pos' om' :: fr) (wt - 1 + 1) none seen := by
  show (M.alternative (sm c T s pc' pos' hd om' fr (wt - 1) none seen) (pc' + c.getD pc' 0) { lastmark := -1, lastindex := -1, whole := false, marks := #[] }) = _
  have hz : (c.getD (pc' + c.getD pc' 0) 0 == 0) = false := by simpa only [beq_eq_false_iff_ne, ne_eq] using h1
  show (if (c.getD (pc' + c.getD pc' 0) 0 == 0) = true then _ else M.attempt _ _ _ _ _) = _
  rw [if_neg (by rw [hz]; exact Bool.false_ne_true), attempt_ok (by show wt - 1 + 1 + 0 ≤ _; omega)]
  rfl
theorem look_no : (sm c T s pc pos hd om (fN .lookNot pc' pos' om' :: fr) wt (some false) seen).step = sm c T s (pc' + 1 + c.getD (pc' + 1) 0) pos' hd om' fr (wt - 1) none seen := rfl
theorem start_yes : (sm c T s pc pos hd om (fN .nextStart pc' pos' om' :: fr) wt (some true) seen).step = sm c T s pc' pos' hd om' fr (wt - 1) (some true) seen := rfl
theorem all_yes : (sm c T s pc pos hd om [] wt (some true) seen).step = { sm c T s pc pos hd om [] wt (some true) seen with outcome := some .matched } := rfl
theorem all_no : (sm c T s pc pos hd om [] wt (some false) seen).step = { sm c T s pc pos hd om [] wt (some false) seen with outcome := some .failed } := rfl
theorem start_last (h : ¬ pos' < T.size) : (sm c T s pc pos hd om (fN .nextStart pc' pos' om' :: fr) wt (some false) seen).step = sm c T s pc' pos' hd om' fr (wt - 1) (some false) seen := by
  show (if pos' < T.size then _ else _) = _
  rw [if_neg h]
  rfl
theorem start_no (hs : M.hasFirstSet (sm c T s pc' pos' hd om' fr (wt - 1) none seen) = false) (h : pos' < T.size) (hw : wt ≤ 1000) :
    (sm c T s pc pos hd om (fN .nextStart pc' pos' om' :: fr) wt (some false) seen).step =
      sm c T (pos' + 1) pc' (pos' + 1) (pos' + 1) false (fN .nextStart pc' (pos' + 1) false :: fr) (wt - 1 + 1) none seen := by
  show (if pos' < T.size then M.attemptFrom (sm c T s pc' pos' hd om' fr (wt - 1) none seen) (pos' + 1) false else _) = _
  rw [if_pos h]
  unfold M.attemptFrom
  rw [hs]
  show M.attemptAt _ _ _ = _
  unfold M.attemptAt
  rw [attempt_ok (by show wt - 1 + 1 + 0 ≤ _; omega)]
  rfl
end
end Mine
end
section
namespace Mine
open PySem.Sre
noncomputable abbrev stS (c T : Array Nat) (pc s : Nat) (om : Bool) (seen : Sre.Seen) : M := sm c T s pc s s om [fN .nextStart pc s om] 1 none seen
theorem run_lf {T : Array Nat} {s : Nat} {om : Bool} {seen : Sre.Seen} (h : T.getD s 0 = 10) (hs : s < T.size) :
    ∃ m, M.runFor 9 (stS c2 T 10 s om seen) = m ∧ m.outcome = some .matched ∧ m.start = s ∧ m.handed = s + 1 := by
  refine ⟨_, rfl, ?_⟩
  unfold stS
  rw [run_sm (step_branch (by decide) (by decide) (by decide) (by decide)), run_sm (step_litno (k := 13) (by decide) (by decide) (by decide) (fun _ => by rw [h]; decide)),
    run_sm (back_no (by decide) (by decide)), run_sm (step_lit (k := 10) (by decide) (by decide) (by decide) hs h), run_sm (step_jump (k := 13) (by decide) (by decide) (by decide)),
    run_sm (step_ok (by decide) (by decide)), run_sm back_yes, run_sm start_yes, run_sm all_yes]
  exact ⟨rfl, rfl, rfl⟩
theorem run_crlf {T : Array Nat} {s : Nat} {om : Bool} {seen : Sre.Seen} (h : T.getD s 0 = 13) (hs : s + 1 < T.size) (h2 : T.getD (s + 1) 0 = 10) :
    ∃ m, M.runFor 8 (stS c2 T 10 s om seen) = m ∧ m.outcome = some .matched ∧ m.start = s ∧ m.handed = s + 2 := by
  refine ⟨_, rfl, ?_⟩
  unfold stS
  rw [run_sm (step_branch (by decide) (by decide) (by decide) (by decide)), run_sm (step_lit (k := 13) (by decide) (by decide) (by decide) (by omega) h),
    run_sm (step_lit (k := 10) (by decide) (by decide) (by decide) hs h2), run_sm (step_jump (k := 18) (by decide) (by decide) (by decide)),
    run_sm (step_ok (by decide) (by decide)), run_sm back_yes, run_sm start_yes, run_sm all_yes]
  exact ⟨rfl, rfl, rfl⟩
theorem run_cr {T : Array Nat} {s : Nat} {om : Bool} {seen : Sre.Seen} (h : T.getD s 0 = 13) (hs : s < T.size) (h2 : s + 1 < T.size → T.getD (s + 1) 0 ≠ 10) :
    ∃ m, M.runFor 15 (stS c2 T 10 s om seen) = m ∧ m.outcome = some .matched ∧ m.start = s ∧ m.handed = s + 1 := by
  refine ⟨_, rfl, ?_⟩
  unfold stS
  rw [run_sm (step_branch (by decide) (by decide) (by decide) (by decide)), run_sm (step_lit (k := 13) (by decide) (by decide) (by decide) hs h),
    run_sm (step_litno (k := 10) (by decide) (by decide) (by decide) h2), run_sm (back_no (by decide) (by decide)),
    run_sm (step_litno (k := 10) (by decide) (by decide) (by decide) (fun _ => by rw [h]; decide)), run_sm (back_no (by decide) (by decide)),
    run_sm (step_lit (k := 13) (by decide) (by decide) (by decide) hs h), run_sm (step_assert (by decide) (by decide) (by decide) (by decide)),
    run_sm (step_litno (k := 10) (by decide) (by decide) (by decide) h2), run_sm look_no, run_sm (step_jump (k := 2) (by decide) (by decide) (by decide)),
    run_sm (step_ok (by decide) (by decide)), run_sm back_yes, run_sm start_yes, run_sm all_yes]
  exact ⟨rfl, rfl, rfl⟩
noncomputable abbrev nl (c : Nat) : Prop := c = 10 ∨ c = 13
noncomputable def F2 (T : Array Nat) (p : Nat) : Option (Nat × Nat) → Prop
  | none => ∀ j, p ≤ j → j < T.size → ¬ nl (T.getD j 0)
  | some (s, e) => p ≤ s ∧ s < T.size ∧ nl (T.getD s 0) ∧ (∀ j, p ≤ j → j < s → ¬ nl (T.getD j 0)) ∧ e = if T.getD s 0 = 13 ∧ s + 1 < T.size ∧ T.getD (s + 1) 0 = 10 then s + 2 else s + 1
theorem run_c2 {T : Array Nat} {s : Nat} {om : Bool} {seen : Sre.Seen} (h : nl (T.getD s 0)) (hs : s < T.size) :
    ∃ n m, n ≤ 15 ∧ M.runFor n (stS c2 T 10 s om seen) = m ∧ m.outcome = some .matched ∧ m.start = s ∧ m.handed = if T.getD s 0 = 13 ∧ s + 1 < T.size ∧ T.getD (s + 1) 0 = 10 then s + 2 else s + 1 := by
  rcases h with h | h
  · obtain ⟨m, h1, h2, h3, h4⟩ := run_lf (om := om) (seen := seen) h hs
    exact ⟨9, m, by decide, h1, h2, h3, by rw [h4, if_neg (by rw [h]; simp)]⟩
  · by_cases h2 : s + 1 < T.size ∧ T.getD (s + 1) 0 = 10
    · obtain ⟨m, q1, q2, q3, q4⟩ := run_crlf (om := om) (seen := seen) h h2.1 h2.2
      exact ⟨8, m, by decide, q1, q2, q3, by rw [q4, if_pos ⟨h, h2⟩]⟩
    · obtain ⟨m, q1, q2, q3, q4⟩ := run_cr (om := om) (seen := seen) h hs (fun a b => h2 ⟨a, b⟩)
      exact ⟨15, m, by decide, q1, q2, q3, by rw [q4, if_neg (fun x => h2 x.2)]⟩
theorem inset2 (ch : Nat) (seen : Sre.Seen) : ∃ seen', inSet c2 ch 36 5 true seen = .ok (decide (nl ch), seen') := by
  show ∃ seen', (if (ch == 10) = true then (Except.ok (true, _) : Except String (Bool × Sre.Seen)) else inSet c2 ch 35 7 true _) = _
  by_cases h : ch = 10
  · rw [if_pos (by simp [h])]
    exact ⟨_, by rw [decide_eq_true (show nl ch from Or.inl h)]⟩
  · rw [if_neg (by simp [h])]
    show ∃ seen', (if (ch == 13) = true then (Except.ok (true, _) : Except String (Bool × Sre.Seen)) else inSet c2 ch 34 9 true _) = _
    by_cases h' : ch = 13
    · rw [if_pos (by simp [h'])]
      exact ⟨_, by rw [decide_eq_true (show nl ch from Or.inr h')]⟩
    · rw [if_neg (by simp [h'])]
      refine ⟨((seen.add (c2.getD (5 + 0) 0)).add (c2.getD (7 + 0) 0)).add (c2.getD (9 + 0) 0), ?_⟩
      rw [decide_eq_false (show ¬ nl ch from fun x => x.elim h h')]
      rfl
theorem admitted2 {m : M} (hc : m.code = c2) : ∀ (fuel s : Nat) (seen : Sre.Seen), m.lim = m.text.size → m.lim < s + fuel →
    (∃ s' seen', M.admitted m fuel s seen = .ok (some s', seen') ∧ s ≤ s' ∧ s' < m.text.size ∧ nl (m.text.getD s' 0) ∧ ∀ j, s ≤ j → j < s' → ¬ nl (m.text.getD j 0)) ∨
    (∃ seen', M.admitted m fuel s seen = .ok (none, seen') ∧ ∀ j, s ≤ j → j < m.text.size → ¬ nl (m.text.getD j 0))
  | 0, s, seen, hl, hf => .inr ⟨seen, rfl, fun j h1 h2 => absurd h2 (by omega)⟩
  | fuel + 1, s, seen, hl, hf => by
    unfold M.admitted
    by_cases h : s ≥ m.lim
    · rw [if_pos h]
      exact .inr ⟨seen, rfl, fun j h1 h2 => absurd h2 (by omega)⟩
    · rw [if_neg h]
      obtain ⟨seen', e⟩ := inset2 (m.text.getD s 0) seen
      rw [hc, show c2.size = 36 from rfl, e]
      by_cases hn : nl (m.text.getD s 0)
      · rw [decide_eq_true hn]
        exact .inl ⟨s, seen', rfl, Nat.le_refl _, by omega, hn, fun j h1 h2 => absurd h2 (by omega)⟩
      · rw [decide_eq_false hn]
        have ih := admitted2 hc fuel (s + 1) seen' hl (by omega)
        have nj : ∀ j, s ≤ j → (s + 1 ≤ j → ¬ nl (m.text.getD j 0)) → ¬ nl (m.text.getD j 0) := fun j h1 h2 => by
          by_cases q : s = j
          · rw [← q]; exact hn
          · exact h2 (by omega)
        rcases ih with ⟨s', seen'', e', h1, h2, h3, h4⟩ | ⟨seen'', e', h1⟩
        · exact .inl ⟨s', seen'', e', by omega, h2, h3, fun j a b => nj j a fun a' => h4 j a' b⟩
        · exact .inr ⟨seen'', e', fun j a b => nj j a fun a' => h1 j a' b⟩
theorem search2 {T : Array Nat} {p : Nat} (hp : p ≤ T.size) : ∃ n m, n ≤ 100 ∧ M.runFor n (forSearch c2 T 0 p T.size false) = m ∧
    ((m.outcome = some .matched ∧ F2 T p (some (m.start, m.handed))) ∨ (m.outcome = some .failed ∧ F2 T p none)) := by
  by_cases h0 : T.size - p < 1
  · refine ⟨1, _, by decide, rfl, .inr ⟨?_, fun j h1 h2 => absurd h2 (by omega)⟩⟩
    have e : forSearch c2 T 0 p T.size false = M.say { code := c2, text := T, lim := T.size, start := p, pc := 10, pos := p, handed := p, marks := Array.replicate (2 * 0) none, mustAdvance := false, seen := ({} : Sre.Seen).add 14 } false := by
      show (if (decide (p > T.size) || decide (T.size - p < 1)) = true then _ else _) = _
      rw [if_pos (by rw [decide_eq_true h0, Bool.or_true])]
      rfl
    rw [e]
    rfl
  · have e : forSearch c2 T 0 p T.size false = M.attemptFrom { code := c2, text := T, lim := T.size, start := p, lastStart := T.size, pc := 10, pos := p, handed := p, marks := #[], mustAdvance := false, seen := ({} : Sre.Seen).add 14 } p true := by
      show (if (decide (p > T.size) || decide (T.size - p < 1)) = true then _ else _) = _
      rw [if_neg (by rw [decide_eq_false h0, decide_eq_false (by omega)]; decide)]
      rfl
    rw [e]
    unfold M.attemptFrom
    rw [if_neg (by show ¬ ((!(true : Bool)) = true); decide)]
    rcases admitted2 (m := { code := c2, text := T, lim := T.size, start := p, lastStart := T.size, pc := 10, pos := p, handed := p, marks := #[], mustAdvance := false, seen := ({} : Sre.Seen).add 14 }) rfl (T.size + 1 - p) p (({} : Sre.Seen).add 14) rfl (by show T.size < _; omega) with ⟨s', seen', e', h1, h2, h3, h4⟩ | ⟨seen', e', h1⟩
    · rw [e']
      obtain ⟨n, m, hn, q1, q2, q3, q4⟩ := run_c2 (om := true) (seen := seen') h3 h2
      refine ⟨n, m, by omega, ?_, .inl ⟨q2, ?_⟩⟩
      · rw [← q1]
        congr 1
      · rw [q3]
        exact ⟨h1, h2, h3, h4, q4⟩
    · rw [e']
      exact ⟨1, _, by decide, rfl, .inr ⟨rfl, h1⟩⟩
end Mine
end
section
namespace Mine
open PySem.Sre
noncomputable def dotAt (T : Array Nat) (j : Nat) : Prop := T.getD j 0 = 46 ∧ (j = 0 ∨ T.getD (j - 1) 0 = 10)
noncomputable def F1 (T : Array Nat) (p : Nat) : Option (Nat × Nat) → Prop
  | none => ∀ j, p ≤ j → j < T.size → ¬ dotAt T j
  | some (s, e) => p ≤ s ∧ s < T.size ∧ dotAt T s ∧ (∀ j, p ≤ j → j < s → ¬ dotAt T j) ∧ e = s + 1
theorem run_dot {T : Array Nat} {s : Nat} {om : Bool} {seen : Sre.Seen} (h : dotAt T s) (hs : s < T.size) :
    ∃ m, M.runFor 5 (stS c1 T 5 s om seen) = m ∧ m.outcome = some .matched ∧ m.start = s ∧ m.handed = s + 1 := by
  refine ⟨_, rfl, ?_⟩
  unfold stS
  rw [run_sm (step_at (by decide) (by decide) (by decide) h.2), run_sm (step_lit (k := 46) (by decide) (by decide) (by decide) hs h.1),
    run_sm (step_ok (by decide) (by decide)), run_sm start_yes, run_sm all_yes]
  exact ⟨rfl, rfl, rfl⟩
theorem run_nodot {T : Array Nat} {s : Nat} {om : Bool} {seen : Sre.Seen} (h : ¬ (s < T.size ∧ dotAt T s)) :
    ∃ n pc' seen', n ≤ 2 ∧ ∀ k, M.runFor (k + n) (stS c1 T 5 s om seen) = M.runFor k (sm c1 T s pc' s s om [fN .nextStart 5 s om] 1 (some false) seen') := by
  by_cases ha : s = 0 ∨ T.getD (s - 1) 0 = 10
  · refine ⟨2, 5 + 2, ((seen.add 6).add 44).add 16, Nat.le_refl _, fun k => ?_⟩
    unfold stS
    rw [show k + 2 = (k + 1) + 1 from rfl, run_sm (step_at (by decide) (by decide) (by decide) ha), run_sm (step_litno (k := 46) (by decide) (by decide) (by decide) fun q e => h ⟨q, e, ha⟩)]
  · refine ⟨1, 5, (seen.add 6).add 44, by decide, fun k => ?_⟩
    unfold stS
    rw [run_sm (step_atno (by decide) (by decide) (by decide) ha)]
theorem run_c1 {T : Array Nat} : ∀ (k s : Nat) (om : Bool) (seen : Sre.Seen), T.size - s = k → s ≤ T.size → ∃ n m, n ≤ 4 * k + 5 ∧ M.runFor n (stS c1 T 5 s om seen) = m ∧
    ((m.outcome = some .matched ∧ F1 T s (some (m.start, m.handed))) ∨ (m.outcome = some .failed ∧ F1 T s none))
  | 0, s, om, seen, hk, hs => by
    obtain ⟨n, pc', seen', hn, e⟩ := run_nodot (T := T) (s := s) (om := om) (seen := seen) (fun x => by omega)
    refine ⟨2 + n, _, by omega, rfl, .inr ⟨?_, fun j h1 h2 => absurd h2 (by omega)⟩⟩
    rw [e, run_sm (start_last (by omega)), run_sm all_no]
    rfl
  | k + 1, s, om, seen, hk, hs => by
    by_cases hd : dotAt T s
    · obtain ⟨m, h1, h2, h3, h4⟩ := run_dot (om := om) (seen := seen) hd (by omega)
      refine ⟨5, m, by omega, h1, .inl ⟨h2, ?_⟩⟩
      rw [h3, h4]
      exact ⟨Nat.le_refl _, by omega, hd, fun j a b => absurd b (by omega), rfl⟩
    · obtain ⟨n, pc', seen', hn, e⟩ := run_nodot (T := T) (s := s) (om := om) (seen := seen) (fun x => hd x.2)
      obtain ⟨n2, m, hn2, q1, q2⟩ := run_c1 (T := T) k (s + 1) false seen' (by omega) (by omega)
      have nj : ∀ j, s ≤ j → (s + 1 ≤ j → ¬ dotAt T j) → ¬ dotAt T j := fun j a b => by
        by_cases q : s = j
        · rw [← q]; exact hd
        · exact b (by omega)
      refine ⟨(n2 + 1) + n, m, by omega, ?_, ?_⟩
      · rw [e, run_sm (start_no rfl (by omega) (by decide))]
        exact q1
      · rcases q2 with ⟨a, b1, b2, b3, b4, b5⟩ | ⟨a, b⟩
        · exact .inl ⟨a, by omega, b2, b3, fun j c d => nj j c fun c' => b4 j c' d, b5⟩
        · exact .inr ⟨a, fun j c d => nj j c fun c' => b j c' d⟩
theorem search1 {T : Array Nat} {p : Nat} (hp : p ≤ T.size) : ∃ n m, n ≤ 4 * T.size + 5 ∧ M.runFor n (forSearch c1 T 0 p T.size false) = m ∧
    ((m.outcome = some .matched ∧ F1 T p (some (m.start, m.handed))) ∨ (m.outcome = some .failed ∧ F1 T p none)) := by
  by_cases h0 : T.size - p < 1
  · refine ⟨1, _, by omega, rfl, .inr ⟨?_, fun j h1 h2 => absurd h2 (by omega)⟩⟩
    have e : forSearch c1 T 0 p T.size false = M.say { code := c1, text := T, lim := T.size, start := p, pc := 5, pos := p, handed := p, marks := Array.replicate (2 * 0) none, mustAdvance := false, seen := ({} : Sre.Seen).add 14 } false := by
      show (if (decide (p > T.size) || decide (T.size - p < 1)) = true then _ else _) = _
      rw [if_pos (by rw [decide_eq_true h0, Bool.or_true])]
      rfl
    rw [e]
    rfl
  · have e : forSearch c1 T 0 p T.size false = M.attemptFrom { code := c1, text := T, lim := T.size, start := p, lastStart := T.size, pc := 5, pos := p, handed := p, marks := #[], mustAdvance := false, seen := ({} : Sre.Seen).add 14 } p true := by
      show (if (decide (p > T.size) || decide (T.size - p < 1)) = true then _ else _) = _
      rw [if_neg (by rw [decide_eq_false h0, decide_eq_false (by omega)]; decide)]
      rfl
    rw [e]
    obtain ⟨n, m, hn, q1, q2⟩ := run_c1 (T := T) (T.size - p) p true (({} : Sre.Seen).add 14) rfl hp
    exact ⟨n, m, by omega, q1, q2⟩
theorem runFor_add : ∀ (a b : Nat) (m : M), M.runFor (a + b) m = M.runFor b (M.runFor a m)
  | 0, b, m => by rw [Nat.zero_add]; rfl
  | a + 1, b, m => by
    cases h : m.outcome with
    | none => rw [show a + 1 + b = (a + b) + 1 by omega, runFor_step h, runFor_step h, runFor_add a b]
    | some o => rw [runFor_done (n := a + 1 + b) (by rw [h]; rfl), runFor_done (n := a + 1) (by rw [h]; rfl), runFor_done (n := b) (by rw [h]; rfl)]
section
variable {MM : Model} {A : Around} {E : Value → Shared → Prop} {s : Shared}
open PySem.Builtin.Re
theorem drive_W {Q : M → Shared → Prop} : ∀ (turns n : Nat) (m : M), (M.runFor n m).outcome.isSome = true → n ≤ 4 * turns → 1 ≤ turns → Q (M.runFor n m) s → wpAny MM A (reDrive turns m) Q E s
  | 0, n, m, _, _, h, _ => absurd h (by decide)
  | t + 1, n, m, ho, hn, _, hQ => by
    unfold reDrive
    show wpAny MM A (if (M.runFor 4 m).outcome.isSome = true then pure (M.runFor 4 m) else (rule "sre.turn" >>= fun _ => reDrive t (M.runFor 4 m))) Q E s
    by_cases h4 : (M.runFor 4 m).outcome.isSome = true
    · rw [if_pos h4]
      have e : M.runFor n m = M.runFor 4 m := by
        by_cases q : 4 ≤ n
        · rw [show n = 4 + (n - 4) by omega, runFor_add, runFor_done h4]
        · rw [show (4 : Nat) = n + (4 - n) by omega, runFor_add, runFor_done (n := 4 - n) ho]
      rw [e] at hQ
      exact wpAny_pure hQ
    · rw [if_neg h4]
      have q : 4 < n := by
        apply Nat.lt_of_not_le
        intro hle
        exact h4 (by rw [show (4 : Nat) = n + (4 - n) by omega, runFor_add, runFor_done (n := 4 - n) ho]; exact ho)
      have e : M.runFor n m = M.runFor (n - 4) (M.runFor 4 m) := by
        rw [← runFor_add]; congr 1; omega
      rw [e] at ho hQ
      exact wpAny_bind (wpAny_rule (drive_W t (n - 4) _ ho (by omega) (by omega) hQ))
theorem names_W {Q : PUnit → Shared → Prop} {f : Nat → PUnit → Sem (ForInStep PUnit)} (hf : ∀ (i : Nat) (Q' : ForInStep PUnit → Shared → Prop), Q' (.yield ⟨⟩) s → wpAny MM A (f i ⟨⟩) Q' E s) (h : Q ⟨⟩ s) :
    ∀ (l : List Nat), wpAny MM A (forIn l PUnit.unit f) Q E s
  | [] => by
    rw [List.forIn_nil]; exact wpAny_pure h
  | i :: l => by
    rw [List.forIn_cons]
    exact wpAny_bind (hf i _ (names_W hf h l))
theorem toEnd_W {n : Nat} {m : M} {Q : Option M → Shared → Prop} (hn : n ≤ 4 * 2 ^ 64) (h : ((M.runFor n m).outcome = some .matched ∧ Q (some (M.runFor n m)) s) ∨ ((M.runFor n m).outcome = some .failed ∧ Q none s)) :
    wpAny MM A (reRunToEnd m) Q E s := by
  unfold reRunToEnd
  refine wpAny_bind (drive_W (2 ^ 64) n m ?_ hn (by decide) ?_)
  · rcases h with ⟨h, _⟩ | ⟨h, _⟩ <;> rw [h] <;> rfl
  · refine wpAny_bind (names_W (fun i Q' hq => by split <;> first | exact wpAny_bind (wpAny_rule (wpAny_pure hq)) | exact wpAny_pure hq | exact wpAny_bind (wpAny_bind (wpAny_rule (wpAny_pure (wpAny_pure hq))))) ?_ _)
    rcases h with ⟨h, hQ⟩ | ⟨h, hQ⟩
    · rw [h]; exact wpAny_pure hQ
    · rw [h]; exact wpAny_pure hQ
noncomputable def Finds (c T : Array Nat) (Found : Nat → Option (Nat × Nat) → Prop) : Prop := ∀ p, p ≤ T.size → ∃ n m, n ≤ 4 * 2 ^ 64 ∧ M.runFor n (forSearch c T 0 p T.size false) = m ∧
    ((m.outcome = some .matched ∧ Found p (some (m.start, m.handed))) ∨ (m.outcome = some .failed ∧ Found p none))
theorem finds2 {T : Array Nat} : Finds c2 T (F2 T) := fun p hp => by
  obtain ⟨n, m, hn, h⟩ := search2 hp
  exact ⟨n, m, by omega, h⟩
theorem finds1 {T : Array Nat} (h : T.size ≤ 2 ^ 60) : Finds c1 T (F1 T) := fun p hp => by
  obtain ⟨n, m, hn, h⟩ := search1 hp
  exact ⟨n, m, by omega, h⟩
theorem next_W {c T : Array Nat} {Found : Nat → Option (Nat × Nat) → Prop} {t : ReTarget} {p : Nat} {Q : Option M → Shared → Prop} (hF : Finds c T Found) (hp : p ≤ T.size)
    (h1 : t.code = c) (h2 : t.text = T) (h3 : t.groups = 0) (h4 : t.lim = T.size)
    (hnone : Found p none → Q none s) (hsome : ∀ m : M, Found p (some (m.start, m.handed)) → Q (some m) s) : wpAny MM A (reNextFound t p false) Q E s := by
  obtain ⟨n, m, hn, e, h⟩ := hF p hp
  unfold reNextFound
  rw [h1, h2, h3, h4]
  refine toEnd_W hn ?_
  rw [e]
  rcases h with ⟨h, hf⟩ | ⟨h, hf⟩
  · exact .inl ⟨h, hsome m hf⟩
  · exact .inr ⟨h, hnone hf⟩
end
end Mine
end
section
namespace Mine
open PySem.Builtin.Re
noncomputable def PatAt (h : Heap) (a cd : Addr) (c : Array Nat) : Prop :=
  (∃ ps t1 fl t2, h.get? a = some { cls := .type "re.Pattern", data := .fields #[.str ps t1, .int fl t2, .int 0 0, .none, .none, .ref cd, .int 0 0] }) ∧
  ∃ items n, h.get? cd = some { cls := .type "tuple", data := .seq items n } ∧ (items.map reRawOf).map (·.toNat) = c
section
variable {prog : Program} {w : World} {A : Around} {E : Value → Shared → Prop} {s : Shared} {h₀ : Heap} {L : Addr} {m : Str → Option Value} {news : Led}
theorem PatAt.keep {h h' : Heap} {a cd : Addr} {c : Array Nat} (P : PatAt h a cd c) (k : ∀ b o, h.get? b = some o → h'.get? b = some o) : PatAt h' a cd c := by
  obtain ⟨⟨ps, t1, fl, t2, e⟩, items, n, e2, e3⟩ := P
  exact ⟨⟨ps, t1, fl, t2, k _ _ e⟩, items, n, k _ _ e2, e3⟩
theorem getMethod_sub {a cd : Addr} {c : Array Nat} {pl : Sem Bool} {Q : Value × List Value → Shared → Prop} (P : PatAt s.heap a cd c) (h : Q (.builtin "re.Pattern.sub", [.ref a]) s) :
    wpAny (model prog w) A (getMethod (.ref a) (Str.ofString "sub") pl) Q E s := by
  obtain ⟨⟨ps, t1, fl, t2, e⟩, -⟩ := P
  exact getMethod_builtin ⟨_, e, rfl⟩ pa_pattern slot_sub type_sub (fun b q => by cases q; exact ⟨_, e, rfl⟩) h
theorem target_W {a cd : Addr} {c : Array Nat} {x : Str} {t : Tok} {Q : ReTarget → Shared → Prop} (P : PatAt s.heap a cd c)
    (h : Q { pattern := .ref a, string := .str x t, code := c, text := x.cps, kind := 0, groups := 0, pos := 0, lim := x.cps.size } s) : wpAny (model prog w) A (reWholeTarget (.ref a) (.str x t)) Q E s := by
  obtain ⟨⟨ps, t1, fl, t2, e⟩, items, n, e2, e3⟩ := P
  unfold reWholeTarget
  refine wpAny_bind (wpAny_fieldsOf e rfl ?_)
  refine wpAny_bind (wpAny_of_eq (a := (x.cps, 0)) rfl ?_)
  refine wpAny_bind (wpAny_of_eq (a := ()) rfl ?_)
  refine wpAny_bind ?_
  unfold reRawItems
  refine wpAny_bind (wpAny_seqItems e2 rfl (wpAny_pure ?_))
  refine wpAny_pure ?_
  have e4 : Array.map (fun x => x.toNat) (Array.map reRawOf ((some items).getD #[])) = c := e3
  rw [e4]
  exact h
theorem push_W {D : Addr} {items : List Value} {n : Nat} {v : Value} {Q : PUnit → Shared → Prop} (F : Fr h₀ L s.heap m) (N : News h₀ L s.heap ((D, listOf items.toArray n) :: news)) (hap : ∀ p ∈ news, p.1 ≠ D)
    (hsz : items.length ≤ 1048576) (h : ∀ h', Fr h₀ L h' m → News h₀ L h' ((D, listOf (items ++ [v]).toArray (n + 1)) :: news) → Q ⟨⟩ { s with heap := h' }) :
    wpAny (model prog w) A (updateSeq D (fun x => x.push v)) Q E s := by
  have ho := (N _ (.head _)).1
  have hz : items.toArray.size ≤ sizeLine := by rw [sizeLine_eq, List.size_toArray]; exact Nat.le_trans hsz (by decide)
  refine wpAny_updateSeq ho rfl ?_ hz (by rw [Array.size_push]; exact Nat.succ_le_succ hz)
  refine h _ (F.change (Heap.SameBut.update ..) (N _ (.head _)).2.1 (N _ (.head _)).2.2) (N.setHead hap (Heap.SameBut.update ..) ?_)
  rw [Heap.get?_update_self _ ho (by unfold W.listOf; rw [mapSeq_push]; rfl)]
  unfold W.listOf
  rw [mapSeq_push, List.push_toArray]
noncomputable def wt (ys : List Str) : Nat := (ys.map (·.length)).sum + ys.length
theorem wt_snoc (ys : List Str) (y : Str) : wt (ys ++ [y]) = wt ys + y.length + 1 := by
  unfold wt
  rw [List.map_append, List.sum_append, List.length_append]
  exact Nat.add_add_add_comm _ (y.length + 0) _ 1
theorem wt_len (ys : List Str) : ys.length ≤ wt ys := Nat.le_add_left _ _
theorem wt_a1 {a b c : Nat} (h : a + b + c ≤ 900000) : a + c ≤ 1000000 := Nat.le_trans (Nat.add_le_add_right (Nat.le_add_right a b) c) (Nat.le_trans h (by decide))
theorem wt_a2 {a e p s : Nat} (h : a + s ≤ 1000000) (he : e ≤ s) : e - p ≤ 1048576 := by omega
theorem wt_a3 {a l s : Nat} (h : a + s ≤ 1000000) (h1 : l ≤ a) : l ≤ 1048576 := by omega
theorem wt_a4 {w w' s p e : Nat} (hw : w + 4 * (s - p) + s ≤ 900000) (h : w' ≤ w + (e - p) + 1) (he : e ≤ s) : w' ≤ 1000000 := by omega
theorem wt_a5 {w w' s p e n r : Nat} (hw : w + 4 * (s - p) + s ≤ 900000) (h : w' ≤ w + (e - p) + 1) (h1 : p ≤ e) (h2 : e < n) (h3 : n ≤ s) (hr : r ≤ 2) : w' + r + 1 + 4 * (s - n) + s ≤ 900000 := by omega
theorem wt_a6 {s p e n k : Nat} (hk : s - p = k) (h1 : p ≤ e) (h2 : e < n) (h3 : n ≤ s) : s - n < k := by omega
theorem opt_W {D : Addr} {T : Array Nat} {items : List Value} {ys : List Str} {n p e : Nat} {jp : PUnit → Sem PySem.Fin} {Q : PySem.Fin → Shared → Prop} (F : Fr h₀ L s.heap m) (N : News h₀ L s.heap ((D, listOf items.toArray n) :: news))
    (hap : ∀ p ∈ news, p.1 ≠ D) (hi : StrsAre items ys) (hw : wt ys + T.size ≤ 1000000) (he : e ≤ T.size)
    (h : ∀ items' ys' n' h' tk', Fr h₀ L h' m → News h₀ L h' ((D, listOf items'.toArray n') :: news) → StrsAre items' ys' → ys'.flatMap lst = ys.flatMap lst ++ (T.toList.drop p).take (e - p) → wt ys' ≤ wt ys + (e - p) + 1 →
      wpAny (model prog w) A (jp ⟨⟩) Q E { s with heap := h', toks := tk' }) :
    wpAny (model prog w) A (if p < e then (reSlice T 0 p e >>= fun v => updateSeq D (fun x => x.push v) >>= fun r => jp r) else jp ⟨⟩) Q E s := by
  by_cases hp : p < e
  · rw [if_pos hp]
    have hl : (⟨T.extract p e⟩ : Str).length = e - p := by
      show (T.extract p e).size = _
      rw [Array.size_extract, Nat.min_eq_left he]
    refine wpAny_bind ?_
    show wpAny _ _ (mkStr ⟨T.extract p e⟩) _ _ _
    refine wpAny_mkStr ?_ (by rw [hl, sizeLine_eq]; exact Nat.le_trans (wt_a2 hw he) (by decide))
    refine wpAny_bind (push_W F N hap (wt_a3 hw (hi.length ▸ wt_len ys)) fun h' F' N' => ?_)
    refine h _ (ys ++ [⟨T.extract p e⟩]) _ _ _ F' N' (hi.append' (.cons _ _ .nil)) ?_ ?_
    · rw [List.flatMap_append]
      congr 1
      show lst ⟨T.extract p e⟩ ++ [] = _
      rw [List.append_nil]
      show (T.extract p e).toList = _
      rw [Array.toList_extract]
    · rw [wt_snoc, hl]; exact Nat.le_refl _
  · rw [if_neg hp]
    exact h items ys n s.heap s.toks F N hi (by rw [Nat.sub_eq_zero_of_le (Nat.le_of_not_lt hp), List.take_zero, List.append_nil]) (Nat.le_trans (Nat.le_add_right _ _) (Nat.le_add_right _ _))
theorem join_lst {sep : Str} (h : lst sep = []) : ∀ ys : List Str, lst (Txt.join sep ys) = ys.flatMap lst := fun ys => by
  have e : sep = ⟨#[]⟩ := lst_inj h
  subst e
  show lst (PySem.Builtin.Str.glued ⟨#[]⟩ ys) = _
  rw [StrLaws.glued_eq_join]
  induction ys with
  | nil => rfl
  | cons y r ih =>
    rw [PyProof.Rows.join_nil_cons]
    show lst (y ++ _) = _
    rw [List.flatMap_cons, ← ih]
    show (y.cps ++ _).toList = _
    rw [Array.toList_append]
    rfl
theorem ext0_len (a : Array Nat) : (a.extract 0 0).size = 0 := by rw [Array.size_extract, Nat.zero_min]
theorem loop_W {a cd D : Addr} {c : Array Nat} {x r : Str} {t tr : Tok} {target : List Nat} {Found : Nat → Option (Nat × Nat) → Prop} {Rf : Nat → List Nat} {R : Result → Shared → Prop} (hF : Finds c x.cps Found)
    (hlt : ∀ p s' e, Found p (some (s', e)) → p ≤ s' ∧ s' < e ∧ e ≤ x.cps.size) (hR1 : ∀ p, p ≤ x.cps.size → Found p none → Rf p = (lst x).drop p)
    (hR2 : ∀ p s' e, p ≤ x.cps.size → Found p (some (s', e)) → Rf p = ((lst x).drop p).take (s' - p) ++ (lst r ++ Rf e)) (hr : r.length ≤ 2) (P : PatAt h₀ a cd c) (hap : ∀ p ∈ news, p.1 ≠ D) :
    ∀ (k p : Nat) (n : Int) (items : List Value) (ys : List Str) (ni : Nat) (s : Shared), x.cps.size - p = k → p ≤ x.cps.size → Fr h₀ L s.heap m → News h₀ L s.heap ((D, listOf items.toArray ni) :: news) → StrsAre items ys →
      ys.flatMap lst ++ Rf p = target → wt ys + 4 * (x.cps.size - p) + x.cps.size ≤ 900000 →
      (∀ z t' h' tk', lst z = target → Fr h₀ L h' m → News h₀ L h' news → R (.ok (.ret (.str z t'))) { s with heap := h', toks := tk' }) →
      codeAny (model prog w) A (.builtin "re.Pattern.sub.loop" ⟨[.ref a, .str x t, .str r tr, rawInt 0, rawInt 0, rawInt n, rawInt p, rawInt p, .bool false, .ref D, .bool false], []⟩) R s := by
  intro k
  induction k using Nat.strongRecOn with
  | ind k ih =>
  intro p n items ys ni s hk hp F N hi ht hw hR
  refine codeAny_builtin entry_subloop ?_
  rw [Around.under_plainId plain_subloop]
  unfold Builtin.«re.Pattern.sub.loop»
  refine wpAny_bind (target_W (P.keep F.keep) ?_)
  refine wpAny_bind (wpAny_of_eq (a := ()) rfl ?_)
  refine wpAny_bind ?_
  show wpAny _ _ (reNextFound _ p false) _ _ _
  refine next_W hF hp rfl rfl rfl rfl (fun hn => ?_) (fun mm hm => ?_)
  · refine opt_W (T := x.cps) (e := x.cps.size) F N hap hi (wt_a1 hw) (Nat.le_refl _) fun items' ys' n' h' tk' F' N' hi' hys hw' => ?_
    refine wpAny_bind ?_
    show wpAny _ _ (mkStr ⟨x.cps.extract 0 0⟩) _ _ _
    have hj0 : (⟨x.cps.extract 0 0⟩ : Str).length = 0 := ext0_len x.cps
    have hj : lst ⟨x.cps.extract 0 0⟩ = [] := List.eq_nil_of_length_eq_zero (Array.length_toList.trans hj0)
    refine wpAny_mkStr ?_ (by rw [hj0]; exact Nat.zero_le _)
    refine wpAny_bind (wpAny_seqItems (N' _ (.head _)).1 rfl ?_)
    have hfin : ys'.flatMap lst = target := by
      rw [hys, ← ht, hR1 p hp hn]
      congr 1
      show List.take (x.cps.size - p) (List.drop p x.cps.toList) = List.drop p x.cps.toList
      rw [List.take_of_length_le]
      rw [List.length_drop, Array.length_toList]
      exact Nat.le_refl _
    by_cases hnil : items' = []
    · have hy : ys' = [] := by
        have := hi'.length
        rw [hnil] at this
        exact List.length_eq_zero_iff.mp this.symm
      subst hnil
      refine wpAny_pure ?_
      refine hR _ _ _ _ ?_ F' (fun q hq => N' q (.tail _ hq))
      rw [hj, ← hfin, hy]; rfl
    · have hne : items'.toArray.isEmpty = false := by
        cases items' with
        | nil => exact absurd rfl hnil
        | cons _ _ => rfl
      show wpAny _ _ (if items'.toArray.isEmpty = true then _ else _) _ _ _
      rw [hne, if_neg Bool.false_ne_true]
      refine wpAny_bind ?_
      refine join_listW (News.isList N' (.head _)) hi' (by rw [hj0]; decide) (Nat.le_trans (wt_a4 hw hw' (Nat.le_refl _)) (by decide)) fun t' k' => ?_
      refine wpAny_pure ?_
      exact hR _ _ _ _ (by rw [join_lst hj, hfin]) F' (fun q hq => N' q (.tail _ hq))
  · obtain ⟨g1, g2, g3⟩ := hlt _ _ _ hm
    refine opt_W (T := x.cps) (e := mm.start) F N hap hi (wt_a1 hw) (Nat.le_of_lt (Nat.lt_of_lt_of_le g2 g3)) fun items' ys' n' h' tk' F' N' hi' hys hw' => ?_
    refine wpAny_bind (wpAny_pure ?_)
    refine wpAny_bind (push_W F' N' hap (Nat.le_trans (hi'.length ▸ wt_len ys') (Nat.le_trans (wt_a4 hw hw' (Nat.le_of_lt (Nat.lt_of_lt_of_le g2 g3))) (by decide))) fun h'' F'' N'' => ?_)
    refine wpAny_pure ⟨plainId_quiet plain_subloop _, ?_⟩
    have hne : (mm.handed == mm.start) = false := by
      rw [beq_eq_false_iff_ne]; exact Nat.ne_of_gt g2
    rw [hne]
    refine ih (x.cps.size - mm.handed) (wt_a6 hk g1 g2 g3) mm.handed (n + 1) _ (ys' ++ [r]) _ _ rfl g3 F'' N'' (hi'.append' (.cons _ _ .nil)) ?_ ?_ ?_
    · rw [← ht, hR2 _ _ _ hp hm, List.flatMap_append, hys]
      show (_ ++ _) ++ (lst r ++ []) ++ _ = _
      rw [List.append_nil, List.append_assoc, List.append_assoc]
      rfl
    · rw [wt_snoc]; exact wt_a5 hw hw' g1 g2 g3 hr
    · exact fun z t' h3 tk3 hz F3 N3 => hR z t' h3 tk3 hz F3 N3
theorem str_noCall : typeLookup (.type "str") (Str.ofString "__call__") = pure none := by rw [typeLookup_type, builtinLookup_eq_fast]; kernel_rfl
theorem sub_W {a cd : Addr} {c : Array Nat} {x r : Str} {t tr : Tok} {Found : Nat → Option (Nat × Nat) → Prop} {Rf : Nat → List Nat} {Q : Value → Shared → Prop} (F : Fr h₀ L s.heap m) (N : News h₀ L s.heap news) (P : PatAt h₀ a cd c)
    (hF : Finds c x.cps Found) (hlt : ∀ p s' e, Found p (some (s', e)) → p ≤ s' ∧ s' < e ∧ e ≤ x.cps.size) (hR1 : ∀ p, p ≤ x.cps.size → Found p none → Rf p = (lst x).drop p)
    (hR2 : ∀ p s' e, p ≤ x.cps.size → Found p (some (s', e)) → Rf p = ((lst x).drop p).take (s' - p) ++ (lst r ++ Rf e)) (hr : r.length ≤ 2) (hlit : r.cps.contains 92 = false) (hx : x.length ≤ 1000)
    (h : ∀ z t' h' tk', lst z = Rf 0 → Fr h₀ L h' m → News h₀ L h' news → Q (.str z t') { s with heap := h', toks := tk' }) :
    wpAny (model prog w) A (call (.builtin "re.Pattern.sub") [.ref a, .str r tr, .str x t]) Q E s := by
  have P' : PatAt s.heap a cd c := P.keep F.keep
  have hT : s.TypeIs (.ref a) "re.Pattern" := by
    obtain ⟨⟨ps, t1, fl, t2, e⟩, -⟩ := P'
    exact ⟨_, e, rfl⟩
  refine wpAny_call (codeAny_call_builtin slot_sub.plain entry_sub (slot_sub.check _ _ _ _ _ _ _ _ hT (args_sub _ _ _) ?_))
  unfold Builtin.«re.Pattern.sub» reSubstitute
  refine wpAny_bind (wpAny_of_eq (a := [some (.str r tr), some (.str x t), none]) rfl ?_)
  refine wpAny_bind (wpAny_pure ?_)
  refine wpAny_bind (wpAny_specialOf (typeIs_str _ _ _) str_noCall ?_)
  refine wpAny_bind (wpAny_of_eq (a := some r) rfl ?_)
  refine wpAny_bind (wpAny_pure ?_)
  show wpAny _ _ (if (!r.cps.contains 92) = true then _ else _) _ _ _
  rw [hlit, if_pos (by rfl)]
  refine wpAny_bind (wpAny_pure ?_)
  refine wpAny_bind (wpAny_holding (target_W P' ?_))
  refine wpAny_bind (wpAny_newList ?_ (Nat.zero_le _))
  refine wpAny_pure ⟨plainId_quiet plain_subloop _, ?_⟩
  have hx' : x.cps.size ≤ 1000 := hx
  refine loop_W (target := Rf 0) hF hlt hR1 hR2 hr P (fun p hp e => absurd (Heap.lt_size (N p hp).1) (by rw [e]; exact Nat.lt_irrefl _)) (x.cps.size - 0) 0 0 [] [] 0 _ rfl (Nat.zero_le _) (F.push _) (News.push F N _) .nil rfl (by unfold wt; simp; omega) ?_
  exact fun z t' h' tk' hz F' N' => h z t' h' tk' hz F' N'
end
end Mine
end
section
namespace Mine
noncomputable def normS : Bool → List Nat → List Nat
  | _, [] => []
  | b, c :: r => if c = 13 then 13 :: 10 :: normS true r else if c = 10 then (if b then normS false r else 13 :: 10 :: normS false r) else c :: normS false r
noncomputable def dotsS : Bool → List Nat → List Nat
  | _, [] => []
  | b, c :: r => if b = true ∧ c = 46 then 46 :: 46 :: dotsS false r else c :: dotsS (decide (c = 10)) r
theorem getD_lst (x : Str) (j : Nat) : x.cps.getD j 0 = (lst x).getD j 0 := by
  unfold lst
  rw [Array.getD_eq_getD_getElem?, List.getD_eq_getElem?_getD, Array.getElem?_toList]
theorem drop_cons {l : List Nat} {p : Nat} (h : p < l.length) : l.drop p = l.getD p 0 :: l.drop (p + 1) := by
  rw [List.drop_eq_getElem_cons h, List.getD_eq_getElem?_getD, List.getElem?_eq_getElem h]; rfl
theorem norm_copy {l : List Nat} : ∀ (k p s : Nat), s - p = k → p ≤ s → s ≤ l.length → (∀ j, p ≤ j → j < s → ¬ nl (l.getD j 0)) → normS false (l.drop p) = (l.drop p).take (s - p) ++ normS false (l.drop s)
  | 0, p, s, hk, hp, _, _ => by
    have e : p = s := by omega
    subst e
    rw [Nat.sub_self, List.take_zero, List.nil_append]
  | k + 1, p, s, hk, hp, hs, h => by
    have h0 := h p (Nat.le_refl _) (by omega)
    rw [drop_cons (show p < l.length by omega), hk, List.take_succ_cons, normS, if_neg (fun e => h0 (Or.inr e)), if_neg (fun e => h0 (Or.inl e)), List.cons_append,
      norm_copy k (p + 1) s (by omega) (by omega) hs (fun j a b => h j (by omega) b), show s - (p + 1) = k by omega]
theorem norm_true {l : List Nat} {p : Nat} (h : p < l.length → l.getD p 0 ≠ 10) : normS true (l.drop p) = normS false (l.drop p) := by
  by_cases hp : p < l.length
  · rw [drop_cons hp, normS, normS, if_neg (h hp), if_neg (h hp)]
  · rw [List.drop_eq_nil_of_le (by omega)]; rfl
theorem r2_some {x : Str} {p s e : Nat} (_hp : p ≤ x.cps.size) (h : F2 x.cps p (some (s, e))) : normS false ((lst x).drop p) = ((lst x).drop p).take (s - p) ++ ([13, 10] ++ normS false ((lst x).drop e)) := by
  obtain ⟨h1, h2, h3, h4, h5⟩ := h
  have hl : (lst x).length = x.cps.size := Array.length_toList
  rw [norm_copy (s - p) p s rfl h1 (by omega) (fun j a b => by rw [← getD_lst]; exact h4 j a b)]
  congr 1
  rw [drop_cons (show s < (lst x).length by omega), ← getD_lst, normS]
  rcases h3 with h3 | h3
  · have he : e = s + 1 := by rw [h5]; exact if_neg (fun q => by rw [h3] at q; exact absurd q.1 (by decide))
    rw [if_neg (by rw [h3]; decide), if_pos h3, he]
    rfl
  · rw [if_pos h3, h5]
    by_cases hc : s + 1 < x.cps.size ∧ x.cps.getD (s + 1) 0 = 10
    · rw [if_pos ⟨h3, hc⟩, drop_cons (show s + 1 < (lst x).length by omega), ← getD_lst, hc.2, normS]
      simp
    · rw [if_neg (fun q => hc q.2), norm_true (fun q e => hc ⟨by omega, by rw [getD_lst]; exact e⟩)]
      rfl
theorem r2_none {x : Str} {p : Nat} (hp : p ≤ x.cps.size) (h : F2 x.cps p none) : normS false ((lst x).drop p) = (lst x).drop p := by
  have hl : (lst x).length = x.cps.size := Array.length_toList
  rw [norm_copy (x.cps.size - p) p x.cps.size rfl hp (by omega) (fun j a b => by rw [← getD_lst]; exact h j a b), List.drop_eq_nil_of_le (as := lst x) (i := x.cps.size) (by omega), normS, List.append_nil]
  rw [List.take_of_length_le]
  rw [List.length_drop]; omega
theorem lt2 {T : Array Nat} (p s e : Nat) (h : F2 T p (some (s, e))) : p ≤ s ∧ s < e ∧ e ≤ T.size := by
  obtain ⟨h1, h2, _, _, h5⟩ := h
  by_cases q : T.getD s 0 = 13 ∧ s + 1 < T.size ∧ T.getD (s + 1) 0 = 10
  · rw [if_pos q] at h5
    omega
  · rw [if_neg q] at h5
    omega
theorem lt1 {T : Array Nat} (p s e : Nat) (h : F1 T p (some (s, e))) : p ≤ s ∧ s < e ∧ e ≤ T.size := by
  obtain ⟨h1, h2, _, _, h5⟩ := h
  omega
noncomputable def atL (l : List Nat) (p : Nat) : Bool := decide (p = 0 ∨ l.getD (p - 1) 0 = 10)
theorem atL_succ (l : List Nat) (p : Nat) : atL l (p + 1) = decide (l.getD p 0 = 10) := by
  unfold atL
  simp
theorem dots_copy {l : List Nat} : ∀ (k p s : Nat), s - p = k → p ≤ s → s ≤ l.length → (∀ j, p ≤ j → j < s → ¬ (atL l j = true ∧ l.getD j 0 = 46)) → dotsS (atL l p) (l.drop p) = (l.drop p).take (s - p) ++ dotsS (atL l s) (l.drop s)
  | 0, p, s, hk, hp, _, _ => by
    have e : p = s := by omega
    subst e
    rw [Nat.sub_self, List.take_zero, List.nil_append]
  | k + 1, p, s, hk, hp, hs, h => by
    have h0 := h p (Nat.le_refl _) (by omega)
    rw [drop_cons (show p < l.length by omega), hk, List.take_succ_cons, dotsS, if_neg h0, List.cons_append, ← atL_succ,
      dots_copy k (p + 1) s (by omega) (by omega) hs (fun j a b => h j (by omega) b), show s - (p + 1) = k by omega]
theorem dot_iff {x : Str} {j : Nat} : dotAt x.cps j ↔ (atL (lst x) j = true ∧ (lst x).getD j 0 = 46) := by
  unfold dotAt atL
  rw [getD_lst, getD_lst, decide_eq_true_iff]
  exact And.comm
theorem r1_some {x : Str} {p s e : Nat} (_hp : p ≤ x.cps.size) (h : F1 x.cps p (some (s, e))) : dotsS (atL (lst x) p) ((lst x).drop p) = ((lst x).drop p).take (s - p) ++ ([46, 46] ++ dotsS (atL (lst x) e) ((lst x).drop e)) := by
  obtain ⟨h1, h2, h3, h4, h5⟩ := h
  have hl : (lst x).length = x.cps.size := Array.length_toList
  rw [dots_copy (s - p) p s rfl h1 (by omega) (fun j a b q => h4 j a b (dot_iff.mpr q))]
  congr 1
  have h3' := dot_iff.mp h3
  rw [drop_cons (show s < (lst x).length by omega), dotsS, if_pos h3', h5, atL_succ, h3'.2]
  rfl
theorem r1_none {x : Str} {p : Nat} (hp : p ≤ x.cps.size) (h : F1 x.cps p none) : dotsS (atL (lst x) p) ((lst x).drop p) = (lst x).drop p := by
  have hl : (lst x).length = x.cps.size := Array.length_toList
  rw [dots_copy (x.cps.size - p) p x.cps.size rfl hp (by omega) (fun j a b q => h j a b (dot_iff.mpr q)), List.drop_eq_nil_of_le (as := lst x) (i := x.cps.size) (by omega), dotsS, List.append_nil]
  rw [List.take_of_length_le]
  rw [List.length_drop]; omega
theorem norm_len : ∀ (b : Bool) (l : List Nat), (normS b l).length ≤ 2 * l.length
  | _, [] => by simp [normS]
  | b, c :: r => by
    have h1 := norm_len true r
    have h2 := norm_len false r
    rw [normS]
    split
    · simp only [List.length_cons]; omega
    · split
      · split <;> simp only [List.length_cons] <;> omega
      · simp only [List.length_cons]; omega
theorem dots_len : ∀ (b : Bool) (l : List Nat), (dotsS b l).length ≤ 2 * l.length
  | _, [] => by simp [dotsS]
  | b, c :: r => by
    have h1 := dots_len (decide (c = 10)) r
    have h2 := dots_len false r
    rw [dotsS]
    split <;> simp only [List.length_cons] <;> omega
theorem pat2_of {w : World} {h : Heap} (X : (hd0.heap_39 w.params).In h) : PatAt h 90 89 c2 := ⟨⟨_, _, _, _, X 90 _ rfl⟩, _, _, X 89 _ rfl, by decide +kernel⟩
theorem pat1_of {w : World} {h : Heap} (X : (hd0.heap_39 w.params).In h) : PatAt h 85 84 c1 := ⟨⟨_, _, _, _, X 85 _ rfl⟩, _, _, X 84 _ rfl, by decide +kernel⟩
section
variable {prog : Program} {w : World} {A : Around} {E : Value → Shared → Prop} {s : Shared} {h₀ : Heap} {L : Addr} {m : Str → Option Value} {news : Led}
theorem sub2_W {x r : Str} {t tr : Tok} {Q : Value → Shared → Prop} (F : Fr h₀ L s.heap m) (N : News h₀ L s.heap news) (P : PatAt h₀ 90 89 c2) (hr : lst r = [13, 10]) (hx : x.length ≤ 1000)
    (h : ∀ z t' h' tk', lst z = normS false (lst x) → z.length ≤ 2 * x.length → Fr h₀ L h' m → News h₀ L h' news → Q (.str z t') { s with heap := h', toks := tk' }) :
    wpAny (model prog w) A (call (.builtin "re.Pattern.sub") [.ref 90, .str r tr, .str x t]) Q E s :=
  sub_W (Found := F2 x.cps) (Rf := fun p => normS false ((lst x).drop p)) F N P finds2 lt2 (fun p hp hf => r2_none hp hf) (fun p s' e hp hf => by rw [hr]; exact r2_some hp hf)
    (by have e : r = ⟨#[13, 10]⟩ := lst_inj hr
        subst e; decide) (by have e : r = ⟨#[13, 10]⟩ := lst_inj hr
                             subst e; decide +kernel) hx fun z t' h' tk' hz F' N' => by
    have hl := norm_len false (lst x)
    refine h z t' h' tk' hz ?_ F' N'
    rw [List.drop_zero] at hz
    rw [← hz] at hl
    rw [lst_len, lst_len]
    exact hl
theorem sub1_W {x r : Str} {t tr : Tok} {Q : Value → Shared → Prop} (F : Fr h₀ L s.heap m) (N : News h₀ L s.heap news) (P : PatAt h₀ 85 84 c1) (hr : lst r = [46, 46]) (hx : x.length ≤ 1000)
    (h : ∀ z t' h' tk', lst z = dotsS true (lst x) → z.length ≤ 2 * x.length → Fr h₀ L h' m → News h₀ L h' news → Q (.str z t') { s with heap := h', toks := tk' }) :
    wpAny (model prog w) A (call (.builtin "re.Pattern.sub") [.ref 85, .str r tr, .str x t]) Q E s :=
  sub_W (Found := F1 x.cps) (Rf := fun p => dotsS (atL (lst x) p) ((lst x).drop p)) F N P (finds1 (by have : x.cps.size ≤ 1000 := hx
                                                                                                      omega)) lt1 (fun p hp hf => r1_none hp hf) (fun p s' e hp hf => by rw [hr]; exact r1_some hp hf)
    (by have e : r = ⟨#[46, 46]⟩ := lst_inj hr
        subst e; decide) (by have e : r = ⟨#[46, 46]⟩ := lst_inj hr
                             subst e; decide +kernel) hx fun z t' h' tk' hz F' N' => by
    have hl := dots_len true (lst x)
    refine h z t' h' tk' hz ?_ F' N'
    rw [List.drop_zero] at hz
    have hz' : lst z = dotsS true (lst x) := hz
    rw [← hz'] at hl
    rw [lst_len, lst_len]
    exact hl
end
end Mine
end
section
namespace Mine
noncomputable def feeds : List Str := [Str.ofString "\n", Str.ofString "\r", Str.ofString "\r\n"]
noncomputable def feedF (D : List Int) (k : Int) : Str := feeds.getD (((D.getD k.toNat 0).fdiv (2 * k + 2)).fmod 3).toNat Str.empty
noncomputable def mailF (D : List Int) (rs : List Str) : Nat → Str
  | 0 => rs.getD 0 Str.empty
  | j + 1 => mailF D rs j ++ feedF D (j : Int) ++ rs.getD (j + 1) Str.empty
noncomputable def MailP (D : List Int) (rs : List Str) (j : Nat) (x : Str) : Prop := x = mailF D rs j ∧ x.length ≤ 10 + 12 * j
theorem feed_len {y : Str} (h : y ∈ feeds) : y.length ≤ 2 := by
  simp only [feeds, List.mem_cons, List.not_mem_nil, or_false] at h
  rcases h with rfl | rfl | rfl <;> decide +kernel
theorem str_len (x y : Str) : (x ++ y).length = x.length + y.length := by
  show (x.cps ++ y.cps).size = _
  rw [Array.size_append]; rfl
theorem mail_sz1 {D : List Int} {rs : List Str} {j : Nat} {x y : Str} (h : MailP D rs j x) (hj : j < 4) (hy : y ∈ feeds) : x.length + y.length ≤ sizeLine := by
  have := h.2; have := feed_len hy
  rw [sizeLine_eq]; omega
theorem mail_sz2 {D : List Int} {rs : List Str} {j : Nat} {x y z : Str} (h : MailP D rs j x) (hj : j < 4) (hy : y ∈ feeds) (hrs : ∀ r ∈ rs, r.length ≤ 10) (hz : z ∈ rs) : (x ++ y).length + z.length ≤ sizeLine := by
  have := h.2; have := feed_len hy; have := hrs z hz
  rw [sizeLine_eq, str_len]; omega
theorem mail_turn {D : List Int} {rs : List Str} {j : Nat} {k : Int} {x y z : Str} (h : MailP D rs j x) (hk : k = 0 + (j : Int)) (hy : y = feeds.getD (((D.getD k.toNat 0).fdiv (2 * k + 2)).fmod 3).toNat Str.empty) (hym : y ∈ feeds)
    (hz : z = rs.getD (k + 1).toNat Str.empty) (hrs : ∀ r ∈ rs, r.length ≤ 10) (hzm : z ∈ rs) : MailP D rs (j + 1) (x ++ y ++ z) := by
  have e : k = (j : Int) := by omega
  subst e
  have h1 := feed_len hym
  have h2 := hrs z hzm
  have h3 := h.2
  refine ⟨?_, by rw [str_len, str_len]; omega⟩
  rw [hy, hz, h.1]
  rfl
noncomputable def quoteL (l : List Nat) : List Nat := dotsS true (normS false l)
noncomputable def itq : Nat → List Nat → List Nat
  | 0, l => l
  | n + 1, l => quoteL (itq n l)
noncomputable def QuoP (l : List Nat) (j : Nat) (x : Str) : Prop := lst x = itq j l ∧ x.length ≤ 58 * 4 ^ j
theorem quo_turn {l : List Nat} {j : Nat} {x z : Str} (h : QuoP l j x) (hz : lst z = dotsS true (normS false (lst x))) (hl : z.length ≤ 4 * x.length) : QuoP l (j + 1) z := by
  refine ⟨by rw [hz, h.1]; rfl, ?_⟩
  have := h.2
  rw [Nat.pow_succ]
  omega
theorem quo_len {l : List Nat} {j : Nat} {x : Str} (h : QuoP l j x) (hj : j < 2) : x.length ≤ 400 := by
  have := h.2
  have : j = 0 ∨ j = 1 := by omega
  rcases this with e | e <;> subst e <;> omega
theorem quo_len2 {l : List Nat} {j : Nat} {x : Str} (h : QuoP l j x) (hj : j ≤ 2) : x.length ≤ 100000 := by
  have := h.2
  have : j = 0 ∨ j = 1 ∨ j = 2 := by omega
  rcases this with e | e | e <;> subst e <;> omega
section
variable {prog : Program} {w : World} {A : Around} {E : Value → Shared → Prop} {s : Shared}
theorem addS_K {x y : Str} {t u : Tok} {Q : Value → Shared → Prop} (hsz : x.length + y.length ≤ sizeLine) (h : ∀ r t' tk, r = x ++ y → Q (.str r t') { s with toks := tk }) : wpAny (model prog w) A (binaryOp .Add (.str x t) (.str y u)) Q E s :=
  PyProof.Rows.add_str (fun t' tk => h _ t' tk rfl) hsz
end
theorem mail_sz2' {D : List Int} {rs : List Str} {j : Nat} {x y z r : Str} (h : MailP D rs j x) (hj : j < 4) (hr : r = x ++ y) (hy : y ∈ feeds) (hrs : ∀ r ∈ rs, r.length ≤ 10) (hz : z ∈ rs) : r.length + z.length ≤ sizeLine := by
  rw [hr]; exact mail_sz2 h hj hy hrs hz
theorem mail_turn' {D : List Int} {rs : List Str} {j : Nat} {k : Int} {x y z r q : Str} (h : MailP D rs j x) (hk : k = 0 + (j : Int)) (hq : q = r ++ z) (hr : r = x ++ y) (hy : y = feeds.getD (((D.getD k.toNat 0).fdiv (2 * k + 2)).fmod 3).toNat Str.empty) (hym : y ∈ feeds)
    (hz : z = rs.getD (k + 1).toNat Str.empty) (hrs : ∀ r ∈ rs, r.length ≤ 10) (hzm : z ∈ rs) : MailP D rs (j + 1) q := by
  rw [hq, hr]; exact mail_turn h hk hy hym hz hrs hzm
section
variable {prog : Program} {w : World} {A : Around} {E : Value → Shared → Prop} {s : Shared} {h₀ : Heap} {L : Addr} {m : Str → Option Value} {news : Led}
theorem split_K {x y : Str} {t u : Tok} {Q : Value → Shared → Prop} (F : Fr h₀ L s.heap m) (N : News h₀ L s.heap news) (hy : (y.length == 0) = false) (hsz : x.length ≤ 100000)
    (h : ∀ D vs h' k, StrsAre vs (Txt.split x y) → (∀ p ∈ news, p.1 < D) → Fr h₀ L h' m → News h₀ L h' ((D, listOf (List.toArray vs) 0) :: news) → Q (.ref D) { s with heap := h', toks := k }) :
    wpAny (model prog w) A (call (.builtin "str.split") [.str x t, .str y u]) Q E s :=
  splitN1A F N hy (fun l h' k e hi _ _ F' N' => h _ (strValues l) h' k (e ▸ hi) (fun p hp => Heap.lt_size (N p hp).1) F' N') (by rw [sizeLine_eq]; omega)
end
end Mine
end
section
namespace Mine
noncomputable def curM (M : Nat → Nat → Nat → Int) (k i j a b : Nat) : Int := if k < a ∧ k < b ∧ (a < i ∨ (a = i ∧ b < j)) then M (k + 1) a b else M k a b
noncomputable def rowOf (f : Nat → Nat → Int) (a : Nat) : List Int := [f a 0, f a 1, f a 2, f a 3, f a 4]
noncomputable def updF (f : Nat → Nat → Int) (a b : Nat) (x : Int) : Nat → Nat → Int := fun a' b' => if a' = a ∧ b' = b then x else f a' b'
noncomputable def updV (V : Nat → List Value) (a : Nat) (v : List Value) : Nat → List Value := fun a' => if a' = a then v else V a'
theorem five {a : Nat} (h : a < 5) : a = 0 ∨ a = 1 ∨ a = 2 ∨ a = 3 ∨ a = 4 := by omega
theorem rowOf_get {f : Nat → Nat → Int} {a b : Nat} (h : b < 5) : (rowOf f a).getD b 0 = f a b := by
  rcases five h with e | e | e | e | e <;> subst e <;> rfl
theorem rowOf_set {f : Nat → Nat → Int} {a b : Nat} {x : Int} (h : b < 5) : (rowOf f a).set b x = rowOf (updF f a b x) a := by
  rcases five h with e | e | e | e | e <;> subst e <;> simp [rowOf, updF]
theorem rowOf_upd {f : Nat → Nat → Int} {a a' b : Nat} {x : Int} (h : a' ≠ a) : rowOf (updF f a b x) a' = rowOf f a' := by
  simp [rowOf, updF, h]
noncomputable abbrev gl (g : Addr) (r : Nat → Addr) (V : Nat → List Value) (e : Nat → Nat) (n : Nat) (rest : Led) : Led :=
  (g, listOf [Value.ref (r 0), .ref (r 1), .ref (r 2), .ref (r 3), .ref (r 4)].toArray n) :: (r 0, listOf (V 0).toArray (e 0)) :: (r 1, listOf (V 1).toArray (e 1)) :: (r 2, listOf (V 2).toArray (e 2)) :: (r 3, listOf (V 3).toArray (e 3)) :: (r 4, listOf (V 4).toArray (e 4)) :: rest
noncomputable def OffR (r : Nat → Addr) (l : Led) : Prop := ∀ p ∈ l, ∀ b, b < 5 → p.1 ≠ r b
theorem offR_nil {r : Nat → Addr} : OffR r [] := fun _ h => nomatch h
theorem offR_cons {r : Nat → Addr} {p : Addr × Obj} {l : Led} (h : ∀ b, b < 5 → p.1 ≠ r b) (hl : OffR r l) : OffR r (p :: l) := fun q hq => (List.mem_cons.mp hq).elim (fun e => e ▸ h) (hl q)
theorem offR_app {r : Nat → Addr} {l l' : Led} (h : OffR r l) (hl : OffR r l') : OffR r (l ++ l') := fun q hq => (List.mem_append.mp hq).elim (h q) (hl q)
theorem offR_of {r : Nat → Addr} {g : Addr} {V : Nat → List Value} {e : Nat → Nat} {n : Nat} {rest own : Led} (h : OwnOff own ((gl g r V e n rest).map (·.1))) : OffR r own := fun p hp b hb => by
  refine h p hp (r b) ?_
  rcases five hb with q | q | q | q | q <;> subst q <;> simp
noncomputable def DistR (g : Addr) (r : Nat → Addr) : Prop := (∀ a b, a < 5 → b < 5 → r a = r b → a = b) ∧ ∀ b, b < 5 → r b ≠ g
section
variable {prog : Program} {w : World} {A : Around} {E : Value → Shared → Prop} {s : Shared} {h₀ : Heap} {L : Addr} {m : Str → Option Value} {news : Led}
theorem rowref_K {value slice : PySem.Expr} {g : Addr} {r : Nat → Addr} {n : Nat} {k : Int} {u : Tok} {Q : Value → Shared → Prop} (N : News h₀ L s.heap news) (hm : (g, listOf [Value.ref (r 0), .ref (r 1), .ref (r 2), .ref (r 3), .ref (r 4)].toArray n) ∈ news)
    (h0 : 0 ≤ k) (h1 : k < 5) (h : Q (.ref (r k.toNat)) s)
    (hs : subscripted slice false (.ref g) (.int k u) = operate [.ref g, .int k u] (getItem (.ref g) (.int k u))) :
    wpAny (model prog w) A (subscriptTail value slice (.ref g) (.int k u)) Q E s := by
  refine kba_turn (value' := PySem.Expr.Name (PySem.Str.ofString "_") ⟨0, 0, 0, 0⟩) (fun _ => rfl) ?_
  refine item_list (News.isList N hm) h0 (by omega) (x := .ref (r k.toNat)) ?_ h hs (fun _ => rfl)
  have h5 : k.toNat < 5 := by omega
  rcases five h5 with e | e | e | e | e <;> rw [e] <;> rfl
theorem rowval_K {value slice : PySem.Expr} {r : Nat → Addr} {V : Nat → List Value} {e : Nat → Nat} {f : Nat → Nat → Int} {a : Nat} {k : Int} {u : Tok} {Q : Value → Shared → Prop} (N : News h₀ L s.heap news) (hm : ∀ a, a < 5 → (r a, listOf (V a).toArray (e a)) ∈ news)
    (hI : ∀ a, a < 5 → IntsAre (V a) (rowOf f a)) (ha : a < 5) (h0 : 0 ≤ k) (h1 : k < 5) (h : ∀ t, Q (.int (f a k.toNat) t) s)
    (hs : subscripted slice false (.ref (r a)) (.int k u) = operate [.ref (r a), .int k u] (getItem (.ref (r a)) (.int k u))) :
    wpAny (model prog w) A (subscriptTail value slice (.ref (r a)) (.int k u)) Q E s := by
  refine kba_turn (value' := PySem.Expr.Name (PySem.Str.ofString "_") ⟨0, 0, 0, 0⟩) (fun _ => rfl) ?_
  have h5 : k.toNat < 5 := by omega
  have hlen : (V a).length = 5 := (hI a ha).length
  have e1 : (rowOf f a)[k.toNat]? = some (f a k.toNat) := by
    rw [← rowOf_get (f := f) (a := a) h5, List.getD_eq_getElem?_getD, List.getElem?_eq_getElem (show k.toNat < (rowOf f a).length from h5)]; rfl
  obtain ⟨t, hx⟩ := (hI a ha).get k.toNat _ e1
  exact item_list (News.isList N (hm a ha)) h0 (by omega) (by simpa using hx) (h t) hs (fun _ => rfl)
theorem rowset_K {g : Addr} {r : Nat → Addr} {V : Nat → List Value} {e : Nat → Nat} {n : Nat} {rest : Led} {f : Nat → Nat → Int} {a : Nat} {k x : Int} {t u : Tok} {Q : Unit → Shared → Prop} (F : Fr h₀ L s.heap m) (N : News h₀ L s.heap (gl g r V e n rest))
    (hI : ∀ a, a < 5 → IntsAre (V a) (rowOf f a)) (ha : a < 5) (h0 : 0 ≤ k) (h1 : k < 5) (hd : DistR g r) (hr : OffR r rest)
    (h : ∀ h', Fr h₀ L h' m → News h₀ L h' (gl g r (updV V a ((V a).set k.toNat (.int x u))) e n rest) → (∀ b, b < 5 → IntsAre (updV V a ((V a).set k.toNat (.int x u)) b) (rowOf (updF f a k.toNat x) b)) → Q () { s with heap := h' }) :
    wpAny (model prog w) A (setItem (.ref (r a)) (.int k t) (.int x u)) Q E s := by
  have hm : ∀ b, b < 5 → (r b, listOf (V b).toArray (e b)) ∈ gl g r V e n rest := fun b hb => by
    rcases five hb with q | q | q | q | q <;> subst q <;> simp
  have z := N _ (hm a ha)
  have hlen : (V a).length = 5 := (hI a ha).length
  have hsz : (V a).toArray.size = 5 := by rw [List.size_toArray]; exact hlen
  refine ki_setAt z.1 h0 (by omega) (by omega) ?_
  have q := PySem.IsL.update z.1 (·.setIfInBounds k.toNat (.int x u))
  have e1 : (V a).toArray.setIfInBounds k.toNat (.int x u) = ((V a).set k.toNat (.int x u)).toArray := by
    apply Array.toList_inj.mp
    simp
  rw [e1, if_pos (by simp)] at q
  have same : Heap.SameBut (r a) s.heap (s.heap.update (r a) (Obj.mapSeq (·.setIfInBounds k.toNat (.int x u)))) := Heap.SameBut.update ..
  have other : ∀ p ∈ gl g r V e n rest, p.1 ≠ r a → (s.heap.update (r a) (Obj.mapSeq (·.setIfInBounds k.toNat (.int x u)))).get? p.1 = some p.2 ∧ p.1 ≠ L ∧ h₀.get? p.1 = none := fun p hp hne =>
    ⟨(same.2 p.1 hne).trans (N p hp).1, (N p hp).2⟩
  have row : ∀ b, b < 5 → (s.heap.update (r a) (Obj.mapSeq (·.setIfInBounds k.toNat (.int x u)))).get? (r b) = some (listOf (updV V a ((V a).set k.toNat (.int x u)) b).toArray (e b)) ∧ r b ≠ L ∧ h₀.get? (r b) = none := fun b hb => by
    by_cases hba : b = a
    · subst hba
      unfold updV
      rw [if_pos rfl]
      exact ⟨q, z.2⟩
    · unfold updV
      rw [if_neg hba]
      exact other _ (hm b hb) (fun e => hba (hd.1 b a hb ha e))
  refine h _ (F.change same z.2.1 z.2.2) (fun p hp => ?_) (fun b hb => ?_)
  · simp only [gl, List.mem_cons] at hp
    rcases hp with rfl | rfl | rfl | rfl | rfl | rfl | hp
    · exact other _ List.mem_cons_self (fun e => hd.2 a ha e.symm)
    · exact row 0 (by decide)
    · exact row 1 (by decide)
    · exact row 2 (by decide)
    · exact row 3 (by decide)
    · exact row 4 (by decide)
    · exact other p (by simp [gl, hp]) (hr p hp a ha)
  · by_cases hba : b = a
    · subst hba
      rw [show updV V b ((V b).set k.toNat (.int x u)) b = (V b).set k.toNat (.int x u) from if_pos rfl, ← rowOf_set (by omega)]
      exact ints_set (hI b hb) _
    · rw [show updV V a ((V a).set k.toNat (.int x u)) b = V b from if_neg hba, rowOf_upd hba]
      exact hI b hb
end
end Mine
end
section
namespace Mine
noncomputable def bef (M : Nat → Nat → Nat → Int) : Nat → Int
  | 0 => 1
  | k + 1 => M k k k
structure PivH (M : Nat → Nat → Nat → Int) : Prop where
  step : ∀ k a b, k < 4 → k < a → a < 5 → k < b → b < 5 → M k a b * M k k k - M k a k * M k k b = bef M k * M (k + 1) a b
  keep : ∀ k a b, k < 4 → a < 5 → b < 5 → (a ≤ k ∨ b ≤ k) → M (k + 1) a b = M k a b
  ne : ∀ k, k < 4 → bef M k ≠ 0
  sz : ∀ k a b, k ≤ 4 → a < 5 → b < 5 → (M k a b).natAbs < 2 ^ 90
noncomputable def RowsV (V : Nat → List Value) (f : Nat → Nat → Int) : Prop := ∀ a, a < 5 → IntsAre (V a) (rowOf f a)
theorem rowsV_eq {V : Nat → List Value} {f f' : Nat → Nat → Int} (h : RowsV V f) (e : ∀ a b, a < 5 → b < 5 → f' a b = f a b) : RowsV V f' := fun a ha => by
  have : rowOf f' a = rowOf f a := by
    unfold rowOf
    rw [e a 0 ha (by decide), e a 1 ha (by decide), e a 2 ha (by decide), e a 3 ha (by decide), e a 4 ha (by decide)]
  rw [this]; exact h a ha
theorem cur_k0 (M : Nat → Nat → Nat → Int) (k a b : Nat) : curM M k (k + 1) 0 a b = M k a b := by
  unfold curM; rw [if_neg (by omega)]
theorem cur_j0 (M : Nat → Nat → Nat → Int) (k i a b : Nat) : curM M k i (k + 1) a b = curM M k i 0 a b := by
  unfold curM
  by_cases h : k < a ∧ k < b ∧ a < i
  · rw [if_pos ⟨h.1, h.2.1, .inl h.2.2⟩, if_pos ⟨h.1, h.2.1, .inl h.2.2⟩]
  · rw [if_neg (fun q => h ⟨q.1, q.2.1, by omega⟩), if_neg (fun q => h ⟨q.1, q.2.1, by omega⟩)]
theorem cur_j5 (M : Nat → Nat → Nat → Int) (k i a b : Nat) (hb : b < 5) : curM M k (i + 1) 0 a b = curM M k i 5 a b := by
  unfold curM
  by_cases h : k < a ∧ k < b ∧ a < i + 1
  · rw [if_pos ⟨h.1, h.2.1, .inl h.2.2⟩, if_pos ⟨h.1, h.2.1, by omega⟩]
  · rw [if_neg (fun q => h ⟨q.1, q.2.1, by omega⟩), if_neg (fun q => h ⟨q.1, q.2.1, by omega⟩)]
theorem cur_i5 {M : Nat → Nat → Nat → Int} (H : PivH M) {k a b : Nat} (hk : k < 4) (ha : a < 5) (hb : b < 5) : M (k + 1) a b = curM M k 5 0 a b := by
  unfold curM
  by_cases h : k < a ∧ k < b
  · rw [if_pos ⟨h.1, h.2, .inl ha⟩]
  · rw [if_neg (fun q => h ⟨q.1, q.2.1⟩)]
    exact H.keep k a b hk ha hb (by omega)
theorem cur_sz {M : Nat → Nat → Nat → Int} (H : PivH M) {k i j a b : Nat} (hk : k < 4) (ha : a < 5) (hb : b < 5) : (curM M k i j a b).natAbs < 2 ^ 90 := by
  unfold curM
  split
  · exact H.sz (k + 1) a b (by omega) ha hb
  · exact H.sz k a b (by omega) ha hb
theorem bef_sz {M : Nat → Nat → Nat → Int} (H : PivH M) {k : Nat} (hk : k < 4) : (bef M k).natAbs < 2 ^ 90 := by
  cases k with
  | zero => (show (1 : Int).natAbs < 2 ^ 90; decide)
  | succ k => exact H.sz k k k (by omega) (by omega) (by omega)
theorem sz_of {x : Int} (h : x.natAbs < 2 ^ 90) : Sz x := Nat.lt_trans h (by decide)
theorem abs_mul {x y : Int} (hx : x.natAbs < 2 ^ 90) (hy : y.natAbs < 2 ^ 90) : (x * y).natAbs < 2 ^ 180 := by
  rw [Int.natAbs_mul]
  exact Nat.lt_of_lt_of_le (Nat.mul_lt_mul'' hx hy) (by decide)
theorem sz_m {x y : Int} (hx : x.natAbs < 2 ^ 90) (hy : y.natAbs < 2 ^ 90) : Sz (x * y) := Nat.lt_trans (abs_mul hx hy) (by decide)
theorem sz_d {x y z v : Int} (hx : x.natAbs < 2 ^ 90) (hy : y.natAbs < 2 ^ 90) (hz : z.natAbs < 2 ^ 90) (hv : v.natAbs < 2 ^ 90) : Sz (x * y - z * v) := by
  have h1 := abs_mul hx hy
  have h2 := abs_mul hz hv
  unfold Sz
  have h3 : (2 : Nat) ^ 180 + 2 ^ 180 ≤ 2 ^ 200 := by decide
  omega
theorem over_eq {M : Nat → Nat → Nat → Int} (H : PivH M) {k i j : Nat} (hk : k < 4) (hi : k < i ∧ i < 5) (hj : k < j ∧ j < 5) :
    curM M k i j i j * curM M k i j k k - curM M k i j i k * curM M k i j k j = bef M k * M (k + 1) i j := by
  have e1 : curM M k i j i j = M k i j := by unfold curM; rw [if_neg (by omega)]
  have e2 : curM M k i j k k = M k k k := by unfold curM; rw [if_neg (by omega)]
  have e3 : curM M k i j i k = M k i k := by unfold curM; rw [if_neg (by omega)]
  have e4 : curM M k i j k j = M k k j := by unfold curM; rw [if_neg (by omega)]
  rw [e1, e2, e3, e4]
  exact H.step k i j hk hi.1 hi.2 hj.1 hj.2
theorem piv_no {M : Nat → Nat → Nat → Int} (H : PivH M) {k i j : Nat} (hk : k < 4) (hi : k < i ∧ i < 5) (hj : k < j ∧ j < 5)
    (h : ¬ (curM M k i j i j * curM M k i j k k - curM M k i j i k * curM M k i j k j).fmod (bef M k) = 0) : False := by
  rw [over_eq H hk hi hj] at h
  exact h (by rw [Int.mul_fmod_right])
theorem piv_turn {M : Nat → Nat → Nat → Int} (H : PivH M) {k i j : Nat} (hk : k < 4) (hi : k < i ∧ i < 5) (hj : k < j ∧ j < 5) {V' : Nat → List Value}
    (hI : ∀ b, b < 5 → IntsAre (V' b) (rowOf (updF (curM M k i j) i j ((curM M k i j i j * curM M k i j k k - curM M k i j i k * curM M k i j k j).fdiv (bef M k))) b)) : RowsV V' (curM M k i (j + 1)) := by
  rw [over_eq H hk hi hj, Int.mul_fdiv_cancel_left _ (H.ne k hk)] at hI
  refine rowsV_eq hI fun a b _ _ => ?_
  unfold updF curM
  by_cases e : a = i ∧ b = j
  · rw [if_pos e, e.1, e.2, if_pos (by omega)]
  · rw [if_neg e]
    by_cases h : k < a ∧ k < b ∧ (a < i ∨ a = i ∧ b < j)
    · rw [if_pos h, if_pos (by omega)]
    · rw [if_neg h, if_neg (by omega)]
noncomputable def pivs (M : Nat → Nat → Nat → Int) : Nat → List Int
  | 0 => [M 0 0 0]
  | k + 1 => pivs M k ++ [M (k + 1) (k + 1) (k + 1)]
noncomputable def PivP (M : Nat → Nat → Nat → Int) (k : Nat) (V : Nat → List Value) (pn : List Int) (b : Int) : Prop := RowsV V (M k) ∧ pn = pivs M k ∧ b = bef M k
noncomputable abbrev CtrR (nd nu : Nat) (w : World) (mean : ExcName → Option Value) (mg mb : Str → Option Value) (f : Addr) (vs : List Value) (news rest : Led) (Post : Value → Led → Prop) : Prop :=
  ∀ (dp un : Nat) (gd : Option (List Code)) (cn : Str) (cs : Scope) (a : Addr) (ccd : Value) (cl : List (Str × Addr)) (outer : List Env) (A₀ : Around) (base h₀ : Heap) (L : Addr) (m : Str → Option Value) (s : Shared) (Q E : Value → Shared → Prop),
    Below A₀ base outer h₀ → Fr h₀ L s.heap m → (hd0.heap_39 w.params).In h₀ → News h₀ L s.heap news →
    Top hd0.view_39 (looseW hd0.view_39 [Str.ofString "_twin_re_1", Str.ofString "_twin_re_2"]) mean mg mb h₀ → cs.kind = .function → dp + nd < recursionLimit → un + nu < cLine →
    (∀ v nw h' tk', Post v nw → Fr h₀ L h' m → News h₀ L h' (nw ++ rest) → Q v { s with heap := h', toks := tk' }) →
      wpAny (model PySem.Challenge.rw_sw0012_01.row.prog w) (ktrTop dp un gd cn cs L a ccd cl outer) (call (.ref f) vs) Q E s
theorem kept_rest2 {h₀ s h' : Heap} {L : Addr} {news news₁ nw nw' rest : Led} (N : News h₀ L s news) (hk : Kept news news₁ h') (N' : News h₀ L h' nw') (hn : ∀ q ∈ nw, q ∈ nw') (hr : ∀ q ∈ rest, q ∈ news ∧ q.1 ∉ news₁.map (·.1)) :
    News h₀ L h' (nw ++ rest) := fun p hp => by
  rcases List.mem_append.mp hp with hp | hp
  · exact N' p (hn p hp)
  · have ⟨h1, h2⟩ := hr p hp
    exact ⟨hk p h1 h2, (N p h1).2.1, (N p h1).2.2⟩
theorem off5 {g lp : Addr} {r : Nat → Addr} (h : g < lp ∧ r 0 < lp ∧ r 1 < lp ∧ r 2 < lp ∧ r 3 < lp ∧ r 4 < lp) : ∀ b, b < 5 → lp ≠ r b := fun b hb e => by
  obtain ⟨_, h0, h1, h2, h3, h4⟩ := h
  rcases five hb with q | q | q | q | q <;> subst q
  · exact absurd e.symm (Nat.ne_of_lt h0)
  · exact absurd e.symm (Nat.ne_of_lt h1)
  · exact absurd e.symm (Nat.ne_of_lt h2)
  · exact absurd e.symm (Nat.ne_of_lt h3)
  · exact absurd e.symm (Nat.ne_of_lt h4)
section
variable {prog : Program} {w : World} {A : Around} {E : Value → Shared → Prop} {s : Shared} {h₀ : Heap} {L : Addr} {m : Str → Option Value} {news : Led}
theorem rowref_N {value slice : PySem.Expr} {g : Addr} {r : Nat → Addr} {n : Nat} {k : Nat} {u : Tok} {Q : Value → Shared → Prop} (N : News h₀ L s.heap news) (hm : (g, listOf [Value.ref (r 0), .ref (r 1), .ref (r 2), .ref (r 3), .ref (r 4)].toArray n) ∈ news)
    (h1 : k < 5)
    (hs : ∀ o i, subscripted slice false o i = operate [o, i] (getItem o i)) (h : Q (.ref (r k)) s) :
    wpAny (model prog w) A (subscriptTail value slice (.ref g) (.int (k : Int) u)) Q E s :=
  rowref_K N hm (by omega) (by omega) h (hs _ _)
theorem rowval_N {value slice : PySem.Expr} {r : Nat → Addr} {V : Nat → List Value} {e : Nat → Nat} {f : Nat → Nat → Int} {a : Nat} {k : Nat} {u : Tok} {Q : Value → Shared → Prop} (N : News h₀ L s.heap news) (hm : ∀ a, a < 5 → (r a, listOf (V a).toArray (e a)) ∈ news)
    (hI : RowsV V f) (ha : a < 5) (h1 : k < 5)
    (hs : ∀ o i, subscripted slice false o i = operate [o, i] (getItem o i)) (h : ∀ t, Q (.int (f a k) t) s) :
    wpAny (model prog w) A (subscriptTail value slice (.ref (r a)) (.int (k : Int) u)) Q E s :=
  rowval_K N hm hI ha (by omega) (by omega) h (hs _ _)
theorem rowset_N {g : Addr} {r : Nat → Addr} {V : Nat → List Value} {e : Nat → Nat} {n : Nat} {rest : Led} {f : Nat → Nat → Int} {a k : Nat} {x : Int} {t u : Tok} {Q : Unit → Shared → Prop} (F : Fr h₀ L s.heap m) (N : News h₀ L s.heap (gl g r V e n rest))
    (hI : RowsV V f) (ha : a < 5) (h1 : k < 5) (hd : DistR g r) (hr : OffR r rest)
    (h : ∀ h' (V' : Nat → List Value), Fr h₀ L h' m → News h₀ L h' (gl g r V' e n rest) → (∀ b, b < 5 → IntsAre (V' b) (rowOf (updF f a k x) b)) → Q () { s with heap := h' }) :
    wpAny (model prog w) A (setItem (.ref (r a)) (.int (k : Int) t) (.int x u)) Q E s :=
  rowset_K F N hI ha (by omega) (by omega) hd hr fun h' F' N' I' => h h' _ F' N' I'
end
theorem gl_mem {g : Addr} {r : Nat → Addr} {V : Nat → List Value} {e : Nat → Nat} {n : Nat} {rest : Led} : ∀ a, a < 5 → (r a, listOf (V a).toArray (e a)) ∈ gl g r V e n rest := fun a ha => by
  rcases five ha with q | q | q | q | q <;> subst q <;> simp
theorem gl_head {g : Addr} {r : Nat → Addr} {V : Nat → List Value} {e : Nat → Nat} {n : Nat} {rest : Led} : (g, listOf [Value.ref (r 0), .ref (r 1), .ref (r 2), .ref (r 3), .ref (r 4)].toArray n) ∈ gl g r V e n rest := List.mem_cons_self
theorem room_g {dp nd nd' : Nat} (h : dp + nd < recursionLimit) (hle : 1 + nd' ≤ nd) : dp + 1 + nd' < recursionLimit := by omega
theorem units_g {un nu nu' : Nat} (h : un + nu < cLine) (hle : 3 + nu' ≤ nu) : un + 3 + nu' < cLine := by omega
theorem gl_sub {g : Addr} {r : Nat → Addr} {V : Nat → List Value} {e : Nat → Nat} {n : Nat} {rest rest' : Led} (h : ∀ p ∈ rest, p ∈ rest') : ∀ p ∈ gl g r V e n rest, p ∈ gl g r V e n rest' := fun p hp => by
  simp only [gl, List.mem_cons] at hp ⊢
  rcases hp with hp | hp | hp | hp | hp | hp | hp
  · exact .inl hp
  · exact .inr (.inl hp)
  · exact .inr (.inr (.inl hp))
  · exact .inr (.inr (.inr (.inl hp)))
  · exact .inr (.inr (.inr (.inr (.inl hp))))
  · exact .inr (.inr (.inr (.inr (.inr (.inl hp)))))
  · exact .inr (.inr (.inr (.inr (.inr (.inr (h p hp))))))
theorem in_gl {g : Addr} {r : Nat → Addr} {V : Nat → List Value} {e : Nat → Nat} {n : Nat} {rest l : Led} (h : ∀ p ∈ l, p ∈ rest) : ∀ p ∈ l, p ∈ gl g r V e n rest := fun p hp => by
  simp only [gl, List.mem_cons]
  exact .inr (.inr (.inr (.inr (.inr (.inr (h p hp))))))
theorem piv_turnN {M : Nat → Nat → Nat → Int} (H : PivH M) {k i j : Nat} (hk : k < 4) (hi : k < i ∧ i < 5) (hj : k < j ∧ j < 5) {V' : Nat → List Value} {n : Nat} (hn : n = j + 1)
    (hI : ∀ b, b < 5 → IntsAre (V' b) (rowOf (updF (curM M k i j) i j ((curM M k i j i j * curM M k i j k k - curM M k i j i k * curM M k i j k j).fdiv (bef M k))) b)) : RowsV V' (curM M k i n) := hn ▸ piv_turn H hk hi hj hI
theorem gl_ne {g lp : Addr} {r : Nat → Addr} {V : Nat → List Value} {e : Nat → Nat} {n : Nat} {own : Led} (hg : g ≠ lp) (hlp : ∀ b, b < 5 → lp ≠ r b) (ho : ∀ p ∈ own, p.1 ≠ lp) : ∀ p ∈ gl g r V e n own, p.1 ≠ lp := fun p hp => by
  simp only [gl, List.mem_cons] at hp
  rcases hp with rfl | rfl | rfl | rfl | rfl | rfl | hp
  · exact hg
  · exact fun q => hlp 0 (by decide) q.symm
  · exact fun q => hlp 1 (by decide) q.symm
  · exact fun q => hlp 2 (by decide) q.symm
  · exact fun q => hlp 3 (by decide) q.symm
  · exact fun q => hlp 4 (by decide) q.symm
  · exact ho p hp
theorem lp_first {g : Addr} {r : Nat → Addr} {V : Nat → List Value} {e : Nat → Nat} {n : Nat} {own : Led} {q : Addr × Obj} : ∀ p ∈ q :: gl g r V e n own, p ∈ gl g r V e n (q :: own) := fun p hp => by
  rcases List.mem_cons.mp hp with hp | hp
  · rw [hp]; exact in_gl (fun _ h => h) q List.mem_cons_self
  · exact gl_sub (fun _ h => List.mem_cons_of_mem _ h) p hp
theorem gl_lp {g : Addr} {r : Nat → Addr} {V : Nat → List Value} {e : Nat → Nat} {n : Nat} {own : Led} {q : Addr × Obj} : ∀ p ∈ gl g r V e n [q], p ∈ q :: gl g r V e n own := fun p hp => by
  simp only [gl, List.mem_cons, List.not_mem_nil, or_false] at hp ⊢
  rcases hp with hp | hp | hp | hp | hp | hp | hp <;> simp only [hp, true_or, or_true]
theorem own_lp {g : Addr} {r : Nat → Addr} {V : Nat → List Value} {e : Nat → Nat} {n : Nat} {own : Led} {q : Addr × Obj} : ∀ p ∈ own, p ∈ q :: gl g r V e n own := fun p hp => List.mem_cons_of_mem _ (in_gl (fun _ h => h) p hp)
theorem pivs_len (M : Nat → Nat → Nat → Int) : ∀ k, (pivs M k).length = k + 1
  | 0 => rfl
  | k + 1 => by rw [pivs, List.length_append, pivs_len M k]; rfl
theorem glt_mem {g : Addr} {r : Nat → Addr} {V : Nat → List Value} {e : Nat → Nat} {n : Nat} {rest : Led} {q : Addr × Obj} : ∀ a, a < 5 → (r a, listOf (V a).toArray (e a)) ∈ q :: gl g r V e n rest := fun a ha => List.mem_cons_of_mem _ (gl_mem a ha)
theorem glt_head {g : Addr} {r : Nat → Addr} {V : Nat → List Value} {e : Nat → Nat} {n : Nat} {rest : Led} {q : Addr × Obj} : (g, listOf [Value.ref (r 0), .ref (r 1), .ref (r 2), .ref (r 3), .ref (r 4)].toArray n) ∈ q :: gl g r V e n rest := List.mem_cons_of_mem _ gl_head
end Mine
end
section
namespace Mine
theorem ints_s {vs : List Value} {ns : List Int} {n : Nat} (h : IntsAre vs ns) (hl : ns.length = n + 1) : ∃ d t vs' ns', vs = .int d t :: vs' ∧ ns = d :: ns' ∧ IntsAre vs' ns' ∧ ns'.length = n := by
  cases h with
  | nil => cases hl
  | cons a t h => exact ⟨_, _, _, _, rfl, rfl, h, Nat.succ.inj hl⟩
theorem ints_0 {vs : List Value} {ns : List Int} (h : IntsAre vs ns) (hl : ns.length = 0) : vs = [] ∧ ns = [] := by
  cases h with
  | nil => exact ⟨rfl, rfl⟩
  | cons a t h => cases hl
theorem strs_s {vs : List Value} {ns : List Str} {n : Nat} (h : StrsAre vs ns) (hl : ns.length = n + 1) : ∃ d t vs' ns', vs = .str d t :: vs' ∧ ns = d :: ns' ∧ StrsAre vs' ns' ∧ ns'.length = n := by
  cases h with
  | nil => cases hl
  | cons a t h => exact ⟨_, _, _, _, rfl, rfl, h, Nat.succ.inj hl⟩
theorem strs_0 {vs : List Value} {ns : List Str} (h : StrsAre vs ns) (hl : ns.length = 0) : vs = [] ∧ ns = [] := by
  cases h with
  | nil => exact ⟨rfl, rfl⟩
  | cons a t h => cases hl
noncomputable def Ints4 (vs : List Value) (ns : List Int) : Prop := ∃ d0 d1 d2 d3 t0 t1 t2 t3, vs = [Value.int d0 t0, .int d1 t1, .int d2 t2, .int d3 t3] ∧ ns = [d0, d1, d2, d3]
theorem ints4 {vs : List Value} {ns : List Int} (h : IntsAre vs ns) (hl : ns.length = 4) : ∃ d0 d1 d2 d3 t0 t1 t2 t3, vs = [Value.int d0 t0, .int d1 t1, .int d2 t2, .int d3 t3] ∧ ns = [d0, d1, d2, d3] := by
  show Ints4 vs ns
  obtain ⟨d0, t0, v0, n0, e0, f0, g0, l0⟩ := ints_s h hl
  obtain ⟨d1, t1, v1, n1, e1, f1, g1, l1⟩ := ints_s g0 l0
  obtain ⟨d2, t2, v2, n2, e2, f2, g2, l2⟩ := ints_s g1 l1
  obtain ⟨d3, t3, v3, n3, e3, f3, g3, l3⟩ := ints_s g2 l2
  obtain ⟨e4, f4⟩ := ints_0 g3 l3
  exact ⟨d0, d1, d2, d3, t0, t1, t2, t3, by rw [e0, e1, e2, e3, e4], by rw [f0, f1, f2, f3, f4]⟩
noncomputable def Ints6 (vs : List Value) (ns : List Int) : Prop := ∃ d0 d1 d2 d3 d4 d5 t0 t1 t2 t3 t4 t5, vs = [Value.int d0 t0, .int d1 t1, .int d2 t2, .int d3 t3, .int d4 t4, .int d5 t5] ∧ ns = [d0, d1, d2, d3, d4, d5]
theorem ints6 {vs : List Value} {ns : List Int} (h : IntsAre vs ns) (hl : ns.length = 6) : ∃ d0 d1 d2 d3 d4 d5 t0 t1 t2 t3 t4 t5, vs = [Value.int d0 t0, .int d1 t1, .int d2 t2, .int d3 t3, .int d4 t4, .int d5 t5] ∧ ns = [d0, d1, d2, d3, d4, d5] := by
  show Ints6 vs ns
  obtain ⟨d0, t0, v0, n0, e0, f0, g0, l0⟩ := ints_s h hl
  obtain ⟨d1, t1, v1, n1, e1, f1, g1, l1⟩ := ints_s g0 l0
  obtain ⟨d2, d3, d4, d5, t2, t3, t4, t5, e2, f2⟩ := ints4 g1 l1
  exact ⟨d0, d1, d2, d3, d4, d5, t0, t1, t2, t3, t4, t5, by rw [e0, e1, e2], by rw [f0, f1, f2]⟩
noncomputable def Strs5 (vs : List Value) (ns : List Str) : Prop := ∃ d0 d1 d2 d3 d4 t0 t1 t2 t3 t4, vs = [Value.str d0 t0, .str d1 t1, .str d2 t2, .str d3 t3, .str d4 t4] ∧ ns = [d0, d1, d2, d3, d4]
theorem strs5 {vs : List Value} {ns : List Str} (h : StrsAre vs ns) (hl : ns.length = 5) : ∃ d0 d1 d2 d3 d4 t0 t1 t2 t3 t4, vs = [Value.str d0 t0, .str d1 t1, .str d2 t2, .str d3 t3, .str d4 t4] ∧ ns = [d0, d1, d2, d3, d4] := by
  show Strs5 vs ns
  obtain ⟨d0, t0, v0, n0, e0, f0, g0, l0⟩ := strs_s h hl
  obtain ⟨d1, t1, v1, n1, e1, f1, g1, l1⟩ := strs_s g0 l0
  obtain ⟨d2, t2, v2, n2, e2, f2, g2, l2⟩ := strs_s g1 l1
  obtain ⟨d3, t3, v3, n3, e3, f3, g3, l3⟩ := strs_s g2 l2
  obtain ⟨d4, t4, v4, n4, e4, f4, g4, l4⟩ := strs_s g3 l3
  obtain ⟨e5, f5⟩ := strs_0 g4 l4
  exact ⟨d0, d1, d2, d3, d4, t0, t1, t2, t3, t4, by rw [e0, e1, e2, e3, e4, e5], by rw [f0, f1, f2, f3, f4, f5]⟩
theorem drawn_len (ns : List Int) : (drawnOf ns).length = 6 := by
  unfold drawnOf
  match ns with
  | [] => rfl
  | [_] => rfl
  | [_, _] => rfl
  | [_, _, _] => rfl
  | [_, _, _, _] => rfl
  | [_, _, _, _, _] => rfl
  | _ :: _ :: _ :: _ :: _ :: _ :: _ => rfl
theorem drawn_mem {ns : List Int} {d : Int} (h : d ∈ drawnOf ns) : 0 ≤ d ∧ d < 10 ^ 9 := by
  unfold drawnOf at h
  rcases List.mem_append.mp h with h | h
  · obtain ⟨a, _, rfl⟩ := List.mem_map.mp h
    exact ⟨fmod_lo _ (by decide), fmod_hi _ (by decide)⟩
  · have := List.mem_of_mem_drop h
    simp only [List.mem_cons, List.not_mem_nil, or_false] at this
    rcases this with rfl | rfl | rfl | rfl | rfl | rfl <;> decide
theorem lengths_len (D : List Int) : (lengthsF D).length = 4 := by
  unfold lengthsF
  rw [List.length_set, List.length_map]
  exact rangeKs_length _ _
theorem rows_len (D : List Int) : ∀ j, (rowsF D j).length = j + 1
  | 0 => rfl
  | j + 1 => by rw [rowsF, List.length_append, rows_len D j]; rfl
theorem ne_news {h₀ h : Heap} {L a b : Addr} {o' : Obj} {news : Led} {v : Option Value} {xs : Array Value} {n : Nat} (N : News h₀ L h news) (ha : (a, listOf xs n) ∈ news) (hb : (b, o') ∈ news) (hd : o'.data = .cell v) : a ≠ b := fun e => by
  have h1 := (N _ ha).1
  have h2 := (N _ hb).1
  rw [e] at h1
  have h3 := h1.symm.trans h2
  have h4 : listOf xs n = o' := Option.some.inj h3
  rw [← h4] at hd
  cases hd
end Mine
end
section
namespace Mine
noncomputable def sendN (D : List Int) : Nat := (1 + ((D.getD 4 0).fdiv 8).fmod 2).toNat
noncomputable def rowStepT (D : List Int) (k : Int) (ss : List Str) : Str :=
  if k = (D.getD 4 0).fmod 4 then Txt.mul (Str.ofString ".") (1 + ((D.getD 4 0).fdiv 4).fmod 2 + (sendN D : Int)) ++ ss.getD ((D.getD k.toNat 0).fmod (k + 1)).toNat Str.empty
  else Txt.replace (ss.getD ((D.getD k.toNat 0).fmod (k + 1)).toNat Str.empty) (Txt.item (Str.ofString "abcd") k)
    (Txt.item (if ((D.getD k.toNat 0).fdiv (k + 1)).fmod 2 = 1 then Str.ofString "pqrs" else Str.ofString "ABCD") k)
noncomputable def rowsT (D : List Int) : Nat → List Str
  | 0 => [Txt.replace (Str.ofString "abcd") (Txt.item (Str.ofString "abcd") ((D.getD 4 0).fmod 4)) (Str.ofString "")]
  | j + 1 => rowsT D j ++ [rowStepT D (j : Int) (rowsT D j)]
theorem rowsT_len (D : List Int) : ∀ j, (rowsT D j).length = j + 1
  | 0 => rfl
  | j + 1 => by rw [rowsT, List.length_append, rowsT_len D j]; rfl
noncomputable def gridM (D : List Int) (x : Int) (a b : Nat) : Int := (if (if a = 0 then 1 else if a = 1 then 0 else a) = b then 0 else wayG D (lengthsF D) 8 ((max (if a = 0 then 1 else if a = 1 then 0 else a) b : Nat) : Int) ((min (if a = 0 then 1 else if a = 1 then 0 else a) b : Nat) : Int)) + x
structure Plain (D : List Int) : Prop where
  short : ∀ r ∈ rowsF D 4, r.length ≤ 10
  split : ∀ x : Str, lst x = itq (sendN D) (lst (mailF D (rowsF D 4) 4)) → Txt.split x (Str.ofString "\r\n") = rowsT D 4
  small : ∀ r ∈ rowsT D 4, r.length ≤ 40
  lens : ∀ l ∈ lengthsF D, 1 ≤ l ∧ l ≤ 8
  way : ∀ i j : Nat, j < i → i < 5 → levF costU (lst ((rowsT D 4).getD i Str.empty)) (lst ((rowsT D 4).getD j Str.empty)) (lengthsF D).sum = wayG D (lengthsF D) 8 (i : Int) (j : Int)
  piv : ∀ x l0 l1 l2 l3 : Int, 0 ≤ x → x < 10 ^ 9 → lengthsF D = [l0, l1, l2, l3] → ∃ M, PivH M ∧ M 0 = gridM D x ∧ pivs M 4 = dueF l0 l1 l2 l3 x
end Mine
end
section
namespace Mine
open PySem.Calls
open PyProof.Rows.LCg (NsObj ns_obj fr_but news_but lst_snoc)
noncomputable def Off4 (I C K D : Addr) (l : Led) : Prop := ∀ p ∈ l, p.1 ≠ I ∧ p.1 ≠ C ∧ p.1 ≠ K ∧ p.1 ≠ D
noncomputable def Apart4 (I C K D : Addr) : Prop := (@Ne Nat I C) ∧ (@Ne Nat I K) ∧ (@Ne Nat I D) ∧ (@Ne Nat C K) ∧ (@Ne Nat C D) ∧ (@Ne Nat K D)
noncomputable def EndC (h₀ : Heap) (L : Addr) (m : Str → Option Value) (s₁ : Shared) (I : Addr) (oI : Obj) (C : Addr) (oC : Obj) (K : Addr) (oK : Obj) (D : Addr) (oD : Obj) (S : Led → Prop) (rest : Value → Led → Prop) (y : Value) (s₂ : Shared) : Prop :=
  ∃ h' tk news', s₂ = { s₁ with heap := h', toks := tk } ∧ Fr h₀ L h' m ∧ News h₀ L h' ((I, oI) :: (C, oC) :: (K, oK) :: (D, oD) :: news') ∧ Off4 I C K D news' ∧ S news' ∧ rest y news'
noncomputable def RestC (prog : Program) (w : World) (A : Around) (h₀ : Heap) (L : Addr) (m : Str → Option Value) (env : Env) (elt : PySem.Expr) (x : Str) (scope : Scope) (cl : List (Str × Addr)) (s : Shared) (S : Led → Prop) (P : Nat → Value → Prop)
    (Fin : List Value → Led → Prop) : Nat → Nat → List Value → Led → Prop
  | 0, _, ys, news => Fin ys news
  | k + 1, i, ys, news => ∀ v I oI C oC K oK D h tk (E' : Value → Shared → Prop), P i v → oK.data = .cell (some v) → Fr h₀ L h m → News h₀ L h ((I, oI) :: (C, oC) :: (K, oK) :: (D, LCg.lst ys) :: news) → Off4 I C K D news → Apart4 I C K D →
      wpAny (model prog w) A (eval elt (compEnvC scope ((x, K) :: cl) C env)) (EndC h₀ L m { s with heap := h, toks := tk } I oI C oC K oK D (LCg.lst ys) S (fun y news' => RestC prog w A h₀ L m env elt x scope cl s S P Fin k (i + 1) (ys ++ [y]) news')) E' { s with heap := h, toks := tk }
section
variable {prog : Program} {w : World} {A : Around} {E : Value → Shared → Prop} {s : Shared} {h₀ : Heap} {L : Addr} {m : Str → Option Value} {env : Env}
theorem newEnvC_W {M : Model} {scope : Scope} {cl : List (Str × Addr)} {x : Str} {globals : Addr} {qual : Str} {Q : Env → Shared → Prop} (hc : ∀ n, cellsFrom n scope.names cl = (x, n) :: cl) (hp : ∀ h, pushCells h scope.names = h.push { cls := .type "cell", data := .cell none })
    (hQ : Q (newEnv scope s.heap.objs.size globals ((x, s.heap.objs.size + 1) :: cl) qual none .none (some env) builtinsNs) { s with heap := (s.heap.push { cls := .type "dict", data := .dict #[] }).push { cls := .type "cell", data := .cell none } }) :
    wpAny M A (newFunctionEnv scope globals cl [] qual none .none (some env)) Q E s := by
  simp only [newFunctionEnv, Option.isSome_some, if_true]
  refine wpAny_bind (wpAny_alloc ?_)
  refine wpAny_bind (wpAny_layCells _ (fun name kind cells => by cases hkc : kind == NameKind.cell <;> simp [hkc]) _ _ _ _ ?_)
  rw [hc, hp, show ({ s with heap := s.heap.push { cls := .type "dict", data := .dict #[] } } : Shared).heap.objs.size = s.heap.objs.size + 1 from Heap.size_push ..]
  refine wpAny_bind ?_
  rw [List.forIn_nil]
  exact wpAny_pure (wpAny_pure hQ)
theorem news_cons {h₀ h : Heap} {L a : Addr} {o : Obj} {l : Led} (h1 : h.get? a = some o) (h2 : a ≠ L) (h3 : h₀.get? a = none) (N : News h₀ L h l) : News h₀ L h ((a, o) :: l) := fun p hp => by
  cases hp with
  | head => exact ⟨h1, h2, h3⟩
  | tail _ hp => exact N p hp
inductive InvU (h₀ : Heap) (L : Addr) (m : Str → Option Value) (s₂ : Shared) (I C K D : Addr) (n : Nat) (St : Nat → Heap → Prop) (S : Led → Prop) (R : Nat → Nat → List Value → Led → Prop) (k : Nat) (s' : Shared) : Prop
  | mk (h' : Heap) (tk : Tok) (i : Nat) (ys : List Value) (oC oK : Obj) (w₀ : Option Value) (m' : Str → Option Value) (news' : Led) (e : s' = { s₂ with heap := h', toks := tk }) (hi : i ≤ n) (hk : k = n + 1 - i) (hy : ys.length = i) (st : St i h') (F : Fr h₀ L h' m)
    (ns : NsObj oC m') (ok : oK.data = .cell w₀) (N : News h₀ L h' ((C, oC) :: (K, oK) :: (D, LCg.lst ys) :: news')) (off : Off4 I C K D news') (hS : S news') (r : R (n - i) i ys news') : InvU h₀ L m s₂ I C K D n St S R k s'
theorem block_UC {elt iter : PySem.Expr} {x : Str} {px : Pos} {scope : Scope} {cl : List (Str × Addr)} {pos : Pos} {s₂ : Shared} {I : Addr} {fp : List Addr} {n : Nat} {P : Nat → Value → Prop} {St : Nat → Heap → Prop} {S : Led → Prop} {news : Led}
    {Fin : List Value → Led → Prop} {RR : Value → Addr → Result → Shared → Prop}
    (W : Walks prog w A I fp [I] n P St) (hsz : n ≤ sizeLine) (hIo : ∀ i h, St i h → ∃ o, h.get? I = some o)
    (hSt : ∀ i h h' o nw, St i h → h.get? I = some o → h'.get? I = some o → (∀ b o, h₀.get? b = some o → h'.get? b = some o) → News h₀ L h' nw → S nw → St i h')
    (hc : ∀ n, cellsFrom n scope.names cl = (x, n) :: cl) (hp : ∀ h, pushCells h scope.names = h.push { cls := .type "cell", data := .cell none })
    (hkind : scope.kind = .function) (hx : ∀ C K, (compEnvC scope ((x, K) :: cl) C env).kindOf x = some .cell) (hst : St 0 s₂.heap) (hfp : ∀ b ∈ fp, b < s₂.heap.objs.size)
    (F : Fr h₀ L s₂.heap m) (N : News h₀ L s₂.heap news) (hIL : L ≠ I) (hI₀ : h₀.get? I = none) (off : ∀ p ∈ news, p.1 ≠ I) (hS : S news)
    (R : RestC prog w A h₀ L m env elt x scope cl s₂ S P Fin n 0 [] news)
    (hRR : ∀ D C h tk m' ys news', Fr h₀ L h m → News h₀ L h ((D, LCg.lst ys) :: news') → (∀ p ∈ news', p.1 ≠ D) → h.Ns C m' → h₀.get? C = none → h₀.get? D = none → C ≠ L → D ≠ L → C ≠ D → (∀ p ∈ news', p.1 ≠ C) → Fin ys news' → RR (.ref D) C (.ok .next) { s₂ with heap := h, toks := tk }) :
    wpAny (model prog w) A (newList []) (fun acc s₃ => wpAny (model prog w) A (newFunctionEnv scope env.globals cl [] env.qual none .none (some env)) (fun cenv s₄ =>
      codeAny (model prog w) A (.compStart (.ListComp elt [⟨.Name x px, iter, [], 0⟩] scope pos) 0 (.ref I) acc { cenv with scope := relabel scope env }) (RR acc cenv.locals) s₄) E s₃) E s₂ := by
  refine wpAny_newObj_type (newEnvC_W hc hp ?_)
  have eD : (s₂.heap.push { cls := .type "list", dict := none, data := .seq ([] : List Value).toArray }).objs.size = s₂.heap.objs.size + 1 := Heap.size_push ..
  dsimp only
  rw [eD]
  generalize hH1 : ((s₂.heap.push { cls := .type "list", dict := none, data := .seq ([] : List Value).toArray }).push { cls := .type "dict", data := .dict #[] }).push { cls := .type "cell", data := .cell none } = h₁
  have gD : h₁.get? s₂.heap.objs.size = some (LCg.lst []) := by
    rw [← hH1]; exact Heap.get?_push_of_some _ (Heap.get?_push_of_some _ (Heap.get?_push_size _ rfl))
  have gC : h₁.get? (s₂.heap.objs.size + 1) = some { cls := .type "dict", data := .dict #[] } := by
    rw [← hH1, ← eD]; exact Heap.get?_push_of_some _ (Heap.get?_push_size _ rfl)
  have gK : h₁.get? (s₂.heap.objs.size + 1 + 1) = some { cls := .type "cell", data := .cell none } := by
    have e2 : ((s₂.heap.push { cls := .type "list", dict := none, data := .seq ([] : List Value).toArray }).push { cls := .type "dict", data := .dict #[] }).objs.size = s₂.heap.objs.size + 1 + 1 := by rw [Heap.size_push, eD]
    rw [← hH1, ← e2]; exact Heap.get?_push_size _ rfl
  have old : ∀ b o, s₂.heap.get? b = some o → h₁.get? b = some o := fun b o e => by
    rw [← hH1]; exact Heap.get?_push_of_some _ (Heap.get?_push_of_some _ (Heap.get?_push_of_some _ e))
  have below : ∀ b, b < s₂.heap.objs.size → b ≠ s₂.heap.objs.size ∧ b ≠ s₂.heap.objs.size + 1 ∧ b ≠ s₂.heap.objs.size + 1 + 1 := fun b hb =>
    ⟨Nat.ne_of_lt hb, Nat.ne_of_lt (Nat.lt_succ_of_lt hb), Nat.ne_of_lt (Nat.lt_succ_of_lt (Nat.lt_succ_of_lt hb))⟩
  have hIf : I ∈ fp := W.sub I (List.mem_singleton.mpr rfl)
  have hIlt : I < s₂.heap.objs.size := hfp I hIf
  have hst₁ : St 0 h₁ := W.frame _ _ _ hst fun b _ o e => old b o e
  have fresh₀ : ∀ a, s₂.heap.objs.size ≤ a → h₀.get? a = none := fun a ha => by
    cases e : h₀.get? a with
    | none => rfl
    | some o' => exact absurd (Heap.lt_size (F.keep a o' e)) (Nat.not_lt.mpr ha)
  have hLlt : L < s₂.heap.objs.size := F.ns.lt
  generalize hD : s₂.heap.objs.size = D at *
  generalize hCe : D + 1 = C at *
  generalize hKe : C + 1 = K at *
  have hDC : D ≠ C := by rw [← hCe]; exact Nat.ne_of_lt (Nat.lt_succ_self _)
  have hCK : C ≠ K := by rw [← hKe]; exact Nat.ne_of_lt (Nat.lt_succ_self _)
  have hDK : D ≠ K := by rw [← hKe, ← hCe]; exact Nat.ne_of_lt (Nat.lt_succ_of_lt (Nat.lt_succ_self _))
  have hD₀ : h₀.get? D = none := fresh₀ _ (Nat.le_refl _)
  have hC₀ : h₀.get? C = none := fresh₀ _ (by rw [← hCe]; exact Nat.le_succ _)
  have hK₀ : h₀.get? K = none := fresh₀ _ (by rw [← hKe, ← hCe]; exact Nat.le_succ_of_le (Nat.le_succ _))
  obtain ⟨lD, lC, lK⟩ := below L hLlt
  obtain ⟨iD, iC, iK⟩ := below I hIlt
  have fD : ∀ b ∈ fp, b ≠ D ∧ b ≠ C ∧ b ≠ K := fun b hb => below b (hfp b hb)
  have apart : Apart4 I C K D := ⟨iC, iK, iD, hCK, Ne.symm hDC, Ne.symm hDK⟩
  have off₀ : Off4 I C K D news := fun p hp => ⟨off p hp, (below _ (hD ▸ Heap.lt_size (N p hp).1)).2.1, (below _ (hD ▸ Heap.lt_size (N p hp).1)).2.2, (below _ (hD ▸ Heap.lt_size (N p hp).1)).1⟩
  have loop : ∀ s₃ : Shared, s₃ = { s₂ with heap := h₁ } →
      codeAny (model prog w) A (.compLoop (.ListComp elt [⟨.Name x px, iter, [], 0⟩] scope pos) 0 (.ref I) (.ref D) (compEnvC scope ((x, K) :: cl) C env))
        (RR (.ref D) C) s₃ := by
    rintro s₃ rfl
    refine codeAny_compLoop_tests
      (InvU h₀ L m s₂ I C K D n St S (RestC prog w A h₀ L m env elt x scope cl s₂ S P Fin)) ?_ (n + 1)
      ⟨h₁, _, 0, [], { cls := .type "dict", data := .dict #[] }, { cls := .type "cell", data := .cell none }, none, fun _ => none, news, rfl, Nat.zero_le _, rfl, rfl, hst₁, F.keeps old, ⟨#[], 0, rfl, fun _ he => by simp at he, fun _ => rfl⟩, rfl, news_cons gC (Ne.symm lC) hC₀ (news_cons gK (Ne.symm lK) hK₀ (news_cons gD (Ne.symm lD) hD₀ fun p hp => ⟨old _ _ (N p hp).1, (N p hp).2⟩)), off₀, hS, R⟩
    · intro k s' hinv
      obtain ⟨h', tk, i, ys, oC, oK, w₀, m', news', rfl, hi, rfl, hyl, hst', F', hoC, hoK, N', off', hS', R'⟩ := hinv
      have nC := N' (C, oC) (.head _)
      have nK := N' (K, oK) (.tail _ (.head _))
      have nD := N' (D, LCg.lst ys) (.tail _ (.tail _ (.head _)))
      by_cases hlt : i < n
      · obtain ⟨j, hj⟩ : ∃ j, n - i = j + 1 := ⟨n - i - 1, (Nat.sub_add_cancel (Nat.sub_pos_of_lt hlt)).symm⟩
        rw [hj] at R'
        refine W.item i _ _ _ hlt hst' fun v h₂ tk₂ hPv hst₂ hk₂ => ?_
        have up : ∀ b o, b ≠ I → h'.get? b = some o → h₂.get? b = some o := fun b o hb e => hk₂ b o (fun q => hb (List.mem_singleton.mp q)) e
        refine wpAny_assign_Name (wpAny_storeName_cell (v₀ := w₀) (c := K) (by simp [compEnvC, relabel, hkind]) (hx C K) (by simp [compEnvC, List.lookup_cons]) ⟨oK, up _ _ (Ne.symm iK) nK.1, hoK⟩ (fun h₃ hn₃ hs₃ => ?_))
        refine wpAny_tests_nil ?_
        simp only [if_true]
        have hst₃ : St (i + 1) h₃ := W.frame _ _ _ hst₂ fun b hb o e => hs₃.extBut b o (fD b hb).2.2 e
        obtain ⟨oI, heI⟩ := hIo _ _ hst₃
        obtain ⟨oK3, heK, hdK⟩ := hn₃
        have F₃ : Fr h₀ L h₃ m := (fr_but F' hk₂ hIL hI₀).change hs₃ (Ne.symm lK) hK₀
        have N₃ : News h₀ L h₃ ((I, oI) :: (C, oC) :: (K, oK3) :: (D, LCg.lst ys) :: news') :=
          news_cons heI (Ne.symm hIL) hI₀ (news_cons (hs₃.extBut _ _ hCK (up _ _ (Ne.symm iC) nC.1)) (Ne.symm lC) hC₀ (news_cons heK (Ne.symm lK) hK₀ (news_cons (hs₃.extBut _ _ hDK (up _ _ (Ne.symm iD) nD.1)) (Ne.symm lD) hD₀ fun p hp =>
            have z := N' p (.tail _ (.tail _ (.tail _ hp)))
            ⟨hs₃.extBut _ _ (off' p hp).2.2.1 (up _ _ (off' p hp).1 z.1), z.2⟩)))
        refine wpAny_mono (R' v I oI C oC K oK3 D h₃ _ _ hPv hdK F₃ N₃ off' apart) (fun y s₄ h₄ => ?_) fun _ _ e => e
        obtain ⟨h₄, tk₄, news₄, rfl, F₄, N₄, off₄, hS₄, R₄⟩ := h₄
        have zI := (N₄ (I, oI) (.head _)).1
        have zC := (N₄ (C, oC) (.tail _ (.head _))).1
        have zK := (N₄ (K, oK3) (.tail _ (.tail _ (.head _)))).1
        have zD := (N₄ (D, LCg.lst ys) (.tail _ (.tail _ (.tail _ (.head _))))).1
        have N₄' : News h₀ L h₄ news₄ := fun p hp => N₄ p (.tail _ (.tail _ (.tail _ (.tail _ hp))))
        have hst₄ : St (i + 1) h₄ := hSt _ _ _ _ _ hst₃ heI zI F₄.keep N₄' hS₄
        refine append_at (hsz := by show ys.toArray.size ≤ sizeLine; rw [List.size_toArray, hyl]; exact Nat.le_trans hi hsz) zD fun h₅ hs₅ hD₅ => ?_
        refine ⟨n + 1 - (i + 1), Nat.sub_lt_sub_left (Nat.lt_succ_of_lt hlt) (Nat.lt_succ_self i), h₅, tk₄, i + 1, ys ++ [y], oC, oK3, some v, m', news₄, rfl, hlt, rfl, by rw [List.length_append, List.length_singleton, hyl], W.frame _ _ _ hst₄ fun b hb o e => hs₅.extBut b o (fD b hb).1 e, F₄.change hs₅ (Ne.symm lD) hD₀,
          hoC, hdK, news_cons (hs₅.extBut _ _ (Ne.symm hDC) zC) (Ne.symm lC) hC₀ (news_cons (hs₅.extBut _ _ (Ne.symm hDK) zK) (Ne.symm lK) hK₀ (news_cons (hD₅.trans (congrArg some (lst_snoc ys y))) (Ne.symm lD) hD₀ fun p hp => ⟨hs₅.extBut _ _ (off₄ p hp).2.2.2 (N₄' p hp).1, (N₄' p hp).2⟩)), off₄, hS₄, ?_⟩
        rw [← Nat.sub_sub, hj]
        exact R₄
      · obtain rfl : i = n := Nat.le_antisymm hi (Nat.not_lt.mp hlt)
        rw [Nat.sub_self] at R'
        refine W.done _ _ _ hst' fun h₂ tk₂ hk₂ => ?_
        have up : ∀ b o, b ≠ I → h'.get? b = some o → h₂.get? b = some o := fun b o hb e => hk₂ b o (fun q => hb (List.mem_singleton.mp q)) e
        refine hRR D C h₂ tk₂ m' ys news' (fr_but F' hk₂ hIL hI₀) (news_cons (up _ _ (Ne.symm iD) nD.1) nD.2.1 nD.2.2 fun p hp => have z := N' p (.tail _ (.tail _ (.tail _ hp))); ⟨up _ _ (off' p hp).1 z.1, z.2⟩) (fun p hp => (off' p hp).2.2.2) (hoC.ns (up _ _ (Ne.symm iC) nC.1)) hC₀ hD₀ (Ne.symm lC) (Ne.symm lD) (Ne.symm hDC) (fun p hp => (off' p hp).2.1) R'
  exact codeAny_compStart_list (loop _ rfl) (W.self 0 _ _ _ hst₁ (loop _ rfl))
noncomputable def FinC (h₀ : Heap) (L : Addr) (m : Str → Option Value) (s : Shared) (Q : Value → Shared → Prop) (ys : List Value) (news : Led) : Prop :=
  ∀ D h tk, Fr h₀ L h m → News h₀ L h ((D, LCg.lst ys) :: news) → (∀ p ∈ news, p.1 ≠ D) → Q (.ref D) { s with heap := h, toks := tk }
noncomputable def SrcC (prog : Program) (w : World) (A : Around) (h₀ : Heap) (L : Addr) (m : Str → Option Value) (env : Env) (elt : PySem.Expr) (x : Str) (scope : Scope) (cl : List (Str × Addr)) (Q : Value → Shared → Prop) (xv : Value) (s₁ : Shared) : Prop :=
  ∃ r a b t u v n news, xv = .ref r ∧ A.handled = none ∧ Fr h₀ L s₁.heap m ∧ News h₀ L s₁.heap news ∧ IsRange s₁.heap r a b 1 t u v ∧ Builtin.Range.small a b 1 = true ∧ Builtin.Range.rangeSize a b 1 = ((n : Nat) : Int) ∧ n ≤ sizeLine ∧
    ∀ g, RestC prog w A h₀ L m env elt x scope cl { s₁ with heap := g } (fun _ => True) (fun i v => ∃ t, v = .int (a + (i : Int)) t) (FinC h₀ L m { s₁ with heap := g } Q) n 0 [] news
theorem ListComp_RC {elt iter : PySem.Expr} {x : Str} {px : Pos} {scope : Scope} {cl : List (Str × Addr)} {pos : Pos} {Q : Value → Shared → Prop} (_F₀ : Fr h₀ L s.heap m)
    (hclos : closureFor scope env = pure cl) (hc : ∀ n, cellsFrom n scope.names cl = (x, n) :: cl) (hp : ∀ h, pushCells h scope.names = h.push { cls := .type "cell", data := .cell none }) (hkind : scope.kind = .function)
    (hnames : ∀ y ∈ scope.names, y.2 = .local → scope.names.lookup y.1 = some .local) (hx : ∀ C K, (compEnvC scope ((x, K) :: cl) C env).kindOf x = some .cell)
    (h : wpAny (model prog w) A (eval iter env) (SrcC prog w A h₀ L m env elt x scope cl Q) E s)
    (hs : ∀ x, foldedSetIterable iter env x = pure x := by intro _; rfl) :
    wpAny (model prog w) A (eval (.ListComp elt [⟨.Name x px, iter, [], 0⟩] scope pos) env) Q E s := by
  rw [eval_ListComp]
  refine wpAny_comprehension_free (use := none) rfl hs hclos hkind hnames (wpAny_mono h (fun xv s₁ h₁ => ?_) fun _ _ e => e)
  obtain ⟨r, a, b, t, u, v, n, news, rfl, hh, F, N, hr, hsm, hn, hsz, R⟩ := h₁
  refine wpAny_pyIter_range hr hsm ?_
  refine block_UC (LCg.range_walks hh a n) hsz (fun i h st => ⟨_, st⟩) LCg.range_st hc hp hkind hx (by show IsRangeIter _ _ _ _ _; rw [hn]; simpa using Heap.get?_push_size _ rfl) (fun b hb => ?_)
    (F.keeps fun _ _ e => Heap.get?_push_of_some _ e) (N.grown fun _ _ e => Heap.get?_push_of_some _ e) (Nat.ne_of_lt F.ns.lt) (next_is_new F) (fun p hp => Nat.ne_of_lt (Heap.lt_size (N p hp).1)) trivial (R _) ?_
  · rw [List.mem_singleton.mp hb]
    show s₁.heap.objs.size < (s₁.heap.push _).objs.size
    rw [Heap.size_push]; exact Nat.lt_succ_self _
  · intro D C h tk m' ys news' F' N' o1 hn hC₀ hD₀ hCL hDL hCD offC fin
    refine ⟨m', hn, fun h'' hs'' => fin D h'' tk (F'.change hs'' hCL hC₀) (fun p hp => ?_) o1⟩
    refine ⟨hs''.extBut _ _ ?_ (N' p hp).1, (N' p hp).2⟩
    rcases List.mem_cons.mp hp with rfl | hp
    · exact Ne.symm hCD
    · exact offC p hp
theorem len5_K {l : Addr} {a b c d e : Value} {n : Nat} {news : Led} {Q : Value → Shared → Prop} (N : News h₀ L s.heap news) (hm : (l, listOf [a, b, c, d, e].toArray n) ∈ news) (h : Q (.int 5 (s.toks + 1)) { s with toks := s.toks + 1 + 1 }) :
    wpAny (model prog w) A (call (.builtin "len") [.ref l]) Q E s := len_list (News.isList N hm) (by show (5 : Int) < 2 ^ 63; decide) h
theorem sum_K {l : Addr} {vs : List Value} {ns : List Int} {n : Nat} {news : Led} {Q : Value → Shared → Prop} (hi : IntsAre vs ns) (hh : A.handled = none) (F : Fr h₀ L s.heap m) (N : News h₀ L s.heap news) (hm : (l, listOf vs.toArray n) ∈ news)
    (h : ∀ h' tk t' r, r = ns.sum → Fr h₀ L h' m → News h₀ L h' news → Q (.int r t') { s with heap := h', toks := tk }) :
    wpAny (model prog w) A (call (.builtin "sum") [.ref l]) Q E s := sumK hh F N (News.isList N hm) hi fun h' tk t' F' N' => h h' tk t' _ rfl F' N'
end
end Mine
end
section
namespace Mine
open PySem.Calls
open PyProof.Rows.LCg (NsObj Off3 Off1)
noncomputable def EndI (h₀ : Heap) (L : Addr) (m : Str → Option Value) (s₁ : Shared) (led : Led) (x : Int) : Value → Shared → Prop := fun y s₂ => ∃ t' h' tk', y = .int x t' ∧ s₂ = { s₁ with heap := h', toks := tk' } ∧ Fr h₀ L h' m ∧ News h₀ L h' led
theorem EndI.mk {h₀ : Heap} {L : Addr} {m : Str → Option Value} {s₁ : Shared} {led led' : Led} {x x' : Int} {t : Tok} {h' : Heap} {tk' : Nat} (e : x' = x) (F : Fr h₀ L h' m) (N : News h₀ L h' led') (hs : ∀ p ∈ led, p ∈ led') :
    EndI h₀ L m s₁ led x (.int x' t) { s₁ with heap := h', toks := tk' } := ⟨t, h', tk', by rw [e], rfl, F, fun p hp => N p (hs p hp)⟩
noncomputable def EltI (prog : Program) (w : World) (A : Around) (h₀ : Heap) (L : Addr) (m : Str → Option Value) (env : Env) (elt : PySem.Expr) (x : Str) (scope : Scope) (cl : List (Str × Addr)) (news : Led) (g : Nat → Int) (n : Nat) (s₁ : Shared) : Prop :=
  ∀ (k : Nat) (t : Tok) (I : Addr) (oI : Obj) (C : Addr) (oC : Obj) (D : Addr) (m₂ : Str → Option Value) (h : Heap) (tk : Nat) (ys : List Value) (E' : Value → Shared → Prop), k < n → NsObj oC m₂ → m₂ x = some (.int (k : Int) t) → Fr h₀ L h m →
    News h₀ L h ((I, oI) :: (C, oC) :: (D, LCg.lst ys) :: news) → wpAny (model prog w) A (eval elt (compEnvC scope cl C env)) (EndI h₀ L m s₁ ((I, oI) :: (C, oC) :: (D, LCg.lst ys) :: news) (g k)) E' { s₁ with heap := h, toks := tk }
noncomputable def FinI (h₀ : Heap) (L : Addr) (m : Str → Option Value) (news : Led) (g : Nat → Int) (n : Nat) (Q : Value → Shared → Prop) (s₁ : Shared) : Prop :=
  ∀ D ys h tk, IntsAre ys ((List.range n).map g) → Fr h₀ L h m → News h₀ L h ((D, LCg.lst ys) :: news) → (∀ p ∈ news, p.1 ≠ D) → Q (.ref D) { s₁ with heap := h, toks := tk }
noncomputable def SrcI (prog : Program) (w : World) (A : Around) (h₀ : Heap) (L : Addr) (m : Str → Option Value) (env : Env) (elt : PySem.Expr) (x : Str) (scope : Scope) (cl : List (Str × Addr)) (Q : Value → Shared → Prop) (xv : Value) (s₁ : Shared) : Prop :=
  ∃ (r : Addr) (t u v : Tok) (n : Nat) (news : Led) (g : Nat → Int), xv = .ref r ∧ A.handled = none ∧ Fr h₀ L s₁.heap m ∧ News h₀ L s₁.heap news ∧ IsRange s₁.heap r 0 (n : Int) 1 t u v ∧ n ≤ 1000 ∧ EltI prog w A h₀ L m env elt x scope cl news g n s₁ ∧ FinI h₀ L m news g n Q s₁
theorem off1_mem {D : Addr} : ∀ {l : Led}, Off1 D l → ∀ p ∈ l, p.1 ≠ D
  | [], _, _, h => nomatch h
  | _ :: _, x, p, h => by
    rcases List.mem_cons.mp h with rfl | h
    · exact x.1
    · exact off1_mem x.2 p h
theorem off4_cons {I C K D D2 : Addr} {oI oC oK oD x : Obj} {news : Led} (o6 : ∀ p ∈ (I, oI) :: (C, oC) :: (K, oK) :: (D, oD) :: news, p.1 ≠ D2) (off : Off4 I C K D news) : Off4 I C K D ((D2, x) :: news) := fun p hp => by
  rcases List.mem_cons.mp hp with rfl | hp
  · exact ⟨fun e => o6 (I, oI) (.head _) e.symm, fun e => o6 (C, oC) (.tail _ (.head _)) e.symm, fun e => o6 (K, oK) (.tail _ (.tail _ (.head _))) e.symm, fun e => o6 (D, oD) (.tail _ (.tail _ (.tail _ (.head _)))) e.symm⟩
  · exact off p hp
theorem endC_mk {h₀ : Heap} {L I C K D D2 : Addr} {m : Str → Option Value} {s₁ : Shared} {oI oC oK oD x : Obj} {S : Led → Prop} {rest : Value → Led → Prop} {h : Heap} {tk : Nat} {news : Led} (F : Fr h₀ L h m)
    (N : News h₀ L h ((D2, x) :: (I, oI) :: (C, oC) :: (K, oK) :: (D, oD) :: news)) (o6 : ∀ p ∈ (I, oI) :: (C, oC) :: (K, oK) :: (D, oD) :: news, p.1 ≠ D2) (off : Off4 I C K D news) (hS : S ((D2, x) :: news)) (r : rest (.ref D2) ((D2, x) :: news)) :
    EndC h₀ L m s₁ I oI C oC K oK D oD S rest (.ref D2) { s₁ with heap := h, toks := tk } :=
  ⟨h, tk, _, rfl, F, fun p hp => N p (by
    simp only [List.mem_cons] at hp ⊢
    rcases hp with hp | hp | hp | hp | hp | hp <;> simp only [hp, true_or, or_true]), off4_cons o6 off, hS, r⟩
section
variable {prog : Program} {w : World} {A : Around} {E : Value → Shared → Prop} {s : Shared} {h₀ : Heap} {L : Addr} {m : Str → Option Value} {env : Env}
theorem rest_ints {elt : PySem.Expr} {x : Str} {scope : Scope} {cl : List (Str × Addr)} {news : Led} {g : Nat → Int} {n : Nat} {Q : Value → Shared → Prop} (hE : EltI prog w A h₀ L m env elt x scope cl news g n s) (hF : FinI h₀ L m news g n Q s) (gg : Heap) :
    ∀ (k i : Nat) (ys : List Value), i + k = n → IntsAre ys ((List.range i).map g) → Off3 0 0 0 [] →
      LCg.CompRest prog w A h₀ L m env elt x scope cl { s with heap := gg } (fun _ => True) (fun i v => ∃ t, v = .int (0 + (i : Int)) t) (LCg.FinE h₀ L m { s with heap := gg } Q) k i ys news
  | 0, i, ys, hi, hI, _ => by
    have e : i = n := by omega
    subst e
    exact LCg.CompRest.zero fun D h tk F N o => hF D ys h tk hI F N (off1_mem o)
  | k + 1, i, ys, hi, hI, _ => by
    refine LCg.CompRest.succ fun v I oI C oC D m₂ h tk E' hv hC hx F N off ap => ?_
    obtain ⟨t, rfl⟩ := hv
    rw [Int.zero_add] at hx
    refine wpAny_mono (hE i t I oI C oC D m₂ h tk ys E' (by omega) hC hx F N) (fun y s₂ h₂ => ?_) fun _ _ e => e
    obtain ⟨t', h', tk', rfl, rfl, F', N'⟩ := h₂
    refine ⟨h', tk', news, rfl, F', N', off, trivial, rest_ints hE hF gg k (i + 1) _ (by omega) ?_ trivial⟩
    rw [List.range_succ, List.map_append]
    exact hI.append (.cons _ _ .nil)
theorem ListComp_ints {elt iter : PySem.Expr} {x : Str} {px : Pos} {scope : Scope} {cl : List (Str × Addr)} {pos : Pos} {Q : Value → Shared → Prop} (F₀ : Fr h₀ L s.heap m)
    (hclos : closureFor scope env = pure cl) (hcell : ∀ y ∈ scope.names, y.2 ≠ .cell) (hkind : scope.kind = .function)
    (hnames : ∀ y ∈ scope.names, y.2 = .local → scope.names.lookup y.1 = some .local) (hx : scope.names.lookup x = some .local)
    (h : wpAny (model prog w) A (eval iter env) (SrcI prog w A h₀ L m env elt x scope cl Q) E s)
    (hs : ∀ x, foldedSetIterable iter env x = pure x := by intro _; rfl) :
    wpAny (model prog w) A (eval (.ListComp elt [⟨.Name x px, iter, [], 0⟩] scope pos) env) Q E s := by
  refine LCg.ListComp_U F₀ hclos hcell hkind hnames hx (wpAny_mono h (fun xv s₁ h₁ => ?_) fun _ _ e => e) hs
  obtain ⟨r, t, u, v, n, news, g, rfl, hh, F, N, hr, hn, hE, hF⟩ := h₁
  exact LCg.CompSrc.range hh F N hr (small_one (by omega) (by omega) (by omega) (by omega)) (by rw [rangeSize_nat]; omega) (by rw [sizeLine_eq]; omega) fun gg => rest_ints hE hF gg n 0 [] (by omega) .nil trivial
end
end Mine
end
section
namespace Mine
open PySem.Calls
open PyProof.Rows.LCg (NsObj ns_obj fr_but news_but lst_snoc)
noncomputable def TupAt (h₀ : Heap) (ax : Addr) (its : Array Value) (news : Led) : Prop := h₀.IsTuple ax its ∨ ∃ o, (ax, o) ∈ news ∧ o.cls = .type "tuple" ∧ ∃ n, o.data = .seq its n
theorem TupAt.tup {h₀ h : Heap} {L ax : Addr} {its : Array Value} {news : Led} (x : TupAt h₀ ax its news) (k : ∀ b o, h₀.get? b = some o → h.get? b = some o) (N : News h₀ L h news) : h.IsTuple ax its := by
  rcases x with ⟨o, e, r⟩ | ⟨o, hm, r⟩
  · exact ⟨o, k _ _ e, r⟩
  · exact ⟨o, (N _ hm).1, r⟩
theorem TupAt.cons {h₀ : Heap} {ax : Addr} {its : Array Value} {news : Led} {p : Addr × Obj} (x : TupAt h₀ ax its news) : TupAt h₀ ax its (p :: news) := by
  rcases x with x | ⟨o, hm, r⟩
  · exact .inl x
  · exact .inr ⟨o, .tail _ hm, r⟩
theorem tup_st {h₀ : Heap} {L ax I : Addr} {its : Array Value} : ∀ i (h h' : Heap) (o : Obj) (nw : Led), (h.IsTupleIter I ax i ∧ h.IsTuple ax its) → h.get? I = some o → h'.get? I = some o → (∀ b o, h₀.get? b = some o → h'.get? b = some o) → News h₀ L h' nw → TupAt h₀ ax its nw → (h'.IsTupleIter I ax i ∧ h'.IsTuple ax its) :=
  fun i h h' o nw st e e' k N S => ⟨by obtain ⟨o', q, r⟩ := st.1; rw [e] at q; cases q; exact ⟨o, e', r⟩, S.tup k N⟩
section
variable {prog : Program} {w : World} {A : Around} {E : Value → Shared → Prop} {s : Shared} {h₀ : Heap} {L : Addr} {m : Str → Option Value} {env : Env}
noncomputable def FinAC (h₀ : Heap) (L : Addr) (m : Str → Option Value) (s : Shared) (y : Str) (Q : Flow → Shared → Prop) (ys : List Value) (news : Led) : Prop :=
  ∀ D h tk, Fr h₀ L h (fun z => if z = y then some (.ref D) else m z) → News h₀ L h ((D, LCg.lst ys) :: news) → (∀ p ∈ news, p.1 ≠ D) → Q .next { s with heap := h, toks := tk }
noncomputable def SrcTA (prog : Program) (w : World) (A : Around) (h₀ : Heap) (L : Addr) (m : Str → Option Value) (env : Env) (elt : PySem.Expr) (x : Str) (scope : Scope) (cl : List (Str × Addr)) (y : Str) (Q : Flow → Shared → Prop) (xv : Value) (s₁ : Shared) : Prop :=
  ∃ ax its news, xv = .ref ax ∧ A.handled = none ∧ Fr h₀ L s₁.heap m ∧ News h₀ L s₁.heap news ∧ TupAt h₀ ax its news ∧ its.size ≤ sizeLine ∧
    ∀ g, RestC prog w A h₀ L m env elt x scope cl { s₁ with heap := g } (TupAt h₀ ax its) (fun i v => its[i]? = some v) (FinAC h₀ L m { s₁ with heap := g } y Q) its.size 0 [] news
theorem Assign_TC {elt iter : PySem.Expr} {x y : Str} {px py : Pos} {scope : Scope} {cl : List (Str × Addr)} {pos spos : Pos} {Q : Flow → Shared → Prop} (_F₀ : Fr h₀ L s.heap m) (hLe : env.locals = L)
    (hsw : swapsWith (.ListComp elt [⟨.Name x px, iter, [], 0⟩] scope pos) (some (.Name y py)) spos.line env = pure true)
    (hclos : closureFor scope env = pure cl) (hc : ∀ n, cellsFrom n scope.names cl = (x, n) :: cl) (hpc : ∀ h, pushCells h scope.names = h.push { cls := .type "cell", data := .cell none }) (hkind : scope.kind = .function)
    (hnames : ∀ z ∈ scope.names, z.2 = .local → scope.names.lookup z.1 = some .local) (hx : ∀ C K, (compEnvC scope ((x, K) :: cl) C env).kindOf x = some .cell)
    (hy : env.kindOf y = some .local) (hp : (env.scope.kind == .class || (env.scope.kind == .module && env.locals != env.globals)) = false)
    (h : wpAny (model prog w) A (eval iter env) (SrcTA prog w A h₀ L m env elt x scope cl y Q) E s)
    (hs : ∀ x, foldedSetIterable iter env x = pure x := by intro _; rfl) :
    wpAny (model prog w) A (exec (.Assign [.Name y py] (.ListComp elt [⟨.Name x px, iter, [], 0⟩] scope pos) spos) env) Q E s := by
  subst hLe
  rw [exec_Assign_Name_used _ _ _ _ hsw]
  refine wpAny_bind (wpAny_standAt (wpAny_bind ?_))
  show wpAny _ A (do let _ ← comprehension (.ListComp elt [⟨.Name x px, iter, [], 0⟩] scope pos) scope env _ (newList []) false (eval iter env) (some (assign (.Name y py) env))) _ _ s
  refine wpAny_bind (wpAny_mono (wpAny_comprehension_free (use := some (assign (.Name y py) env)) (Q := fun _ s' => Q .next s') rfl hs hclos hkind hnames
    (wpAny_mono h (fun xv s₁ h₁ => ?_) fun _ _ e => e)) (fun _ s' hq => wpAny_pure (wpAny_pure hq)) fun _ _ e => e)
  obtain ⟨ax, its, news, rfl, hh, F, N, S, hsz, R⟩ := h₁
  have hl := S.tup F.keep N
  have hlt : ax < s₁.heap.objs.size := by obtain ⟨_, e, _⟩ := hl; exact Heap.lt_size e
  refine wpAny_pyIter_tuple hl ?_
  have up : ∀ b o, s₁.heap.get? b = some o → (s₁.heap.push { cls := .type "tuple_iterator", data := .fields #[.ref ax, .int 0 0] }).get? b = some o := fun b o e => Heap.get?_push_of_some _ e
  refine block_UC (Walks.tuple hh s₁.heap.objs.size ax (Nat.ne_of_lt hlt) its) hsz (fun i h st => by obtain ⟨o, e, _⟩ := st.1; exact ⟨o, e⟩) tup_st hc hpc hkind hx ⟨⟨_, Heap.get?_push_size _ rfl, rfl, rfl⟩, hl.push _⟩ (fun b hb => ?_)
    (F.keeps up) (N.grown up) (Nat.ne_of_lt F.ns.lt) (next_is_new F) (fun p hp => Nat.ne_of_lt (Heap.lt_size (N p hp).1)) S (R _) ?_
  · show b < (s₁.heap.push _).objs.size
    rw [Heap.size_push]
    rcases List.mem_cons.mp hb with rfl | hb
    · exact Nat.lt_succ_self _
    · rw [List.mem_singleton.mp hb]; exact Nat.lt_succ_of_lt hlt
  · intro D C h' tk m' ys news' F' N' o1 hn hC₀ hD₀ hCL hDL hCD offC fin
    show wpAny _ A (assign (.Name y py) env (.ref D)) _ _ _
    refine wpAny_assign_Name (wpAny_storeName_local hy F'.ns (fun h₂ hn₂ hs₂ => ?_) hp)
    have hL₀ : h₀.get? env.locals = none := Heap.get?_none_of_le F'.above
    have F₂ : Fr h₀ env.locals h₂ (fun z => if z = y then some (.ref D) else m z) := ⟨hn₂, fun b o e => hs₂.extBut b o (fun q => by rw [q, hL₀] at e; cases e) (F'.keep b o e), F'.above⟩
    refine ⟨m', hn.sameBut hs₂ hCL, fun h'' hs'' => fin D h'' _ (F₂.change hs'' hCL hC₀) (fun p hp => ?_) o1⟩
    have z : h₂.get? p.1 = some p.2 := hs₂.extBut _ _ (N' p hp).2.1 (N' p hp).1
    refine ⟨hs''.extBut _ _ ?_ z, (N' p hp).2⟩
    rcases List.mem_cons.mp hp with rfl | hp
    · exact Ne.symm hCD
    · exact offC p hp
theorem news_prune {h : Heap} {t b1 b2 b3 b4 b5 b6 a1 a2 a3 a4 a5 a6 c1 c2 c3 : Addr × Obj} {rest : Led} (N : News h₀ L h (t :: b1 :: b2 :: b3 :: b4 :: b5 :: b6 :: a1 :: a2 :: a3 :: a4 :: a5 :: a6 :: c1 :: c2 :: c3 :: rest)) : News h₀ L h (t :: a1 :: a2 :: a3 :: a4 :: a5 :: a6 :: c3 :: rest) := fun p hp => N p (by
  simp only [List.mem_cons] at hp ⊢
  rcases hp with h | h | h | h | h | h | h | h | h <;> simp only [h, true_or, or_true])
theorem reads5 {news : Led} {D H0 H1 H2 H3 H4 : Addr} {y0 y1 y2 y3 y4 : List Value} {l0 l1 l2 l3 l4 : List Int} {n n0 n1 n2 n3 n4 : Nat} (N : News h₀ L s.heap news)
    (hD : (D, listOf [Value.ref H0, .ref H1, .ref H2, .ref H3, .ref H4].toArray n) ∈ news) (h0 : (H0, listOf y0.toArray n0) ∈ news) (h1 : (H1, listOf y1.toArray n1) ∈ news) (h2 : (H2, listOf y2.toArray n2) ∈ news) (h3 : (H3, listOf y3.toArray n3) ∈ news) (h4 : (H4, listOf y4.toArray n4) ∈ news)
    (i0 : IntsAre y0 l0) (i1 : IntsAre y1 l1) (i2 : IntsAre y2 l2) (i3 : IntsAre y3 l3) (i4 : IntsAre y4 l4) :
    ∃ as, Reads s.heap (.ref D) (.list [.list (l0.map PyData.int), .list (l1.map PyData.int), .list (l2.map PyData.int), .list (l3.map PyData.int), .list (l4.map PyData.int)]) as :=
  ⟨_, reads_list_at (News.get N hD) rfl rfl (.cons (reads_newData (News.isList N h0) (ke_carried i0)) (.cons (reads_newData (News.isList N h1) (ke_carried i1)) (.cons (reads_newData (News.isList N h2) (ke_carried i2)) (.cons (reads_newData (News.isList N h3) (ke_carried i3)) (.cons (reads_newData (News.isList N h4) (ke_carried i4)) .nil)))))⟩
theorem shaped5 (l0 l1 l2 l3 l4 : List Int) : SeqAt.shaped (.list [.list (l0.map PyData.int), .list (l1.map PyData.int), .list (l2.map PyData.int), .list (l3.map PyData.int), .list (l4.map PyData.int)]) = true := by
  simp [SeqAt.shaped, PyData.canLay0, PyData.canLayAll0, PyData.depth, PyData.depthAll, ke_canLayAll0, ke_depthAll]
theorem eqv5 (l0 l1 l2 l3 l4 : List Int) : (!PyData.eqv (.list [.list (l0.map PyData.int), .list (l1.map PyData.int), .list (l2.map PyData.int), .list (l3.map PyData.int), .list (l4.map PyData.int)]) (.list [.list (l0.map PyData.int), .list (l1.map PyData.int), .list (l2.map PyData.int), .list (l3.map PyData.int), .list (l4.map PyData.int)])) = false := by
  simp [PyData.eqv, PyData.eqvAll, ked_eqvAll]
theorem ne_same5 {news : Led} {l0 l1 l2 l3 l4 : List Int} {D W H0 H1 H2 H3 H4 W0 W1 W2 W3 W4 : Addr} {y0 y1 y2 y3 y4 x0 x1 x2 x3 x4 : List Value} {n n0 n1 n2 n3 n4 k k0 k1 k2 k3 k4 : Nat} {Q : Value → Shared → Prop} (N : News h₀ L s.heap news)
    (hD : (D, listOf [Value.ref H0, .ref H1, .ref H2, .ref H3, .ref H4].toArray n) ∈ news) (h0 : (H0, listOf y0.toArray n0) ∈ news) (h1 : (H1, listOf y1.toArray n1) ∈ news) (h2 : (H2, listOf y2.toArray n2) ∈ news) (h3 : (H3, listOf y3.toArray n3) ∈ news) (h4 : (H4, listOf y4.toArray n4) ∈ news)
    (hW : (W, listOf [Value.ref W0, .ref W1, .ref W2, .ref W3, .ref W4].toArray k) ∈ news) (w0 : (W0, listOf x0.toArray k0) ∈ news) (w1 : (W1, listOf x1.toArray k1) ∈ news) (w2 : (W2, listOf x2.toArray k2) ∈ news) (w3 : (W3, listOf x3.toArray k3) ∈ news) (w4 : (W4, listOf x4.toArray k4) ∈ news)
    (i0 : IntsAre y0 l0) (i1 : IntsAre y1 l1) (i2 : IntsAre y2 l2) (i3 : IntsAre y3 l3) (i4 : IntsAre y4 l4)
    (j0 : IntsAre x0 l0) (j1 : IntsAre x1 l1) (j2 : IntsAre x2 l2) (j3 : IntsAre x3 l3) (j4 : IntsAre x4 l4) (hu : A.units + 64 < cLine)
    (h : Q (.bool false) s) : wpAny (model prog w) A (compareOp .NotEq (.ref D) (.ref W)) Q E s := by
  obtain ⟨as, ra⟩ := reads5 N hD h0 h1 h2 h3 h4 i0 i1 i2 i3 i4
  obtain ⟨bs, rb⟩ := reads5 N hW w0 w1 w2 w3 w4 j0 j1 j2 j3 j4
  exact ne_dataH ra rb (shaped5 ..) (shaped5 ..) hu (by rw [eqv5]; exact h)
theorem half_K {news : Led} {value slice : PySem.Expr} {D H0 H1 H2 H3 H4 : Addr} {y0 y1 y2 y3 y4 : List Value} {n : Nat} {f : Nat → List Int} {k : Int} {u : Tok} {Q : Value → Shared → Prop} (N : News h₀ L s.heap news)
    (hD : (D, listOf [Value.ref H0, .ref H1, .ref H2, .ref H3, .ref H4].toArray n) ∈ news) (h0 : (H0, LCg.lst y0) ∈ news) (h1 : (H1, LCg.lst y1) ∈ news) (h2 : (H2, LCg.lst y2) ∈ news) (h3 : (H3, LCg.lst y3) ∈ news) (h4 : (H4, LCg.lst y4) ∈ news)
    (i0 : IntsAre y0 (f 0)) (i1 : IntsAre y1 (f 1)) (i2 : IntsAre y2 (f 2)) (i3 : IntsAre y3 (f 3)) (i4 : IntsAre y4 (f 4)) (hk : 0 ≤ k ∧ k < 5)
    (h : ∀ H y, (H, LCg.lst y) ∈ news → IntsAre y (f k.toNat) → Q (.ref H) s)
    (hs : subscripted slice false (.ref D) (.int k u) = operate [.ref D, .int k u] (getItem (.ref D) (.int k u))) (hg : ∀ r, letTemporaryGo value (.ref D) r = pure ()) :
    wpAny (model prog w) A (subscriptTail value slice (.ref D) (.int k u)) Q E s := by
  obtain ⟨j, rfl⟩ : ∃ j : Nat, k = (j : Int) := ⟨k.toNat, by omega⟩
  have hj : j < 5 := by omega
  have e : ((j : Int)).toNat = j := by simp
  rw [e] at h
  rcases five hj with rfl | rfl | rfl | rfl | rfl
  · exact item_K N hD (by omega) (by omega) rfl (h _ _ h0 i0) hs hg
  · exact item_K N hD (by omega) (by omega) rfl (h _ _ h1 i1) hs hg
  · exact item_K N hD (by omega) (by omega) rfl (h _ _ h2 i2) hs hg
  · exact item_K N hD (by omega) (by omega) rfl (h _ _ h3 i3) hs hg
  · exact item_K N hD (by omega) (by omega) rfl (h _ _ h4 i4) hs hg
theorem itemI_K {news : Led} {value slice : PySem.Expr} {l : Addr} {vs : List Value} {n : Nat} {g : Nat → Int} {nn : Nat} {k : Int} {u : Tok} {Q : Value → Shared → Prop} (N : News h₀ L s.heap news) (hm : (l, listOf vs.toArray n) ∈ news) (hw : IntsAre vs ((List.range nn).map g))
    (h0 : 0 ≤ k) (h1 : k < (nn : Int)) (hfit : k < 2 ^ 62) (h : ∀ y t', y = g k.toNat → Q (.int y t') s)
    (hs : subscripted slice false (.ref l) (.int k u) = operate [.ref l, .int k u] (getItem (.ref l) (.int k u))) :
    wpAny (model prog w) A (subscriptTail value slice (.ref l) (.int k u)) Q E s := by
  have hlt : k.toNat < nn := by omega
  have e : ((List.range nn).map g)[k.toNat]? = some (g k.toNat) := by
    rw [List.getElem?_map, List.getElem?_range hlt]; rfl
  obtain ⟨t, hx⟩ := hw.get k.toNat _ e
  refine kba_turn (value' := PySem.Expr.Name (PySem.Str.ofString "_") ⟨0, 0, 0, 0⟩) (fun _ => rfl) ?_
  exact item_list (News.isList N hm) h0 (by omega) (by simpa using hx) (h _ t rfl) hs (fun _ => rfl)
end
theorem wayG_sz {D L : List Int} (hL : ∀ z ∈ L, 0 ≤ z ∧ z ≤ 100) : ∀ (n : Nat) (i j : Int), 0 ≤ wayG D L n i j ∧ wayG D L n i j ≤ 100 * (n : Int)
  | 0, _, _ => by simp [wayG]
  | n + 1, i, j => by
    have h := wayG_sz (D := D) hL n (min i j) ((D.getD (max i j - 1).toNat 0).fmod (max i j - 1 + 1))
    have c : 0 ≤ L.getD (max i j - 1).toNat 0 ∧ L.getD (max i j - 1).toNat 0 ≤ 100 := by
      rw [List.getD_eq_getElem?_getD]
      cases e : L[(max i j - 1).toNat]? with
      | none => simp
      | some y => exact hL y (List.mem_of_getElem? e)
    simp only [wayG]
    split <;> omega
theorem sz_way {D L : List Int} (hL : ∀ z ∈ L, 0 ≤ z ∧ z ≤ 100) (i j : Int) {y : Int} (h : y = wayG D L 8 i j) : Sz y := by
  have a := wayG_sz (D := D) hL 8 i j
  rw [← h] at a
  unfold Sz
  have : y.natAbs ≤ 800 := by omega
  exact Nat.lt_of_le_of_lt this (by decide)
theorem sz_9 {x : Int} (h : 0 ≤ x ∧ x < 10 ^ 9) : Sz x := by
  unfold Sz
  have : x.natAbs ≤ 10 ^ 9 := by omega
  exact Nat.lt_of_le_of_lt this (by decide)
theorem gridM_ne {D L : List Int} {x : Int} {p k i : Nat} {a b yv : Int} (hp : (if p = 0 then 1 else if p = 1 then 0 else p) = i) (hL : lengthsF D = L) (hne : (i : Int) ≠ (k : Int)) (hy : yv = wayG D L 8 (a.toNat : Int) (b.toNat : Int)) (ha : a = max (i : Int) (k : Int)) (hb : b = min (i : Int) (k : Int)) : yv + x = gridM D x p k := by
  unfold gridM
  rw [hp, hL, if_neg (by omega), hy, show a.toNat = max i k by omega, show b.toNat = min i k by omega]
theorem gridM_eq {D : List Int} {x : Int} {p k i : Nat} (hp : (if p = 0 then 1 else if p = 1 then 0 else p) = i) (he : (i : Int) = (k : Int)) : 0 + x = gridM D x p k := by
  unfold gridM
  rw [hp, if_pos (by omega)]
theorem mx_b {z k : Int} (hz : 0 ≤ z ∧ z < 5) (hk : 0 ≤ k ∧ k < 5) : 0 ≤ (if k > z then k else z) ∧ (if k > z then k else z) < 5 := by split <;> omega
theorem mn_0 {z k : Int} (hz : 0 ≤ z ∧ z < 5) (hk : 0 ≤ k ∧ k < 5) : 0 ≤ (if k < z then k else z) := by split <;> omega
theorem mn_lt {z k : Int} (hz : 0 ≤ z ∧ z < 5) (hk : 0 ≤ k ∧ k < 5) (hne : z ≠ k) : (if k < z then k else z) < (((if k > z then k else z).toNat : Nat) : Int) := by split <;> split <;> omega
theorem mn_62 {z k : Int} (hz : 0 ≤ z ∧ z < 5) (hk : 0 ≤ k ∧ k < 5) : (if k < z then k else z) < 2 ^ 62 := by split <;> omega
theorem nk5 {k : Nat} (h : k < 5) : 0 ≤ (k : Int) ∧ (k : Int) < 5 := by omega
theorem nk4 {k n : Nat} (h : k < n) (hn : n ≤ 5) : 0 ≤ (k : Int) ∧ (k : Int) ≤ 4 := by omega
theorem post_true (args : List WData) : PySem.Challenge.rw_sw0012_01.row.claim.post args (.bool true) args = true := by
  refine postW_of (X := true) ?_ ?_ rfl
  · with_unfolding_all rfl
  · with_unfolding_all rfl
end Mine
end
section
namespace Mine
section
variable {φ : Nat → Nat} {S : Nat → Prop} {cost cost' : Nat → Nat → Int}
theorem cpl_map (hφ : ∀ a b, S a → S b → φ a = φ b → a = b) : ∀ X Y : List Nat, (∀ c ∈ X, S c) → (∀ c ∈ Y, S c) → cpl (X.map φ) (Y.map φ) = cpl X Y
  | [], _, _, _ => by simp [cpl]
  | _ :: _, [], _, _ => by simp [cpl]
  | a :: r, b :: t, hX, hY => by
    have ih := cpl_map hφ r t (fun c h => hX c (.tail _ h)) (fun c h => hY c (.tail _ h))
    simp only [List.map_cons, cpl, ih]
    by_cases e : a = b
    · rw [if_pos e, if_pos (by rw [e])]
    · rw [if_neg e, if_neg (fun q => e (hφ a b (hX a (.head _)) (hY b (.head _)) q))]
theorem map_inj (hφ : ∀ a b, S a → S b → φ a = φ b → a = b) : ∀ X Y : List Nat, (∀ c ∈ X, S c) → (∀ c ∈ Y, S c) → X.map φ = Y.map φ → X = Y
  | [], [], _, _, _ => rfl
  | [], _ :: _, _, _, h => by simp at h
  | _ :: _, [], _, _, h => by simp at h
  | a :: r, b :: t, hX, hY, h => by
    simp only [List.map_cons, List.cons.injEq] at h
    rw [hφ a b (hX a (.head _)) (hY b (.head _)) h.1, map_inj hφ r t (fun c h => hX c (.tail _ h)) (fun c h => hY c (.tail _ h)) h.2]
theorem getD_map {A : List Nat} {i : Nat} (h : i < A.length) : (A.map φ).getD i 0 = φ (A.getD i 0) := by
  simp [List.getD_eq_getElem?_getD, h]
theorem getD_S {A : List Nat} {i : Nat} (hA : ∀ c ∈ A, S c) (h : i < A.length) : S (A.getD i 0) := by
  rw [List.getD_eq_getElem?_getD, List.getElem?_eq_getElem h]
  exact hA _ (List.getElem_mem h)
theorem inF_map (hc : ∀ a b, S a → S b → cost (φ a) (φ b) = cost' a b) {b : Nat} {A : List Nat} (hb : S b) (hA : ∀ c ∈ A, S c) (st : DSt) : ∀ j, j ≤ A.length → inF cost (φ b) (A.map φ) st j = inF cost' b A st j
  | 0, _ => rfl
  | j + 1, hj => by
    rw [inF, inF, inF_map hc hb hA st j (by omega)]
    unfold inS
    rw [getD_map (by omega), hc b _ hb (getD_S hA (by omega))]
theorem goF_map (hc : ∀ a b, S a → S b → cost (φ a) (φ b) = cost' a b) {A B : List Nat} (hA : ∀ c ∈ A, S c) (hB : ∀ c ∈ B, S c) {mc : Int} : ∀ (n k : Nat) (row : List Int) (res : Int), n + k ≤ B.length → goF cost (A.map φ) (B.map φ) mc n k row res = goF cost' A B mc n k row res
  | 0, _, _, _, _ => rfl
  | n + 1, k, row, res, h => by
    rw [goF, goF, getD_map (by omega), List.length_map, inF_map hc (getD_S hB (by omega)) hA _ _ (Nat.le_refl _), goF_map hc hA hB n (k + 1) _ _ (by omega)]
theorem levD_map (hc : ∀ a b, S a → S b → cost (φ a) (φ b) = cost' a b) {A B : List Nat} (hA : ∀ c ∈ A, S c) (hB : ∀ c ∈ B, S c) {mc : Int} : levD cost (A.map φ) (B.map φ) mc = levD cost' A B mc := by
  unfold levD
  rw [List.length_map, List.length_map, goF_map hc hA hB _ _ _ _ (by omega)]
theorem levT_map (hc : ∀ a b, S a → S b → cost (φ a) (φ b) = cost' a b) {A B : List Nat} (hA : ∀ c ∈ A, S c) (hB : ∀ c ∈ B, S c) {mc : Int} : levT cost (A.map φ) (B.map φ) mc = levT cost' A B mc := by
  unfold levT
  rw [List.length_map, List.length_map, levD_map hc hA hB, levD_map hc hB hA]
theorem levF_map (hφ : ∀ a b, S a → S b → φ a = φ b → a = b) (hc : ∀ a b, S a → S b → cost (φ a) (φ b) = cost' a b) {X Y : List Nat} (hX : ∀ c ∈ X, S c) (hY : ∀ c ∈ Y, S c) {mc : Int} : levF cost (X.map φ) (Y.map φ) mc = levF cost' X Y mc := by
  unfold levF
  have hX' : ∀ n, ∀ c ∈ X.drop n, S c := fun n c h => hX c (List.mem_of_mem_drop h)
  have hY' : ∀ n, ∀ c ∈ Y.drop n, S c := fun n c h => hY c (List.mem_of_mem_drop h)
  have e1 := cpl_map hφ X Y hX hY
  have e2 := cpl_map hφ (X.drop (cpl X Y)).reverse (Y.drop (cpl X Y)).reverse (fun c h => hX' _ c (List.mem_reverse.mp h)) (fun c h => hY' _ c (List.mem_reverse.mp h))
  rw [e1, ← List.map_drop, ← List.map_drop, ← List.map_reverse, ← List.map_reverse, e2, List.length_map, List.length_map, ← List.map_take, ← List.map_take,
    levT_map hc (fun c h => hX' _ c (List.mem_of_mem_take h)) (fun c h => hY' _ c (List.mem_of_mem_take h))]
  by_cases e : X = Y
  · rw [if_pos e, if_pos (by rw [e])]
  · rw [if_neg e, if_neg (fun q => e (map_inj hφ X Y hX hY q))]
end
theorem goF_mono {cost : Nat → Nat → Int} {A B : List Nat} {m0 m : Int} (hm : m0 ≤ m) : ∀ (n k : Nat) (row : List Int) (res : Int), goF cost A B m0 n k row res ≤ m0 → goF cost A B m n k row res = goF cost A B m0 n k row res
  | 0, _, _, _, _ => rfl
  | n + 1, k, row, res, h => by
    rw [goF] at h
    rw [goF, goF]
    by_cases q : (inF cost (B.getD k 0) A ((k : Int) * 2, (k : Int) * 2, 9223372036854775807, row) A.length).2.2.1 > m0
    · rw [if_pos q] at h; omega
    · rw [if_neg q] at h
      rw [if_neg q, if_neg (by omega)]
      exact goF_mono hm n (k + 1) _ _ h
theorem levD_mono {cost : Nat → Nat → Int} {A B : List Nat} {m0 m : Int} (hm : m0 ≤ m) (h : levD cost A B m0 ≤ m0) : levD cost A B m = levD cost A B m0 := by
  unfold levD at h ⊢
  by_cases q : ((B.length : Int) - A.length) * 2 > m0
  · rw [if_pos q] at h; omega
  · rw [if_neg q] at h
    rw [if_neg q, if_neg (by omega)]
    exact goF_mono hm _ _ _ _ h
theorem levT_mono {cost : Nat → Nat → Int} {A B : List Nat} {m0 m : Int} (hm : m0 ≤ m) (h : levT cost A B m0 ≤ m0) : levT cost A B m = levT cost A B m0 := by
  unfold levT at h ⊢
  split
  · rfl
  · rename_i q
    rw [if_neg q] at h
    split
    · rename_i q2
      rw [if_pos q2] at h
      exact levD_mono hm h
    · rename_i q2
      rw [if_neg q2] at h
      exact levD_mono hm h
theorem levF_mono {cost : Nat → Nat → Int} {X Y : List Nat} {m0 m : Int} (hm : m0 ≤ m) (h : levF cost X Y m0 ≤ m0) : levF cost X Y m = levF cost X Y m0 := by
  unfold levF at h ⊢
  split
  · rfl
  · rename_i q
    rw [if_neg q] at h
    exact levT_mono hm h
noncomputable def cT (a b : Nat) : Int := if a = b then 0 else if a / 3 = b / 3 ∧ a % 3 ≤ 1 ∧ b % 3 ≤ 1 then 1 else 2
noncomputable def pairsP : List (Nat × Nat) := [(0, 0), (0, 1), (1, 0), (1, 1), (0, 2), (2, 0), (2, 2)]
noncomputable def dotP : List (Nat × Nat) := [(0, 0), (2, 0), (3, 0), (4, 0), (0, 2), (0, 3), (0, 4), (2, 2), (3, 3), (4, 4)]
noncomputable def wS (a b c p : Nat × Nat) : Int := (((a.1 - a.2 + (a.2 - a.1)) + (b.1 - b.2 + (b.2 - b.1)) + (c.1 - c.2 + (c.2 - c.1)) + 2 * (p.1 - p.2 + (p.2 - p.1)) : Nat) : Int)
noncomputable def wordC (n a b c : Nat) : List Nat := List.replicate n 1 ++ [3 + a, 6 + b, 9 + c]
noncomputable def cc (p : Nat × Nat) : Nat := p.1 - p.2 + (p.2 - p.1)
noncomputable def sw (u s : Nat) : Nat := if s = 0 then u else if s = u then 0 else s
noncomputable def S7 (a b c : Nat × Nat) : List Nat := [1, 3, 3 + cc a, 6, 6 + cc b, 9, 9 + cc c]
noncomputable def psiT (a b c : Nat × Nat) (x : Nat) : Nat := [0, 1, 2, 3 + sw a.1 0, 3 + sw a.1 1, 3 + sw a.1 2, 6 + sw b.1 0, 6 + sw b.1 1, 6 + sw b.1 2, 9 + sw c.1 0, 9 + sw c.1 1, 9 + sw c.1 2].getD x 0
noncomputable def permOk (a b c : Nat × Nat) : Bool := decide (psiT a b c (3 + cc a) = 3 + a.2 ∧ psiT a b c (6 + cc b) = 6 + b.2 ∧ psiT a b c (9 + cc c) = 9 + c.2) &&
  (S7 a b c).all fun x => (S7 a b c).all fun y => (Nat.beq x y || !Nat.beq (psiT a b c x) (psiT a b c y)) && decide (cT (psiT a b c x) (psiT a b c y) = cT x y)
theorem perm_ok : ∀ a ∈ pairsP, ∀ b ∈ pairsP, ∀ c ∈ pairsP, permOk a b c = true := by decide +kernel
theorem cc_lt : ∀ p ∈ pairsP, cc p < 3 := by decide +kernel
theorem word_S7 {a b c : Nat × Nat} {k s t r : Nat} (hs : s = 0 ∨ s = cc a) (ht : t = 0 ∨ t = cc b) (hr : r = 0 ∨ r = cc c) : ∀ x ∈ wordC k s t r, x ∈ S7 a b c := fun x hx => by
  unfold S7
  unfold wordC at hx
  rcases List.mem_append.mp hx with h | h
  · rw [(List.mem_replicate.mp h).2]; exact .head _
  · simp only [List.mem_cons, List.not_mem_nil, or_false] at h ⊢
    rcases h with rfl | rfl | rfl
    · rcases hs with rfl | rfl
      · exact .inr (.inl rfl)
      · exact .inr (.inr (.inl rfl))
    · rcases ht with rfl | rfl
      · exact .inr (.inr (.inr (.inl rfl)))
      · exact .inr (.inr (.inr (.inr (.inl rfl))))
    · rcases hr with rfl | rfl
      · exact .inr (.inr (.inr (.inr (.inr (.inl rfl)))))
      · exact .inr (.inr (.inr (.inr (.inr (.inr rfl)))))
theorem lev_canon {a b c : Nat × Nat} (ha : a ∈ pairsP) (hb : b ∈ pairsP) (hc : c ∈ pairsP) (n m : Nat) (M : Int) :
    levF cT (wordC n a.1 b.1 c.1) (wordC m a.2 b.2 c.2) M = levF cT (wordC n 0 0 0) (wordC m (cc a) (cc b) (cc c)) M := by
  have h := perm_ok a ha b hb c hc
  unfold permOk at h
  obtain ⟨h1, h2⟩ := Bool.and_eq_true_iff.mp h
  obtain ⟨q1, q2, q3⟩ := of_decide_eq_true h1
  have h3 := fun x hx y hy => Bool.and_eq_true_iff.mp (List.all_eq_true.mp (List.all_eq_true.mp h2 x hx) y hy)
  have e1 : (wordC n 0 0 0).map (psiT a b c) = wordC n a.1 b.1 c.1 := by
    unfold wordC
    rw [List.map_append, List.map_replicate]; rfl
  have e2 : (wordC m (cc a) (cc b) (cc c)).map (psiT a b c) = wordC m a.2 b.2 c.2 := by
    unfold wordC
    rw [List.map_append, List.map_replicate]
    simp only [List.map_cons, List.map_nil]
    rw [q1, q2, q3]; rfl
  rw [← e1, ← e2]
  refine levF_map (S := fun x => x ∈ S7 a b c) (fun x y hx hy e => ?_) (fun x y hx hy => of_decide_eq_true (h3 x hx y hy).2) (word_S7 (.inl rfl) (.inl rfl) (.inl rfl)) (word_S7 (.inr rfl) (.inr rfl) (.inr rfl))
  have h4 := (h3 x hx y hy).1
  rw [Bool.or_eq_true] at h4
  rcases h4 with h4 | h4
  · exact Nat.eq_of_beq_eq_true h4
  · rw [e, Nat.beq_refl] at h4
    exact absurd h4 (by decide)
theorem levF_cons {cost : Nat → Nat → Int} {d : Nat} {X Y : List Nat} {M : Int} : levF cost (d :: X) (d :: Y) M = levF cost X Y M := by
  unfold levF
  have e : cpl (d :: X) (d :: Y) = cpl X Y + 1 := by rw [cpl, if_pos rfl]
  rw [e, List.drop_succ_cons, List.drop_succ_cons]
  by_cases h : X = Y
  · rw [if_pos h, if_pos (by rw [h])]
  · rw [if_neg h, if_neg (fun q => h (List.cons.inj q).2)]
theorem levF_dots {a b c a' b' c' : Nat} {M : Int} : ∀ n, levF cT (wordC n a b c) (wordC n a' b' c') M = levF cT (wordC 0 a b c) (wordC 0 a' b' c') M
  | 0 => rfl
  | n + 1 => by
    rw [← levF_dots n]
    unfold wordC
    rw [List.replicate_succ, List.cons_append, List.cons_append, levF_cons]
noncomputable def dotR : List (Nat × Nat) := [(0, 0), (2, 0), (3, 0), (4, 0), (0, 2), (0, 3), (0, 4)]
noncomputable def wC (a b c : Nat) (p : Nat × Nat) : Int := ((a + b + c + 2 * (p.1 - p.2 + (p.2 - p.1)) : Nat) : Int)
noncomputable def tabC (a : Nat) : Bool := ([0, 1, 2] : List Nat).all fun b => ([0, 1, 2] : List Nat).all fun c => dotR.all fun p => decide (levF cT (wordC p.1 0 0 0) (wordC p.2 a b c) (wC a b c p) = wC a b c p)
theorem tab_0 : tabC 0 = true := by decide +kernel
theorem tab_1 : tabC 1 = true := by decide +kernel
theorem tab_2 : tabC 2 = true := by decide +kernel
theorem tab_lev0 {a b c : Nat} {p : Nat × Nat} (ha : a < 3) (hb : b < 3) (hc : c < 3) (hp : p ∈ dotR) : levF cT (wordC p.1 0 0 0) (wordC p.2 a b c) (wC a b c p) = wC a b c p := by
  have h : tabC a = true := by
    have : a = 0 ∨ a = 1 ∨ a = 2 := by omega
    rcases this with rfl | rfl | rfl
    · exact tab_0
    · exact tab_1
    · exact tab_2
  unfold tabC at h
  have hb' : b ∈ ([0, 1, 2] : List Nat) := by simp only [List.mem_cons, List.not_mem_nil, or_false]; omega
  have hc' : c ∈ ([0, 1, 2] : List Nat) := by simp only [List.mem_cons, List.not_mem_nil, or_false]; omega
  exact of_decide_eq_true (List.all_eq_true.mp (List.all_eq_true.mp (List.all_eq_true.mp h b hb') c hc') p hp)
theorem tab_lev {a b c p : Nat × Nat} (ha : a ∈ pairsP) (hb : b ∈ pairsP) (hc : c ∈ pairsP) (hp : p ∈ dotP) {m : Int} (hm : wS a b c p ≤ m) : levF cT (wordC p.1 a.1 b.1 c.1) (wordC p.2 a.2 b.2 c.2) m = wS a b c p := by
  have e : wS a b c p = wC (cc a) (cc b) (cc c) p := rfl
  have la := cc_lt a ha
  have lb := cc_lt b hb
  have lc := cc_lt c hc
  rw [lev_canon ha hb hc]
  rw [e] at hm ⊢
  have key : levF cT (wordC p.1 0 0 0) (wordC p.2 (cc a) (cc b) (cc c)) (wC (cc a) (cc b) (cc c) p) = wC (cc a) (cc b) (cc c) p := by
    have hp' : p ∈ dotR ∨ p.1 = p.2 := by
      simp only [dotP, List.mem_cons, List.not_mem_nil, or_false] at hp
      rcases hp with rfl | rfl | rfl | rfl | rfl | rfl | rfl | rfl | rfl | rfl <;> first | exact .inr rfl | exact .inl (by decide)
    rcases hp' with h | h
    · exact tab_lev0 la lb lc h
    · have h0 := tab_lev0 (p := (0, 0)) la lb lc (by decide)
      have e0 : wC (cc a) (cc b) (cc c) p = wC (cc a) (cc b) (cc c) (0, 0) := by
        unfold wC; rw [h, Nat.sub_self]; rfl
      rw [e0, h, levF_dots]
      exact h0
  rw [levF_mono hm (by rw [key]; exact Int.le_refl _), key]
end Mine
end
section
namespace Mine
noncomputable def chE (e s : Nat) : Nat := if s = 0 then 97 + e else if s = 1 then 65 + e else 112 + e
noncomputable def posE (q i : Nat) : Nat := if i < q then i else i + 1
noncomputable def letE (q : Nat) (u : List Nat) : List Nat := [chE (posE q 0) (u.getD (posE q 0) 0), chE (posE q 1) (u.getD (posE q 1) 0), chE (posE q 2) (u.getD (posE q 2) 0)]
noncomputable def ren (q n : Nat) (u : List Nat) : List Nat := List.replicate (if u.getD q 0 = 0 then 0 else n) 46 ++ letE q u
noncomputable def mkS (l : List Nat) : Str := ⟨l.toArray⟩
theorem lst_mkS (l : List Nat) : lst (mkS l) = l := rfl
theorem lst_app (x y : Str) : lst (x ++ y) = lst x ++ lst y := by
  unfold lst
  rw [Str.cps_append, Array.toList_append]
theorem str_ext {x y : Str} (h : lst x = lst y) : x = y := by
  cases x; cases y
  simp only [lst] at h
  congr 1
  exact Array.toList_inj.mp h
theorem join_map {c d : Nat} : ∀ parts : List Str, (∀ p ∈ parts, c ∉ p.cps.toList) → (Str.join ⟨#[c]⟩ parts).cps.toList.map (fun z => if z = c then d else z) = (Str.join ⟨#[d]⟩ parts).cps.toList
  | [], _ => rfl
  | [p], h => map_free (h p (List.mem_singleton.mpr rfl))
  | p :: q :: r, h => by
    have ih := join_map (d := d) (q :: r) fun a ha => h a (List.mem_cons_of_mem _ ha)
    show ((p ++ ⟨#[c]⟩ ++ Str.join ⟨#[c]⟩ (q :: r)).cps.toList).map _ = (p ++ ⟨#[d]⟩ ++ Str.join ⟨#[d]⟩ (q :: r)).cps.toList
    simp only [Str.cps_append, Array.toList_append, List.map_append]
    rw [ih, map_free (h p (List.mem_cons_self ..))]
    simp
where
  map_free {c d : Nat} {l : List Nat} (h : c ∉ l) : l.map (fun z => if z = c then d else z) = l := by
    have : l.map (fun z => if z = c then d else z) = l.map id := List.map_congr_left fun z hz => by
      rw [if_neg (fun e : z = c => h (e ▸ hz))]; rfl
    rw [this, List.map_id]
theorem replace_map (x : Str) (c d : Nat) : lst (Txt.replace x ⟨#[c]⟩ ⟨#[d]⟩) = (lst x).map fun z => if z = c then d else z := by
  unfold lst
  rw [StrLaws.replace_one]
  conv => rhs; rw [← StrLaws.join_split x ⟨#[c]⟩]
  exact (join_map _ (StrLaws.split_free x c)).symm
noncomputable def vecs : List (List Nat) := [0, 1, 2].flatMap fun a => [0, 1, 2].flatMap fun b => [0, 1, 2].flatMap fun c => [0, 1, 2].map fun d => [a, b, c, d]
theorem let_set : ∀ q : Fin 4, ∀ k : Fin 4, ∀ m : Fin 2, ∀ u ∈ vecs, q ≠ k → u.getD k.val 0 = 0 → (letE q.val u).map (fun z => if z = 97 + k.val then chE k.val (m.val + 1) else z) = letE q.val (u.set k.val (m.val + 1)) := by decide +kernel
theorem let_setq : ∀ q : Fin 4, ∀ m : Fin 2, ∀ u ∈ vecs, letE q.val u = letE q.val (u.set q.val (m.val + 1)) := by decide +kernel
theorem item_abcd : ∀ k : Fin 4, Txt.item (Str.ofString "abcd") ((k.val : Nat) : Int) = ⟨#[97 + k.val]⟩ := by decide +kernel
theorem item_sign : ∀ k : Fin 4, Txt.item (Str.ofString "pqrs") ((k.val : Nat) : Int) = ⟨#[chE k.val 2]⟩ ∧ Txt.item (Str.ofString "ABCD") ((k.val : Nat) : Int) = ⟨#[chE k.val 1]⟩ := by decide +kernel
theorem dots_mul : ∀ n : Fin 5, lst (Txt.mul (Str.ofString ".") ((n.val : Nat) : Int)) = List.replicate n.val 46 := by decide +kernel
theorem set_vecs : ∀ k : Fin 4, ∀ m : Fin 2, ∀ u ∈ vecs, u.set k.val (m.val + 1) ∈ vecs := by decide +kernel
theorem set_get : ∀ q : Fin 4, ∀ k : Fin 4, ∀ m : Fin 2, ∀ u ∈ vecs, (u.set k.val (m.val + 1)).getD q.val 0 = if q = k then m.val + 1 else u.getD q.val 0 := by decide +kernel
theorem ren_rep {q k m n : Nat} {u : List Nat} (hq : q < 4) (hk : k < 4) (hm : m < 2) (hu : u ∈ vecs) (hqk : q ≠ k) (h0 : u.getD k 0 = 0) :
    Txt.replace (mkS (ren q n u)) (Txt.item (Str.ofString "abcd") (k : Int)) (Txt.item (if m = 1 then Str.ofString "pqrs" else Str.ofString "ABCD") (k : Int)) = mkS (ren q n (u.set k (m + 1))) := by
  have e1 := item_abcd ⟨k, hk⟩
  have e2 := item_sign ⟨k, hk⟩
  have e3 := let_set ⟨q, hq⟩ ⟨k, hk⟩ ⟨m, hm⟩ u hu (by simpa using hqk) h0
  have e4 := set_get ⟨q, hq⟩ ⟨k, hk⟩ ⟨m, hm⟩ u hu
  rw [if_neg (by simpa using hqk)] at e4
  dsimp only at e1 e2 e3 e4
  have e5 : Txt.item (if m = 1 then Str.ofString "pqrs" else Str.ofString "ABCD") (k : Int) = ⟨#[chE k (m + 1)]⟩ := by
    have : m = 0 ∨ m = 1 := by omega
    rcases this with rfl | rfl
    · exact e2.2
    · exact e2.1
  apply str_ext
  rw [e1, e5, replace_map, lst_mkS, lst_mkS]
  unfold ren
  rw [List.map_append, e3, e4, List.map_replicate, if_neg (show ¬ (46 : Nat) = 97 + k by omega)]
theorem ren_dots {q m n : Nat} {u : List Nat} (hq : q < 4) (hm : m < 2) (hn : n < 5) (hu : u ∈ vecs) (h0 : u.getD q 0 = 0) :
    Txt.mul (Str.ofString ".") (n : Int) ++ mkS (ren q n u) = mkS (ren q n (u.set q (m + 1))) := by
  have e1 := dots_mul ⟨n, hn⟩
  have e3 := let_setq ⟨q, hq⟩ ⟨m, hm⟩ u hu
  have e4 := set_get ⟨q, hq⟩ ⟨q, hq⟩ ⟨m, hm⟩ u hu
  dsimp only at e1 e3 e4
  rw [if_pos rfl] at e4
  apply str_ext
  rw [lst_app, e1, lst_mkS, lst_mkS]
  unfold ren
  rw [h0, if_pos rfl, e4, if_neg (by omega), e3]
  rfl
end Mine
end
section
namespace Mine
noncomputable def parN (D : List Int) (j : Nat) : Nat := ((D.getD ((j : Int)).toNat 0).fmod ((j : Int) + 1)).toNat
noncomputable def bitI (D : List Int) (j : Nat) : Int := ((D.getD ((j : Int)).toNat 0).fdiv ((j : Int) + 1)).fmod 2
noncomputable def bitN (D : List Int) (j : Nat) : Nat := (bitI D j).toNat
noncomputable def qN (D : List Int) : Nat := ((D.getD 4 0).fmod 4).toNat
noncomputable def dotN (D : List Int) : Nat := (1 + ((D.getD 4 0).fdiv 4).fmod 2).toNat
theorem fm2 (a : Int) : a.fmod 2 = 0 ∨ a.fmod 2 = 1 := by
  have := fmod_lo a (n := 2) (by decide)
  have := fmod_hi a (n := 2) (by decide)
  omega
theorem par_lt (D : List Int) (j : Nat) : parN D j < j + 1 := by
  have h1 := fmod_lo (D.getD ((j : Int)).toNat 0) (n := (j : Int) + 1) (by omega)
  have h2 := fmod_hi (D.getD ((j : Int)).toNat 0) (n := (j : Int) + 1) (by omega)
  unfold parN; omega
theorem bit_eq (D : List Int) (j : Nat) : (bitN D j = 0 ∧ bitI D j = 0) ∨ (bitN D j = 1 ∧ bitI D j = 1) := by
  have : bitI D j = 0 ∨ bitI D j = 1 := fm2 _
  unfold bitN; omega
theorem bit_lt (D : List Int) (j : Nat) : bitN D j < 2 := by
  have := bit_eq D j; omega
theorem q_eq (D : List Int) : (D.getD 4 0).fmod 4 = (qN D : Int) ∧ qN D < 4 := by
  have h1 := fmod_lo (D.getD 4 0) (n := 4) (by decide)
  have h2 := fmod_hi (D.getD 4 0) (n := 4) (by decide)
  unfold qN; omega
theorem dot_eq (D : List Int) : 1 + ((D.getD 4 0).fdiv 4).fmod 2 = (dotN D : Int) ∧ (dotN D = 1 ∨ dotN D = 2) := by
  have := fm2 ((D.getD 4 0).fdiv 4)
  unfold dotN; omega
theorem send_eq (D : List Int) : 1 + ((D.getD 4 0).fdiv 8).fmod 2 = (sendN D : Int) ∧ (sendN D = 1 ∨ sendN D = 2) := by
  have := fm2 ((D.getD 4 0).fdiv 8)
  unfold sendN; omega
noncomputable def uRows (D : List Int) : Nat → List (List Nat)
  | 0 => [[0, 0, 0, 0]]
  | j + 1 => uRows D j ++ [((uRows D j).getD (parN D j) []).set j (bitN D j + 1)]
theorem uRows_len (D : List Int) : ∀ j, (uRows D j).length = j + 1
  | 0 => rfl
  | j + 1 => by rw [uRows, List.length_append, uRows_len D j]; rfl
theorem getD_app {α : Type} {l r : List α} {i : Nat} {d : α} (h : i < l.length) : (l ++ r).getD i d = l.getD i d := by
  rw [List.getD_eq_getElem?_getD, List.getD_eq_getElem?_getD, List.getElem?_append_left h]
theorem getD_last {α : Type} {l : List α} {x d : α} : (l ++ [x]).getD l.length d = x := by
  rw [List.getD_eq_getElem?_getD, List.getElem?_append_right (Nat.le_refl _), Nat.sub_self]; rfl
theorem uRows_ok (D : List Int) : ∀ j, j ≤ 4 → ∀ i, i < j + 1 → (uRows D j).getD i [] ∈ vecs ∧ ∀ e, i ≤ e → e < 4 → ((uRows D j).getD i []).getD e 0 = 0
  | 0, _, i, hi => by
    have e : i = 0 := by omega
    subst e
    refine ⟨show [0, 0, 0, 0] ∈ vecs by decide, fun e _ he => ?_⟩
    have : e = 0 ∨ e = 1 ∨ e = 2 ∨ e = 3 := by omega
    rcases this with rfl | rfl | rfl | rfl <;> rfl
  | j + 1, hj, i, hi => by
    rw [uRows]
    by_cases h : i < j + 1
    · rw [getD_app (by rw [uRows_len]; exact h)]
      exact uRows_ok D j (by omega) i h
    · have e : i = (uRows D j).length := by rw [uRows_len]; omega
      have hij : i = j + 1 := by omega
      obtain ⟨h1, h2⟩ := uRows_ok D j (by omega) (parN D j) (par_lt D j)
      have hb := bit_lt D j
      have s1 := set_vecs ⟨j, by omega⟩ ⟨bitN D j, hb⟩ _ h1
      rw [e, getD_last]
      refine ⟨s1, fun e' h3 h4 => ?_⟩
      have s2 := set_get ⟨e', h4⟩ ⟨j, by omega⟩ ⟨bitN D j, hb⟩ _ h1
      rw [if_neg (by simp only [Fin.mk.injEq]; omega)] at s2
      have := par_lt D j
      exact s2.trans (h2 e' (by omega) h4)
theorem stepU_ok {D : List Int} {j n : Nat} {z : Int} {ss : List Str} {u : List Nat} (hj : j < 4) (hz : z = (n : Int)) (hn : n < 5) (hs : ss.getD (parN D j) Str.empty = mkS (ren (qN D) n u)) (hu : u ∈ vecs) (h0 : u.getD j 0 = 0) :
    (if (j : Int) = (D.getD 4 0).fmod 4 then Txt.mul (Str.ofString ".") z ++ ss.getD (parN D j) Str.empty
      else Txt.replace (ss.getD (parN D j) Str.empty) (Txt.item (Str.ofString "abcd") (j : Int)) (Txt.item (if bitI D j = 1 then Str.ofString "pqrs" else Str.ofString "ABCD") (j : Int))) = mkS (ren (qN D) n (u.set j (bitN D j + 1))) := by
  obtain ⟨q1, q2⟩ := q_eq D
  rw [hs, hz, q1]
  by_cases h : j = qN D
  · rw [if_pos (by omega)]
    subst h
    exact ren_dots q2 (bit_lt D _) hn hu h0
  · rw [if_neg (by omega)]
    have := ren_rep (n := n) q2 hj (bit_lt D j) hu (Ne.symm h) h0
    rw [← this]
    rcases bit_eq D j with ⟨e1, e2⟩ | ⟨e1, e2⟩ <;> rw [e1, e2] <;> rfl
theorem row0 : ∀ q : Fin 4, Txt.replace (Str.ofString "abcd") (Txt.item (Str.ofString "abcd") ((q.val : Nat) : Int)) (Str.ofString "") = mkS (ren q.val 0 [0, 0, 0, 0]) := by decide +kernel
theorem ren_zero {q n : Nat} (hq : q < 4) : ren q n [0, 0, 0, 0] = ren q 0 [0, 0, 0, 0] := by
  have : q = 0 ∨ q = 1 ∨ q = 2 ∨ q = 3 := by omega
  rcases this with rfl | rfl | rfl | rfl <;> rfl
theorem getD_mapS {l : List (List Nat)} {g : List Nat → Str} {i : Nat} (h : i < l.length) : (l.map g).getD i Str.empty = g (l.getD i []) := by
  simp [List.getD_eq_getElem?_getD, h]
theorem rowsF_eq (D : List Int) : ∀ j, j ≤ 4 → rowsF D j = (uRows D j).map fun u => mkS (ren (qN D) (dotN D) u)
  | 0, _ => by
    have h := row0 ⟨qN D, (q_eq D).2⟩
    dsimp only at h
    rw [rowsF, (q_eq D).1, h, ← ren_zero (n := dotN D) (q_eq D).2]
    rfl
  | j + 1, hj => by
    have hp := par_lt D j
    obtain ⟨h1, h2⟩ := uRows_ok D j (by omega) (parN D j) hp
    have hd := dot_eq D
    rw [rowsF, uRows, List.map_append, rowsF_eq D j (by omega)]
    congr 1
    show [rowStep D (j : Int) _] = [mkS (ren (qN D) (dotN D) _)]
    exact congrArg (fun x => [x]) (stepU_ok (D := D) (by omega) hd.1 (by omega) (getD_mapS (g := fun u => mkS (ren (qN D) (dotN D) u)) (show parN D j < (uRows D j).length by rw [uRows_len]; exact hp)) h1 (h2 j (by omega) (by omega)))
theorem rowsT_eq (D : List Int) : ∀ j, j ≤ 4 → rowsT D j = (uRows D j).map fun u => mkS (ren (qN D) (dotN D + sendN D) u)
  | 0, _ => by
    have h := row0 ⟨qN D, (q_eq D).2⟩
    dsimp only at h
    rw [rowsT, (q_eq D).1, h, ← ren_zero (n := dotN D + sendN D) (q_eq D).2]
    rfl
  | j + 1, hj => by
    have hp := par_lt D j
    obtain ⟨h1, h2⟩ := uRows_ok D j (by omega) (parN D j) hp
    have hd := dot_eq D
    have hs := send_eq D
    rw [rowsT, uRows, List.map_append, rowsT_eq D j (by omega)]
    congr 1
    show [rowStepT D (j : Int) _] = [mkS (ren (qN D) (dotN D + sendN D) _)]
    exact congrArg (fun x => [x]) (stepU_ok (D := D) (z := 1 + ((D.getD 4 0).fdiv 4).fmod 2 + (sendN D : Int)) (n := dotN D + sendN D) (by omega) (by omega) (by omega) (getD_mapS (g := fun u => mkS (ren (qN D) (dotN D + sendN D) u)) (show parN D j < (uRows D j).length by rw [uRows_len]; exact hp)) h1 (h2 j (by omega) (by omega)))
theorem ren_len {q n : Nat} {u : List Nat} : (ren q n u).length ≤ n + 3 := by
  unfold ren letE
  rw [List.length_append, List.length_replicate]
  simp only [List.length_cons, List.length_nil]
  split <;> omega
theorem short_ok (D : List Int) : ∀ r ∈ rowsF D 4, r.length ≤ 10 := by
  rw [rowsF_eq D 4 (by omega)]
  intro r hr
  obtain ⟨u, _, rfl⟩ := List.mem_map.mp hr
  have := dot_eq D
  have h := ren_len (q := qN D) (n := dotN D) (u := u)
  rw [lst_len, lst_mkS]; omega
theorem small_ok (D : List Int) : ∀ r ∈ rowsT D 4, r.length ≤ 40 := by
  rw [rowsT_eq D 4 (by omega)]
  intro r hr
  obtain ⟨u, _, rfl⟩ := List.mem_map.mp hr
  have := dot_eq D
  have := send_eq D
  have h := ren_len (q := qN D) (n := dotN D + sendN D) (u := u)
  rw [lst_len, lst_mkS]; omega
noncomputable def lenE (D : List Int) (e : Nat) : Int := if e = qN D then 2 * ((dotN D + sendN D : Nat) : Int) else ((bitN D e + 1 : Nat) : Int)
theorem len_eq (D : List Int) : lengthsF D = [lenE D 0, lenE D 1, lenE D 2, lenE D 3] := by
  have hr : rangeKs 0 ((4 : Int) - 0).toNat = [0, 1, 2, 3] := by decide
  have hd := dot_eq D
  have hs := send_eq D
  have hq := q_eq D
  have hb : ∀ j : Nat, 1 + bitI D j = ((bitN D j + 1 : Nat) : Int) := fun j => by
    have := bit_eq D j
    omega
  have b0 : 1 + ((D.getD (0 : Int).toNat 0).fdiv (0 + 1)).fmod 2 = ((bitN D 0 + 1 : Nat) : Int) := hb 0
  have b1 : 1 + ((D.getD (1 : Int).toNat 0).fdiv (1 + 1)).fmod 2 = ((bitN D 1 + 1 : Nat) : Int) := hb 1
  have b2 : 1 + ((D.getD (2 : Int).toNat 0).fdiv (2 + 1)).fmod 2 = ((bitN D 2 + 1 : Nat) : Int) := hb 2
  have b3 : 1 + ((D.getD (3 : Int).toNat 0).fdiv (3 + 1)).fmod 2 = ((bitN D 3 + 1 : Nat) : Int) := hb 3
  unfold lengthsF
  rw [hr]
  simp only [List.map_cons, List.map_nil]
  rw [b0, b1, b2, b3, hd.1, hs.1, hq.1, show (2 * (dotN D : Int) + 2 * (sendN D : Int)) = 2 * ((dotN D + sendN D : Nat) : Int) by omega, Int.toNat_natCast]
  unfold lenE
  have : qN D = 0 ∨ qN D = 1 ∨ qN D = 2 ∨ qN D = 3 := by omega
  rcases this with e | e | e | e <;> rw [e] <;> rfl
theorem lenE_ok (D : List Int) (e : Nat) : 1 ≤ lenE D e ∧ lenE D e ≤ 8 := by
  have hd := dot_eq D
  have hs := send_eq D
  have hb := bit_lt D e
  unfold lenE
  split <;> omega
theorem lens_ok (D : List Int) : ∀ l ∈ lengthsF D, 1 ≤ l ∧ l ≤ 8 := by
  rw [len_eq]
  intro l hl
  simp only [List.mem_cons, List.not_mem_nil, or_false] at hl
  rcases hl with rfl | rfl | rfl | rfl <;> exact lenE_ok D _
end Mine
end
section
namespace Mine
noncomputable def U (D : List Int) (i : Nat) : List Nat := (uRows D 4).getD i []
theorem uRows_pre (D : List Int) {i j : Nat} (hi : i < j + 1) : ∀ d, (uRows D (j + d)).getD i [] = (uRows D j).getD i []
  | 0 => rfl
  | d + 1 => by
    rw [← Nat.add_assoc, uRows, getD_app (by rw [uRows_len]; omega), uRows_pre D hi d]
theorem U_pre (D : List Int) {i j : Nat} (hi : i < j + 1) (hj : j ≤ 4) : (uRows D j).getD i [] = U D i := by
  have := uRows_pre D hi (4 - j)
  rw [show j + (4 - j) = 4 by omega] at this
  exact this.symm
theorem U_zero (D : List Int) : U D 0 = [0, 0, 0, 0] := (U_pre D (j := 0) (by omega) (by omega)).symm
theorem U_succ (D : List Int) {j : Nat} (hj : j < 4) : U D (j + 1) = (U D (parN D j)).set j (bitN D j + 1) := by
  rw [← U_pre D (i := j + 1) (j := j + 1) (by omega) (by omega), ← U_pre D (par_lt D j) (by omega), uRows]
  have h := getD_last (l := uRows D j) (x := ((uRows D j).getD (parN D j) []).set j (bitN D j + 1)) (d := [])
  rw [uRows_len] at h
  exact h
theorem U_ok (D : List Int) {i : Nat} (hi : i ≤ 4) : U D i ∈ vecs ∧ ∀ e, i ≤ e → e < 4 → (U D i).getD e 0 = 0 := uRows_ok D 4 (by omega) i (by omega)
theorem U_bit (D : List Int) : ∀ i, i ≤ 4 → ∀ e, e < 4 → (U D i).getD e 0 = 0 ∨ (U D i).getD e 0 = bitN D e + 1 := fun i => by
  induction i using Nat.strongRecOn with
  | _ i ih =>
    intro hi e he
    cases i with
    | zero =>
      rw [U_zero]
      have : e = 0 ∨ e = 1 ∨ e = 2 ∨ e = 3 := by omega
      rcases this with rfl | rfl | rfl | rfl <;> exact Or.inl rfl
    | succ j =>
      have hp := par_lt D j
      have h1 := U_ok D (i := parN D j) (by omega)
      have s2 := set_get ⟨e, he⟩ ⟨j, by omega⟩ ⟨bitN D j, bit_lt D j⟩ _ h1.1
      dsimp only at s2
      rw [U_succ D (by omega), s2]
      by_cases h : e = j
      · subst h
        rw [if_pos rfl]; exact Or.inr rfl
      · rw [if_neg (by simpa using h)]
        exact ih (parN D j) (by omega) (by omega) e he
noncomputable def tE (L : List Int) (u v : List Nat) (e : Nat) : Int := if u.getD e 0 = v.getD e 0 then 0 else L.getD e 0
noncomputable def diff (L : List Int) (u v : List Nat) : Int := tE L u v 0 + tE L u v 1 + tE L u v 2 + tE L u v 3
theorem diff_self (L : List Int) (u : List Nat) : diff L u u = 0 := by simp [diff, tE]
theorem tE_comm (L : List Int) (u v : List Nat) (e : Nat) : tE L u v e = tE L v u e := by
  unfold tE
  by_cases h : u.getD e 0 = v.getD e 0
  · rw [if_pos h, if_pos h.symm]
  · rw [if_neg h, if_neg (fun q => h q.symm)]
theorem diff_comm (L : List Int) (u v : List Nat) : diff L u v = diff L v u := by
  unfold diff
  rw [tE_comm L u v 0, tE_comm L u v 1, tE_comm L u v 2, tE_comm L u v 3]
theorem tE_set {L : List Int} {u v : List Nat} {k m e : Nat} (hk : k < 4) (hm : m < 2) (he : e < 4) (hu : u ∈ vecs) (h0 : u.getD k 0 = 0) (h1 : v.getD k 0 = 0) : tE L (u.set k (m + 1)) v e = (if e = k then L.getD k 0 else 0) + tE L u v e := by
  have s2 := set_get ⟨e, he⟩ ⟨k, hk⟩ ⟨m, hm⟩ u hu
  dsimp only at s2
  unfold tE
  by_cases h : e = k
  · subst h
    rw [if_pos rfl] at s2
    rw [s2, if_pos rfl, h0, h1, if_neg (by omega), if_pos rfl]; omega
  · rw [if_neg (show ¬ ((⟨e, he⟩ : Fin 4) = ⟨k, hk⟩) from fun q => h (by simpa using q))] at s2
    rw [s2, if_neg h, Int.zero_add]
theorem diff_set {L : List Int} {u v : List Nat} {k m : Nat} (hk : k < 4) (hm : m < 2) (hu : u ∈ vecs) (h0 : u.getD k 0 = 0) (h1 : v.getD k 0 = 0) : diff L (u.set k (m + 1)) v = L.getD k 0 + diff L u v := by
  unfold diff
  rw [tE_set hk hm (by omega) hu h0 h1, tE_set hk hm (by omega) hu h0 h1, tE_set hk hm (by omega) hu h0 h1, tE_set hk hm (by omega) hu h0 h1]
  have : k = 0 ∨ k = 1 ∨ k = 2 ∨ k = 3 := by omega
  rcases this with rfl | rfl | rfl | rfl <;> simp <;> omega
theorem mx_facts {i j k : Nat} (hk : max i j = k + 1) : max (i : Int) (j : Int) - 1 = (k : Int) ∧ min (i : Int) (j : Int) = ((min i j : Nat) : Int) ∧ (j < i → i = k + 1 ∧ min i j = j ∧ j ≤ k) ∧ (¬ j < i → j = k + 1 ∧ min i j = i) := by omega
theorem mx_sum {i j k p n : Nat} (hk : max i j = k + 1) (h : i + j ≤ n + 1) (hp : p < k + 1) (hi : i ≤ 4) (hj : j ≤ 4) (e : i ≠ j) : min i j + p ≤ n ∧ min i j ≤ 4 ∧ p ≤ 4 ∧ k < 4 ∧ p ≤ k ∧ (¬ j < i → i ≤ k) ∧ (i : Int) ≠ (j : Int) := by omega
theorem par_cast (D : List Int) (k : Nat) : (D.getD ((k : Int)).toNat 0).fmod ((k : Int) + 1) = ((parN D k : Nat) : Int) := by
  have := fmod_lo (D.getD ((k : Int)).toNat 0) (n := (k : Int) + 1) (by omega)
  unfold parN; omega
theorem mx_ex {i j : Nat} (e : i ≠ j) : ∃ k, max i j = k + 1 := ⟨max i j - 1, by omega⟩
theorem wayG_diff (D L : List Int) : ∀ (n i j : Nat), i ≤ 4 → j ≤ 4 → i + j ≤ n → wayG D L n (i : Int) (j : Int) = diff L (U D i) (U D j)
  | 0, i, j, _, _, h => by
    have e1 : i = 0 := by omega
    have e2 : j = 0 := by omega
    subst e1; subst e2
    rw [diff_self]; rfl
  | n + 1, i, j, hi, hj, h => by
    by_cases e : i = j
    · subst e
      rw [diff_self, wayG, if_pos rfl]
    · obtain ⟨k, hk⟩ := mx_ex e
      obtain ⟨e1, e2, e4, e5⟩ := mx_facts hk
      obtain ⟨s1, s2, s3, s4, s5, s6, s7⟩ := mx_sum hk h (par_lt D k) hi hj e
      rw [wayG_succ s7, e1, e2, par_cast, wayG_diff D L n (min i j) (parN D k) s2 s3 s1, Int.toNat_natCast]
      have hu := U_ok D s3
      by_cases q : j < i
      · obtain ⟨r1, r2, r3⟩ := e4 q
        rw [r2, r1, U_succ D s4, diff_set s4 (bit_lt D k) hu.1 (hu.2 k s5 s4) ((U_ok D hj).2 k r3 s4), diff_comm]
      · obtain ⟨r1, r2⟩ := e5 q
        rw [r2, r1, U_succ D s4, diff_comm L (U D i) (List.set _ _ _), diff_set s4 (bit_lt D k) hu.1 (hu.2 k s5 s4) ((U_ok D hi).2 k (s6 q) s4), diff_comm]
noncomputable def phi (q c : Nat) : Nat := if c = 1 then 46 else chE (posE q (c / 3 - 1)) (c % 3)
noncomputable def okB (c : Nat) : Bool := decide (c = 1 ∨ (3 ≤ c ∧ c < 12))
noncomputable abbrev okC (c : Nat) : Prop := okB c = true
theorem okC_iff {c : Nat} : okC c ↔ (c = 1 ∨ (3 ≤ c ∧ c < 12)) := decide_eq_true_iff
theorem phi_inj : ∀ q : Fin 4, ∀ a : Fin 12, ∀ b : Fin 12, okC a.val → okC b.val → phi q.val a.val = phi q.val b.val → a.val = b.val := by decide +kernel
theorem phi_cost : ∀ q : Fin 4, ∀ a : Fin 12, ∀ b : Fin 12, okC a.val → okC b.val → costU (phi q.val a.val) (phi q.val b.val) = cT a.val b.val := by decide +kernel
theorem okC_lt {c : Nat} (h : okC c) : c < 12 := by have := okC_iff.mp h; omega
theorem okC_word {n a b c : Nat} (ha : a < 3) (hb : b < 3) (hc : c < 3) : ∀ x ∈ wordC n a b c, okC x := fun x hx => by
  unfold wordC at hx
  refine okC_iff.mpr ?_
  rcases List.mem_append.mp hx with h | h
  · have := (List.mem_replicate.mp h).2; omega
  · simp only [List.mem_cons, List.not_mem_nil, or_false] at h
    omega
theorem lt3 {a : Nat} (h : a < 3) : a = 0 ∨ a = 1 ∨ a = 2 := by omega
theorem ren_word {q n : Nat} {u : List Nat} (h0 : u.getD (posE q 0) 0 < 3) (h1 : u.getD (posE q 1) 0 < 3) (h2 : u.getD (posE q 2) 0 < 3) :
    ren q n u = (wordC (if u.getD q 0 = 0 then 0 else n) (u.getD (posE q 0) 0) (u.getD (posE q 1) 0) (u.getD (posE q 2) 0)).map (phi q) := by
  unfold ren wordC letE
  rw [List.map_append, List.map_replicate]
  have p1 : phi q 1 = 46 := rfl
  have f0 : ∀ a, a < 3 → phi q (3 + a) = chE (posE q 0) a := fun a ha => by
    rcases lt3 ha with rfl | rfl | rfl <;> rfl
  have f1 : ∀ a, a < 3 → phi q (6 + a) = chE (posE q 1) a := fun a ha => by
    rcases lt3 ha with rfl | rfl | rfl <;> rfl
  have f2 : ∀ a, a < 3 → phi q (9 + a) = chE (posE q 2) a := fun a ha => by
    rcases lt3 ha with rfl | rfl | rfl <;> rfl
  simp only [List.map_cons, List.map_nil]
  rw [p1, f0 _ h0, f1 _ h1, f2 _ h2]
theorem pair_ok {u v m : Nat} (hm : m < 2) (hu : u = 0 ∨ u = m + 1) (hv : v = 0 ∨ v = m + 1) : (u, v) ∈ pairsP := by
  have : m = 0 ∨ m = 1 := by omega
  rcases this with rfl | rfl <;> rcases hu with rfl | rfl <;> rcases hv with rfl | rfl <;> decide
theorem dots_ok {u v n : Nat} (hn : n = 2 ∨ n = 3 ∨ n = 4) : ((if u = 0 then 0 else n), (if v = 0 then 0 else n)) ∈ dotP := by
  by_cases hu : u = 0
  · by_cases hv : v = 0
    · rw [if_pos hu, if_pos hv]; exact .head _
    · rw [if_pos hu, if_neg hv]; rcases hn with rfl | rfl | rfl <;> decide
  · by_cases hv : v = 0
    · rw [if_neg hu, if_pos hv]; rcases hn with rfl | rfl | rfl <;> decide
    · rw [if_neg hu, if_neg hv]; rcases hn with rfl | rfl | rfl <;> decide
theorem posE_ok {q i : Nat} (hq : q < 4) (hi : i < 3) : posE q i < 4 ∧ posE q i ≠ q := by unfold posE; split <;> omega
theorem bit_3 {D : List Int} {e u : Nat} (h : u = 0 ∨ u = bitN D e + 1) : u < 3 := by
  have := bit_lt D e
  omega
theorem n_234 (D : List Int) {n : Nat} (hn : n = dotN D + sendN D) : n = 2 ∨ n = 3 ∨ n = 4 := by
  have := dot_eq D
  have := send_eq D
  omega
theorem sum_q {t : Nat → Int} {q : Nat} (hq : q < 4) : t 0 + t 1 + t 2 + t 3 = t (posE q 0) + t (posE q 1) + t (posE q 2) + t q := by
  have : q = 0 ∨ q = 1 ∨ q = 2 ∨ q = 3 := by omega
  rcases this with rfl | rfl | rfl | rfl
  · show _ = t 1 + t 2 + t 3 + t 0
    omega
  · show _ = t 0 + t 2 + t 3 + t 1
    omega
  · show _ = t 0 + t 1 + t 3 + t 2
    omega
  · rfl
theorem tE_len {D : List Int} {u v : List Nat} {e : Nat} (he : e < 4) (hq : e ≠ qN D) (hu : u.getD e 0 = 0 ∨ u.getD e 0 = bitN D e + 1) (hv : v.getD e 0 = 0 ∨ v.getD e 0 = bitN D e + 1) :
    tE (lengthsF D) u v e = ((u.getD e 0 - v.getD e 0 + (v.getD e 0 - u.getD e 0) : Nat) : Int) := by
  have hl : (lengthsF D).getD e 0 = ((bitN D e + 1 : Nat) : Int) := by
    rw [len_eq]
    have : e = 0 ∨ e = 1 ∨ e = 2 ∨ e = 3 := by omega
    rcases this with rfl | rfl | rfl | rfl <;> exact if_neg hq
  unfold tE
  rw [hl]
  split <;> omega
theorem tE_lenq {D : List Int} {u v : List Nat} {n : Nat} (hn : n = dotN D + sendN D) (hu : u.getD (qN D) 0 = 0 ∨ u.getD (qN D) 0 = bitN D (qN D) + 1) (hv : v.getD (qN D) 0 = 0 ∨ v.getD (qN D) 0 = bitN D (qN D) + 1) :
    tE (lengthsF D) u v (qN D) = 2 * (((if u.getD (qN D) 0 = 0 then 0 else n) - (if v.getD (qN D) 0 = 0 then 0 else n) + ((if v.getD (qN D) 0 = 0 then 0 else n) - (if u.getD (qN D) 0 = 0 then 0 else n)) : Nat) : Int) := by
  have hl : (lengthsF D).getD (qN D) 0 = 2 * (n : Int) := by
    rw [len_eq, hn]
    have := (q_eq D).2
    have : qN D = 0 ∨ qN D = 1 ∨ qN D = 2 ∨ qN D = 3 := by omega
    have hE : lenE D (qN D) = 2 * ((dotN D + sendN D : Nat) : Int) := if_pos rfl
    rw [← hE]
    rcases this with e | e | e | e <;> rw [e] <;> rfl
  unfold tE
  rw [hl]
  rcases hu with hu | hu <;> rcases hv with hv | hv <;> rw [hu, hv] <;> simp <;> omega
theorem sum4 (D : List Int) : (lengthsF D).sum = lenE D 0 + (lenE D 1 + (lenE D 2 + (lenE D 3 + 0))) := by rw [len_eq]; rfl
theorem tE_le (D : List Int) (u v : List Nat) {e : Nat} (he : e < 4) : tE (lengthsF D) u v e ≤ lenE D e := by
  have h := lenE_ok D e
  have hl : (lengthsF D).getD e 0 = lenE D e := by
    rw [len_eq]
    have : e = 0 ∨ e = 1 ∨ e = 2 ∨ e = 3 := by omega
    rcases this with rfl | rfl | rfl | rfl <;> rfl
  unfold tE
  rw [hl]
  split <;> omega
theorem diff_le (D : List Int) (u v : List Nat) : diff (lengthsF D) u v ≤ (lengthsF D).sum := by
  have a := tE_le D u v (e := 0) (by omega)
  have b := tE_le D u v (e := 1) (by omega)
  have c := tE_le D u v (e := 2) (by omega)
  have d := tE_le D u v (e := 3) (by omega)
  rw [sum4]
  unfold diff
  omega
theorem wS_sum {a b c p : Nat × Nat} {x y z w : Int} (hx : x = ((a.1 - a.2 + (a.2 - a.1) : Nat) : Int)) (hy : y = ((b.1 - b.2 + (b.2 - b.1) : Nat) : Int)) (hz : z = ((c.1 - c.2 + (c.2 - c.1) : Nat) : Int)) (hw : w = 2 * ((p.1 - p.2 + (p.2 - p.1) : Nat) : Int)) : wS a b c p = x + y + z + w := by
  rw [hx, hy, hz, hw]
  unfold wS
  generalize a.1 - a.2 + (a.2 - a.1) = n1
  generalize b.1 - b.2 + (b.2 - b.1) = n2
  generalize c.1 - c.2 + (c.2 - c.1) = n3
  generalize p.1 - p.2 + (p.2 - p.1) = n4
  omega
theorem lev_diff (D : List Int) {i j n : Nat} (hi : i ≤ 4) (hj : j ≤ 4) (hn : n = dotN D + sendN D) : levF costU (ren (qN D) n (U D i)) (ren (qN D) n (U D j)) (lengthsF D).sum = diff (lengthsF D) (U D i) (U D j) := by
  have hq := (q_eq D).2
  have hI := U_bit D i hi
  have hJ := U_bit D j hj
  have p0 := posE_ok (i := 0) hq (by decide)
  have p1 := posE_ok (i := 1) hq (by decide)
  have p2 := posE_ok (i := 2) hq (by decide)
  have a3 : ∀ e, e < 4 → (U D i).getD e 0 < 3 := fun e he => bit_3 (hI e he)
  have b3 : ∀ e, e < 4 → (U D j).getD e 0 < 3 := fun e he => bit_3 (hJ e he)
  have hp : ∀ e, e < 4 → ((U D i).getD e 0, (U D j).getD e 0) ∈ pairsP := fun e he => pair_ok (bit_lt D e) (hI e he) (hJ e he)
  have hdd := dots_ok (u := (U D i).getD (qN D) 0) (v := (U D j).getD (qN D) 0) (n_234 D hn)
  have key := wS_sum (a := ((U D i).getD (posE (qN D) 0) 0, (U D j).getD (posE (qN D) 0) 0)) (b := ((U D i).getD (posE (qN D) 1) 0, (U D j).getD (posE (qN D) 1) 0)) (c := ((U D i).getD (posE (qN D) 2) 0, (U D j).getD (posE (qN D) 2) 0)) (p := ((if (U D i).getD (qN D) 0 = 0 then 0 else n), (if (U D j).getD (qN D) 0 = 0 then 0 else n)))
    (tE_len (D := D) p0.1 p0.2 (hI _ p0.1) (hJ _ p0.1)) (tE_len (D := D) p1.1 p1.2 (hI _ p1.1) (hJ _ p1.1)) (tE_len (D := D) p2.1 p2.2 (hI _ p2.1) (hJ _ p2.1)) (tE_lenq (D := D) hn (hI _ hq) (hJ _ hq))
  have key2 := key.trans (sum_q (t := tE (lengthsF D) (U D i) (U D j)) hq).symm
  rw [ren_word (a3 _ p0.1) (a3 _ p1.1) (a3 _ p2.1), ren_word (b3 _ p0.1) (b3 _ p1.1) (b3 _ p2.1)]
  rw [levF_map (S := okC) (cost' := cT) (fun a b ha hb e => phi_inj ⟨qN D, hq⟩ ⟨a, okC_lt ha⟩ ⟨b, okC_lt hb⟩ ha hb e) (fun a b ha hb => phi_cost ⟨qN D, hq⟩ ⟨a, okC_lt ha⟩ ⟨b, okC_lt hb⟩ ha hb)
    (okC_word (a3 _ p0.1) (a3 _ p1.1) (a3 _ p2.1)) (okC_word (b3 _ p0.1) (b3 _ p1.1) (b3 _ p2.1))]
  exact (tab_lev (hp _ p0.1) (hp _ p1.1) (hp _ p2.1) hdd (by rw [key2]; exact diff_le D _ _)).trans key2
theorem way_ok (D : List Int) (i j : Nat) (hj : j < i) (hi : i < 5) : levF costU (lst ((rowsT D 4).getD i Str.empty)) (lst ((rowsT D 4).getD j Str.empty)) (lengthsF D).sum = wayG D (lengthsF D) 8 (i : Int) (j : Int) := by
  rw [rowsT_eq D 4 (Nat.le_refl _), getD_mapS (by rw [uRows_len]; omega), getD_mapS (by rw [uRows_len]; omega), lst_mkS, lst_mkS, wayG_diff D _ 8 i j (by omega) (by omega) (by omega)]
  exact lev_diff D (by omega) (by omega) rfl
end Mine
end
section
namespace Mine
noncomputable def OkR (R : List Nat) : Prop := R ≠ [] ∧ ∀ c ∈ R, c ≠ 10 ∧ c ≠ 13
noncomputable def flatF (R : List Nat) : List (List Nat × List Nat) → List Nat
  | [] => R
  | (F, Q) :: t => R ++ (F ++ flatF Q t)
noncomputable def flatC (R : List Nat) : List (List Nat) → List Nat
  | [] => R
  | Q :: t => R ++ (13 :: 10 :: flatC Q t)
theorem norm_row {R rest : List Nat} (h : ∀ c ∈ R, c ≠ 10 ∧ c ≠ 13) : normS false (R ++ rest) = R ++ normS false rest := by
  induction R with
  | nil => rfl
  | cons c r ih =>
    have hc := h c (.head _)
    rw [List.cons_append, normS, if_neg hc.2, if_neg hc.1, ih (fun d hd => h d (.tail _ hd)), List.cons_append]
theorem norm_b {R rest : List Nat} (h : OkR R) : normS true (R ++ rest) = normS false (R ++ rest) := by
  obtain ⟨h0, h1⟩ := h
  cases R with
  | nil => exact absurd rfl h0
  | cons c r =>
    have hc := h1 c (.head _)
    rw [List.cons_append, normS, normS, if_neg hc.2, if_neg hc.1, if_neg hc.2, if_neg hc.1]
theorem norm_bF {R : List Nat} {t : List (List Nat × List Nat)} (h : OkR R) : normS true (flatF R t) = normS false (flatF R t) := by
  cases t with
  | nil =>
    have := norm_b (rest := []) h
    rw [List.append_nil] at this
    exact this
  | cons p t => exact norm_b h
noncomputable def feedsL : List (List Nat) := [[10], [13], [13, 10]]
theorem norm_flat : ∀ (t : List (List Nat × List Nat)) (R : List Nat), OkR R → (∀ p ∈ t, p.1 ∈ feedsL ∧ OkR p.2) → normS false (flatF R t) = flatC R (t.map (·.2))
  | [], R, h, _ => by
    have := norm_row (rest := []) h.2
    rw [List.append_nil] at this
    show normS false R = R
    rw [this]; exact List.append_nil R
  | (F, Q) :: t, R, h, ht => by
    have hF := (ht (F, Q) (.head _)).1
    have hQ := (ht (F, Q) (.head _)).2
    have ih := norm_flat t Q hQ (fun p hp => ht p (.tail _ hp))
    have hb := norm_bF (t := t) hQ
    show normS false (R ++ (F ++ flatF Q t)) = R ++ (13 :: 10 :: flatC Q (t.map (·.2)))
    rw [norm_row h.2]
    congr 1
    simp only [feedsL, List.mem_cons, List.not_mem_nil, or_false] at hF
    rcases hF with e | e | e <;> subst e
    · show normS false (10 :: flatF Q t) = _
      rw [normS, if_neg (by decide), if_pos rfl, if_neg (by decide), ih]
    · show normS false (13 :: flatF Q t) = _
      rw [normS, if_pos rfl, hb, ih]
    · show normS false (13 :: 10 :: flatF Q t) = _
      rw [normS, if_pos rfl, normS, if_neg (by decide), if_pos rfl, if_pos rfl, ih]
noncomputable def dbl (R : List Nat) : List Nat := if R.head? = some 46 then 46 :: R else R
theorem dots_row {R rest : List Nat} (h : ∀ c ∈ R, c ≠ 10 ∧ c ≠ 13) : dotsS false (R ++ rest) = R ++ dotsS false rest := by
  induction R with
  | nil => rfl
  | cons c r ih =>
    have hc := h c (.head _)
    rw [List.cons_append, dotsS, if_neg (by simp), decide_eq_false hc.1, ih (fun d hd => h d (.tail _ hd)), List.cons_append]
theorem dots_rowT {R rest : List Nat} (h : OkR R) : dotsS true (R ++ rest) = dbl R ++ dotsS false rest := by
  obtain ⟨h0, h1⟩ := h
  cases R with
  | nil => exact absurd rfl h0
  | cons c r =>
    have hc := h1 c (.head _)
    have hr := dots_row (rest := rest) (R := r) (fun d hd => h1 d (.tail _ hd))
    rw [List.cons_append, dotsS]
    unfold dbl
    by_cases e : c = 46
    · subst e
      rw [if_pos ⟨rfl, rfl⟩, if_pos (show (46 :: r).head? = some 46 from rfl), hr]; rfl
    · rw [if_neg (fun q => e q.2), if_neg (by simpa using e), decide_eq_false hc.1, hr]; rfl
theorem dots_flat : ∀ (t : List (List Nat)) (R : List Nat), OkR R → (∀ p ∈ t, OkR p) → dotsS true (flatC R t) = flatC (dbl R) (t.map dbl)
  | [], R, h, _ => by
    have := dots_rowT (rest := []) h
    rw [List.append_nil] at this
    show dotsS true R = dbl R
    rw [this]; exact List.append_nil _
  | Q :: t, R, h, ht => by
    have ih := dots_flat t Q (ht Q (.head _)) (fun p hp => ht p (.tail _ hp))
    show dotsS true (R ++ (13 :: 10 :: flatC Q t)) = dbl R ++ (13 :: 10 :: flatC (dbl Q) (t.map dbl))
    rw [dots_rowT h, dotsS, if_neg (by simp), dotsS, if_neg (by simp)]
    show dbl R ++ (13 :: 10 :: dotsS true (flatC Q t)) = _
    rw [ih]
theorem flatC_F : ∀ (t : List (List Nat)) (R : List Nat), flatC R t = flatF R (t.map fun Q => ([13, 10], Q))
  | [], _ => rfl
  | Q :: t, R => by
    show R ++ (13 :: 10 :: flatC Q t) = R ++ ([13, 10] ++ flatF Q _)
    rw [flatC_F t Q]; rfl
theorem quote_F {t : List (List Nat × List Nat)} {R : List Nat} (h : OkR R) (ht : ∀ p ∈ t, p.1 ∈ feedsL ∧ OkR p.2) : quoteL (flatF R t) = flatC (dbl R) ((t.map (·.2)).map dbl) := by
  unfold quoteL
  rw [norm_flat t R h ht, dots_flat _ R h (fun p hp => by obtain ⟨a, ha, rfl⟩ := List.mem_map.mp hp; exact (ht a ha).2)]
theorem quote_C {t : List (List Nat)} {R : List Nat} (h : OkR R) (ht : ∀ p ∈ t, OkR p) : quoteL (flatC R t) = flatC (dbl R) (t.map dbl) := by
  have e : (t.map fun Q => (([13, 10] : List Nat), Q)).map (·.2) = t := by
    rw [List.map_map]; exact List.map_id t
  rw [flatC_F, quote_F h (fun p hp => by obtain ⟨a, ha, rfl⟩ := List.mem_map.mp hp; exact ⟨show [13, 10] ∈ feedsL by decide, ht a ha⟩), e]
theorem ok_ren {q n : Nat} {u : List Nat} : OkR (ren q n u) := by
  refine ⟨by unfold ren letE; simp, fun c hc => ?_⟩
  unfold ren letE at hc
  have hE : ∀ e s, chE e s ≠ 10 ∧ chE e s ≠ 13 := fun e s => by
    unfold chE; split
    · omega
    · split <;> omega
  rcases List.mem_append.mp hc with h | h
  · have := (List.mem_replicate.mp h).2; omega
  · simp only [List.mem_cons, List.not_mem_nil, or_false] at h
    rcases h with rfl | rfl | rfl <;> exact hE _ _
theorem dbl_ren {q n : Nat} {u : List Nat} (hn : 1 ≤ n) : dbl (ren q n u) = ren q (n + 1) u := by
  unfold dbl ren
  by_cases h : u.getD q 0 = 0
  · rw [if_pos h, if_pos h]
    have hE : ∀ e s, chE e s ≠ 46 := fun e s => by
      unfold chE; split
      · omega
      · split <;> omega
    rw [if_neg (by unfold letE; simpa using hE _ _)]
  · rw [if_neg h, if_neg h]
    obtain ⟨m, rfl⟩ : ∃ m, n = m + 1 := ⟨n - 1, by omega⟩
    rw [if_pos (by rw [List.replicate_succ]; rfl), List.replicate_succ (n := m + 1)]; rfl
open StrLaws in
theorem at_of {x : Str} {k : Nat} (h : At x ⟨#[13, 10]⟩ x.length k) : (lst x)[k]? = some 13 := by
  have h2 := congrArg Array.toList (eq_of_beq h.2)
  have h3 : ((lst x).drop k).take (k + 2 - k) = [13, 10] := (strSub_toList x k (k + 2)).symm.trans h2
  have h4 : (((lst x).drop k).take (k + 2 - k))[0]? = some 13 := by rw [h3]; rfl
  rw [List.getElem?_take_of_lt (by omega), List.getElem?_drop, Nat.add_zero] at h4
  exact h4
open StrLaws in
theorem of_at {x : Str} {pre rest : List Nat} (h : lst x = pre ++ (13 :: 10 :: rest)) : At x ⟨#[13, 10]⟩ x.length pre.length := by
  refine ⟨?_, ?_⟩
  · have hl : x.length = pre.length + (rest.length + 2) := by
      rw [lst_len, h, List.length_append]; rfl
    show pre.length + 2 ≤ x.length
    omega
  · refine beq_iff_eq.mpr (Array.toList_inj.mp ?_)
    refine (strSub_toList x pre.length (pre.length + 2)).trans ?_
    show ((lst x).drop pre.length).take (pre.length + 2 - pre.length) = [13, 10]
    rw [h, List.drop_left, show pre.length + 2 - pre.length = 2 by omega]
    rfl
theorem sub_mk {x : Str} {pre Q rest : List Nat} (h : lst x = pre ++ (Q ++ rest)) : Builtin.Str.strSub x pre.length (pre.length + Q.length) = mkS Q := by
  apply str_ext
  refine (StrLaws.strSub_toList x pre.length (pre.length + Q.length)).trans ?_
  show ((lst x).drop pre.length).take (pre.length + Q.length - pre.length) = Q
  rw [h, List.drop_left, show pre.length + Q.length - pre.length = Q.length by omega, List.take_left]
theorem no_at {x : Str} {pre Q rest : List Nat} {k : Nat} (h : lst x = pre ++ (Q ++ rest)) (hQ : ∀ c ∈ Q, c ≠ 13) (h1 : pre.length ≤ k) (h2 : k < pre.length + Q.length) : ¬ StrLaws.At x ⟨#[13, 10]⟩ x.length k := fun hA => by
  have h3 := at_of hA
  rw [h, List.getElem?_append_right h1, List.getElem?_append_left (by omega)] at h3
  exact hQ 13 (List.mem_of_getElem? h3) rfl
open StrLaws in
theorem cut_parts {x : Str} : ∀ (t : List (List Nat)) (Q pre : List Nat) (cuts : List Nat) (f : Nat), lst x = pre ++ flatC Q t → (∀ c ∈ Q, c ≠ 13) → (∀ R ∈ t, ∀ c ∈ R, c ≠ 13) →
    ChainG x ⟨#[13, 10]⟩ x.length pre.length cuts f → (∀ k, f ≤ k → ¬ At x ⟨#[13, 10]⟩ x.length k) → partsFrom x 2 pre.length cuts = (Q :: t).map mkS
  | [], Q, pre, [], f, h, hQ, _, _, _ => by
    have e : x.length = pre.length + Q.length := by
      rw [lst_len, h, List.length_append]; rfl
    show [Builtin.Str.strSub x pre.length x.length] = [mkS Q]
    rw [e, sub_mk (rest := []) (by rw [List.append_nil]; exact h)]
  | [], Q, pre, c :: r, f, h, hQ, _, hG, _ => by
    have hl : x.length = pre.length + Q.length := by
      rw [lst_len, h, List.length_append]; rfl
    have := hG.2.1.1
    have h2 : (⟨#[13, 10]⟩ : Str).length = 2 := rfl
    exact absurd hG.2.1 (no_at (rest := []) (by rw [List.append_nil]; exact h) hQ hG.1 (by omega))
  | R :: t, Q, pre, [], f, h, hQ, hR, hG, hn => by
    have e : f = pre.length := hG
    have hA := of_at (x := x) (pre := pre ++ Q) (rest := flatC R t) (by rw [h, List.append_assoc]; rfl)
    exact absurd hA (hn _ (by rw [List.length_append]; omega))
  | R :: t, Q, pre, c :: r, f, h, hQ, hR, hG, hn => by
    have hA := of_at (x := x) (pre := pre ++ Q) (rest := flatC R t) (by rw [h, List.append_assoc]; rfl)
    rw [List.length_append] at hA
    have hc : c = pre.length + Q.length := by
      rcases Nat.lt_trichotomy c (pre.length + Q.length) with q | q | q
      · exact absurd hG.2.1 (no_at (Q := Q) (rest := 13 :: 10 :: flatC R t) h hQ hG.1 q)
      · exact q
      · exact absurd hA (hG.2.2.1 _ (by omega) q)
    subst hc
    have e : pre.length + Q.length + 2 = (pre ++ Q ++ [13, 10]).length := by
      simp only [List.length_append, List.length_cons, List.length_nil]
    have ih := cut_parts t R (pre ++ Q ++ [13, 10]) r f (by rw [h]; show pre ++ (Q ++ (13 :: 10 :: flatC R t)) = _; simp only [List.append_assoc, List.cons_append, List.nil_append]) (hR R (.head _)) (fun S hS => hR S (.tail _ hS))
      (by rw [← e]; exact hG.2.2.2) hn
    rw [← e] at ih
    show Builtin.Str.strSub x pre.length (pre.length + Q.length) :: partsFrom x 2 (pre.length + Q.length + 2) r = mkS Q :: (R :: t).map mkS
    rw [ih, sub_mk (rest := 13 :: 10 :: flatC R t) h]
theorem split_flat {x : Str} {t : List (List Nat)} {Q : List Nat} (h : lst x = flatC Q t) (ht : t ≠ []) (hQ : ∀ c ∈ Q, c ≠ 13) (hR : ∀ R ∈ t, ∀ c ∈ R, c ≠ 13) : Txt.split x ⟨#[13, 10]⟩ = (Q :: t).map mkS := by
  obtain ⟨f, hG, hn⟩ := StrLaws.occ_tight x ⟨#[13, 10]⟩ (show 1 ≤ 2 by omega)
  have key := cut_parts t Q [] _ f h hQ hR hG hn
  cases t with
  | nil => exact absurd rfl ht
  | cons R t =>
    unfold Txt.split
    rw [if_neg, if_neg, StrLaws.partsBetween_eq]
    · exact key
    · intro he
      have e0 : Builtin.Str.occurrences x ⟨#[13, 10]⟩ 0 x.length (x.length + 1) = [] := List.isEmpty_iff.mp he
      rw [e0] at key
      have := congrArg List.length key
      simp [StrLaws.partsFrom] at this
    · rw [Bool.or_eq_true, decide_eq_true_eq, decide_eq_true_eq]
      rintro (q | q)
      · rw [lst_len, h] at q
        have h2 : (⟨#[13, 10]⟩ : Str).length = 2 := rfl
        rw [h2] at q
        have : (flatC Q (R :: t)).length = Q.length + (2 + (flatC R t).length) := by
          show (Q ++ (13 :: 10 :: flatC R t)).length = _
          simp only [List.length_append, List.length_cons]; omega
        omega
      · have h1 : Builtin.Str.strKind ⟨#[13, 10]⟩ = 1 := by decide +kernel
        rw [h1] at q
        unfold Builtin.Str.strKind at q
        split at q
        · omega
        · split at q <;> omega
theorem crlf_eq : Str.ofString "\r\n" = ⟨#[13, 10]⟩ := by decide
theorem feedF_ok (D : List Int) (k : Int) : lst (feedF D k) ∈ feedsL := by
  have a := fmod_lo ((D.getD k.toNat 0).fdiv (2 * k + 2)) (n := 3) (by decide)
  have b := fmod_hi ((D.getD k.toNat 0).fdiv (2 * k + 2)) (n := 3) (by decide)
  unfold feedF
  have : (((D.getD k.toNat 0).fdiv (2 * k + 2)).fmod 3).toNat = 0 ∨ (((D.getD k.toNat 0).fdiv (2 * k + 2)).fmod 3).toNat = 1 ∨ (((D.getD k.toNat 0).fdiv (2 * k + 2)).fmod 3).toNat = 2 := by omega
  rcases this with e | e | e <;> rw [e] <;> decide
theorem itq_flat {q n : Nat} {t : List (List Nat × List Nat)} {u : List Nat} (hn : 1 ≤ n) (ht : ∀ p ∈ t, p.1 ∈ feedsL) {m : Nat} (hm : m = 1 ∨ m = 2) :
    itq m (flatF (ren q n u) (t.map fun p => (p.1, ren q n p.2))) = flatC (ren q (n + m) u) (t.map fun p => ren q (n + m) p.2) := by
  have e1 : quoteL (flatF (ren q n u) (t.map fun p => (p.1, ren q n p.2))) = flatC (ren q (n + 1) u) (t.map fun p => ren q (n + 1) p.2) := by
    rw [quote_F ok_ren (fun p hp => by obtain ⟨a, ha, rfl⟩ := List.mem_map.mp hp; exact ⟨ht a ha, ok_ren⟩), List.map_map, List.map_map, dbl_ren hn]
    congr 1
    exact List.map_congr_left fun p _ => dbl_ren hn
  rcases hm with rfl | rfl
  · exact e1
  · show quoteL (quoteL (flatF (ren q n u) (t.map fun p => (p.1, ren q n p.2)))) = _
    rw [e1, quote_C ok_ren (fun p hp => by obtain ⟨a, _, rfl⟩ := List.mem_map.mp hp; exact ok_ren), List.map_map, dbl_ren (by omega)]
    congr 1
    exact List.map_congr_left fun p _ => dbl_ren (by omega)
theorem split_ok (D : List Int) (x : Str) (h : lst x = itq (sendN D) (lst (mailF D (rowsF D 4) 4))) : Txt.split x (Str.ofString "\r\n") = rowsT D 4 := by
  have hg : ∀ i, i < 5 → (rowsF D 4).getD i Str.empty = mkS (ren (qN D) (dotN D) (U D i)) := fun i hi => by
    rw [rowsF_eq D 4 (Nat.le_refl _), getD_mapS (by rw [uRows_len]; omega)]; rfl
  have hd := dot_eq D
  have hs := send_eq D
  have hm : lst (mailF D (rowsF D 4) 4) = flatF (ren (qN D) (dotN D) (U D 0)) ([(lst (feedF D 0), U D 1), (lst (feedF D 1), U D 2), (lst (feedF D 2), U D 3), (lst (feedF D 3), U D 4)].map fun p => (p.1, ren (qN D) (dotN D) p.2)) := by
    unfold mailF mailF mailF mailF mailF
    rw [hg 0 (by omega), hg 1 (by omega), hg 2 (by omega), hg 3 (by omega), hg 4 (by omega)]
    simp only [lst_app, lst_mkS, List.map_cons, List.map_nil, flatF, List.append_assoc]
    rfl
  rw [hm, itq_flat (by omega) (fun p hp => by
    simp only [List.mem_cons, List.not_mem_nil, or_false] at hp
    rcases hp with rfl | rfl | rfl | rfl <;> exact feedF_ok D _) (by omega)] at h
  rw [crlf_eq, split_flat h (by simp) (fun c hc => (ok_ren.2 c hc).2) (fun R hR c hc => by
    obtain ⟨p, _, rfl⟩ := List.mem_map.mp hR
    exact (ok_ren.2 c hc).2), rowsT_eq D 4 (Nat.le_refl _)]
  have hU : uRows D 4 = [U D 0, U D 1, U D 2, U D 3, U D 4] := by
    have hl := uRows_len D 4
    unfold U
    generalize uRows D 4 = l at *
    match l, hl with
    | [a, b, c, d, e], _ => rfl
  rw [hU]
  rfl
end Mine
end
section
namespace Mine
noncomputable def on (D : List Int) (a e : Nat) : Int := if (U D a).getD e 0 = 0 then 0 else 1
theorem on01 (D : List Int) (a e : Nat) : on D a e = 0 ∨ on D a e = 1 := by unfold on; split <;> simp
theorem on_zero (D : List Int) {a e : Nat} (ha : a ≤ 4) (h : a ≤ e) (he : e < 4) : on D a e = 0 := if_pos ((U_ok D ha).2 e h he)
theorem on_one (D : List Int) {k : Nat} (hk : k < 4) : on D (k + 1) k = 1 := by
  have hp := par_lt D k
  have h1 := U_ok D (i := parN D k) (by omega)
  have s2 := set_get ⟨k, hk⟩ ⟨k, hk⟩ ⟨bitN D k, bit_lt D k⟩ _ h1.1
  rw [if_pos rfl] at s2
  dsimp only at s2
  unfold on
  rw [U_succ D hk, s2, if_neg (by omega)]
theorem tE_on (D L : List Int) {a b e : Nat} (ha : a ≤ 4) (hb : b ≤ 4) (he : e < 4) : tE L (U D a) (U D b) e = L.getD e 0 * (on D a e + on D b e - 2 * (on D a e * on D b e)) := by
  have h1 := U_bit D a ha e he
  have h2 := U_bit D b hb e he
  unfold tE on
  rcases h1 with h1 | h1 <;> rcases h2 with h2 | h2 <;> rw [h1, h2] <;> simp
noncomputable def dst (D : List Int) (l0 l1 l2 l3 : Int) (a b : Nat) : Int := l0 * (on D a 0 + on D b 0 - 2 * (on D a 0 * on D b 0)) + l1 * (on D a 1 + on D b 1 - 2 * (on D a 1 * on D b 1)) + l2 * (on D a 2 + on D b 2 - 2 * (on D a 2 * on D b 2)) + l3 * (on D a 3 + on D b 3 - 2 * (on D a 3 * on D b 3))
theorem diff_dst (D : List Int) {l0 l1 l2 l3 : Int} {a b : Nat} (ha : a ≤ 4) (hb : b ≤ 4) : diff [l0, l1, l2, l3] (U D a) (U D b) = dst D l0 l1 l2 l3 a b := by
  unfold diff dst
  rw [tE_on D _ ha hb (by omega), tE_on D _ ha hb (by omega), tE_on D _ ha hb (by omega), tE_on D _ ha hb (by omega)]
  rfl
noncomputable def sig (a : Nat) : Nat := if a = 0 then 1 else if a = 1 then 0 else a
theorem gridM_dst {D : List Int} {l0 l1 l2 l3 x : Int} (hL : lengthsF D = [l0, l1, l2, l3]) {a b : Nat} (ha : a ≤ 4) (hb : b ≤ 4) : gridM D x a b = dst D l0 l1 l2 l3 (sig a) b + x := by
  have hs : sig a ≤ 4 := by unfold sig; split <;> (try split) <;> omega
  show (if sig a = b then 0 else wayG D (lengthsF D) 8 ((max (sig a) b : Nat) : Int) ((min (sig a) b : Nat) : Int)) + x = _
  rw [wayG_diff D _ 8 _ _ (by omega) (by omega) (by omega), hL]
  congr 1
  by_cases h : sig a = b
  · rw [if_pos h, ← h, ← diff_dst D hs hs, diff_self]
  · rw [if_neg h, ← diff_dst D hs hb]
    by_cases q : sig a ≤ b
    · rw [show max (sig a) b = b by omega, show min (sig a) b = sig a by omega, diff_comm]
    · rw [show max (sig a) b = sig a by omega, show min (sig a) b = b by omega]
noncomputable def f1 (D : List Int) (l1 l2 l3 : Int) (a : Nat) : Int := l1 * on D a 1 + l2 * on D a 2 + l3 * on D a 3
noncomputable def h1 (D : List Int) (l1 l2 l3 : Int) (a b : Nat) : Int := l1 * (on D a 1 * on D b 1) + l2 * (on D a 2 * on D b 2) + l3 * (on D a 3 * on D b 3)
noncomputable def G1 (D : List Int) (l0 l1 l2 l3 x : Int) (a b : Nat) : Int := -2 * l0 * (h1 D l1 l2 l3 a b * (l0 + 2 * x) + f1 D l1 l2 l3 a * f1 D l1 l2 l3 b)
noncomputable def f2 (D : List Int) (l2 l3 : Int) (a : Nat) : Int := l2 * on D a 2 + l3 * on D a 3
noncomputable def h2 (D : List Int) (l2 l3 : Int) (a b : Nat) : Int := l2 * (on D a 2 * on D b 2) + l3 * (on D a 3 * on D b 3)
noncomputable def G2 (D : List Int) (l0 l1 l2 l3 x : Int) (a b : Nat) : Int := 4 * (l0 * l1) * (h2 D l2 l3 a b * (l0 + l1 + 2 * x) + f2 D l2 l3 a * f2 D l2 l3 b)
noncomputable def f3 (D : List Int) (l3 : Int) (a : Nat) : Int := l3 * on D a 3
noncomputable def h3 (D : List Int) (l3 : Int) (a b : Nat) : Int := l3 * (on D a 3 * on D b 3)
noncomputable def G3 (D : List Int) (l0 l1 l2 l3 x : Int) (a b : Nat) : Int := -8 * (l0 * l1 * l2) * (h3 D l3 a b * (l0 + l1 + l2 + 2 * x) + f3 D l3 a * f3 D l3 b)
noncomputable def M1F (D : List Int) (x : Int) (a b : Nat) : Int := if a ≤ 0 ∨ b ≤ 0 then gridM D x a b else gridM D x a b * gridM D x 0 0 - gridM D x a 0 * gridM D x 0 b
noncomputable def M2F (D : List Int) (l0 l1 l2 l3 x : Int) (a b : Nat) : Int := if a ≤ 1 ∨ b ≤ 1 then M1F D x a b else G1 D l0 l1 l2 l3 x a b
noncomputable def M3F (D : List Int) (l0 l1 l2 l3 x : Int) (a b : Nat) : Int := if a ≤ 2 ∨ b ≤ 2 then M2F D l0 l1 l2 l3 x a b else G2 D l0 l1 l2 l3 x a b
noncomputable def M4F (D : List Int) (l0 l1 l2 l3 x : Int) (a b : Nat) : Int := if a ≤ 3 ∨ b ≤ 3 then M3F D l0 l1 l2 l3 x a b else G3 D l0 l1 l2 l3 x a b
noncomputable def MM (D : List Int) (l0 l1 l2 l3 x : Int) : Nat → Nat → Nat → Int
  | 0 => gridM D x
  | 1 => M1F D x
  | 2 => M2F D l0 l1 l2 l3 x
  | 3 => M3F D l0 l1 l2 l3 x
  | _ => M4F D l0 l1 l2 l3 x
theorem poly (C h U f g l e d : Int) : C * (h * U + f * g) * (C * (l * (U + l))) - (C * (l * (e * U + f))) * (C * (l * (d * U + g))) = C * C * l * U * ((h - l * (e * d)) * (U + l) + (f - l * e) * (g - l * d)) := by grind
theorem step1 (l x e d f g h : Int) (he : e = 0 ∨ e = 1) (hd : d = 0 ∨ d = 1) :
    ((l * (e + d - 2 * (e * d)) + f + g - 2 * h + x) * (l + x) - (l * e + f + x) * (l * (1 - d) + g + x)) * (l * (l + 2 * x)) - ((l * (1 - e) + f + x) * (l + x) - (l * e + f + x) * x) * ((l * d + g + x) * (l + x) - x * (l * (1 - d) + g + x))
      = (l + x) * (-2 * l * (h * (l + 2 * x) + f * g)) := by
  rcases he with rfl | rfl <;> rcases hd with rfl | rfl <;> grind
section
variable {D : List Int} {l0 l1 l2 l3 x : Int}
theorem on0 (D : List Int) {e : Nat} (he : e < 4) : on D 0 e = 0 := on_zero D (by omega) (by omega) he
theorem dst_00 : dst D l0 l1 l2 l3 0 0 = 0 := by
  unfold dst
  rw [on0 D (by omega), on0 D (by omega), on0 D (by omega), on0 D (by omega)]; grind
theorem dst_10 : dst D l0 l1 l2 l3 1 0 = l0 := by
  unfold dst
  rw [on0 D (by omega), on0 D (by omega), on0 D (by omega), on0 D (by omega), on_one D (by omega), on_zero D (a := 1) (e := 1) (by omega) (by omega) (by omega), on_zero D (a := 1) (e := 2) (by omega) (by omega) (by omega), on_zero D (a := 1) (e := 3) (by omega) (by omega) (by omega)]; grind
theorem dst_01 : dst D l0 l1 l2 l3 0 1 = l0 := by
  unfold dst
  rw [on0 D (by omega), on0 D (by omega), on0 D (by omega), on0 D (by omega), on_one D (by omega), on_zero D (a := 1) (e := 1) (by omega) (by omega) (by omega), on_zero D (a := 1) (e := 2) (by omega) (by omega) (by omega), on_zero D (a := 1) (e := 3) (by omega) (by omega) (by omega)]; grind
theorem dst_11 : dst D l0 l1 l2 l3 1 1 = 0 := by
  unfold dst
  rw [on_one D (by omega), on_zero D (a := 1) (e := 1) (by omega) (by omega) (by omega), on_zero D (a := 1) (e := 2) (by omega) (by omega) (by omega), on_zero D (a := 1) (e := 3) (by omega) (by omega) (by omega)]; grind
theorem dst_a0 (a : Nat) : dst D l0 l1 l2 l3 a 0 = l0 * on D a 0 + f1 D l1 l2 l3 a := by
  unfold dst f1
  rw [on0 D (by omega), on0 D (by omega), on0 D (by omega), on0 D (by omega)]; grind
theorem dst_0b (b : Nat) : dst D l0 l1 l2 l3 0 b = l0 * on D b 0 + f1 D l1 l2 l3 b := by
  unfold dst f1
  rw [on0 D (by omega), on0 D (by omega), on0 D (by omega), on0 D (by omega)]; grind
theorem dst_a1 (a : Nat) : dst D l0 l1 l2 l3 a 1 = l0 * (1 - on D a 0) + f1 D l1 l2 l3 a := by
  unfold dst f1
  rw [on_one D (by omega), on_zero D (a := 1) (e := 1) (by omega) (by omega) (by omega), on_zero D (a := 1) (e := 2) (by omega) (by omega) (by omega), on_zero D (a := 1) (e := 3) (by omega) (by omega) (by omega)]; grind
theorem dst_1b (b : Nat) : dst D l0 l1 l2 l3 1 b = l0 * (1 - on D b 0) + f1 D l1 l2 l3 b := by
  unfold dst f1
  rw [on_one D (by omega), on_zero D (a := 1) (e := 1) (by omega) (by omega) (by omega), on_zero D (a := 1) (e := 2) (by omega) (by omega) (by omega), on_zero D (a := 1) (e := 3) (by omega) (by omega) (by omega)]; grind
theorem dst_ab (a b : Nat) : dst D l0 l1 l2 l3 a b = l0 * (on D a 0 + on D b 0 - 2 * (on D a 0 * on D b 0)) + f1 D l1 l2 l3 a + f1 D l1 l2 l3 b - 2 * h1 D l1 l2 l3 a b := by
  unfold dst f1 h1; grind
theorem sig2 {a : Nat} (h : 2 ≤ a) : sig a = a := by unfold sig; rw [if_neg (by omega), if_neg (by omega)]
theorem m1_11 (hL : lengthsF D = [l0, l1, l2, l3]) : M1F D x 1 1 = l0 * (l0 + 2 * x) := by
  unfold M1F
  rw [if_neg (by omega), gridM_dst hL (by omega) (by omega), gridM_dst hL (by omega) (by omega), gridM_dst hL (by omega) (by omega), gridM_dst hL (by omega) (by omega)]
  show (dst D l0 l1 l2 l3 0 1 + x) * (dst D l0 l1 l2 l3 1 0 + x) - (dst D l0 l1 l2 l3 0 0 + x) * (dst D l0 l1 l2 l3 1 1 + x) = _
  rw [dst_01, dst_10, dst_00, dst_11]; grind
theorem m1_ab (hL : lengthsF D = [l0, l1, l2, l3]) {a b : Nat} (ha : 2 ≤ a) (hb : 2 ≤ b) (ha4 : a ≤ 4) (hb4 : b ≤ 4) :
    M1F D x a b = (l0 * (on D a 0 + on D b 0 - 2 * (on D a 0 * on D b 0)) + f1 D l1 l2 l3 a + f1 D l1 l2 l3 b - 2 * h1 D l1 l2 l3 a b + x) * (l0 + x) - (l0 * on D a 0 + f1 D l1 l2 l3 a + x) * (l0 * (1 - on D b 0) + f1 D l1 l2 l3 b + x) := by
  unfold M1F
  rw [if_neg (by omega), gridM_dst hL ha4 hb4, gridM_dst hL (by omega) (by omega), gridM_dst hL ha4 (by omega), gridM_dst hL (by omega) hb4, sig2 ha]
  show (dst D l0 l1 l2 l3 a b + x) * (dst D l0 l1 l2 l3 1 0 + x) - (dst D l0 l1 l2 l3 a 0 + x) * (dst D l0 l1 l2 l3 1 b + x) = _
  rw [dst_10, dst_ab, dst_a0, dst_1b]
theorem m1_a1 (hL : lengthsF D = [l0, l1, l2, l3]) {a : Nat} (ha : 2 ≤ a) (ha4 : a ≤ 4) : M1F D x a 1 = (l0 * (1 - on D a 0) + f1 D l1 l2 l3 a + x) * (l0 + x) - (l0 * on D a 0 + f1 D l1 l2 l3 a + x) * x := by
  unfold M1F
  rw [if_neg (by omega), gridM_dst hL ha4 (by omega), gridM_dst hL (by omega) (by omega), gridM_dst hL ha4 (by omega), gridM_dst hL (by omega) (by omega), sig2 ha]
  show (dst D l0 l1 l2 l3 a 1 + x) * (dst D l0 l1 l2 l3 1 0 + x) - (dst D l0 l1 l2 l3 a 0 + x) * (dst D l0 l1 l2 l3 1 1 + x) = _
  rw [dst_10, dst_a1, dst_a0, dst_11, Int.zero_add]
theorem m1_1b (hL : lengthsF D = [l0, l1, l2, l3]) {b : Nat} (hb4 : b ≤ 4) (hb : 2 ≤ b) : M1F D x 1 b = (l0 * on D b 0 + f1 D l1 l2 l3 b + x) * (l0 + x) - x * (l0 * (1 - on D b 0) + f1 D l1 l2 l3 b + x) := by
  unfold M1F
  rw [if_neg (by omega), gridM_dst hL (by omega) hb4, gridM_dst hL (by omega) (by omega), gridM_dst hL (by omega) (by omega), gridM_dst hL (by omega) hb4]
  show (dst D l0 l1 l2 l3 0 b + x) * (dst D l0 l1 l2 l3 1 0 + x) - (dst D l0 l1 l2 l3 0 0 + x) * (dst D l0 l1 l2 l3 1 b + x) = _
  rw [dst_10, dst_0b, dst_00, dst_1b, Int.zero_add]
theorem g0_00 (hL : lengthsF D = [l0, l1, l2, l3]) : gridM D x 0 0 = l0 + x := by
  rw [gridM_dst hL (by omega) (by omega)]
  show dst D l0 l1 l2 l3 1 0 + x = _
  rw [dst_10]
theorem stepA (hL : lengthsF D = [l0, l1, l2, l3]) {a b : Nat} (ha : 2 ≤ a) (hb : 2 ≤ b) (ha4 : a ≤ 4) (hb4 : b ≤ 4) :
    M1F D x a b * M1F D x 1 1 - M1F D x a 1 * M1F D x 1 b = gridM D x 0 0 * G1 D l0 l1 l2 l3 x a b := by
  rw [m1_ab hL ha hb ha4 hb4, m1_11 hL, m1_a1 hL ha ha4, m1_1b hL hb4 hb, g0_00 hL]
  exact step1 l0 x (on D a 0) (on D b 0) (f1 D l1 l2 l3 a) (f1 D l1 l2 l3 b) (h1 D l1 l2 l3 a b) (on01 D a 0) (on01 D b 0)
theorem on2 (D : List Int) : on D 2 1 = 1 ∧ on D 2 2 = 0 ∧ on D 2 3 = 0 := ⟨on_one D (by omega), on_zero D (by omega) (by omega) (by omega), on_zero D (by omega) (by omega) (by omega)⟩
theorem on3 (D : List Int) : on D 3 2 = 1 ∧ on D 3 3 = 0 := ⟨on_one D (by omega), on_zero D (by omega) (by omega) (by omega)⟩
theorem on4 (D : List Int) : on D 4 3 = 1 := on_one D (by omega)
theorem g1_22 : G1 D l0 l1 l2 l3 x 2 2 = -2 * l0 * (l1 * ((l0 + 2 * x) + l1)) := by
  obtain ⟨a, b, c⟩ := on2 D
  unfold G1 h1 f1
  rw [a, b, c]; grind
theorem g1_a2 (a : Nat) : G1 D l0 l1 l2 l3 x a 2 = -2 * l0 * (l1 * (on D a 1 * (l0 + 2 * x) + f1 D l1 l2 l3 a)) := by
  obtain ⟨p, q, r⟩ := on2 D
  have e : f1 D l1 l2 l3 2 = l1 := by unfold f1; rw [p, q, r]; grind
  unfold G1
  rw [e]
  unfold h1
  rw [p, q, r]; grind
theorem g1_2b (a : Nat) : G1 D l0 l1 l2 l3 x 2 a = -2 * l0 * (l1 * (on D a 1 * (l0 + 2 * x) + f1 D l1 l2 l3 a)) := by
  obtain ⟨p, q, r⟩ := on2 D
  have e : f1 D l1 l2 l3 2 = l1 := by unfold f1; rw [p, q, r]; grind
  unfold G1
  rw [e]
  unfold h1
  rw [p, q, r]; grind
theorem stepB (hL : lengthsF D = [l0, l1, l2, l3]) (a b : Nat) :
    G1 D l0 l1 l2 l3 x a b * G1 D l0 l1 l2 l3 x 2 2 - G1 D l0 l1 l2 l3 x a 2 * G1 D l0 l1 l2 l3 x 2 b = M1F D x 1 1 * G2 D l0 l1 l2 l3 x a b := by
  rw [g1_22, g1_a2, g1_2b, m1_11 hL]
  have h := poly (-2 * l0) (h1 D l1 l2 l3 a b) (l0 + 2 * x) (f1 D l1 l2 l3 a) (f1 D l1 l2 l3 b) l1 (on D a 1) (on D b 1)
  have e1 : h1 D l1 l2 l3 a b - l1 * (on D a 1 * on D b 1) = h2 D l2 l3 a b := by unfold h1 h2; grind
  have e2 : ∀ a, f1 D l1 l2 l3 a - l1 * on D a 1 = f2 D l2 l3 a := fun a => by unfold f1 f2; grind
  rw [e1, e2 a, e2 b] at h
  show -2 * l0 * (h1 D l1 l2 l3 a b * (l0 + 2 * x) + f1 D l1 l2 l3 a * f1 D l1 l2 l3 b) * _ - _ = _
  rw [h]
  unfold G2
  grind
theorem g2_33 : G2 D l0 l1 l2 l3 x 3 3 = 4 * (l0 * l1) * (l2 * ((l0 + l1 + 2 * x) + l2)) := by
  obtain ⟨a, b⟩ := on3 D
  unfold G2 h2 f2
  rw [a, b]; grind
theorem g2_a3 (a : Nat) : G2 D l0 l1 l2 l3 x a 3 = 4 * (l0 * l1) * (l2 * (on D a 2 * (l0 + l1 + 2 * x) + f2 D l2 l3 a)) := by
  obtain ⟨p, q⟩ := on3 D
  have e : f2 D l2 l3 3 = l2 := by unfold f2; rw [p, q]; grind
  unfold G2
  rw [e]
  unfold h2
  rw [p, q]; grind
theorem g2_3b (a : Nat) : G2 D l0 l1 l2 l3 x 3 a = 4 * (l0 * l1) * (l2 * (on D a 2 * (l0 + l1 + 2 * x) + f2 D l2 l3 a)) := by
  obtain ⟨p, q⟩ := on3 D
  have e : f2 D l2 l3 3 = l2 := by unfold f2; rw [p, q]; grind
  unfold G2
  rw [e]
  unfold h2
  rw [p, q]; grind
theorem stepC (a b : Nat) :
    G2 D l0 l1 l2 l3 x a b * G2 D l0 l1 l2 l3 x 3 3 - G2 D l0 l1 l2 l3 x a 3 * G2 D l0 l1 l2 l3 x 3 b = G1 D l0 l1 l2 l3 x 2 2 * G3 D l0 l1 l2 l3 x a b := by
  rw [g1_22, g2_33, g2_a3, g2_3b]
  have h := poly (4 * (l0 * l1)) (h2 D l2 l3 a b) (l0 + l1 + 2 * x) (f2 D l2 l3 a) (f2 D l2 l3 b) l2 (on D a 2) (on D b 2)
  have e1 : h2 D l2 l3 a b - l2 * (on D a 2 * on D b 2) = h3 D l3 a b := by unfold h3 h2; grind
  have e2 : ∀ a, f2 D l2 l3 a - l2 * on D a 2 = f3 D l3 a := fun a => by unfold f3 f2; grind
  rw [e1, e2 a, e2 b] at h
  show 4 * (l0 * l1) * (h2 D l2 l3 a b * (l0 + l1 + 2 * x) + f2 D l2 l3 a * f2 D l2 l3 b) * _ - _ = _
  rw [h]
  unfold G3
  grind
theorem g3_44 : G3 D l0 l1 l2 l3 x 4 4 = -8 * (l0 * l1 * l2) * (l3 * ((l0 + l1 + l2 + 2 * x) + l3)) := by
  have a := on4 D
  unfold G3 h3 f3
  rw [a]; grind
end
end Mine
end
section
namespace Mine
theorem sz_G {C h V f g : Int} (hC : C.natAbs ≤ 2 ^ 13) (hh : 0 ≤ h ∧ h ≤ 32) (hV : 0 ≤ V ∧ V ≤ 2 ^ 32) (hf : 0 ≤ f ∧ f ≤ 32) (hg : 0 ≤ g ∧ g ≤ 32) : (C * (h * V + f * g)).natAbs < 2 ^ 90 := by
  have a1 : 0 ≤ h * V := Int.mul_nonneg hh.1 hV.1
  have a2 : h * V ≤ 32 * 2 ^ 32 := Int.mul_le_mul hh.2 hV.2 hV.1 (by decide)
  have a3 : 0 ≤ f * g := Int.mul_nonneg hf.1 hg.1
  have a4 : f * g ≤ 32 * 32 := Int.mul_le_mul hf.2 hg.2 hg.1 (by decide)
  rw [Int.natAbs_mul]
  have a5 : (h * V + f * g).natAbs ≤ 2 ^ 38 := by omega
  exact Nat.lt_of_le_of_lt (Nat.mul_le_mul hC a5) (by decide)
theorem sz_2 {a b c d : Int} (ha : a.natAbs ≤ 2 ^ 40) (hb : b.natAbs ≤ 2 ^ 40) (hc : c.natAbs ≤ 2 ^ 40) (hd : d.natAbs ≤ 2 ^ 40) : (a * b - c * d).natAbs < 2 ^ 90 := by
  have h1 := Nat.mul_le_mul ha hb
  have h2 := Nat.mul_le_mul hc hd
  rw [← Int.natAbs_mul] at h1 h2
  omega
section
variable {D : List Int} {l0 l1 l2 l3 x : Int}
theorem mul_on {l : Int} (hl : 1 ≤ l ∧ l ≤ 8) {o : Int} (ho : o = 0 ∨ o = 1) : 0 ≤ l * o ∧ l * o ≤ 8 := by
  rcases ho with rfl | rfl <;> omega
theorem on_on (D : List Int) (a b e : Nat) : on D a e * on D b e = 0 ∨ on D a e * on D b e = 1 := by
  rcases on01 D a e with h | h <;> rcases on01 D b e with q | q <;> rw [h, q] <;> simp
theorem on_x (D : List Int) (a b e : Nat) : on D a e + on D b e - 2 * (on D a e * on D b e) = 0 ∨ on D a e + on D b e - 2 * (on D a e * on D b e) = 1 := by
  rcases on01 D a e with h | h <;> rcases on01 D b e with q | q <;> rw [h, q] <;> simp
theorem dst_sz (q0 : 1 ≤ l0 ∧ l0 ≤ 8) (q1 : 1 ≤ l1 ∧ l1 ≤ 8) (q2 : 1 ≤ l2 ∧ l2 ≤ 8) (q3 : 1 ≤ l3 ∧ l3 ≤ 8) (a b : Nat) : 0 ≤ dst D l0 l1 l2 l3 a b ∧ dst D l0 l1 l2 l3 a b ≤ 32 := by
  have a0 := mul_on q0 (on_x D a b 0)
  have a1 := mul_on q1 (on_x D a b 1)
  have a2 := mul_on q2 (on_x D a b 2)
  have a3 := mul_on q3 (on_x D a b 3)
  unfold dst
  omega
theorem f1_sz (q1 : 1 ≤ l1 ∧ l1 ≤ 8) (q2 : 1 ≤ l2 ∧ l2 ≤ 8) (q3 : 1 ≤ l3 ∧ l3 ≤ 8) (a : Nat) : 0 ≤ f1 D l1 l2 l3 a ∧ f1 D l1 l2 l3 a ≤ 32 := by
  have a1 := mul_on q1 (on01 D a 1)
  have a2 := mul_on q2 (on01 D a 2)
  have a3 := mul_on q3 (on01 D a 3)
  unfold f1; omega
theorem f2_sz (q2 : 1 ≤ l2 ∧ l2 ≤ 8) (q3 : 1 ≤ l3 ∧ l3 ≤ 8) (a : Nat) : 0 ≤ f2 D l2 l3 a ∧ f2 D l2 l3 a ≤ 32 := by
  have a2 := mul_on q2 (on01 D a 2)
  have a3 := mul_on q3 (on01 D a 3)
  unfold f2; omega
theorem f3_sz (q3 : 1 ≤ l3 ∧ l3 ≤ 8) (a : Nat) : 0 ≤ f3 D l3 a ∧ f3 D l3 a ≤ 32 := by
  have a3 := mul_on q3 (on01 D a 3)
  unfold f3; omega
theorem h1_sz (q1 : 1 ≤ l1 ∧ l1 ≤ 8) (q2 : 1 ≤ l2 ∧ l2 ≤ 8) (q3 : 1 ≤ l3 ∧ l3 ≤ 8) (a b : Nat) : 0 ≤ h1 D l1 l2 l3 a b ∧ h1 D l1 l2 l3 a b ≤ 32 := by
  have a1 := mul_on q1 (on_on D a b 1)
  have a2 := mul_on q2 (on_on D a b 2)
  have a3 := mul_on q3 (on_on D a b 3)
  unfold h1; omega
theorem h2_sz (q2 : 1 ≤ l2 ∧ l2 ≤ 8) (q3 : 1 ≤ l3 ∧ l3 ≤ 8) (a b : Nat) : 0 ≤ h2 D l2 l3 a b ∧ h2 D l2 l3 a b ≤ 32 := by
  have a2 := mul_on q2 (on_on D a b 2)
  have a3 := mul_on q3 (on_on D a b 3)
  unfold h2; omega
theorem h3_sz (q3 : 1 ≤ l3 ∧ l3 ≤ 8) (a b : Nat) : 0 ≤ h3 D l3 a b ∧ h3 D l3 a b ≤ 32 := by
  have a3 := mul_on q3 (on_on D a b 3)
  unfold h3; omega
theorem prod_sz {a b : Int} {m n : Int} (ha : 1 ≤ a ∧ a ≤ m) (hb : 1 ≤ b ∧ b ≤ n) : 1 ≤ a * b ∧ a * b ≤ m * n :=
  ⟨Int.le_trans (by decide) (Int.mul_le_mul ha.1 hb.1 (by decide) (by omega)), Int.mul_le_mul ha.2 hb.2 (by omega) (by omega)⟩
theorem piv_sg (hL : lengthsF D = [l0, l1, l2, l3]) (hx : 0 ≤ x) (hx2 : x < 10 ^ 9) (q0 : 1 ≤ l0 ∧ l0 ≤ 8) (q1 : 1 ≤ l1 ∧ l1 ≤ 8) (q2 : 1 ≤ l2 ∧ l2 ≤ 8) (q3 : 1 ≤ l3 ∧ l3 ≤ 8) {a b : Nat} (ha : a ≤ 4) (hb : b ≤ 4) : (gridM D x a b).natAbs ≤ 2 ^ 40 := by
  rw [gridM_dst hL ha hb]
  have h := dst_sz (D := D) q0 q1 q2 q3 (sig a) b
  clear hL q0 q1 q2 q3
  omega
theorem lt_90 {a : Int} (h : a.natAbs ≤ 2 ^ 40) : a.natAbs < 2 ^ 90 := Nat.lt_of_le_of_lt h (by decide)
theorem u_sz {u : Int} (hu : 0 ≤ u ∧ u ≤ 16) (hx : 0 ≤ x) (hx2 : x < 10 ^ 9) : 0 ≤ u + 2 * x ∧ u + 2 * x ≤ 2 ^ 32 := by omega
theorem c_sz {c : Int} (h : 1 ≤ c ∧ c ≤ 512) : (-2 * c).natAbs ≤ 2 ^ 13 ∧ (4 * c).natAbs ≤ 2 ^ 13 ∧ (-8 * c).natAbs ≤ 2 ^ 13 := by omega
theorem piv_sz (hL : lengthsF D = [l0, l1, l2, l3]) (hx : 0 ≤ x) (hx2 : x < 10 ^ 9) (q0 : 1 ≤ l0 ∧ l0 ≤ 8) (q1 : 1 ≤ l1 ∧ l1 ≤ 8) (q2 : 1 ≤ l2 ∧ l2 ≤ 8) (q3 : 1 ≤ l3 ∧ l3 ≤ 8) {a b : Nat} (ha : a ≤ 4) (hb : b ≤ 4) :
    (gridM D x a b).natAbs < 2 ^ 90 ∧ (M1F D x a b).natAbs < 2 ^ 90 ∧ (M2F D l0 l1 l2 l3 x a b).natAbs < 2 ^ 90 ∧ (M3F D l0 l1 l2 l3 x a b).natAbs < 2 ^ 90 ∧ (M4F D l0 l1 l2 l3 x a b).natAbs < 2 ^ 90 := by
  have p1 := prod_sz q0 q1
  have p2 := prod_sz p1 q2
  have z4 : (0 : Nat) ≤ 4 := by decide
  have s0 := lt_90 (piv_sg hL hx hx2 q0 q1 q2 q3 ha hb)
  have s1 : (M1F D x a b).natAbs < 2 ^ 90 := by
    unfold M1F
    split
    · exact s0
    · exact sz_2 (piv_sg hL hx hx2 q0 q1 q2 q3 ha hb) (piv_sg hL hx hx2 q0 q1 q2 q3 z4 z4) (piv_sg hL hx hx2 q0 q1 q2 q3 ha z4) (piv_sg hL hx hx2 q0 q1 q2 q3 z4 hb)
  have s2 : (M2F D l0 l1 l2 l3 x a b).natAbs < 2 ^ 90 := by
    unfold M2F
    split
    · exact s1
    · exact sz_G (c_sz (c := l0) ⟨q0.1, Int.le_trans q0.2 (by decide)⟩).1 (h1_sz q1 q2 q3 a b) (u_sz ⟨Int.le_trans (by decide) q0.1, Int.le_trans q0.2 (by decide)⟩ hx hx2) (f1_sz q1 q2 q3 a) (f1_sz q1 q2 q3 b)
  have s3 : (M3F D l0 l1 l2 l3 x a b).natAbs < 2 ^ 90 := by
    unfold M3F
    split
    · exact s2
    · exact sz_G (c_sz (c := l0 * l1) ⟨p1.1, Int.le_trans p1.2 (by decide)⟩).2.1 (h2_sz q2 q3 a b) (u_sz ⟨Int.add_nonneg (Int.le_trans (by decide) q0.1) (Int.le_trans (by decide) q1.1), Int.add_le_add q0.2 q1.2⟩ hx hx2) (f2_sz q2 q3 a) (f2_sz q2 q3 b)
  have s4 : (M4F D l0 l1 l2 l3 x a b).natAbs < 2 ^ 90 := by
    unfold M4F
    split
    · exact s3
    · refine sz_G (c_sz (c := l0 * l1 * l2) ⟨p2.1, Int.le_trans p2.2 (by decide)⟩).2.2 (h3_sz q3 a b) ?_ (f3_sz q3 a) (f3_sz q3 b)
      clear hL s0 s1 s2 s3 p1 p2 q3
      omega
  exact ⟨s0, s1, s2, s3, s4⟩
theorem m2F {a b : Nat} (ha : 2 ≤ a) (hb : 2 ≤ b) : M2F D l0 l1 l2 l3 x a b = G1 D l0 l1 l2 l3 x a b := if_neg (by omega)
theorem m3F {a b : Nat} (ha : 3 ≤ a) (hb : 3 ≤ b) : M3F D l0 l1 l2 l3 x a b = G2 D l0 l1 l2 l3 x a b := if_neg (by omega)
theorem m4F {a b : Nat} (ha : 4 ≤ a) (hb : 4 ≤ b) : M4F D l0 l1 l2 l3 x a b = G3 D l0 l1 l2 l3 x a b := if_neg (by omega)
theorem fourN {k : Nat} (h : k < 4) : k = 0 ∨ k = 1 ∨ k = 2 ∨ k = 3 := by omega
theorem piv_step (hL : lengthsF D = [l0, l1, l2, l3]) (k a b : Nat) (hk : k < 4) (ha : k < a) (ha5 : a < 5) (hb : k < b) (hb5 : b < 5) :
    MM D l0 l1 l2 l3 x k a b * MM D l0 l1 l2 l3 x k k k - MM D l0 l1 l2 l3 x k a k * MM D l0 l1 l2 l3 x k k b = bef (MM D l0 l1 l2 l3 x) k * MM D l0 l1 l2 l3 x (k + 1) a b := by
  have a4 := Nat.le_of_lt_succ ha5
  have b4 := Nat.le_of_lt_succ hb5
  have ka : k + 1 ≤ a := ha
  have kb : k + 1 ≤ b := hb
  clear ha ha5 hb hb5
  rcases fourN hk with rfl | rfl | rfl | rfl
  · show gridM D x a b * gridM D x 0 0 - gridM D x a 0 * gridM D x 0 b = 1 * M1F D x a b
    unfold M1F
    rw [if_neg (by clear hL; omega), Int.one_mul]
  · show M1F D x a b * M1F D x 1 1 - M1F D x a 1 * M1F D x 1 b = gridM D x 0 0 * M2F D l0 l1 l2 l3 x a b
    rw [m2F ka kb, stepA hL ka kb a4 b4]
  · show M2F D l0 l1 l2 l3 x a b * M2F D l0 l1 l2 l3 x 2 2 - M2F D l0 l1 l2 l3 x a 2 * M2F D l0 l1 l2 l3 x 2 b = M1F D x 1 1 * M3F D l0 l1 l2 l3 x a b
    have a2 : 2 ≤ a := Nat.le_of_succ_le ka
    have b2 : 2 ≤ b := Nat.le_of_succ_le kb
    rw [m2F a2 b2, m2F (Nat.le_refl 2) (Nat.le_refl 2), m2F a2 (Nat.le_refl 2), m2F (Nat.le_refl 2) b2, m3F ka kb, stepB hL]
  · show M3F D l0 l1 l2 l3 x a b * M3F D l0 l1 l2 l3 x 3 3 - M3F D l0 l1 l2 l3 x a 3 * M3F D l0 l1 l2 l3 x 3 b = M2F D l0 l1 l2 l3 x 2 2 * M4F D l0 l1 l2 l3 x a b
    have a3 : 3 ≤ a := Nat.le_of_succ_le ka
    have b3 : 3 ≤ b := Nat.le_of_succ_le kb
    rw [m3F a3 b3, m3F (Nat.le_refl 3) (Nat.le_refl 3), m3F a3 (Nat.le_refl 3), m3F (Nat.le_refl 3) b3, m2F (Nat.le_refl 2) (Nat.le_refl 2), m4F ka kb, stepC]
theorem nz_1 {y : Int} (h : 1 ≤ y) : y ≠ 0 ∧ -2 * y ≠ 0 := by omega
theorem piv_ne (hL : lengthsF D = [l0, l1, l2, l3]) (hx : 0 ≤ x) (q0 : 1 ≤ l0) (q1 : 1 ≤ l1) (k : Nat) (hk : k < 4) : bef (MM D l0 l1 l2 l3 x) k ≠ 0 := by
  have m1 : ∀ {a b : Int}, 1 ≤ a → 1 ≤ b → 1 ≤ a * b := fun ha hb => Int.le_trans (by decide) (Int.mul_le_mul ha hb (by decide) (Int.le_trans (by decide) ha))
  rcases fourN hk with rfl | rfl | rfl | rfl
  · show (1 : Int) ≠ 0
    decide
  · show gridM D x 0 0 ≠ 0
    rw [g0_00 hL]
    exact (nz_1 (by clear hL m1; omega)).1
  · show M1F D x 1 1 ≠ 0
    rw [m1_11 hL]
    exact (nz_1 (m1 q0 (by clear hL m1; omega))).1
  · show M2F D l0 l1 l2 l3 x 2 2 ≠ 0
    rw [m2F (Nat.le_refl 2) (Nat.le_refl 2), g1_22]
    have e : -2 * l0 * (l1 * (l0 + 2 * x + l1)) = -2 * (l0 * (l1 * (l0 + 2 * x + l1))) := by grind
    rw [e]
    exact (nz_1 (m1 q0 (m1 q1 (by clear hL m1 e; omega)))).2
theorem piv_list (hL : lengthsF D = [l0, l1, l2, l3]) : pivs (MM D l0 l1 l2 l3 x) 4 = dueF l0 l1 l2 l3 x := by
  show [gridM D x 0 0, M1F D x 1 1, M2F D l0 l1 l2 l3 x 2 2, M3F D l0 l1 l2 l3 x 3 3, M4F D l0 l1 l2 l3 x 4 4] = _
  rw [m2F (Nat.le_refl 2) (Nat.le_refl 2), m3F (Nat.le_refl 3) (Nat.le_refl 3), m4F (Nat.le_refl 4) (Nat.le_refl 4), g0_00 hL, m1_11 hL, g1_22, g2_33, g3_44]
  clear hL
  unfold dueF
  congr 1
  congr 1
  · grind
  congr 1
  · grind
  congr 1
  · grind
  congr 1
  · grind
theorem piv_ok (hL : lengthsF D = [l0, l1, l2, l3]) (hx : 0 ≤ x) (hx2 : x < 10 ^ 9) : ∃ M, PivH M ∧ M 0 = gridM D x ∧ pivs M 4 = dueF l0 l1 l2 l3 x := by
  have hl := lens_ok D
  rw [hL] at hl
  have q0 := hl l0 (.head _)
  have q1 := hl l1 (.tail _ (.head _))
  have q2 := hl l2 (.tail _ (.tail _ (.head _)))
  have q3 := hl l3 (.tail _ (.tail _ (.tail _ (.head _))))
  refine ⟨MM D l0 l1 l2 l3 x, ⟨piv_step hL, fun k a b hk ha hb h => ?_, piv_ne hL hx q0.1 q1.1, fun k a b hk ha hb => ?_⟩, rfl, piv_list hL⟩
  · rcases fourN hk with rfl | rfl | rfl | rfl
    · exact if_pos h
    · exact if_pos h
    · exact if_pos h
    · exact if_pos h
  · have s := piv_sz hL hx hx2 q0 q1 q2 q3 (Nat.le_of_lt_succ ha) (Nat.le_of_lt_succ hb)
    rcases five (Nat.lt_succ_of_le hk) with rfl | rfl | rfl | rfl | rfl
    · exact s.1
    · exact s.2.1
    · exact s.2.2.1
    · exact s.2.2.2.1
    · exact s.2.2.2.2
end
theorem plain_ok (D : List Int) : Plain D where
  short := short_ok D
  split := split_ok D
  small := small_ok D
  lens := lens_ok D
  way := way_ok D
  piv := fun _ _ _ _ _ hx hx2 hL => piv_ok hL hx hx2
end Mine
end
namespace Mine
section
local macro_rules | `(tactic| walk_at $s:str) => `(tactic| k_extra $s)
local macro_rules | `(tactic| is_list) => `(tactic| exact News.isList (by k_asm) (by k_mem))
local macro_rules | `(tactic| k_mem) => `(tactic| first | exact List.mem_cons_self | (with_reducible assumption) | (refine List.mem_cons_of_mem _ ?_; k_mem))
local macro_rules | `(tactic| walk_at "binaryOp Pow int int") => `(tactic| (k_here; (with_reducible refine pow_int_small ?ka ?kb ?kc ?_); (case ka => decide); (case kb => decide); (case kc => decide)))
section
theorem c_numbers (w : World) (mean : ExcName → Option Value) (mg mb : Str → Option Value) (news : Led) (l : Addr) (vs : List Value) (ns : List Int) :
  ∀ (dp un : Nat) (gd : Option (List Code)) (cn : Str) (cs : Scope) (a : Addr) (ccd : Value) (cl : List (Str × Addr)) (outer : List Env) (A₀ : Around) (base h₀ : Heap) (L : Addr) (m : Str → Option Value) (s : Shared) (Q E : Value → Shared → Prop),
    Below A₀ base outer h₀ → Fr h₀ L s.heap m → (hd0.heap_39 w.params).In h₀ → News h₀ L s.heap news →
    Top hd0.view_39 (looseW hd0.view_39 [Str.ofString "_twin_re_1", Str.ofString "_twin_re_2"]) mean mg mb h₀ → cs.kind = .function → dp + 4 < recursionLimit → un + 40 < cLine →
    base.IsList l vs.toArray → IntsAre vs ns → ns.length ≤ 63 →
    (∀ v nw h' tk', (∃ l items, v = .ref l ∧ nw = [(l, listOf items.toArray 0)] ∧ IntsAre items (drawnOf ns) ∧ (∀ p ∈ news, p.1 < l)) → Fr h₀ L h' m → News h₀ L h' (nw ++ news) → Q v { s with heap := h', toks := tk' }) →
      wpAny (model PySem.Challenge.rw_sw0012_01.row.prog w) (ktrTop dp un gd cn cs L a ccd cl outer) (call (.ref 102) [.ref l]) Q E s := by
  k_with_none
  (k_with "mine_in" => (first | exact List.Mem.head _ | (refine List.Mem.tail _ ?_; walk_at "mine_in")))
  (k_with "mine_sub" => (first | exact sub_refl | (refine sub_cons (by walk_at "mine_in") (by walk_at "mine_sub")) | (refine sub_tail ?_; walk_at "mine_sub") | exact List.forall_mem_nil _))
  (k_with "subscriptTail Name Slice ref ref" => ((k_here; (with_reducible show wpAny _ _ (subscriptTail _ (PySem.Expr.Slice (some _) none none _) (Value.ref _) (Value.ref _)) _ _ _); k_dflt (refine' sliceFrom_K (by k_asm) (by k_asm) (by kmk_list) (by l_ints) ?_ (by with_unfolding_all rfl) (by kmk_pure) (by kmk_size)); intro D' ws' h' F' N' l1 hI'; (try k_lt l1); (try k_sweep))))
  (k_with "subscriptTail List" => ((k_here; (with_reducible show wpAny _ _ (subscriptTail _ (PySem.Expr.Slice (some _) none none _) (Value.ref _) (Value.ref _)) _ _ _); k_dflt (refine' sliceFrom_K (by k_asm) (by k_asm) (by kmk_list) (by l_ints) ?_ (by with_unfolding_all rfl) (by kmk_pure) (by kmk_size)); intro D' ws' h' F' N' l1 hI'; (try k_lt l1); (try k_sweep))))
  (k_with "binaryOp Add" => ((k_here; (with_reducible show wpAny _ _ (binaryOp _ (Value.ref _) (Value.ref _)) _ _ _); k_dflt (refine' add_K (by k_asm) (by k_asm) (by k_mem) (by k_mem) ?_ (by walk_at "mine_add_size")); intro l' h' F' N' l1; (try k_lt l1); (try k_sweep))))
  (k_with "binaryOp Mult int int" => ((k_here; (with_reducible refine mul_int ?_ (sz_mul (by with_reducible assumption) (by with_reducible assumption))))))
  (k_with "binaryOp FloorDiv int int" => ((k_here; (with_reducible refine floordiv_int (by with_reducible assumption) ?_ (Or.inl (sz_py (by with_reducible assumption)))))))
  (k_with "subscriptTail Name Constant ref int" => ((k_here; (with_reducible show wpAny _ _ (subscriptTail _ _ (Value.ref _) (Value.int _ _)) _ _ _); k_dflt (refine item_K (by k_asm) (by k_mem) (by decide) (by decide) (by exact rfl) ?_ (by with_unfolding_all rfl) (by kmk_pure)))))
  (k_with "subscriptTail Name Name ref int" => ((k_here; (with_reducible show wpAny _ _ (subscriptTail _ _ (Value.ref _) (Value.int _ _)) _ _ _); k_dflt (refine item_K (by k_asm) (by k_mem) (by decide) (by decide) (by exact rfl) ?_ (by with_unfolding_all rfl) (by kmk_pure)))))
  (k_with "call builtin:str.replace" => ((k_here; (refine replace_K (by first | omega | (simp; done) | (simp; omega)) (by first | omega | (simp; done) | (simp; omega)) (by first | omega | (simp; done) | (simp; omega)) (by k_extra "mine_yz") (by k_extra "mine_xl") (by k_extra "mine_zl") ?_); intro rr tr kr hrr)))
  (k_with "pyIter ref" => ((k_extra "mine_halt"; refine Halt.mk ?_)))
  (k_with "subscriptTail Name BinOp ref int" => (k_extra "mine_itemB"))
  (k_with "InvEndN" => ((k_extra "mine_halt"; refine Halt.mk ?_)))
  (k_with "binaryOp Add str str" => (k_extra "mine_addS"))
  (k_with "mine_kend2" => ((rename News _ _ _ _ => nE'; rename Fr _ _ _ _ => fE'; (try simp only [List.push_toArray] at nE'); refine' kst_end (_, _) fE' nE' (by first | kst_in | kst_inAny) (by first | (intro p hp; kst_mem) | kst_anyIn) (by rfl) (by k_extra "mine_facts") (by kst_all) (by kst_same) (by ((try dsimp only); k_extra "mine_end")))))
  (k_with "mine_kend3" => ((rename News _ _ _ _ => nE'; rename Fr _ _ _ _ => fE'; (try simp only [List.push_toArray] at nE'); refine' kst_end (_, _, _) fE' nE' (by first | kst_in | kst_inAny) (by first | (intro p hp; kst_mem) | kst_anyIn) (by rfl) (by k_extra "mine_facts") (by kst_all) (by kst_same) (by ((try dsimp only); k_extra "mine_end")))))
  (k_with "mine_kend5" => ((rename News _ _ _ _ => nE'; rename Fr _ _ _ _ => fE'; (try simp only [List.push_toArray] at nE'); refine' kst_end (_, _, _, _, _) fE' nE' (by first | kst_in | kst_inAny) (by first | (intro p hp; kst_mem) | kst_anyIn) (by rfl) (by k_extra "mine_facts") (by kst_all) (by kst_same) (by ((try dsimp only); k_extra "mine_end")))))
  (k_with "exec While" => ((k_extra "mine_halt"; refine Halt.mk ?_)))
  (k_with "KswEnd" => ((k_extra "mine_halt"; refine Halt.mk ?_)))
  (k_with "mine_wend2" => ((rename News _ _ _ _ => nE'; rename Fr _ _ _ _ => fE'; (try simp only [List.push_toArray] at nE'); refine' ksw_end (_, _) fE' nE' (by first | kst_in | kst_inAny) (by k_extra "mine_facts") (by kst_all) (by ksw_same) (by ((try dsimp only); k_extra "mine_end")) (by ((try dsimp only); k_extra "mine_less")))))
  (k_with "mine_wend6" => ((rename News _ _ _ _ => nE'; rename Fr _ _ _ _ => fE'; (try simp only [List.push_toArray] at nE'); refine' ksw_end (_, _, _, _, _, _) fE' nE' (by first | kst_in | kst_inAny) (by k_extra "mine_facts") (by kst_all) (by ksw_same) (by ((try dsimp only); k_extra "mine_end")) (by ((try dsimp only); k_extra "mine_less")))))
  (k_with "ExitW" => ((k_extra "mine_halt"; refine Halt.mk ?_)))
  (k_with "eval Subscript" => (k_extra "mine_evalS"))
  (k_with "mine_xend2" => ((rename News _ _ _ _ => nE'; rename Fr _ _ _ _ => fE'; (try simp only [List.push_toArray] at nE'); refine' exit_end (_, _) fE' nE' (by first | kst_in | kst_inAny) (by k_extra "mine_facts") (by kst_all) (by ksw_same) (by ((try dsimp only); k_extra "mine_done")))))
  (k_with "mine_xend4" => ((rename News _ _ _ _ => nE'; rename Fr _ _ _ _ => fE'; (try simp only [List.push_toArray] at nE'); refine' exit_end (_, _, _, _) fE' nE' (by first | kst_in | kst_inAny) (by k_extra "mine_facts") (by kst_all) (by ksw_same) (by ((try dsimp only); k_extra "mine_done")))))
  (k_with "subscriptTail Name Slice str ref" => (((with_reducible show wpAny _ _ (subscriptTail _ (Expr.Slice none (some (Expr.BoolOp _ _ _)) none _) _ _) _ _ _); (with_reducible rename Fr _ _ _ _ => F'); (with_reducible rename News _ _ _ _ => N'); (first | (refine slice_strN_nn_len (s := ⟨_, _, _, _, _⟩) F' N' ?_) | (refine slice_strN_ns_len (s := ⟨_, _, _, _, _⟩) F' N' ?_)); intro _ _ _ _ _ _)))
  (k_with "mine_steps" => (repeat' (first | (k_unfold; (try dsimp only)) | walk1 | (dsimp only; walk1) | (leave1; walk_say "STEP leave1"; try dsimp only) | fail "no step")))
  (k_with "call type:list" => ((k_here; (with_reducible show wpAny _ _ (call (Value.type "list") [Value.ref _]) _ _ _); k_dflt (refine' listRange2_K (by rfl) (by k_asm) (by k_asm) (by assumption) (by omega) ?_); intro Dr yr er hr kr Fr' Nr' lr' Ir; (try k_lt lr'); (try dsimp only); (try k_sweep))))
  (k_with "mine_kend9" => ((rename News _ _ _ _ => nE'; rename Fr _ _ _ _ => fE'; (try simp only [List.push_toArray] at nE'); refine' kst_end (_, _, _, _, _, _, _, _, _) fE' nE' (by first | kst_in | kst_inAny) (by first | (intro p hp; kst_mem) | kst_anyIn) (by rfl) (by k_extra "mine_facts") (by kst_all) (by kst_same) (by ((try dsimp only); k_extra "mine_end")))))
  (k_with "setItem ref int" => ((k_here; (with_reducible show wpAny _ _ (setItem (Value.ref _) (Value.int _ _) (Value.int _ _)) _ _ _); k_dflt (refine' ksa_set (by k_asm) (by k_asm) (by (refine' Upd.head (by k_extra "mine_off"))) (by with_reducible assumption) (by ksa_idx) (by ksa_idx) (by ksa_idx) ?_; k_whole); intro h' F' N' I' lI' sI'; (try clear sI'); (try dsimp only at N'); (try k_sweep))))
  (k_with "mine_room" => (first | exact room_g (by with_reducible assumption) (by decide) | ktr_room))
  (k_with "mine_units" => (first | exact units_g (by with_reducible assumption) (by decide) | ktr_units))
  (k_with "mine_add_size" => (exact numbers_size (by assumption) (by assumption)))
  k_fill
  intros; rename_i hret
  refine wpAny_call ?_
  k_dflt cell_enter
  walk_at "mine_steps"
  rename IntsAre _ (List.drop _ _) => q1
  rename IntsAre _ (List.map _ _) => q2
  refine hret _ [(_, _)] _ _ ⟨_, _, rfl, rfl, drawnOf_of q2 q1, ?_⟩ (by assumption) ?_
  · exact of_allLt (by simp only [AllLt] at *; simp_all)
  · refine news_sub (by assumption) ?_
    walk_at "mine_sub"
end
section
theorem c_add (w : World) (mean : ExcName → Option Value) (mg mb : Str → Option Value) (news : Led) (x y : Int) (t1 t2 : Tok) (hx : Sz x) (hy : Sz y) :
    CtrL w mean mg mb 52 [.int x t1, .int y t2] news (fun v nw => ∃ t, v = .int (x + y) t ∧ nw = []) := by
  k_with_none
  (k_with "mine_in" => (first | exact List.Mem.head _ | (refine List.Mem.tail _ ?_; walk_at "mine_in")))
  (k_with "mine_sub" => (first | exact sub_refl | (refine sub_cons (by walk_at "mine_in") (by walk_at "mine_sub")) | (refine sub_tail ?_; walk_at "mine_sub") | exact List.forall_mem_nil _))
  (k_with "subscriptTail Name Slice ref ref" => ((k_here; (with_reducible show wpAny _ _ (subscriptTail _ (PySem.Expr.Slice (some _) none none _) (Value.ref _) (Value.ref _)) _ _ _); k_dflt (refine' sliceFrom_K (by k_asm) (by k_asm) (by kmk_list) (by l_ints) ?_ (by with_unfolding_all rfl) (by kmk_pure) (by kmk_size)); intro D' ws' h' F' N' l1 hI'; (try k_lt l1); (try k_sweep))))
  (k_with "subscriptTail List" => ((k_here; (with_reducible show wpAny _ _ (subscriptTail _ (PySem.Expr.Slice (some _) none none _) (Value.ref _) (Value.ref _)) _ _ _); k_dflt (refine' sliceFrom_K (by k_asm) (by k_asm) (by kmk_list) (by l_ints) ?_ (by with_unfolding_all rfl) (by kmk_pure) (by kmk_size)); intro D' ws' h' F' N' l1 hI'; (try k_lt l1); (try k_sweep))))
  (k_with "binaryOp Add" => ((k_here; (with_reducible show wpAny _ _ (binaryOp _ (Value.ref _) (Value.ref _)) _ _ _); k_dflt (refine' add_K (by k_asm) (by k_asm) (by k_mem) (by k_mem) ?_ (by walk_at "mine_add_size")); intro l' h' F' N' l1; (try k_lt l1); (try k_sweep))))
  (k_with "binaryOp Mult int int" => ((k_here; (with_reducible refine mul_int ?_ (sz_mul (by with_reducible assumption) (by with_reducible assumption))))))
  (k_with "binaryOp FloorDiv int int" => ((k_here; (with_reducible refine floordiv_int (by with_reducible assumption) ?_ (Or.inl (sz_py (by with_reducible assumption)))))))
  (k_with "subscriptTail Name Constant ref int" => ((k_here; (with_reducible show wpAny _ _ (subscriptTail _ _ (Value.ref _) (Value.int _ _)) _ _ _); k_dflt (refine item_K (by k_asm) (by k_mem) (by decide) (by decide) (by exact rfl) ?_ (by with_unfolding_all rfl) (by kmk_pure)))))
  (k_with "subscriptTail Name Name ref int" => ((k_here; (with_reducible show wpAny _ _ (subscriptTail _ _ (Value.ref _) (Value.int _ _)) _ _ _); k_dflt (refine item_K (by k_asm) (by k_mem) (by decide) (by decide) (by exact rfl) ?_ (by with_unfolding_all rfl) (by kmk_pure)))))
  (k_with "call builtin:str.replace" => ((k_here; (refine replace_K (by first | omega | (simp; done) | (simp; omega)) (by first | omega | (simp; done) | (simp; omega)) (by first | omega | (simp; done) | (simp; omega)) (by k_extra "mine_yz") (by k_extra "mine_xl") (by k_extra "mine_zl") ?_); intro rr tr kr hrr)))
  (k_with "pyIter ref" => ((k_extra "mine_halt"; refine Halt.mk ?_)))
  (k_with "subscriptTail Name BinOp ref int" => (k_extra "mine_itemB"))
  (k_with "InvEndN" => ((k_extra "mine_halt"; refine Halt.mk ?_)))
  (k_with "binaryOp Add str str" => (k_extra "mine_addS"))
  (k_with "mine_kend2" => ((rename News _ _ _ _ => nE'; rename Fr _ _ _ _ => fE'; (try simp only [List.push_toArray] at nE'); refine' kst_end (_, _) fE' nE' (by first | kst_in | kst_inAny) (by first | (intro p hp; kst_mem) | kst_anyIn) (by rfl) (by k_extra "mine_facts") (by kst_all) (by kst_same) (by ((try dsimp only); k_extra "mine_end")))))
  (k_with "mine_kend3" => ((rename News _ _ _ _ => nE'; rename Fr _ _ _ _ => fE'; (try simp only [List.push_toArray] at nE'); refine' kst_end (_, _, _) fE' nE' (by first | kst_in | kst_inAny) (by first | (intro p hp; kst_mem) | kst_anyIn) (by rfl) (by k_extra "mine_facts") (by kst_all) (by kst_same) (by ((try dsimp only); k_extra "mine_end")))))
  (k_with "mine_kend5" => ((rename News _ _ _ _ => nE'; rename Fr _ _ _ _ => fE'; (try simp only [List.push_toArray] at nE'); refine' kst_end (_, _, _, _, _) fE' nE' (by first | kst_in | kst_inAny) (by first | (intro p hp; kst_mem) | kst_anyIn) (by rfl) (by k_extra "mine_facts") (by kst_all) (by kst_same) (by ((try dsimp only); k_extra "mine_end")))))
  (k_with "exec While" => ((k_extra "mine_halt"; refine Halt.mk ?_)))
  (k_with "KswEnd" => ((k_extra "mine_halt"; refine Halt.mk ?_)))
  (k_with "mine_wend2" => ((rename News _ _ _ _ => nE'; rename Fr _ _ _ _ => fE'; (try simp only [List.push_toArray] at nE'); refine' ksw_end (_, _) fE' nE' (by first | kst_in | kst_inAny) (by k_extra "mine_facts") (by kst_all) (by ksw_same) (by ((try dsimp only); k_extra "mine_end")) (by ((try dsimp only); k_extra "mine_less")))))
  (k_with "mine_wend6" => ((rename News _ _ _ _ => nE'; rename Fr _ _ _ _ => fE'; (try simp only [List.push_toArray] at nE'); refine' ksw_end (_, _, _, _, _, _) fE' nE' (by first | kst_in | kst_inAny) (by k_extra "mine_facts") (by kst_all) (by ksw_same) (by ((try dsimp only); k_extra "mine_end")) (by ((try dsimp only); k_extra "mine_less")))))
  (k_with "ExitW" => ((k_extra "mine_halt"; refine Halt.mk ?_)))
  (k_with "eval Subscript" => (k_extra "mine_evalS"))
  (k_with "mine_xend2" => ((rename News _ _ _ _ => nE'; rename Fr _ _ _ _ => fE'; (try simp only [List.push_toArray] at nE'); refine' exit_end (_, _) fE' nE' (by first | kst_in | kst_inAny) (by k_extra "mine_facts") (by kst_all) (by ksw_same) (by ((try dsimp only); k_extra "mine_done")))))
  (k_with "mine_xend4" => ((rename News _ _ _ _ => nE'; rename Fr _ _ _ _ => fE'; (try simp only [List.push_toArray] at nE'); refine' exit_end (_, _, _, _) fE' nE' (by first | kst_in | kst_inAny) (by k_extra "mine_facts") (by kst_all) (by ksw_same) (by ((try dsimp only); k_extra "mine_done")))))
  (k_with "subscriptTail Name Slice str ref" => (((with_reducible show wpAny _ _ (subscriptTail _ (Expr.Slice none (some (Expr.BoolOp _ _ _)) none _) _ _) _ _ _); (with_reducible rename Fr _ _ _ _ => F'); (with_reducible rename News _ _ _ _ => N'); (first | (refine slice_strN_nn_len (s := ⟨_, _, _, _, _⟩) F' N' ?_) | (refine slice_strN_ns_len (s := ⟨_, _, _, _, _⟩) F' N' ?_)); intro _ _ _ _ _ _)))
  (k_with "mine_steps" => (repeat' (first | (k_unfold; (try dsimp only)) | walk1 | (dsimp only; walk1) | (leave1; walk_say "STEP leave1"; try dsimp only) | fail "no step")))
  (k_with "call type:list" => ((k_here; (with_reducible show wpAny _ _ (call (Value.type "list") [Value.ref _]) _ _ _); k_dflt (refine' listRange2_K (by rfl) (by k_asm) (by k_asm) (by assumption) (by omega) ?_); intro Dr yr er hr kr Fr' Nr' lr' Ir; (try k_lt lr'); (try dsimp only); (try k_sweep))))
  (k_with "mine_kend9" => ((rename News _ _ _ _ => nE'; rename Fr _ _ _ _ => fE'; (try simp only [List.push_toArray] at nE'); refine' kst_end (_, _, _, _, _, _, _, _, _) fE' nE' (by first | kst_in | kst_inAny) (by first | (intro p hp; kst_mem) | kst_anyIn) (by rfl) (by k_extra "mine_facts") (by kst_all) (by kst_same) (by ((try dsimp only); k_extra "mine_end")))))
  (k_with "setItem ref int" => ((k_here; (with_reducible show wpAny _ _ (setItem (Value.ref _) (Value.int _ _) (Value.int _ _)) _ _ _); k_dflt (refine' ksa_set (by k_asm) (by k_asm) (by (refine' Upd.head (by k_extra "mine_off"))) (by with_reducible assumption) (by ksa_idx) (by ksa_idx) (by ksa_idx) ?_; k_whole); intro h' F' N' I' lI' sI'; (try clear sI'); (try dsimp only at N'); (try k_sweep))))
  (k_with "mine_room" => (first | exact room_g (by with_reducible assumption) (by decide) | ktr_room))
  (k_with "mine_units" => (first | exact units_g (by with_reducible assumption) (by decide) | ktr_units))
  unfold CtrL CtrN
  k_fill
  intros; rename_i hret
  refine wpAny_call ?_
  k_dflt cell_enter
  walk_at "mine_steps"
  exact ret_int hret rfl (by assumption) (by assumption) sub_refl
theorem c_sub2 (w : World) (mean : ExcName → Option Value) (mg mb : Str → Option Value) (news : Led) (x y : Int) (t1 t2 : Tok) (hx : Sz x) (hy : Sz y) :
    CtrL w mean mg mb 80 [.int x t1, .int y t2] news (fun v nw => ∃ t, v = .int (x - y) t ∧ nw = []) := by
  k_with_none
  (k_with "mine_in" => (first | exact List.Mem.head _ | (refine List.Mem.tail _ ?_; walk_at "mine_in")))
  (k_with "mine_sub" => (first | exact sub_refl | (refine sub_cons (by walk_at "mine_in") (by walk_at "mine_sub")) | (refine sub_tail ?_; walk_at "mine_sub") | exact List.forall_mem_nil _))
  (k_with "subscriptTail Name Slice ref ref" => ((k_here; (with_reducible show wpAny _ _ (subscriptTail _ (PySem.Expr.Slice (some _) none none _) (Value.ref _) (Value.ref _)) _ _ _); k_dflt (refine' sliceFrom_K (by k_asm) (by k_asm) (by kmk_list) (by l_ints) ?_ (by with_unfolding_all rfl) (by kmk_pure) (by kmk_size)); intro D' ws' h' F' N' l1 hI'; (try k_lt l1); (try k_sweep))))
  (k_with "subscriptTail List" => ((k_here; (with_reducible show wpAny _ _ (subscriptTail _ (PySem.Expr.Slice (some _) none none _) (Value.ref _) (Value.ref _)) _ _ _); k_dflt (refine' sliceFrom_K (by k_asm) (by k_asm) (by kmk_list) (by l_ints) ?_ (by with_unfolding_all rfl) (by kmk_pure) (by kmk_size)); intro D' ws' h' F' N' l1 hI'; (try k_lt l1); (try k_sweep))))
  (k_with "binaryOp Add" => ((k_here; (with_reducible show wpAny _ _ (binaryOp _ (Value.ref _) (Value.ref _)) _ _ _); k_dflt (refine' add_K (by k_asm) (by k_asm) (by k_mem) (by k_mem) ?_ (by walk_at "mine_add_size")); intro l' h' F' N' l1; (try k_lt l1); (try k_sweep))))
  (k_with "binaryOp Mult int int" => ((k_here; (with_reducible refine mul_int ?_ (sz_mul (by with_reducible assumption) (by with_reducible assumption))))))
  (k_with "binaryOp FloorDiv int int" => ((k_here; (with_reducible refine floordiv_int (by with_reducible assumption) ?_ (Or.inl (sz_py (by with_reducible assumption)))))))
  (k_with "subscriptTail Name Constant ref int" => ((k_here; (with_reducible show wpAny _ _ (subscriptTail _ _ (Value.ref _) (Value.int _ _)) _ _ _); k_dflt (refine item_K (by k_asm) (by k_mem) (by decide) (by decide) (by exact rfl) ?_ (by with_unfolding_all rfl) (by kmk_pure)))))
  (k_with "subscriptTail Name Name ref int" => ((k_here; (with_reducible show wpAny _ _ (subscriptTail _ _ (Value.ref _) (Value.int _ _)) _ _ _); k_dflt (refine item_K (by k_asm) (by k_mem) (by decide) (by decide) (by exact rfl) ?_ (by with_unfolding_all rfl) (by kmk_pure)))))
  (k_with "call builtin:str.replace" => ((k_here; (refine replace_K (by first | omega | (simp; done) | (simp; omega)) (by first | omega | (simp; done) | (simp; omega)) (by first | omega | (simp; done) | (simp; omega)) (by k_extra "mine_yz") (by k_extra "mine_xl") (by k_extra "mine_zl") ?_); intro rr tr kr hrr)))
  (k_with "pyIter ref" => ((k_extra "mine_halt"; refine Halt.mk ?_)))
  (k_with "subscriptTail Name BinOp ref int" => (k_extra "mine_itemB"))
  (k_with "InvEndN" => ((k_extra "mine_halt"; refine Halt.mk ?_)))
  (k_with "binaryOp Add str str" => (k_extra "mine_addS"))
  (k_with "mine_kend2" => ((rename News _ _ _ _ => nE'; rename Fr _ _ _ _ => fE'; (try simp only [List.push_toArray] at nE'); refine' kst_end (_, _) fE' nE' (by first | kst_in | kst_inAny) (by first | (intro p hp; kst_mem) | kst_anyIn) (by rfl) (by k_extra "mine_facts") (by kst_all) (by kst_same) (by ((try dsimp only); k_extra "mine_end")))))
  (k_with "mine_kend3" => ((rename News _ _ _ _ => nE'; rename Fr _ _ _ _ => fE'; (try simp only [List.push_toArray] at nE'); refine' kst_end (_, _, _) fE' nE' (by first | kst_in | kst_inAny) (by first | (intro p hp; kst_mem) | kst_anyIn) (by rfl) (by k_extra "mine_facts") (by kst_all) (by kst_same) (by ((try dsimp only); k_extra "mine_end")))))
  (k_with "mine_kend5" => ((rename News _ _ _ _ => nE'; rename Fr _ _ _ _ => fE'; (try simp only [List.push_toArray] at nE'); refine' kst_end (_, _, _, _, _) fE' nE' (by first | kst_in | kst_inAny) (by first | (intro p hp; kst_mem) | kst_anyIn) (by rfl) (by k_extra "mine_facts") (by kst_all) (by kst_same) (by ((try dsimp only); k_extra "mine_end")))))
  (k_with "exec While" => ((k_extra "mine_halt"; refine Halt.mk ?_)))
  (k_with "KswEnd" => ((k_extra "mine_halt"; refine Halt.mk ?_)))
  (k_with "mine_wend2" => ((rename News _ _ _ _ => nE'; rename Fr _ _ _ _ => fE'; (try simp only [List.push_toArray] at nE'); refine' ksw_end (_, _) fE' nE' (by first | kst_in | kst_inAny) (by k_extra "mine_facts") (by kst_all) (by ksw_same) (by ((try dsimp only); k_extra "mine_end")) (by ((try dsimp only); k_extra "mine_less")))))
  (k_with "mine_wend6" => ((rename News _ _ _ _ => nE'; rename Fr _ _ _ _ => fE'; (try simp only [List.push_toArray] at nE'); refine' ksw_end (_, _, _, _, _, _) fE' nE' (by first | kst_in | kst_inAny) (by k_extra "mine_facts") (by kst_all) (by ksw_same) (by ((try dsimp only); k_extra "mine_end")) (by ((try dsimp only); k_extra "mine_less")))))
  (k_with "ExitW" => ((k_extra "mine_halt"; refine Halt.mk ?_)))
  (k_with "eval Subscript" => (k_extra "mine_evalS"))
  (k_with "mine_xend2" => ((rename News _ _ _ _ => nE'; rename Fr _ _ _ _ => fE'; (try simp only [List.push_toArray] at nE'); refine' exit_end (_, _) fE' nE' (by first | kst_in | kst_inAny) (by k_extra "mine_facts") (by kst_all) (by ksw_same) (by ((try dsimp only); k_extra "mine_done")))))
  (k_with "mine_xend4" => ((rename News _ _ _ _ => nE'; rename Fr _ _ _ _ => fE'; (try simp only [List.push_toArray] at nE'); refine' exit_end (_, _, _, _) fE' nE' (by first | kst_in | kst_inAny) (by k_extra "mine_facts") (by kst_all) (by ksw_same) (by ((try dsimp only); k_extra "mine_done")))))
  (k_with "subscriptTail Name Slice str ref" => (((with_reducible show wpAny _ _ (subscriptTail _ (Expr.Slice none (some (Expr.BoolOp _ _ _)) none _) _ _) _ _ _); (with_reducible rename Fr _ _ _ _ => F'); (with_reducible rename News _ _ _ _ => N'); (first | (refine slice_strN_nn_len (s := ⟨_, _, _, _, _⟩) F' N' ?_) | (refine slice_strN_ns_len (s := ⟨_, _, _, _, _⟩) F' N' ?_)); intro _ _ _ _ _ _)))
  (k_with "mine_steps" => (repeat' (first | (k_unfold; (try dsimp only)) | walk1 | (dsimp only; walk1) | (leave1; walk_say "STEP leave1"; try dsimp only) | fail "no step")))
  (k_with "call type:list" => ((k_here; (with_reducible show wpAny _ _ (call (Value.type "list") [Value.ref _]) _ _ _); k_dflt (refine' listRange2_K (by rfl) (by k_asm) (by k_asm) (by assumption) (by omega) ?_); intro Dr yr er hr kr Fr' Nr' lr' Ir; (try k_lt lr'); (try dsimp only); (try k_sweep))))
  (k_with "mine_kend9" => ((rename News _ _ _ _ => nE'; rename Fr _ _ _ _ => fE'; (try simp only [List.push_toArray] at nE'); refine' kst_end (_, _, _, _, _, _, _, _, _) fE' nE' (by first | kst_in | kst_inAny) (by first | (intro p hp; kst_mem) | kst_anyIn) (by rfl) (by k_extra "mine_facts") (by kst_all) (by kst_same) (by ((try dsimp only); k_extra "mine_end")))))
  (k_with "setItem ref int" => ((k_here; (with_reducible show wpAny _ _ (setItem (Value.ref _) (Value.int _ _) (Value.int _ _)) _ _ _); k_dflt (refine' ksa_set (by k_asm) (by k_asm) (by (refine' Upd.head (by k_extra "mine_off"))) (by with_reducible assumption) (by ksa_idx) (by ksa_idx) (by ksa_idx) ?_; k_whole); intro h' F' N' I' lI' sI'; (try clear sI'); (try dsimp only at N'); (try k_sweep))))
  (k_with "mine_room" => (first | exact room_g (by with_reducible assumption) (by decide) | ktr_room))
  (k_with "mine_units" => (first | exact units_g (by with_reducible assumption) (by decide) | ktr_units))
  unfold CtrL CtrN
  k_fill
  intros; rename_i hret
  refine wpAny_call ?_
  k_dflt cell_enter
  walk_at "mine_steps"
  exact ret_int hret rfl (by assumption) (by assumption) sub_refl
theorem c_mul (w : World) (mean : ExcName → Option Value) (mg mb : Str → Option Value) (news : Led) (x y : Int) (t1 t2 : Tok) (hx : Sz x) (hy : Sz y) :
    CtrL w mean mg mb 73 [.int x t1, .int y t2] news (fun v nw => ∃ t, v = .int (x * y) t ∧ nw = []) := by
  k_with_none
  (k_with "mine_in" => (first | exact List.Mem.head _ | (refine List.Mem.tail _ ?_; walk_at "mine_in")))
  (k_with "mine_sub" => (first | exact sub_refl | (refine sub_cons (by walk_at "mine_in") (by walk_at "mine_sub")) | (refine sub_tail ?_; walk_at "mine_sub") | exact List.forall_mem_nil _))
  (k_with "subscriptTail Name Slice ref ref" => ((k_here; (with_reducible show wpAny _ _ (subscriptTail _ (PySem.Expr.Slice (some _) none none _) (Value.ref _) (Value.ref _)) _ _ _); k_dflt (refine' sliceFrom_K (by k_asm) (by k_asm) (by kmk_list) (by l_ints) ?_ (by with_unfolding_all rfl) (by kmk_pure) (by kmk_size)); intro D' ws' h' F' N' l1 hI'; (try k_lt l1); (try k_sweep))))
  (k_with "subscriptTail List" => ((k_here; (with_reducible show wpAny _ _ (subscriptTail _ (PySem.Expr.Slice (some _) none none _) (Value.ref _) (Value.ref _)) _ _ _); k_dflt (refine' sliceFrom_K (by k_asm) (by k_asm) (by kmk_list) (by l_ints) ?_ (by with_unfolding_all rfl) (by kmk_pure) (by kmk_size)); intro D' ws' h' F' N' l1 hI'; (try k_lt l1); (try k_sweep))))
  (k_with "binaryOp Add" => ((k_here; (with_reducible show wpAny _ _ (binaryOp _ (Value.ref _) (Value.ref _)) _ _ _); k_dflt (refine' add_K (by k_asm) (by k_asm) (by k_mem) (by k_mem) ?_ (by walk_at "mine_add_size")); intro l' h' F' N' l1; (try k_lt l1); (try k_sweep))))
  (k_with "binaryOp Mult int int" => ((k_here; (with_reducible refine mul_int ?_ (sz_mul (by with_reducible assumption) (by with_reducible assumption))))))
  (k_with "binaryOp FloorDiv int int" => ((k_here; (with_reducible refine floordiv_int (by with_reducible assumption) ?_ (Or.inl (sz_py (by with_reducible assumption)))))))
  (k_with "subscriptTail Name Constant ref int" => ((k_here; (with_reducible show wpAny _ _ (subscriptTail _ _ (Value.ref _) (Value.int _ _)) _ _ _); k_dflt (refine item_K (by k_asm) (by k_mem) (by decide) (by decide) (by exact rfl) ?_ (by with_unfolding_all rfl) (by kmk_pure)))))
  (k_with "subscriptTail Name Name ref int" => ((k_here; (with_reducible show wpAny _ _ (subscriptTail _ _ (Value.ref _) (Value.int _ _)) _ _ _); k_dflt (refine item_K (by k_asm) (by k_mem) (by decide) (by decide) (by exact rfl) ?_ (by with_unfolding_all rfl) (by kmk_pure)))))
  (k_with "call builtin:str.replace" => ((k_here; (refine replace_K (by first | omega | (simp; done) | (simp; omega)) (by first | omega | (simp; done) | (simp; omega)) (by first | omega | (simp; done) | (simp; omega)) (by k_extra "mine_yz") (by k_extra "mine_xl") (by k_extra "mine_zl") ?_); intro rr tr kr hrr)))
  (k_with "pyIter ref" => ((k_extra "mine_halt"; refine Halt.mk ?_)))
  (k_with "subscriptTail Name BinOp ref int" => (k_extra "mine_itemB"))
  (k_with "InvEndN" => ((k_extra "mine_halt"; refine Halt.mk ?_)))
  (k_with "binaryOp Add str str" => (k_extra "mine_addS"))
  (k_with "mine_kend2" => ((rename News _ _ _ _ => nE'; rename Fr _ _ _ _ => fE'; (try simp only [List.push_toArray] at nE'); refine' kst_end (_, _) fE' nE' (by first | kst_in | kst_inAny) (by first | (intro p hp; kst_mem) | kst_anyIn) (by rfl) (by k_extra "mine_facts") (by kst_all) (by kst_same) (by ((try dsimp only); k_extra "mine_end")))))
  (k_with "mine_kend3" => ((rename News _ _ _ _ => nE'; rename Fr _ _ _ _ => fE'; (try simp only [List.push_toArray] at nE'); refine' kst_end (_, _, _) fE' nE' (by first | kst_in | kst_inAny) (by first | (intro p hp; kst_mem) | kst_anyIn) (by rfl) (by k_extra "mine_facts") (by kst_all) (by kst_same) (by ((try dsimp only); k_extra "mine_end")))))
  (k_with "mine_kend5" => ((rename News _ _ _ _ => nE'; rename Fr _ _ _ _ => fE'; (try simp only [List.push_toArray] at nE'); refine' kst_end (_, _, _, _, _) fE' nE' (by first | kst_in | kst_inAny) (by first | (intro p hp; kst_mem) | kst_anyIn) (by rfl) (by k_extra "mine_facts") (by kst_all) (by kst_same) (by ((try dsimp only); k_extra "mine_end")))))
  (k_with "exec While" => ((k_extra "mine_halt"; refine Halt.mk ?_)))
  (k_with "KswEnd" => ((k_extra "mine_halt"; refine Halt.mk ?_)))
  (k_with "mine_wend2" => ((rename News _ _ _ _ => nE'; rename Fr _ _ _ _ => fE'; (try simp only [List.push_toArray] at nE'); refine' ksw_end (_, _) fE' nE' (by first | kst_in | kst_inAny) (by k_extra "mine_facts") (by kst_all) (by ksw_same) (by ((try dsimp only); k_extra "mine_end")) (by ((try dsimp only); k_extra "mine_less")))))
  (k_with "mine_wend6" => ((rename News _ _ _ _ => nE'; rename Fr _ _ _ _ => fE'; (try simp only [List.push_toArray] at nE'); refine' ksw_end (_, _, _, _, _, _) fE' nE' (by first | kst_in | kst_inAny) (by k_extra "mine_facts") (by kst_all) (by ksw_same) (by ((try dsimp only); k_extra "mine_end")) (by ((try dsimp only); k_extra "mine_less")))))
  (k_with "ExitW" => ((k_extra "mine_halt"; refine Halt.mk ?_)))
  (k_with "eval Subscript" => (k_extra "mine_evalS"))
  (k_with "mine_xend2" => ((rename News _ _ _ _ => nE'; rename Fr _ _ _ _ => fE'; (try simp only [List.push_toArray] at nE'); refine' exit_end (_, _) fE' nE' (by first | kst_in | kst_inAny) (by k_extra "mine_facts") (by kst_all) (by ksw_same) (by ((try dsimp only); k_extra "mine_done")))))
  (k_with "mine_xend4" => ((rename News _ _ _ _ => nE'; rename Fr _ _ _ _ => fE'; (try simp only [List.push_toArray] at nE'); refine' exit_end (_, _, _, _) fE' nE' (by first | kst_in | kst_inAny) (by k_extra "mine_facts") (by kst_all) (by ksw_same) (by ((try dsimp only); k_extra "mine_done")))))
  (k_with "subscriptTail Name Slice str ref" => (((with_reducible show wpAny _ _ (subscriptTail _ (Expr.Slice none (some (Expr.BoolOp _ _ _)) none _) _ _) _ _ _); (with_reducible rename Fr _ _ _ _ => F'); (with_reducible rename News _ _ _ _ => N'); (first | (refine slice_strN_nn_len (s := ⟨_, _, _, _, _⟩) F' N' ?_) | (refine slice_strN_ns_len (s := ⟨_, _, _, _, _⟩) F' N' ?_)); intro _ _ _ _ _ _)))
  (k_with "mine_steps" => (repeat' (first | (k_unfold; (try dsimp only)) | walk1 | (dsimp only; walk1) | (leave1; walk_say "STEP leave1"; try dsimp only) | fail "no step")))
  (k_with "call type:list" => ((k_here; (with_reducible show wpAny _ _ (call (Value.type "list") [Value.ref _]) _ _ _); k_dflt (refine' listRange2_K (by rfl) (by k_asm) (by k_asm) (by assumption) (by omega) ?_); intro Dr yr er hr kr Fr' Nr' lr' Ir; (try k_lt lr'); (try dsimp only); (try k_sweep))))
  (k_with "mine_kend9" => ((rename News _ _ _ _ => nE'; rename Fr _ _ _ _ => fE'; (try simp only [List.push_toArray] at nE'); refine' kst_end (_, _, _, _, _, _, _, _, _) fE' nE' (by first | kst_in | kst_inAny) (by first | (intro p hp; kst_mem) | kst_anyIn) (by rfl) (by k_extra "mine_facts") (by kst_all) (by kst_same) (by ((try dsimp only); k_extra "mine_end")))))
  (k_with "setItem ref int" => ((k_here; (with_reducible show wpAny _ _ (setItem (Value.ref _) (Value.int _ _) (Value.int _ _)) _ _ _); k_dflt (refine' ksa_set (by k_asm) (by k_asm) (by (refine' Upd.head (by k_extra "mine_off"))) (by with_reducible assumption) (by ksa_idx) (by ksa_idx) (by ksa_idx) ?_; k_whole); intro h' F' N' I' lI' sI'; (try clear sI'); (try dsimp only at N'); (try k_sweep))))
  (k_with "mine_room" => (first | exact room_g (by with_reducible assumption) (by decide) | ktr_room))
  (k_with "mine_units" => (first | exact units_g (by with_reducible assumption) (by decide) | ktr_units))
  unfold CtrL CtrN
  k_fill
  intros; rename_i hret
  refine wpAny_call ?_
  k_dflt cell_enter
  walk_at "mine_steps"
  exact ret_int hret rfl (by assumption) (by assumption) sub_refl
theorem c_mod (w : World) (mean : ExcName → Option Value) (mg mb : Str → Option Value) (news : Led) (x y : Int) (t1 t2 : Tok) (hx : Sz x) (hy : Sz y) (h0 : y ≠ 0) :
    CtrL w mean mg mb 66 [.int x t1, .int y t2] news (fun v nw => ∃ t, v = .int (Int.fmod x y) t ∧ nw = []) := by
  k_with_none
  (k_with "mine_in" => (first | exact List.Mem.head _ | (refine List.Mem.tail _ ?_; walk_at "mine_in")))
  (k_with "mine_sub" => (first | exact sub_refl | (refine sub_cons (by walk_at "mine_in") (by walk_at "mine_sub")) | (refine sub_tail ?_; walk_at "mine_sub") | exact List.forall_mem_nil _))
  (k_with "subscriptTail Name Slice ref ref" => ((k_here; (with_reducible show wpAny _ _ (subscriptTail _ (PySem.Expr.Slice (some _) none none _) (Value.ref _) (Value.ref _)) _ _ _); k_dflt (refine' sliceFrom_K (by k_asm) (by k_asm) (by kmk_list) (by l_ints) ?_ (by with_unfolding_all rfl) (by kmk_pure) (by kmk_size)); intro D' ws' h' F' N' l1 hI'; (try k_lt l1); (try k_sweep))))
  (k_with "subscriptTail List" => ((k_here; (with_reducible show wpAny _ _ (subscriptTail _ (PySem.Expr.Slice (some _) none none _) (Value.ref _) (Value.ref _)) _ _ _); k_dflt (refine' sliceFrom_K (by k_asm) (by k_asm) (by kmk_list) (by l_ints) ?_ (by with_unfolding_all rfl) (by kmk_pure) (by kmk_size)); intro D' ws' h' F' N' l1 hI'; (try k_lt l1); (try k_sweep))))
  (k_with "binaryOp Add" => ((k_here; (with_reducible show wpAny _ _ (binaryOp _ (Value.ref _) (Value.ref _)) _ _ _); k_dflt (refine' add_K (by k_asm) (by k_asm) (by k_mem) (by k_mem) ?_ (by walk_at "mine_add_size")); intro l' h' F' N' l1; (try k_lt l1); (try k_sweep))))
  (k_with "binaryOp Mult int int" => ((k_here; (with_reducible refine mul_int ?_ (sz_mul (by with_reducible assumption) (by with_reducible assumption))))))
  (k_with "binaryOp FloorDiv int int" => ((k_here; (with_reducible refine floordiv_int (by with_reducible assumption) ?_ (Or.inl (sz_py (by with_reducible assumption)))))))
  (k_with "subscriptTail Name Constant ref int" => ((k_here; (with_reducible show wpAny _ _ (subscriptTail _ _ (Value.ref _) (Value.int _ _)) _ _ _); k_dflt (refine item_K (by k_asm) (by k_mem) (by decide) (by decide) (by exact rfl) ?_ (by with_unfolding_all rfl) (by kmk_pure)))))
  (k_with "subscriptTail Name Name ref int" => ((k_here; (with_reducible show wpAny _ _ (subscriptTail _ _ (Value.ref _) (Value.int _ _)) _ _ _); k_dflt (refine item_K (by k_asm) (by k_mem) (by decide) (by decide) (by exact rfl) ?_ (by with_unfolding_all rfl) (by kmk_pure)))))
  (k_with "call builtin:str.replace" => ((k_here; (refine replace_K (by first | omega | (simp; done) | (simp; omega)) (by first | omega | (simp; done) | (simp; omega)) (by first | omega | (simp; done) | (simp; omega)) (by k_extra "mine_yz") (by k_extra "mine_xl") (by k_extra "mine_zl") ?_); intro rr tr kr hrr)))
  (k_with "pyIter ref" => ((k_extra "mine_halt"; refine Halt.mk ?_)))
  (k_with "subscriptTail Name BinOp ref int" => (k_extra "mine_itemB"))
  (k_with "InvEndN" => ((k_extra "mine_halt"; refine Halt.mk ?_)))
  (k_with "binaryOp Add str str" => (k_extra "mine_addS"))
  (k_with "mine_kend2" => ((rename News _ _ _ _ => nE'; rename Fr _ _ _ _ => fE'; (try simp only [List.push_toArray] at nE'); refine' kst_end (_, _) fE' nE' (by first | kst_in | kst_inAny) (by first | (intro p hp; kst_mem) | kst_anyIn) (by rfl) (by k_extra "mine_facts") (by kst_all) (by kst_same) (by ((try dsimp only); k_extra "mine_end")))))
  (k_with "mine_kend3" => ((rename News _ _ _ _ => nE'; rename Fr _ _ _ _ => fE'; (try simp only [List.push_toArray] at nE'); refine' kst_end (_, _, _) fE' nE' (by first | kst_in | kst_inAny) (by first | (intro p hp; kst_mem) | kst_anyIn) (by rfl) (by k_extra "mine_facts") (by kst_all) (by kst_same) (by ((try dsimp only); k_extra "mine_end")))))
  (k_with "mine_kend5" => ((rename News _ _ _ _ => nE'; rename Fr _ _ _ _ => fE'; (try simp only [List.push_toArray] at nE'); refine' kst_end (_, _, _, _, _) fE' nE' (by first | kst_in | kst_inAny) (by first | (intro p hp; kst_mem) | kst_anyIn) (by rfl) (by k_extra "mine_facts") (by kst_all) (by kst_same) (by ((try dsimp only); k_extra "mine_end")))))
  (k_with "exec While" => ((k_extra "mine_halt"; refine Halt.mk ?_)))
  (k_with "KswEnd" => ((k_extra "mine_halt"; refine Halt.mk ?_)))
  (k_with "mine_wend2" => ((rename News _ _ _ _ => nE'; rename Fr _ _ _ _ => fE'; (try simp only [List.push_toArray] at nE'); refine' ksw_end (_, _) fE' nE' (by first | kst_in | kst_inAny) (by k_extra "mine_facts") (by kst_all) (by ksw_same) (by ((try dsimp only); k_extra "mine_end")) (by ((try dsimp only); k_extra "mine_less")))))
  (k_with "mine_wend6" => ((rename News _ _ _ _ => nE'; rename Fr _ _ _ _ => fE'; (try simp only [List.push_toArray] at nE'); refine' ksw_end (_, _, _, _, _, _) fE' nE' (by first | kst_in | kst_inAny) (by k_extra "mine_facts") (by kst_all) (by ksw_same) (by ((try dsimp only); k_extra "mine_end")) (by ((try dsimp only); k_extra "mine_less")))))
  (k_with "ExitW" => ((k_extra "mine_halt"; refine Halt.mk ?_)))
  (k_with "eval Subscript" => (k_extra "mine_evalS"))
  (k_with "mine_xend2" => ((rename News _ _ _ _ => nE'; rename Fr _ _ _ _ => fE'; (try simp only [List.push_toArray] at nE'); refine' exit_end (_, _) fE' nE' (by first | kst_in | kst_inAny) (by k_extra "mine_facts") (by kst_all) (by ksw_same) (by ((try dsimp only); k_extra "mine_done")))))
  (k_with "mine_xend4" => ((rename News _ _ _ _ => nE'; rename Fr _ _ _ _ => fE'; (try simp only [List.push_toArray] at nE'); refine' exit_end (_, _, _, _) fE' nE' (by first | kst_in | kst_inAny) (by k_extra "mine_facts") (by kst_all) (by ksw_same) (by ((try dsimp only); k_extra "mine_done")))))
  (k_with "subscriptTail Name Slice str ref" => (((with_reducible show wpAny _ _ (subscriptTail _ (Expr.Slice none (some (Expr.BoolOp _ _ _)) none _) _ _) _ _ _); (with_reducible rename Fr _ _ _ _ => F'); (with_reducible rename News _ _ _ _ => N'); (first | (refine slice_strN_nn_len (s := ⟨_, _, _, _, _⟩) F' N' ?_) | (refine slice_strN_ns_len (s := ⟨_, _, _, _, _⟩) F' N' ?_)); intro _ _ _ _ _ _)))
  (k_with "mine_steps" => (repeat' (first | (k_unfold; (try dsimp only)) | walk1 | (dsimp only; walk1) | (leave1; walk_say "STEP leave1"; try dsimp only) | fail "no step")))
  (k_with "call type:list" => ((k_here; (with_reducible show wpAny _ _ (call (Value.type "list") [Value.ref _]) _ _ _); k_dflt (refine' listRange2_K (by rfl) (by k_asm) (by k_asm) (by assumption) (by omega) ?_); intro Dr yr er hr kr Fr' Nr' lr' Ir; (try k_lt lr'); (try dsimp only); (try k_sweep))))
  (k_with "mine_kend9" => ((rename News _ _ _ _ => nE'; rename Fr _ _ _ _ => fE'; (try simp only [List.push_toArray] at nE'); refine' kst_end (_, _, _, _, _, _, _, _, _) fE' nE' (by first | kst_in | kst_inAny) (by first | (intro p hp; kst_mem) | kst_anyIn) (by rfl) (by k_extra "mine_facts") (by kst_all) (by kst_same) (by ((try dsimp only); k_extra "mine_end")))))
  (k_with "setItem ref int" => ((k_here; (with_reducible show wpAny _ _ (setItem (Value.ref _) (Value.int _ _) (Value.int _ _)) _ _ _); k_dflt (refine' ksa_set (by k_asm) (by k_asm) (by (refine' Upd.head (by k_extra "mine_off"))) (by with_reducible assumption) (by ksa_idx) (by ksa_idx) (by ksa_idx) ?_; k_whole); intro h' F' N' I' lI' sI'; (try clear sI'); (try dsimp only at N'); (try k_sweep))))
  (k_with "mine_room" => (first | exact room_g (by with_reducible assumption) (by decide) | ktr_room))
  (k_with "mine_units" => (first | exact units_g (by with_reducible assumption) (by decide) | ktr_units))
  unfold CtrL CtrN
  k_fill
  intros; rename_i hret
  refine wpAny_call ?_
  k_dflt cell_enter
  walk_at "mine_steps"
  exact ret_int hret rfl (by assumption) (by assumption) sub_refl
theorem c_floordiv (w : World) (mean : ExcName → Option Value) (mg mb : Str → Option Value) (news : Led) (x y : Int) (t1 t2 : Tok) (hx : Sz x) (hy : Sz y) (h0 : y ≠ 0) :
    CtrL w mean mg mb 59 [.int x t1, .int y t2] news (fun v nw => ∃ t, v = .int (Int.fdiv x y) t ∧ nw = []) := by
  k_with_none
  (k_with "mine_in" => (first | exact List.Mem.head _ | (refine List.Mem.tail _ ?_; walk_at "mine_in")))
  (k_with "mine_sub" => (first | exact sub_refl | (refine sub_cons (by walk_at "mine_in") (by walk_at "mine_sub")) | (refine sub_tail ?_; walk_at "mine_sub") | exact List.forall_mem_nil _))
  (k_with "subscriptTail Name Slice ref ref" => ((k_here; (with_reducible show wpAny _ _ (subscriptTail _ (PySem.Expr.Slice (some _) none none _) (Value.ref _) (Value.ref _)) _ _ _); k_dflt (refine' sliceFrom_K (by k_asm) (by k_asm) (by kmk_list) (by l_ints) ?_ (by with_unfolding_all rfl) (by kmk_pure) (by kmk_size)); intro D' ws' h' F' N' l1 hI'; (try k_lt l1); (try k_sweep))))
  (k_with "subscriptTail List" => ((k_here; (with_reducible show wpAny _ _ (subscriptTail _ (PySem.Expr.Slice (some _) none none _) (Value.ref _) (Value.ref _)) _ _ _); k_dflt (refine' sliceFrom_K (by k_asm) (by k_asm) (by kmk_list) (by l_ints) ?_ (by with_unfolding_all rfl) (by kmk_pure) (by kmk_size)); intro D' ws' h' F' N' l1 hI'; (try k_lt l1); (try k_sweep))))
  (k_with "binaryOp Add" => ((k_here; (with_reducible show wpAny _ _ (binaryOp _ (Value.ref _) (Value.ref _)) _ _ _); k_dflt (refine' add_K (by k_asm) (by k_asm) (by k_mem) (by k_mem) ?_ (by walk_at "mine_add_size")); intro l' h' F' N' l1; (try k_lt l1); (try k_sweep))))
  (k_with "binaryOp Mult int int" => ((k_here; (with_reducible refine mul_int ?_ (sz_mul (by with_reducible assumption) (by with_reducible assumption))))))
  (k_with "binaryOp FloorDiv int int" => ((k_here; (with_reducible refine floordiv_int (by with_reducible assumption) ?_ (Or.inl (sz_py (by with_reducible assumption)))))))
  (k_with "subscriptTail Name Constant ref int" => ((k_here; (with_reducible show wpAny _ _ (subscriptTail _ _ (Value.ref _) (Value.int _ _)) _ _ _); k_dflt (refine item_K (by k_asm) (by k_mem) (by decide) (by decide) (by exact rfl) ?_ (by with_unfolding_all rfl) (by kmk_pure)))))
  (k_with "subscriptTail Name Name ref int" => ((k_here; (with_reducible show wpAny _ _ (subscriptTail _ _ (Value.ref _) (Value.int _ _)) _ _ _); k_dflt (refine item_K (by k_asm) (by k_mem) (by decide) (by decide) (by exact rfl) ?_ (by with_unfolding_all rfl) (by kmk_pure)))))
  (k_with "call builtin:str.replace" => ((k_here; (refine replace_K (by first | omega | (simp; done) | (simp; omega)) (by first | omega | (simp; done) | (simp; omega)) (by first | omega | (simp; done) | (simp; omega)) (by k_extra "mine_yz") (by k_extra "mine_xl") (by k_extra "mine_zl") ?_); intro rr tr kr hrr)))
  (k_with "pyIter ref" => ((k_extra "mine_halt"; refine Halt.mk ?_)))
  (k_with "subscriptTail Name BinOp ref int" => (k_extra "mine_itemB"))
  (k_with "InvEndN" => ((k_extra "mine_halt"; refine Halt.mk ?_)))
  (k_with "binaryOp Add str str" => (k_extra "mine_addS"))
  (k_with "mine_kend2" => ((rename News _ _ _ _ => nE'; rename Fr _ _ _ _ => fE'; (try simp only [List.push_toArray] at nE'); refine' kst_end (_, _) fE' nE' (by first | kst_in | kst_inAny) (by first | (intro p hp; kst_mem) | kst_anyIn) (by rfl) (by k_extra "mine_facts") (by kst_all) (by kst_same) (by ((try dsimp only); k_extra "mine_end")))))
  (k_with "mine_kend3" => ((rename News _ _ _ _ => nE'; rename Fr _ _ _ _ => fE'; (try simp only [List.push_toArray] at nE'); refine' kst_end (_, _, _) fE' nE' (by first | kst_in | kst_inAny) (by first | (intro p hp; kst_mem) | kst_anyIn) (by rfl) (by k_extra "mine_facts") (by kst_all) (by kst_same) (by ((try dsimp only); k_extra "mine_end")))))
  (k_with "mine_kend5" => ((rename News _ _ _ _ => nE'; rename Fr _ _ _ _ => fE'; (try simp only [List.push_toArray] at nE'); refine' kst_end (_, _, _, _, _) fE' nE' (by first | kst_in | kst_inAny) (by first | (intro p hp; kst_mem) | kst_anyIn) (by rfl) (by k_extra "mine_facts") (by kst_all) (by kst_same) (by ((try dsimp only); k_extra "mine_end")))))
  (k_with "exec While" => ((k_extra "mine_halt"; refine Halt.mk ?_)))
  (k_with "KswEnd" => ((k_extra "mine_halt"; refine Halt.mk ?_)))
  (k_with "mine_wend2" => ((rename News _ _ _ _ => nE'; rename Fr _ _ _ _ => fE'; (try simp only [List.push_toArray] at nE'); refine' ksw_end (_, _) fE' nE' (by first | kst_in | kst_inAny) (by k_extra "mine_facts") (by kst_all) (by ksw_same) (by ((try dsimp only); k_extra "mine_end")) (by ((try dsimp only); k_extra "mine_less")))))
  (k_with "mine_wend6" => ((rename News _ _ _ _ => nE'; rename Fr _ _ _ _ => fE'; (try simp only [List.push_toArray] at nE'); refine' ksw_end (_, _, _, _, _, _) fE' nE' (by first | kst_in | kst_inAny) (by k_extra "mine_facts") (by kst_all) (by ksw_same) (by ((try dsimp only); k_extra "mine_end")) (by ((try dsimp only); k_extra "mine_less")))))
  (k_with "ExitW" => ((k_extra "mine_halt"; refine Halt.mk ?_)))
  (k_with "eval Subscript" => (k_extra "mine_evalS"))
  (k_with "mine_xend2" => ((rename News _ _ _ _ => nE'; rename Fr _ _ _ _ => fE'; (try simp only [List.push_toArray] at nE'); refine' exit_end (_, _) fE' nE' (by first | kst_in | kst_inAny) (by k_extra "mine_facts") (by kst_all) (by ksw_same) (by ((try dsimp only); k_extra "mine_done")))))
  (k_with "mine_xend4" => ((rename News _ _ _ _ => nE'; rename Fr _ _ _ _ => fE'; (try simp only [List.push_toArray] at nE'); refine' exit_end (_, _, _, _) fE' nE' (by first | kst_in | kst_inAny) (by k_extra "mine_facts") (by kst_all) (by ksw_same) (by ((try dsimp only); k_extra "mine_done")))))
  (k_with "subscriptTail Name Slice str ref" => (((with_reducible show wpAny _ _ (subscriptTail _ (Expr.Slice none (some (Expr.BoolOp _ _ _)) none _) _ _) _ _ _); (with_reducible rename Fr _ _ _ _ => F'); (with_reducible rename News _ _ _ _ => N'); (first | (refine slice_strN_nn_len (s := ⟨_, _, _, _, _⟩) F' N' ?_) | (refine slice_strN_ns_len (s := ⟨_, _, _, _, _⟩) F' N' ?_)); intro _ _ _ _ _ _)))
  (k_with "mine_steps" => (repeat' (first | (k_unfold; (try dsimp only)) | walk1 | (dsimp only; walk1) | (leave1; walk_say "STEP leave1"; try dsimp only) | fail "no step")))
  (k_with "call type:list" => ((k_here; (with_reducible show wpAny _ _ (call (Value.type "list") [Value.ref _]) _ _ _); k_dflt (refine' listRange2_K (by rfl) (by k_asm) (by k_asm) (by assumption) (by omega) ?_); intro Dr yr er hr kr Fr' Nr' lr' Ir; (try k_lt lr'); (try dsimp only); (try k_sweep))))
  (k_with "mine_kend9" => ((rename News _ _ _ _ => nE'; rename Fr _ _ _ _ => fE'; (try simp only [List.push_toArray] at nE'); refine' kst_end (_, _, _, _, _, _, _, _, _) fE' nE' (by first | kst_in | kst_inAny) (by first | (intro p hp; kst_mem) | kst_anyIn) (by rfl) (by k_extra "mine_facts") (by kst_all) (by kst_same) (by ((try dsimp only); k_extra "mine_end")))))
  (k_with "setItem ref int" => ((k_here; (with_reducible show wpAny _ _ (setItem (Value.ref _) (Value.int _ _) (Value.int _ _)) _ _ _); k_dflt (refine' ksa_set (by k_asm) (by k_asm) (by (refine' Upd.head (by k_extra "mine_off"))) (by with_reducible assumption) (by ksa_idx) (by ksa_idx) (by ksa_idx) ?_; k_whole); intro h' F' N' I' lI' sI'; (try clear sI'); (try dsimp only at N'); (try k_sweep))))
  (k_with "mine_room" => (first | exact room_g (by with_reducible assumption) (by decide) | ktr_room))
  (k_with "mine_units" => (first | exact units_g (by with_reducible assumption) (by decide) | ktr_units))
  unfold CtrL CtrN
  k_fill
  intros; rename_i hret
  refine wpAny_call ?_
  k_dflt cell_enter
  walk_at "mine_steps"
  exact ret_int hret rfl (by assumption) (by assumption) sub_refl
end
section
theorem c_lengths (w : World) (mean : ExcName → Option Value) (mg mb : Str → Option Value) (news : Led) (l : Addr) (n : Nat) (d0 d1 d2 d3 d4 d5 : Int) (t0 t1 t2 t3 t4 t5 : Tok) (hl : (l, listOf [Value.int d0 t0, .int d1 t1, .int d2 t2, .int d3 t3, .int d4 t4, .int d5 t5].toArray n) ∈ news) :
    Ctr w mean mg mb 107 [.ref l] news (fun v nw => ∃ l' items ep, v = .ref l' ∧ nw = [(l', listOf items.toArray ep)] ∧ IntsAre items (lengthsF [d0, d1, d2, d3, d4, d5])) := by
  k_with_none
  (k_with "mine_in" => (first | exact List.Mem.head _ | (refine List.Mem.tail _ ?_; walk_at "mine_in")))
  (k_with "mine_sub" => (first | exact sub_refl | (refine sub_cons (by walk_at "mine_in") (by walk_at "mine_sub")) | (refine sub_tail ?_; walk_at "mine_sub") | exact List.forall_mem_nil _))
  (k_with "subscriptTail Name Slice ref ref" => ((k_here; (with_reducible show wpAny _ _ (subscriptTail _ (PySem.Expr.Slice (some _) none none _) (Value.ref _) (Value.ref _)) _ _ _); k_dflt (refine' sliceFrom_K (by k_asm) (by k_asm) (by kmk_list) (by l_ints) ?_ (by with_unfolding_all rfl) (by kmk_pure) (by kmk_size)); intro D' ws' h' F' N' l1 hI'; (try k_lt l1); (try k_sweep))))
  (k_with "subscriptTail List" => ((k_here; (with_reducible show wpAny _ _ (subscriptTail _ (PySem.Expr.Slice (some _) none none _) (Value.ref _) (Value.ref _)) _ _ _); k_dflt (refine' sliceFrom_K (by k_asm) (by k_asm) (by kmk_list) (by l_ints) ?_ (by with_unfolding_all rfl) (by kmk_pure) (by kmk_size)); intro D' ws' h' F' N' l1 hI'; (try k_lt l1); (try k_sweep))))
  (k_with "binaryOp Add" => ((k_here; (with_reducible show wpAny _ _ (binaryOp _ (Value.ref _) (Value.ref _)) _ _ _); k_dflt (refine' add_K (by k_asm) (by k_asm) (by k_mem) (by k_mem) ?_ (by walk_at "mine_add_size")); intro l' h' F' N' l1; (try k_lt l1); (try k_sweep))))
  (k_with "binaryOp Mult int int" => ((k_here; (with_reducible refine mul_int ?_ (sz_mul (by with_reducible assumption) (by with_reducible assumption))))))
  (k_with "binaryOp FloorDiv int int" => ((k_here; (with_reducible refine floordiv_int (by with_reducible assumption) ?_ (Or.inl (sz_py (by with_reducible assumption)))))))
  (k_with "subscriptTail Name Constant ref int" => ((k_here; (with_reducible show wpAny _ _ (subscriptTail _ _ (Value.ref _) (Value.int _ _)) _ _ _); k_dflt (refine item_K (by k_asm) (by k_mem) (by decide) (by decide) (by exact rfl) ?_ (by with_unfolding_all rfl) (by kmk_pure)))))
  (k_with "subscriptTail Name Name ref int" => ((k_here; (with_reducible show wpAny _ _ (subscriptTail _ _ (Value.ref _) (Value.int _ _)) _ _ _); k_dflt (refine item_K (by k_asm) (by k_mem) (by decide) (by decide) (by exact rfl) ?_ (by with_unfolding_all rfl) (by kmk_pure)))))
  (k_with "call builtin:str.replace" => ((k_here; (refine replace_K (by first | omega | (simp; done) | (simp; omega)) (by first | omega | (simp; done) | (simp; omega)) (by first | omega | (simp; done) | (simp; omega)) (by k_extra "mine_yz") (by k_extra "mine_xl") (by k_extra "mine_zl") ?_); intro rr tr kr hrr)))
  (k_with "pyIter ref" => ((k_extra "mine_halt"; refine Halt.mk ?_)))
  (k_with "subscriptTail Name BinOp ref int" => (k_extra "mine_itemB"))
  (k_with "InvEndN" => ((k_extra "mine_halt"; refine Halt.mk ?_)))
  (k_with "binaryOp Add str str" => (k_extra "mine_addS"))
  (k_with "mine_kend2" => ((rename News _ _ _ _ => nE'; rename Fr _ _ _ _ => fE'; (try simp only [List.push_toArray] at nE'); refine' kst_end (_, _) fE' nE' (by first | kst_in | kst_inAny) (by first | (intro p hp; kst_mem) | kst_anyIn) (by rfl) (by k_extra "mine_facts") (by kst_all) (by kst_same) (by ((try dsimp only); k_extra "mine_end")))))
  (k_with "mine_kend3" => ((rename News _ _ _ _ => nE'; rename Fr _ _ _ _ => fE'; (try simp only [List.push_toArray] at nE'); refine' kst_end (_, _, _) fE' nE' (by first | kst_in | kst_inAny) (by first | (intro p hp; kst_mem) | kst_anyIn) (by rfl) (by k_extra "mine_facts") (by kst_all) (by kst_same) (by ((try dsimp only); k_extra "mine_end")))))
  (k_with "mine_kend5" => ((rename News _ _ _ _ => nE'; rename Fr _ _ _ _ => fE'; (try simp only [List.push_toArray] at nE'); refine' kst_end (_, _, _, _, _) fE' nE' (by first | kst_in | kst_inAny) (by first | (intro p hp; kst_mem) | kst_anyIn) (by rfl) (by k_extra "mine_facts") (by kst_all) (by kst_same) (by ((try dsimp only); k_extra "mine_end")))))
  (k_with "exec While" => ((k_extra "mine_halt"; refine Halt.mk ?_)))
  (k_with "KswEnd" => ((k_extra "mine_halt"; refine Halt.mk ?_)))
  (k_with "mine_wend2" => ((rename News _ _ _ _ => nE'; rename Fr _ _ _ _ => fE'; (try simp only [List.push_toArray] at nE'); refine' ksw_end (_, _) fE' nE' (by first | kst_in | kst_inAny) (by k_extra "mine_facts") (by kst_all) (by ksw_same) (by ((try dsimp only); k_extra "mine_end")) (by ((try dsimp only); k_extra "mine_less")))))
  (k_with "mine_wend6" => ((rename News _ _ _ _ => nE'; rename Fr _ _ _ _ => fE'; (try simp only [List.push_toArray] at nE'); refine' ksw_end (_, _, _, _, _, _) fE' nE' (by first | kst_in | kst_inAny) (by k_extra "mine_facts") (by kst_all) (by ksw_same) (by ((try dsimp only); k_extra "mine_end")) (by ((try dsimp only); k_extra "mine_less")))))
  (k_with "ExitW" => ((k_extra "mine_halt"; refine Halt.mk ?_)))
  (k_with "eval Subscript" => (k_extra "mine_evalS"))
  (k_with "mine_xend2" => ((rename News _ _ _ _ => nE'; rename Fr _ _ _ _ => fE'; (try simp only [List.push_toArray] at nE'); refine' exit_end (_, _) fE' nE' (by first | kst_in | kst_inAny) (by k_extra "mine_facts") (by kst_all) (by ksw_same) (by ((try dsimp only); k_extra "mine_done")))))
  (k_with "mine_xend4" => ((rename News _ _ _ _ => nE'; rename Fr _ _ _ _ => fE'; (try simp only [List.push_toArray] at nE'); refine' exit_end (_, _, _, _) fE' nE' (by first | kst_in | kst_inAny) (by k_extra "mine_facts") (by kst_all) (by ksw_same) (by ((try dsimp only); k_extra "mine_done")))))
  (k_with "subscriptTail Name Slice str ref" => (((with_reducible show wpAny _ _ (subscriptTail _ (Expr.Slice none (some (Expr.BoolOp _ _ _)) none _) _ _) _ _ _); (with_reducible rename Fr _ _ _ _ => F'); (with_reducible rename News _ _ _ _ => N'); (first | (refine slice_strN_nn_len (s := ⟨_, _, _, _, _⟩) F' N' ?_) | (refine slice_strN_ns_len (s := ⟨_, _, _, _, _⟩) F' N' ?_)); intro _ _ _ _ _ _)))
  (k_with "mine_steps" => (repeat' (first | (k_unfold; (try dsimp only)) | walk1 | (dsimp only; walk1) | (leave1; walk_say "STEP leave1"; try dsimp only) | fail "no step")))
  (k_with "call type:list" => ((k_here; (with_reducible show wpAny _ _ (call (Value.type "list") [Value.ref _]) _ _ _); k_dflt (refine' listRange2_K (by rfl) (by k_asm) (by k_asm) (by assumption) (by omega) ?_); intro Dr yr er hr kr Fr' Nr' lr' Ir; (try k_lt lr'); (try dsimp only); (try k_sweep))))
  (k_with "mine_kend9" => ((rename News _ _ _ _ => nE'; rename Fr _ _ _ _ => fE'; (try simp only [List.push_toArray] at nE'); refine' kst_end (_, _, _, _, _, _, _, _, _) fE' nE' (by first | kst_in | kst_inAny) (by first | (intro p hp; kst_mem) | kst_anyIn) (by rfl) (by k_extra "mine_facts") (by kst_all) (by kst_same) (by ((try dsimp only); k_extra "mine_end")))))
  (k_with "setItem ref int" => ((k_here; (with_reducible show wpAny _ _ (setItem (Value.ref _) (Value.int _ _) (Value.int _ _)) _ _ _); k_dflt (refine' ksa_set (by k_asm) (by k_asm) (by (refine' Upd.head (by k_extra "mine_off"))) (by with_reducible assumption) (by ksa_idx) (by ksa_idx) (by ksa_idx) ?_; k_whole); intro h' F' N' I' lI' sI'; (try clear sI'); (try dsimp only at N'); (try k_sweep))))
  (k_with "mine_room" => (first | exact room_g (by with_reducible assumption) (by decide) | ktr_room))
  (k_with "mine_units" => (first | exact units_g (by with_reducible assumption) (by decide) | ktr_units))
  unfold Ctr CtrN
  k_fill
  intros; rename_i hret
  refine wpAny_call ?_
  have hsub : ∀ q ∈ ([(l, listOf [Value.int d0 t0, .int d1 t1, .int d2 t2, .int d3 t3, .int d4 t4, .int d5 t5].toArray n)] : Led), q ∈ news := by
    simp only [List.mem_cons, List.not_mem_nil, or_false, forall_eq_or_imp, forall_eq, false_or, false_implies, implies_true]
    first | done | assumption | (refine ⟨?_, ?_⟩ <;> assumption) | (refine ⟨?_, ?_, ?_⟩ <;> assumption)
  k_dflt (refine' enterSC (binds := [(Str.ofString "drawn", .ref l)]) (news₁ := [(l, listOf [Value.int d0 t0, .int d1 t1, .int d2 t2, .int d3 t3, .int d4 t4, .int d5 t5].toArray n)]) ?k1 ?k2 ?k3 ?k4 ?k5 ?kA ?kF ?kK ?k6 ?k7 ?k8 ?k9 ?kB ?kD ?kS ?_ ?c2 ?c3 ?c4; (case kA => exact rfl); (case kF => exact rfl); (case kK => assumption); (case k1 => k_asm); (case k2 => k_asm); (case k3 => k_asm); (case k4 => k_asm); (case k5 => k_asm); (case k6 => k_is); (case k7 => k_is); (case k8 => ktr_room); (case k9 => exact BindsTo.of_eq rfl); (case kS => assumption); (case kB => exact rfl); (case kD => decide +kernel); (case c2 => exact rfl); (case c3 => exact rfl); (case c4 => exact rfl); k_whole)
  intro g' L' h' tk' cells' F' N' Y' B' X' T' l1
  (try k_lt l1)
  k_cells Y'
  (try simp only [List.cons_append, List.nil_append] at N')
  (try dsimp only)
  (try k_lift B')
  (try k_fold)
  k_with_none
  (k_with "mine_in" => (first | exact List.Mem.head _ | (refine List.Mem.tail _ ?_; walk_at "mine_in")))
  (k_with "mine_sub" => (first | exact sub_refl | (refine sub_cons (by walk_at "mine_in") (by walk_at "mine_sub")) | (refine sub_tail ?_; walk_at "mine_sub") | exact List.forall_mem_nil _))
  (k_with "subscriptTail Name Slice ref ref" => ((k_here; (with_reducible show wpAny _ _ (subscriptTail _ (PySem.Expr.Slice (some _) none none _) (Value.ref _) (Value.ref _)) _ _ _); k_dflt (refine' sliceFrom_K (by k_asm) (by k_asm) (by kmk_list) (by l_ints) ?_ (by with_unfolding_all rfl) (by kmk_pure) (by kmk_size)); intro D' ws' h' F' N' l1 hI'; (try k_lt l1); (try k_sweep))))
  (k_with "subscriptTail List" => ((k_here; (with_reducible show wpAny _ _ (subscriptTail _ (PySem.Expr.Slice (some _) none none _) (Value.ref _) (Value.ref _)) _ _ _); k_dflt (refine' sliceFrom_K (by k_asm) (by k_asm) (by kmk_list) (by l_ints) ?_ (by with_unfolding_all rfl) (by kmk_pure) (by kmk_size)); intro D' ws' h' F' N' l1 hI'; (try k_lt l1); (try k_sweep))))
  (k_with "binaryOp Add" => ((k_here; (with_reducible show wpAny _ _ (binaryOp _ (Value.ref _) (Value.ref _)) _ _ _); k_dflt (refine' add_K (by k_asm) (by k_asm) (by k_mem) (by k_mem) ?_ (by walk_at "mine_add_size")); intro l' h' F' N' l1; (try k_lt l1); (try k_sweep))))
  (k_with "binaryOp Mult int int" => ((k_here; (with_reducible refine mul_int ?_ (sz_mul (by with_reducible assumption) (by with_reducible assumption))))))
  (k_with "binaryOp FloorDiv int int" => ((k_here; (with_reducible refine floordiv_int (by with_reducible assumption) ?_ (Or.inl (sz_py (by with_reducible assumption)))))))
  (k_with "subscriptTail Name Constant ref int" => ((k_here; (with_reducible show wpAny _ _ (subscriptTail _ _ (Value.ref _) (Value.int _ _)) _ _ _); k_dflt (refine item_K (by k_asm) (by k_mem) (by decide) (by decide) (by exact rfl) ?_ (by with_unfolding_all rfl) (by kmk_pure)))))
  (k_with "subscriptTail Name Name ref int" => ((k_here; (with_reducible show wpAny _ _ (subscriptTail _ _ (Value.ref _) (Value.int _ _)) _ _ _); k_dflt (refine item_K (by k_asm) (by k_mem) (by decide) (by decide) (by exact rfl) ?_ (by with_unfolding_all rfl) (by kmk_pure)))))
  (k_with "call builtin:str.replace" => ((k_here; (refine replace_K (by first | omega | (simp; done) | (simp; omega)) (by first | omega | (simp; done) | (simp; omega)) (by first | omega | (simp; done) | (simp; omega)) (by k_extra "mine_yz") (by k_extra "mine_xl") (by k_extra "mine_zl") ?_); intro rr tr kr hrr)))
  (k_with "pyIter ref" => ((k_extra "mine_halt"; refine Halt.mk ?_)))
  (k_with "subscriptTail Name BinOp ref int" => (k_extra "mine_itemB"))
  (k_with "InvEndN" => ((k_extra "mine_halt"; refine Halt.mk ?_)))
  (k_with "binaryOp Add str str" => (k_extra "mine_addS"))
  (k_with "mine_kend2" => ((rename News _ _ _ _ => nE'; rename Fr _ _ _ _ => fE'; (try simp only [List.push_toArray] at nE'); refine' kst_end (_, _) fE' nE' (by first | kst_in | kst_inAny) (by first | (intro p hp; kst_mem) | kst_anyIn) (by rfl) (by k_extra "mine_facts") (by kst_all) (by kst_same) (by ((try dsimp only); k_extra "mine_end")))))
  (k_with "mine_kend3" => ((rename News _ _ _ _ => nE'; rename Fr _ _ _ _ => fE'; (try simp only [List.push_toArray] at nE'); refine' kst_end (_, _, _) fE' nE' (by first | kst_in | kst_inAny) (by first | (intro p hp; kst_mem) | kst_anyIn) (by rfl) (by k_extra "mine_facts") (by kst_all) (by kst_same) (by ((try dsimp only); k_extra "mine_end")))))
  (k_with "mine_kend5" => ((rename News _ _ _ _ => nE'; rename Fr _ _ _ _ => fE'; (try simp only [List.push_toArray] at nE'); refine' kst_end (_, _, _, _, _) fE' nE' (by first | kst_in | kst_inAny) (by first | (intro p hp; kst_mem) | kst_anyIn) (by rfl) (by k_extra "mine_facts") (by kst_all) (by kst_same) (by ((try dsimp only); k_extra "mine_end")))))
  (k_with "exec While" => ((k_extra "mine_halt"; refine Halt.mk ?_)))
  (k_with "KswEnd" => ((k_extra "mine_halt"; refine Halt.mk ?_)))
  (k_with "mine_wend2" => ((rename News _ _ _ _ => nE'; rename Fr _ _ _ _ => fE'; (try simp only [List.push_toArray] at nE'); refine' ksw_end (_, _) fE' nE' (by first | kst_in | kst_inAny) (by k_extra "mine_facts") (by kst_all) (by ksw_same) (by ((try dsimp only); k_extra "mine_end")) (by ((try dsimp only); k_extra "mine_less")))))
  (k_with "mine_wend6" => ((rename News _ _ _ _ => nE'; rename Fr _ _ _ _ => fE'; (try simp only [List.push_toArray] at nE'); refine' ksw_end (_, _, _, _, _, _) fE' nE' (by first | kst_in | kst_inAny) (by k_extra "mine_facts") (by kst_all) (by ksw_same) (by ((try dsimp only); k_extra "mine_end")) (by ((try dsimp only); k_extra "mine_less")))))
  (k_with "ExitW" => ((k_extra "mine_halt"; refine Halt.mk ?_)))
  (k_with "eval Subscript" => (k_extra "mine_evalS"))
  (k_with "mine_xend2" => ((rename News _ _ _ _ => nE'; rename Fr _ _ _ _ => fE'; (try simp only [List.push_toArray] at nE'); refine' exit_end (_, _) fE' nE' (by first | kst_in | kst_inAny) (by k_extra "mine_facts") (by kst_all) (by ksw_same) (by ((try dsimp only); k_extra "mine_done")))))
  (k_with "mine_xend4" => ((rename News _ _ _ _ => nE'; rename Fr _ _ _ _ => fE'; (try simp only [List.push_toArray] at nE'); refine' exit_end (_, _, _, _) fE' nE' (by first | kst_in | kst_inAny) (by k_extra "mine_facts") (by kst_all) (by ksw_same) (by ((try dsimp only); k_extra "mine_done")))))
  (k_with "subscriptTail Name Slice str ref" => (((with_reducible show wpAny _ _ (subscriptTail _ (Expr.Slice none (some (Expr.BoolOp _ _ _)) none _) _ _) _ _ _); (with_reducible rename Fr _ _ _ _ => F'); (with_reducible rename News _ _ _ _ => N'); (first | (refine slice_strN_nn_len (s := ⟨_, _, _, _, _⟩) F' N' ?_) | (refine slice_strN_ns_len (s := ⟨_, _, _, _, _⟩) F' N' ?_)); intro _ _ _ _ _ _)))
  (k_with "mine_steps" => (repeat' (first | (k_unfold; (try dsimp only)) | walk1 | (dsimp only; walk1) | (leave1; walk_say "STEP leave1"; try dsimp only) | fail "no step")))
  (k_with "call type:list" => ((k_here; (with_reducible show wpAny _ _ (call (Value.type "list") [Value.ref _]) _ _ _); k_dflt (refine' listRange2_K (by rfl) (by k_asm) (by k_asm) (by assumption) (by omega) ?_); intro Dr yr er hr kr Fr' Nr' lr' Ir; (try k_lt lr'); (try dsimp only); (try k_sweep))))
  (k_with "mine_kend9" => ((rename News _ _ _ _ => nE'; rename Fr _ _ _ _ => fE'; (try simp only [List.push_toArray] at nE'); refine' kst_end (_, _, _, _, _, _, _, _, _) fE' nE' (by first | kst_in | kst_inAny) (by first | (intro p hp; kst_mem) | kst_anyIn) (by rfl) (by k_extra "mine_facts") (by kst_all) (by kst_same) (by ((try dsimp only); k_extra "mine_end")))))
  (k_with "setItem ref int" => ((k_here; (with_reducible show wpAny _ _ (setItem (Value.ref _) (Value.int _ _) (Value.int _ _)) _ _ _); k_dflt (refine' ksa_set (by k_asm) (by k_asm) (by (refine' Upd.head (by k_extra "mine_off"))) (by with_reducible assumption) (by ksa_idx) (by ksa_idx) (by ksa_idx) ?_; k_whole); intro h' F' N' I' lI' sI'; (try clear sI'); (try dsimp only at N'); (try k_sweep))))
  (k_with "mine_room" => (first | exact room_g (by with_reducible assumption) (by decide) | ktr_room))
  (k_with "mine_units" => (first | exact units_g (by with_reducible assumption) (by decide) | ktr_units))
  k_steps
  rename Kept _ _ _ => hK
  rename News _ _ _ _ => kN
  rename Fr _ _ _ _ => kF
  rename IntsAre _ (List.set _ _ _) => hI
  exact hret _ [(_, _)] _ _ ⟨_, _, _, rfl, rfl, hI⟩ kF (kept_news (by assumption) hsub hK kN (by walk_at "mine_sub"))
end
section
theorem c_rows (w : World) (mean : ExcName → Option Value) (mg mb : Str → Option Value) (news : Led) (l : Addr) (n : Nat) (d0 d1 d2 d3 d4 d5 : Int) (t0 t1 t2 t3 t4 t5 : Tok) (hl : (l, listOf [Value.int d0 t0, .int d1 t1, .int d2 t2, .int d3 t3, .int d4 t4, .int d5 t5].toArray n) ∈ news) :
    Ctr w mean mg mb 114 [.ref l] news (fun v nw => ∃ l' items ep, v = .ref l' ∧ nw = [(l', listOf items.toArray ep)] ∧ StrsAre items (rowsF [d0, d1, d2, d3, d4, d5] 4)) := by
  k_with_none
  (k_with "mine_in" => (first | exact List.Mem.head _ | (refine List.Mem.tail _ ?_; walk_at "mine_in")))
  (k_with "mine_sub" => (first | exact sub_refl | (refine sub_cons (by walk_at "mine_in") (by walk_at "mine_sub")) | (refine sub_tail ?_; walk_at "mine_sub") | exact List.forall_mem_nil _))
  (k_with "subscriptTail Name Slice ref ref" => ((k_here; (with_reducible show wpAny _ _ (subscriptTail _ (PySem.Expr.Slice (some _) none none _) (Value.ref _) (Value.ref _)) _ _ _); k_dflt (refine' sliceFrom_K (by k_asm) (by k_asm) (by kmk_list) (by l_ints) ?_ (by with_unfolding_all rfl) (by kmk_pure) (by kmk_size)); intro D' ws' h' F' N' l1 hI'; (try k_lt l1); (try k_sweep))))
  (k_with "subscriptTail List" => ((k_here; (with_reducible show wpAny _ _ (subscriptTail _ (PySem.Expr.Slice (some _) none none _) (Value.ref _) (Value.ref _)) _ _ _); k_dflt (refine' sliceFrom_K (by k_asm) (by k_asm) (by kmk_list) (by l_ints) ?_ (by with_unfolding_all rfl) (by kmk_pure) (by kmk_size)); intro D' ws' h' F' N' l1 hI'; (try k_lt l1); (try k_sweep))))
  (k_with "binaryOp Add" => ((k_here; (with_reducible show wpAny _ _ (binaryOp _ (Value.ref _) (Value.ref _)) _ _ _); k_dflt (refine' add_K (by k_asm) (by k_asm) (by k_mem) (by k_mem) ?_ (by walk_at "mine_add_size")); intro l' h' F' N' l1; (try k_lt l1); (try k_sweep))))
  (k_with "binaryOp Mult int int" => ((k_here; (with_reducible refine mul_int ?_ (sz_mul (by with_reducible assumption) (by with_reducible assumption))))))
  (k_with "binaryOp FloorDiv int int" => ((k_here; (with_reducible refine floordiv_int (by with_reducible assumption) ?_ (Or.inl (sz_py (by with_reducible assumption)))))))
  (k_with "subscriptTail Name Constant ref int" => ((k_here; (with_reducible show wpAny _ _ (subscriptTail _ _ (Value.ref _) (Value.int _ _)) _ _ _); k_dflt (refine item_K (by k_asm) (by k_mem) (by decide) (by decide) (by exact rfl) ?_ (by with_unfolding_all rfl) (by kmk_pure)))))
  (k_with "subscriptTail Name Name ref int" => ((k_here; (with_reducible show wpAny _ _ (subscriptTail _ _ (Value.ref _) (Value.int _ _)) _ _ _); k_dflt (refine item_K (by k_asm) (by k_mem) (by decide) (by decide) (by exact rfl) ?_ (by with_unfolding_all rfl) (by kmk_pure)))))
  (k_with "call builtin:str.replace" => ((k_here; (refine replace_K (by first | omega | (simp; done) | (simp; omega)) (by first | omega | (simp; done) | (simp; omega)) (by first | omega | (simp; done) | (simp; omega)) (by k_extra "mine_yz") (by k_extra "mine_xl") (by k_extra "mine_zl") ?_); intro rr tr kr hrr)))
  (k_with "pyIter ref" => ((k_extra "mine_halt"; refine Halt.mk ?_)))
  (k_with "subscriptTail Name BinOp ref int" => (k_extra "mine_itemB"))
  (k_with "InvEndN" => ((k_extra "mine_halt"; refine Halt.mk ?_)))
  (k_with "binaryOp Add str str" => (k_extra "mine_addS"))
  (k_with "mine_kend2" => ((rename News _ _ _ _ => nE'; rename Fr _ _ _ _ => fE'; (try simp only [List.push_toArray] at nE'); refine' kst_end (_, _) fE' nE' (by first | kst_in | kst_inAny) (by first | (intro p hp; kst_mem) | kst_anyIn) (by rfl) (by k_extra "mine_facts") (by kst_all) (by kst_same) (by ((try dsimp only); k_extra "mine_end")))))
  (k_with "mine_kend3" => ((rename News _ _ _ _ => nE'; rename Fr _ _ _ _ => fE'; (try simp only [List.push_toArray] at nE'); refine' kst_end (_, _, _) fE' nE' (by first | kst_in | kst_inAny) (by first | (intro p hp; kst_mem) | kst_anyIn) (by rfl) (by k_extra "mine_facts") (by kst_all) (by kst_same) (by ((try dsimp only); k_extra "mine_end")))))
  (k_with "mine_kend5" => ((rename News _ _ _ _ => nE'; rename Fr _ _ _ _ => fE'; (try simp only [List.push_toArray] at nE'); refine' kst_end (_, _, _, _, _) fE' nE' (by first | kst_in | kst_inAny) (by first | (intro p hp; kst_mem) | kst_anyIn) (by rfl) (by k_extra "mine_facts") (by kst_all) (by kst_same) (by ((try dsimp only); k_extra "mine_end")))))
  (k_with "exec While" => ((k_extra "mine_halt"; refine Halt.mk ?_)))
  (k_with "KswEnd" => ((k_extra "mine_halt"; refine Halt.mk ?_)))
  (k_with "mine_wend2" => ((rename News _ _ _ _ => nE'; rename Fr _ _ _ _ => fE'; (try simp only [List.push_toArray] at nE'); refine' ksw_end (_, _) fE' nE' (by first | kst_in | kst_inAny) (by k_extra "mine_facts") (by kst_all) (by ksw_same) (by ((try dsimp only); k_extra "mine_end")) (by ((try dsimp only); k_extra "mine_less")))))
  (k_with "mine_wend6" => ((rename News _ _ _ _ => nE'; rename Fr _ _ _ _ => fE'; (try simp only [List.push_toArray] at nE'); refine' ksw_end (_, _, _, _, _, _) fE' nE' (by first | kst_in | kst_inAny) (by k_extra "mine_facts") (by kst_all) (by ksw_same) (by ((try dsimp only); k_extra "mine_end")) (by ((try dsimp only); k_extra "mine_less")))))
  (k_with "ExitW" => ((k_extra "mine_halt"; refine Halt.mk ?_)))
  (k_with "eval Subscript" => (k_extra "mine_evalS"))
  (k_with "mine_xend2" => ((rename News _ _ _ _ => nE'; rename Fr _ _ _ _ => fE'; (try simp only [List.push_toArray] at nE'); refine' exit_end (_, _) fE' nE' (by first | kst_in | kst_inAny) (by k_extra "mine_facts") (by kst_all) (by ksw_same) (by ((try dsimp only); k_extra "mine_done")))))
  (k_with "mine_xend4" => ((rename News _ _ _ _ => nE'; rename Fr _ _ _ _ => fE'; (try simp only [List.push_toArray] at nE'); refine' exit_end (_, _, _, _) fE' nE' (by first | kst_in | kst_inAny) (by k_extra "mine_facts") (by kst_all) (by ksw_same) (by ((try dsimp only); k_extra "mine_done")))))
  (k_with "subscriptTail Name Slice str ref" => (((with_reducible show wpAny _ _ (subscriptTail _ (Expr.Slice none (some (Expr.BoolOp _ _ _)) none _) _ _) _ _ _); (with_reducible rename Fr _ _ _ _ => F'); (with_reducible rename News _ _ _ _ => N'); (first | (refine slice_strN_nn_len (s := ⟨_, _, _, _, _⟩) F' N' ?_) | (refine slice_strN_ns_len (s := ⟨_, _, _, _, _⟩) F' N' ?_)); intro _ _ _ _ _ _)))
  (k_with "mine_steps" => (repeat' (first | (k_unfold; (try dsimp only)) | walk1 | (dsimp only; walk1) | (leave1; walk_say "STEP leave1"; try dsimp only) | fail "no step")))
  (k_with "call type:list" => ((k_here; (with_reducible show wpAny _ _ (call (Value.type "list") [Value.ref _]) _ _ _); k_dflt (refine' listRange2_K (by rfl) (by k_asm) (by k_asm) (by assumption) (by omega) ?_); intro Dr yr er hr kr Fr' Nr' lr' Ir; (try k_lt lr'); (try dsimp only); (try k_sweep))))
  (k_with "mine_kend9" => ((rename News _ _ _ _ => nE'; rename Fr _ _ _ _ => fE'; (try simp only [List.push_toArray] at nE'); refine' kst_end (_, _, _, _, _, _, _, _, _) fE' nE' (by first | kst_in | kst_inAny) (by first | (intro p hp; kst_mem) | kst_anyIn) (by rfl) (by k_extra "mine_facts") (by kst_all) (by kst_same) (by ((try dsimp only); k_extra "mine_end")))))
  (k_with "setItem ref int" => ((k_here; (with_reducible show wpAny _ _ (setItem (Value.ref _) (Value.int _ _) (Value.int _ _)) _ _ _); k_dflt (refine' ksa_set (by k_asm) (by k_asm) (by (refine' Upd.head (by k_extra "mine_off"))) (by with_reducible assumption) (by ksa_idx) (by ksa_idx) (by ksa_idx) ?_; k_whole); intro h' F' N' I' lI' sI'; (try clear sI'); (try dsimp only at N'); (try k_sweep))))
  (k_with "mine_room" => (first | exact room_g (by with_reducible assumption) (by decide) | ktr_room))
  (k_with "mine_units" => (first | exact units_g (by with_reducible assumption) (by decide) | ktr_units))
  unfold Ctr CtrN
  k_fill
  intros; rename_i hret
  refine wpAny_call ?_
  have hsub : ∀ q ∈ ([(l, listOf [Value.int d0 t0, .int d1 t1, .int d2 t2, .int d3 t3, .int d4 t4, .int d5 t5].toArray n)] : Led), q ∈ news := by
    simp only [List.mem_cons, List.not_mem_nil, or_false, forall_eq_or_imp, forall_eq, false_or, false_implies, implies_true]
    first | done | assumption | (refine ⟨?_, ?_⟩ <;> assumption) | (refine ⟨?_, ?_, ?_⟩ <;> assumption)
  k_dflt (refine' enterS (binds := [(Str.ofString "drawn", .ref l)]) (news₁ := [(l, listOf [Value.int d0 t0, .int d1 t1, .int d2 t2, .int d3 t3, .int d4 t4, .int d5 t5].toArray n)]) ?k1 ?k2 ?k3 ?k4 ?k5 ?kA ?kF ?kK ?k6 ?k7 ?k8 ?k9 ?kB ?kS ?_ ?c2 ?c3 ?c4 ?c5; (case kA => exact rfl); (case kF => exact rfl); (case kK => assumption); (case k1 => k_asm); (case k2 => k_asm); (case k3 => k_asm); (case k4 => k_asm); (case k5 => k_asm); (case k6 => k_is); (case k7 => k_is); (case k8 => ktr_room); (case k9 => exact BindsTo.of_eq rfl); (case kS => assumption); (case c5 => decide); (case kB => exact locs rfl); (case c2 => exact rfl); (case c3 => exact rfl); (case c4 => exact rfl); k_whole)
  intro g' L' h' F' N' B' X' T'
  (try dsimp only)
  (try k_lift B')
  (try k_fold)
  k_with_none
  (k_with "mine_in" => (first | exact List.Mem.head _ | (refine List.Mem.tail _ ?_; walk_at "mine_in")))
  (k_with "mine_sub" => (first | exact sub_refl | (refine sub_cons (by walk_at "mine_in") (by walk_at "mine_sub")) | (refine sub_tail ?_; walk_at "mine_sub") | exact List.forall_mem_nil _))
  (k_with "subscriptTail Name Slice ref ref" => ((k_here; (with_reducible show wpAny _ _ (subscriptTail _ (PySem.Expr.Slice (some _) none none _) (Value.ref _) (Value.ref _)) _ _ _); k_dflt (refine' sliceFrom_K (by k_asm) (by k_asm) (by kmk_list) (by l_ints) ?_ (by with_unfolding_all rfl) (by kmk_pure) (by kmk_size)); intro D' ws' h' F' N' l1 hI'; (try k_lt l1); (try k_sweep))))
  (k_with "subscriptTail List" => ((k_here; (with_reducible show wpAny _ _ (subscriptTail _ (PySem.Expr.Slice (some _) none none _) (Value.ref _) (Value.ref _)) _ _ _); k_dflt (refine' sliceFrom_K (by k_asm) (by k_asm) (by kmk_list) (by l_ints) ?_ (by with_unfolding_all rfl) (by kmk_pure) (by kmk_size)); intro D' ws' h' F' N' l1 hI'; (try k_lt l1); (try k_sweep))))
  (k_with "binaryOp Add" => ((k_here; (with_reducible show wpAny _ _ (binaryOp _ (Value.ref _) (Value.ref _)) _ _ _); k_dflt (refine' add_K (by k_asm) (by k_asm) (by k_mem) (by k_mem) ?_ (by walk_at "mine_add_size")); intro l' h' F' N' l1; (try k_lt l1); (try k_sweep))))
  (k_with "binaryOp Mult int int" => ((k_here; (with_reducible refine mul_int ?_ (sz_mul (by with_reducible assumption) (by with_reducible assumption))))))
  (k_with "binaryOp FloorDiv int int" => ((k_here; (with_reducible refine floordiv_int (by with_reducible assumption) ?_ (Or.inl (sz_py (by with_reducible assumption)))))))
  (k_with "subscriptTail Name Constant ref int" => ((k_here; (with_reducible show wpAny _ _ (subscriptTail _ _ (Value.ref _) (Value.int _ _)) _ _ _); k_dflt (refine item_K (by k_asm) (by k_mem) (by decide) (by decide) (by exact rfl) ?_ (by with_unfolding_all rfl) (by kmk_pure)))))
  (k_with "subscriptTail Name Name ref int" => ((k_here; (with_reducible show wpAny _ _ (subscriptTail _ _ (Value.ref _) (Value.int _ _)) _ _ _); k_dflt (refine item_K (by k_asm) (by k_mem) (by decide) (by decide) (by exact rfl) ?_ (by with_unfolding_all rfl) (by kmk_pure)))))
  (k_with "call builtin:str.replace" => ((k_here; (refine replace_K (by first | omega | (simp; done) | (simp; omega)) (by first | omega | (simp; done) | (simp; omega)) (by first | omega | (simp; done) | (simp; omega)) (by k_extra "mine_yz") (by k_extra "mine_xl") (by k_extra "mine_zl") ?_); intro rr tr kr hrr)))
  (k_with "pyIter ref" => ((k_extra "mine_halt"; refine Halt.mk ?_)))
  (k_with "subscriptTail Name BinOp ref int" => (k_extra "mine_itemB"))
  (k_with "InvEndN" => ((k_extra "mine_halt"; refine Halt.mk ?_)))
  (k_with "binaryOp Add str str" => (k_extra "mine_addS"))
  (k_with "mine_kend2" => ((rename News _ _ _ _ => nE'; rename Fr _ _ _ _ => fE'; (try simp only [List.push_toArray] at nE'); refine' kst_end (_, _) fE' nE' (by first | kst_in | kst_inAny) (by first | (intro p hp; kst_mem) | kst_anyIn) (by rfl) (by k_extra "mine_facts") (by kst_all) (by kst_same) (by ((try dsimp only); k_extra "mine_end")))))
  (k_with "mine_kend3" => ((rename News _ _ _ _ => nE'; rename Fr _ _ _ _ => fE'; (try simp only [List.push_toArray] at nE'); refine' kst_end (_, _, _) fE' nE' (by first | kst_in | kst_inAny) (by first | (intro p hp; kst_mem) | kst_anyIn) (by rfl) (by k_extra "mine_facts") (by kst_all) (by kst_same) (by ((try dsimp only); k_extra "mine_end")))))
  (k_with "mine_kend5" => ((rename News _ _ _ _ => nE'; rename Fr _ _ _ _ => fE'; (try simp only [List.push_toArray] at nE'); refine' kst_end (_, _, _, _, _) fE' nE' (by first | kst_in | kst_inAny) (by first | (intro p hp; kst_mem) | kst_anyIn) (by rfl) (by k_extra "mine_facts") (by kst_all) (by kst_same) (by ((try dsimp only); k_extra "mine_end")))))
  (k_with "exec While" => ((k_extra "mine_halt"; refine Halt.mk ?_)))
  (k_with "KswEnd" => ((k_extra "mine_halt"; refine Halt.mk ?_)))
  (k_with "mine_wend2" => ((rename News _ _ _ _ => nE'; rename Fr _ _ _ _ => fE'; (try simp only [List.push_toArray] at nE'); refine' ksw_end (_, _) fE' nE' (by first | kst_in | kst_inAny) (by k_extra "mine_facts") (by kst_all) (by ksw_same) (by ((try dsimp only); k_extra "mine_end")) (by ((try dsimp only); k_extra "mine_less")))))
  (k_with "mine_wend6" => ((rename News _ _ _ _ => nE'; rename Fr _ _ _ _ => fE'; (try simp only [List.push_toArray] at nE'); refine' ksw_end (_, _, _, _, _, _) fE' nE' (by first | kst_in | kst_inAny) (by k_extra "mine_facts") (by kst_all) (by ksw_same) (by ((try dsimp only); k_extra "mine_end")) (by ((try dsimp only); k_extra "mine_less")))))
  (k_with "ExitW" => ((k_extra "mine_halt"; refine Halt.mk ?_)))
  (k_with "eval Subscript" => (k_extra "mine_evalS"))
  (k_with "mine_xend2" => ((rename News _ _ _ _ => nE'; rename Fr _ _ _ _ => fE'; (try simp only [List.push_toArray] at nE'); refine' exit_end (_, _) fE' nE' (by first | kst_in | kst_inAny) (by k_extra "mine_facts") (by kst_all) (by ksw_same) (by ((try dsimp only); k_extra "mine_done")))))
  (k_with "mine_xend4" => ((rename News _ _ _ _ => nE'; rename Fr _ _ _ _ => fE'; (try simp only [List.push_toArray] at nE'); refine' exit_end (_, _, _, _) fE' nE' (by first | kst_in | kst_inAny) (by k_extra "mine_facts") (by kst_all) (by ksw_same) (by ((try dsimp only); k_extra "mine_done")))))
  (k_with "subscriptTail Name Slice str ref" => (((with_reducible show wpAny _ _ (subscriptTail _ (Expr.Slice none (some (Expr.BoolOp _ _ _)) none _) _ _) _ _ _); (with_reducible rename Fr _ _ _ _ => F'); (with_reducible rename News _ _ _ _ => N'); (first | (refine slice_strN_nn_len (s := ⟨_, _, _, _, _⟩) F' N' ?_) | (refine slice_strN_ns_len (s := ⟨_, _, _, _, _⟩) F' N' ?_)); intro _ _ _ _ _ _)))
  (k_with "mine_steps" => (repeat' (first | (k_unfold; (try dsimp only)) | walk1 | (dsimp only; walk1) | (leave1; walk_say "STEP leave1"; try dsimp only) | fail "no step")))
  (k_with "call type:list" => ((k_here; (with_reducible show wpAny _ _ (call (Value.type "list") [Value.ref _]) _ _ _); k_dflt (refine' listRange2_K (by rfl) (by k_asm) (by k_asm) (by assumption) (by omega) ?_); intro Dr yr er hr kr Fr' Nr' lr' Ir; (try k_lt lr'); (try dsimp only); (try k_sweep))))
  (k_with "mine_kend9" => ((rename News _ _ _ _ => nE'; rename Fr _ _ _ _ => fE'; (try simp only [List.push_toArray] at nE'); refine' kst_end (_, _, _, _, _, _, _, _, _) fE' nE' (by first | kst_in | kst_inAny) (by first | (intro p hp; kst_mem) | kst_anyIn) (by rfl) (by k_extra "mine_facts") (by kst_all) (by kst_same) (by ((try dsimp only); k_extra "mine_end")))))
  (k_with "setItem ref int" => ((k_here; (with_reducible show wpAny _ _ (setItem (Value.ref _) (Value.int _ _) (Value.int _ _)) _ _ _); k_dflt (refine' ksa_set (by k_asm) (by k_asm) (by (refine' Upd.head (by k_extra "mine_off"))) (by with_reducible assumption) (by ksa_idx) (by ksa_idx) (by ksa_idx) ?_; k_whole); intro h' F' N' I' lI' sI'; (try clear sI'); (try dsimp only at N'); (try k_sweep))))
  (k_with "mine_room" => (first | exact room_g (by with_reducible assumption) (by decide) | ktr_room))
  (k_with "mine_units" => (first | exact units_g (by with_reducible assumption) (by decide) | ktr_units))
  (k_with "mine_halt" => skip)
  (k_with "mine_itemB" => (refine' itemS_K ?N ?l ?w ?a ?b ?c ?_ ?s ?t; (case N => k_asm); (case l => k_mem); (case w => with_reducible assumption); (case a => exact fmod_lo _ (by omega)); (case b => exact Int.lt_of_lt_of_le (fmod_hi _ (by omega)) (by omega)); (case c => exact Int.lt_of_lt_of_le (fmod_hi _ (by omega)) (by omega)); (case s => with_unfolding_all rfl); (case t => kmk_pure); intro ya yt hya hyam))
  (k_with "mine_yz" => (first | exact yz0 _ | exact yzP hk hlt | exact yzA hk hlt))
  (k_with "mine_xl" => (first | decide +kernel | exact Nat.le_trans (rowsP_mem hP hlt (by assumption)) (by decide)))
  (k_with "mine_zl" => (first | decide +kernel | (rw [item_len]; decide)))
  (k_with "mine_addS" => (refine add_str ?_ (dot_size hP hlt (by assumption)); intro _ _))
  (k_with "mine_facts" => exact StrsAre.append' hfacts (.cons _ _ .nil))
  (k_with "mine_end" => (rw [List.length_append]; refine rows_turn hP hk ?_; first | exact rowStep_dot (d4 := d4) rfl (by with_reducible assumption) (by with_reducible assumption) | exact rowStep_P (d4 := d4) rfl (by with_reducible assumption) (by with_reducible assumption) (by with_reducible assumption) (by with_reducible assumption) | exact rowStep_A (d4 := d4) rfl (by with_reducible assumption) (by with_reducible assumption) (by with_reducible assumption) (by with_reducible assumption)))
  k_steps
  unfold Halt
  rename Fr _ _ _ _ => lF'
  rename News _ _ _ _ => lN'
  rename IsRange _ _ _ _ _ _ _ _ => rgX
  rename _ = Txt.replace _ _ _ => hr0
  refine nameN lN' ?_
  intro lr hlr
  subst hlr
  with_unfolding_all refine' kst_range (σ := List Value × List Str × Nat) (n := 4) (fun c => [(lr, listOf c.1.toArray c.2.2), (l, listOf [Value.int d0 t0, .int d1 t1, .int d2 t2, .int d3 t3, .int d4 t4, .int d5 t5].toArray n)]) (fun _ => []) (fun c => StrsAre c.1 c.2.1) [Str.ofString "above", Str.ofString "signs"] (fun pre c => RowsP [d0, d1, d2, d3, d4, d5] pre.length c.2.1) ([_], [_], _) ?q1 rgX ?q2 ?q3 lF' lN' ?kf (fun _ h => nomatch h) ?kp ?_ ?_
  case q1 => rfl
  case q2 => decide
  case q3 => decide
  case kf => exact StrsAre.cons _ _ StrsAre.nil
  case kp => exact rows_start hr0
  · clear lF' lN'
    intro ⟨vs, ss, ep⟩ pre k t u h tk own hk hlt hoff hfacts hP kFr kNews
    have kMark := kstMark
    dsimp only [kstB] at kFr
    dsimp only at kNews hfacts hP
    have hlen := rowsP_len hP
    k_steps
    all_goals try (exfalso; first | exact no_idx (x := Str.ofString "pqrs") hk hlt (by decide +kernel) (by assumption) | exact no_idx (x := Str.ofString "ABCD") hk hlt (by decide +kernel) (by assumption))
    all_goals (unfold Halt; walk_at "mine_kend3")
  · clear lF' lN'
    intro ⟨vs, ss, ep⟩ u h tk hfacts hP kFr kNews
    dsimp only [kstB] at kFr
    dsimp only at kNews hfacts hP
    k_steps
    rename Kept _ _ _ => hK
    rename News _ _ _ _ => kN
    rename Fr _ _ _ _ => kF
    have e4 : (rangeKs 0 4).length = 4 := rangeKs_length _ _
    rw [e4] at hP
    exact hret _ [(lr, _)] _ _ ⟨lr, vs, ep, rfl, rfl, hP.1 ▸ hfacts⟩ kF (kept_news (by assumption) hsub hK kN (by walk_at "mine_sub"))
end
section
theorem c_due (w : World) (mean : ExcName → Option Value) (mg mb : Str → Option Value) (news : Led) (l : Addr) (n : Nat) (l0 l1 l2 l3 x : Int) (t0 t1 t2 t3 t4 : Tok) (hl : (l, listOf [Value.int l0 t0, .int l1 t1, .int l2 t2, .int l3 t3].toArray n) ∈ news) (h0 : 1 ≤ l0 ∧ l0 ≤ 8) (h1 : 1 ≤ l1 ∧ l1 ≤ 8) (h2 : 1 ≤ l2 ∧ l2 ≤ 8) (h3 : 1 ≤ l3 ∧ l3 ≤ 8) (hx : 0 ≤ x ∧ x < 10 ^ 9) :
    Ctr w mean mg mb 142 [.ref l, .int x t4] news (fun v nw => ∃ l' items ep, v = .ref l' ∧ nw = [(l', listOf items.toArray ep)] ∧ IntsAre items (dueF l0 l1 l2 l3 x)) := by
  k_with_none
  (k_with "mine_in" => (first | exact List.Mem.head _ | (refine List.Mem.tail _ ?_; walk_at "mine_in")))
  (k_with "mine_sub" => (first | exact sub_refl | (refine sub_cons (by walk_at "mine_in") (by walk_at "mine_sub")) | (refine sub_tail ?_; walk_at "mine_sub") | exact List.forall_mem_nil _))
  (k_with "subscriptTail Name Slice ref ref" => ((k_here; (with_reducible show wpAny _ _ (subscriptTail _ (PySem.Expr.Slice (some _) none none _) (Value.ref _) (Value.ref _)) _ _ _); k_dflt (refine' sliceFrom_K (by k_asm) (by k_asm) (by kmk_list) (by l_ints) ?_ (by with_unfolding_all rfl) (by kmk_pure) (by kmk_size)); intro D' ws' h' F' N' l1 hI'; (try k_lt l1); (try k_sweep))))
  (k_with "subscriptTail List" => ((k_here; (with_reducible show wpAny _ _ (subscriptTail _ (PySem.Expr.Slice (some _) none none _) (Value.ref _) (Value.ref _)) _ _ _); k_dflt (refine' sliceFrom_K (by k_asm) (by k_asm) (by kmk_list) (by l_ints) ?_ (by with_unfolding_all rfl) (by kmk_pure) (by kmk_size)); intro D' ws' h' F' N' l1 hI'; (try k_lt l1); (try k_sweep))))
  (k_with "binaryOp Add" => ((k_here; (with_reducible show wpAny _ _ (binaryOp _ (Value.ref _) (Value.ref _)) _ _ _); k_dflt (refine' add_K (by k_asm) (by k_asm) (by k_mem) (by k_mem) ?_ (by walk_at "mine_add_size")); intro l' h' F' N' l1; (try k_lt l1); (try k_sweep))))
  (k_with "binaryOp Mult int int" => ((k_here; (with_reducible refine mul_int ?_ (sz_mul (by with_reducible assumption) (by with_reducible assumption))))))
  (k_with "binaryOp FloorDiv int int" => ((k_here; (with_reducible refine floordiv_int (by with_reducible assumption) ?_ (Or.inl (sz_py (by with_reducible assumption)))))))
  (k_with "subscriptTail Name Constant ref int" => ((k_here; (with_reducible show wpAny _ _ (subscriptTail _ _ (Value.ref _) (Value.int _ _)) _ _ _); k_dflt (refine item_K (by k_asm) (by k_mem) (by decide) (by decide) (by exact rfl) ?_ (by with_unfolding_all rfl) (by kmk_pure)))))
  (k_with "subscriptTail Name Name ref int" => ((k_here; (with_reducible show wpAny _ _ (subscriptTail _ _ (Value.ref _) (Value.int _ _)) _ _ _); k_dflt (refine item_K (by k_asm) (by k_mem) (by decide) (by decide) (by exact rfl) ?_ (by with_unfolding_all rfl) (by kmk_pure)))))
  (k_with "call builtin:str.replace" => ((k_here; (refine replace_K (by first | omega | (simp; done) | (simp; omega)) (by first | omega | (simp; done) | (simp; omega)) (by first | omega | (simp; done) | (simp; omega)) (by k_extra "mine_yz") (by k_extra "mine_xl") (by k_extra "mine_zl") ?_); intro rr tr kr hrr)))
  (k_with "pyIter ref" => ((k_extra "mine_halt"; refine Halt.mk ?_)))
  (k_with "subscriptTail Name BinOp ref int" => (k_extra "mine_itemB"))
  (k_with "InvEndN" => ((k_extra "mine_halt"; refine Halt.mk ?_)))
  (k_with "binaryOp Add str str" => (k_extra "mine_addS"))
  (k_with "mine_kend2" => ((rename News _ _ _ _ => nE'; rename Fr _ _ _ _ => fE'; (try simp only [List.push_toArray] at nE'); refine' kst_end (_, _) fE' nE' (by first | kst_in | kst_inAny) (by first | (intro p hp; kst_mem) | kst_anyIn) (by rfl) (by k_extra "mine_facts") (by kst_all) (by kst_same) (by ((try dsimp only); k_extra "mine_end")))))
  (k_with "mine_kend3" => ((rename News _ _ _ _ => nE'; rename Fr _ _ _ _ => fE'; (try simp only [List.push_toArray] at nE'); refine' kst_end (_, _, _) fE' nE' (by first | kst_in | kst_inAny) (by first | (intro p hp; kst_mem) | kst_anyIn) (by rfl) (by k_extra "mine_facts") (by kst_all) (by kst_same) (by ((try dsimp only); k_extra "mine_end")))))
  (k_with "mine_kend5" => ((rename News _ _ _ _ => nE'; rename Fr _ _ _ _ => fE'; (try simp only [List.push_toArray] at nE'); refine' kst_end (_, _, _, _, _) fE' nE' (by first | kst_in | kst_inAny) (by first | (intro p hp; kst_mem) | kst_anyIn) (by rfl) (by k_extra "mine_facts") (by kst_all) (by kst_same) (by ((try dsimp only); k_extra "mine_end")))))
  (k_with "exec While" => ((k_extra "mine_halt"; refine Halt.mk ?_)))
  (k_with "KswEnd" => ((k_extra "mine_halt"; refine Halt.mk ?_)))
  (k_with "mine_wend2" => ((rename News _ _ _ _ => nE'; rename Fr _ _ _ _ => fE'; (try simp only [List.push_toArray] at nE'); refine' ksw_end (_, _) fE' nE' (by first | kst_in | kst_inAny) (by k_extra "mine_facts") (by kst_all) (by ksw_same) (by ((try dsimp only); k_extra "mine_end")) (by ((try dsimp only); k_extra "mine_less")))))
  (k_with "mine_wend6" => ((rename News _ _ _ _ => nE'; rename Fr _ _ _ _ => fE'; (try simp only [List.push_toArray] at nE'); refine' ksw_end (_, _, _, _, _, _) fE' nE' (by first | kst_in | kst_inAny) (by k_extra "mine_facts") (by kst_all) (by ksw_same) (by ((try dsimp only); k_extra "mine_end")) (by ((try dsimp only); k_extra "mine_less")))))
  (k_with "ExitW" => ((k_extra "mine_halt"; refine Halt.mk ?_)))
  (k_with "eval Subscript" => (k_extra "mine_evalS"))
  (k_with "mine_xend2" => ((rename News _ _ _ _ => nE'; rename Fr _ _ _ _ => fE'; (try simp only [List.push_toArray] at nE'); refine' exit_end (_, _) fE' nE' (by first | kst_in | kst_inAny) (by k_extra "mine_facts") (by kst_all) (by ksw_same) (by ((try dsimp only); k_extra "mine_done")))))
  (k_with "mine_xend4" => ((rename News _ _ _ _ => nE'; rename Fr _ _ _ _ => fE'; (try simp only [List.push_toArray] at nE'); refine' exit_end (_, _, _, _) fE' nE' (by first | kst_in | kst_inAny) (by k_extra "mine_facts") (by kst_all) (by ksw_same) (by ((try dsimp only); k_extra "mine_done")))))
  (k_with "subscriptTail Name Slice str ref" => (((with_reducible show wpAny _ _ (subscriptTail _ (Expr.Slice none (some (Expr.BoolOp _ _ _)) none _) _ _) _ _ _); (with_reducible rename Fr _ _ _ _ => F'); (with_reducible rename News _ _ _ _ => N'); (first | (refine slice_strN_nn_len (s := ⟨_, _, _, _, _⟩) F' N' ?_) | (refine slice_strN_ns_len (s := ⟨_, _, _, _, _⟩) F' N' ?_)); intro _ _ _ _ _ _)))
  (k_with "mine_steps" => (repeat' (first | (k_unfold; (try dsimp only)) | walk1 | (dsimp only; walk1) | (leave1; walk_say "STEP leave1"; try dsimp only) | fail "no step")))
  (k_with "call type:list" => ((k_here; (with_reducible show wpAny _ _ (call (Value.type "list") [Value.ref _]) _ _ _); k_dflt (refine' listRange2_K (by rfl) (by k_asm) (by k_asm) (by assumption) (by omega) ?_); intro Dr yr er hr kr Fr' Nr' lr' Ir; (try k_lt lr'); (try dsimp only); (try k_sweep))))
  (k_with "mine_kend9" => ((rename News _ _ _ _ => nE'; rename Fr _ _ _ _ => fE'; (try simp only [List.push_toArray] at nE'); refine' kst_end (_, _, _, _, _, _, _, _, _) fE' nE' (by first | kst_in | kst_inAny) (by first | (intro p hp; kst_mem) | kst_anyIn) (by rfl) (by k_extra "mine_facts") (by kst_all) (by kst_same) (by ((try dsimp only); k_extra "mine_end")))))
  (k_with "setItem ref int" => ((k_here; (with_reducible show wpAny _ _ (setItem (Value.ref _) (Value.int _ _) (Value.int _ _)) _ _ _); k_dflt (refine' ksa_set (by k_asm) (by k_asm) (by (refine' Upd.head (by k_extra "mine_off"))) (by with_reducible assumption) (by ksa_idx) (by ksa_idx) (by ksa_idx) ?_; k_whole); intro h' F' N' I' lI' sI'; (try clear sI'); (try dsimp only at N'); (try k_sweep))))
  (k_with "mine_room" => (first | exact room_g (by with_reducible assumption) (by decide) | ktr_room))
  (k_with "mine_units" => (first | exact units_g (by with_reducible assumption) (by decide) | ktr_units))
  unfold Ctr CtrN
  k_fill
  intros; rename_i hret
  refine wpAny_call ?_
  have hsub : ∀ q ∈ ([(l, listOf [Value.int l0 t0, .int l1 t1, .int l2 t2, .int l3 t3].toArray n)] : Led), q ∈ news := by
    simp only [List.mem_cons, List.not_mem_nil, or_false, forall_eq_or_imp, forall_eq, false_or, false_implies, implies_true]
    first | done | assumption | (refine ⟨?_, ?_⟩ <;> assumption) | (refine ⟨?_, ?_, ?_⟩ <;> assumption)
  k_dflt (refine' enterS (binds := [(Str.ofString "lengths", .ref l), (Str.ofString "extra", .int x t4)]) (news₁ := [(l, listOf [Value.int l0 t0, .int l1 t1, .int l2 t2, .int l3 t3].toArray n)]) ?k1 ?k2 ?k3 ?k4 ?k5 ?kA ?kF ?kK ?k6 ?k7 ?k8 ?k9 ?kB ?kS ?_ ?c2 ?c3 ?c4 ?c5; (case kA => exact rfl); (case kF => exact rfl); (case kK => assumption); (case k1 => k_asm); (case k2 => k_asm); (case k3 => k_asm); (case k4 => k_asm); (case k5 => k_asm); (case k6 => k_is); (case k7 => k_is); (case k8 => ktr_room); (case k9 => exact BindsTo.of_eq rfl); (case kS => assumption); (case c5 => decide); (case kB => exact locs rfl); (case c2 => exact rfl); (case c3 => exact rfl); (case c4 => exact rfl); k_whole)
  intro g' L' h' F' N' B' X' T'
  (try dsimp only)
  (try k_lift B')
  (try k_fold)
  k_with_none
  (k_with "mine_in" => (first | exact List.Mem.head _ | (refine List.Mem.tail _ ?_; walk_at "mine_in")))
  (k_with "mine_sub" => (first | exact sub_refl | (refine sub_cons (by walk_at "mine_in") (by walk_at "mine_sub")) | (refine sub_tail ?_; walk_at "mine_sub") | exact List.forall_mem_nil _))
  (k_with "subscriptTail Name Slice ref ref" => ((k_here; (with_reducible show wpAny _ _ (subscriptTail _ (PySem.Expr.Slice (some _) none none _) (Value.ref _) (Value.ref _)) _ _ _); k_dflt (refine' sliceFrom_K (by k_asm) (by k_asm) (by kmk_list) (by l_ints) ?_ (by with_unfolding_all rfl) (by kmk_pure) (by kmk_size)); intro D' ws' h' F' N' l1 hI'; (try k_lt l1); (try k_sweep))))
  (k_with "subscriptTail List" => ((k_here; (with_reducible show wpAny _ _ (subscriptTail _ (PySem.Expr.Slice (some _) none none _) (Value.ref _) (Value.ref _)) _ _ _); k_dflt (refine' sliceFrom_K (by k_asm) (by k_asm) (by kmk_list) (by l_ints) ?_ (by with_unfolding_all rfl) (by kmk_pure) (by kmk_size)); intro D' ws' h' F' N' l1 hI'; (try k_lt l1); (try k_sweep))))
  (k_with "binaryOp Add" => ((k_here; (with_reducible show wpAny _ _ (binaryOp _ (Value.ref _) (Value.ref _)) _ _ _); k_dflt (refine' add_K (by k_asm) (by k_asm) (by k_mem) (by k_mem) ?_ (by walk_at "mine_add_size")); intro l' h' F' N' l1; (try k_lt l1); (try k_sweep))))
  (k_with "binaryOp Mult int int" => ((k_here; (with_reducible refine mul_int ?_ (sz_mul (by with_reducible assumption) (by with_reducible assumption))))))
  (k_with "binaryOp FloorDiv int int" => ((k_here; (with_reducible refine floordiv_int (by with_reducible assumption) ?_ (Or.inl (sz_py (by with_reducible assumption)))))))
  (k_with "subscriptTail Name Constant ref int" => ((k_here; (with_reducible show wpAny _ _ (subscriptTail _ _ (Value.ref _) (Value.int _ _)) _ _ _); k_dflt (refine item_K (by k_asm) (by k_mem) (by decide) (by decide) (by exact rfl) ?_ (by with_unfolding_all rfl) (by kmk_pure)))))
  (k_with "subscriptTail Name Name ref int" => ((k_here; (with_reducible show wpAny _ _ (subscriptTail _ _ (Value.ref _) (Value.int _ _)) _ _ _); k_dflt (refine item_K (by k_asm) (by k_mem) (by decide) (by decide) (by exact rfl) ?_ (by with_unfolding_all rfl) (by kmk_pure)))))
  (k_with "call builtin:str.replace" => ((k_here; (refine replace_K (by first | omega | (simp; done) | (simp; omega)) (by first | omega | (simp; done) | (simp; omega)) (by first | omega | (simp; done) | (simp; omega)) (by k_extra "mine_yz") (by k_extra "mine_xl") (by k_extra "mine_zl") ?_); intro rr tr kr hrr)))
  (k_with "pyIter ref" => ((k_extra "mine_halt"; refine Halt.mk ?_)))
  (k_with "subscriptTail Name BinOp ref int" => (k_extra "mine_itemB"))
  (k_with "InvEndN" => ((k_extra "mine_halt"; refine Halt.mk ?_)))
  (k_with "binaryOp Add str str" => (k_extra "mine_addS"))
  (k_with "mine_kend2" => ((rename News _ _ _ _ => nE'; rename Fr _ _ _ _ => fE'; (try simp only [List.push_toArray] at nE'); refine' kst_end (_, _) fE' nE' (by first | kst_in | kst_inAny) (by first | (intro p hp; kst_mem) | kst_anyIn) (by rfl) (by k_extra "mine_facts") (by kst_all) (by kst_same) (by ((try dsimp only); k_extra "mine_end")))))
  (k_with "mine_kend3" => ((rename News _ _ _ _ => nE'; rename Fr _ _ _ _ => fE'; (try simp only [List.push_toArray] at nE'); refine' kst_end (_, _, _) fE' nE' (by first | kst_in | kst_inAny) (by first | (intro p hp; kst_mem) | kst_anyIn) (by rfl) (by k_extra "mine_facts") (by kst_all) (by kst_same) (by ((try dsimp only); k_extra "mine_end")))))
  (k_with "mine_kend5" => ((rename News _ _ _ _ => nE'; rename Fr _ _ _ _ => fE'; (try simp only [List.push_toArray] at nE'); refine' kst_end (_, _, _, _, _) fE' nE' (by first | kst_in | kst_inAny) (by first | (intro p hp; kst_mem) | kst_anyIn) (by rfl) (by k_extra "mine_facts") (by kst_all) (by kst_same) (by ((try dsimp only); k_extra "mine_end")))))
  (k_with "exec While" => ((k_extra "mine_halt"; refine Halt.mk ?_)))
  (k_with "KswEnd" => ((k_extra "mine_halt"; refine Halt.mk ?_)))
  (k_with "mine_wend2" => ((rename News _ _ _ _ => nE'; rename Fr _ _ _ _ => fE'; (try simp only [List.push_toArray] at nE'); refine' ksw_end (_, _) fE' nE' (by first | kst_in | kst_inAny) (by k_extra "mine_facts") (by kst_all) (by ksw_same) (by ((try dsimp only); k_extra "mine_end")) (by ((try dsimp only); k_extra "mine_less")))))
  (k_with "mine_wend6" => ((rename News _ _ _ _ => nE'; rename Fr _ _ _ _ => fE'; (try simp only [List.push_toArray] at nE'); refine' ksw_end (_, _, _, _, _, _) fE' nE' (by first | kst_in | kst_inAny) (by k_extra "mine_facts") (by kst_all) (by ksw_same) (by ((try dsimp only); k_extra "mine_end")) (by ((try dsimp only); k_extra "mine_less")))))
  (k_with "ExitW" => ((k_extra "mine_halt"; refine Halt.mk ?_)))
  (k_with "eval Subscript" => (k_extra "mine_evalS"))
  (k_with "mine_xend2" => ((rename News _ _ _ _ => nE'; rename Fr _ _ _ _ => fE'; (try simp only [List.push_toArray] at nE'); refine' exit_end (_, _) fE' nE' (by first | kst_in | kst_inAny) (by k_extra "mine_facts") (by kst_all) (by ksw_same) (by ((try dsimp only); k_extra "mine_done")))))
  (k_with "mine_xend4" => ((rename News _ _ _ _ => nE'; rename Fr _ _ _ _ => fE'; (try simp only [List.push_toArray] at nE'); refine' exit_end (_, _, _, _) fE' nE' (by first | kst_in | kst_inAny) (by k_extra "mine_facts") (by kst_all) (by ksw_same) (by ((try dsimp only); k_extra "mine_done")))))
  (k_with "subscriptTail Name Slice str ref" => (((with_reducible show wpAny _ _ (subscriptTail _ (Expr.Slice none (some (Expr.BoolOp _ _ _)) none _) _ _) _ _ _); (with_reducible rename Fr _ _ _ _ => F'); (with_reducible rename News _ _ _ _ => N'); (first | (refine slice_strN_nn_len (s := ⟨_, _, _, _, _⟩) F' N' ?_) | (refine slice_strN_ns_len (s := ⟨_, _, _, _, _⟩) F' N' ?_)); intro _ _ _ _ _ _)))
  (k_with "mine_steps" => (repeat' (first | (k_unfold; (try dsimp only)) | walk1 | (dsimp only; walk1) | (leave1; walk_say "STEP leave1"; try dsimp only) | fail "no step")))
  (k_with "call type:list" => ((k_here; (with_reducible show wpAny _ _ (call (Value.type "list") [Value.ref _]) _ _ _); k_dflt (refine' listRange2_K (by rfl) (by k_asm) (by k_asm) (by assumption) (by omega) ?_); intro Dr yr er hr kr Fr' Nr' lr' Ir; (try k_lt lr'); (try dsimp only); (try k_sweep))))
  (k_with "mine_kend9" => ((rename News _ _ _ _ => nE'; rename Fr _ _ _ _ => fE'; (try simp only [List.push_toArray] at nE'); refine' kst_end (_, _, _, _, _, _, _, _, _) fE' nE' (by first | kst_in | kst_inAny) (by first | (intro p hp; kst_mem) | kst_anyIn) (by rfl) (by k_extra "mine_facts") (by kst_all) (by kst_same) (by ((try dsimp only); k_extra "mine_end")))))
  (k_with "setItem ref int" => ((k_here; (with_reducible show wpAny _ _ (setItem (Value.ref _) (Value.int _ _) (Value.int _ _)) _ _ _); k_dflt (refine' ksa_set (by k_asm) (by k_asm) (by (refine' Upd.head (by k_extra "mine_off"))) (by with_reducible assumption) (by ksa_idx) (by ksa_idx) (by ksa_idx) ?_; k_whole); intro h' F' N' I' lI' sI'; (try clear sI'); (try dsimp only at N'); (try k_sweep))))
  (k_with "mine_room" => (first | exact room_g (by with_reducible assumption) (by decide) | ktr_room))
  (k_with "mine_units" => (first | exact units_g (by with_reducible assumption) (by decide) | ktr_units))
  k_steps
  rename Kept _ _ _ => hK
  rename News _ _ _ _ => kN
  rename Fr _ _ _ _ => kF
  exact hret _ [(_, _)] _ _ ⟨_, [_, _, _, _, _], _, rfl, rfl, .cons _ _ (.cons _ _ (.cons _ _ (.cons _ _ (.cons _ _ .nil))))⟩ kF (kept_news (by assumption) hsub hK kN (by walk_at "mine_sub"))
end
section
theorem c_way (w : World) (mean : ExcName → Option Value) (mg mb : Str → Option Value) (news : Led) (l q : Addr) (n n2 : Nat) (d0 d1 d2 d3 d4 d5 l0 l1 l2 l3 i₀ j₀ : Int) (t0 t1 t2 t3 t4 t5 u0 u1 u2 u3 w0 w1 : Tok) (hl : (l, listOf [Value.int d0 t0, .int d1 t1, .int d2 t2, .int d3 t3, .int d4 t4, .int d5 t5].toArray n) ∈ news) (hq : (q, listOf [Value.int l0 u0, .int l1 u1, .int l2 u2, .int l3 u3].toArray n2) ∈ news) (hL : ∀ z ∈ ([l0, l1, l2, l3] : List Int), 0 ≤ z ∧ z ≤ 100) (hi0 : 0 ≤ i₀ ∧ i₀ ≤ 4) (hj0 : 0 ≤ j₀ ∧ j₀ ≤ 4) :
    Ctr w mean mg mb 128 [.int i₀ w0, .int j₀ w1, .ref l, .ref q] news (fun v nw => ∃ t, v = .int (wayG [d0, d1, d2, d3, d4, d5] [l0, l1, l2, l3] 8 i₀ j₀) t ∧ nw = []) := by
  k_with_none
  (k_with "mine_in" => (first | exact List.Mem.head _ | (refine List.Mem.tail _ ?_; walk_at "mine_in")))
  (k_with "mine_sub" => (first | exact sub_refl | (refine sub_cons (by walk_at "mine_in") (by walk_at "mine_sub")) | (refine sub_tail ?_; walk_at "mine_sub") | exact List.forall_mem_nil _))
  (k_with "subscriptTail Name Slice ref ref" => ((k_here; (with_reducible show wpAny _ _ (subscriptTail _ (PySem.Expr.Slice (some _) none none _) (Value.ref _) (Value.ref _)) _ _ _); k_dflt (refine' sliceFrom_K (by k_asm) (by k_asm) (by kmk_list) (by l_ints) ?_ (by with_unfolding_all rfl) (by kmk_pure) (by kmk_size)); intro D' ws' h' F' N' l1 hI'; (try k_lt l1); (try k_sweep))))
  (k_with "subscriptTail List" => ((k_here; (with_reducible show wpAny _ _ (subscriptTail _ (PySem.Expr.Slice (some _) none none _) (Value.ref _) (Value.ref _)) _ _ _); k_dflt (refine' sliceFrom_K (by k_asm) (by k_asm) (by kmk_list) (by l_ints) ?_ (by with_unfolding_all rfl) (by kmk_pure) (by kmk_size)); intro D' ws' h' F' N' l1 hI'; (try k_lt l1); (try k_sweep))))
  (k_with "binaryOp Add" => ((k_here; (with_reducible show wpAny _ _ (binaryOp _ (Value.ref _) (Value.ref _)) _ _ _); k_dflt (refine' add_K (by k_asm) (by k_asm) (by k_mem) (by k_mem) ?_ (by walk_at "mine_add_size")); intro l' h' F' N' l1; (try k_lt l1); (try k_sweep))))
  (k_with "binaryOp Mult int int" => ((k_here; (with_reducible refine mul_int ?_ (sz_mul (by with_reducible assumption) (by with_reducible assumption))))))
  (k_with "binaryOp FloorDiv int int" => ((k_here; (with_reducible refine floordiv_int (by with_reducible assumption) ?_ (Or.inl (sz_py (by with_reducible assumption)))))))
  (k_with "subscriptTail Name Constant ref int" => ((k_here; (with_reducible show wpAny _ _ (subscriptTail _ _ (Value.ref _) (Value.int _ _)) _ _ _); k_dflt (refine item_K (by k_asm) (by k_mem) (by decide) (by decide) (by exact rfl) ?_ (by with_unfolding_all rfl) (by kmk_pure)))))
  (k_with "subscriptTail Name Name ref int" => ((k_here; (with_reducible show wpAny _ _ (subscriptTail _ _ (Value.ref _) (Value.int _ _)) _ _ _); k_dflt (refine item_K (by k_asm) (by k_mem) (by decide) (by decide) (by exact rfl) ?_ (by with_unfolding_all rfl) (by kmk_pure)))))
  (k_with "call builtin:str.replace" => ((k_here; (refine replace_K (by first | omega | (simp; done) | (simp; omega)) (by first | omega | (simp; done) | (simp; omega)) (by first | omega | (simp; done) | (simp; omega)) (by k_extra "mine_yz") (by k_extra "mine_xl") (by k_extra "mine_zl") ?_); intro rr tr kr hrr)))
  (k_with "pyIter ref" => ((k_extra "mine_halt"; refine Halt.mk ?_)))
  (k_with "subscriptTail Name BinOp ref int" => (k_extra "mine_itemB"))
  (k_with "InvEndN" => ((k_extra "mine_halt"; refine Halt.mk ?_)))
  (k_with "binaryOp Add str str" => (k_extra "mine_addS"))
  (k_with "mine_kend2" => ((rename News _ _ _ _ => nE'; rename Fr _ _ _ _ => fE'; (try simp only [List.push_toArray] at nE'); refine' kst_end (_, _) fE' nE' (by first | kst_in | kst_inAny) (by first | (intro p hp; kst_mem) | kst_anyIn) (by rfl) (by k_extra "mine_facts") (by kst_all) (by kst_same) (by ((try dsimp only); k_extra "mine_end")))))
  (k_with "mine_kend3" => ((rename News _ _ _ _ => nE'; rename Fr _ _ _ _ => fE'; (try simp only [List.push_toArray] at nE'); refine' kst_end (_, _, _) fE' nE' (by first | kst_in | kst_inAny) (by first | (intro p hp; kst_mem) | kst_anyIn) (by rfl) (by k_extra "mine_facts") (by kst_all) (by kst_same) (by ((try dsimp only); k_extra "mine_end")))))
  (k_with "mine_kend5" => ((rename News _ _ _ _ => nE'; rename Fr _ _ _ _ => fE'; (try simp only [List.push_toArray] at nE'); refine' kst_end (_, _, _, _, _) fE' nE' (by first | kst_in | kst_inAny) (by first | (intro p hp; kst_mem) | kst_anyIn) (by rfl) (by k_extra "mine_facts") (by kst_all) (by kst_same) (by ((try dsimp only); k_extra "mine_end")))))
  (k_with "exec While" => ((k_extra "mine_halt"; refine Halt.mk ?_)))
  (k_with "KswEnd" => ((k_extra "mine_halt"; refine Halt.mk ?_)))
  (k_with "mine_wend2" => ((rename News _ _ _ _ => nE'; rename Fr _ _ _ _ => fE'; (try simp only [List.push_toArray] at nE'); refine' ksw_end (_, _) fE' nE' (by first | kst_in | kst_inAny) (by k_extra "mine_facts") (by kst_all) (by ksw_same) (by ((try dsimp only); k_extra "mine_end")) (by ((try dsimp only); k_extra "mine_less")))))
  (k_with "mine_wend6" => ((rename News _ _ _ _ => nE'; rename Fr _ _ _ _ => fE'; (try simp only [List.push_toArray] at nE'); refine' ksw_end (_, _, _, _, _, _) fE' nE' (by first | kst_in | kst_inAny) (by k_extra "mine_facts") (by kst_all) (by ksw_same) (by ((try dsimp only); k_extra "mine_end")) (by ((try dsimp only); k_extra "mine_less")))))
  (k_with "ExitW" => ((k_extra "mine_halt"; refine Halt.mk ?_)))
  (k_with "eval Subscript" => (k_extra "mine_evalS"))
  (k_with "mine_xend2" => ((rename News _ _ _ _ => nE'; rename Fr _ _ _ _ => fE'; (try simp only [List.push_toArray] at nE'); refine' exit_end (_, _) fE' nE' (by first | kst_in | kst_inAny) (by k_extra "mine_facts") (by kst_all) (by ksw_same) (by ((try dsimp only); k_extra "mine_done")))))
  (k_with "mine_xend4" => ((rename News _ _ _ _ => nE'; rename Fr _ _ _ _ => fE'; (try simp only [List.push_toArray] at nE'); refine' exit_end (_, _, _, _) fE' nE' (by first | kst_in | kst_inAny) (by k_extra "mine_facts") (by kst_all) (by ksw_same) (by ((try dsimp only); k_extra "mine_done")))))
  (k_with "subscriptTail Name Slice str ref" => (((with_reducible show wpAny _ _ (subscriptTail _ (Expr.Slice none (some (Expr.BoolOp _ _ _)) none _) _ _) _ _ _); (with_reducible rename Fr _ _ _ _ => F'); (with_reducible rename News _ _ _ _ => N'); (first | (refine slice_strN_nn_len (s := ⟨_, _, _, _, _⟩) F' N' ?_) | (refine slice_strN_ns_len (s := ⟨_, _, _, _, _⟩) F' N' ?_)); intro _ _ _ _ _ _)))
  (k_with "mine_steps" => (repeat' (first | (k_unfold; (try dsimp only)) | walk1 | (dsimp only; walk1) | (leave1; walk_say "STEP leave1"; try dsimp only) | fail "no step")))
  (k_with "call type:list" => ((k_here; (with_reducible show wpAny _ _ (call (Value.type "list") [Value.ref _]) _ _ _); k_dflt (refine' listRange2_K (by rfl) (by k_asm) (by k_asm) (by assumption) (by omega) ?_); intro Dr yr er hr kr Fr' Nr' lr' Ir; (try k_lt lr'); (try dsimp only); (try k_sweep))))
  (k_with "mine_kend9" => ((rename News _ _ _ _ => nE'; rename Fr _ _ _ _ => fE'; (try simp only [List.push_toArray] at nE'); refine' kst_end (_, _, _, _, _, _, _, _, _) fE' nE' (by first | kst_in | kst_inAny) (by first | (intro p hp; kst_mem) | kst_anyIn) (by rfl) (by k_extra "mine_facts") (by kst_all) (by kst_same) (by ((try dsimp only); k_extra "mine_end")))))
  (k_with "setItem ref int" => ((k_here; (with_reducible show wpAny _ _ (setItem (Value.ref _) (Value.int _ _) (Value.int _ _)) _ _ _); k_dflt (refine' ksa_set (by k_asm) (by k_asm) (by (refine' Upd.head (by k_extra "mine_off"))) (by with_reducible assumption) (by ksa_idx) (by ksa_idx) (by ksa_idx) ?_; k_whole); intro h' F' N' I' lI' sI'; (try clear sI'); (try dsimp only at N'); (try k_sweep))))
  (k_with "mine_room" => (first | exact room_g (by with_reducible assumption) (by decide) | ktr_room))
  (k_with "mine_units" => (first | exact units_g (by with_reducible assumption) (by decide) | ktr_units))
  unfold Ctr CtrN
  k_fill
  intros; rename_i hret
  refine wpAny_call ?_
  have hsub : ∀ qq ∈ ([(l, listOf [Value.int d0 t0, .int d1 t1, .int d2 t2, .int d3 t3, .int d4 t4, .int d5 t5].toArray n), (q, listOf [Value.int l0 u0, .int l1 u1, .int l2 u2, .int l3 u3].toArray n2)] : Led), qq ∈ news := by
    simp only [List.mem_cons, List.not_mem_nil, or_false, forall_eq_or_imp, forall_eq, false_or, false_implies, implies_true]
    first | done | assumption | (refine ⟨?_, ?_⟩ <;> assumption) | (refine ⟨?_, ?_, ?_⟩ <;> assumption)
  k_dflt (refine' enterS (binds := [(Str.ofString "i", .int i₀ w0), (Str.ofString "j", .int j₀ w1), (Str.ofString "drawn", .ref l), (Str.ofString "lengths", .ref q)]) (news₁ := [(l, listOf [Value.int d0 t0, .int d1 t1, .int d2 t2, .int d3 t3, .int d4 t4, .int d5 t5].toArray n), (q, listOf [Value.int l0 u0, .int l1 u1, .int l2 u2, .int l3 u3].toArray n2)]) ?k1 ?k2 ?k3 ?k4 ?k5 ?kA ?kF ?kK ?k6 ?k7 ?k8 ?k9 ?kB ?kS ?_ ?c2 ?c3 ?c4 ?c5; (case kA => exact rfl); (case kF => exact rfl); (case kK => assumption); (case k1 => k_asm); (case k2 => k_asm); (case k3 => k_asm); (case k4 => k_asm); (case k5 => k_asm); (case k6 => k_is); (case k7 => k_is); (case k8 => ktr_room); (case k9 => exact BindsTo.of_eq rfl); (case kS => assumption); (case c5 => decide); (case kB => exact locs rfl); (case c2 => exact rfl); (case c3 => exact rfl); (case c4 => exact rfl); k_whole)
  intro g' L' h' F' N' B' X' T'
  (try dsimp only)
  (try k_lift B')
  (try k_fold)
  k_with_none
  (k_with "mine_in" => (first | exact List.Mem.head _ | (refine List.Mem.tail _ ?_; walk_at "mine_in")))
  (k_with "mine_sub" => (first | exact sub_refl | (refine sub_cons (by walk_at "mine_in") (by walk_at "mine_sub")) | (refine sub_tail ?_; walk_at "mine_sub") | exact List.forall_mem_nil _))
  (k_with "subscriptTail Name Slice ref ref" => ((k_here; (with_reducible show wpAny _ _ (subscriptTail _ (PySem.Expr.Slice (some _) none none _) (Value.ref _) (Value.ref _)) _ _ _); k_dflt (refine' sliceFrom_K (by k_asm) (by k_asm) (by kmk_list) (by l_ints) ?_ (by with_unfolding_all rfl) (by kmk_pure) (by kmk_size)); intro D' ws' h' F' N' l1 hI'; (try k_lt l1); (try k_sweep))))
  (k_with "subscriptTail List" => ((k_here; (with_reducible show wpAny _ _ (subscriptTail _ (PySem.Expr.Slice (some _) none none _) (Value.ref _) (Value.ref _)) _ _ _); k_dflt (refine' sliceFrom_K (by k_asm) (by k_asm) (by kmk_list) (by l_ints) ?_ (by with_unfolding_all rfl) (by kmk_pure) (by kmk_size)); intro D' ws' h' F' N' l1 hI'; (try k_lt l1); (try k_sweep))))
  (k_with "binaryOp Add" => ((k_here; (with_reducible show wpAny _ _ (binaryOp _ (Value.ref _) (Value.ref _)) _ _ _); k_dflt (refine' add_K (by k_asm) (by k_asm) (by k_mem) (by k_mem) ?_ (by walk_at "mine_add_size")); intro l' h' F' N' l1; (try k_lt l1); (try k_sweep))))
  (k_with "binaryOp Mult int int" => ((k_here; (with_reducible refine mul_int ?_ (sz_mul (by with_reducible assumption) (by with_reducible assumption))))))
  (k_with "binaryOp FloorDiv int int" => ((k_here; (with_reducible refine floordiv_int (by with_reducible assumption) ?_ (Or.inl (sz_py (by with_reducible assumption)))))))
  (k_with "subscriptTail Name Constant ref int" => ((k_here; (with_reducible show wpAny _ _ (subscriptTail _ _ (Value.ref _) (Value.int _ _)) _ _ _); k_dflt (refine item_K (by k_asm) (by k_mem) (by decide) (by decide) (by exact rfl) ?_ (by with_unfolding_all rfl) (by kmk_pure)))))
  (k_with "subscriptTail Name Name ref int" => ((k_here; (with_reducible show wpAny _ _ (subscriptTail _ _ (Value.ref _) (Value.int _ _)) _ _ _); k_dflt (refine item_K (by k_asm) (by k_mem) (by decide) (by decide) (by exact rfl) ?_ (by with_unfolding_all rfl) (by kmk_pure)))))
  (k_with "call builtin:str.replace" => ((k_here; (refine replace_K (by first | omega | (simp; done) | (simp; omega)) (by first | omega | (simp; done) | (simp; omega)) (by first | omega | (simp; done) | (simp; omega)) (by k_extra "mine_yz") (by k_extra "mine_xl") (by k_extra "mine_zl") ?_); intro rr tr kr hrr)))
  (k_with "pyIter ref" => ((k_extra "mine_halt"; refine Halt.mk ?_)))
  (k_with "subscriptTail Name BinOp ref int" => (k_extra "mine_itemB"))
  (k_with "InvEndN" => ((k_extra "mine_halt"; refine Halt.mk ?_)))
  (k_with "binaryOp Add str str" => (k_extra "mine_addS"))
  (k_with "mine_kend2" => ((rename News _ _ _ _ => nE'; rename Fr _ _ _ _ => fE'; (try simp only [List.push_toArray] at nE'); refine' kst_end (_, _) fE' nE' (by first | kst_in | kst_inAny) (by first | (intro p hp; kst_mem) | kst_anyIn) (by rfl) (by k_extra "mine_facts") (by kst_all) (by kst_same) (by ((try dsimp only); k_extra "mine_end")))))
  (k_with "mine_kend3" => ((rename News _ _ _ _ => nE'; rename Fr _ _ _ _ => fE'; (try simp only [List.push_toArray] at nE'); refine' kst_end (_, _, _) fE' nE' (by first | kst_in | kst_inAny) (by first | (intro p hp; kst_mem) | kst_anyIn) (by rfl) (by k_extra "mine_facts") (by kst_all) (by kst_same) (by ((try dsimp only); k_extra "mine_end")))))
  (k_with "mine_kend5" => ((rename News _ _ _ _ => nE'; rename Fr _ _ _ _ => fE'; (try simp only [List.push_toArray] at nE'); refine' kst_end (_, _, _, _, _) fE' nE' (by first | kst_in | kst_inAny) (by first | (intro p hp; kst_mem) | kst_anyIn) (by rfl) (by k_extra "mine_facts") (by kst_all) (by kst_same) (by ((try dsimp only); k_extra "mine_end")))))
  (k_with "exec While" => ((k_extra "mine_halt"; refine Halt.mk ?_)))
  (k_with "KswEnd" => ((k_extra "mine_halt"; refine Halt.mk ?_)))
  (k_with "mine_wend2" => ((rename News _ _ _ _ => nE'; rename Fr _ _ _ _ => fE'; (try simp only [List.push_toArray] at nE'); refine' ksw_end (_, _) fE' nE' (by first | kst_in | kst_inAny) (by k_extra "mine_facts") (by kst_all) (by ksw_same) (by ((try dsimp only); k_extra "mine_end")) (by ((try dsimp only); k_extra "mine_less")))))
  (k_with "mine_wend6" => ((rename News _ _ _ _ => nE'; rename Fr _ _ _ _ => fE'; (try simp only [List.push_toArray] at nE'); refine' ksw_end (_, _, _, _, _, _) fE' nE' (by first | kst_in | kst_inAny) (by k_extra "mine_facts") (by kst_all) (by ksw_same) (by ((try dsimp only); k_extra "mine_end")) (by ((try dsimp only); k_extra "mine_less")))))
  (k_with "ExitW" => ((k_extra "mine_halt"; refine Halt.mk ?_)))
  (k_with "eval Subscript" => (k_extra "mine_evalS"))
  (k_with "mine_xend2" => ((rename News _ _ _ _ => nE'; rename Fr _ _ _ _ => fE'; (try simp only [List.push_toArray] at nE'); refine' exit_end (_, _) fE' nE' (by first | kst_in | kst_inAny) (by k_extra "mine_facts") (by kst_all) (by ksw_same) (by ((try dsimp only); k_extra "mine_done")))))
  (k_with "mine_xend4" => ((rename News _ _ _ _ => nE'; rename Fr _ _ _ _ => fE'; (try simp only [List.push_toArray] at nE'); refine' exit_end (_, _, _, _) fE' nE' (by first | kst_in | kst_inAny) (by k_extra "mine_facts") (by kst_all) (by ksw_same) (by ((try dsimp only); k_extra "mine_done")))))
  (k_with "subscriptTail Name Slice str ref" => (((with_reducible show wpAny _ _ (subscriptTail _ (Expr.Slice none (some (Expr.BoolOp _ _ _)) none _) _ _) _ _ _); (with_reducible rename Fr _ _ _ _ => F'); (with_reducible rename News _ _ _ _ => N'); (first | (refine slice_strN_nn_len (s := ⟨_, _, _, _, _⟩) F' N' ?_) | (refine slice_strN_ns_len (s := ⟨_, _, _, _, _⟩) F' N' ?_)); intro _ _ _ _ _ _)))
  (k_with "mine_steps" => (repeat' (first | (k_unfold; (try dsimp only)) | walk1 | (dsimp only; walk1) | (leave1; walk_say "STEP leave1"; try dsimp only) | fail "no step")))
  (k_with "call type:list" => ((k_here; (with_reducible show wpAny _ _ (call (Value.type "list") [Value.ref _]) _ _ _); k_dflt (refine' listRange2_K (by rfl) (by k_asm) (by k_asm) (by assumption) (by omega) ?_); intro Dr yr er hr kr Fr' Nr' lr' Ir; (try k_lt lr'); (try dsimp only); (try k_sweep))))
  (k_with "mine_kend9" => ((rename News _ _ _ _ => nE'; rename Fr _ _ _ _ => fE'; (try simp only [List.push_toArray] at nE'); refine' kst_end (_, _, _, _, _, _, _, _, _) fE' nE' (by first | kst_in | kst_inAny) (by first | (intro p hp; kst_mem) | kst_anyIn) (by rfl) (by k_extra "mine_facts") (by kst_all) (by kst_same) (by ((try dsimp only); k_extra "mine_end")))))
  (k_with "setItem ref int" => ((k_here; (with_reducible show wpAny _ _ (setItem (Value.ref _) (Value.int _ _) (Value.int _ _)) _ _ _); k_dflt (refine' ksa_set (by k_asm) (by k_asm) (by (refine' Upd.head (by k_extra "mine_off"))) (by with_reducible assumption) (by ksa_idx) (by ksa_idx) (by ksa_idx) ?_; k_whole); intro h' F' N' I' lI' sI'; (try clear sI'); (try dsimp only at N'); (try k_sweep))))
  (k_with "mine_room" => (first | exact room_g (by with_reducible assumption) (by decide) | ktr_room))
  (k_with "mine_units" => (first | exact units_g (by with_reducible assumption) (by decide) | ktr_units))
  (k_with "mine_facts" => trivial)
  (k_with "mine_end" => rw [if_min, if_max]; exact way_turn hL hP (by assumption))
  (k_with "mine_less" => rw [if_min, if_max]; exact way_less hi1 hj1 (by assumption))
  (k_with "mine_halt" => skip)
  k_steps
  unfold Halt
  rename Fr _ _ _ _ => lF'
  rename News _ _ _ _ => lN'
  with_unfolding_all refine' ksw_while (σ := Int × Tok × Int × Tok × Int × Tok) (fun _ => [(l, listOf [Value.int d0 t0, .int d1 t1, .int d2 t2, .int d3 t3, .int d4 t4, .int d5 t5].toArray n), (q, listOf [Value.int l0 u0, .int l1 u1, .int l2 u2, .int l3 u3].toArray n2)]) (fun c => [(Str.ofString "i", .int c.1 c.2.1), (Str.ofString "j", .int c.2.2.1 c.2.2.2.1), (Str.ofString "way", .int c.2.2.2.2.1 c.2.2.2.2.2)]) (fun _ => True) [Str.ofString "k"] (fun c => WayP [d0, d1, d2, d3, d4, d5] [l0, l1, l2, l3] i₀ j₀ c.1 c.2.2.1 c.2.2.2.2.1) (fun c => (c.1 + c.2.2.1).toNat) (i₀, w0, j₀, w1, 0, _) lF' lN' ?kf ?kk ?kp ?_ ?_
  case kf => trivial
  case kk => kst_all
  case kp => exact way_start hi0 hj0
  · clear lF' lN'
    intro ⟨i, ti, j, tj, way, tw⟩ u h tk _ hP kFr kNews
    have kMark := kstMark
    dsimp only [kstB] at kFr
    dsimp only at kNews hP
    obtain ⟨hi1, hi2, hj1, hj2, hw1, hw2, hw3⟩ := id hP
    k_steps
    · unfold Halt
      walk_at "mine_wend6"
    · rename Kept _ _ _ => hK
      rename News _ _ _ _ => kN
      rename Fr _ _ _ _ => kF
      exact hret _ [] _ _ ⟨tw, congrArg (fun z => Value.int z tw) (way_end hP (by assumption)).symm, rfl⟩ kF (kept_news (by assumption) hsub hK kN (by walk_at "mine_sub"))
  · passes_own
end
section
theorem c_sub (w : World) (mean : ExcName → Option Value) (mg mb : Str → Option Value) (news : Led) (x y : Str) (t1 t2 : Tok) (hx : x.length ≤ 1000) (hy : y.length ≤ 1000) :
    CtrL w mean mg mb 38 [.str x t1, .str y t2] news (fun v nw => ∃ t, v = .int (subC x y) t ∧ nw = []) := by
  k_with_none
  (k_with "mine_in" => (first | exact List.Mem.head _ | (refine List.Mem.tail _ ?_; walk_at "mine_in")))
  (k_with "mine_sub" => (first | exact sub_refl | (refine sub_cons (by walk_at "mine_in") (by walk_at "mine_sub")) | (refine sub_tail ?_; walk_at "mine_sub") | exact List.forall_mem_nil _))
  (k_with "subscriptTail Name Slice ref ref" => ((k_here; (with_reducible show wpAny _ _ (subscriptTail _ (PySem.Expr.Slice (some _) none none _) (Value.ref _) (Value.ref _)) _ _ _); k_dflt (refine' sliceFrom_K (by k_asm) (by k_asm) (by kmk_list) (by l_ints) ?_ (by with_unfolding_all rfl) (by kmk_pure) (by kmk_size)); intro D' ws' h' F' N' l1 hI'; (try k_lt l1); (try k_sweep))))
  (k_with "subscriptTail List" => ((k_here; (with_reducible show wpAny _ _ (subscriptTail _ (PySem.Expr.Slice (some _) none none _) (Value.ref _) (Value.ref _)) _ _ _); k_dflt (refine' sliceFrom_K (by k_asm) (by k_asm) (by kmk_list) (by l_ints) ?_ (by with_unfolding_all rfl) (by kmk_pure) (by kmk_size)); intro D' ws' h' F' N' l1 hI'; (try k_lt l1); (try k_sweep))))
  (k_with "binaryOp Add" => ((k_here; (with_reducible show wpAny _ _ (binaryOp _ (Value.ref _) (Value.ref _)) _ _ _); k_dflt (refine' add_K (by k_asm) (by k_asm) (by k_mem) (by k_mem) ?_ (by walk_at "mine_add_size")); intro l' h' F' N' l1; (try k_lt l1); (try k_sweep))))
  (k_with "binaryOp Mult int int" => ((k_here; (with_reducible refine mul_int ?_ (sz_mul (by with_reducible assumption) (by with_reducible assumption))))))
  (k_with "binaryOp FloorDiv int int" => ((k_here; (with_reducible refine floordiv_int (by with_reducible assumption) ?_ (Or.inl (sz_py (by with_reducible assumption)))))))
  (k_with "subscriptTail Name Constant ref int" => ((k_here; (with_reducible show wpAny _ _ (subscriptTail _ _ (Value.ref _) (Value.int _ _)) _ _ _); k_dflt (refine item_K (by k_asm) (by k_mem) (by decide) (by decide) (by exact rfl) ?_ (by with_unfolding_all rfl) (by kmk_pure)))))
  (k_with "subscriptTail Name Name ref int" => ((k_here; (with_reducible show wpAny _ _ (subscriptTail _ _ (Value.ref _) (Value.int _ _)) _ _ _); k_dflt (refine item_K (by k_asm) (by k_mem) (by decide) (by decide) (by exact rfl) ?_ (by with_unfolding_all rfl) (by kmk_pure)))))
  (k_with "call builtin:str.replace" => ((k_here; (refine replace_K (by first | omega | (simp; done) | (simp; omega)) (by first | omega | (simp; done) | (simp; omega)) (by first | omega | (simp; done) | (simp; omega)) (by k_extra "mine_yz") (by k_extra "mine_xl") (by k_extra "mine_zl") ?_); intro rr tr kr hrr)))
  (k_with "pyIter ref" => ((k_extra "mine_halt"; refine Halt.mk ?_)))
  (k_with "subscriptTail Name BinOp ref int" => (k_extra "mine_itemB"))
  (k_with "InvEndN" => ((k_extra "mine_halt"; refine Halt.mk ?_)))
  (k_with "binaryOp Add str str" => (k_extra "mine_addS"))
  (k_with "mine_kend2" => ((rename News _ _ _ _ => nE'; rename Fr _ _ _ _ => fE'; (try simp only [List.push_toArray] at nE'); refine' kst_end (_, _) fE' nE' (by first | kst_in | kst_inAny) (by first | (intro p hp; kst_mem) | kst_anyIn) (by rfl) (by k_extra "mine_facts") (by kst_all) (by kst_same) (by ((try dsimp only); k_extra "mine_end")))))
  (k_with "mine_kend3" => ((rename News _ _ _ _ => nE'; rename Fr _ _ _ _ => fE'; (try simp only [List.push_toArray] at nE'); refine' kst_end (_, _, _) fE' nE' (by first | kst_in | kst_inAny) (by first | (intro p hp; kst_mem) | kst_anyIn) (by rfl) (by k_extra "mine_facts") (by kst_all) (by kst_same) (by ((try dsimp only); k_extra "mine_end")))))
  (k_with "mine_kend5" => ((rename News _ _ _ _ => nE'; rename Fr _ _ _ _ => fE'; (try simp only [List.push_toArray] at nE'); refine' kst_end (_, _, _, _, _) fE' nE' (by first | kst_in | kst_inAny) (by first | (intro p hp; kst_mem) | kst_anyIn) (by rfl) (by k_extra "mine_facts") (by kst_all) (by kst_same) (by ((try dsimp only); k_extra "mine_end")))))
  (k_with "exec While" => ((k_extra "mine_halt"; refine Halt.mk ?_)))
  (k_with "KswEnd" => ((k_extra "mine_halt"; refine Halt.mk ?_)))
  (k_with "mine_wend2" => ((rename News _ _ _ _ => nE'; rename Fr _ _ _ _ => fE'; (try simp only [List.push_toArray] at nE'); refine' ksw_end (_, _) fE' nE' (by first | kst_in | kst_inAny) (by k_extra "mine_facts") (by kst_all) (by ksw_same) (by ((try dsimp only); k_extra "mine_end")) (by ((try dsimp only); k_extra "mine_less")))))
  (k_with "mine_wend6" => ((rename News _ _ _ _ => nE'; rename Fr _ _ _ _ => fE'; (try simp only [List.push_toArray] at nE'); refine' ksw_end (_, _, _, _, _, _) fE' nE' (by first | kst_in | kst_inAny) (by k_extra "mine_facts") (by kst_all) (by ksw_same) (by ((try dsimp only); k_extra "mine_end")) (by ((try dsimp only); k_extra "mine_less")))))
  (k_with "ExitW" => ((k_extra "mine_halt"; refine Halt.mk ?_)))
  (k_with "eval Subscript" => (k_extra "mine_evalS"))
  (k_with "mine_xend2" => ((rename News _ _ _ _ => nE'; rename Fr _ _ _ _ => fE'; (try simp only [List.push_toArray] at nE'); refine' exit_end (_, _) fE' nE' (by first | kst_in | kst_inAny) (by k_extra "mine_facts") (by kst_all) (by ksw_same) (by ((try dsimp only); k_extra "mine_done")))))
  (k_with "mine_xend4" => ((rename News _ _ _ _ => nE'; rename Fr _ _ _ _ => fE'; (try simp only [List.push_toArray] at nE'); refine' exit_end (_, _, _, _) fE' nE' (by first | kst_in | kst_inAny) (by k_extra "mine_facts") (by kst_all) (by ksw_same) (by ((try dsimp only); k_extra "mine_done")))))
  (k_with "subscriptTail Name Slice str ref" => (((with_reducible show wpAny _ _ (subscriptTail _ (Expr.Slice none (some (Expr.BoolOp _ _ _)) none _) _ _) _ _ _); (with_reducible rename Fr _ _ _ _ => F'); (with_reducible rename News _ _ _ _ => N'); (first | (refine slice_strN_nn_len (s := ⟨_, _, _, _, _⟩) F' N' ?_) | (refine slice_strN_ns_len (s := ⟨_, _, _, _, _⟩) F' N' ?_)); intro _ _ _ _ _ _)))
  (k_with "mine_steps" => (repeat' (first | (k_unfold; (try dsimp only)) | walk1 | (dsimp only; walk1) | (leave1; walk_say "STEP leave1"; try dsimp only) | fail "no step")))
  (k_with "call type:list" => ((k_here; (with_reducible show wpAny _ _ (call (Value.type "list") [Value.ref _]) _ _ _); k_dflt (refine' listRange2_K (by rfl) (by k_asm) (by k_asm) (by assumption) (by omega) ?_); intro Dr yr er hr kr Fr' Nr' lr' Ir; (try k_lt lr'); (try dsimp only); (try k_sweep))))
  (k_with "mine_kend9" => ((rename News _ _ _ _ => nE'; rename Fr _ _ _ _ => fE'; (try simp only [List.push_toArray] at nE'); refine' kst_end (_, _, _, _, _, _, _, _, _) fE' nE' (by first | kst_in | kst_inAny) (by first | (intro p hp; kst_mem) | kst_anyIn) (by rfl) (by k_extra "mine_facts") (by kst_all) (by kst_same) (by ((try dsimp only); k_extra "mine_end")))))
  (k_with "setItem ref int" => ((k_here; (with_reducible show wpAny _ _ (setItem (Value.ref _) (Value.int _ _) (Value.int _ _)) _ _ _); k_dflt (refine' ksa_set (by k_asm) (by k_asm) (by (refine' Upd.head (by k_extra "mine_off"))) (by with_reducible assumption) (by ksa_idx) (by ksa_idx) (by ksa_idx) ?_; k_whole); intro h' F' N' I' lI' sI'; (try clear sI'); (try dsimp only at N'); (try k_sweep))))
  (k_with "mine_room" => (first | exact room_g (by with_reducible assumption) (by decide) | ktr_room))
  (k_with "mine_units" => (first | exact units_g (by with_reducible assumption) (by decide) | ktr_units))
  unfold CtrL CtrN
  k_fill
  intros; rename_i hret
  refine wpAny_call ?_
  k_dflt cell_enter
  k_with_none
  (k_with "mine_in" => (first | exact List.Mem.head _ | (refine List.Mem.tail _ ?_; walk_at "mine_in")))
  (k_with "mine_sub" => (first | exact sub_refl | (refine sub_cons (by walk_at "mine_in") (by walk_at "mine_sub")) | (refine sub_tail ?_; walk_at "mine_sub") | exact List.forall_mem_nil _))
  (k_with "subscriptTail Name Slice ref ref" => ((k_here; (with_reducible show wpAny _ _ (subscriptTail _ (PySem.Expr.Slice (some _) none none _) (Value.ref _) (Value.ref _)) _ _ _); k_dflt (refine' sliceFrom_K (by k_asm) (by k_asm) (by kmk_list) (by l_ints) ?_ (by with_unfolding_all rfl) (by kmk_pure) (by kmk_size)); intro D' ws' h' F' N' l1 hI'; (try k_lt l1); (try k_sweep))))
  (k_with "subscriptTail List" => ((k_here; (with_reducible show wpAny _ _ (subscriptTail _ (PySem.Expr.Slice (some _) none none _) (Value.ref _) (Value.ref _)) _ _ _); k_dflt (refine' sliceFrom_K (by k_asm) (by k_asm) (by kmk_list) (by l_ints) ?_ (by with_unfolding_all rfl) (by kmk_pure) (by kmk_size)); intro D' ws' h' F' N' l1 hI'; (try k_lt l1); (try k_sweep))))
  (k_with "binaryOp Add" => ((k_here; (with_reducible show wpAny _ _ (binaryOp _ (Value.ref _) (Value.ref _)) _ _ _); k_dflt (refine' add_K (by k_asm) (by k_asm) (by k_mem) (by k_mem) ?_ (by walk_at "mine_add_size")); intro l' h' F' N' l1; (try k_lt l1); (try k_sweep))))
  (k_with "binaryOp Mult int int" => ((k_here; (with_reducible refine mul_int ?_ (sz_mul (by with_reducible assumption) (by with_reducible assumption))))))
  (k_with "binaryOp FloorDiv int int" => ((k_here; (with_reducible refine floordiv_int (by with_reducible assumption) ?_ (Or.inl (sz_py (by with_reducible assumption)))))))
  (k_with "subscriptTail Name Constant ref int" => ((k_here; (with_reducible show wpAny _ _ (subscriptTail _ _ (Value.ref _) (Value.int _ _)) _ _ _); k_dflt (refine item_K (by k_asm) (by k_mem) (by decide) (by decide) (by exact rfl) ?_ (by with_unfolding_all rfl) (by kmk_pure)))))
  (k_with "subscriptTail Name Name ref int" => ((k_here; (with_reducible show wpAny _ _ (subscriptTail _ _ (Value.ref _) (Value.int _ _)) _ _ _); k_dflt (refine item_K (by k_asm) (by k_mem) (by decide) (by decide) (by exact rfl) ?_ (by with_unfolding_all rfl) (by kmk_pure)))))
  (k_with "call builtin:str.replace" => ((k_here; (refine replace_K (by first | omega | (simp; done) | (simp; omega)) (by first | omega | (simp; done) | (simp; omega)) (by first | omega | (simp; done) | (simp; omega)) (by k_extra "mine_yz") (by k_extra "mine_xl") (by k_extra "mine_zl") ?_); intro rr tr kr hrr)))
  (k_with "pyIter ref" => ((k_extra "mine_halt"; refine Halt.mk ?_)))
  (k_with "subscriptTail Name BinOp ref int" => (k_extra "mine_itemB"))
  (k_with "InvEndN" => ((k_extra "mine_halt"; refine Halt.mk ?_)))
  (k_with "binaryOp Add str str" => (k_extra "mine_addS"))
  (k_with "mine_kend2" => ((rename News _ _ _ _ => nE'; rename Fr _ _ _ _ => fE'; (try simp only [List.push_toArray] at nE'); refine' kst_end (_, _) fE' nE' (by first | kst_in | kst_inAny) (by first | (intro p hp; kst_mem) | kst_anyIn) (by rfl) (by k_extra "mine_facts") (by kst_all) (by kst_same) (by ((try dsimp only); k_extra "mine_end")))))
  (k_with "mine_kend3" => ((rename News _ _ _ _ => nE'; rename Fr _ _ _ _ => fE'; (try simp only [List.push_toArray] at nE'); refine' kst_end (_, _, _) fE' nE' (by first | kst_in | kst_inAny) (by first | (intro p hp; kst_mem) | kst_anyIn) (by rfl) (by k_extra "mine_facts") (by kst_all) (by kst_same) (by ((try dsimp only); k_extra "mine_end")))))
  (k_with "mine_kend5" => ((rename News _ _ _ _ => nE'; rename Fr _ _ _ _ => fE'; (try simp only [List.push_toArray] at nE'); refine' kst_end (_, _, _, _, _) fE' nE' (by first | kst_in | kst_inAny) (by first | (intro p hp; kst_mem) | kst_anyIn) (by rfl) (by k_extra "mine_facts") (by kst_all) (by kst_same) (by ((try dsimp only); k_extra "mine_end")))))
  (k_with "exec While" => ((k_extra "mine_halt"; refine Halt.mk ?_)))
  (k_with "KswEnd" => ((k_extra "mine_halt"; refine Halt.mk ?_)))
  (k_with "mine_wend2" => ((rename News _ _ _ _ => nE'; rename Fr _ _ _ _ => fE'; (try simp only [List.push_toArray] at nE'); refine' ksw_end (_, _) fE' nE' (by first | kst_in | kst_inAny) (by k_extra "mine_facts") (by kst_all) (by ksw_same) (by ((try dsimp only); k_extra "mine_end")) (by ((try dsimp only); k_extra "mine_less")))))
  (k_with "mine_wend6" => ((rename News _ _ _ _ => nE'; rename Fr _ _ _ _ => fE'; (try simp only [List.push_toArray] at nE'); refine' ksw_end (_, _, _, _, _, _) fE' nE' (by first | kst_in | kst_inAny) (by k_extra "mine_facts") (by kst_all) (by ksw_same) (by ((try dsimp only); k_extra "mine_end")) (by ((try dsimp only); k_extra "mine_less")))))
  (k_with "ExitW" => ((k_extra "mine_halt"; refine Halt.mk ?_)))
  (k_with "eval Subscript" => (k_extra "mine_evalS"))
  (k_with "mine_xend2" => ((rename News _ _ _ _ => nE'; rename Fr _ _ _ _ => fE'; (try simp only [List.push_toArray] at nE'); refine' exit_end (_, _) fE' nE' (by first | kst_in | kst_inAny) (by k_extra "mine_facts") (by kst_all) (by ksw_same) (by ((try dsimp only); k_extra "mine_done")))))
  (k_with "mine_xend4" => ((rename News _ _ _ _ => nE'; rename Fr _ _ _ _ => fE'; (try simp only [List.push_toArray] at nE'); refine' exit_end (_, _, _, _) fE' nE' (by first | kst_in | kst_inAny) (by k_extra "mine_facts") (by kst_all) (by ksw_same) (by ((try dsimp only); k_extra "mine_done")))))
  (k_with "subscriptTail Name Slice str ref" => (((with_reducible show wpAny _ _ (subscriptTail _ (Expr.Slice none (some (Expr.BoolOp _ _ _)) none _) _ _) _ _ _); (with_reducible rename Fr _ _ _ _ => F'); (with_reducible rename News _ _ _ _ => N'); (first | (refine slice_strN_nn_len (s := ⟨_, _, _, _, _⟩) F' N' ?_) | (refine slice_strN_ns_len (s := ⟨_, _, _, _, _⟩) F' N' ?_)); intro _ _ _ _ _ _)))
  (k_with "mine_steps" => (repeat' (first | (k_unfold; (try dsimp only)) | walk1 | (dsimp only; walk1) | (leave1; walk_say "STEP leave1"; try dsimp only) | fail "no step")))
  (k_with "call type:list" => ((k_here; (with_reducible show wpAny _ _ (call (Value.type "list") [Value.ref _]) _ _ _); k_dflt (refine' listRange2_K (by rfl) (by k_asm) (by k_asm) (by assumption) (by omega) ?_); intro Dr yr er hr kr Fr' Nr' lr' Ir; (try k_lt lr'); (try dsimp only); (try k_sweep))))
  (k_with "mine_kend9" => ((rename News _ _ _ _ => nE'; rename Fr _ _ _ _ => fE'; (try simp only [List.push_toArray] at nE'); refine' kst_end (_, _, _, _, _, _, _, _, _) fE' nE' (by first | kst_in | kst_inAny) (by first | (intro p hp; kst_mem) | kst_anyIn) (by rfl) (by k_extra "mine_facts") (by kst_all) (by kst_same) (by ((try dsimp only); k_extra "mine_end")))))
  (k_with "setItem ref int" => ((k_here; (with_reducible show wpAny _ _ (setItem (Value.ref _) (Value.int _ _) (Value.int _ _)) _ _ _); k_dflt (refine' ksa_set (by k_asm) (by k_asm) (by (refine' Upd.head (by k_extra "mine_off"))) (by with_reducible assumption) (by ksa_idx) (by ksa_idx) (by ksa_idx) ?_; k_whole); intro h' F' N' I' lI' sI'; (try clear sI'); (try dsimp only at N'); (try k_sweep))))
  (k_with "mine_room" => (first | exact room_g (by with_reducible assumption) (by decide) | ktr_room))
  (k_with "mine_units" => (first | exact units_g (by with_reducible assumption) (by decide) | ktr_units))
  walk_at "mine_steps"
  all_goals (refine ret_int hret ?_ (by assumption) (by assumption) sub_refl; unfold subC; simp_all)
end
section
theorem c_lev (w : World) (mean : ExcName → Option Value) (mg mb : Str → Option Value) (news : Led) (x y : Str) (mc : Int) (t1 t2 t3 : Tok) (hx : x.length ≤ 40) (hy : y.length ≤ 40) (hm : 0 ≤ mc ∧ mc ≤ 1000) :
    Ctr w mean mg mb 45 [.str x t1, .str y t2, .int mc t3] news (fun v nw => ∃ t, v = .int (levF costU (lst x) (lst y) mc) t ∧ nw = []) := by
  k_with_none
  (k_with "mine_in" => (first | exact List.Mem.head _ | (refine List.Mem.tail _ ?_; walk_at "mine_in")))
  (k_with "mine_sub" => (first | exact sub_refl | (refine sub_cons (by walk_at "mine_in") (by walk_at "mine_sub")) | (refine sub_tail ?_; walk_at "mine_sub") | exact List.forall_mem_nil _))
  (k_with "subscriptTail Name Slice ref ref" => ((k_here; (with_reducible show wpAny _ _ (subscriptTail _ (PySem.Expr.Slice (some _) none none _) (Value.ref _) (Value.ref _)) _ _ _); k_dflt (refine' sliceFrom_K (by k_asm) (by k_asm) (by kmk_list) (by l_ints) ?_ (by with_unfolding_all rfl) (by kmk_pure) (by kmk_size)); intro D' ws' h' F' N' l1 hI'; (try k_lt l1); (try k_sweep))))
  (k_with "subscriptTail List" => ((k_here; (with_reducible show wpAny _ _ (subscriptTail _ (PySem.Expr.Slice (some _) none none _) (Value.ref _) (Value.ref _)) _ _ _); k_dflt (refine' sliceFrom_K (by k_asm) (by k_asm) (by kmk_list) (by l_ints) ?_ (by with_unfolding_all rfl) (by kmk_pure) (by kmk_size)); intro D' ws' h' F' N' l1 hI'; (try k_lt l1); (try k_sweep))))
  (k_with "binaryOp Add" => ((k_here; (with_reducible show wpAny _ _ (binaryOp _ (Value.ref _) (Value.ref _)) _ _ _); k_dflt (refine' add_K (by k_asm) (by k_asm) (by k_mem) (by k_mem) ?_ (by walk_at "mine_add_size")); intro l' h' F' N' l1; (try k_lt l1); (try k_sweep))))
  (k_with "binaryOp Mult int int" => ((k_here; (with_reducible refine mul_int ?_ (sz_mul (by with_reducible assumption) (by with_reducible assumption))))))
  (k_with "binaryOp FloorDiv int int" => ((k_here; (with_reducible refine floordiv_int (by with_reducible assumption) ?_ (Or.inl (sz_py (by with_reducible assumption)))))))
  (k_with "subscriptTail Name Constant ref int" => ((k_here; (with_reducible show wpAny _ _ (subscriptTail _ _ (Value.ref _) (Value.int _ _)) _ _ _); k_dflt (refine item_K (by k_asm) (by k_mem) (by decide) (by decide) (by exact rfl) ?_ (by with_unfolding_all rfl) (by kmk_pure)))))
  (k_with "subscriptTail Name Name ref int" => ((k_here; (with_reducible show wpAny _ _ (subscriptTail _ _ (Value.ref _) (Value.int _ _)) _ _ _); k_dflt (refine item_K (by k_asm) (by k_mem) (by decide) (by decide) (by exact rfl) ?_ (by with_unfolding_all rfl) (by kmk_pure)))))
  (k_with "call builtin:str.replace" => ((k_here; (refine replace_K (by first | omega | (simp; done) | (simp; omega)) (by first | omega | (simp; done) | (simp; omega)) (by first | omega | (simp; done) | (simp; omega)) (by k_extra "mine_yz") (by k_extra "mine_xl") (by k_extra "mine_zl") ?_); intro rr tr kr hrr)))
  (k_with "pyIter ref" => ((k_extra "mine_halt"; refine Halt.mk ?_)))
  (k_with "subscriptTail Name BinOp ref int" => (k_extra "mine_itemB"))
  (k_with "InvEndN" => ((k_extra "mine_halt"; refine Halt.mk ?_)))
  (k_with "binaryOp Add str str" => (k_extra "mine_addS"))
  (k_with "mine_kend2" => ((rename News _ _ _ _ => nE'; rename Fr _ _ _ _ => fE'; (try simp only [List.push_toArray] at nE'); refine' kst_end (_, _) fE' nE' (by first | kst_in | kst_inAny) (by first | (intro p hp; kst_mem) | kst_anyIn) (by rfl) (by k_extra "mine_facts") (by kst_all) (by kst_same) (by ((try dsimp only); k_extra "mine_end")))))
  (k_with "mine_kend3" => ((rename News _ _ _ _ => nE'; rename Fr _ _ _ _ => fE'; (try simp only [List.push_toArray] at nE'); refine' kst_end (_, _, _) fE' nE' (by first | kst_in | kst_inAny) (by first | (intro p hp; kst_mem) | kst_anyIn) (by rfl) (by k_extra "mine_facts") (by kst_all) (by kst_same) (by ((try dsimp only); k_extra "mine_end")))))
  (k_with "mine_kend5" => ((rename News _ _ _ _ => nE'; rename Fr _ _ _ _ => fE'; (try simp only [List.push_toArray] at nE'); refine' kst_end (_, _, _, _, _) fE' nE' (by first | kst_in | kst_inAny) (by first | (intro p hp; kst_mem) | kst_anyIn) (by rfl) (by k_extra "mine_facts") (by kst_all) (by kst_same) (by ((try dsimp only); k_extra "mine_end")))))
  (k_with "exec While" => ((k_extra "mine_halt"; refine Halt.mk ?_)))
  (k_with "KswEnd" => ((k_extra "mine_halt"; refine Halt.mk ?_)))
  (k_with "mine_wend2" => ((rename News _ _ _ _ => nE'; rename Fr _ _ _ _ => fE'; (try simp only [List.push_toArray] at nE'); refine' ksw_end (_, _) fE' nE' (by first | kst_in | kst_inAny) (by k_extra "mine_facts") (by kst_all) (by ksw_same) (by ((try dsimp only); k_extra "mine_end")) (by ((try dsimp only); k_extra "mine_less")))))
  (k_with "mine_wend6" => ((rename News _ _ _ _ => nE'; rename Fr _ _ _ _ => fE'; (try simp only [List.push_toArray] at nE'); refine' ksw_end (_, _, _, _, _, _) fE' nE' (by first | kst_in | kst_inAny) (by k_extra "mine_facts") (by kst_all) (by ksw_same) (by ((try dsimp only); k_extra "mine_end")) (by ((try dsimp only); k_extra "mine_less")))))
  (k_with "ExitW" => ((k_extra "mine_halt"; refine Halt.mk ?_)))
  (k_with "eval Subscript" => (k_extra "mine_evalS"))
  (k_with "mine_xend2" => ((rename News _ _ _ _ => nE'; rename Fr _ _ _ _ => fE'; (try simp only [List.push_toArray] at nE'); refine' exit_end (_, _) fE' nE' (by first | kst_in | kst_inAny) (by k_extra "mine_facts") (by kst_all) (by ksw_same) (by ((try dsimp only); k_extra "mine_done")))))
  (k_with "mine_xend4" => ((rename News _ _ _ _ => nE'; rename Fr _ _ _ _ => fE'; (try simp only [List.push_toArray] at nE'); refine' exit_end (_, _, _, _) fE' nE' (by first | kst_in | kst_inAny) (by k_extra "mine_facts") (by kst_all) (by ksw_same) (by ((try dsimp only); k_extra "mine_done")))))
  (k_with "subscriptTail Name Slice str ref" => (((with_reducible show wpAny _ _ (subscriptTail _ (Expr.Slice none (some (Expr.BoolOp _ _ _)) none _) _ _) _ _ _); (with_reducible rename Fr _ _ _ _ => F'); (with_reducible rename News _ _ _ _ => N'); (first | (refine slice_strN_nn_len (s := ⟨_, _, _, _, _⟩) F' N' ?_) | (refine slice_strN_ns_len (s := ⟨_, _, _, _, _⟩) F' N' ?_)); intro _ _ _ _ _ _)))
  (k_with "mine_steps" => (repeat' (first | (k_unfold; (try dsimp only)) | walk1 | (dsimp only; walk1) | (leave1; walk_say "STEP leave1"; try dsimp only) | fail "no step")))
  (k_with "call type:list" => ((k_here; (with_reducible show wpAny _ _ (call (Value.type "list") [Value.ref _]) _ _ _); k_dflt (refine' listRange2_K (by rfl) (by k_asm) (by k_asm) (by assumption) (by omega) ?_); intro Dr yr er hr kr Fr' Nr' lr' Ir; (try k_lt lr'); (try dsimp only); (try k_sweep))))
  (k_with "mine_kend9" => ((rename News _ _ _ _ => nE'; rename Fr _ _ _ _ => fE'; (try simp only [List.push_toArray] at nE'); refine' kst_end (_, _, _, _, _, _, _, _, _) fE' nE' (by first | kst_in | kst_inAny) (by first | (intro p hp; kst_mem) | kst_anyIn) (by rfl) (by k_extra "mine_facts") (by kst_all) (by kst_same) (by ((try dsimp only); k_extra "mine_end")))))
  (k_with "setItem ref int" => ((k_here; (with_reducible show wpAny _ _ (setItem (Value.ref _) (Value.int _ _) (Value.int _ _)) _ _ _); k_dflt (refine' ksa_set (by k_asm) (by k_asm) (by (refine' Upd.head (by k_extra "mine_off"))) (by with_reducible assumption) (by ksa_idx) (by ksa_idx) (by ksa_idx) ?_; k_whole); intro h' F' N' I' lI' sI'; (try clear sI'); (try dsimp only at N'); (try k_sweep))))
  (k_with "mine_room" => (first | exact room_g (by with_reducible assumption) (by decide) | ktr_room))
  (k_with "mine_units" => (first | exact units_g (by with_reducible assumption) (by decide) | ktr_units))
  (k_with "exec If" => (k_extra "mine_if"))
  (k_with "call ref" => ((k_here; (with_reducible show wpAny _ _ (call (Value.ref 38) [Value.str _ _, Value.str _ _] []) _ _ _); k_dflt (refine c_sub _ _ _ _ _ _ _ _ _ (by (rw [item_len]; decide)) (by (rw [item_len]; decide)) _ _ _ _ _ _ _ _ _ _ _ _ _ _ _ _ _ (by k_asm) (by k_asm) (by k_asm) (by k_asm) (by k_asm) (by first | exact rfl | assumption) (by walk_at "mine_room") (by walk_at "mine_units") ?_); (intro v9 nw9 h9 tk9 hp9 F9 N9); (obtain ⟨t9, e9, e9n⟩ := hp9); (subst e9); (subst e9n); (try simp only [List.nil_append] at N9); (try dsimp only); (try k_fold))))
  unfold Ctr CtrN
  k_fill
  intros; rename_i hret
  refine wpAny_call ?_
  have hsub : ∀ qq ∈ ([] : Led), qq ∈ news := by
    simp only [List.mem_cons, List.not_mem_nil, or_false, forall_eq_or_imp, forall_eq, false_or, false_implies, implies_true]
    first | done | assumption | (refine ⟨?_, ?_⟩ <;> assumption) | (refine ⟨?_, ?_, ?_⟩ <;> assumption)
  k_dflt (refine' enterS (binds := [(Str.ofString "a", .str x t1), (Str.ofString "b", .str y t2), (Str.ofString "max_cost", .int mc t3)]) (news₁ := []) ?k1 ?k2 ?k3 ?k4 ?k5 ?kA ?kF ?kK ?k6 ?k7 ?k8 ?k9 ?kB ?kS ?_ ?c2 ?c3 ?c4 ?c5; (case kA => exact rfl); (case kF => exact rfl); (case kK => assumption); (case k1 => k_asm); (case k2 => k_asm); (case k3 => k_asm); (case k4 => k_asm); (case k5 => k_asm); (case k6 => k_is); (case k7 => k_is); (case k8 => ktr_room); (case k9 => exact BindsTo.of_eq rfl); (case kS => assumption); (case c5 => decide); (case kB => exact locs rfl); (case c2 => exact rfl); (case c3 => exact rfl); (case c4 => exact rfl); k_whole)
  intro g' L' h' F' N' B' X' T'
  (try dsimp only)
  (try k_lift B')
  (try k_fold)
  k_with_none
  (k_with "mine_in" => (first | exact List.Mem.head _ | (refine List.Mem.tail _ ?_; walk_at "mine_in")))
  (k_with "mine_sub" => (first | exact sub_refl | (refine sub_cons (by walk_at "mine_in") (by walk_at "mine_sub")) | (refine sub_tail ?_; walk_at "mine_sub") | exact List.forall_mem_nil _))
  (k_with "subscriptTail Name Slice ref ref" => ((k_here; (with_reducible show wpAny _ _ (subscriptTail _ (PySem.Expr.Slice (some _) none none _) (Value.ref _) (Value.ref _)) _ _ _); k_dflt (refine' sliceFrom_K (by k_asm) (by k_asm) (by kmk_list) (by l_ints) ?_ (by with_unfolding_all rfl) (by kmk_pure) (by kmk_size)); intro D' ws' h' F' N' l1 hI'; (try k_lt l1); (try k_sweep))))
  (k_with "subscriptTail List" => ((k_here; (with_reducible show wpAny _ _ (subscriptTail _ (PySem.Expr.Slice (some _) none none _) (Value.ref _) (Value.ref _)) _ _ _); k_dflt (refine' sliceFrom_K (by k_asm) (by k_asm) (by kmk_list) (by l_ints) ?_ (by with_unfolding_all rfl) (by kmk_pure) (by kmk_size)); intro D' ws' h' F' N' l1 hI'; (try k_lt l1); (try k_sweep))))
  (k_with "binaryOp Add" => ((k_here; (with_reducible show wpAny _ _ (binaryOp _ (Value.ref _) (Value.ref _)) _ _ _); k_dflt (refine' add_K (by k_asm) (by k_asm) (by k_mem) (by k_mem) ?_ (by walk_at "mine_add_size")); intro l' h' F' N' l1; (try k_lt l1); (try k_sweep))))
  (k_with "binaryOp Mult int int" => ((k_here; (with_reducible refine mul_int ?_ (sz_mul (by with_reducible assumption) (by with_reducible assumption))))))
  (k_with "binaryOp FloorDiv int int" => ((k_here; (with_reducible refine floordiv_int (by with_reducible assumption) ?_ (Or.inl (sz_py (by with_reducible assumption)))))))
  (k_with "subscriptTail Name Constant ref int" => ((k_here; (with_reducible show wpAny _ _ (subscriptTail _ _ (Value.ref _) (Value.int _ _)) _ _ _); k_dflt (refine item_K (by k_asm) (by k_mem) (by decide) (by decide) (by exact rfl) ?_ (by with_unfolding_all rfl) (by kmk_pure)))))
  (k_with "subscriptTail Name Name ref int" => ((k_here; (with_reducible show wpAny _ _ (subscriptTail _ _ (Value.ref _) (Value.int _ _)) _ _ _); k_dflt (refine item_K (by k_asm) (by k_mem) (by decide) (by decide) (by exact rfl) ?_ (by with_unfolding_all rfl) (by kmk_pure)))))
  (k_with "call builtin:str.replace" => ((k_here; (refine replace_K (by first | omega | (simp; done) | (simp; omega)) (by first | omega | (simp; done) | (simp; omega)) (by first | omega | (simp; done) | (simp; omega)) (by k_extra "mine_yz") (by k_extra "mine_xl") (by k_extra "mine_zl") ?_); intro rr tr kr hrr)))
  (k_with "pyIter ref" => ((k_extra "mine_halt"; refine Halt.mk ?_)))
  (k_with "subscriptTail Name BinOp ref int" => (k_extra "mine_itemB"))
  (k_with "InvEndN" => ((k_extra "mine_halt"; refine Halt.mk ?_)))
  (k_with "binaryOp Add str str" => (k_extra "mine_addS"))
  (k_with "mine_kend2" => ((rename News _ _ _ _ => nE'; rename Fr _ _ _ _ => fE'; (try simp only [List.push_toArray] at nE'); refine' kst_end (_, _) fE' nE' (by first | kst_in | kst_inAny) (by first | (intro p hp; kst_mem) | kst_anyIn) (by rfl) (by k_extra "mine_facts") (by kst_all) (by kst_same) (by ((try dsimp only); k_extra "mine_end")))))
  (k_with "mine_kend3" => ((rename News _ _ _ _ => nE'; rename Fr _ _ _ _ => fE'; (try simp only [List.push_toArray] at nE'); refine' kst_end (_, _, _) fE' nE' (by first | kst_in | kst_inAny) (by first | (intro p hp; kst_mem) | kst_anyIn) (by rfl) (by k_extra "mine_facts") (by kst_all) (by kst_same) (by ((try dsimp only); k_extra "mine_end")))))
  (k_with "mine_kend5" => ((rename News _ _ _ _ => nE'; rename Fr _ _ _ _ => fE'; (try simp only [List.push_toArray] at nE'); refine' kst_end (_, _, _, _, _) fE' nE' (by first | kst_in | kst_inAny) (by first | (intro p hp; kst_mem) | kst_anyIn) (by rfl) (by k_extra "mine_facts") (by kst_all) (by kst_same) (by ((try dsimp only); k_extra "mine_end")))))
  (k_with "exec While" => ((k_extra "mine_halt"; refine Halt.mk ?_)))
  (k_with "KswEnd" => ((k_extra "mine_halt"; refine Halt.mk ?_)))
  (k_with "mine_wend2" => ((rename News _ _ _ _ => nE'; rename Fr _ _ _ _ => fE'; (try simp only [List.push_toArray] at nE'); refine' ksw_end (_, _) fE' nE' (by first | kst_in | kst_inAny) (by k_extra "mine_facts") (by kst_all) (by ksw_same) (by ((try dsimp only); k_extra "mine_end")) (by ((try dsimp only); k_extra "mine_less")))))
  (k_with "mine_wend6" => ((rename News _ _ _ _ => nE'; rename Fr _ _ _ _ => fE'; (try simp only [List.push_toArray] at nE'); refine' ksw_end (_, _, _, _, _, _) fE' nE' (by first | kst_in | kst_inAny) (by k_extra "mine_facts") (by kst_all) (by ksw_same) (by ((try dsimp only); k_extra "mine_end")) (by ((try dsimp only); k_extra "mine_less")))))
  (k_with "ExitW" => ((k_extra "mine_halt"; refine Halt.mk ?_)))
  (k_with "eval Subscript" => (k_extra "mine_evalS"))
  (k_with "mine_xend2" => ((rename News _ _ _ _ => nE'; rename Fr _ _ _ _ => fE'; (try simp only [List.push_toArray] at nE'); refine' exit_end (_, _) fE' nE' (by first | kst_in | kst_inAny) (by k_extra "mine_facts") (by kst_all) (by ksw_same) (by ((try dsimp only); k_extra "mine_done")))))
  (k_with "mine_xend4" => ((rename News _ _ _ _ => nE'; rename Fr _ _ _ _ => fE'; (try simp only [List.push_toArray] at nE'); refine' exit_end (_, _, _, _) fE' nE' (by first | kst_in | kst_inAny) (by k_extra "mine_facts") (by kst_all) (by ksw_same) (by ((try dsimp only); k_extra "mine_done")))))
  (k_with "subscriptTail Name Slice str ref" => (((with_reducible show wpAny _ _ (subscriptTail _ (Expr.Slice none (some (Expr.BoolOp _ _ _)) none _) _ _) _ _ _); (with_reducible rename Fr _ _ _ _ => F'); (with_reducible rename News _ _ _ _ => N'); (first | (refine slice_strN_nn_len (s := ⟨_, _, _, _, _⟩) F' N' ?_) | (refine slice_strN_ns_len (s := ⟨_, _, _, _, _⟩) F' N' ?_)); intro _ _ _ _ _ _)))
  (k_with "mine_steps" => (repeat' (first | (k_unfold; (try dsimp only)) | walk1 | (dsimp only; walk1) | (leave1; walk_say "STEP leave1"; try dsimp only) | fail "no step")))
  (k_with "call type:list" => ((k_here; (with_reducible show wpAny _ _ (call (Value.type "list") [Value.ref _]) _ _ _); k_dflt (refine' listRange2_K (by rfl) (by k_asm) (by k_asm) (by assumption) (by omega) ?_); intro Dr yr er hr kr Fr' Nr' lr' Ir; (try k_lt lr'); (try dsimp only); (try k_sweep))))
  (k_with "mine_kend9" => ((rename News _ _ _ _ => nE'; rename Fr _ _ _ _ => fE'; (try simp only [List.push_toArray] at nE'); refine' kst_end (_, _, _, _, _, _, _, _, _) fE' nE' (by first | kst_in | kst_inAny) (by first | (intro p hp; kst_mem) | kst_anyIn) (by rfl) (by k_extra "mine_facts") (by kst_all) (by kst_same) (by ((try dsimp only); k_extra "mine_end")))))
  (k_with "setItem ref int" => ((k_here; (with_reducible show wpAny _ _ (setItem (Value.ref _) (Value.int _ _) (Value.int _ _)) _ _ _); k_dflt (refine' ksa_set (by k_asm) (by k_asm) (by (refine' Upd.head (by k_extra "mine_off"))) (by with_reducible assumption) (by ksa_idx) (by ksa_idx) (by ksa_idx) ?_; k_whole); intro h' F' N' I' lI' sI'; (try clear sI'); (try dsimp only at N'); (try k_sweep))))
  (k_with "mine_room" => (first | exact room_g (by with_reducible assumption) (by decide) | ktr_room))
  (k_with "mine_units" => (first | exact units_g (by with_reducible assumption) (by decide) | ktr_units))
  (k_with "exec If" => (k_extra "mine_if"))
  (k_with "call ref" => ((k_here; (with_reducible show wpAny _ _ (call (Value.ref 38) [Value.str _ _, Value.str _ _] []) _ _ _); k_dflt (refine c_sub _ _ _ _ _ _ _ _ _ (by (rw [item_len]; decide)) (by (rw [item_len]; decide)) _ _ _ _ _ _ _ _ _ _ _ _ _ _ _ _ _ (by k_asm) (by k_asm) (by k_asm) (by k_asm) (by k_asm) (by first | exact rfl | assumption) (by walk_at "mine_room") (by walk_at "mine_units") ?_); (intro v9 nw9 h9 tk9 hp9 F9 N9); (obtain ⟨t9, e9, e9n⟩ := hp9); (subst e9); (subst e9n); (try simp only [List.nil_append] at N9); (try dsimp only); (try k_fold))))
  (k_with "mine_halt" => skip)
  (k_with "mine_facts" => trivial)
  walk_at "mine_steps"
  · rename Kept _ _ _ => hK
    rename News _ _ _ _ => kN
    rename Fr _ _ _ _ => kF
    exact ret_int hret ((lev_same (by with_reducible assumption)).symm) kF (kept_news (nw := []) (by assumption) hsub hK kN (by walk_at "mine_sub")) sub_refl
  unfold Halt
  rename Fr _ _ _ _ => lF'
  rename News _ _ _ _ => lN'
  with_unfolding_all refine' whileX (σ := Int × Tok) (fun _ => []) (fun c => [(Str.ofString "pre", .int c.1 c.2)]) (fun _ => True) [] (fun c => Pre1 x y c.1) (fun c => Done1 x y c.1) (fun c => (41 - c.1).toNat) (0, _) lF' lN' ?kf ?kk ?kp ?_ ?_ ?_
  case kf => trivial
  case kk => kst_all
  case kp => exact ⟨Int.le_refl _, Nat.zero_le _⟩
  · clear lF' lN'
    intro ⟨z, tp⟩ u h tk _ hP kFr kNews
    have kMark := kstMark
    dsimp only [kstB] at kFr
    dsimp only at kNews hP
    have hz0 := hP.1
    (k_with "mine_end" => exact pre_turn hP (by assumption) (by assumption) (by assumption))
    (k_with "mine_less" => exact pre_less hP hx (by assumption))
    (k_with "mine_done" => (first | exact pre_exit_c hP (by assumption) (by assumption) (by assumption) | exact pre_exit_a hP (by assumption) | exact pre_exit_b hP (by assumption)))
    walk_at "mine_steps"
    all_goals (unfold Halt; first | walk_at "mine_wend2" | walk_at "mine_xend2")
  rotate_left
  · passes_own
  clear lF' lN'
  intro ⟨z, tp⟩ u h tk _ hD kFr kNews
  have kMark := kstMark
  dsimp only [kstB] at kFr
  dsimp only at kNews hD
  walk_at "mine_steps"
  unfold Halt
  have hub : (Txt.slice x (some z) none).length ≤ 40 := Nat.le_trans (Txt.slice_le _ _ _) hx
  have hvb : (Txt.slice y (some z) none).length ≤ 40 := Nat.le_trans (Txt.slice_le _ _ _) hy
  have hul := slice_from_lst (x := x) hD.1
  have hvl := slice_from_lst (x := y) hD.1
  rename News _ _ _ _ => lN'
  rename Fr _ _ _ _ => lF'
  generalize Txt.slice x (some z) none = u at *
  generalize Txt.slice y (some z) none = v at *
  rw [hD.2] at hul hvl
  with_unfolding_all refine' whileX (σ := Int × Tok) (fun _ => []) (fun c => [(Str.ofString "post", .int c.1 c.2)]) (fun _ => True) [] (fun c => Suf u v c.1) (fun c => Done2 u v c.1) (fun c => (41 + c.1).toNat) (0, _) lF' lN' ?kf2 ?kk2 ?kp2 ?_ ?_ ?_
  case kf2 => trivial
  case kk2 => kst_all
  case kp2 => exact ⟨Int.le_refl _, Nat.zero_le _⟩
  · clear lF' lN'
    intro ⟨z, tp⟩ u' h tk _ hP kFr kNews
    have kMark := kstMark
    dsimp only [kstB] at kFr
    dsimp only at kNews hP
    have hP1 := hP.1
    have hPg := suf_ge hP hub
    (k_with "mine_evalS" => ((with_reducible show wpAny _ _ (eval (PySem.Expr.Subscript (PySem.Expr.Name _ _) (PySem.Expr.Slice none (some (PySem.Expr.BoolOp _ _ _)) none _) _) _) _ _ _); (fail_if_success (with_reducible rename InCut => hx9)); first | (refine' cut_eval (cutT u z) (by k_asm) (by k_asm) (fun Q' hQ' => ?_) ?_; (focus (have inCut := InCut.mk; k_steps; all_goals (refine hQ' _ _ _ _ ?_ (by assumption) (by assumption); first | with_reducible exact cutT_not (by assumption) | with_reducible exact cutT_zero (by assumption) | with_reducible exact cutT_zero (by omega)))); intro pu tc hc kc hpu Fc Nc; have hbpu := cut_bound hP1 hpu; (try dsimp only)) | (refine' cut_eval (cutT v z) (by k_asm) (by k_asm) (fun Q' hQ' => ?_) ?_; (focus (have inCut := InCut.mk; k_steps; all_goals (refine hQ' _ _ _ _ ?_ (by assumption) (by assumption); first | with_reducible exact cutT_not (by assumption) | with_reducible exact cutT_zero (by assumption) | with_reducible exact cutT_zero (by omega)))); intro pv tc hc kc hpv Fc Nc; have hbpv := cut_bound hP1 hpv; (try dsimp only))))
    (k_with "mine_end" => exact suf_turn hP (by with_reducible assumption) (by with_reducible assumption) (by with_reducible assumption) (by with_reducible assumption) (by with_reducible assumption))
    (k_with "mine_less" => exact suf_less hP hub (by with_reducible assumption) (by with_reducible assumption))
    (k_with "mine_done" => (first | exact suf_exit_c hP hub (by with_reducible assumption) (by with_reducible assumption) (by with_reducible assumption) (by with_reducible assumption) (by with_reducible assumption) | exact suf_exit_a hP hub (by with_reducible assumption) (by with_reducible assumption) | exact suf_exit_b hP hub (by with_reducible assumption) (by with_reducible assumption)))
    walk_at "mine_steps"
    all_goals (unfold Halt; first | walk_at "mine_wend2" | walk_at "mine_xend2")
  rotate_left
  · passes_own
  clear lF' lN'
  intro ⟨z, tp⟩ u' h tk _ hD2 kFr kNews
  dsimp only [kstB] at kFr
  dsimp only at kNews hD2
  have hP1 := hD2.1
  have hP2 := hD2.2.1
  (k_with "mine_if" => ((with_reducible show wpAny _ _ (exec (PySem.Stmt.If _ [PySem.Stmt.Assign [PySem.Expr.Tuple _ _ _] _ _] _ _) _) _ _ _); refine Halt.mk ?_))
  walk_at "mine_steps"
  rotate_right
  · rename Kept _ _ _ => hK
    rename News _ _ _ _ => kN
    rename Fr _ _ _ _ => kF
    exact ret_int hret (((lev_red (by with_reducible assumption) hul hvl hD2 hpu hpv).trans (levT_zero (by omega))).symm) kF (kept_news (nw := []) (by assumption) hsub hK kN (by walk_at "mine_sub")) sub_refl
  · k_with_none
    (k_with "mine_in" => (first | exact List.Mem.head _ | (refine List.Mem.tail _ ?_; walk_at "mine_in")))
    (k_with "mine_sub" => (first | exact sub_refl | (refine sub_cons (by walk_at "mine_in") (by walk_at "mine_sub")) | (refine sub_tail ?_; walk_at "mine_sub") | exact List.forall_mem_nil _))
    (k_with "subscriptTail Name Slice ref ref" => ((k_here; (with_reducible show wpAny _ _ (subscriptTail _ (PySem.Expr.Slice (some _) none none _) (Value.ref _) (Value.ref _)) _ _ _); k_dflt (refine' sliceFrom_K (by k_asm) (by k_asm) (by kmk_list) (by l_ints) ?_ (by with_unfolding_all rfl) (by kmk_pure) (by kmk_size)); intro D' ws' h' F' N' l1 hI'; (try k_lt l1); (try k_sweep))))
    (k_with "subscriptTail List" => ((k_here; (with_reducible show wpAny _ _ (subscriptTail _ (PySem.Expr.Slice (some _) none none _) (Value.ref _) (Value.ref _)) _ _ _); k_dflt (refine' sliceFrom_K (by k_asm) (by k_asm) (by kmk_list) (by l_ints) ?_ (by with_unfolding_all rfl) (by kmk_pure) (by kmk_size)); intro D' ws' h' F' N' l1 hI'; (try k_lt l1); (try k_sweep))))
    (k_with "binaryOp Add" => ((k_here; (with_reducible show wpAny _ _ (binaryOp _ (Value.ref _) (Value.ref _)) _ _ _); k_dflt (refine' add_K (by k_asm) (by k_asm) (by k_mem) (by k_mem) ?_ (by walk_at "mine_add_size")); intro l' h' F' N' l1; (try k_lt l1); (try k_sweep))))
    (k_with "binaryOp Mult int int" => ((k_here; (with_reducible refine mul_int ?_ (sz_mul (by with_reducible assumption) (by with_reducible assumption))))))
    (k_with "binaryOp FloorDiv int int" => ((k_here; (with_reducible refine floordiv_int (by with_reducible assumption) ?_ (Or.inl (sz_py (by with_reducible assumption)))))))
    (k_with "subscriptTail Name Constant ref int" => ((k_here; (with_reducible show wpAny _ _ (subscriptTail _ _ (Value.ref _) (Value.int _ _)) _ _ _); k_dflt (refine item_K (by k_asm) (by k_mem) (by decide) (by decide) (by exact rfl) ?_ (by with_unfolding_all rfl) (by kmk_pure)))))
    (k_with "subscriptTail Name Name ref int" => ((k_here; (with_reducible show wpAny _ _ (subscriptTail _ _ (Value.ref _) (Value.int _ _)) _ _ _); k_dflt (refine item_K (by k_asm) (by k_mem) (by decide) (by decide) (by exact rfl) ?_ (by with_unfolding_all rfl) (by kmk_pure)))))
    (k_with "call builtin:str.replace" => ((k_here; (refine replace_K (by first | omega | (simp; done) | (simp; omega)) (by first | omega | (simp; done) | (simp; omega)) (by first | omega | (simp; done) | (simp; omega)) (by k_extra "mine_yz") (by k_extra "mine_xl") (by k_extra "mine_zl") ?_); intro rr tr kr hrr)))
    (k_with "pyIter ref" => ((k_extra "mine_halt"; refine Halt.mk ?_)))
    (k_with "subscriptTail Name BinOp ref int" => (k_extra "mine_itemB"))
    (k_with "InvEndN" => ((k_extra "mine_halt"; refine Halt.mk ?_)))
    (k_with "binaryOp Add str str" => (k_extra "mine_addS"))
    (k_with "mine_kend2" => ((rename News _ _ _ _ => nE'; rename Fr _ _ _ _ => fE'; (try simp only [List.push_toArray] at nE'); refine' kst_end (_, _) fE' nE' (by first | kst_in | kst_inAny) (by first | (intro p hp; kst_mem) | kst_anyIn) (by rfl) (by k_extra "mine_facts") (by kst_all) (by kst_same) (by ((try dsimp only); k_extra "mine_end")))))
    (k_with "mine_kend3" => ((rename News _ _ _ _ => nE'; rename Fr _ _ _ _ => fE'; (try simp only [List.push_toArray] at nE'); refine' kst_end (_, _, _) fE' nE' (by first | kst_in | kst_inAny) (by first | (intro p hp; kst_mem) | kst_anyIn) (by rfl) (by k_extra "mine_facts") (by kst_all) (by kst_same) (by ((try dsimp only); k_extra "mine_end")))))
    (k_with "mine_kend5" => ((rename News _ _ _ _ => nE'; rename Fr _ _ _ _ => fE'; (try simp only [List.push_toArray] at nE'); refine' kst_end (_, _, _, _, _) fE' nE' (by first | kst_in | kst_inAny) (by first | (intro p hp; kst_mem) | kst_anyIn) (by rfl) (by k_extra "mine_facts") (by kst_all) (by kst_same) (by ((try dsimp only); k_extra "mine_end")))))
    (k_with "exec While" => ((k_extra "mine_halt"; refine Halt.mk ?_)))
    (k_with "KswEnd" => ((k_extra "mine_halt"; refine Halt.mk ?_)))
    (k_with "mine_wend2" => ((rename News _ _ _ _ => nE'; rename Fr _ _ _ _ => fE'; (try simp only [List.push_toArray] at nE'); refine' ksw_end (_, _) fE' nE' (by first | kst_in | kst_inAny) (by k_extra "mine_facts") (by kst_all) (by ksw_same) (by ((try dsimp only); k_extra "mine_end")) (by ((try dsimp only); k_extra "mine_less")))))
    (k_with "mine_wend6" => ((rename News _ _ _ _ => nE'; rename Fr _ _ _ _ => fE'; (try simp only [List.push_toArray] at nE'); refine' ksw_end (_, _, _, _, _, _) fE' nE' (by first | kst_in | kst_inAny) (by k_extra "mine_facts") (by kst_all) (by ksw_same) (by ((try dsimp only); k_extra "mine_end")) (by ((try dsimp only); k_extra "mine_less")))))
    (k_with "ExitW" => ((k_extra "mine_halt"; refine Halt.mk ?_)))
    (k_with "eval Subscript" => (k_extra "mine_evalS"))
    (k_with "mine_xend2" => ((rename News _ _ _ _ => nE'; rename Fr _ _ _ _ => fE'; (try simp only [List.push_toArray] at nE'); refine' exit_end (_, _) fE' nE' (by first | kst_in | kst_inAny) (by k_extra "mine_facts") (by kst_all) (by ksw_same) (by ((try dsimp only); k_extra "mine_done")))))
    (k_with "mine_xend4" => ((rename News _ _ _ _ => nE'; rename Fr _ _ _ _ => fE'; (try simp only [List.push_toArray] at nE'); refine' exit_end (_, _, _, _) fE' nE' (by first | kst_in | kst_inAny) (by k_extra "mine_facts") (by kst_all) (by ksw_same) (by ((try dsimp only); k_extra "mine_done")))))
    (k_with "subscriptTail Name Slice str ref" => (((with_reducible show wpAny _ _ (subscriptTail _ (Expr.Slice none (some (Expr.BoolOp _ _ _)) none _) _ _) _ _ _); (with_reducible rename Fr _ _ _ _ => F'); (with_reducible rename News _ _ _ _ => N'); (first | (refine slice_strN_nn_len (s := ⟨_, _, _, _, _⟩) F' N' ?_) | (refine slice_strN_ns_len (s := ⟨_, _, _, _, _⟩) F' N' ?_)); intro _ _ _ _ _ _)))
    (k_with "mine_steps" => (repeat' (first | (k_unfold; (try dsimp only)) | walk1 | (dsimp only; walk1) | (leave1; walk_say "STEP leave1"; try dsimp only) | fail "no step")))
    (k_with "call type:list" => ((k_here; (with_reducible show wpAny _ _ (call (Value.type "list") [Value.ref _]) _ _ _); k_dflt (refine' listRange2_K (by rfl) (by k_asm) (by k_asm) (by assumption) (by omega) ?_); intro Dr yr er hr kr Fr' Nr' lr' Ir; (try k_lt lr'); (try dsimp only); (try k_sweep))))
    (k_with "mine_kend9" => ((rename News _ _ _ _ => nE'; rename Fr _ _ _ _ => fE'; (try simp only [List.push_toArray] at nE'); refine' kst_end (_, _, _, _, _, _, _, _, _) fE' nE' (by first | kst_in | kst_inAny) (by first | (intro p hp; kst_mem) | kst_anyIn) (by rfl) (by k_extra "mine_facts") (by kst_all) (by kst_same) (by ((try dsimp only); k_extra "mine_end")))))
    (k_with "setItem ref int" => ((k_here; (with_reducible show wpAny _ _ (setItem (Value.ref _) (Value.int _ _) (Value.int _ _)) _ _ _); k_dflt (refine' ksa_set (by k_asm) (by k_asm) (by (refine' Upd.head (by k_extra "mine_off"))) (by with_reducible assumption) (by ksa_idx) (by ksa_idx) (by ksa_idx) ?_; k_whole); intro h' F' N' I' lI' sI'; (try clear sI'); (try dsimp only at N'); (try k_sweep))))
    (k_with "mine_room" => (first | exact room_g (by with_reducible assumption) (by decide) | ktr_room))
    (k_with "mine_units" => (first | exact units_g (by with_reducible assumption) (by decide) | ktr_units))
    (k_with "exec If" => (k_extra "mine_if"))
    (k_with "call ref" => ((k_here; (with_reducible show wpAny _ _ (call (Value.ref 38) [Value.str _ _, Value.str _ _] []) _ _ _); k_dflt (refine c_sub _ _ _ _ _ _ _ _ _ (by (rw [item_len]; decide)) (by (rw [item_len]; decide)) _ _ _ _ _ _ _ _ _ _ _ _ _ _ _ _ _ (by k_asm) (by k_asm) (by k_asm) (by k_asm) (by k_asm) (by first | exact rfl | assumption) (by walk_at "mine_room") (by walk_at "mine_units") ?_); (intro v9 nw9 h9 tk9 hp9 F9 N9); (obtain ⟨t9, e9, e9n⟩ := hp9); (subst e9); (subst e9n); (try simp only [List.nil_append] at N9); (try dsimp only); (try k_fold))))
    (k_with "mine_halt" => skip)
    (k_with "mine_facts" => trivial)
    (k_with "mine_done" => (first | exact ⟨by omega, by omega, (lev_red (by with_reducible assumption) hul hvl hD2 hpu hpv).trans (levT_swap (by omega) (by omega) (by omega))⟩ | exact ⟨by omega, by omega, (lev_red (by with_reducible assumption) hul hvl hD2 hpu hpv).trans (levT_same (by omega) (by omega) (by omega))⟩))
    unfold Halt
    rename Fr _ _ _ _ => lF'
    with_unfolding_all refine' cutX (σ := Str × Tok × Str × Tok) lF' (fun _ => []) (fun c => [(Str.ofString "a", .str c.1 c.2.1), (Str.ofString "b", .str c.2.2.1 c.2.2.2)]) (fun _ => True) [] (fun c => c.1.length ≤ 40 ∧ c.2.2.1.length ≤ 40 ∧ levF costU (lst x) (lst y) mc = levD costU (lst c.1) (lst c.2.2.1) mc) ?_ ?_
    · walk_at "mine_steps"
      all_goals (unfold Halt; walk_at "mine_xend4")
    · clear lF'
      intro ⟨aa, ta, bb, tb⟩ u7 h7 tk7 _ hdone kFr7 kNews7
      obtain ⟨hA40, hB40, hEq⟩ := hdone
      have kMark := kstMark
      dsimp only [kstB] at kFr7
      dsimp only at kNews7 hA40 hB40 hEq
      k_with_none
      (k_with "mine_in" => (first | exact List.Mem.head _ | (refine List.Mem.tail _ ?_; walk_at "mine_in")))
      (k_with "mine_sub" => (first | exact sub_refl | (refine sub_cons (by walk_at "mine_in") (by walk_at "mine_sub")) | (refine sub_tail ?_; walk_at "mine_sub") | exact List.forall_mem_nil _))
      (k_with "subscriptTail Name Slice ref ref" => ((k_here; (with_reducible show wpAny _ _ (subscriptTail _ (PySem.Expr.Slice (some _) none none _) (Value.ref _) (Value.ref _)) _ _ _); k_dflt (refine' sliceFrom_K (by k_asm) (by k_asm) (by kmk_list) (by l_ints) ?_ (by with_unfolding_all rfl) (by kmk_pure) (by kmk_size)); intro D' ws' h' F' N' l1 hI'; (try k_lt l1); (try k_sweep))))
      (k_with "subscriptTail List" => ((k_here; (with_reducible show wpAny _ _ (subscriptTail _ (PySem.Expr.Slice (some _) none none _) (Value.ref _) (Value.ref _)) _ _ _); k_dflt (refine' sliceFrom_K (by k_asm) (by k_asm) (by kmk_list) (by l_ints) ?_ (by with_unfolding_all rfl) (by kmk_pure) (by kmk_size)); intro D' ws' h' F' N' l1 hI'; (try k_lt l1); (try k_sweep))))
      (k_with "binaryOp Add" => ((k_here; (with_reducible show wpAny _ _ (binaryOp _ (Value.ref _) (Value.ref _)) _ _ _); k_dflt (refine' add_K (by k_asm) (by k_asm) (by k_mem) (by k_mem) ?_ (by walk_at "mine_add_size")); intro l' h' F' N' l1; (try k_lt l1); (try k_sweep))))
      (k_with "binaryOp Mult int int" => ((k_here; (with_reducible refine mul_int ?_ (sz_mul (by with_reducible assumption) (by with_reducible assumption))))))
      (k_with "binaryOp FloorDiv int int" => ((k_here; (with_reducible refine floordiv_int (by with_reducible assumption) ?_ (Or.inl (sz_py (by with_reducible assumption)))))))
      (k_with "subscriptTail Name Constant ref int" => ((k_here; (with_reducible show wpAny _ _ (subscriptTail _ _ (Value.ref _) (Value.int _ _)) _ _ _); k_dflt (refine item_K (by k_asm) (by k_mem) (by decide) (by decide) (by exact rfl) ?_ (by with_unfolding_all rfl) (by kmk_pure)))))
      (k_with "subscriptTail Name Name ref int" => ((k_here; (with_reducible show wpAny _ _ (subscriptTail _ _ (Value.ref _) (Value.int _ _)) _ _ _); k_dflt (refine item_K (by k_asm) (by k_mem) (by decide) (by decide) (by exact rfl) ?_ (by with_unfolding_all rfl) (by kmk_pure)))))
      (k_with "call builtin:str.replace" => ((k_here; (refine replace_K (by first | omega | (simp; done) | (simp; omega)) (by first | omega | (simp; done) | (simp; omega)) (by first | omega | (simp; done) | (simp; omega)) (by k_extra "mine_yz") (by k_extra "mine_xl") (by k_extra "mine_zl") ?_); intro rr tr kr hrr)))
      (k_with "pyIter ref" => ((k_extra "mine_halt"; refine Halt.mk ?_)))
      (k_with "subscriptTail Name BinOp ref int" => (k_extra "mine_itemB"))
      (k_with "InvEndN" => ((k_extra "mine_halt"; refine Halt.mk ?_)))
      (k_with "binaryOp Add str str" => (k_extra "mine_addS"))
      (k_with "mine_kend2" => ((rename News _ _ _ _ => nE'; rename Fr _ _ _ _ => fE'; (try simp only [List.push_toArray] at nE'); refine' kst_end (_, _) fE' nE' (by first | kst_in | kst_inAny) (by first | (intro p hp; kst_mem) | kst_anyIn) (by rfl) (by k_extra "mine_facts") (by kst_all) (by kst_same) (by ((try dsimp only); k_extra "mine_end")))))
      (k_with "mine_kend3" => ((rename News _ _ _ _ => nE'; rename Fr _ _ _ _ => fE'; (try simp only [List.push_toArray] at nE'); refine' kst_end (_, _, _) fE' nE' (by first | kst_in | kst_inAny) (by first | (intro p hp; kst_mem) | kst_anyIn) (by rfl) (by k_extra "mine_facts") (by kst_all) (by kst_same) (by ((try dsimp only); k_extra "mine_end")))))
      (k_with "mine_kend5" => ((rename News _ _ _ _ => nE'; rename Fr _ _ _ _ => fE'; (try simp only [List.push_toArray] at nE'); refine' kst_end (_, _, _, _, _) fE' nE' (by first | kst_in | kst_inAny) (by first | (intro p hp; kst_mem) | kst_anyIn) (by rfl) (by k_extra "mine_facts") (by kst_all) (by kst_same) (by ((try dsimp only); k_extra "mine_end")))))
      (k_with "exec While" => ((k_extra "mine_halt"; refine Halt.mk ?_)))
      (k_with "KswEnd" => ((k_extra "mine_halt"; refine Halt.mk ?_)))
      (k_with "mine_wend2" => ((rename News _ _ _ _ => nE'; rename Fr _ _ _ _ => fE'; (try simp only [List.push_toArray] at nE'); refine' ksw_end (_, _) fE' nE' (by first | kst_in | kst_inAny) (by k_extra "mine_facts") (by kst_all) (by ksw_same) (by ((try dsimp only); k_extra "mine_end")) (by ((try dsimp only); k_extra "mine_less")))))
      (k_with "mine_wend6" => ((rename News _ _ _ _ => nE'; rename Fr _ _ _ _ => fE'; (try simp only [List.push_toArray] at nE'); refine' ksw_end (_, _, _, _, _, _) fE' nE' (by first | kst_in | kst_inAny) (by k_extra "mine_facts") (by kst_all) (by ksw_same) (by ((try dsimp only); k_extra "mine_end")) (by ((try dsimp only); k_extra "mine_less")))))
      (k_with "ExitW" => ((k_extra "mine_halt"; refine Halt.mk ?_)))
      (k_with "eval Subscript" => (k_extra "mine_evalS"))
      (k_with "mine_xend2" => ((rename News _ _ _ _ => nE'; rename Fr _ _ _ _ => fE'; (try simp only [List.push_toArray] at nE'); refine' exit_end (_, _) fE' nE' (by first | kst_in | kst_inAny) (by k_extra "mine_facts") (by kst_all) (by ksw_same) (by ((try dsimp only); k_extra "mine_done")))))
      (k_with "mine_xend4" => ((rename News _ _ _ _ => nE'; rename Fr _ _ _ _ => fE'; (try simp only [List.push_toArray] at nE'); refine' exit_end (_, _, _, _) fE' nE' (by first | kst_in | kst_inAny) (by k_extra "mine_facts") (by kst_all) (by ksw_same) (by ((try dsimp only); k_extra "mine_done")))))
      (k_with "subscriptTail Name Slice str ref" => (((with_reducible show wpAny _ _ (subscriptTail _ (Expr.Slice none (some (Expr.BoolOp _ _ _)) none _) _ _) _ _ _); (with_reducible rename Fr _ _ _ _ => F'); (with_reducible rename News _ _ _ _ => N'); (first | (refine slice_strN_nn_len (s := ⟨_, _, _, _, _⟩) F' N' ?_) | (refine slice_strN_ns_len (s := ⟨_, _, _, _, _⟩) F' N' ?_)); intro _ _ _ _ _ _)))
      (k_with "mine_steps" => (repeat' (first | (k_unfold; (try dsimp only)) | walk1 | (dsimp only; walk1) | (leave1; walk_say "STEP leave1"; try dsimp only) | fail "no step")))
      (k_with "call type:list" => ((k_here; (with_reducible show wpAny _ _ (call (Value.type "list") [Value.ref _]) _ _ _); k_dflt (refine' listRange2_K (by rfl) (by k_asm) (by k_asm) (by assumption) (by omega) ?_); intro Dr yr er hr kr Fr' Nr' lr' Ir; (try k_lt lr'); (try dsimp only); (try k_sweep))))
      (k_with "mine_kend9" => ((rename News _ _ _ _ => nE'; rename Fr _ _ _ _ => fE'; (try simp only [List.push_toArray] at nE'); refine' kst_end (_, _, _, _, _, _, _, _, _) fE' nE' (by first | kst_in | kst_inAny) (by first | (intro p hp; kst_mem) | kst_anyIn) (by rfl) (by k_extra "mine_facts") (by kst_all) (by kst_same) (by ((try dsimp only); k_extra "mine_end")))))
      (k_with "setItem ref int" => ((k_here; (with_reducible show wpAny _ _ (setItem (Value.ref _) (Value.int _ _) (Value.int _ _)) _ _ _); k_dflt (refine' ksa_set (by k_asm) (by k_asm) (by (refine' Upd.head (by k_extra "mine_off"))) (by with_reducible assumption) (by ksa_idx) (by ksa_idx) (by ksa_idx) ?_; k_whole); intro h' F' N' I' lI' sI'; (try clear sI'); (try dsimp only at N'); (try k_sweep))))
      (k_with "mine_room" => (first | exact room_g (by with_reducible assumption) (by decide) | ktr_room))
      (k_with "mine_units" => (first | exact units_g (by with_reducible assumption) (by decide) | ktr_units))
      (k_with "exec If" => (k_extra "mine_if"))
      (k_with "call ref" => ((k_here; (with_reducible show wpAny _ _ (call (Value.ref 38) [Value.str _ _, Value.str _ _] []) _ _ _); k_dflt (refine c_sub _ _ _ _ _ _ _ _ _ (by (rw [item_len]; decide)) (by (rw [item_len]; decide)) _ _ _ _ _ _ _ _ _ _ _ _ _ _ _ _ _ (by k_asm) (by k_asm) (by k_asm) (by k_asm) (by k_asm) (by first | exact rfl | assumption) (by walk_at "mine_room") (by walk_at "mine_units") ?_); (intro v9 nw9 h9 tk9 hp9 F9 N9); (obtain ⟨t9, e9, e9n⟩ := hp9); (subst e9); (subst e9n); (try simp only [List.nil_append] at N9); (try dsimp only); (try k_fold))))
      (k_with "mine_halt" => skip)
      walk_at "mine_steps"
      · rename Kept _ _ _ => hK
        rename News _ _ _ _ => kN
        rename Fr _ _ _ _ => kF
        exact ret_int hret ((hEq.trans (levD_big (by omega))).symm) kF (kept_news (nw := []) (by assumption) hsub hK kN (by walk_at "mine_sub")) sub_refl
      · k_with_none
        (k_with "mine_in" => (first | exact List.Mem.head _ | (refine List.Mem.tail _ ?_; walk_at "mine_in")))
        (k_with "mine_sub" => (first | exact sub_refl | (refine sub_cons (by walk_at "mine_in") (by walk_at "mine_sub")) | (refine sub_tail ?_; walk_at "mine_sub") | exact List.forall_mem_nil _))
        (k_with "subscriptTail Name Slice ref ref" => ((k_here; (with_reducible show wpAny _ _ (subscriptTail _ (PySem.Expr.Slice (some _) none none _) (Value.ref _) (Value.ref _)) _ _ _); k_dflt (refine' sliceFrom_K (by k_asm) (by k_asm) (by kmk_list) (by l_ints) ?_ (by with_unfolding_all rfl) (by kmk_pure) (by kmk_size)); intro D' ws' h' F' N' l1 hI'; (try k_lt l1); (try k_sweep))))
        (k_with "subscriptTail List" => ((k_here; (with_reducible show wpAny _ _ (subscriptTail _ (PySem.Expr.Slice (some _) none none _) (Value.ref _) (Value.ref _)) _ _ _); k_dflt (refine' sliceFrom_K (by k_asm) (by k_asm) (by kmk_list) (by l_ints) ?_ (by with_unfolding_all rfl) (by kmk_pure) (by kmk_size)); intro D' ws' h' F' N' l1 hI'; (try k_lt l1); (try k_sweep))))
        (k_with "binaryOp Add" => ((k_here; (with_reducible show wpAny _ _ (binaryOp _ (Value.ref _) (Value.ref _)) _ _ _); k_dflt (refine' add_K (by k_asm) (by k_asm) (by k_mem) (by k_mem) ?_ (by walk_at "mine_add_size")); intro l' h' F' N' l1; (try k_lt l1); (try k_sweep))))
        (k_with "binaryOp Mult int int" => ((k_here; (with_reducible refine mul_int ?_ (sz_mul (by with_reducible assumption) (by with_reducible assumption))))))
        (k_with "binaryOp FloorDiv int int" => ((k_here; (with_reducible refine floordiv_int (by with_reducible assumption) ?_ (Or.inl (sz_py (by with_reducible assumption)))))))
        (k_with "subscriptTail Name Constant ref int" => ((k_here; (with_reducible show wpAny _ _ (subscriptTail _ _ (Value.ref _) (Value.int _ _)) _ _ _); k_dflt (refine item_K (by k_asm) (by k_mem) (by decide) (by decide) (by exact rfl) ?_ (by with_unfolding_all rfl) (by kmk_pure)))))
        (k_with "subscriptTail Name Name ref int" => ((k_here; (with_reducible show wpAny _ _ (subscriptTail _ _ (Value.ref _) (Value.int _ _)) _ _ _); k_dflt (refine item_K (by k_asm) (by k_mem) (by decide) (by decide) (by exact rfl) ?_ (by with_unfolding_all rfl) (by kmk_pure)))))
        (k_with "call builtin:str.replace" => ((k_here; (refine replace_K (by first | omega | (simp; done) | (simp; omega)) (by first | omega | (simp; done) | (simp; omega)) (by first | omega | (simp; done) | (simp; omega)) (by k_extra "mine_yz") (by k_extra "mine_xl") (by k_extra "mine_zl") ?_); intro rr tr kr hrr)))
        (k_with "pyIter ref" => ((k_extra "mine_halt"; refine Halt.mk ?_)))
        (k_with "subscriptTail Name BinOp ref int" => (k_extra "mine_itemB"))
        (k_with "InvEndN" => ((k_extra "mine_halt"; refine Halt.mk ?_)))
        (k_with "binaryOp Add str str" => (k_extra "mine_addS"))
        (k_with "mine_kend2" => ((rename News _ _ _ _ => nE'; rename Fr _ _ _ _ => fE'; (try simp only [List.push_toArray] at nE'); refine' kst_end (_, _) fE' nE' (by first | kst_in | kst_inAny) (by first | (intro p hp; kst_mem) | kst_anyIn) (by rfl) (by k_extra "mine_facts") (by kst_all) (by kst_same) (by ((try dsimp only); k_extra "mine_end")))))
        (k_with "mine_kend3" => ((rename News _ _ _ _ => nE'; rename Fr _ _ _ _ => fE'; (try simp only [List.push_toArray] at nE'); refine' kst_end (_, _, _) fE' nE' (by first | kst_in | kst_inAny) (by first | (intro p hp; kst_mem) | kst_anyIn) (by rfl) (by k_extra "mine_facts") (by kst_all) (by kst_same) (by ((try dsimp only); k_extra "mine_end")))))
        (k_with "mine_kend5" => ((rename News _ _ _ _ => nE'; rename Fr _ _ _ _ => fE'; (try simp only [List.push_toArray] at nE'); refine' kst_end (_, _, _, _, _) fE' nE' (by first | kst_in | kst_inAny) (by first | (intro p hp; kst_mem) | kst_anyIn) (by rfl) (by k_extra "mine_facts") (by kst_all) (by kst_same) (by ((try dsimp only); k_extra "mine_end")))))
        (k_with "exec While" => ((k_extra "mine_halt"; refine Halt.mk ?_)))
        (k_with "KswEnd" => ((k_extra "mine_halt"; refine Halt.mk ?_)))
        (k_with "mine_wend2" => ((rename News _ _ _ _ => nE'; rename Fr _ _ _ _ => fE'; (try simp only [List.push_toArray] at nE'); refine' ksw_end (_, _) fE' nE' (by first | kst_in | kst_inAny) (by k_extra "mine_facts") (by kst_all) (by ksw_same) (by ((try dsimp only); k_extra "mine_end")) (by ((try dsimp only); k_extra "mine_less")))))
        (k_with "mine_wend6" => ((rename News _ _ _ _ => nE'; rename Fr _ _ _ _ => fE'; (try simp only [List.push_toArray] at nE'); refine' ksw_end (_, _, _, _, _, _) fE' nE' (by first | kst_in | kst_inAny) (by k_extra "mine_facts") (by kst_all) (by ksw_same) (by ((try dsimp only); k_extra "mine_end")) (by ((try dsimp only); k_extra "mine_less")))))
        (k_with "ExitW" => ((k_extra "mine_halt"; refine Halt.mk ?_)))
        (k_with "eval Subscript" => (k_extra "mine_evalS"))
        (k_with "mine_xend2" => ((rename News _ _ _ _ => nE'; rename Fr _ _ _ _ => fE'; (try simp only [List.push_toArray] at nE'); refine' exit_end (_, _) fE' nE' (by first | kst_in | kst_inAny) (by k_extra "mine_facts") (by kst_all) (by ksw_same) (by ((try dsimp only); k_extra "mine_done")))))
        (k_with "mine_xend4" => ((rename News _ _ _ _ => nE'; rename Fr _ _ _ _ => fE'; (try simp only [List.push_toArray] at nE'); refine' exit_end (_, _, _, _) fE' nE' (by first | kst_in | kst_inAny) (by k_extra "mine_facts") (by kst_all) (by ksw_same) (by ((try dsimp only); k_extra "mine_done")))))
        (k_with "subscriptTail Name Slice str ref" => (((with_reducible show wpAny _ _ (subscriptTail _ (Expr.Slice none (some (Expr.BoolOp _ _ _)) none _) _ _) _ _ _); (with_reducible rename Fr _ _ _ _ => F'); (with_reducible rename News _ _ _ _ => N'); (first | (refine slice_strN_nn_len (s := ⟨_, _, _, _, _⟩) F' N' ?_) | (refine slice_strN_ns_len (s := ⟨_, _, _, _, _⟩) F' N' ?_)); intro _ _ _ _ _ _)))
        (k_with "mine_steps" => (repeat' (first | (k_unfold; (try dsimp only)) | walk1 | (dsimp only; walk1) | (leave1; walk_say "STEP leave1"; try dsimp only) | fail "no step")))
        (k_with "call type:list" => ((k_here; (with_reducible show wpAny _ _ (call (Value.type "list") [Value.ref _]) _ _ _); k_dflt (refine' listRange2_K (by rfl) (by k_asm) (by k_asm) (by assumption) (by omega) ?_); intro Dr yr er hr kr Fr' Nr' lr' Ir; (try k_lt lr'); (try dsimp only); (try k_sweep))))
        (k_with "mine_kend9" => ((rename News _ _ _ _ => nE'; rename Fr _ _ _ _ => fE'; (try simp only [List.push_toArray] at nE'); refine' kst_end (_, _, _, _, _, _, _, _, _) fE' nE' (by first | kst_in | kst_inAny) (by first | (intro p hp; kst_mem) | kst_anyIn) (by rfl) (by k_extra "mine_facts") (by kst_all) (by kst_same) (by ((try dsimp only); k_extra "mine_end")))))
        (k_with "setItem ref int" => ((k_here; (with_reducible show wpAny _ _ (setItem (Value.ref _) (Value.int _ _) (Value.int _ _)) _ _ _); k_dflt (refine' ksa_set (by k_asm) (by k_asm) (by (refine' Upd.head (by k_extra "mine_off"))) (by with_reducible assumption) (by ksa_idx) (by ksa_idx) (by ksa_idx) ?_; k_whole); intro h' F' N' I' lI' sI'; (try clear sI'); (try dsimp only at N'); (try k_sweep))))
        (k_with "mine_room" => (first | exact room_g (by with_reducible assumption) (by decide) | ktr_room))
        (k_with "mine_units" => (first | exact units_g (by with_reducible assumption) (by decide) | ktr_units))
        (k_with "exec If" => (k_extra "mine_if"))
        (k_with "call ref" => ((k_here; (with_reducible show wpAny _ _ (call (Value.ref 38) [Value.str _ _, Value.str _ _] []) _ _ _); k_dflt (refine c_sub _ _ _ _ _ _ _ _ _ (by (rw [item_len]; decide)) (by (rw [item_len]; decide)) _ _ _ _ _ _ _ _ _ _ _ _ _ _ _ _ _ (by k_asm) (by k_asm) (by k_asm) (by k_asm) (by k_asm) (by first | exact rfl | assumption) (by walk_at "mine_room") (by walk_at "mine_units") ?_); (intro v9 nw9 h9 tk9 hp9 F9 N9); (obtain ⟨t9, e9, e9n⟩ := hp9); (subst e9); (subst e9n); (try simp only [List.nil_append] at N9); (try dsimp only); (try k_fold))))
        (k_with "mine_halt" => skip)
        unfold Halt
        have hfin : levF costU (lst x) (lst y) mc = goF costU (lst aa) (lst bb) mc (lst bb).length 0 (rangeInts 2 2 (lst aa).length) 0 := hEq.trans (levD_go (by omega))
        rename Fr _ _ _ _ => lF'
        rename News _ _ _ _ => lN'
        rename IsRange _ _ _ _ _ _ _ _ => rgX
        rename IntsAre _ _ => hI0
        rw [lst_len aa] at hI0
        refine nameN lN' ?_
        intro lr hlr
        subst hlr
        with_unfolding_all refine' kst_range (σ := List Value × List Int × Nat × Int × Tok) (n := bb.length) (fun c => [(lr, listOf c.1.toArray c.2.2.1)]) (fun c => [(Str.ofString "result", .int c.2.2.2.1 c.2.2.2.2)]) (fun c => IntsAre c.1 c.2.1) [Str.ofString "bchar", Str.ofString "distance", Str.ofString "minimum", Str.ofString "index", Str.ofString "substitute", Str.ofString "insert_delete"] (fun pre c => OutP (lst aa) (lst bb) mc pre.length c.2.1 c.2.2.2.1) (_, rangeInts 2 2 (lst aa).length, _, 0, _) (by rfl) rgX (by exact small_one (by omega) (by omega) (by omega) (by omega)) (by rw [rangeSize_nat]; omega) lF' (news_sub lN' (by walk_at "mine_sub")) hI0 (by kst_all) out_start ?_ ?_
        · clear lF' lN'
          intro ⟨vs, ns, ep, res, tr⟩ pre k t u9 h9 tk9 own hk hlt hoff hfacts hP kFr kNews
          have kMark := kstMark
          have hk' : k = (pre.length : Int) := by omega
          subst hk'
          dsimp only [kstB] at kFr
          dsimp only at kNews hfacts hP
          simp only [List.map_cons, List.map_nil] at hoff
          walk_at "mine_steps"
          unfold Halt
          rename Fr _ _ _ _ => lF'
          rename News _ _ _ _ => lN'
          rename IsRange _ _ _ _ _ _ _ _ => rgX
          with_unfolding_all refine' kst_range (σ := List Value × List Int × Nat × Int × Tok × Int × Tok × Int × Tok) (n := aa.length) (fun c => (lr, listOf c.1.toArray c.2.2.1) :: own) (fun c => [(Str.ofString "distance", .int c.2.2.2.1 c.2.2.2.2.1), (Str.ofString "result", .int c.2.2.2.2.2.1 c.2.2.2.2.2.2.1), (Str.ofString "minimum", .int c.2.2.2.2.2.2.2.1 c.2.2.2.2.2.2.2.2)]) (fun c => IntsAre c.1 c.2.1) [Str.ofString "substitute", Str.ofString "insert_delete"] (fun pre2 c => InP ((lst bb).getD pre.length 0) (lst aa) ((pre.length : Int) * 2, (pre.length : Int) * 2, 9223372036854775807, ns) pre2.length c.2.2.2.1 c.2.2.2.2.2.1 c.2.2.2.2.2.2.2.1 c.2.1) (vs, ns, ep, (pre.length : Int) * 2, _, (pre.length : Int) * 2, _, 9223372036854775807, _) (by rfl) rgX (by exact small_one (by omega) (by omega) (by omega) (by omega)) (by rw [rangeSize_nat]; omega) lF' lN' hfacts (by kst_all) (in_start hP.2) ?_ ?_
          · clear lF' lN'
            intro ⟨vs2, ns2, ep2, d, td, r, tr2, mn, tm⟩ pre2 k2 t2 u2 h2 tk2 own2 hk2 hlt2 hoff2 hfacts2 hP2 kFr2 kNews2
            have kMark := kstMark
            have hk2' : k2 = (pre2.length : Int) := by omega
            subst hk2'
            dsimp only [kstB] at kFr2
            dsimp only at kNews2 hfacts2 hP2
            have hlen2 := hP2.2
            rw [← lst_len] at hlen2
            simp only [List.map_cons, List.map_nil] at hoff2
            k_with_none
            (k_with "mine_in" => (first | exact List.Mem.head _ | (refine List.Mem.tail _ ?_; walk_at "mine_in")))
            (k_with "mine_sub" => (first | exact sub_refl | (refine sub_cons (by walk_at "mine_in") (by walk_at "mine_sub")) | (refine sub_tail ?_; walk_at "mine_sub") | exact List.forall_mem_nil _))
            (k_with "subscriptTail Name Slice ref ref" => ((k_here; (with_reducible show wpAny _ _ (subscriptTail _ (PySem.Expr.Slice (some _) none none _) (Value.ref _) (Value.ref _)) _ _ _); k_dflt (refine' sliceFrom_K (by k_asm) (by k_asm) (by kmk_list) (by l_ints) ?_ (by with_unfolding_all rfl) (by kmk_pure) (by kmk_size)); intro D' ws' h' F' N' l1 hI'; (try k_lt l1); (try k_sweep))))
            (k_with "subscriptTail List" => ((k_here; (with_reducible show wpAny _ _ (subscriptTail _ (PySem.Expr.Slice (some _) none none _) (Value.ref _) (Value.ref _)) _ _ _); k_dflt (refine' sliceFrom_K (by k_asm) (by k_asm) (by kmk_list) (by l_ints) ?_ (by with_unfolding_all rfl) (by kmk_pure) (by kmk_size)); intro D' ws' h' F' N' l1 hI'; (try k_lt l1); (try k_sweep))))
            (k_with "binaryOp Add" => ((k_here; (with_reducible show wpAny _ _ (binaryOp _ (Value.ref _) (Value.ref _)) _ _ _); k_dflt (refine' add_K (by k_asm) (by k_asm) (by k_mem) (by k_mem) ?_ (by walk_at "mine_add_size")); intro l' h' F' N' l1; (try k_lt l1); (try k_sweep))))
            (k_with "binaryOp Mult int int" => ((k_here; (with_reducible refine mul_int ?_ (sz_mul (by with_reducible assumption) (by with_reducible assumption))))))
            (k_with "binaryOp FloorDiv int int" => ((k_here; (with_reducible refine floordiv_int (by with_reducible assumption) ?_ (Or.inl (sz_py (by with_reducible assumption)))))))
            (k_with "subscriptTail Name Constant ref int" => ((k_here; (with_reducible show wpAny _ _ (subscriptTail _ _ (Value.ref _) (Value.int _ _)) _ _ _); k_dflt (refine item_K (by k_asm) (by k_mem) (by decide) (by decide) (by exact rfl) ?_ (by with_unfolding_all rfl) (by kmk_pure)))))
            (k_with "subscriptTail Name Name ref int" => ((k_here; (with_reducible show wpAny _ _ (subscriptTail _ _ (Value.ref _) (Value.int _ _)) _ _ _); k_dflt (refine item_K (by k_asm) (by k_mem) (by decide) (by decide) (by exact rfl) ?_ (by with_unfolding_all rfl) (by kmk_pure)))))
            (k_with "call builtin:str.replace" => ((k_here; (refine replace_K (by first | omega | (simp; done) | (simp; omega)) (by first | omega | (simp; done) | (simp; omega)) (by first | omega | (simp; done) | (simp; omega)) (by k_extra "mine_yz") (by k_extra "mine_xl") (by k_extra "mine_zl") ?_); intro rr tr kr hrr)))
            (k_with "pyIter ref" => ((k_extra "mine_halt"; refine Halt.mk ?_)))
            (k_with "subscriptTail Name BinOp ref int" => (k_extra "mine_itemB"))
            (k_with "InvEndN" => ((k_extra "mine_halt"; refine Halt.mk ?_)))
            (k_with "binaryOp Add str str" => (k_extra "mine_addS"))
            (k_with "mine_kend2" => ((rename News _ _ _ _ => nE'; rename Fr _ _ _ _ => fE'; (try simp only [List.push_toArray] at nE'); refine' kst_end (_, _) fE' nE' (by first | kst_in | kst_inAny) (by first | (intro p hp; kst_mem) | kst_anyIn) (by rfl) (by k_extra "mine_facts") (by kst_all) (by kst_same) (by ((try dsimp only); k_extra "mine_end")))))
            (k_with "mine_kend3" => ((rename News _ _ _ _ => nE'; rename Fr _ _ _ _ => fE'; (try simp only [List.push_toArray] at nE'); refine' kst_end (_, _, _) fE' nE' (by first | kst_in | kst_inAny) (by first | (intro p hp; kst_mem) | kst_anyIn) (by rfl) (by k_extra "mine_facts") (by kst_all) (by kst_same) (by ((try dsimp only); k_extra "mine_end")))))
            (k_with "mine_kend5" => ((rename News _ _ _ _ => nE'; rename Fr _ _ _ _ => fE'; (try simp only [List.push_toArray] at nE'); refine' kst_end (_, _, _, _, _) fE' nE' (by first | kst_in | kst_inAny) (by first | (intro p hp; kst_mem) | kst_anyIn) (by rfl) (by k_extra "mine_facts") (by kst_all) (by kst_same) (by ((try dsimp only); k_extra "mine_end")))))
            (k_with "exec While" => ((k_extra "mine_halt"; refine Halt.mk ?_)))
            (k_with "KswEnd" => ((k_extra "mine_halt"; refine Halt.mk ?_)))
            (k_with "mine_wend2" => ((rename News _ _ _ _ => nE'; rename Fr _ _ _ _ => fE'; (try simp only [List.push_toArray] at nE'); refine' ksw_end (_, _) fE' nE' (by first | kst_in | kst_inAny) (by k_extra "mine_facts") (by kst_all) (by ksw_same) (by ((try dsimp only); k_extra "mine_end")) (by ((try dsimp only); k_extra "mine_less")))))
            (k_with "mine_wend6" => ((rename News _ _ _ _ => nE'; rename Fr _ _ _ _ => fE'; (try simp only [List.push_toArray] at nE'); refine' ksw_end (_, _, _, _, _, _) fE' nE' (by first | kst_in | kst_inAny) (by k_extra "mine_facts") (by kst_all) (by ksw_same) (by ((try dsimp only); k_extra "mine_end")) (by ((try dsimp only); k_extra "mine_less")))))
            (k_with "ExitW" => ((k_extra "mine_halt"; refine Halt.mk ?_)))
            (k_with "eval Subscript" => (k_extra "mine_evalS"))
            (k_with "mine_xend2" => ((rename News _ _ _ _ => nE'; rename Fr _ _ _ _ => fE'; (try simp only [List.push_toArray] at nE'); refine' exit_end (_, _) fE' nE' (by first | kst_in | kst_inAny) (by k_extra "mine_facts") (by kst_all) (by ksw_same) (by ((try dsimp only); k_extra "mine_done")))))
            (k_with "mine_xend4" => ((rename News _ _ _ _ => nE'; rename Fr _ _ _ _ => fE'; (try simp only [List.push_toArray] at nE'); refine' exit_end (_, _, _, _) fE' nE' (by first | kst_in | kst_inAny) (by k_extra "mine_facts") (by kst_all) (by ksw_same) (by ((try dsimp only); k_extra "mine_done")))))
            (k_with "subscriptTail Name Slice str ref" => (((with_reducible show wpAny _ _ (subscriptTail _ (Expr.Slice none (some (Expr.BoolOp _ _ _)) none _) _ _) _ _ _); (with_reducible rename Fr _ _ _ _ => F'); (with_reducible rename News _ _ _ _ => N'); (first | (refine slice_strN_nn_len (s := ⟨_, _, _, _, _⟩) F' N' ?_) | (refine slice_strN_ns_len (s := ⟨_, _, _, _, _⟩) F' N' ?_)); intro _ _ _ _ _ _)))
            (k_with "mine_steps" => (repeat' (first | (k_unfold; (try dsimp only)) | walk1 | (dsimp only; walk1) | (leave1; walk_say "STEP leave1"; try dsimp only) | fail "no step")))
            (k_with "call type:list" => ((k_here; (with_reducible show wpAny _ _ (call (Value.type "list") [Value.ref _]) _ _ _); k_dflt (refine' listRange2_K (by rfl) (by k_asm) (by k_asm) (by assumption) (by omega) ?_); intro Dr yr er hr kr Fr' Nr' lr' Ir; (try k_lt lr'); (try dsimp only); (try k_sweep))))
            (k_with "mine_kend9" => ((rename News _ _ _ _ => nE'; rename Fr _ _ _ _ => fE'; (try simp only [List.push_toArray] at nE'); refine' kst_end (_, _, _, _, _, _, _, _, _) fE' nE' (by first | kst_in | kst_inAny) (by first | (intro p hp; kst_mem) | kst_anyIn) (by rfl) (by k_extra "mine_facts") (by kst_all) (by kst_same) (by ((try dsimp only); k_extra "mine_end")))))
            (k_with "setItem ref int" => ((k_here; (with_reducible show wpAny _ _ (setItem (Value.ref _) (Value.int _ _) (Value.int _ _)) _ _ _); k_dflt (refine' ksa_set (by k_asm) (by k_asm) (by (refine' Upd.head (by k_extra "mine_off"))) (by with_reducible assumption) (by ksa_idx) (by ksa_idx) (by ksa_idx) ?_; k_whole); intro h' F' N' I' lI' sI'; (try clear sI'); (try dsimp only at N'); (try k_sweep))))
            (k_with "mine_room" => (first | exact room_g (by with_reducible assumption) (by decide) | ktr_room))
            (k_with "mine_units" => (first | exact units_g (by with_reducible assumption) (by decide) | ktr_units))
            (k_with "exec If" => (k_extra "mine_if"))
            (k_with "call ref" => ((k_here; (with_reducible show wpAny _ _ (call (Value.ref 38) [Value.str _ _, Value.str _ _] []) _ _ _); k_dflt (refine c_sub _ _ _ _ _ _ _ _ _ (by (rw [item_len]; decide)) (by (rw [item_len]; decide)) _ _ _ _ _ _ _ _ _ _ _ _ _ _ _ _ _ (by k_asm) (by k_asm) (by k_asm) (by k_asm) (by k_asm) (by first | exact rfl | assumption) (by walk_at "mine_room") (by walk_at "mine_units") ?_); (intro v9 nw9 h9 tk9 hp9 F9 N9); (obtain ⟨t9, e9, e9n⟩ := hp9); (subst e9); (subst e9n); (try simp only [List.nil_append] at N9); (try dsimp only); (try k_fold))))
            (k_with "mine_halt" => skip)
            (k_with "mine_off" => (intro p9 hp9; rcases List.mem_append.mp hp9 with hp9 | hp9; (exact hoff p9 hp9 lr (List.mem_singleton.mpr rfl)); (exact hoff2 p9 hp9 lr List.mem_cons_self)))
            (k_with "mine_facts" => with_reducible assumption)
            (k_with "mine_end" => (rw [List.length_append]; exact in_turn hP2 rfl (in_e2 hlt hlt2) (by first | exact (if_pos (by assumption)).symm | exact (if_neg (by assumption)).symm) rfl))
            walk_at "mine_steps"
            all_goals (unfold Halt; walk_at "mine_kend9")
          · clear lF' lN'
            intro ⟨vs2, ns2, ep2, d, td, r, tr2, mn, tm⟩ u2 h2 tk2 hfacts2 hP2 kFr2 kNews2
            have kMark := kstMark
            dsimp only [kstB] at kFr2
            dsimp only at kNews2 hfacts2 hP2
            rw [rangeKs_length, lst_len aa] at hP2
            have hltB : pre.length < (lst bb).length := by rw [← lst_len]; exact hlt
            (k_with "mine_facts" => exact hfacts2)
            (k_with "mine_end" => (rw [List.length_append]; exact out_turn hP hltB hP2 (by omega)))
            walk_at "mine_steps"
            · rename Kept _ _ _ => hK
              rename News _ _ _ _ => kN
              rename Fr _ _ _ _ => kF
              exact ret_int hret ((hfin.trans (out_ret hP hltB hP2 (by omega))).symm) kF (kept_news (nw := []) (by assumption) hsub hK kN (by walk_at "mine_sub")) sub_refl
            · unfold Halt
              walk_at "mine_kend5"
        · clear lF' lN'
          intro ⟨vs, ns, ep, res, tr⟩ u9 h9 tk9 hfacts hP kFr kNews
          have kMark := kstMark
          dsimp only [kstB] at kFr
          dsimp only at kNews hfacts hP
          rw [rangeKs_length, lst_len bb] at hP
          walk_at "mine_steps"
          rename Kept _ _ _ => hK
          rename News _ _ _ _ => kN
          rename Fr _ _ _ _ => kF
          exact ret_int hret ((hfin.trans (out_end hP)).symm) kF (kept_news (nw := []) (by assumption) hsub hK kN (by walk_at "mine_sub")) sub_refl
  · rename Kept _ _ _ => hK
    rename News _ _ _ _ => kN
    rename Fr _ _ _ _ => kF
    exact ret_int hret (((lev_red (by with_reducible assumption) hul hvl hD2 hpu hpv).trans (levT_zero (by omega))).symm) kF (kept_news (nw := []) (by assumption) hsub hK kN (by walk_at "mine_sub")) sub_refl
end
section
theorem c_quote (w : World) (mean : ExcName → Option Value) (mg mb : Str → Option Value) (news : Led) (x : Str) (t : Tok) (hx : x.length ≤ 400) :
    CtrN 2 16 w mean mg mb 97 [.str x t] news (fun v nw => ∃ z t', v = .str z t' ∧ nw = [] ∧ lst z = dotsS true (normS false (lst x)) ∧ z.length ≤ 4 * x.length) := by
  k_with_none
  (k_with "mine_in" => (first | exact List.Mem.head _ | (refine List.Mem.tail _ ?_; walk_at "mine_in")))
  (k_with "mine_sub" => (first | exact sub_refl | (refine sub_cons (by walk_at "mine_in") (by walk_at "mine_sub")) | (refine sub_tail ?_; walk_at "mine_sub") | exact List.forall_mem_nil _))
  (k_with "subscriptTail Name Slice ref ref" => ((k_here; (with_reducible show wpAny _ _ (subscriptTail _ (PySem.Expr.Slice (some _) none none _) (Value.ref _) (Value.ref _)) _ _ _); k_dflt (refine' sliceFrom_K (by k_asm) (by k_asm) (by kmk_list) (by l_ints) ?_ (by with_unfolding_all rfl) (by kmk_pure) (by kmk_size)); intro D' ws' h' F' N' l1 hI'; (try k_lt l1); (try k_sweep))))
  (k_with "subscriptTail List" => ((k_here; (with_reducible show wpAny _ _ (subscriptTail _ (PySem.Expr.Slice (some _) none none _) (Value.ref _) (Value.ref _)) _ _ _); k_dflt (refine' sliceFrom_K (by k_asm) (by k_asm) (by kmk_list) (by l_ints) ?_ (by with_unfolding_all rfl) (by kmk_pure) (by kmk_size)); intro D' ws' h' F' N' l1 hI'; (try k_lt l1); (try k_sweep))))
  (k_with "binaryOp Add" => ((k_here; (with_reducible show wpAny _ _ (binaryOp _ (Value.ref _) (Value.ref _)) _ _ _); k_dflt (refine' add_K (by k_asm) (by k_asm) (by k_mem) (by k_mem) ?_ (by walk_at "mine_add_size")); intro l' h' F' N' l1; (try k_lt l1); (try k_sweep))))
  (k_with "binaryOp Mult int int" => ((k_here; (with_reducible refine mul_int ?_ (sz_mul (by with_reducible assumption) (by with_reducible assumption))))))
  (k_with "binaryOp FloorDiv int int" => ((k_here; (with_reducible refine floordiv_int (by with_reducible assumption) ?_ (Or.inl (sz_py (by with_reducible assumption)))))))
  (k_with "subscriptTail Name Constant ref int" => ((k_here; (with_reducible show wpAny _ _ (subscriptTail _ _ (Value.ref _) (Value.int _ _)) _ _ _); k_dflt (refine item_K (by k_asm) (by k_mem) (by decide) (by decide) (by exact rfl) ?_ (by with_unfolding_all rfl) (by kmk_pure)))))
  (k_with "subscriptTail Name Name ref int" => ((k_here; (with_reducible show wpAny _ _ (subscriptTail _ _ (Value.ref _) (Value.int _ _)) _ _ _); k_dflt (refine item_K (by k_asm) (by k_mem) (by decide) (by decide) (by exact rfl) ?_ (by with_unfolding_all rfl) (by kmk_pure)))))
  (k_with "call builtin:str.replace" => ((k_here; (refine replace_K (by first | omega | (simp; done) | (simp; omega)) (by first | omega | (simp; done) | (simp; omega)) (by first | omega | (simp; done) | (simp; omega)) (by k_extra "mine_yz") (by k_extra "mine_xl") (by k_extra "mine_zl") ?_); intro rr tr kr hrr)))
  (k_with "pyIter ref" => ((k_extra "mine_halt"; refine Halt.mk ?_)))
  (k_with "subscriptTail Name BinOp ref int" => (k_extra "mine_itemB"))
  (k_with "InvEndN" => ((k_extra "mine_halt"; refine Halt.mk ?_)))
  (k_with "binaryOp Add str str" => (k_extra "mine_addS"))
  (k_with "mine_kend2" => ((rename News _ _ _ _ => nE'; rename Fr _ _ _ _ => fE'; (try simp only [List.push_toArray] at nE'); refine' kst_end (_, _) fE' nE' (by first | kst_in | kst_inAny) (by first | (intro p hp; kst_mem) | kst_anyIn) (by rfl) (by k_extra "mine_facts") (by kst_all) (by kst_same) (by ((try dsimp only); k_extra "mine_end")))))
  (k_with "mine_kend3" => ((rename News _ _ _ _ => nE'; rename Fr _ _ _ _ => fE'; (try simp only [List.push_toArray] at nE'); refine' kst_end (_, _, _) fE' nE' (by first | kst_in | kst_inAny) (by first | (intro p hp; kst_mem) | kst_anyIn) (by rfl) (by k_extra "mine_facts") (by kst_all) (by kst_same) (by ((try dsimp only); k_extra "mine_end")))))
  (k_with "mine_kend5" => ((rename News _ _ _ _ => nE'; rename Fr _ _ _ _ => fE'; (try simp only [List.push_toArray] at nE'); refine' kst_end (_, _, _, _, _) fE' nE' (by first | kst_in | kst_inAny) (by first | (intro p hp; kst_mem) | kst_anyIn) (by rfl) (by k_extra "mine_facts") (by kst_all) (by kst_same) (by ((try dsimp only); k_extra "mine_end")))))
  (k_with "exec While" => ((k_extra "mine_halt"; refine Halt.mk ?_)))
  (k_with "KswEnd" => ((k_extra "mine_halt"; refine Halt.mk ?_)))
  (k_with "mine_wend2" => ((rename News _ _ _ _ => nE'; rename Fr _ _ _ _ => fE'; (try simp only [List.push_toArray] at nE'); refine' ksw_end (_, _) fE' nE' (by first | kst_in | kst_inAny) (by k_extra "mine_facts") (by kst_all) (by ksw_same) (by ((try dsimp only); k_extra "mine_end")) (by ((try dsimp only); k_extra "mine_less")))))
  (k_with "mine_wend6" => ((rename News _ _ _ _ => nE'; rename Fr _ _ _ _ => fE'; (try simp only [List.push_toArray] at nE'); refine' ksw_end (_, _, _, _, _, _) fE' nE' (by first | kst_in | kst_inAny) (by k_extra "mine_facts") (by kst_all) (by ksw_same) (by ((try dsimp only); k_extra "mine_end")) (by ((try dsimp only); k_extra "mine_less")))))
  (k_with "ExitW" => ((k_extra "mine_halt"; refine Halt.mk ?_)))
  (k_with "eval Subscript" => (k_extra "mine_evalS"))
  (k_with "mine_xend2" => ((rename News _ _ _ _ => nE'; rename Fr _ _ _ _ => fE'; (try simp only [List.push_toArray] at nE'); refine' exit_end (_, _) fE' nE' (by first | kst_in | kst_inAny) (by k_extra "mine_facts") (by kst_all) (by ksw_same) (by ((try dsimp only); k_extra "mine_done")))))
  (k_with "mine_xend4" => ((rename News _ _ _ _ => nE'; rename Fr _ _ _ _ => fE'; (try simp only [List.push_toArray] at nE'); refine' exit_end (_, _, _, _) fE' nE' (by first | kst_in | kst_inAny) (by k_extra "mine_facts") (by kst_all) (by ksw_same) (by ((try dsimp only); k_extra "mine_done")))))
  (k_with "subscriptTail Name Slice str ref" => (((with_reducible show wpAny _ _ (subscriptTail _ (Expr.Slice none (some (Expr.BoolOp _ _ _)) none _) _ _) _ _ _); (with_reducible rename Fr _ _ _ _ => F'); (with_reducible rename News _ _ _ _ => N'); (first | (refine slice_strN_nn_len (s := ⟨_, _, _, _, _⟩) F' N' ?_) | (refine slice_strN_ns_len (s := ⟨_, _, _, _, _⟩) F' N' ?_)); intro _ _ _ _ _ _)))
  (k_with "mine_steps" => (repeat' (first | (k_unfold; (try dsimp only)) | walk1 | (dsimp only; walk1) | (leave1; walk_say "STEP leave1"; try dsimp only) | fail "no step")))
  (k_with "call type:list" => ((k_here; (with_reducible show wpAny _ _ (call (Value.type "list") [Value.ref _]) _ _ _); k_dflt (refine' listRange2_K (by rfl) (by k_asm) (by k_asm) (by assumption) (by omega) ?_); intro Dr yr er hr kr Fr' Nr' lr' Ir; (try k_lt lr'); (try dsimp only); (try k_sweep))))
  (k_with "mine_kend9" => ((rename News _ _ _ _ => nE'; rename Fr _ _ _ _ => fE'; (try simp only [List.push_toArray] at nE'); refine' kst_end (_, _, _, _, _, _, _, _, _) fE' nE' (by first | kst_in | kst_inAny) (by first | (intro p hp; kst_mem) | kst_anyIn) (by rfl) (by k_extra "mine_facts") (by kst_all) (by kst_same) (by ((try dsimp only); k_extra "mine_end")))))
  (k_with "setItem ref int" => ((k_here; (with_reducible show wpAny _ _ (setItem (Value.ref _) (Value.int _ _) (Value.int _ _)) _ _ _); k_dflt (refine' ksa_set (by k_asm) (by k_asm) (by (refine' Upd.head (by k_extra "mine_off"))) (by with_reducible assumption) (by ksa_idx) (by ksa_idx) (by ksa_idx) ?_; k_whole); intro h' F' N' I' lI' sI'; (try clear sI'); (try dsimp only at N'); (try k_sweep))))
  (k_with "mine_room" => (first | exact room_g (by with_reducible assumption) (by decide) | ktr_room))
  (k_with "mine_units" => (first | exact units_g (by with_reducible assumption) (by decide) | ktr_units))
  (k_with "getMethod ref" => (((with_reducible first | (show wpAny _ _ (getMethod (Value.ref 85) _ _) _ _ _) | (show wpAny _ _ (getMethod (Value.ref 90) _ _) _ _ _)); first | refine getMethod_sub ((pat1_of (by assumption)).keep (Fr.keep (by with_reducible assumption))) ?_ | refine getMethod_sub ((pat2_of (by assumption)).keep (Fr.keep (by with_reducible assumption))) ?_)))
  (k_with "call builtin:re.Pattern.sub" => ((k_here; (first | refine sub2_W (by k_asm) (by k_asm) (pat2_of (by assumption)) (by decide +kernel) ?_ ?_ | refine sub1_W (by k_asm) (by k_asm) (pat1_of (by assumption)) (by decide +kernel) ?_ ?_); (focus omega); intro zq tq hq kq hzq hlq Fq Nq)))
  unfold CtrN
  k_fill
  intros; rename_i hret
  refine wpAny_call ?_
  have hsub : ∀ qq ∈ ([] : Led), qq ∈ news := by
    simp only [List.mem_cons, List.not_mem_nil, or_false, forall_eq_or_imp, forall_eq, false_or, false_implies, implies_true]
    first | done | assumption | (refine ⟨?_, ?_⟩ <;> assumption) | (refine ⟨?_, ?_, ?_⟩ <;> assumption)
  k_dflt (refine' enterS (binds := [(Str.ofString "data", .str x t)]) (news₁ := []) ?k1 ?k2 ?k3 ?k4 ?k5 ?kA ?kF ?kK ?k6 ?k7 ?k8 ?k9 ?kB ?kS ?_ ?c2 ?c3 ?c4 ?c5; (case kA => exact rfl); (case kF => exact rfl); (case kK => assumption); (case k1 => k_asm); (case k2 => k_asm); (case k3 => k_asm); (case k4 => k_asm); (case k5 => k_asm); (case k6 => k_is); (case k7 => k_is); (case k8 => ktr_room); (case k9 => exact BindsTo.of_eq rfl); (case kS => assumption); (case c5 => decide); (case kB => exact locs rfl); (case c2 => exact rfl); (case c3 => exact rfl); (case c4 => exact rfl); k_whole)
  intro g' L' h' F' N' B' X' T'
  (try dsimp only)
  (try k_lift B')
  (try k_fold)
  k_with_none
  (k_with "mine_in" => (first | exact List.Mem.head _ | (refine List.Mem.tail _ ?_; walk_at "mine_in")))
  (k_with "mine_sub" => (first | exact sub_refl | (refine sub_cons (by walk_at "mine_in") (by walk_at "mine_sub")) | (refine sub_tail ?_; walk_at "mine_sub") | exact List.forall_mem_nil _))
  (k_with "subscriptTail Name Slice ref ref" => ((k_here; (with_reducible show wpAny _ _ (subscriptTail _ (PySem.Expr.Slice (some _) none none _) (Value.ref _) (Value.ref _)) _ _ _); k_dflt (refine' sliceFrom_K (by k_asm) (by k_asm) (by kmk_list) (by l_ints) ?_ (by with_unfolding_all rfl) (by kmk_pure) (by kmk_size)); intro D' ws' h' F' N' l1 hI'; (try k_lt l1); (try k_sweep))))
  (k_with "subscriptTail List" => ((k_here; (with_reducible show wpAny _ _ (subscriptTail _ (PySem.Expr.Slice (some _) none none _) (Value.ref _) (Value.ref _)) _ _ _); k_dflt (refine' sliceFrom_K (by k_asm) (by k_asm) (by kmk_list) (by l_ints) ?_ (by with_unfolding_all rfl) (by kmk_pure) (by kmk_size)); intro D' ws' h' F' N' l1 hI'; (try k_lt l1); (try k_sweep))))
  (k_with "binaryOp Add" => ((k_here; (with_reducible show wpAny _ _ (binaryOp _ (Value.ref _) (Value.ref _)) _ _ _); k_dflt (refine' add_K (by k_asm) (by k_asm) (by k_mem) (by k_mem) ?_ (by walk_at "mine_add_size")); intro l' h' F' N' l1; (try k_lt l1); (try k_sweep))))
  (k_with "binaryOp Mult int int" => ((k_here; (with_reducible refine mul_int ?_ (sz_mul (by with_reducible assumption) (by with_reducible assumption))))))
  (k_with "binaryOp FloorDiv int int" => ((k_here; (with_reducible refine floordiv_int (by with_reducible assumption) ?_ (Or.inl (sz_py (by with_reducible assumption)))))))
  (k_with "subscriptTail Name Constant ref int" => ((k_here; (with_reducible show wpAny _ _ (subscriptTail _ _ (Value.ref _) (Value.int _ _)) _ _ _); k_dflt (refine item_K (by k_asm) (by k_mem) (by decide) (by decide) (by exact rfl) ?_ (by with_unfolding_all rfl) (by kmk_pure)))))
  (k_with "subscriptTail Name Name ref int" => ((k_here; (with_reducible show wpAny _ _ (subscriptTail _ _ (Value.ref _) (Value.int _ _)) _ _ _); k_dflt (refine item_K (by k_asm) (by k_mem) (by decide) (by decide) (by exact rfl) ?_ (by with_unfolding_all rfl) (by kmk_pure)))))
  (k_with "call builtin:str.replace" => ((k_here; (refine replace_K (by first | omega | (simp; done) | (simp; omega)) (by first | omega | (simp; done) | (simp; omega)) (by first | omega | (simp; done) | (simp; omega)) (by k_extra "mine_yz") (by k_extra "mine_xl") (by k_extra "mine_zl") ?_); intro rr tr kr hrr)))
  (k_with "pyIter ref" => ((k_extra "mine_halt"; refine Halt.mk ?_)))
  (k_with "subscriptTail Name BinOp ref int" => (k_extra "mine_itemB"))
  (k_with "InvEndN" => ((k_extra "mine_halt"; refine Halt.mk ?_)))
  (k_with "binaryOp Add str str" => (k_extra "mine_addS"))
  (k_with "mine_kend2" => ((rename News _ _ _ _ => nE'; rename Fr _ _ _ _ => fE'; (try simp only [List.push_toArray] at nE'); refine' kst_end (_, _) fE' nE' (by first | kst_in | kst_inAny) (by first | (intro p hp; kst_mem) | kst_anyIn) (by rfl) (by k_extra "mine_facts") (by kst_all) (by kst_same) (by ((try dsimp only); k_extra "mine_end")))))
  (k_with "mine_kend3" => ((rename News _ _ _ _ => nE'; rename Fr _ _ _ _ => fE'; (try simp only [List.push_toArray] at nE'); refine' kst_end (_, _, _) fE' nE' (by first | kst_in | kst_inAny) (by first | (intro p hp; kst_mem) | kst_anyIn) (by rfl) (by k_extra "mine_facts") (by kst_all) (by kst_same) (by ((try dsimp only); k_extra "mine_end")))))
  (k_with "mine_kend5" => ((rename News _ _ _ _ => nE'; rename Fr _ _ _ _ => fE'; (try simp only [List.push_toArray] at nE'); refine' kst_end (_, _, _, _, _) fE' nE' (by first | kst_in | kst_inAny) (by first | (intro p hp; kst_mem) | kst_anyIn) (by rfl) (by k_extra "mine_facts") (by kst_all) (by kst_same) (by ((try dsimp only); k_extra "mine_end")))))
  (k_with "exec While" => ((k_extra "mine_halt"; refine Halt.mk ?_)))
  (k_with "KswEnd" => ((k_extra "mine_halt"; refine Halt.mk ?_)))
  (k_with "mine_wend2" => ((rename News _ _ _ _ => nE'; rename Fr _ _ _ _ => fE'; (try simp only [List.push_toArray] at nE'); refine' ksw_end (_, _) fE' nE' (by first | kst_in | kst_inAny) (by k_extra "mine_facts") (by kst_all) (by ksw_same) (by ((try dsimp only); k_extra "mine_end")) (by ((try dsimp only); k_extra "mine_less")))))
  (k_with "mine_wend6" => ((rename News _ _ _ _ => nE'; rename Fr _ _ _ _ => fE'; (try simp only [List.push_toArray] at nE'); refine' ksw_end (_, _, _, _, _, _) fE' nE' (by first | kst_in | kst_inAny) (by k_extra "mine_facts") (by kst_all) (by ksw_same) (by ((try dsimp only); k_extra "mine_end")) (by ((try dsimp only); k_extra "mine_less")))))
  (k_with "ExitW" => ((k_extra "mine_halt"; refine Halt.mk ?_)))
  (k_with "eval Subscript" => (k_extra "mine_evalS"))
  (k_with "mine_xend2" => ((rename News _ _ _ _ => nE'; rename Fr _ _ _ _ => fE'; (try simp only [List.push_toArray] at nE'); refine' exit_end (_, _) fE' nE' (by first | kst_in | kst_inAny) (by k_extra "mine_facts") (by kst_all) (by ksw_same) (by ((try dsimp only); k_extra "mine_done")))))
  (k_with "mine_xend4" => ((rename News _ _ _ _ => nE'; rename Fr _ _ _ _ => fE'; (try simp only [List.push_toArray] at nE'); refine' exit_end (_, _, _, _) fE' nE' (by first | kst_in | kst_inAny) (by k_extra "mine_facts") (by kst_all) (by ksw_same) (by ((try dsimp only); k_extra "mine_done")))))
  (k_with "subscriptTail Name Slice str ref" => (((with_reducible show wpAny _ _ (subscriptTail _ (Expr.Slice none (some (Expr.BoolOp _ _ _)) none _) _ _) _ _ _); (with_reducible rename Fr _ _ _ _ => F'); (with_reducible rename News _ _ _ _ => N'); (first | (refine slice_strN_nn_len (s := ⟨_, _, _, _, _⟩) F' N' ?_) | (refine slice_strN_ns_len (s := ⟨_, _, _, _, _⟩) F' N' ?_)); intro _ _ _ _ _ _)))
  (k_with "mine_steps" => (repeat' (first | (k_unfold; (try dsimp only)) | walk1 | (dsimp only; walk1) | (leave1; walk_say "STEP leave1"; try dsimp only) | fail "no step")))
  (k_with "call type:list" => ((k_here; (with_reducible show wpAny _ _ (call (Value.type "list") [Value.ref _]) _ _ _); k_dflt (refine' listRange2_K (by rfl) (by k_asm) (by k_asm) (by assumption) (by omega) ?_); intro Dr yr er hr kr Fr' Nr' lr' Ir; (try k_lt lr'); (try dsimp only); (try k_sweep))))
  (k_with "mine_kend9" => ((rename News _ _ _ _ => nE'; rename Fr _ _ _ _ => fE'; (try simp only [List.push_toArray] at nE'); refine' kst_end (_, _, _, _, _, _, _, _, _) fE' nE' (by first | kst_in | kst_inAny) (by first | (intro p hp; kst_mem) | kst_anyIn) (by rfl) (by k_extra "mine_facts") (by kst_all) (by kst_same) (by ((try dsimp only); k_extra "mine_end")))))
  (k_with "setItem ref int" => ((k_here; (with_reducible show wpAny _ _ (setItem (Value.ref _) (Value.int _ _) (Value.int _ _)) _ _ _); k_dflt (refine' ksa_set (by k_asm) (by k_asm) (by (refine' Upd.head (by k_extra "mine_off"))) (by with_reducible assumption) (by ksa_idx) (by ksa_idx) (by ksa_idx) ?_; k_whole); intro h' F' N' I' lI' sI'; (try clear sI'); (try dsimp only at N'); (try k_sweep))))
  (k_with "mine_room" => (first | exact room_g (by with_reducible assumption) (by decide) | ktr_room))
  (k_with "mine_units" => (first | exact units_g (by with_reducible assumption) (by decide) | ktr_units))
  (k_with "getMethod ref" => (((with_reducible first | (show wpAny _ _ (getMethod (Value.ref 85) _ _) _ _ _) | (show wpAny _ _ (getMethod (Value.ref 90) _ _) _ _ _)); first | refine getMethod_sub ((pat1_of (by assumption)).keep (Fr.keep (by with_reducible assumption))) ?_ | refine getMethod_sub ((pat2_of (by assumption)).keep (Fr.keep (by with_reducible assumption))) ?_)))
  (k_with "call builtin:re.Pattern.sub" => ((k_here; (first | refine sub2_W (by k_asm) (by k_asm) (pat2_of (by assumption)) (by decide +kernel) ?_ ?_ | refine sub1_W (by k_asm) (by k_asm) (pat1_of (by assumption)) (by decide +kernel) ?_ ?_); (focus omega); intro zq tq hq kq hzq hlq Fq Nq)))
  walk_at "mine_steps"
  rename Kept _ _ _ => hK
  rename News _ _ _ _ => kN
  rename Fr _ _ _ _ => kF
  rename lst _ = dotsS _ _ => hz1
  rename lst _ = normS _ _ => hz2
  rw [hz2] at hz1
  exact hret _ [] _ _ ⟨_, _, rfl, rfl, hz1, by omega⟩ kF (kept_news (nw := []) (by assumption) hsub hK kN (by walk_at "mine_sub"))
end
section
theorem c_sent (w : World) (mean : ExcName → Option Value) (mg mb : Str → Option Value) (news : Led) (ld lr : Addr) (n nr : Nat) (d0 d1 d2 d3 d4 d5 : Int) (t0 t1 t2 t3 t4 t5 : Tok) (y0 y1 y2 y3 y4 : Str) (u0 u1 u2 u3 u4 : Tok) (hl : (ld, listOf [Value.int d0 t0, .int d1 t1, .int d2 t2, .int d3 t3, .int d4 t4, .int d5 t5].toArray n) ∈ news) (hr : (lr, listOf [Value.str y0 u0, .str y1 u1, .str y2 u2, .str y3 u3, .str y4 u4].toArray nr) ∈ news) (hy : ∀ r ∈ [y0, y1, y2, y3, y4], r.length ≤ 10) :
    Ctr w mean mg mb 121 [.ref ld, .ref lr] news (fun v nw => ∃ (l' : Addr) (items : List Value) (ep : Nat) (x : Str), v = .ref l' ∧ nw = [(l', listOf items.toArray ep)] ∧ StrsAre items (Txt.split x (Str.ofString "\r\n")) ∧ lst x = itq (1 + (d4.fdiv 8).fmod 2).toNat (lst (mailF [d0, d1, d2, d3, d4, d5] [y0, y1, y2, y3, y4] 4))) := by
  k_with_none
  (k_with "mine_in" => (first | exact List.Mem.head _ | (refine List.Mem.tail _ ?_; walk_at "mine_in")))
  (k_with "mine_sub" => (first | exact sub_refl | (refine sub_cons (by walk_at "mine_in") (by walk_at "mine_sub")) | (refine sub_tail ?_; walk_at "mine_sub") | exact List.forall_mem_nil _))
  (k_with "subscriptTail Name Slice ref ref" => ((k_here; (with_reducible show wpAny _ _ (subscriptTail _ (PySem.Expr.Slice (some _) none none _) (Value.ref _) (Value.ref _)) _ _ _); k_dflt (refine' sliceFrom_K (by k_asm) (by k_asm) (by kmk_list) (by l_ints) ?_ (by with_unfolding_all rfl) (by kmk_pure) (by kmk_size)); intro D' ws' h' F' N' l1 hI'; (try k_lt l1); (try k_sweep))))
  (k_with "subscriptTail List" => ((k_here; (with_reducible show wpAny _ _ (subscriptTail _ (PySem.Expr.Slice (some _) none none _) (Value.ref _) (Value.ref _)) _ _ _); k_dflt (refine' sliceFrom_K (by k_asm) (by k_asm) (by kmk_list) (by l_ints) ?_ (by with_unfolding_all rfl) (by kmk_pure) (by kmk_size)); intro D' ws' h' F' N' l1 hI'; (try k_lt l1); (try k_sweep))))
  (k_with "binaryOp Add" => ((k_here; (with_reducible show wpAny _ _ (binaryOp _ (Value.ref _) (Value.ref _)) _ _ _); k_dflt (refine' add_K (by k_asm) (by k_asm) (by k_mem) (by k_mem) ?_ (by walk_at "mine_add_size")); intro l' h' F' N' l1; (try k_lt l1); (try k_sweep))))
  (k_with "binaryOp Mult int int" => ((k_here; (with_reducible refine mul_int ?_ (sz_mul (by with_reducible assumption) (by with_reducible assumption))))))
  (k_with "binaryOp FloorDiv int int" => ((k_here; (with_reducible refine floordiv_int (by with_reducible assumption) ?_ (Or.inl (sz_py (by with_reducible assumption)))))))
  (k_with "subscriptTail Name Constant ref int" => ((k_here; (with_reducible show wpAny _ _ (subscriptTail _ _ (Value.ref _) (Value.int _ _)) _ _ _); k_dflt (refine item_K (by k_asm) (by k_mem) (by decide) (by decide) (by exact rfl) ?_ (by with_unfolding_all rfl) (by kmk_pure)))))
  (k_with "subscriptTail Name Name ref int" => ((k_here; (with_reducible show wpAny _ _ (subscriptTail _ _ (Value.ref _) (Value.int _ _)) _ _ _); k_dflt (refine item_K (by k_asm) (by k_mem) (by decide) (by decide) (by exact rfl) ?_ (by with_unfolding_all rfl) (by kmk_pure)))))
  (k_with "call builtin:str.replace" => ((k_here; (refine replace_K (by first | omega | (simp; done) | (simp; omega)) (by first | omega | (simp; done) | (simp; omega)) (by first | omega | (simp; done) | (simp; omega)) (by k_extra "mine_yz") (by k_extra "mine_xl") (by k_extra "mine_zl") ?_); intro rr tr kr hrr)))
  (k_with "pyIter ref" => ((k_extra "mine_halt"; refine Halt.mk ?_)))
  (k_with "subscriptTail Name BinOp ref int" => (k_extra "mine_itemB"))
  (k_with "InvEndN" => ((k_extra "mine_halt"; refine Halt.mk ?_)))
  (k_with "binaryOp Add str str" => (k_extra "mine_addS"))
  (k_with "mine_kend2" => ((rename News _ _ _ _ => nE'; rename Fr _ _ _ _ => fE'; (try simp only [List.push_toArray] at nE'); refine' kst_end (_, _) fE' nE' (by first | kst_in | kst_inAny) (by first | (intro p hp; kst_mem) | kst_anyIn) (by rfl) (by k_extra "mine_facts") (by kst_all) (by kst_same) (by ((try dsimp only); k_extra "mine_end")))))
  (k_with "mine_kend3" => ((rename News _ _ _ _ => nE'; rename Fr _ _ _ _ => fE'; (try simp only [List.push_toArray] at nE'); refine' kst_end (_, _, _) fE' nE' (by first | kst_in | kst_inAny) (by first | (intro p hp; kst_mem) | kst_anyIn) (by rfl) (by k_extra "mine_facts") (by kst_all) (by kst_same) (by ((try dsimp only); k_extra "mine_end")))))
  (k_with "mine_kend5" => ((rename News _ _ _ _ => nE'; rename Fr _ _ _ _ => fE'; (try simp only [List.push_toArray] at nE'); refine' kst_end (_, _, _, _, _) fE' nE' (by first | kst_in | kst_inAny) (by first | (intro p hp; kst_mem) | kst_anyIn) (by rfl) (by k_extra "mine_facts") (by kst_all) (by kst_same) (by ((try dsimp only); k_extra "mine_end")))))
  (k_with "exec While" => ((k_extra "mine_halt"; refine Halt.mk ?_)))
  (k_with "KswEnd" => ((k_extra "mine_halt"; refine Halt.mk ?_)))
  (k_with "mine_wend2" => ((rename News _ _ _ _ => nE'; rename Fr _ _ _ _ => fE'; (try simp only [List.push_toArray] at nE'); refine' ksw_end (_, _) fE' nE' (by first | kst_in | kst_inAny) (by k_extra "mine_facts") (by kst_all) (by ksw_same) (by ((try dsimp only); k_extra "mine_end")) (by ((try dsimp only); k_extra "mine_less")))))
  (k_with "mine_wend6" => ((rename News _ _ _ _ => nE'; rename Fr _ _ _ _ => fE'; (try simp only [List.push_toArray] at nE'); refine' ksw_end (_, _, _, _, _, _) fE' nE' (by first | kst_in | kst_inAny) (by k_extra "mine_facts") (by kst_all) (by ksw_same) (by ((try dsimp only); k_extra "mine_end")) (by ((try dsimp only); k_extra "mine_less")))))
  (k_with "ExitW" => ((k_extra "mine_halt"; refine Halt.mk ?_)))
  (k_with "eval Subscript" => (k_extra "mine_evalS"))
  (k_with "mine_xend2" => ((rename News _ _ _ _ => nE'; rename Fr _ _ _ _ => fE'; (try simp only [List.push_toArray] at nE'); refine' exit_end (_, _) fE' nE' (by first | kst_in | kst_inAny) (by k_extra "mine_facts") (by kst_all) (by ksw_same) (by ((try dsimp only); k_extra "mine_done")))))
  (k_with "mine_xend4" => ((rename News _ _ _ _ => nE'; rename Fr _ _ _ _ => fE'; (try simp only [List.push_toArray] at nE'); refine' exit_end (_, _, _, _) fE' nE' (by first | kst_in | kst_inAny) (by k_extra "mine_facts") (by kst_all) (by ksw_same) (by ((try dsimp only); k_extra "mine_done")))))
  (k_with "subscriptTail Name Slice str ref" => (((with_reducible show wpAny _ _ (subscriptTail _ (Expr.Slice none (some (Expr.BoolOp _ _ _)) none _) _ _) _ _ _); (with_reducible rename Fr _ _ _ _ => F'); (with_reducible rename News _ _ _ _ => N'); (first | (refine slice_strN_nn_len (s := ⟨_, _, _, _, _⟩) F' N' ?_) | (refine slice_strN_ns_len (s := ⟨_, _, _, _, _⟩) F' N' ?_)); intro _ _ _ _ _ _)))
  (k_with "mine_steps" => (repeat' (first | (k_unfold; (try dsimp only)) | walk1 | (dsimp only; walk1) | (leave1; walk_say "STEP leave1"; try dsimp only) | fail "no step")))
  (k_with "call type:list" => ((k_here; (with_reducible show wpAny _ _ (call (Value.type "list") [Value.ref _]) _ _ _); k_dflt (refine' listRange2_K (by rfl) (by k_asm) (by k_asm) (by assumption) (by omega) ?_); intro Dr yr er hr kr Fr' Nr' lr' Ir; (try k_lt lr'); (try dsimp only); (try k_sweep))))
  (k_with "mine_kend9" => ((rename News _ _ _ _ => nE'; rename Fr _ _ _ _ => fE'; (try simp only [List.push_toArray] at nE'); refine' kst_end (_, _, _, _, _, _, _, _, _) fE' nE' (by first | kst_in | kst_inAny) (by first | (intro p hp; kst_mem) | kst_anyIn) (by rfl) (by k_extra "mine_facts") (by kst_all) (by kst_same) (by ((try dsimp only); k_extra "mine_end")))))
  (k_with "setItem ref int" => ((k_here; (with_reducible show wpAny _ _ (setItem (Value.ref _) (Value.int _ _) (Value.int _ _)) _ _ _); k_dflt (refine' ksa_set (by k_asm) (by k_asm) (by (refine' Upd.head (by k_extra "mine_off"))) (by with_reducible assumption) (by ksa_idx) (by ksa_idx) (by ksa_idx) ?_; k_whole); intro h' F' N' I' lI' sI'; (try clear sI'); (try dsimp only at N'); (try k_sweep))))
  (k_with "mine_room" => (first | exact room_g (by with_reducible assumption) (by decide) | ktr_room))
  (k_with "mine_units" => (first | exact units_g (by with_reducible assumption) (by decide) | ktr_units))
  (k_with "getMethod ref" => (((with_reducible first | (show wpAny _ _ (getMethod (Value.ref 85) _ _) _ _ _) | (show wpAny _ _ (getMethod (Value.ref 90) _ _) _ _ _)); first | refine getMethod_sub ((pat1_of (by assumption)).keep (Fr.keep (by with_reducible assumption))) ?_ | refine getMethod_sub ((pat2_of (by assumption)).keep (Fr.keep (by with_reducible assumption))) ?_)))
  (k_with "call builtin:re.Pattern.sub" => ((k_here; (first | refine sub2_W (by k_asm) (by k_asm) (pat2_of (by assumption)) (by decide +kernel) ?_ ?_ | refine sub1_W (by k_asm) (by k_asm) (pat1_of (by assumption)) (by decide +kernel) ?_ ?_); (focus omega); intro zq tq hq kq hzq hlq Fq Nq)))
  (k_with "call ref" => ((k_here; (with_reducible show wpAny _ _ (call (Value.ref 97) [Value.str _ _] []) _ _ _); k_dflt (refine c_quote _ _ _ _ _ _ _ (by k_extra "mine_quo") _ _ _ _ _ _ _ _ _ _ _ _ _ _ _ _ _ (by k_asm) (by k_asm) (by k_asm) (by k_asm) (by k_asm) (by first | exact rfl | assumption) (by walk_at "mine_room") (by walk_at "mine_units") ?_); (intro v9 nw9 h9 tk9 hp9 F9 N9); (obtain ⟨z9, t9, e9, e9n, hz9, hq9⟩ := hp9); (subst e9); (subst e9n); (try simp only [List.nil_append] at N9); (try dsimp only); (try k_fold))))
  (k_with "mine_itemL" => (((with_reducible show wpAny _ _ (subscriptTail _ (PySem.Expr.BinOp _ PySem.Operator.Mod _ _) _ _) _ _ _); (refine kba_turn (value' := PySem.Expr.Name (PySem.Str.ofString "_") ⟨0, 0, 0, 0⟩) (fun _ => rfl) ?_); (refine' itemS_K (ss := feeds) (by k_asm) (by k_mem) (by exact .cons _ _ (.cons _ _ (.cons _ _ .nil))) (by exact fmod_lo _ (by decide)) (by exact fmod_hi _ (by decide)) (by exact Int.lt_of_lt_of_le (fmod_hi _ (by decide)) (by decide)) ?_ (by with_unfolding_all rfl) (by kmk_pure); intro ya yt hya hyam))))
  (k_with "mine_itemR" => (((with_reducible show wpAny _ _ (subscriptTail _ (PySem.Expr.BinOp _ PySem.Operator.Add _ _) _ _) _ _ _); (refine' itemS_K (by k_asm) (by k_mem) (StrsAre.cons _ _ (.cons _ _ (.cons _ _ (.cons _ _ (.cons _ _ .nil))))) (by omega) (by (simp only [List.length_cons, List.length_nil]; omega)) (by omega) ?_ (by with_unfolding_all rfl) (by kmk_pure); intro ya yt hya hyam))))
  (k_with "subscriptTail List" => (k_extra "mine_itemB"))
  (k_with "call builtin:str.split" => ((k_here; (refine split_K (by k_asm) (by k_asm) (by decide +kernel) ?_ ?_); (focus k_extra "mine_spl"); intro Ds vs hs ks Is ls Fs Ns; (try k_lt ls); (try dsimp only))))
  unfold Ctr CtrN
  k_fill
  intros; rename_i hret
  refine wpAny_call ?_
  have hsub : ∀ qq ∈ ([(ld, listOf [Value.int d0 t0, .int d1 t1, .int d2 t2, .int d3 t3, .int d4 t4, .int d5 t5].toArray n), (lr, listOf [Value.str y0 u0, .str y1 u1, .str y2 u2, .str y3 u3, .str y4 u4].toArray nr)] : Led), qq ∈ news := by
    simp only [List.mem_cons, List.not_mem_nil, or_false, forall_eq_or_imp, forall_eq, false_or, false_implies, implies_true]
    first | done | assumption | (refine ⟨?_, ?_⟩ <;> assumption) | (refine ⟨?_, ?_, ?_⟩ <;> assumption)
  k_dflt (refine' enterS (binds := [(Str.ofString "drawn", .ref ld), (Str.ofString "rows", .ref lr)]) (news₁ := [(ld, listOf [Value.int d0 t0, .int d1 t1, .int d2 t2, .int d3 t3, .int d4 t4, .int d5 t5].toArray n), (lr, listOf [Value.str y0 u0, .str y1 u1, .str y2 u2, .str y3 u3, .str y4 u4].toArray nr)]) ?k1 ?k2 ?k3 ?k4 ?k5 ?kA ?kF ?kK ?k6 ?k7 ?k8 ?k9 ?kB ?kS ?_ ?c2 ?c3 ?c4 ?c5; (case kA => exact rfl); (case kF => exact rfl); (case kK => assumption); (case k1 => k_asm); (case k2 => k_asm); (case k3 => k_asm); (case k4 => k_asm); (case k5 => k_asm); (case k6 => k_is); (case k7 => k_is); (case k8 => ktr_room); (case k9 => exact BindsTo.of_eq rfl); (case kS => assumption); (case c5 => decide); (case kB => exact locs rfl); (case c2 => exact rfl); (case c3 => exact rfl); (case c4 => exact rfl); k_whole)
  intro g' L' h' F' N' B' X' T'
  (try dsimp only)
  (try k_lift B')
  (try k_fold)
  k_with_none
  (k_with "mine_in" => (first | exact List.Mem.head _ | (refine List.Mem.tail _ ?_; walk_at "mine_in")))
  (k_with "mine_sub" => (first | exact sub_refl | (refine sub_cons (by walk_at "mine_in") (by walk_at "mine_sub")) | (refine sub_tail ?_; walk_at "mine_sub") | exact List.forall_mem_nil _))
  (k_with "subscriptTail Name Slice ref ref" => ((k_here; (with_reducible show wpAny _ _ (subscriptTail _ (PySem.Expr.Slice (some _) none none _) (Value.ref _) (Value.ref _)) _ _ _); k_dflt (refine' sliceFrom_K (by k_asm) (by k_asm) (by kmk_list) (by l_ints) ?_ (by with_unfolding_all rfl) (by kmk_pure) (by kmk_size)); intro D' ws' h' F' N' l1 hI'; (try k_lt l1); (try k_sweep))))
  (k_with "subscriptTail List" => ((k_here; (with_reducible show wpAny _ _ (subscriptTail _ (PySem.Expr.Slice (some _) none none _) (Value.ref _) (Value.ref _)) _ _ _); k_dflt (refine' sliceFrom_K (by k_asm) (by k_asm) (by kmk_list) (by l_ints) ?_ (by with_unfolding_all rfl) (by kmk_pure) (by kmk_size)); intro D' ws' h' F' N' l1 hI'; (try k_lt l1); (try k_sweep))))
  (k_with "binaryOp Add" => ((k_here; (with_reducible show wpAny _ _ (binaryOp _ (Value.ref _) (Value.ref _)) _ _ _); k_dflt (refine' add_K (by k_asm) (by k_asm) (by k_mem) (by k_mem) ?_ (by walk_at "mine_add_size")); intro l' h' F' N' l1; (try k_lt l1); (try k_sweep))))
  (k_with "binaryOp Mult int int" => ((k_here; (with_reducible refine mul_int ?_ (sz_mul (by with_reducible assumption) (by with_reducible assumption))))))
  (k_with "binaryOp FloorDiv int int" => ((k_here; (with_reducible refine floordiv_int (by with_reducible assumption) ?_ (Or.inl (sz_py (by with_reducible assumption)))))))
  (k_with "subscriptTail Name Constant ref int" => ((k_here; (with_reducible show wpAny _ _ (subscriptTail _ _ (Value.ref _) (Value.int _ _)) _ _ _); k_dflt (refine item_K (by k_asm) (by k_mem) (by decide) (by decide) (by exact rfl) ?_ (by with_unfolding_all rfl) (by kmk_pure)))))
  (k_with "subscriptTail Name Name ref int" => ((k_here; (with_reducible show wpAny _ _ (subscriptTail _ _ (Value.ref _) (Value.int _ _)) _ _ _); k_dflt (refine item_K (by k_asm) (by k_mem) (by decide) (by decide) (by exact rfl) ?_ (by with_unfolding_all rfl) (by kmk_pure)))))
  (k_with "call builtin:str.replace" => ((k_here; (refine replace_K (by first | omega | (simp; done) | (simp; omega)) (by first | omega | (simp; done) | (simp; omega)) (by first | omega | (simp; done) | (simp; omega)) (by k_extra "mine_yz") (by k_extra "mine_xl") (by k_extra "mine_zl") ?_); intro rr tr kr hrr)))
  (k_with "pyIter ref" => ((k_extra "mine_halt"; refine Halt.mk ?_)))
  (k_with "subscriptTail Name BinOp ref int" => (k_extra "mine_itemB"))
  (k_with "InvEndN" => ((k_extra "mine_halt"; refine Halt.mk ?_)))
  (k_with "binaryOp Add str str" => (k_extra "mine_addS"))
  (k_with "mine_kend2" => ((rename News _ _ _ _ => nE'; rename Fr _ _ _ _ => fE'; (try simp only [List.push_toArray] at nE'); refine' kst_end (_, _) fE' nE' (by first | kst_in | kst_inAny) (by first | (intro p hp; kst_mem) | kst_anyIn) (by rfl) (by k_extra "mine_facts") (by kst_all) (by kst_same) (by ((try dsimp only); k_extra "mine_end")))))
  (k_with "mine_kend3" => ((rename News _ _ _ _ => nE'; rename Fr _ _ _ _ => fE'; (try simp only [List.push_toArray] at nE'); refine' kst_end (_, _, _) fE' nE' (by first | kst_in | kst_inAny) (by first | (intro p hp; kst_mem) | kst_anyIn) (by rfl) (by k_extra "mine_facts") (by kst_all) (by kst_same) (by ((try dsimp only); k_extra "mine_end")))))
  (k_with "mine_kend5" => ((rename News _ _ _ _ => nE'; rename Fr _ _ _ _ => fE'; (try simp only [List.push_toArray] at nE'); refine' kst_end (_, _, _, _, _) fE' nE' (by first | kst_in | kst_inAny) (by first | (intro p hp; kst_mem) | kst_anyIn) (by rfl) (by k_extra "mine_facts") (by kst_all) (by kst_same) (by ((try dsimp only); k_extra "mine_end")))))
  (k_with "exec While" => ((k_extra "mine_halt"; refine Halt.mk ?_)))
  (k_with "KswEnd" => ((k_extra "mine_halt"; refine Halt.mk ?_)))
  (k_with "mine_wend2" => ((rename News _ _ _ _ => nE'; rename Fr _ _ _ _ => fE'; (try simp only [List.push_toArray] at nE'); refine' ksw_end (_, _) fE' nE' (by first | kst_in | kst_inAny) (by k_extra "mine_facts") (by kst_all) (by ksw_same) (by ((try dsimp only); k_extra "mine_end")) (by ((try dsimp only); k_extra "mine_less")))))
  (k_with "mine_wend6" => ((rename News _ _ _ _ => nE'; rename Fr _ _ _ _ => fE'; (try simp only [List.push_toArray] at nE'); refine' ksw_end (_, _, _, _, _, _) fE' nE' (by first | kst_in | kst_inAny) (by k_extra "mine_facts") (by kst_all) (by ksw_same) (by ((try dsimp only); k_extra "mine_end")) (by ((try dsimp only); k_extra "mine_less")))))
  (k_with "ExitW" => ((k_extra "mine_halt"; refine Halt.mk ?_)))
  (k_with "eval Subscript" => (k_extra "mine_evalS"))
  (k_with "mine_xend2" => ((rename News _ _ _ _ => nE'; rename Fr _ _ _ _ => fE'; (try simp only [List.push_toArray] at nE'); refine' exit_end (_, _) fE' nE' (by first | kst_in | kst_inAny) (by k_extra "mine_facts") (by kst_all) (by ksw_same) (by ((try dsimp only); k_extra "mine_done")))))
  (k_with "mine_xend4" => ((rename News _ _ _ _ => nE'; rename Fr _ _ _ _ => fE'; (try simp only [List.push_toArray] at nE'); refine' exit_end (_, _, _, _) fE' nE' (by first | kst_in | kst_inAny) (by k_extra "mine_facts") (by kst_all) (by ksw_same) (by ((try dsimp only); k_extra "mine_done")))))
  (k_with "subscriptTail Name Slice str ref" => (((with_reducible show wpAny _ _ (subscriptTail _ (Expr.Slice none (some (Expr.BoolOp _ _ _)) none _) _ _) _ _ _); (with_reducible rename Fr _ _ _ _ => F'); (with_reducible rename News _ _ _ _ => N'); (first | (refine slice_strN_nn_len (s := ⟨_, _, _, _, _⟩) F' N' ?_) | (refine slice_strN_ns_len (s := ⟨_, _, _, _, _⟩) F' N' ?_)); intro _ _ _ _ _ _)))
  (k_with "mine_steps" => (repeat' (first | (k_unfold; (try dsimp only)) | walk1 | (dsimp only; walk1) | (leave1; walk_say "STEP leave1"; try dsimp only) | fail "no step")))
  (k_with "call type:list" => ((k_here; (with_reducible show wpAny _ _ (call (Value.type "list") [Value.ref _]) _ _ _); k_dflt (refine' listRange2_K (by rfl) (by k_asm) (by k_asm) (by assumption) (by omega) ?_); intro Dr yr er hr kr Fr' Nr' lr' Ir; (try k_lt lr'); (try dsimp only); (try k_sweep))))
  (k_with "mine_kend9" => ((rename News _ _ _ _ => nE'; rename Fr _ _ _ _ => fE'; (try simp only [List.push_toArray] at nE'); refine' kst_end (_, _, _, _, _, _, _, _, _) fE' nE' (by first | kst_in | kst_inAny) (by first | (intro p hp; kst_mem) | kst_anyIn) (by rfl) (by k_extra "mine_facts") (by kst_all) (by kst_same) (by ((try dsimp only); k_extra "mine_end")))))
  (k_with "setItem ref int" => ((k_here; (with_reducible show wpAny _ _ (setItem (Value.ref _) (Value.int _ _) (Value.int _ _)) _ _ _); k_dflt (refine' ksa_set (by k_asm) (by k_asm) (by (refine' Upd.head (by k_extra "mine_off"))) (by with_reducible assumption) (by ksa_idx) (by ksa_idx) (by ksa_idx) ?_; k_whole); intro h' F' N' I' lI' sI'; (try clear sI'); (try dsimp only at N'); (try k_sweep))))
  (k_with "mine_room" => (first | exact room_g (by with_reducible assumption) (by decide) | ktr_room))
  (k_with "mine_units" => (first | exact units_g (by with_reducible assumption) (by decide) | ktr_units))
  (k_with "getMethod ref" => (((with_reducible first | (show wpAny _ _ (getMethod (Value.ref 85) _ _) _ _ _) | (show wpAny _ _ (getMethod (Value.ref 90) _ _) _ _ _)); first | refine getMethod_sub ((pat1_of (by assumption)).keep (Fr.keep (by with_reducible assumption))) ?_ | refine getMethod_sub ((pat2_of (by assumption)).keep (Fr.keep (by with_reducible assumption))) ?_)))
  (k_with "call builtin:re.Pattern.sub" => ((k_here; (first | refine sub2_W (by k_asm) (by k_asm) (pat2_of (by assumption)) (by decide +kernel) ?_ ?_ | refine sub1_W (by k_asm) (by k_asm) (pat1_of (by assumption)) (by decide +kernel) ?_ ?_); (focus omega); intro zq tq hq kq hzq hlq Fq Nq)))
  (k_with "call ref" => ((k_here; (with_reducible show wpAny _ _ (call (Value.ref 97) [Value.str _ _] []) _ _ _); k_dflt (refine c_quote _ _ _ _ _ _ _ (by k_extra "mine_quo") _ _ _ _ _ _ _ _ _ _ _ _ _ _ _ _ _ (by k_asm) (by k_asm) (by k_asm) (by k_asm) (by k_asm) (by first | exact rfl | assumption) (by walk_at "mine_room") (by walk_at "mine_units") ?_); (intro v9 nw9 h9 tk9 hp9 F9 N9); (obtain ⟨z9, t9, e9, e9n, hz9, hq9⟩ := hp9); (subst e9); (subst e9n); (try simp only [List.nil_append] at N9); (try dsimp only); (try k_fold))))
  (k_with "mine_itemL" => (((with_reducible show wpAny _ _ (subscriptTail _ (PySem.Expr.BinOp _ PySem.Operator.Mod _ _) _ _) _ _ _); (refine kba_turn (value' := PySem.Expr.Name (PySem.Str.ofString "_") ⟨0, 0, 0, 0⟩) (fun _ => rfl) ?_); (refine' itemS_K (ss := feeds) (by k_asm) (by k_mem) (by exact .cons _ _ (.cons _ _ (.cons _ _ .nil))) (by exact fmod_lo _ (by decide)) (by exact fmod_hi _ (by decide)) (by exact Int.lt_of_lt_of_le (fmod_hi _ (by decide)) (by decide)) ?_ (by with_unfolding_all rfl) (by kmk_pure); intro ya yt hya hyam))))
  (k_with "mine_itemR" => (((with_reducible show wpAny _ _ (subscriptTail _ (PySem.Expr.BinOp _ PySem.Operator.Add _ _) _ _) _ _ _); (refine' itemS_K (by k_asm) (by k_mem) (StrsAre.cons _ _ (.cons _ _ (.cons _ _ (.cons _ _ (.cons _ _ .nil))))) (by omega) (by (simp only [List.length_cons, List.length_nil]; omega)) (by omega) ?_ (by with_unfolding_all rfl) (by kmk_pure); intro ya yt hya hyam))))
  (k_with "subscriptTail List" => (k_extra "mine_itemB"))
  (k_with "call builtin:str.split" => ((k_here; (refine split_K (by k_asm) (by k_asm) (by decide +kernel) ?_ ?_); (focus k_extra "mine_spl"); intro Ds vs hs ks Is ls Fs Ns; (try k_lt ls); (try dsimp only))))
  (k_with "mine_halt" => skip)
  (k_with "mine_itemB" => first | walk_at "mine_itemL" | walk_at "mine_itemR")
  (k_with "mine_addS" => ((with_reducible first | refine addS_K (mail_sz2' hP hlt (by with_reducible assumption) (by with_reducible assumption) hy (by with_reducible assumption)) ?_ | refine addS_K (mail_sz1 hP hlt (by with_reducible assumption)) ?_); intro ra rt rk hra; (try dsimp only)))
  (k_with "mine_facts" => trivial)
  (k_with "mine_end" => (rw [List.length_append]; exact mail_turn' hP hk (by with_reducible assumption) (by with_reducible assumption) (by with_reducible assumption) (by with_reducible assumption) (by with_reducible assumption) hy (by with_reducible assumption)))
  walk_at "mine_steps"
  unfold Halt
  rename Fr _ _ _ _ => lF'
  rename News _ _ _ _ => lN'
  rename IsRange _ _ _ _ _ _ _ _ => rgX
  with_unfolding_all refine' kst_range (σ := Str × Tok) (n := 4) (fun c => [(ld, listOf [Value.int d0 t0, .int d1 t1, .int d2 t2, .int d3 t3, .int d4 t4, .int d5 t5].toArray n), (lr, listOf [Value.str y0 u0, .str y1 u1, .str y2 u2, .str y3 u3, .str y4 u4].toArray nr)]) (fun c => [(Str.ofString "mail", .str c.1 c.2)]) (fun _ => True) [] (fun pre c => MailP [d0, d1, d2, d3, d4, d5] [y0, y1, y2, y3, y4] pre.length c.1) (_, _) ?q1 rgX ?q2 ?q3 lF' (news_sub lN' (by walk_at "mine_sub")) ?kf ?kk ?kp ?_ ?_
  case q1 => rfl
  case q2 => decide
  case q3 => decide
  case kf => trivial
  case kk => kst_all
  case kp => exact ⟨rfl, hy _ List.mem_cons_self⟩
  · clear lF' lN'
    intro ⟨ml, tm⟩ pre k t u h tk own hk hlt hoff hfacts hP kFr kNews
    have kMark := kstMark
    dsimp only [kstB] at kFr
    dsimp only at kNews hfacts hP
    walk_at "mine_steps"
    all_goals (unfold Halt; walk_at "mine_kend2")
  · clear lF' lN'
    intro ⟨ml, tm⟩ u h tk hfacts hP kFr kNews
    have kMark := kstMark
    dsimp only [kstB] at kFr
    dsimp only at kNews hfacts hP
    have e4 : (rangeKs 0 4).length = 4 := rangeKs_length _ _
    rw [e4] at hP
    have hlo := fmod_lo (d4.fdiv 8) (n := 2) (by decide)
    have hhi := fmod_hi (d4.fdiv 8) (n := 2) (by decide)
    walk_at "mine_steps"
    unfold Halt
    rename Fr _ _ _ _ => lF'
    rename News _ _ _ _ => lN'
    rename IsRange _ _ _ _ _ _ _ _ => rgX
    with_unfolding_all refine' kst_range (σ := Str × Tok) (n := (1 + (d4.fdiv 8).fmod 2).toNat) (fun c => [(ld, listOf [Value.int d0 t0, .int d1 t1, .int d2 t2, .int d3 t3, .int d4 t4, .int d5 t5].toArray n), (lr, listOf [Value.str y0 u0, .str y1 u1, .str y2 u2, .str y3 u3, .str y4 u4].toArray nr)]) (fun c => [(Str.ofString "mail", .str c.1 c.2)]) (fun _ => True) [] (fun pre c => QuoP (lst ml) pre.length c.1) (_, _) ?q1 rgX ?q2 ?q3 lF' (news_sub lN' (by walk_at "mine_sub")) ?kf ?kk ?kp ?_ ?_
    case q1 => rfl
    case q2 => exact small_one (by omega) (by omega) (by omega) (by omega)
    case q3 => rw [rangeSize_nat]; omega
    case kf => trivial
    case kk => kst_all
    case kp => exact ⟨rfl, hP.2⟩
    · clear lF' lN'
      intro ⟨mq, tq⟩ pre k t u h tk own hk hlt hoff hfacts hP2 kFr kNews
      have kMark := kstMark
      dsimp only [kstB] at kFr
      dsimp only at kNews hfacts hP2
      (k_with "mine_quo" => exact quo_len hP2 (by omega))
      (k_with "mine_end" => (rw [List.length_append]; exact quo_turn hP2 (by with_reducible assumption) (by with_reducible assumption)))
      walk_at "mine_steps"
      all_goals (unfold Halt; walk_at "mine_kend2")
    · clear lF' lN'
      intro ⟨mq, tq⟩ u h tk hfacts hP2 kFr kNews
      have kMark := kstMark
      dsimp only [kstB] at kFr
      dsimp only at kNews hfacts hP2
      rw [rangeKs_length] at hP2
      (k_with "mine_spl" => exact quo_len2 hP2 (by omega))
      walk_at "mine_steps"
      rename Kept _ _ _ => hK
      rename News _ _ _ _ => kN
      rename Fr _ _ _ _ => kF
      exact hret _ [(_, _)] _ _ ⟨_, _, _, mq, rfl, rfl, by assumption, by rw [hP2.1, hP.1]⟩ kF (kept_news (by assumption) hsub hK kN (by walk_at "mine_sub"))
end
section
theorem c_pivots (w : World) (mean : ExcName → Option Value) (mg mb : Str → Option Value) (news : Led) (rest : Led) (M : Nat → Nat → Nat → Int) (H : PivH M) (g : Addr) (r : Nat → Addr) (V : Nat → List Value) (e : Nat → Nat) (n : Nat) (hd : DistR g r) (hm : ∀ q ∈ gl g r V e n [], q ∈ news) (hrest : ∀ q ∈ rest, q ∈ news ∧ q.1 ∉ (gl g r V e n []).map (·.1)) (hI : RowsV V (M 0)) :
    CtrR 4 40 w mean mg mb 135 [.ref g] news rest (fun v nw => ∃ (l' : Addr) (items : List Value) (ep : Nat), v = .ref l' ∧ nw = [(l', listOf items.toArray ep)] ∧ IntsAre items (pivs M 4)) := by
  k_with_none
  (k_with "mine_in" => (first | exact List.Mem.head _ | (refine List.Mem.tail _ ?_; walk_at "mine_in")))
  (k_with "mine_sub" => (first | exact sub_refl | (refine sub_cons (by walk_at "mine_in") (by walk_at "mine_sub")) | (refine sub_tail ?_; walk_at "mine_sub") | exact List.forall_mem_nil _))
  (k_with "subscriptTail Name Slice ref ref" => ((k_here; (with_reducible show wpAny _ _ (subscriptTail _ (PySem.Expr.Slice (some _) none none _) (Value.ref _) (Value.ref _)) _ _ _); k_dflt (refine' sliceFrom_K (by k_asm) (by k_asm) (by kmk_list) (by l_ints) ?_ (by with_unfolding_all rfl) (by kmk_pure) (by kmk_size)); intro D' ws' h' F' N' l1 hI'; (try k_lt l1); (try k_sweep))))
  (k_with "subscriptTail List" => ((k_here; (with_reducible show wpAny _ _ (subscriptTail _ (PySem.Expr.Slice (some _) none none _) (Value.ref _) (Value.ref _)) _ _ _); k_dflt (refine' sliceFrom_K (by k_asm) (by k_asm) (by kmk_list) (by l_ints) ?_ (by with_unfolding_all rfl) (by kmk_pure) (by kmk_size)); intro D' ws' h' F' N' l1 hI'; (try k_lt l1); (try k_sweep))))
  (k_with "binaryOp Add" => ((k_here; (with_reducible show wpAny _ _ (binaryOp _ (Value.ref _) (Value.ref _)) _ _ _); k_dflt (refine' add_K (by k_asm) (by k_asm) (by k_mem) (by k_mem) ?_ (by walk_at "mine_add_size")); intro l' h' F' N' l1; (try k_lt l1); (try k_sweep))))
  (k_with "binaryOp Mult int int" => ((k_here; (with_reducible refine mul_int ?_ (sz_mul (by with_reducible assumption) (by with_reducible assumption))))))
  (k_with "binaryOp FloorDiv int int" => ((k_here; (with_reducible refine floordiv_int (by with_reducible assumption) ?_ (Or.inl (sz_py (by with_reducible assumption)))))))
  (k_with "subscriptTail Name Constant ref int" => ((k_here; (with_reducible show wpAny _ _ (subscriptTail _ _ (Value.ref _) (Value.int _ _)) _ _ _); k_dflt (refine item_K (by k_asm) (by k_mem) (by decide) (by decide) (by exact rfl) ?_ (by with_unfolding_all rfl) (by kmk_pure)))))
  (k_with "subscriptTail Name Name ref int" => ((k_here; (with_reducible show wpAny _ _ (subscriptTail _ _ (Value.ref _) (Value.int _ _)) _ _ _); k_dflt (refine item_K (by k_asm) (by k_mem) (by decide) (by decide) (by exact rfl) ?_ (by with_unfolding_all rfl) (by kmk_pure)))))
  (k_with "call builtin:str.replace" => ((k_here; (refine replace_K (by first | omega | (simp; done) | (simp; omega)) (by first | omega | (simp; done) | (simp; omega)) (by first | omega | (simp; done) | (simp; omega)) (by k_extra "mine_yz") (by k_extra "mine_xl") (by k_extra "mine_zl") ?_); intro rr tr kr hrr)))
  (k_with "pyIter ref" => ((k_extra "mine_halt"; refine Halt.mk ?_)))
  (k_with "subscriptTail Name BinOp ref int" => (k_extra "mine_itemB"))
  (k_with "InvEndN" => ((k_extra "mine_halt"; refine Halt.mk ?_)))
  (k_with "binaryOp Add str str" => (k_extra "mine_addS"))
  (k_with "mine_kend2" => ((rename News _ _ _ _ => nE'; rename Fr _ _ _ _ => fE'; (try simp only [List.push_toArray] at nE'); refine' kst_end (_, _) fE' nE' (by first | kst_in | kst_inAny) (by first | (intro p hp; kst_mem) | kst_anyIn) (by rfl) (by k_extra "mine_facts") (by kst_all) (by kst_same) (by ((try dsimp only); k_extra "mine_end")))))
  (k_with "mine_kend3" => ((rename News _ _ _ _ => nE'; rename Fr _ _ _ _ => fE'; (try simp only [List.push_toArray] at nE'); refine' kst_end (_, _, _) fE' nE' (by first | kst_in | kst_inAny) (by first | (intro p hp; kst_mem) | kst_anyIn) (by rfl) (by k_extra "mine_facts") (by kst_all) (by kst_same) (by ((try dsimp only); k_extra "mine_end")))))
  (k_with "mine_kend5" => ((rename News _ _ _ _ => nE'; rename Fr _ _ _ _ => fE'; (try simp only [List.push_toArray] at nE'); refine' kst_end (_, _, _, _, _) fE' nE' (by first | kst_in | kst_inAny) (by first | (intro p hp; kst_mem) | kst_anyIn) (by rfl) (by k_extra "mine_facts") (by kst_all) (by kst_same) (by ((try dsimp only); k_extra "mine_end")))))
  (k_with "exec While" => ((k_extra "mine_halt"; refine Halt.mk ?_)))
  (k_with "KswEnd" => ((k_extra "mine_halt"; refine Halt.mk ?_)))
  (k_with "mine_wend2" => ((rename News _ _ _ _ => nE'; rename Fr _ _ _ _ => fE'; (try simp only [List.push_toArray] at nE'); refine' ksw_end (_, _) fE' nE' (by first | kst_in | kst_inAny) (by k_extra "mine_facts") (by kst_all) (by ksw_same) (by ((try dsimp only); k_extra "mine_end")) (by ((try dsimp only); k_extra "mine_less")))))
  (k_with "mine_wend6" => ((rename News _ _ _ _ => nE'; rename Fr _ _ _ _ => fE'; (try simp only [List.push_toArray] at nE'); refine' ksw_end (_, _, _, _, _, _) fE' nE' (by first | kst_in | kst_inAny) (by k_extra "mine_facts") (by kst_all) (by ksw_same) (by ((try dsimp only); k_extra "mine_end")) (by ((try dsimp only); k_extra "mine_less")))))
  (k_with "ExitW" => ((k_extra "mine_halt"; refine Halt.mk ?_)))
  (k_with "eval Subscript" => (k_extra "mine_evalS"))
  (k_with "mine_xend2" => ((rename News _ _ _ _ => nE'; rename Fr _ _ _ _ => fE'; (try simp only [List.push_toArray] at nE'); refine' exit_end (_, _) fE' nE' (by first | kst_in | kst_inAny) (by k_extra "mine_facts") (by kst_all) (by ksw_same) (by ((try dsimp only); k_extra "mine_done")))))
  (k_with "mine_xend4" => ((rename News _ _ _ _ => nE'; rename Fr _ _ _ _ => fE'; (try simp only [List.push_toArray] at nE'); refine' exit_end (_, _, _, _) fE' nE' (by first | kst_in | kst_inAny) (by k_extra "mine_facts") (by kst_all) (by ksw_same) (by ((try dsimp only); k_extra "mine_done")))))
  (k_with "subscriptTail Name Slice str ref" => (((with_reducible show wpAny _ _ (subscriptTail _ (Expr.Slice none (some (Expr.BoolOp _ _ _)) none _) _ _) _ _ _); (with_reducible rename Fr _ _ _ _ => F'); (with_reducible rename News _ _ _ _ => N'); (first | (refine slice_strN_nn_len (s := ⟨_, _, _, _, _⟩) F' N' ?_) | (refine slice_strN_ns_len (s := ⟨_, _, _, _, _⟩) F' N' ?_)); intro _ _ _ _ _ _)))
  (k_with "mine_steps" => (repeat' (first | (k_unfold; (try dsimp only)) | walk1 | (dsimp only; walk1) | (leave1; walk_say "STEP leave1"; try dsimp only) | fail "no step")))
  (k_with "call type:list" => ((k_here; (with_reducible show wpAny _ _ (call (Value.type "list") [Value.ref _]) _ _ _); k_dflt (refine' listRange2_K (by rfl) (by k_asm) (by k_asm) (by assumption) (by omega) ?_); intro Dr yr er hr kr Fr' Nr' lr' Ir; (try k_lt lr'); (try dsimp only); (try k_sweep))))
  (k_with "mine_kend9" => ((rename News _ _ _ _ => nE'; rename Fr _ _ _ _ => fE'; (try simp only [List.push_toArray] at nE'); refine' kst_end (_, _, _, _, _, _, _, _, _) fE' nE' (by first | kst_in | kst_inAny) (by first | (intro p hp; kst_mem) | kst_anyIn) (by rfl) (by k_extra "mine_facts") (by kst_all) (by kst_same) (by ((try dsimp only); k_extra "mine_end")))))
  (k_with "setItem ref int" => ((k_here; (with_reducible show wpAny _ _ (setItem (Value.ref _) (Value.int _ _) (Value.int _ _)) _ _ _); k_dflt (refine' ksa_set (by k_asm) (by k_asm) (by (refine' Upd.head (by k_extra "mine_off"))) (by with_reducible assumption) (by ksa_idx) (by ksa_idx) (by ksa_idx) ?_; k_whole); intro h' F' N' I' lI' sI'; (try clear sI'); (try dsimp only at N'); (try k_sweep))))
  (k_with "mine_room" => (first | exact room_g (by with_reducible assumption) (by decide) | ktr_room))
  (k_with "mine_units" => (first | exact units_g (by with_reducible assumption) (by decide) | ktr_units))
  (k_with "subscriptTail Subscript Name Name Name ref int" => (k_extra "mine_item2"))
  (k_with "subscriptTail Subscript Name BinOp BinOp ref int" => (k_extra "mine_item2"))
  (k_with "subscriptTail Subscript Name Constant Constant ref int" => (k_extra "mine_item2"))
  (k_with "subscriptTail Name Name ref int" => (k_extra "mine_item2"))
  (k_with "subscriptTail Name BinOp ref int" => (k_extra "mine_item2"))
  (k_with "subscriptTail Name Constant ref int" => (k_extra "mine_item2"))
  (k_with "subscriptTail Subscript" => (k_extra "mine_item2"))
  (k_with "mine_rows" => ((intro a5 ha5; rcases five ha5 with e5 | e5 | e5 | e5 | e5 <;> subst e5 <;> k_mem)))
  (k_with "mine_off" => (first | exact offR_nil | with_reducible assumption | (refine offR_cons ?_ ?_; (focus with_reducible assumption); (focus walk_at "mine_off")) | (refine offR_app ?_ ?_; (focus walk_at "mine_off"); (focus walk_at "mine_off"))))
  (k_with "setItem ref int" => (k_extra "mine_set"))
  (k_with "mine_op2" => (((intro v9 nw9 h9 tk9 hp9 F9 N9); (obtain ⟨t9, e9, e9n⟩ := hp9); (subst e9); (subst e9n); (try simp only [List.nil_append] at N9); (try dsimp only); (try k_fold))))
  (k_with "call ref" => ((k_here; (with_reducible show wpAny _ _ (call (Value.ref 73) [Value.int _ _, Value.int _ _] []) _ _ _); k_dflt (refine c_mul _ _ _ _ _ _ _ _ _ (by k_extra "mine_sz") (by k_extra "mine_sz") _ _ _ _ _ _ _ _ _ _ _ _ _ _ _ _ _ (by k_asm) (by k_asm) (by k_asm) (by k_asm) (by k_asm) (by first | exact rfl | assumption) (by walk_at "mine_room") (by walk_at "mine_units") ?_); walk_at "mine_op2")))
  (k_with "call ref" => ((k_here; (with_reducible show wpAny _ _ (call (Value.ref 80) [Value.int _ _, Value.int _ _] []) _ _ _); k_dflt (refine c_sub2 _ _ _ _ _ _ _ _ _ (by k_extra "mine_sz") (by k_extra "mine_sz") _ _ _ _ _ _ _ _ _ _ _ _ _ _ _ _ _ (by k_asm) (by k_asm) (by k_asm) (by k_asm) (by k_asm) (by first | exact rfl | assumption) (by walk_at "mine_room") (by walk_at "mine_units") ?_); walk_at "mine_op2")))
  (k_with "call ref" => ((k_here; (with_reducible show wpAny _ _ (call (Value.ref 66) [Value.int _ _, Value.int _ _] []) _ _ _); k_dflt (refine c_mod _ _ _ _ _ _ _ _ _ (by k_extra "mine_sz") (by k_extra "mine_sz") (by k_extra "mine_ne") _ _ _ _ _ _ _ _ _ _ _ _ _ _ _ _ _ (by k_asm) (by k_asm) (by k_asm) (by k_asm) (by k_asm) (by first | exact rfl | assumption) (by walk_at "mine_room") (by walk_at "mine_units") ?_); walk_at "mine_op2")))
  (k_with "call ref" => ((k_here; (with_reducible show wpAny _ _ (call (Value.ref 59) [Value.int _ _, Value.int _ _] []) _ _ _); k_dflt (refine c_floordiv _ _ _ _ _ _ _ _ _ (by k_extra "mine_sz") (by k_extra "mine_sz") (by k_extra "mine_ne") _ _ _ _ _ _ _ _ _ _ _ _ _ _ _ _ _ (by k_asm) (by k_asm) (by k_asm) (by k_asm) (by k_asm) (by first | exact rfl | assumption) (by walk_at "mine_room") (by walk_at "mine_units") ?_); walk_at "mine_op2")))
  (k_with "call builtin:list.append" => (k_extra "mine_append"))
  unfold CtrR
  k_fill
  intros; rename_i hret
  refine wpAny_call ?_
  have hsub : ∀ qq ∈ (gl g r V e n [] : Led), qq ∈ news := hm
  k_dflt (refine' enterS (binds := [(Str.ofString "grid", .ref g)]) (news₁ := (gl g r V e n [])) ?k1 ?k2 ?k3 ?k4 ?k5 ?kA ?kF ?kK ?k6 ?k7 ?k8 ?k9 ?kB ?kS ?_ ?c2 ?c3 ?c4 ?c5; (case kA => exact rfl); (case kF => exact rfl); (case kK => assumption); (case k1 => k_asm); (case k2 => k_asm); (case k3 => k_asm); (case k4 => k_asm); (case k5 => k_asm); (case k6 => k_is); (case k7 => k_is); (case k8 => ktr_room); (case k9 => exact BindsTo.of_eq rfl); (case kS => assumption); (case c5 => decide); (case kB => exact locs rfl); (case c2 => exact rfl); (case c3 => exact rfl); (case c4 => exact rfl); k_whole)
  intro g' L' h' F' N' B' X' T'
  (try dsimp only)
  (try k_lift B')
  (try k_fold)
  k_with_none
  (k_with "mine_in" => (first | exact List.Mem.head _ | (refine List.Mem.tail _ ?_; walk_at "mine_in")))
  (k_with "mine_sub" => (first | exact sub_refl | (refine sub_cons (by walk_at "mine_in") (by walk_at "mine_sub")) | (refine sub_tail ?_; walk_at "mine_sub") | exact List.forall_mem_nil _))
  (k_with "subscriptTail Name Slice ref ref" => ((k_here; (with_reducible show wpAny _ _ (subscriptTail _ (PySem.Expr.Slice (some _) none none _) (Value.ref _) (Value.ref _)) _ _ _); k_dflt (refine' sliceFrom_K (by k_asm) (by k_asm) (by kmk_list) (by l_ints) ?_ (by with_unfolding_all rfl) (by kmk_pure) (by kmk_size)); intro D' ws' h' F' N' l1 hI'; (try k_lt l1); (try k_sweep))))
  (k_with "subscriptTail List" => ((k_here; (with_reducible show wpAny _ _ (subscriptTail _ (PySem.Expr.Slice (some _) none none _) (Value.ref _) (Value.ref _)) _ _ _); k_dflt (refine' sliceFrom_K (by k_asm) (by k_asm) (by kmk_list) (by l_ints) ?_ (by with_unfolding_all rfl) (by kmk_pure) (by kmk_size)); intro D' ws' h' F' N' l1 hI'; (try k_lt l1); (try k_sweep))))
  (k_with "binaryOp Add" => ((k_here; (with_reducible show wpAny _ _ (binaryOp _ (Value.ref _) (Value.ref _)) _ _ _); k_dflt (refine' add_K (by k_asm) (by k_asm) (by k_mem) (by k_mem) ?_ (by walk_at "mine_add_size")); intro l' h' F' N' l1; (try k_lt l1); (try k_sweep))))
  (k_with "binaryOp Mult int int" => ((k_here; (with_reducible refine mul_int ?_ (sz_mul (by with_reducible assumption) (by with_reducible assumption))))))
  (k_with "binaryOp FloorDiv int int" => ((k_here; (with_reducible refine floordiv_int (by with_reducible assumption) ?_ (Or.inl (sz_py (by with_reducible assumption)))))))
  (k_with "subscriptTail Name Constant ref int" => ((k_here; (with_reducible show wpAny _ _ (subscriptTail _ _ (Value.ref _) (Value.int _ _)) _ _ _); k_dflt (refine item_K (by k_asm) (by k_mem) (by decide) (by decide) (by exact rfl) ?_ (by with_unfolding_all rfl) (by kmk_pure)))))
  (k_with "subscriptTail Name Name ref int" => ((k_here; (with_reducible show wpAny _ _ (subscriptTail _ _ (Value.ref _) (Value.int _ _)) _ _ _); k_dflt (refine item_K (by k_asm) (by k_mem) (by decide) (by decide) (by exact rfl) ?_ (by with_unfolding_all rfl) (by kmk_pure)))))
  (k_with "call builtin:str.replace" => ((k_here; (refine replace_K (by first | omega | (simp; done) | (simp; omega)) (by first | omega | (simp; done) | (simp; omega)) (by first | omega | (simp; done) | (simp; omega)) (by k_extra "mine_yz") (by k_extra "mine_xl") (by k_extra "mine_zl") ?_); intro rr tr kr hrr)))
  (k_with "pyIter ref" => ((k_extra "mine_halt"; refine Halt.mk ?_)))
  (k_with "subscriptTail Name BinOp ref int" => (k_extra "mine_itemB"))
  (k_with "InvEndN" => ((k_extra "mine_halt"; refine Halt.mk ?_)))
  (k_with "binaryOp Add str str" => (k_extra "mine_addS"))
  (k_with "mine_kend2" => ((rename News _ _ _ _ => nE'; rename Fr _ _ _ _ => fE'; (try simp only [List.push_toArray] at nE'); refine' kst_end (_, _) fE' nE' (by first | kst_in | kst_inAny) (by first | (intro p hp; kst_mem) | kst_anyIn) (by rfl) (by k_extra "mine_facts") (by kst_all) (by kst_same) (by ((try dsimp only); k_extra "mine_end")))))
  (k_with "mine_kend3" => ((rename News _ _ _ _ => nE'; rename Fr _ _ _ _ => fE'; (try simp only [List.push_toArray] at nE'); refine' kst_end (_, _, _) fE' nE' (by first | kst_in | kst_inAny) (by first | (intro p hp; kst_mem) | kst_anyIn) (by rfl) (by k_extra "mine_facts") (by kst_all) (by kst_same) (by ((try dsimp only); k_extra "mine_end")))))
  (k_with "mine_kend5" => ((rename News _ _ _ _ => nE'; rename Fr _ _ _ _ => fE'; (try simp only [List.push_toArray] at nE'); refine' kst_end (_, _, _, _, _) fE' nE' (by first | kst_in | kst_inAny) (by first | (intro p hp; kst_mem) | kst_anyIn) (by rfl) (by k_extra "mine_facts") (by kst_all) (by kst_same) (by ((try dsimp only); k_extra "mine_end")))))
  (k_with "exec While" => ((k_extra "mine_halt"; refine Halt.mk ?_)))
  (k_with "KswEnd" => ((k_extra "mine_halt"; refine Halt.mk ?_)))
  (k_with "mine_wend2" => ((rename News _ _ _ _ => nE'; rename Fr _ _ _ _ => fE'; (try simp only [List.push_toArray] at nE'); refine' ksw_end (_, _) fE' nE' (by first | kst_in | kst_inAny) (by k_extra "mine_facts") (by kst_all) (by ksw_same) (by ((try dsimp only); k_extra "mine_end")) (by ((try dsimp only); k_extra "mine_less")))))
  (k_with "mine_wend6" => ((rename News _ _ _ _ => nE'; rename Fr _ _ _ _ => fE'; (try simp only [List.push_toArray] at nE'); refine' ksw_end (_, _, _, _, _, _) fE' nE' (by first | kst_in | kst_inAny) (by k_extra "mine_facts") (by kst_all) (by ksw_same) (by ((try dsimp only); k_extra "mine_end")) (by ((try dsimp only); k_extra "mine_less")))))
  (k_with "ExitW" => ((k_extra "mine_halt"; refine Halt.mk ?_)))
  (k_with "eval Subscript" => (k_extra "mine_evalS"))
  (k_with "mine_xend2" => ((rename News _ _ _ _ => nE'; rename Fr _ _ _ _ => fE'; (try simp only [List.push_toArray] at nE'); refine' exit_end (_, _) fE' nE' (by first | kst_in | kst_inAny) (by k_extra "mine_facts") (by kst_all) (by ksw_same) (by ((try dsimp only); k_extra "mine_done")))))
  (k_with "mine_xend4" => ((rename News _ _ _ _ => nE'; rename Fr _ _ _ _ => fE'; (try simp only [List.push_toArray] at nE'); refine' exit_end (_, _, _, _) fE' nE' (by first | kst_in | kst_inAny) (by k_extra "mine_facts") (by kst_all) (by ksw_same) (by ((try dsimp only); k_extra "mine_done")))))
  (k_with "subscriptTail Name Slice str ref" => (((with_reducible show wpAny _ _ (subscriptTail _ (Expr.Slice none (some (Expr.BoolOp _ _ _)) none _) _ _) _ _ _); (with_reducible rename Fr _ _ _ _ => F'); (with_reducible rename News _ _ _ _ => N'); (first | (refine slice_strN_nn_len (s := ⟨_, _, _, _, _⟩) F' N' ?_) | (refine slice_strN_ns_len (s := ⟨_, _, _, _, _⟩) F' N' ?_)); intro _ _ _ _ _ _)))
  (k_with "mine_steps" => (repeat' (first | (k_unfold; (try dsimp only)) | walk1 | (dsimp only; walk1) | (leave1; walk_say "STEP leave1"; try dsimp only) | fail "no step")))
  (k_with "call type:list" => ((k_here; (with_reducible show wpAny _ _ (call (Value.type "list") [Value.ref _]) _ _ _); k_dflt (refine' listRange2_K (by rfl) (by k_asm) (by k_asm) (by assumption) (by omega) ?_); intro Dr yr er hr kr Fr' Nr' lr' Ir; (try k_lt lr'); (try dsimp only); (try k_sweep))))
  (k_with "mine_kend9" => ((rename News _ _ _ _ => nE'; rename Fr _ _ _ _ => fE'; (try simp only [List.push_toArray] at nE'); refine' kst_end (_, _, _, _, _, _, _, _, _) fE' nE' (by first | kst_in | kst_inAny) (by first | (intro p hp; kst_mem) | kst_anyIn) (by rfl) (by k_extra "mine_facts") (by kst_all) (by kst_same) (by ((try dsimp only); k_extra "mine_end")))))
  (k_with "setItem ref int" => ((k_here; (with_reducible show wpAny _ _ (setItem (Value.ref _) (Value.int _ _) (Value.int _ _)) _ _ _); k_dflt (refine' ksa_set (by k_asm) (by k_asm) (by (refine' Upd.head (by k_extra "mine_off"))) (by with_reducible assumption) (by ksa_idx) (by ksa_idx) (by ksa_idx) ?_; k_whole); intro h' F' N' I' lI' sI'; (try clear sI'); (try dsimp only at N'); (try k_sweep))))
  (k_with "mine_room" => (first | exact room_g (by with_reducible assumption) (by decide) | ktr_room))
  (k_with "mine_units" => (first | exact units_g (by with_reducible assumption) (by decide) | ktr_units))
  (k_with "subscriptTail Subscript Name Name Name ref int" => (k_extra "mine_item2"))
  (k_with "subscriptTail Subscript Name BinOp BinOp ref int" => (k_extra "mine_item2"))
  (k_with "subscriptTail Subscript Name Constant Constant ref int" => (k_extra "mine_item2"))
  (k_with "subscriptTail Name Name ref int" => (k_extra "mine_item2"))
  (k_with "subscriptTail Name BinOp ref int" => (k_extra "mine_item2"))
  (k_with "subscriptTail Name Constant ref int" => (k_extra "mine_item2"))
  (k_with "subscriptTail Subscript" => (k_extra "mine_item2"))
  (k_with "mine_rows" => ((intro a5 ha5; rcases five ha5 with e5 | e5 | e5 | e5 | e5 <;> subst e5 <;> k_mem)))
  (k_with "mine_off" => (first | exact offR_nil | with_reducible assumption | (refine offR_cons ?_ ?_; (focus with_reducible assumption); (focus walk_at "mine_off")) | (refine offR_app ?_ ?_; (focus walk_at "mine_off"); (focus walk_at "mine_off"))))
  (k_with "setItem ref int" => (k_extra "mine_set"))
  (k_with "mine_op2" => (((intro v9 nw9 h9 tk9 hp9 F9 N9); (obtain ⟨t9, e9, e9n⟩ := hp9); (subst e9); (subst e9n); (try simp only [List.nil_append] at N9); (try dsimp only); (try k_fold))))
  (k_with "call ref" => ((k_here; (with_reducible show wpAny _ _ (call (Value.ref 73) [Value.int _ _, Value.int _ _] []) _ _ _); k_dflt (refine c_mul _ _ _ _ _ _ _ _ _ (by k_extra "mine_sz") (by k_extra "mine_sz") _ _ _ _ _ _ _ _ _ _ _ _ _ _ _ _ _ (by k_asm) (by k_asm) (by k_asm) (by k_asm) (by k_asm) (by first | exact rfl | assumption) (by walk_at "mine_room") (by walk_at "mine_units") ?_); walk_at "mine_op2")))
  (k_with "call ref" => ((k_here; (with_reducible show wpAny _ _ (call (Value.ref 80) [Value.int _ _, Value.int _ _] []) _ _ _); k_dflt (refine c_sub2 _ _ _ _ _ _ _ _ _ (by k_extra "mine_sz") (by k_extra "mine_sz") _ _ _ _ _ _ _ _ _ _ _ _ _ _ _ _ _ (by k_asm) (by k_asm) (by k_asm) (by k_asm) (by k_asm) (by first | exact rfl | assumption) (by walk_at "mine_room") (by walk_at "mine_units") ?_); walk_at "mine_op2")))
  (k_with "call ref" => ((k_here; (with_reducible show wpAny _ _ (call (Value.ref 66) [Value.int _ _, Value.int _ _] []) _ _ _); k_dflt (refine c_mod _ _ _ _ _ _ _ _ _ (by k_extra "mine_sz") (by k_extra "mine_sz") (by k_extra "mine_ne") _ _ _ _ _ _ _ _ _ _ _ _ _ _ _ _ _ (by k_asm) (by k_asm) (by k_asm) (by k_asm) (by k_asm) (by first | exact rfl | assumption) (by walk_at "mine_room") (by walk_at "mine_units") ?_); walk_at "mine_op2")))
  (k_with "call ref" => ((k_here; (with_reducible show wpAny _ _ (call (Value.ref 59) [Value.int _ _, Value.int _ _] []) _ _ _); k_dflt (refine c_floordiv _ _ _ _ _ _ _ _ _ (by k_extra "mine_sz") (by k_extra "mine_sz") (by k_extra "mine_ne") _ _ _ _ _ _ _ _ _ _ _ _ _ _ _ _ _ (by k_asm) (by k_asm) (by k_asm) (by k_asm) (by k_asm) (by first | exact rfl | assumption) (by walk_at "mine_room") (by walk_at "mine_units") ?_); walk_at "mine_op2")))
  (k_with "call builtin:list.append" => (k_extra "mine_append"))
  (k_with "mine_halt" => skip)
  dsimp only [gl] at N'
  (k_with "mine_item2" => first
    | ((with_reducible show wpAny _ _ (subscriptTail _ _ (Value.ref g) _) _ _ _); first | with_reducible refine rowref_N (r := r) (n := n) (by k_asm) (by first | exact gl_head (V := V) (e := e) | exact glt_head (V := V) (e := e) | k_mem) (by first | with_reducible assumption | omega) (by intro _ _; with_unfolding_all rfl) ?_ | refine rowref_K (r := r) (by k_asm) (by k_mem) (by omega) (by omega) ?_ (by with_unfolding_all rfl))
    | (with_reducible refine rowval_N (r := r) (V := V) (e := e) (f := M 0) (by k_asm) (by first | exact gl_mem (g := g) (n := n) | exact glt_mem (g := g) (n := n) | walk_at "mine_rows") hI (by first | with_reducible assumption | omega) (by first | with_reducible assumption | omega) (by intro _ _; with_unfolding_all rfl) ?_; intro tv)
    | (refine rowval_K (r := r) (V := V) (e := e) (f := M 0) (by k_asm) (by walk_at "mine_rows") hI (by decide) (by omega) (by omega) ?_ (by with_unfolding_all rfl); intro tv))
  walk_at "mine_steps"
  unfold Halt
  rename Fr _ _ _ _ => lF'
  rename News _ _ _ _ => lN'
  rename IsRange _ _ _ _ _ _ _ _ => rgX
  refine nameN lN' ?_
  intro lp hlp
  subst hlp
  rename (g < _ ∧ _) => ltp
  have hlp : ∀ b, b < 5 → lp ≠ r b := off5 ltp
  with_unfolding_all refine' kst_range (σ := (Nat → List Value) × List Value × List Int × Nat × Int × Tok) (n := 4) (fun c => gl g r c.1 e n [(lp, listOf c.2.1.toArray c.2.2.2.1)]) (fun c => [(Str.ofString "before", .int c.2.2.2.2.1 c.2.2.2.2.2)]) (fun c => IntsAre c.2.1 c.2.2.1) [Str.ofString "i", Str.ofString "j", Str.ofString "over"] (fun pre c => PivP M pre.length c.1 c.2.2.1 c.2.2.2.2.1) (V, [_], [M 0 0 0], _, 1, _) (by rfl) rgX (by decide) (by decide) lF' (news_sub lN' (by walk_at "mine_sub")) (by exact IntsAre.cons _ _ .nil) (by kst_all) (by exact ⟨hI, rfl, rfl⟩) ?_ ?_
  · clear lF' lN' rgX
    intro ⟨vv, pv, pn, ep, b, tb⟩ pre k t u h tk own hk hlt hoff hfacts hP kFr kNews
    have kMark := kstMark
    dsimp only [kstB] at kFr
    simp only [gl, List.cons_append, List.append_assoc, List.nil_append] at kNews
    dsimp only at hfacts hP hoff
    have hk' : k = (pre.length : Int) := by omega
    subst hk'
    have ho1 : OffR r own := offR_of hoff
    obtain ⟨hR, hpn, hb⟩ := hP
    subst hb
    walk_at "mine_steps"
    unfold Halt
    rename Fr _ _ _ _ => lF'
    rename News _ _ _ _ => lN'
    rename IsRange _ _ _ _ _ _ _ _ => rgX
    with_unfolding_all refine' kst_range (σ := Nat → List Value) (n := 4 - pre.length) (fun c => gl g r c e n ((lp, listOf pv.toArray ep) :: own)) (fun _ => []) (fun _ => True) [Str.ofString "j", Str.ofString "over"] (fun pre2 c => RowsV c (curM M pre.length (pre.length + 1 + pre2.length) 0)) vv (by rfl) rgX (by exact small_one (by omega) (by omega) (by omega) (by omega)) (by rw [rangeSize_nat]; omega) lF' (news_sub lN' (by walk_at "mine_sub")) trivial (fun _ h => nomatch h) (by exact rowsV_eq hR fun a b _ _ => cur_k0 M _ a b) ?_ ?_
    · clear lF' lN' rgX
      intro vi pre2 i t2 u2 h2 tk2 own2 hki hlt2 hoff2 _ hP2 kFr2 kNews2
      have kMark := kstMark
      dsimp only [kstB] at kFr2
      simp only [gl, List.cons_append, List.append_assoc, List.nil_append] at kNews2
      try dsimp only at hP2 hoff2
      have hi' : i = (((pre.length + 1 + pre2.length) : Nat) : Int) := by omega
      subst hi'
      have ho2 : OffR r own2 := offR_of hoff2
      walk_at "mine_steps"
      unfold Halt
      rename Fr _ _ _ _ => lF'
      rename News _ _ _ _ => lN'
      rename IsRange _ _ _ _ _ _ _ _ => rgX
      with_unfolding_all refine' kst_range (σ := Nat → List Value) (n := 4 - pre.length) (fun c => gl g r c e n ((lp, listOf pv.toArray ep) :: (own ++ own2))) (fun _ => []) (fun _ => True) [Str.ofString "over"] (fun pre3 c => RowsV c (curM M pre.length (pre.length + 1 + pre2.length) (pre.length + 1 + pre3.length))) vi (by rfl) rgX (by exact small_one (by omega) (by omega) (by omega) (by omega)) (by rw [rangeSize_nat]; omega) lF' (news_sub lN' (by first | walk_at "mine_sub" | kst_in | kst_inAny)) trivial (fun _ h => nomatch h) (by exact rowsV_eq hP2 fun a b _ _ => cur_j0 M _ _ a b) ?_ ?_
      · clear lF' lN' rgX
        intro vj pre3 j t3 u3 h3 tk3 own3 hkj hlt3 hoff3 _ hP3 kFr3 kNews3
        have kMark := kstMark
        dsimp only [kstB] at kFr3
        simp only [gl, List.cons_append, List.append_assoc, List.nil_append] at kNews3
        try dsimp only at hP3 hoff3
        have hj' : j = (((pre.length + 1 + pre3.length) : Nat) : Int) := by omega
        subst hj'
        have ho3 : OffR r own3 := offR_of hoff3
        have hk5 : pre.length < 5 := by omega
        have hi5 : (pre.length + 1 + pre2.length) < 5 := by omega
        have hj5 : (pre.length + 1 + pre3.length) < 5 := by omega
        have hS : ∀ a b, a < 5 → b < 5 → ((curM M pre.length (pre.length + 1 + pre2.length) (pre.length + 1 + pre3.length)) a b).natAbs < 2 ^ 90 := fun a b ha hb => cur_sz H hlt ha hb
        have hB : (bef M pre.length).natAbs < 2 ^ 90 := bef_sz H hlt
        have hB0 : bef M pre.length ≠ 0 := H.ne _ hlt
        (k_with "mine_item2" => first
          | ((with_reducible show wpAny _ _ (subscriptTail _ _ (Value.ref g) _) _ _ _); first | with_reducible refine rowref_N (r := r) (n := n) (by k_asm) (by first | exact gl_head (V := vj) (e := e) | exact glt_head (V := vj) (e := e) | k_mem) (by first | with_reducible assumption | omega) (by intro _ _; with_unfolding_all rfl) ?_ | refine rowref_K (r := r) (by k_asm) (by k_mem) (by omega) (by omega) ?_ (by with_unfolding_all rfl))
          | (with_reducible refine rowval_N (r := r) (V := vj) (e := e) (f := (curM M pre.length (pre.length + 1 + pre2.length) (pre.length + 1 + pre3.length))) (by k_asm) (by first | exact gl_mem (g := g) (n := n) | exact glt_mem (g := g) (n := n) | walk_at "mine_rows") hP3 (by first | with_reducible assumption | omega) (by first | with_reducible assumption | omega) (by intro _ _; with_unfolding_all rfl) ?_; intro tv)
          | (refine rowval_K (r := r) (V := vj) (e := e) (f := (curM M pre.length (pre.length + 1 + pre2.length) (pre.length + 1 + pre3.length))) (by k_asm) (by walk_at "mine_rows") hP3 (by omega) (by omega) (by omega) ?_ (by with_unfolding_all rfl); intro tv))
        (k_with "mine_sz" => with_reducible first | exact sz_of (hS _ _ (by first | with_reducible assumption | omega) (by first | with_reducible assumption | omega)) | exact sz_of hB | exact sz_m (hS _ _ (by first | with_reducible assumption | omega) (by first | with_reducible assumption | omega)) (hS _ _ (by first | with_reducible assumption | omega) (by first | with_reducible assumption | omega)) | exact sz_d (hS _ _ (by first | with_reducible assumption | omega) (by first | with_reducible assumption | omega)) (hS _ _ (by first | with_reducible assumption | omega) (by first | with_reducible assumption | omega)) (hS _ _ (by first | with_reducible assumption | omega) (by first | with_reducible assumption | omega)) (hS _ _ (by first | with_reducible assumption | omega) (by first | with_reducible assumption | omega)))
        (k_with "mine_ne" => exact hB0)
        (k_with "mine_set" => (refine rowset_N (g := g) (r := r) (V := vj) (e := e) (n := n) (f := (curM M pre.length (pre.length + 1 + pre2.length) (pre.length + 1 + pre3.length))) (by k_asm) (by k_asm) hP3 (by omega) (by omega) hd (by walk_at "mine_off") ?_; intro h5 v5 F5 N5 I5; (try dsimp only); (try dsimp only [gl] at N5)))
        walk_at "mine_steps"
        · exfalso
          exact piv_no H hlt ⟨by omega, hi5⟩ ⟨by omega, hj5⟩ (by assumption)
        · unfold Halt
          rename News _ _ _ _ => nE'
          rename Fr _ _ _ _ => fE'
          (try simp only [List.push_toArray] at nE')
          refine kst_end v5 fE' nE' ?_ ?_ rfl ?_ ?_ ?_ ?_
          · exact gl_sub (by intro p hp; simp only [List.mem_cons, List.mem_append] at hp ⊢; rcases hp with hp | hp | hp <;> simp only [hp, true_or, or_true])
          · exact in_gl (by intro p hp; simp only [List.mem_cons, List.mem_append] at hp ⊢; simp only [hp, true_or, or_true])
          · trivial
          · kst_all
          · kst_same
          · (rw [List.length_append]; exact piv_turnN H hlt ⟨by omega, hi5⟩ ⟨by omega, hj5⟩ (by rw [List.length_singleton]; omega) I5)
      · clear lF' lN' rgX
        intro vj u3 h3 tk3 _ hP3 kFr3 kNews3
        have kMark := kstMark
        dsimp only [kstB] at kFr3
        simp only [gl, List.cons_append, List.append_assoc, List.nil_append] at kNews3
        rw [rangeKs_length, show pre.length + 1 + (4 - pre.length) = 5 by omega] at hP3
        walk_at "mine_steps"
        unfold Halt
        rename News _ _ _ _ => nE'
        rename Fr _ _ _ _ => fE'
        (try simp only [List.push_toArray] at nE')
        refine kst_end vj fE' nE' ?_ ?_ rfl ?_ ?_ ?_ ?_
        · exact gl_sub (by intro p hp; simp only [List.mem_cons, List.mem_append] at hp ⊢; rcases hp with hp | hp <;> simp only [hp, true_or, or_true])
        · exact in_gl (by intro p hp; simp only [List.mem_cons, List.mem_append] at hp ⊢; simp only [hp, true_or, or_true])
        · trivial
        · kst_all
        · kst_same
        · (rw [List.length_append]; exact rowsV_eq hP3 fun a b _ hb => cur_j5 M _ _ a b hb)
    · clear lF' lN' rgX
      intro vi u2 h2 tk2 _ hP2 kFr2 kNews2
      have kMark := kstMark
      dsimp only [kstB] at kFr2
      simp only [gl, List.cons_append, List.append_assoc, List.nil_append] at kNews2
      rw [rangeKs_length, show pre.length + 1 + (4 - pre.length) = 5 by omega] at hP2
      have kN3 := news_sub kNews2 (show ∀ p ∈ (lp, listOf pv.toArray ep) :: gl g r vi e n own, p ∈ gl g r vi e n ((lp, listOf pv.toArray ep) :: own) from lp_first)
      clear kNews2
      simp only [gl] at kN3
      have hplen : pv.toArray.size ≤ sizeLine := by
        rw [List.size_toArray, hfacts.length, hpn, pivs_len, sizeLine_eq]; omega
      (k_with "mine_append" => (refine append_head (by k_asm) (by k_asm) (gl_ne (r := r) (V := vi) (e := e) (n := n) (Nat.ne_of_lt ltp.1) hlp (fun p hp => hoff p hp lp (by simp))) ?_ hplen; intro h6 F6 N6; (try dsimp only)))
      have hP2' : RowsV vi (M (pre.length + 1)) := rowsV_eq hP2 fun a b ha hb => cur_i5 H hlt ha hb
      (k_with "mine_item2" => first
        | ((with_reducible show wpAny _ _ (subscriptTail _ _ (Value.ref g) _) _ _ _); first | with_reducible refine rowref_N (r := r) (n := n) (by k_asm) (by first | exact gl_head (V := vi) (e := e) | exact glt_head (V := vi) (e := e) | k_mem) (by first | with_reducible assumption | omega) (by intro _ _; with_unfolding_all rfl) ?_ | refine rowref_K (r := r) (by k_asm) (by k_mem) (by omega) (by omega) ?_ (by with_unfolding_all rfl))
        | (with_reducible refine rowval_N (r := r) (V := vi) (e := e) (f := (M (pre.length + 1))) (by k_asm) (by first | exact gl_mem (g := g) (n := n) | exact glt_mem (g := g) (n := n) | walk_at "mine_rows") hP2' (by first | with_reducible assumption | omega) (by first | with_reducible assumption | omega) (by intro _ _; with_unfolding_all rfl) ?_; intro tv)
        | (refine rowval_K (r := r) (V := vi) (e := e) (f := (M (pre.length + 1))) (by k_asm) (by walk_at "mine_rows") hP2' (by omega) (by omega) (by omega) ?_ (by with_unfolding_all rfl); intro tv))
      walk_at "mine_steps"
      unfold Halt
      rename News _ _ _ _ => nE'
      rename Fr _ _ _ _ => fE'
      (try simp only [List.push_toArray] at nE')
      refine' kst_end (vi, _, _, _, _, _) fE' nE' ?xk1 ?xk2 ?xk3 ?xk4 ?xk5 ?xk6 ?xk7
      case xk1 => exact gl_lp
      case xk2 => exact own_lp
      case xk3 => rfl
      case xk4 => exact IntsAre.append hfacts (.cons _ _ .nil)
      case xk5 => kst_all
      case xk6 => kst_same
      case xk7 => (rw [List.length_append]; exact ⟨hP2', by rw [hpn]; rfl, H.keep _ _ _ hlt (by omega) (by omega) (.inl (Nat.le_refl _))⟩)
  · clear lF' lN' rgX
    intro ⟨vv, pv, pn, ep, b, tb⟩ u h tk hfacts hP kFr kNews
    have kMark := kstMark
    dsimp only [kstB] at kFr
    simp only [gl, List.cons_append, List.append_assoc, List.nil_append] at kNews
    dsimp only at hfacts hP
    have e4 : (rangeKs 0 4).length = 4 := rangeKs_length _ _
    rw [e4] at hP
    walk_at "mine_steps"
    rename Kept _ _ _ => hK
    rename News _ _ _ _ => kN
    rename Fr _ _ _ _ => kF
    exact hret _ [(lp, _)] _ _ ⟨lp, pv, ep, rfl, rfl, hP.2.1 ▸ hfacts⟩ kF (kept_rest2 (by assumption) hK kN (by walk_at "mine_sub") hrest)
end
def five5 {α : Type} (x0 x1 x2 x3 x4 : α) : Nat → α
  | 0 => x0
  | 1 => x1
  | 2 => x2
  | 3 => x3
  | _ => x4
theorem c_piv5 (w : World) (mean : ExcName → Option Value) (mg mb : Str → Option Value) (M : Nat → Nat → Nat → Int) (H : PivH M) (DG G0 G1 G2 G3 G4 : Addr) (y0 y1 y2 y3 y4 : List Value) (tl : Led)
    (oD : ∀ p ∈ (G4, LCg.lst y4) :: (G3, LCg.lst y3) :: (G2, LCg.lst y2) :: (G1, LCg.lst y1) :: (G0, LCg.lst y0) :: tl, p.1 ≠ DG)
    (o4 : ∀ p ∈ (G3, LCg.lst y3) :: (G2, LCg.lst y2) :: (G1, LCg.lst y1) :: (G0, LCg.lst y0) :: tl, p.1 ≠ G4)
    (o3 : ∀ p ∈ (G2, LCg.lst y2) :: (G1, LCg.lst y1) :: (G0, LCg.lst y0) :: tl, p.1 ≠ G3)
    (o2 : ∀ p ∈ (G1, LCg.lst y1) :: (G0, LCg.lst y0) :: tl, p.1 ≠ G2) (o1 : ∀ p ∈ (G0, LCg.lst y0) :: tl, p.1 ≠ G1) (o0 : ∀ p ∈ tl, p.1 ≠ G0)
    (i0 : IntsAre y0 ((List.range 5).map (M 0 0))) (i1 : IntsAre y1 ((List.range 5).map (M 0 1))) (i2 : IntsAre y2 ((List.range 5).map (M 0 2))) (i3 : IntsAre y3 ((List.range 5).map (M 0 3))) (i4 : IntsAre y4 ((List.range 5).map (M 0 4))) :
    CtrR 4 40 w mean mg mb 135 [.ref DG] ((DG, LCg.lst [Value.ref G0, .ref G1, .ref G2, .ref G3, .ref G4]) :: (G4, LCg.lst y4) :: (G3, LCg.lst y3) :: (G2, LCg.lst y2) :: (G1, LCg.lst y1) :: (G0, LCg.lst y0) :: tl) (tl.drop 7)
      (fun v nw => ∃ (l' : Addr) (items : List Value) (ep : Nat), v = .ref l' ∧ nw = [(l', listOf items.toArray ep)] ∧ IntsAre items (pivs M 4)) := by
  have n40 := o4 (G0, LCg.lst y0) (by simp)
  have n41 := o4 (G1, LCg.lst y1) (by simp)
  have n42 := o4 (G2, LCg.lst y2) (by simp)
  have n43 := o4 (G3, LCg.lst y3) (by simp)
  have n30 := o3 (G0, LCg.lst y0) (by simp)
  have n31 := o3 (G1, LCg.lst y1) (by simp)
  have n32 := o3 (G2, LCg.lst y2) (by simp)
  have n20 := o2 (G0, LCg.lst y0) (by simp)
  have n21 := o2 (G1, LCg.lst y1) (by simp)
  have n10 := o1 (G0, LCg.lst y0) (by simp)
  dsimp only at n40 n41 n42 n43 n30 n31 n32 n20 n21 n10
  refine c_pivots w mean mg mb _ (tl.drop 7) M H DG (five5 G0 G1 G2 G3 G4) (five5 y0 y1 y2 y3 y4) (fun a => (five5 y0 y1 y2 y3 y4 a).length) 5 ⟨fun a b ha hb e => ?_, fun b hb => ?_⟩ (fun q hq => ?_) (fun q hq => ⟨?_, ?_⟩) (fun a ha => ?_)
  · rcases five ha with rfl | rfl | rfl | rfl | rfl <;> rcases five hb with rfl | rfl | rfl | rfl | rfl <;> first | rfl | exact absurd e (by assumption) | exact absurd e.symm (by assumption)
  · rcases five hb with rfl | rfl | rfl | rfl | rfl
    · exact oD (G0, LCg.lst y0) (by simp)
    · exact oD (G1, LCg.lst y1) (by simp)
    · exact oD (G2, LCg.lst y2) (by simp)
    · exact oD (G3, LCg.lst y3) (by simp)
    · exact oD (G4, LCg.lst y4) (by simp)
  · simp only [gl, List.mem_cons, List.not_mem_nil, or_false] at hq ⊢
    rcases hq with h | h | h | h | h | h
    · exact .inl h
    · exact .inr (.inr (.inr (.inr (.inr (.inl h)))))
    · exact .inr (.inr (.inr (.inr (.inl h))))
    · exact .inr (.inr (.inr (.inl h)))
    · exact .inr (.inr (.inl h))
    · exact .inr (.inl h)
  · have := List.mem_of_mem_drop hq
    simp only [List.mem_cons, this, or_true]
  · have h := List.mem_of_mem_drop hq
    simp only [gl, List.map_cons, List.map_nil, List.mem_cons, List.not_mem_nil, or_false]
    rintro (e | e | e | e | e | e)
    · exact oD q (by simp [h]) e
    · exact o0 q h e
    · exact o1 q (by simp [h]) e
    · exact o2 q (by simp [h]) e
    · exact o3 q (by simp [h]) e
    · exact o4 q (by simp [h]) e
  · rcases five ha with rfl | rfl | rfl | rfl | rfl
    · exact i0
    · exact i1
    · exact i2
    · exact i3
    · exact i4
theorem off_drop {l : Led} {D : Addr} (n : Nat) (h : ∀ p ∈ l, p.1 ≠ D) : ∀ p ∈ l.drop n, p.1 ≠ D := fun p hp => h p (List.mem_of_mem_drop hp)
section
local macro_rules | `(tactic| k_qdec) => `(tactic| decide +kernel)
theorem lawX : PySem.Challenge.rw_sw0012_01.Holds := hd0 (by
    k_go0
    rename_i K0 hD0 h10 tk10 F0 o1 o2 o3 o4 o5 o6 e1 e2 e3 e4 e5 e6 N0 X0
    replace e1 : _ = PySem.Data.cell none := e1
    replace e2 : _ = PySem.Data.cell none := e2
    replace e3 : _ = PySem.Data.cell none := e3
    replace e4 : _ = PySem.Data.cell none := e4
    replace e5 : _ = PySem.Data.cell none := e5
    replace e6 : _ = PySem.Data.cell none := e6
    clear X0 hD0
    (try (rename PySem.Heap.CodeRec _ _ _ => hcd9; clear hcd9))
    (try k_fold)
    k_with_none
    (k_with "mine_in" => (first | exact List.Mem.head _ | (refine List.Mem.tail _ ?_; walk_at "mine_in")))
    (k_with "mine_sub" => (first | exact sub_refl | (refine sub_cons (by walk_at "mine_in") (by walk_at "mine_sub")) | (refine sub_tail ?_; walk_at "mine_sub") | exact List.forall_mem_nil _))
    (k_with "subscriptTail Name Slice ref ref" => ((k_here; (with_reducible show wpAny _ _ (subscriptTail _ (PySem.Expr.Slice (some _) none none _) (Value.ref _) (Value.ref _)) _ _ _); k_dflt (refine' sliceFrom_K (by k_asm) (by k_asm) (by kmk_list) (by l_ints) ?_ (by with_unfolding_all rfl) (by kmk_pure) (by kmk_size)); intro D' ws' h' F' N' l1 hI'; (try k_lt l1); (try k_sweep))))
    (k_with "subscriptTail List" => ((k_here; (with_reducible show wpAny _ _ (subscriptTail _ (PySem.Expr.Slice (some _) none none _) (Value.ref _) (Value.ref _)) _ _ _); k_dflt (refine' sliceFrom_K (by k_asm) (by k_asm) (by kmk_list) (by l_ints) ?_ (by with_unfolding_all rfl) (by kmk_pure) (by kmk_size)); intro D' ws' h' F' N' l1 hI'; (try k_lt l1); (try k_sweep))))
    (k_with "binaryOp Add" => ((k_here; (with_reducible show wpAny _ _ (binaryOp _ (Value.ref _) (Value.ref _)) _ _ _); k_dflt (refine' add_K (by k_asm) (by k_asm) (by k_mem) (by k_mem) ?_ (by walk_at "mine_add_size")); intro l' h' F' N' l1; (try k_lt l1); (try k_sweep))))
    (k_with "binaryOp Mult int int" => ((k_here; (with_reducible refine mul_int ?_ (sz_mul (by with_reducible assumption) (by with_reducible assumption))))))
    (k_with "binaryOp FloorDiv int int" => ((k_here; (with_reducible refine floordiv_int (by with_reducible assumption) ?_ (Or.inl (sz_py (by with_reducible assumption)))))))
    (k_with "subscriptTail Name Constant ref int" => ((k_here; (with_reducible show wpAny _ _ (subscriptTail _ _ (Value.ref _) (Value.int _ _)) _ _ _); k_dflt (refine item_K (by k_asm) (by k_mem) (by decide) (by decide) (by exact rfl) ?_ (by with_unfolding_all rfl) (by kmk_pure)))))
    (k_with "subscriptTail Name Name ref int" => ((k_here; (with_reducible show wpAny _ _ (subscriptTail _ _ (Value.ref _) (Value.int _ _)) _ _ _); k_dflt (refine item_K (by k_asm) (by k_mem) (by decide) (by decide) (by exact rfl) ?_ (by with_unfolding_all rfl) (by kmk_pure)))))
    (k_with "call builtin:str.replace" => ((k_here; (refine replace_K (by first | omega | (simp; done) | (simp; omega)) (by first | omega | (simp; done) | (simp; omega)) (by first | omega | (simp; done) | (simp; omega)) (by k_extra "mine_yz") (by k_extra "mine_xl") (by k_extra "mine_zl") ?_); intro rr tr kr hrr)))
    (k_with "pyIter ref" => ((k_extra "mine_halt"; refine Halt.mk ?_)))
    (k_with "subscriptTail Name BinOp ref int" => (k_extra "mine_itemB"))
    (k_with "InvEndN" => ((k_extra "mine_halt"; refine Halt.mk ?_)))
    (k_with "binaryOp Add str str" => (k_extra "mine_addS"))
    (k_with "mine_kend2" => ((rename News _ _ _ _ => nE'; rename Fr _ _ _ _ => fE'; (try simp only [List.push_toArray] at nE'); refine' kst_end (_, _) fE' nE' (by first | kst_in | kst_inAny) (by first | (intro p hp; kst_mem) | kst_anyIn) (by rfl) (by k_extra "mine_facts") (by kst_all) (by kst_same) (by ((try dsimp only); k_extra "mine_end")))))
    (k_with "mine_kend3" => ((rename News _ _ _ _ => nE'; rename Fr _ _ _ _ => fE'; (try simp only [List.push_toArray] at nE'); refine' kst_end (_, _, _) fE' nE' (by first | kst_in | kst_inAny) (by first | (intro p hp; kst_mem) | kst_anyIn) (by rfl) (by k_extra "mine_facts") (by kst_all) (by kst_same) (by ((try dsimp only); k_extra "mine_end")))))
    (k_with "mine_kend5" => ((rename News _ _ _ _ => nE'; rename Fr _ _ _ _ => fE'; (try simp only [List.push_toArray] at nE'); refine' kst_end (_, _, _, _, _) fE' nE' (by first | kst_in | kst_inAny) (by first | (intro p hp; kst_mem) | kst_anyIn) (by rfl) (by k_extra "mine_facts") (by kst_all) (by kst_same) (by ((try dsimp only); k_extra "mine_end")))))
    (k_with "exec While" => ((k_extra "mine_halt"; refine Halt.mk ?_)))
    (k_with "KswEnd" => ((k_extra "mine_halt"; refine Halt.mk ?_)))
    (k_with "mine_wend2" => ((rename News _ _ _ _ => nE'; rename Fr _ _ _ _ => fE'; (try simp only [List.push_toArray] at nE'); refine' ksw_end (_, _) fE' nE' (by first | kst_in | kst_inAny) (by k_extra "mine_facts") (by kst_all) (by ksw_same) (by ((try dsimp only); k_extra "mine_end")) (by ((try dsimp only); k_extra "mine_less")))))
    (k_with "mine_wend6" => ((rename News _ _ _ _ => nE'; rename Fr _ _ _ _ => fE'; (try simp only [List.push_toArray] at nE'); refine' ksw_end (_, _, _, _, _, _) fE' nE' (by first | kst_in | kst_inAny) (by k_extra "mine_facts") (by kst_all) (by ksw_same) (by ((try dsimp only); k_extra "mine_end")) (by ((try dsimp only); k_extra "mine_less")))))
    (k_with "ExitW" => ((k_extra "mine_halt"; refine Halt.mk ?_)))
    (k_with "eval Subscript" => (k_extra "mine_evalS"))
    (k_with "mine_xend2" => ((rename News _ _ _ _ => nE'; rename Fr _ _ _ _ => fE'; (try simp only [List.push_toArray] at nE'); refine' exit_end (_, _) fE' nE' (by first | kst_in | kst_inAny) (by k_extra "mine_facts") (by kst_all) (by ksw_same) (by ((try dsimp only); k_extra "mine_done")))))
    (k_with "mine_xend4" => ((rename News _ _ _ _ => nE'; rename Fr _ _ _ _ => fE'; (try simp only [List.push_toArray] at nE'); refine' exit_end (_, _, _, _) fE' nE' (by first | kst_in | kst_inAny) (by k_extra "mine_facts") (by kst_all) (by ksw_same) (by ((try dsimp only); k_extra "mine_done")))))
    (k_with "subscriptTail Name Slice str ref" => (((with_reducible show wpAny _ _ (subscriptTail _ (Expr.Slice none (some (Expr.BoolOp _ _ _)) none _) _ _) _ _ _); (with_reducible rename Fr _ _ _ _ => F'); (with_reducible rename News _ _ _ _ => N'); (first | (refine slice_strN_nn_len (s := ⟨_, _, _, _, _⟩) F' N' ?_) | (refine slice_strN_ns_len (s := ⟨_, _, _, _, _⟩) F' N' ?_)); intro _ _ _ _ _ _)))
    (k_with "mine_steps" => (repeat' (first | (k_unfold; (try dsimp only)) | walk1 | (dsimp only; walk1) | (leave1; walk_say "STEP leave1"; try dsimp only) | fail "no step")))
    (k_with "call type:list" => ((k_here; (with_reducible show wpAny _ _ (call (Value.type "list") [Value.ref _]) _ _ _); k_dflt (refine' listRange2_K (by rfl) (by k_asm) (by k_asm) (by assumption) (by omega) ?_); intro Dr yr er hr kr Fr' Nr' lr' Ir; (try k_lt lr'); (try dsimp only); (try k_sweep))))
    (k_with "mine_kend9" => ((rename News _ _ _ _ => nE'; rename Fr _ _ _ _ => fE'; (try simp only [List.push_toArray] at nE'); refine' kst_end (_, _, _, _, _, _, _, _, _) fE' nE' (by first | kst_in | kst_inAny) (by first | (intro p hp; kst_mem) | kst_anyIn) (by rfl) (by k_extra "mine_facts") (by kst_all) (by kst_same) (by ((try dsimp only); k_extra "mine_end")))))
    (k_with "setItem ref int" => ((k_here; (with_reducible show wpAny _ _ (setItem (Value.ref _) (Value.int _ _) (Value.int _ _)) _ _ _); k_dflt (refine' ksa_set (by k_asm) (by k_asm) (by (refine' Upd.head (by k_extra "mine_off"))) (by with_reducible assumption) (by ksa_idx) (by ksa_idx) (by ksa_idx) ?_; k_whole); intro h' F' N' I' lI' sI'; (try clear sI'); (try dsimp only at N'); (try k_sweep))))
    (k_with "mine_room" => (first | exact room_g (by with_reducible assumption) (by decide) | ktr_room))
    (k_with "mine_units" => (first | exact units_g (by with_reducible assumption) (by decide) | ktr_units))
    (k_with "call ref" => ((k_extra "mine_halt"; refine Halt.mk ?_)))
    (k_with "call builtin:len" => ((k_here; (with_reducible show wpAny _ _ (call (Value.builtin "len") [Value.ref _]) _ _ _); k_dflt (refine len5_K (by k_asm) (by walk_at "mine_in") ?_); (try dsimp only))))
    (k_with "call builtin:sum" => (k_extra "mine_sum"))
    (k_with "subscriptTail Name Name ref int" => ((k_here; (with_reducible show wpAny _ _ (subscriptTail _ _ (Value.ref _) (Value.int _ _)) _ _ _); first | k_dflt (refine item_K (by k_asm) (by walk_at "mine_in") (by decide) (by decide) (by exact rfl) ?_ (by with_unfolding_all rfl) (by kmk_pure)) | (k_dflt (refine itemS_K (by k_asm) (by walk_at "mine_in") (StrsAre.cons _ _ (.cons _ _ (.cons _ _ (.cons _ _ (.cons _ _ .nil))))) (by omega) (by simp only [List.length_cons, List.length_nil]; omega) (by omega) ?_ (by with_unfolding_all rfl) (by kmk_pure)); intro ya yt hya hyam; (try dsimp only)))))
    (k_with "compareOp NotEq ref ref" => ((k_extra "mine_halt"; refine Halt.mk ?_)))
    (k_with "exec Assign cons ListComp" => ((k_extra "mine_halt"; refine Halt.mk ?_)))
    (k_with "eval ListComp ListComp cons" => ((k_extra "mine_halt"; refine Halt.mk ?_)))
    (k_with "mine_tup" => (first | exact .inr ⟨_, List.Mem.head _, rfl, _, rfl⟩ | (refine TupAt.cons ?_; walk_at "mine_tup")))
    (k_with "subscriptTail Name Call ref int" => ((k_extra "mine_halt"; refine Halt.mk ?_)))
    (k_with "subscriptTail Subscript Name Call Call ref int" => ((k_extra "mine_halt"; refine Halt.mk ?_)))
    (k_with "mine_halt" => skip)
    walk_at "mine_steps"
    unfold Halt
    k_dflt (refine c_numbers _ _ _ _ _ _ _ _ _ _ _ _ _ _ _ _ _ _ _ _ _ _ _ _ _ (by k_asm) (by k_asm) (by k_asm) (by k_asm) (by k_asm) (by first | exact rfl | assumption) (by first | decide | ktr_room) (by first | decide | ktr_units) (by assumption) (by assumption) (by omega) ?_)
    intro v9 nw9 h9 tk9 hp9 F9 N9
    clear F0 N0
    obtain ⟨m9, F9⟩ : ∃ m9, Fr _ _ h9 m9 := ⟨_, F9⟩
    obtain ⟨ld, items9, rfl, rfl, hI9, hlt9⟩ := hp9
    obtain ⟨d0, d1, d2, d3, d4, d5, t0, t1, t2, t3, t4, t5, rfl, hD⟩ := ints6 hI9 (drawn_len _)
    (try simp only [List.cons_append, List.nil_append] at N9)
    (try k_lt hlt9)
    (try dsimp only)
    (try k_fold)
    walk_at "mine_steps"
    unfold Halt
    k_dflt (refine c_lengths _ _ _ _ _ ld 0 d0 d1 d2 d3 d4 d5 t0 t1 t2 t3 t4 t5 ?hl1 _ _ _ _ _ _ _ _ _ _ _ _ _ _ _ _ _ (by k_asm) (by k_asm) (by k_asm) (by k_asm) (by k_asm) (by first | exact rfl | assumption) (by first | decide | walk_at "mine_room") (by first | decide | walk_at "mine_units") ?_)
    case hl1 => k_mem
    intro v9 nw9 h9' tk9' hp9 F9' N9'
    obtain ⟨ll, items9', ep9, rfl, rfl, hI9'⟩ := hp9
    obtain ⟨l0, l1, l2, l3, s0, s1, s2, s3, rfl, hL⟩ := ints4 hI9' (lengths_len _)
    (try simp only [List.cons_append, List.nil_append] at N9')
    (try dsimp only)
    (try k_fold)
    rename _ = PySem.Data.cell (some (Value.ref ld)) => c1
    have ne0 := ne_news N9' (by k_mem) (by k_mem) c1
    have ne1 := ne_news N9' (by k_mem) (by k_mem) e5
    have ne2 := ne_news N9' (by k_mem) (by k_mem) e4
    have ne3 := ne_news N9' (by k_mem) (by k_mem) e3
    have ne4 := ne_news N9' (by k_mem) (by k_mem) e2
    have ne5 := ne_news N9' (by k_mem) (by k_mem) e1
    (k_with "mine_sum" => (k_dflt (refine sum_K hI9' (by exact rfl) (by k_asm) (by k_asm) (by walk_at "mine_in") ?_); intro hs6 ts6 tt6 most hmost F6 N6; (try dsimp only)))
    have hP : Plain [d0, d1, d2, d3, d4, d5] := plain_ok _
    have hd5 : 0 ≤ d5 ∧ d5 < 10 ^ 9 := drawn_mem (by rw [hD]; simp)
    have hsd : Sz d5 := sz_9 hd5
    have hln := hP.lens
    rw [hL] at hln
    have q0 := hln l0 (by simp)
    have q1 := hln l1 (by simp)
    have q2 := hln l2 (by simp)
    have q3 := hln l3 (by simp)
    have hL4 : ∀ z ∈ ([l0, l1, l2, l3] : List Int), 0 ≤ z ∧ z ≤ 100 := fun z hz => by
      have := hln z hz
      omega
    have hsum : 0 ≤ (lengthsF [d0, d1, d2, d3, d4, d5]).sum ∧ (lengthsF [d0, d1, d2, d3, d4, d5]).sum ≤ 1000 := by
      rw [hL]
      simp only [List.sum_cons, List.sum_nil]
      omega
    walk_at "mine_steps"
    unfold Halt
    k_dflt (refine c_rows _ _ _ _ _ ld 0 d0 d1 d2 d3 d4 d5 t0 t1 t2 t3 t4 t5 ?hl2 _ _ _ _ _ _ _ _ _ _ _ _ _ _ _ _ _ (by k_asm) (by k_asm) (by k_asm) (by k_asm) (by k_asm) (by first | exact rfl | assumption) (by first | decide | walk_at "mine_room") (by first | decide | walk_at "mine_units") ?_)
    case hl2 => k_mem
    intro v9 nw9 h8 tk8 hp9 F8 N8
    obtain ⟨lr, items8, ep8, rfl, rfl, hI8⟩ := hp9
    have hsh := hP.short
    obtain ⟨y0, y1, y2, y3, y4, u0, u1, u2, u3, u4, rfl, hR⟩ := strs5 hI8 (rows_len _ 4)
    rw [hR] at hsh
    (try simp only [List.cons_append, List.nil_append] at N8)
    (try dsimp only)
    (try k_fold)
    walk_at "mine_steps"
    unfold Halt
    k_dflt (refine c_sent _ _ _ _ _ ld lr 0 ep8 d0 d1 d2 d3 d4 d5 t0 t1 t2 t3 t4 t5 y0 y1 y2 y3 y4 u0 u1 u2 u3 u4 ?hl3 ?hl4 hsh _ _ _ _ _ _ _ _ _ _ _ _ _ _ _ _ _ (by k_asm) (by k_asm) (by k_asm) (by k_asm) (by k_asm) (by first | exact rfl | assumption) (by first | decide | walk_at "mine_room") (by first | decide | walk_at "mine_units") ?_)
    case hl3 => k_mem
    case hl4 => k_mem
    intro v9 nw9 h7 tk7 hp9 F7 N7
    obtain ⟨lq, items7, ep7, xs, rfl, rfl, hI7, hx7⟩ := hp9
    rw [hP.split xs (by rw [hx7, ← hR]; rfl)] at hI7
    have hsm := hP.small
    obtain ⟨z0, z1, z2, z3, z4, w0, w1, w2, w3, w4, rfl, hZ⟩ := strs5 hI7 (rowsT_len _ 4)
    rw [hZ] at hsm
    (try simp only [List.cons_append, List.nil_append] at N7)
    (try dsimp only)
    (try k_fold)
    rename _ = PySem.Data.cell (some (Value.ref ll)) => c2
    rename _ = PySem.Data.cell (some (Value.ref ld)) => c1
    have nf0 := ne_news N7 (by k_mem) (by k_mem) c1
    have nf1 := ne_news N7 (by k_mem) (by k_mem) c2
    have nf2 := ne_news N7 (by k_mem) (by k_mem) e4
    have nf3 := ne_news N7 (by k_mem) (by k_mem) e3
    have nf4 := ne_news N7 (by k_mem) (by k_mem) e2
    have nf5 := ne_news N7 (by k_mem) (by k_mem) e1
    have ng0 := ne_news N7 (show (lr, _) ∈ _ by k_mem) (by k_mem) c1
    have ng1 := ne_news N7 (show (lr, _) ∈ _ by k_mem) (by k_mem) c2
    have ng2 := ne_news N7 (show (lr, _) ∈ _ by k_mem) (by k_mem) e4
    have ng3 := ne_news N7 (show (lr, _) ∈ _ by k_mem) (by k_mem) e3
    have ng4 := ne_news N7 (show (lr, _) ∈ _ by k_mem) (by k_mem) e2
    have ng5 := ne_news N7 (show (lr, _) ∈ _ by k_mem) (by k_mem) e1
    walk_at "mine_steps"
    unfold Halt
    k_dflt (refine wpAny_Assign_Name ?_ (by with_unfolding_all rfl))
    k_dflt (refine ListComp_RC (by k_asm) (by with_unfolding_all rfl) (by intro _; rfl) (by intro _; rfl) (by rfl) (by decide) (by intro _ _; rfl) ?_)
    walk_at "mine_steps"
    refine ⟨_, 0, 5, _, _, _, 5, _, rfl, rfl, by k_asm, by k_asm, by assumption, by decide, by decide, by decide, fun gg => ?_⟩
    have hmo : 0 ≤ most ∧ most ≤ 1000 := hmost ▸ hsum
    intro v I0 oI0 C0 oC0 K0 oK0 D0 h5 tk5 E5 hv hcell F5 N5 off5 ap5
    obtain ⟨tv, rfl⟩ := hv
    replace hcell : oK0.data = PySem.Data.cell (some (Value.int 0 tv)) := hcell
    (try dsimp only)
    (try k_fold)
    k_dflt (refine ListComp_ints (by k_asm) (by with_unfolding_all rfl) (by decide) (by rfl) (by decide) (by rfl) ?_)
    walk_at "mine_steps"
    refine ⟨_, _, _, _, 0, _, fun k => levF costU (lst z0) (lst ([z0, z1, z2, z3, z4].getD k Str.empty)) most, rfl, rfl, by k_asm, by k_asm, by assumption, by decide, ?_, ?_⟩
    · intro k t I2 oI2 C2 oC2 D2 m2 h6 tk6 ys2 E6 hk hC2 hx2 F6 N6
      exact absurd hk (Nat.not_lt_zero _)
    intro H0 ys0 h6 tk6 hI0 F6 N6 o6
    (try dsimp only)
    refine endC_mk F6 N6 o6 off5 trivial ?_
    clear F6 N6 o6 off5 ap5
    intro v I1 oI1 C1 oC1 K1 oK1 D1 h5 tk5 E5 hv hcell F5 N5 off5 ap5
    obtain ⟨tv, rfl⟩ := hv
    replace hcell : oK1.data = PySem.Data.cell (some (Value.int 1 tv)) := hcell
    (try dsimp only)
    (try k_fold)
    k_dflt (refine ListComp_ints (by k_asm) (by with_unfolding_all rfl) (by decide) (by rfl) (by decide) (by rfl) ?_)
    walk_at "mine_steps"
    refine ⟨_, _, _, _, 1, _, fun k => levF costU (lst z1) (lst ([z0, z1, z2, z3, z4].getD k Str.empty)) most, rfl, rfl, by k_asm, by k_asm, by assumption, by decide, ?_, ?_⟩
    · intro k t I2 oI2 C2 oC2 D2 m2 h6 tk6 ys2 E6 hk hC2 hx2 F6 N6
      (try dsimp only)
      (try k_fold)
      walk_at "mine_steps"
      unfold Halt
      k_dflt (refine c_lev _ _ _ _ _ _ _ _ _ _ _ (hsm _ (by simp)) (hsm _ (by assumption)) hmo _ _ _ _ _ _ _ _ _ _ _ _ _ _ _ _ _ (by k_asm) (by k_asm) (by k_asm) (by k_asm) (by k_asm) (by first | exact rfl | assumption) (by first | decide | walk_at "mine_room") (by first | decide | walk_at "mine_units") ?_)
      intro v9 nw9 h9 tk9 hp9 F9 N9
      obtain ⟨t9, rfl, rfl⟩ := hp9
      simp only [List.nil_append] at N9
      (try dsimp only)
      walk_at "mine_steps"
      exact EndI.mk (by rename _ = List.getD _ _ _ => hya; rw [hya]; rfl) (by k_asm) N9 (by walk_at "mine_sub")
    intro H1 ys1 h6 tk6 hI1 F6 N6 o6
    (try dsimp only)
    refine endC_mk F6 N6 o6 off5 trivial ?_
    clear F6 N6 o6 off5 ap5
    intro v I2 oI2 C2 oC2 K2 oK2 D2 h5 tk5 E5 hv hcell F5 N5 off5 ap5
    obtain ⟨tv, rfl⟩ := hv
    replace hcell : oK2.data = PySem.Data.cell (some (Value.int 2 tv)) := hcell
    (try dsimp only)
    (try k_fold)
    k_dflt (refine ListComp_ints (by k_asm) (by with_unfolding_all rfl) (by decide) (by rfl) (by decide) (by rfl) ?_)
    walk_at "mine_steps"
    refine ⟨_, _, _, _, 2, _, fun k => levF costU (lst z2) (lst ([z0, z1, z2, z3, z4].getD k Str.empty)) most, rfl, rfl, by k_asm, by k_asm, by assumption, by decide, ?_, ?_⟩
    · intro k t I2 oI2 C2 oC2 D2 m2 h6 tk6 ys2 E6 hk hC2 hx2 F6 N6
      (try dsimp only)
      (try k_fold)
      walk_at "mine_steps"
      unfold Halt
      k_dflt (refine c_lev _ _ _ _ _ _ _ _ _ _ _ (hsm _ (by simp)) (hsm _ (by assumption)) hmo _ _ _ _ _ _ _ _ _ _ _ _ _ _ _ _ _ (by k_asm) (by k_asm) (by k_asm) (by k_asm) (by k_asm) (by first | exact rfl | assumption) (by first | decide | walk_at "mine_room") (by first | decide | walk_at "mine_units") ?_)
      intro v9 nw9 h9 tk9 hp9 F9 N9
      obtain ⟨t9, rfl, rfl⟩ := hp9
      simp only [List.nil_append] at N9
      (try dsimp only)
      walk_at "mine_steps"
      exact EndI.mk (by rename _ = List.getD _ _ _ => hya; rw [hya]; rfl) (by k_asm) N9 (by walk_at "mine_sub")
    intro H2 ys2 h6 tk6 hI2 F6 N6 o6
    (try dsimp only)
    refine endC_mk F6 N6 o6 off5 trivial ?_
    clear F6 N6 o6 off5 ap5
    intro v I3 oI3 C3 oC3 K3 oK3 D3 h5 tk5 E5 hv hcell F5 N5 off5 ap5
    obtain ⟨tv, rfl⟩ := hv
    replace hcell : oK3.data = PySem.Data.cell (some (Value.int 3 tv)) := hcell
    (try dsimp only)
    (try k_fold)
    k_dflt (refine ListComp_ints (by k_asm) (by with_unfolding_all rfl) (by decide) (by rfl) (by decide) (by rfl) ?_)
    walk_at "mine_steps"
    refine ⟨_, _, _, _, 3, _, fun k => levF costU (lst z3) (lst ([z0, z1, z2, z3, z4].getD k Str.empty)) most, rfl, rfl, by k_asm, by k_asm, by assumption, by decide, ?_, ?_⟩
    · intro k t I2 oI2 C2 oC2 D2 m2 h6 tk6 ys2 E6 hk hC2 hx2 F6 N6
      (try dsimp only)
      (try k_fold)
      walk_at "mine_steps"
      unfold Halt
      k_dflt (refine c_lev _ _ _ _ _ _ _ _ _ _ _ (hsm _ (by simp)) (hsm _ (by assumption)) hmo _ _ _ _ _ _ _ _ _ _ _ _ _ _ _ _ _ (by k_asm) (by k_asm) (by k_asm) (by k_asm) (by k_asm) (by first | exact rfl | assumption) (by first | decide | walk_at "mine_room") (by first | decide | walk_at "mine_units") ?_)
      intro v9 nw9 h9 tk9 hp9 F9 N9
      obtain ⟨t9, rfl, rfl⟩ := hp9
      simp only [List.nil_append] at N9
      (try dsimp only)
      walk_at "mine_steps"
      exact EndI.mk (by rename _ = List.getD _ _ _ => hya; rw [hya]; rfl) (by k_asm) N9 (by walk_at "mine_sub")
    intro H3 ys3 h6 tk6 hI3 F6 N6 o6
    (try dsimp only)
    refine endC_mk F6 N6 o6 off5 trivial ?_
    clear F6 N6 o6 off5 ap5
    intro v I4 oI4 C4 oC4 K4 oK4 D4 h5 tk5 E5 hv hcell F5 N5 off5 ap5
    obtain ⟨tv, rfl⟩ := hv
    replace hcell : oK4.data = PySem.Data.cell (some (Value.int 4 tv)) := hcell
    (try dsimp only)
    (try k_fold)
    k_dflt (refine ListComp_ints (by k_asm) (by with_unfolding_all rfl) (by decide) (by rfl) (by decide) (by rfl) ?_)
    walk_at "mine_steps"
    refine ⟨_, _, _, _, 4, _, fun k => levF costU (lst z4) (lst ([z0, z1, z2, z3, z4].getD k Str.empty)) most, rfl, rfl, by k_asm, by k_asm, by assumption, by decide, ?_, ?_⟩
    · intro k t I2 oI2 C2 oC2 D2 m2 h6 tk6 ys2 E6 hk hC2 hx2 F6 N6
      (try dsimp only)
      (try k_fold)
      walk_at "mine_steps"
      unfold Halt
      k_dflt (refine c_lev _ _ _ _ _ _ _ _ _ _ _ (hsm _ (by simp)) (hsm _ (by assumption)) hmo _ _ _ _ _ _ _ _ _ _ _ _ _ _ _ _ _ (by k_asm) (by k_asm) (by k_asm) (by k_asm) (by k_asm) (by first | exact rfl | assumption) (by first | decide | walk_at "mine_room") (by first | decide | walk_at "mine_units") ?_)
      intro v9 nw9 h9 tk9 hp9 F9 N9
      obtain ⟨t9, rfl, rfl⟩ := hp9
      simp only [List.nil_append] at N9
      (try dsimp only)
      walk_at "mine_steps"
      exact EndI.mk (by rename _ = List.getD _ _ _ => hya; rw [hya]; rfl) (by k_asm) N9 (by walk_at "mine_sub")
    intro H4 ys4 h6 tk6 hI4 F6 N6 o6
    (try dsimp only)
    refine endC_mk F6 N6 o6 off5 trivial ?_
    clear F6 N6 o6 off5 ap5
    intro DH h6 tk6 F6 N6 o6
    (try dsimp only)
    (try simp only [List.nil_append, List.cons_append] at N6)
    have nh := ne_news N6 (show (DH, W.listOf _ _) ∈ _ by walk_at "mine_in") (by walk_at "mine_in") e2
    have nh0 := ne_news N6 (show (H0, W.listOf _ _) ∈ _ by walk_at "mine_in") (by walk_at "mine_in") e2
    have nh1 := ne_news N6 (show (H1, W.listOf _ _) ∈ _ by walk_at "mine_in") (by walk_at "mine_in") e2
    have nh2 := ne_news N6 (show (H2, W.listOf _ _) ∈ _ by walk_at "mine_in") (by walk_at "mine_in") e2
    have nh3 := ne_news N6 (show (H3, W.listOf _ _) ∈ _ by walk_at "mine_in") (by walk_at "mine_in") e2
    have nh4 := ne_news N6 (show (H4, W.listOf _ _) ∈ _ by walk_at "mine_in") (by walk_at "mine_in") e2
    (try k_fold)
    walk_at "mine_steps"
    unfold Halt
    k_dflt (refine ListComp_RC (by k_asm) (by with_unfolding_all rfl) (by intro _; rfl) (by intro _; rfl) (by rfl) (by decide) (by intro _ _; rfl) ?_)
    walk_at "mine_steps"
    refine ⟨_, 0, 5, _, _, _, 5, _, rfl, rfl, by k_asm, by k_asm, by assumption, by decide, by decide, by decide, fun gg => ?_⟩
    intro v I0 oI0 C0 oC0 K0 oK0 D0 h5 tk5 E5 hv hcell F5 N5 off5 ap5
    obtain ⟨tv, rfl⟩ := hv
    replace hcell : oK0.data = PySem.Data.cell (some (Value.int 0 tv)) := hcell
    (try dsimp only)
    (try k_fold)
    k_dflt (refine ListComp_ints (by k_asm) (by with_unfolding_all rfl) (by decide) (by rfl) (by decide) (by rfl) ?_)
    walk_at "mine_steps"
    refine ⟨_, _, _, _, 0, _, fun k => wayG [d0, d1, d2, d3, d4, d5] [l0, l1, l2, l3] 8 0 (k : Int), rfl, rfl, by k_asm, by k_asm, by assumption, by decide, ?_, ?_⟩
    · intro k t I2 oI2 C2 oC2 D2 m2 h6 tk6 ys2 E6 hk hC2 hx2 F6 N6
      exact absurd hk (Nat.not_lt_zero _)
    intro Hw0 ysw0 h6 tk6 hIw0 F6 N6 o6
    (try dsimp only)
    refine endC_mk F6 N6 o6 off5 trivial ?_
    clear F6 N6 o6 off5 ap5
    intro v I1 oI1 C1 oC1 K1 oK1 D1 h5 tk5 E5 hv hcell F5 N5 off5 ap5
    obtain ⟨tv, rfl⟩ := hv
    replace hcell : oK1.data = PySem.Data.cell (some (Value.int 1 tv)) := hcell
    (try dsimp only)
    (try k_fold)
    k_dflt (refine ListComp_ints (by k_asm) (by with_unfolding_all rfl) (by decide) (by rfl) (by decide) (by rfl) ?_)
    walk_at "mine_steps"
    refine ⟨_, _, _, _, 1, _, fun k => wayG [d0, d1, d2, d3, d4, d5] [l0, l1, l2, l3] 8 1 (k : Int), rfl, rfl, by k_asm, by k_asm, by assumption, by decide, ?_, ?_⟩
    · intro k t I2 oI2 C2 oC2 D2 m2 h6 tk6 ys2 E6 hk hC2 hx2 F6 N6
      (try dsimp only)
      (try k_fold)
      walk_at "mine_steps"
      unfold Halt
      k_dflt (refine c_way _ _ _ _ _ ld ll 0 ep9 d0 d1 d2 d3 d4 d5 l0 l1 l2 l3 _ _ t0 t1 t2 t3 t4 t5 s0 s1 s2 s3 _ _ ?hwl1 ?hwq1 hL4 (by decide) (nk4 hk (by decide)) _ _ _ _ _ _ _ _ _ _ _ _ _ _ _ _ _ (by k_asm) (by k_asm) (by k_asm) (by k_asm) (by k_asm) (by first | exact rfl | assumption) (by first | decide | walk_at "mine_room") (by first | decide | walk_at "mine_units") ?_)
      case hwl1 => walk_at "mine_in"
      case hwq1 => walk_at "mine_in"
      intro v9 nw9 h9 tk9 hp9 F9 N9
      obtain ⟨t9, rfl, rfl⟩ := hp9
      simp only [List.nil_append] at N9
      (try dsimp only)
      walk_at "mine_steps"
      exact EndI.mk rfl (by k_asm) N9 (by walk_at "mine_sub")
    intro Hw1 ysw1 h6 tk6 hIw1 F6 N6 o6
    (try dsimp only)
    refine endC_mk F6 N6 o6 off5 trivial ?_
    clear F6 N6 o6 off5 ap5
    intro v I2 oI2 C2 oC2 K2 oK2 D2 h5 tk5 E5 hv hcell F5 N5 off5 ap5
    obtain ⟨tv, rfl⟩ := hv
    replace hcell : oK2.data = PySem.Data.cell (some (Value.int 2 tv)) := hcell
    (try dsimp only)
    (try k_fold)
    k_dflt (refine ListComp_ints (by k_asm) (by with_unfolding_all rfl) (by decide) (by rfl) (by decide) (by rfl) ?_)
    walk_at "mine_steps"
    refine ⟨_, _, _, _, 2, _, fun k => wayG [d0, d1, d2, d3, d4, d5] [l0, l1, l2, l3] 8 2 (k : Int), rfl, rfl, by k_asm, by k_asm, by assumption, by decide, ?_, ?_⟩
    · intro k t I2 oI2 C2 oC2 D2 m2 h6 tk6 ys2 E6 hk hC2 hx2 F6 N6
      (try dsimp only)
      (try k_fold)
      walk_at "mine_steps"
      unfold Halt
      k_dflt (refine c_way _ _ _ _ _ ld ll 0 ep9 d0 d1 d2 d3 d4 d5 l0 l1 l2 l3 _ _ t0 t1 t2 t3 t4 t5 s0 s1 s2 s3 _ _ ?hwl2 ?hwq2 hL4 (by decide) (nk4 hk (by decide)) _ _ _ _ _ _ _ _ _ _ _ _ _ _ _ _ _ (by k_asm) (by k_asm) (by k_asm) (by k_asm) (by k_asm) (by first | exact rfl | assumption) (by first | decide | walk_at "mine_room") (by first | decide | walk_at "mine_units") ?_)
      case hwl2 => walk_at "mine_in"
      case hwq2 => walk_at "mine_in"
      intro v9 nw9 h9 tk9 hp9 F9 N9
      obtain ⟨t9, rfl, rfl⟩ := hp9
      simp only [List.nil_append] at N9
      (try dsimp only)
      walk_at "mine_steps"
      exact EndI.mk rfl (by k_asm) N9 (by walk_at "mine_sub")
    intro Hw2 ysw2 h6 tk6 hIw2 F6 N6 o6
    (try dsimp only)
    refine endC_mk F6 N6 o6 off5 trivial ?_
    clear F6 N6 o6 off5 ap5
    intro v I3 oI3 C3 oC3 K3 oK3 D3 h5 tk5 E5 hv hcell F5 N5 off5 ap5
    obtain ⟨tv, rfl⟩ := hv
    replace hcell : oK3.data = PySem.Data.cell (some (Value.int 3 tv)) := hcell
    (try dsimp only)
    (try k_fold)
    k_dflt (refine ListComp_ints (by k_asm) (by with_unfolding_all rfl) (by decide) (by rfl) (by decide) (by rfl) ?_)
    walk_at "mine_steps"
    refine ⟨_, _, _, _, 3, _, fun k => wayG [d0, d1, d2, d3, d4, d5] [l0, l1, l2, l3] 8 3 (k : Int), rfl, rfl, by k_asm, by k_asm, by assumption, by decide, ?_, ?_⟩
    · intro k t I2 oI2 C2 oC2 D2 m2 h6 tk6 ys2 E6 hk hC2 hx2 F6 N6
      (try dsimp only)
      (try k_fold)
      walk_at "mine_steps"
      unfold Halt
      k_dflt (refine c_way _ _ _ _ _ ld ll 0 ep9 d0 d1 d2 d3 d4 d5 l0 l1 l2 l3 _ _ t0 t1 t2 t3 t4 t5 s0 s1 s2 s3 _ _ ?hwl3 ?hwq3 hL4 (by decide) (nk4 hk (by decide)) _ _ _ _ _ _ _ _ _ _ _ _ _ _ _ _ _ (by k_asm) (by k_asm) (by k_asm) (by k_asm) (by k_asm) (by first | exact rfl | assumption) (by first | decide | walk_at "mine_room") (by first | decide | walk_at "mine_units") ?_)
      case hwl3 => walk_at "mine_in"
      case hwq3 => walk_at "mine_in"
      intro v9 nw9 h9 tk9 hp9 F9 N9
      obtain ⟨t9, rfl, rfl⟩ := hp9
      simp only [List.nil_append] at N9
      (try dsimp only)
      walk_at "mine_steps"
      exact EndI.mk rfl (by k_asm) N9 (by walk_at "mine_sub")
    intro Hw3 ysw3 h6 tk6 hIw3 F6 N6 o6
    (try dsimp only)
    refine endC_mk F6 N6 o6 off5 trivial ?_
    clear F6 N6 o6 off5 ap5
    intro v I4 oI4 C4 oC4 K4 oK4 D4 h5 tk5 E5 hv hcell F5 N5 off5 ap5
    obtain ⟨tv, rfl⟩ := hv
    replace hcell : oK4.data = PySem.Data.cell (some (Value.int 4 tv)) := hcell
    (try dsimp only)
    (try k_fold)
    k_dflt (refine ListComp_ints (by k_asm) (by with_unfolding_all rfl) (by decide) (by rfl) (by decide) (by rfl) ?_)
    walk_at "mine_steps"
    refine ⟨_, _, _, _, 4, _, fun k => wayG [d0, d1, d2, d3, d4, d5] [l0, l1, l2, l3] 8 4 (k : Int), rfl, rfl, by k_asm, by k_asm, by assumption, by decide, ?_, ?_⟩
    · intro k t I2 oI2 C2 oC2 D2 m2 h6 tk6 ys2 E6 hk hC2 hx2 F6 N6
      (try dsimp only)
      (try k_fold)
      walk_at "mine_steps"
      unfold Halt
      k_dflt (refine c_way _ _ _ _ _ ld ll 0 ep9 d0 d1 d2 d3 d4 d5 l0 l1 l2 l3 _ _ t0 t1 t2 t3 t4 t5 s0 s1 s2 s3 _ _ ?hwl4 ?hwq4 hL4 (by decide) (nk4 hk (by decide)) _ _ _ _ _ _ _ _ _ _ _ _ _ _ _ _ _ (by k_asm) (by k_asm) (by k_asm) (by k_asm) (by k_asm) (by first | exact rfl | assumption) (by first | decide | walk_at "mine_room") (by first | decide | walk_at "mine_units") ?_)
      case hwl4 => walk_at "mine_in"
      case hwq4 => walk_at "mine_in"
      intro v9 nw9 h9 tk9 hp9 F9 N9
      obtain ⟨t9, rfl, rfl⟩ := hp9
      simp only [List.nil_append] at N9
      (try dsimp only)
      walk_at "mine_steps"
      exact EndI.mk rfl (by k_asm) N9 (by walk_at "mine_sub")
    intro Hw4 ysw4 h6 tk6 hIw4 F6 N6 o6
    (try dsimp only)
    refine endC_mk F6 N6 o6 off5 trivial ?_
    clear F6 N6 o6 off5 ap5
    intro DW h6 tk6 F6 N6 o6
    (try dsimp only)
    (try simp only [List.nil_append, List.cons_append] at N6)
    have hw : ∀ i j : Nat, j < i → i < 5 → levF costU (lst ([z0, z1, z2, z3, z4].getD i Str.empty)) (lst ([z0, z1, z2, z3, z4].getD j Str.empty)) most = wayG [d0, d1, d2, d3, d4, d5] [l0, l1, l2, l3] 8 (i : Int) (j : Int) := fun i j h1 h2 => by
      rw [hmost, ← hZ, hP.way i j h1 h2, hL]
    have hJ0 : IntsAre ys0 ((List.range 0).map fun k : Nat => wayG [d0, d1, d2, d3, d4, d5] [l0, l1, l2, l3] 8 0 (k : Int)) := by
      rw [← show (List.range 0).map (fun k : Nat => levF costU (lst z0) (lst ([z0, z1, z2, z3, z4].getD k Str.empty)) most) = (List.range 0).map (fun k : Nat => wayG [d0, d1, d2, d3, d4, d5] [l0, l1, l2, l3] 8 0 (k : Int)) from List.map_congr_left fun j hj => hw 0 j (List.mem_range.mp hj) (by decide)]
      exact hI0
    clear hI0
    have hJ1 : IntsAre ys1 ((List.range 1).map fun k : Nat => wayG [d0, d1, d2, d3, d4, d5] [l0, l1, l2, l3] 8 1 (k : Int)) := by
      rw [← show (List.range 1).map (fun k : Nat => levF costU (lst z1) (lst ([z0, z1, z2, z3, z4].getD k Str.empty)) most) = (List.range 1).map (fun k : Nat => wayG [d0, d1, d2, d3, d4, d5] [l0, l1, l2, l3] 8 1 (k : Int)) from List.map_congr_left fun j hj => hw 1 j (List.mem_range.mp hj) (by decide)]
      exact hI1
    clear hI1
    have hJ2 : IntsAre ys2 ((List.range 2).map fun k : Nat => wayG [d0, d1, d2, d3, d4, d5] [l0, l1, l2, l3] 8 2 (k : Int)) := by
      rw [← show (List.range 2).map (fun k : Nat => levF costU (lst z2) (lst ([z0, z1, z2, z3, z4].getD k Str.empty)) most) = (List.range 2).map (fun k : Nat => wayG [d0, d1, d2, d3, d4, d5] [l0, l1, l2, l3] 8 2 (k : Int)) from List.map_congr_left fun j hj => hw 2 j (List.mem_range.mp hj) (by decide)]
      exact hI2
    clear hI2
    have hJ3 : IntsAre ys3 ((List.range 3).map fun k : Nat => wayG [d0, d1, d2, d3, d4, d5] [l0, l1, l2, l3] 8 3 (k : Int)) := by
      rw [← show (List.range 3).map (fun k : Nat => levF costU (lst z3) (lst ([z0, z1, z2, z3, z4].getD k Str.empty)) most) = (List.range 3).map (fun k : Nat => wayG [d0, d1, d2, d3, d4, d5] [l0, l1, l2, l3] 8 3 (k : Int)) from List.map_congr_left fun j hj => hw 3 j (List.mem_range.mp hj) (by decide)]
      exact hI3
    clear hI3
    have hJ4 : IntsAre ys4 ((List.range 4).map fun k : Nat => wayG [d0, d1, d2, d3, d4, d5] [l0, l1, l2, l3] 8 4 (k : Int)) := by
      rw [← show (List.range 4).map (fun k : Nat => levF costU (lst z4) (lst ([z0, z1, z2, z3, z4].getD k Str.empty)) most) = (List.range 4).map (fun k : Nat => wayG [d0, d1, d2, d3, d4, d5] [l0, l1, l2, l3] 8 4 (k : Int)) from List.map_congr_left fun j hj => hw 4 j (List.mem_range.mp hj) (by decide)]
      exact hI4
    clear hI4
    clear hw hsm hZ
    walk_at "mine_steps"
    unfold Halt
    have nx0 := ne_news N6 (show (DH, W.listOf _ _) ∈ _ by walk_at "mine_in") (by walk_at "mine_in") e1
    have nx1 := ne_news N6 (show (H0, W.listOf _ _) ∈ _ by walk_at "mine_in") (by walk_at "mine_in") e1
    have nx2 := ne_news N6 (show (H1, W.listOf _ _) ∈ _ by walk_at "mine_in") (by walk_at "mine_in") e1
    have nx3 := ne_news N6 (show (H2, W.listOf _ _) ∈ _ by walk_at "mine_in") (by walk_at "mine_in") e1
    have nx4 := ne_news N6 (show (H3, W.listOf _ _) ∈ _ by walk_at "mine_in") (by walk_at "mine_in") e1
    have nx5 := ne_news N6 (show (H4, W.listOf _ _) ∈ _ by walk_at "mine_in") (by walk_at "mine_in") e1
    have nx6 := ne_news N6 (show (DW, W.listOf _ _) ∈ _ by walk_at "mine_in") (by walk_at "mine_in") e1
    have nx7 := ne_news N6 (show (Hw0, W.listOf _ _) ∈ _ by walk_at "mine_in") (by walk_at "mine_in") e1
    have nx8 := ne_news N6 (show (Hw1, W.listOf _ _) ∈ _ by walk_at "mine_in") (by walk_at "mine_in") e1
    have nx9 := ne_news N6 (show (Hw2, W.listOf _ _) ∈ _ by walk_at "mine_in") (by walk_at "mine_in") e1
    have nx10 := ne_news N6 (show (Hw3, W.listOf _ _) ∈ _ by walk_at "mine_in") (by walk_at "mine_in") e1
    have nx11 := ne_news N6 (show (Hw4, W.listOf _ _) ∈ _ by walk_at "mine_in") (by walk_at "mine_in") e1
    k_dflt (refine ne_same5 N6 (by walk_at "mine_in") (by walk_at "mine_in") (by walk_at "mine_in") (by walk_at "mine_in") (by walk_at "mine_in") (by walk_at "mine_in") (by walk_at "mine_in") (by walk_at "mine_in") (by walk_at "mine_in") (by walk_at "mine_in") (by walk_at "mine_in") (by walk_at "mine_in") hJ0 hJ1 hJ2 hJ3 hJ4 hIw0 hIw1 hIw2 hIw3 hIw4 ?hu ?_)
    case hu => units_room
    (try dsimp only)
    walk_at "mine_steps"
    unfold Halt
    k_dflt (refine Assign_TC (by k_asm) (by rfl) (by with_unfolding_all rfl) (by with_unfolding_all rfl) (by intro _; rfl) (by intro _; rfl) (by rfl) (by decide) (by intro _ _; rfl) (by rfl) (by rfl) ?_)
    (try dsimp only)
    walk_at "mine_steps"
    rename News _ _ _ _ => NT
    have NS := news_prune NT
    clear NT
    refine ⟨_, _, _, rfl, rfl, by k_asm, NS, .inr ⟨_, List.Mem.head _, rfl, _, rfl⟩, show (5 : Nat) ≤ sizeLine by decide, fun gg => ?_⟩
    intro v I0 oI0 C0 oC0 K0 oK0 D0 h5 tk5 E5 hv hcell F5 N5 off5 ap5
    have hv9 : Value.int 1 _ = v := Option.some.inj hv
    clear hv
    subst hv9
    (try dsimp only)
    (try k_fold)
    k_dflt (refine ListComp_ints (by k_asm) (by with_unfolding_all rfl) (by decide) (by rfl) (by decide) (by rfl) ?_)
    walk_at "mine_steps"
    refine ⟨_, _, _, _, 5, _, gridM [d0, d1, d2, d3, d4, d5] d5 0, rfl, rfl, by k_asm, by k_asm, by assumption, by decide, ?_, ?_⟩
    · intro k t I2 oI2 C2 oC2 D2 m2 h6 tk6 ysx E6 hk hC2 hx2 F6 N6
      (try dsimp only)
      (try k_fold)
      walk_at "mine_steps"
      · unfold Halt
        rename (1 : Int) ≠ _ => hne
        k_dflt (refine half_K (f := fun i => (List.range i).map fun k : Nat => wayG [d0, d1, d2, d3, d4, d5] [l0, l1, l2, l3] 8 (i : Int) (k : Int)) (by k_asm) (by walk_at "mine_in") (by walk_at "mine_in") (by walk_at "mine_in") (by walk_at "mine_in") (by walk_at "mine_in") (by walk_at "mine_in") hJ0 hJ1 hJ2 hJ3 hJ4 (mx_b (by decide) (nk5 hk)) ?_ (by with_unfolding_all rfl) (by kmk_pure))
        intro Hh yh hmh hih
        (try dsimp only)
        walk_at "mine_steps"
        unfold Halt
        k_dflt (refine itemI_K (by k_asm) hmh hih (mn_0 (by decide) (nk5 hk)) (mn_lt (by decide) (nk5 hk) hne) (mn_62 (by decide) (nk5 hk)) ?_ (by with_unfolding_all rfl))
        intro yv yt hyv
        (try dsimp only)
        walk_at "mine_steps"
        unfold Halt
        k_dflt (refine c_add _ _ _ _ _ _ _ _ _ (sz_way hL4 _ _ hyv) hsd _ _ _ _ _ _ _ _ _ _ _ _ _ _ _ _ _ (by k_asm) (by k_asm) (by k_asm) (by k_asm) (by k_asm) (by first | exact rfl | assumption) (by first | decide | walk_at "mine_room") (by first | decide | walk_at "mine_units") ?_)
        intro v9 nw9 h9 tk9 hp9 F9 N9
        obtain ⟨t9, rfl, rfl⟩ := hp9
        simp only [List.nil_append] at N9
        (try dsimp only)
        walk_at "mine_steps"
        exact EndI.mk (gridM_ne (i := 1) rfl hL hne hyv (if_max _ _) (if_min _ _)) (by k_asm) N9 (by walk_at "mine_sub")
      · unfold Halt
        rename (1 : Int) = _ => heq
        k_dflt (refine c_add _ _ _ _ _ _ _ _ _ (by unfold Sz; decide) hsd _ _ _ _ _ _ _ _ _ _ _ _ _ _ _ _ _ (by k_asm) (by k_asm) (by k_asm) (by k_asm) (by k_asm) (by first | exact rfl | assumption) (by first | decide | walk_at "mine_room") (by first | decide | walk_at "mine_units") ?_)
        intro v9 nw9 h9 tk9 hp9 F9 N9
        obtain ⟨t9, rfl, rfl⟩ := hp9
        simp only [List.nil_append] at N9
        (try dsimp only)
        walk_at "mine_steps"
        exact EndI.mk (gridM_eq (i := 1) rfl heq) (by k_asm) N9 (by walk_at "mine_sub")
    intro G0 ysg0 h6 tk6 hG0 F6 N6 o6
    (try dsimp only)
    refine endC_mk F6 N6 o6 off5 (by walk_at "mine_tup") ?_
    have og0 := off_drop 4 o6
    simp only [List.drop_succ_cons, List.drop_zero] at og0
    clear F6 N6 o6 off5 ap5
    intro v I1 oI1 C1 oC1 K1 oK1 D1 h5 tk5 E5 hv hcell F5 N5 off5 ap5
    have hv9 : Value.int 0 _ = v := Option.some.inj hv
    clear hv
    subst hv9
    (try dsimp only)
    (try k_fold)
    k_dflt (refine ListComp_ints (by k_asm) (by with_unfolding_all rfl) (by decide) (by rfl) (by decide) (by rfl) ?_)
    walk_at "mine_steps"
    refine ⟨_, _, _, _, 5, _, gridM [d0, d1, d2, d3, d4, d5] d5 1, rfl, rfl, by k_asm, by k_asm, by assumption, by decide, ?_, ?_⟩
    · intro k t I2 oI2 C2 oC2 D2 m2 h6 tk6 ysx E6 hk hC2 hx2 F6 N6
      (try dsimp only)
      (try k_fold)
      walk_at "mine_steps"
      · unfold Halt
        rename (0 : Int) ≠ _ => hne
        k_dflt (refine half_K (f := fun i => (List.range i).map fun k : Nat => wayG [d0, d1, d2, d3, d4, d5] [l0, l1, l2, l3] 8 (i : Int) (k : Int)) (by k_asm) (by walk_at "mine_in") (by walk_at "mine_in") (by walk_at "mine_in") (by walk_at "mine_in") (by walk_at "mine_in") (by walk_at "mine_in") hJ0 hJ1 hJ2 hJ3 hJ4 (mx_b (by decide) (nk5 hk)) ?_ (by with_unfolding_all rfl) (by kmk_pure))
        intro Hh yh hmh hih
        (try dsimp only)
        walk_at "mine_steps"
        unfold Halt
        k_dflt (refine itemI_K (by k_asm) hmh hih (mn_0 (by decide) (nk5 hk)) (mn_lt (by decide) (nk5 hk) hne) (mn_62 (by decide) (nk5 hk)) ?_ (by with_unfolding_all rfl))
        intro yv yt hyv
        (try dsimp only)
        walk_at "mine_steps"
        unfold Halt
        k_dflt (refine c_add _ _ _ _ _ _ _ _ _ (sz_way hL4 _ _ hyv) hsd _ _ _ _ _ _ _ _ _ _ _ _ _ _ _ _ _ (by k_asm) (by k_asm) (by k_asm) (by k_asm) (by k_asm) (by first | exact rfl | assumption) (by first | decide | walk_at "mine_room") (by first | decide | walk_at "mine_units") ?_)
        intro v9 nw9 h9 tk9 hp9 F9 N9
        obtain ⟨t9, rfl, rfl⟩ := hp9
        simp only [List.nil_append] at N9
        (try dsimp only)
        walk_at "mine_steps"
        exact EndI.mk (gridM_ne (i := 0) rfl hL hne hyv (if_max _ _) (if_min _ _)) (by k_asm) N9 (by walk_at "mine_sub")
      · unfold Halt
        rename (0 : Int) = _ => heq
        k_dflt (refine c_add _ _ _ _ _ _ _ _ _ (by unfold Sz; decide) hsd _ _ _ _ _ _ _ _ _ _ _ _ _ _ _ _ _ (by k_asm) (by k_asm) (by k_asm) (by k_asm) (by k_asm) (by first | exact rfl | assumption) (by first | decide | walk_at "mine_room") (by first | decide | walk_at "mine_units") ?_)
        intro v9 nw9 h9 tk9 hp9 F9 N9
        obtain ⟨t9, rfl, rfl⟩ := hp9
        simp only [List.nil_append] at N9
        (try dsimp only)
        walk_at "mine_steps"
        exact EndI.mk (gridM_eq (i := 0) rfl heq) (by k_asm) N9 (by walk_at "mine_sub")
    intro G1 ysg1 h6 tk6 hG1 F6 N6 o6
    (try dsimp only)
    refine endC_mk F6 N6 o6 off5 (by walk_at "mine_tup") ?_
    have og1 := off_drop 4 o6
    simp only [List.drop_succ_cons, List.drop_zero] at og1
    clear F6 N6 o6 off5 ap5
    intro v I2 oI2 C2 oC2 K2 oK2 D2 h5 tk5 E5 hv hcell F5 N5 off5 ap5
    have hv9 : Value.int 2 _ = v := Option.some.inj hv
    clear hv
    subst hv9
    (try dsimp only)
    (try k_fold)
    k_dflt (refine ListComp_ints (by k_asm) (by with_unfolding_all rfl) (by decide) (by rfl) (by decide) (by rfl) ?_)
    walk_at "mine_steps"
    refine ⟨_, _, _, _, 5, _, gridM [d0, d1, d2, d3, d4, d5] d5 2, rfl, rfl, by k_asm, by k_asm, by assumption, by decide, ?_, ?_⟩
    · intro k t I2 oI2 C2 oC2 D2 m2 h6 tk6 ysx E6 hk hC2 hx2 F6 N6
      (try dsimp only)
      (try k_fold)
      walk_at "mine_steps"
      · unfold Halt
        rename (2 : Int) ≠ _ => hne
        k_dflt (refine half_K (f := fun i => (List.range i).map fun k : Nat => wayG [d0, d1, d2, d3, d4, d5] [l0, l1, l2, l3] 8 (i : Int) (k : Int)) (by k_asm) (by walk_at "mine_in") (by walk_at "mine_in") (by walk_at "mine_in") (by walk_at "mine_in") (by walk_at "mine_in") (by walk_at "mine_in") hJ0 hJ1 hJ2 hJ3 hJ4 (mx_b (by decide) (nk5 hk)) ?_ (by with_unfolding_all rfl) (by kmk_pure))
        intro Hh yh hmh hih
        (try dsimp only)
        walk_at "mine_steps"
        unfold Halt
        k_dflt (refine itemI_K (by k_asm) hmh hih (mn_0 (by decide) (nk5 hk)) (mn_lt (by decide) (nk5 hk) hne) (mn_62 (by decide) (nk5 hk)) ?_ (by with_unfolding_all rfl))
        intro yv yt hyv
        (try dsimp only)
        walk_at "mine_steps"
        unfold Halt
        k_dflt (refine c_add _ _ _ _ _ _ _ _ _ (sz_way hL4 _ _ hyv) hsd _ _ _ _ _ _ _ _ _ _ _ _ _ _ _ _ _ (by k_asm) (by k_asm) (by k_asm) (by k_asm) (by k_asm) (by first | exact rfl | assumption) (by first | decide | walk_at "mine_room") (by first | decide | walk_at "mine_units") ?_)
        intro v9 nw9 h9 tk9 hp9 F9 N9
        obtain ⟨t9, rfl, rfl⟩ := hp9
        simp only [List.nil_append] at N9
        (try dsimp only)
        walk_at "mine_steps"
        exact EndI.mk (gridM_ne (i := 2) rfl hL hne hyv (if_max _ _) (if_min _ _)) (by k_asm) N9 (by walk_at "mine_sub")
      · unfold Halt
        rename (2 : Int) = _ => heq
        k_dflt (refine c_add _ _ _ _ _ _ _ _ _ (by unfold Sz; decide) hsd _ _ _ _ _ _ _ _ _ _ _ _ _ _ _ _ _ (by k_asm) (by k_asm) (by k_asm) (by k_asm) (by k_asm) (by first | exact rfl | assumption) (by first | decide | walk_at "mine_room") (by first | decide | walk_at "mine_units") ?_)
        intro v9 nw9 h9 tk9 hp9 F9 N9
        obtain ⟨t9, rfl, rfl⟩ := hp9
        simp only [List.nil_append] at N9
        (try dsimp only)
        walk_at "mine_steps"
        exact EndI.mk (gridM_eq (i := 2) rfl heq) (by k_asm) N9 (by walk_at "mine_sub")
    intro G2 ysg2 h6 tk6 hG2 F6 N6 o6
    (try dsimp only)
    refine endC_mk F6 N6 o6 off5 (by walk_at "mine_tup") ?_
    have og2 := off_drop 4 o6
    simp only [List.drop_succ_cons, List.drop_zero] at og2
    clear F6 N6 o6 off5 ap5
    intro v I3 oI3 C3 oC3 K3 oK3 D3 h5 tk5 E5 hv hcell F5 N5 off5 ap5
    have hv9 : Value.int 3 _ = v := Option.some.inj hv
    clear hv
    subst hv9
    (try dsimp only)
    (try k_fold)
    k_dflt (refine ListComp_ints (by k_asm) (by with_unfolding_all rfl) (by decide) (by rfl) (by decide) (by rfl) ?_)
    walk_at "mine_steps"
    refine ⟨_, _, _, _, 5, _, gridM [d0, d1, d2, d3, d4, d5] d5 3, rfl, rfl, by k_asm, by k_asm, by assumption, by decide, ?_, ?_⟩
    · intro k t I2 oI2 C2 oC2 D2 m2 h6 tk6 ysx E6 hk hC2 hx2 F6 N6
      (try dsimp only)
      (try k_fold)
      walk_at "mine_steps"
      · unfold Halt
        rename (3 : Int) ≠ _ => hne
        k_dflt (refine half_K (f := fun i => (List.range i).map fun k : Nat => wayG [d0, d1, d2, d3, d4, d5] [l0, l1, l2, l3] 8 (i : Int) (k : Int)) (by k_asm) (by walk_at "mine_in") (by walk_at "mine_in") (by walk_at "mine_in") (by walk_at "mine_in") (by walk_at "mine_in") (by walk_at "mine_in") hJ0 hJ1 hJ2 hJ3 hJ4 (mx_b (by decide) (nk5 hk)) ?_ (by with_unfolding_all rfl) (by kmk_pure))
        intro Hh yh hmh hih
        (try dsimp only)
        walk_at "mine_steps"
        unfold Halt
        k_dflt (refine itemI_K (by k_asm) hmh hih (mn_0 (by decide) (nk5 hk)) (mn_lt (by decide) (nk5 hk) hne) (mn_62 (by decide) (nk5 hk)) ?_ (by with_unfolding_all rfl))
        intro yv yt hyv
        (try dsimp only)
        walk_at "mine_steps"
        unfold Halt
        k_dflt (refine c_add _ _ _ _ _ _ _ _ _ (sz_way hL4 _ _ hyv) hsd _ _ _ _ _ _ _ _ _ _ _ _ _ _ _ _ _ (by k_asm) (by k_asm) (by k_asm) (by k_asm) (by k_asm) (by first | exact rfl | assumption) (by first | decide | walk_at "mine_room") (by first | decide | walk_at "mine_units") ?_)
        intro v9 nw9 h9 tk9 hp9 F9 N9
        obtain ⟨t9, rfl, rfl⟩ := hp9
        simp only [List.nil_append] at N9
        (try dsimp only)
        walk_at "mine_steps"
        exact EndI.mk (gridM_ne (i := 3) rfl hL hne hyv (if_max _ _) (if_min _ _)) (by k_asm) N9 (by walk_at "mine_sub")
      · unfold Halt
        rename (3 : Int) = _ => heq
        k_dflt (refine c_add _ _ _ _ _ _ _ _ _ (by unfold Sz; decide) hsd _ _ _ _ _ _ _ _ _ _ _ _ _ _ _ _ _ (by k_asm) (by k_asm) (by k_asm) (by k_asm) (by k_asm) (by first | exact rfl | assumption) (by first | decide | walk_at "mine_room") (by first | decide | walk_at "mine_units") ?_)
        intro v9 nw9 h9 tk9 hp9 F9 N9
        obtain ⟨t9, rfl, rfl⟩ := hp9
        simp only [List.nil_append] at N9
        (try dsimp only)
        walk_at "mine_steps"
        exact EndI.mk (gridM_eq (i := 3) rfl heq) (by k_asm) N9 (by walk_at "mine_sub")
    intro G3 ysg3 h6 tk6 hG3 F6 N6 o6
    (try dsimp only)
    refine endC_mk F6 N6 o6 off5 (by walk_at "mine_tup") ?_
    have og3 := off_drop 4 o6
    simp only [List.drop_succ_cons, List.drop_zero] at og3
    clear F6 N6 o6 off5 ap5
    intro v I4 oI4 C4 oC4 K4 oK4 D4 h5 tk5 E5 hv hcell F5 N5 off5 ap5
    have hv9 : Value.int 4 _ = v := Option.some.inj hv
    clear hv
    subst hv9
    (try dsimp only)
    (try k_fold)
    k_dflt (refine ListComp_ints (by k_asm) (by with_unfolding_all rfl) (by decide) (by rfl) (by decide) (by rfl) ?_)
    walk_at "mine_steps"
    refine ⟨_, _, _, _, 5, _, gridM [d0, d1, d2, d3, d4, d5] d5 4, rfl, rfl, by k_asm, by k_asm, by assumption, by decide, ?_, ?_⟩
    · intro k t I2 oI2 C2 oC2 D2 m2 h6 tk6 ysx E6 hk hC2 hx2 F6 N6
      (try dsimp only)
      (try k_fold)
      walk_at "mine_steps"
      · unfold Halt
        rename (4 : Int) ≠ _ => hne
        k_dflt (refine half_K (f := fun i => (List.range i).map fun k : Nat => wayG [d0, d1, d2, d3, d4, d5] [l0, l1, l2, l3] 8 (i : Int) (k : Int)) (by k_asm) (by walk_at "mine_in") (by walk_at "mine_in") (by walk_at "mine_in") (by walk_at "mine_in") (by walk_at "mine_in") (by walk_at "mine_in") hJ0 hJ1 hJ2 hJ3 hJ4 (mx_b (by decide) (nk5 hk)) ?_ (by with_unfolding_all rfl) (by kmk_pure))
        intro Hh yh hmh hih
        (try dsimp only)
        walk_at "mine_steps"
        unfold Halt
        k_dflt (refine itemI_K (by k_asm) hmh hih (mn_0 (by decide) (nk5 hk)) (mn_lt (by decide) (nk5 hk) hne) (mn_62 (by decide) (nk5 hk)) ?_ (by with_unfolding_all rfl))
        intro yv yt hyv
        (try dsimp only)
        walk_at "mine_steps"
        unfold Halt
        k_dflt (refine c_add _ _ _ _ _ _ _ _ _ (sz_way hL4 _ _ hyv) hsd _ _ _ _ _ _ _ _ _ _ _ _ _ _ _ _ _ (by k_asm) (by k_asm) (by k_asm) (by k_asm) (by k_asm) (by first | exact rfl | assumption) (by first | decide | walk_at "mine_room") (by first | decide | walk_at "mine_units") ?_)
        intro v9 nw9 h9 tk9 hp9 F9 N9
        obtain ⟨t9, rfl, rfl⟩ := hp9
        simp only [List.nil_append] at N9
        (try dsimp only)
        walk_at "mine_steps"
        exact EndI.mk (gridM_ne (i := 4) rfl hL hne hyv (if_max _ _) (if_min _ _)) (by k_asm) N9 (by walk_at "mine_sub")
      · unfold Halt
        rename (4 : Int) = _ => heq
        k_dflt (refine c_add _ _ _ _ _ _ _ _ _ (by unfold Sz; decide) hsd _ _ _ _ _ _ _ _ _ _ _ _ _ _ _ _ _ (by k_asm) (by k_asm) (by k_asm) (by k_asm) (by k_asm) (by first | exact rfl | assumption) (by first | decide | walk_at "mine_room") (by first | decide | walk_at "mine_units") ?_)
        intro v9 nw9 h9 tk9 hp9 F9 N9
        obtain ⟨t9, rfl, rfl⟩ := hp9
        simp only [List.nil_append] at N9
        (try dsimp only)
        walk_at "mine_steps"
        exact EndI.mk (gridM_eq (i := 4) rfl heq) (by k_asm) N9 (by walk_at "mine_sub")
    intro G4 ysg4 h6 tk6 hG4 F6 N6 o6
    (try dsimp only)
    refine endC_mk F6 N6 o6 off5 (by walk_at "mine_tup") ?_
    have og4 := off_drop 4 o6
    simp only [List.drop_succ_cons, List.drop_zero] at og4
    clear F6 N6 o6 off5 ap5
    intro DG h6 tk6 F6 N6 o6
    (try dsimp only)
    (try simp only [List.nil_append, List.cons_append] at N6)
    obtain ⟨M, HM, hM0, hMd⟩ := hP.piv d5 l0 l1 l2 l3 hd5.1 hd5.2 hL
    rw [← hM0] at hG0 hG1 hG2 hG3 hG4
    (try k_fold)
    walk_at "mine_steps"
    unfold Halt
    k_dflt (refine c_piv5 _ _ _ _ M HM _ _ _ _ _ _ _ _ _ _ _ _ o6 og4 og3 og2 og1 og0 hG0 hG1 hG2 hG3 hG4 _ _ _ _ _ _ _ _ _ _ _ _ _ _ _ _ _ (by k_asm) (by k_asm) (by k_asm) (by k_asm) (by k_asm) (by first | exact rfl | assumption) (by first | decide | walk_at "mine_room") (by first | decide | walk_at "mine_units") ?_)
    intro v9 nw9 h9 tk9 hp9 F9 N9
    obtain ⟨lp, itp, epp, rfl, rfl, hIp⟩ := hp9
    simp only [List.cons_append, List.nil_append, List.drop_succ_cons, List.drop_zero] at N9
    (try dsimp only)
    walk_at "mine_steps"
    unfold Halt
    (clear hG0 hG1 hG2 hG3 hG4 o6 og0 og1 og2 og3 og4 N6 F6)
    k_dflt (refine c_due _ _ _ _ _ ll ep9 l0 l1 l2 l3 d5 s0 s1 s2 s3 t5 ?hl9 q0 q1 q2 q3 hd5 _ _ _ _ _ _ _ _ _ _ _ _ _ _ _ _ _ (by k_asm) (by k_asm) (by k_asm) (by k_asm) (by k_asm) (by first | exact rfl | assumption) (by first | decide | walk_at "mine_room") (by first | decide | walk_at "mine_units") ?_)
    case hl9 => walk_at "mine_in"
    intro v9 nw9 h8 tk8 hp9 F8 N8
    obtain ⟨lu, itu, epu, rfl, rfl, hIu⟩ := hp9
    simp only [List.cons_append, List.nil_append] at N8
    (try dsimp only)
    (try k_fold)
    walk_at "mine_steps"
    rw [hMd, decide_eq_true rfl]
    k_dflt (refine goodW_bool (by exact F8) (by assumption) (raisesW_false ?hn) ?hp)
    case hn => wrow_none_raised
    case hp => exact post_true _)
end
end
end Mine
theorem PySem.Challenge.cw_sw0012_01_holds : PySem.Challenge.rw_sw0012_01.Holds := by
  exact Mine.lawX
