import PyProof.Rows.All
import Wide.All
import OpenK.AllK
import Wide.FinOn
import PySem.Challenge.RW_bb6037_01
open PySem PySem.W PyProof.Rows
set_option Elab.async false
set_option maxRecDepth 100000
set_option maxHeartbeats 8000000

namespace Mine
open_top hd for PySem.Challenge.rw_bb6037_01
end Mine

namespace Mine

theorem enter {prog : Program} {w : World} {A : Around} {s : Shared} {g : Heap} {K : Frag} {p : Program} {loose : List Str} {mean : ExcName → Option Value} {mg mb : Str → Option Value}
    {Q E : Value → Shared → Prop} {name qual : Str} {params : Arguments} {body : List Stmt} {scope : Scope} {dV kV doc pm cdv ct oc : Value} {an od : Option Addr} {osl : Array (Option Value)} {f : Addr} {args : List Value} {binds : List (Str × Value)} {news : List (Addr × Obj)}
    (hk : ∀ b o, g.get? b = some o → s.heap.get? b = some o) (hz : g.objs.size ≤ s.heap.objs.size) (hnews : ∀ p ∈ news, s.heap.get? p.1 = some p.2 ∧ g.get? p.1 = none)
    (X : K.In g) (T : Top p loose mean mg mb g)
    (ho : K.lookup f = some ⟨oc, od, .func (fnOf name qual params body scope dV kV doc pm an cdv ct), osl⟩) (hcd : codeIn K cdv qual = true) (hroom : A.depth < recursionLimit)
    (hbind : BindsTo s (fnOf name qual params body scope dV kV doc pm an cdv ct) ⟨args, []⟩ binds) (hloc : ∀ y ∈ binds, scope.names.lookup y.1 = some .local)
    (hco : scope.isCoroutine = false) (hgen : scope.isGenerator = false) (hk' : scope.kind = .function)
    (hcell : ∀ x ∈ scope.names, x.2 ≠ .cell)
    (h : ∀ L h₁, Fr g L h₁ (fun y => binds.reverse.lookup y) → News g L h₁ news → (∀ b o, s.heap.get? b = some o → b ≠ L) →
      wpAny (model prog w) (A.deeper (envOf qual scope L f cdv)) (execs body (envOf qual scope L f cdv))
        (fun fl s' => Q (match fl with | .ret v => v | _ => .none) s') (fun _ _ => False)
        { s with heap := h₁, toks := s.toks + binds.length }) :
    wpAny (model prog w) A (call (.ref f) args) Q E s := by
  refine wpAny_call ?_
  have Xs : K.In s.heap := X.keeps hk
  refine codeAny_call_def (fd := fnOf name qual params body scope dV kV doc pm an cdv ct) (body := body) (binds := binds) hroom (Xs _ _ ho) rfl (T.nolimit.keeps hk) (codeRec_of Xs hcd) rfl hbind hcell hloc (fun h₁ hns hk₁ => ?_) hco hgen hk'
  refine wpAny_mono (h _ h₁ ⟨hns, fun b o e => hk₁ b o (hk b o e), hz⟩ (fun p hp => ⟨hk₁ _ _ (hnews p hp).1, Nat.ne_of_lt (Heap.lt_size (hnews p hp).1), (hnews p hp).2⟩) (fun b o e => Nat.ne_of_lt (Heap.lt_size e))) (fun _ _ x => x) (fun _ _ x => x.elim)

theorem enterC {prog : Program} {w : World} {A : Around} {s : Shared} {K : Frag} {p : Program} {loose : List Str} {mean : ExcName → Option Value} {mg mb : Str → Option Value}
    {Q E : Value → Shared → Prop} {name qual : Str} {params : Arguments} {body : List Stmt} {scope : Scope} {dV kV doc pm cdv ct oc : Value} {an od : Option Addr} {osl : Array (Option Value)} {f : Addr} {args : List Value} {binds : List (Str × Value)}
    (X : K.In s.heap) (T : Top p loose mean mg mb s.heap)
    (ho : K.lookup f = some ⟨oc, od, .func (fnOf name qual params body scope dV kV doc pm an cdv ct), osl⟩) (hcd : codeIn K cdv qual = true) (hroom : A.depth < recursionLimit)
    (hbind : BindsTo s (fnOf name qual params body scope dV kV doc pm an cdv ct) ⟨args, []⟩ binds)
    (hkind : (binds.all fun y => scope.names.lookup y.1 == some .local || scope.names.lookup y.1 == some .cell) = true)
    (hnd : ((cellsFrom 0 scope.names []).map (·.1)).Nodup)
    (hco : scope.isCoroutine = false) (hgen : scope.isGenerator = false) (hk : scope.kind = .function)
    (h : ∀ h₁ tk cells, Fr s.heap s.heap.objs.size h₁ (bindL (envOfC qual scope s.heap.objs.size f cdv).kindOf binds fun _ => none) → News s.heap s.heap.objs.size h₁ cells →
      CellsAre (bindC (envOfC qual scope s.heap.objs.size f cdv).kindOf binds fun _ => none) (cellsFrom (s.heap.objs.size + 1) scope.names []) cells →
      wpAny (model prog w) (A.deeper (envOfC qual scope s.heap.objs.size f cdv)) (execs body (envOfC qual scope s.heap.objs.size f cdv))
        (fun fl s' => Q (match fl with | .ret v => v | _ => .none) s') (fun _ _ => False)
        { s with heap := h₁, toks := tk }) :
    wpAny (model prog w) A (call (.ref f) args) Q E s := by
  refine wpAny_call ?_
  refine codeAny_call_function hroom (X _ _ ho) rfl hco hgen rfl (codeRec_of X hcd) (hbind _ _ _ _ ?_)
  refine wpAny_newFunctionEnv_cells hk (kindsX hkind _) fun env' he s' x => ?_
  subst he
  refine ⟨T.nolimit.keeps x.toInCall.keep, codeAny_func ?_⟩
  obtain ⟨h₁, tk, rfl, _⟩ := x.done
  have hk₁ := x.toInCall.keep
  obtain ⟨cells, NC, Y⟩ := Cl.news (h₀ := s.heap) (Nat.le_refl _) fun n c hm => ⟨x.cell n c (lookup_of_mem_nodup (cellsFrom_names scope.names 0 (s.heap.objs.size + 1) [] [] rfl ▸ hnd) hm), x.above n c hm⟩
  exact wpAny_mono (h h₁ tk cells ⟨x.toInCall.ns, hk₁, Nat.le_refl _⟩ NC Y) (fun _ _ x => x) (fun _ _ x => x.elim)
end Mine

namespace Mine
section
variable {prog : Program} {w : World} {A : Around} {E : Value → Shared → Prop} {s : Shared} {h₀ : Heap} {L : Addr} {m : Str → Option Value} {news : List (Addr × Obj)} {l : Addr} {vs ws : List Value} {x : Int} {u : Tok} {Q : Value → Shared → Prop}

theorem mulL (Fm : Fr h₀ L s.heap m) (N : News h₀ L s.heap news) (hl : s.heap.IsList l [Value.none].toArray) (hlo : -(2 ^ 63 : Int) ≤ x) (hhi : x < 2 ^ 63) (hsz : x ≤ 256)
    (h : ∀ D h', Fr h₀ L h' m → News h₀ L h' ((D, listOf (List.replicate x.toNat Value.none).toArray 0) :: news) → (∀ p ∈ news, p.1 < D) → Q (.ref D) { s with heap := h' }) : wpAny (model prog w) A (binaryOp .Mult (.ref l) (.int x u)) Q E s :=
  KMa.mul Fm N hl hlo hhi (by simp only [List.length_cons, List.length_nil]; omega) (lm_rep_flat_one _ _) h

theorem mulR (Fm : Fr h₀ L s.heap m) (N : News h₀ L s.heap news) (hm : (l, listOf [Value.none].toArray 0) ∈ news) (hlo : -(2 ^ 63 : Int) ≤ x) (hhi : x < 2 ^ 63) (hsz : x ≤ 256)
    (h : ∀ D h', Fr h₀ L h' m → News h₀ L h' ((D, listOf (List.replicate x.toNat Value.none).toArray 0) :: news) → (∀ p ∈ news, p.1 < D) → Q (.ref D) { s with heap := h' }) : wpAny (model prog w) A (binaryOp .Mult (.int x u) (.ref l)) Q E s := by
  refine mul_list_r Fm N (N.get hm) hlo hhi (by show 1 * x.toNat ≤ 2 ^ 24; omega) fun h' F' N' => ?_
  rw [listMul_foldl_if] at N'
  have e : (List.replicate x.toNat [Value.none].toArray.toList).flatten = List.replicate x.toNat Value.none := lm_rep_flat_one _ _
  rw [e] at N'
  exact h _ h' F' N' fun p hp => Heap.lt_size (N p hp).1

theorem addL {b : Addr} (F : Fr h₀ L s.heap m) (N : News h₀ L s.heap news) (ha : s.heap.IsList l vs.toArray) (hb : s.heap.IsList b ws.toArray) (hz : vs.length + ws.length ≤ 2 ^ 20)
    (h : ∀ D h', Fr h₀ L h' m → News h₀ L h' ((D, listOf (vs ++ ws).toArray 0) :: news) → (∀ p ∈ news, p.1 < D) → Q (.ref D) { s with heap := h' }) : wpAny (model prog w) A (binaryOp .Add (.ref l) (.ref b)) Q E s :=
  add_arrays F N ha hb (fun h' F' N' => h _ h' F' N' (fun p hp => Heap.lt_size (N p hp).1)) (by simp only [List.size_toArray]; exact Nat.le_trans hz (by decide))
end
end Mine

namespace Mine

theorem carried_drop : ∀ {vs : List Value} {ds : List PyData} (_ : CarriedAll vs ds) (k : Nat), CarriedAll (vs.drop k) (ds.drop k)
  | _, _, h, 0 => by simpa using h
  | _, _, .nil, k + 1 => by simpa using CarriedAll.nil
  | _, _, .cons c r, k + 1 => by simpa using carried_drop r k
theorem carried_take : ∀ {vs : List Value} {ds : List PyData} (_ : CarriedAll vs ds) (k : Nat), CarriedAll (vs.take k) (ds.take k)
  | _, _, _, 0 => by simpa using CarriedAll.nil
  | _, _, .nil, k + 1 => by simpa using CarriedAll.nil
  | _, _, .cons c r, k + 1 => by simpa using CarriedAll.cons c (carried_take r k)

theorem slice_carried {vs : List Value} {ds : List PyData} {x : Int} (h : CarriedAll vs ds) (h0 : 0 ≤ x) (h1 : x + 7 ≤ vs.length) :
    CarriedAll (slicePick vs.toArray (some x) (some (x + 7)) none).toList ((ds.drop x.toNat).take 7) := by
  rw [slicePick_plain]
  simp only [Option.elim, List.size_toArray]
  rw [clipAt_in h0 (by omega), clipAt_in (by omega) (by omega)]
  have e : (x + 7).toNat - x.toNat = 7 := by omega
  rw [e]
  exact carried_take (carried_drop h _) _

end Mine

namespace Mine
def Hold (P : Prop) : Prop := P
theorem Hold.out {P : Prop} (h : Hold P) : P := h
theorem wpHold {α : Type} {M : Model} {A : Around} {E : Value → Shared → Prop} {s : Shared} {t : Sem α} {Q : α → Shared → Prop} (h : wpAny M A t (fun a s' => Hold (Q a s')) E s) : wpAny M A t Q E s := h
theorem carried_none : ∀ k : Nat, CarriedAll (List.replicate k Value.none) (List.replicate k PyData.none)
  | 0 => .nil
  | k + 1 => .cons .none (carried_none k)
theorem starts_in {w n a : Int} {N : Nat} (h0 : 0 ≤ w) (h1 : 1 ≤ n) (hN : Builtin.Range.rangeSize 0 (w + n) 7 = (N : Int)) (ha : a ∈ rangeInts 0 7 N) : 0 ≤ a ∧ a + 7 ≤ ((w.toNat + n.toNat + 7 : Nat) : Int) := by
  obtain ⟨i, hi, rfl⟩ := List.mem_map.mp ha
  have hi' := List.mem_range.mp hi
  rw [rangeSize_pos (by decide) (by omega)] at hN
  omega
theorem starts_few {w n : Int} {N : Nat} (h0 : w < 7) (h1 : n ≤ 70) (hN : Builtin.Range.rangeSize 0 (w + n) 7 = (N : Int)) : N ≤ 200 := by
  unfold Builtin.Range.rangeSize at hN
  split at hN
  · split at hN <;> omega
  · split at hN <;> omega
theorem small_seven {b : Int} {N : Nat} (h0 : 0 ≤ b) (h1 : b < 2 ^ 60) (hN : Builtin.Range.rangeSize 0 b 7 = (N : Int)) (h2 : N < 2 ^ 60) : Builtin.Range.small 0 b 7 = true := by
  unfold Builtin.Range.small
  rw [hN]
  simp only [Builtin.Range.rangeFitsLong, Bool.and_eq_true, Bool.or_eq_true, decide_eq_true_eq, beq_iff_eq, show (7 : Int) > 0 by decide, if_true]
  omega
def cellsOf (k n : Nat) : List PyData := List.replicate k PyData.none ++ (rangeKs 1 n).map PyData.int ++ List.replicate 7 PyData.none
def toldOf (k n : Nat) : List (List PyData) := (rangeInts 0 7 ((k + n + 6) / 7)).map fun a => ((cellsOf k n).drop a.toNat).take 7
end Mine

namespace Mine
def blank : List PyData := List.replicate 7 PyData.none
def setLast (rows : List (List PyData)) (c : Nat) (v : PyData) : List (List PyData) := rows.dropLast ++ (rows.getLast?.map (·.set c v)).toList
theorem setLast_snoc (pre : List (List PyData)) (last : List PyData) (c : Nat) (v : PyData) : setLast (pre ++ [last]) c v = pre ++ [last.set c v] := by
  unfold setLast
  rw [List.dropLast_concat, List.getLast?_concat]
  rfl
def grown (f i : Nat) (rows : List (List PyData)) : List (List PyData) := if i = 0 ∨ (f + i) % 7 = 0 then rows ++ [blank] else rows
def leafRows (f : Nat) : Nat → List (List PyData)
  | 0 => []
  | i + 1 => setLast (grown f i (leafRows f i)) ((f + i) % 7) (.int ((i : Int) + 1))
theorem leafRows_snoc (f : Nat) : ∀ i, 0 < i → ∃ pre last, leafRows f i = pre ++ [last] ∧ last.length = 7
  | 0, h => absurd h (Nat.lt_irrefl _)
  | i + 1, _ => by
    unfold leafRows grown
    split
    · refine ⟨leafRows f i, blank.set _ _, setLast_snoc _ _ _ _, ?_⟩
      rw [List.length_set]; rfl
    · rename_i h
      obtain ⟨pre, last, e, hl⟩ := leafRows_snoc f i (by omega)
      refine ⟨pre, last.set _ _, by rw [e, setLast_snoc], ?_⟩
      rw [List.length_set]; exact hl

inductive RowsAre : List (Addr × List Value) → List (List PyData) → Prop
  | nil : RowsAre [] []
  | cons {p : Addr × List Value} {l : List (Addr × List Value)} {r : List PyData} {rs : List (List PyData)} : CarriedAll p.2 r → RowsAre l rs → RowsAre (p :: l) (r :: rs)
theorem RowsAre.snoc {p : Addr × List Value} {r : List PyData} (hc : CarriedAll p.2 r) : ∀ {l : List (Addr × List Value)} {rs : List (List PyData)}, RowsAre l rs → RowsAre (l ++ [p]) (rs ++ [r])
  | _, _, .nil => .cons hc .nil
  | _, _, .cons h t => .cons h (t.snoc hc)
theorem RowsAre.split {r : List PyData} : ∀ {rs : List (List PyData)} {l : List (Addr × List Value)}, RowsAre l (rs ++ [r]) → ∃ l₀ p, l = l₀ ++ [p] ∧ RowsAre l₀ rs ∧ CarriedAll p.2 r
  | [], _, .cons h .nil => ⟨[], _, rfl, .nil, h⟩
  | _ :: _, _, .cons h t => by
    obtain ⟨l₀, p, rfl, h0, h1⟩ := t.split
    exact ⟨_ :: l₀, p, rfl, .cons h h0, h1⟩
theorem carried_set {v : Value} {d : PyData} (hv : Carried v d) : ∀ {vs : List Value} {ds : List PyData}, CarriedAll vs ds → ∀ k : Nat, CarriedAll (vs.set k v) (ds.set k d)
  | _, _, .nil, _ => .nil
  | _, _, .cons _ h, 0 => .cons hv h
  | _, _, .cons c h, k + 1 => .cons c (carried_set hv h k)
def rowsLed (led : List (Addr × List Value)) : List (Addr × Obj) := led.map fun p => (p.1, listOf p.2.toArray 0)
def refsOf (led : List (Addr × List Value)) : List Value := led.map fun p => Value.ref p.1
/-- the ledger of a leaf that grows -/
def LeafJ (f i : Nat) (m : Str → Option Value) (news : List (Addr × Obj)) : Prop :=
  ∃ R ep led tc, m "rows" = some (.ref R) ∧ m "column" = some (.int (((f + i) % 7 : Nat) : Int) tc) ∧ news = (R, listOf (refsOf led).toArray ep) :: rowsLed led ∧ (R :: led.map (·.1)).Nodup ∧ RowsAre led (leafRows f i)
theorem RowsAre.length : ∀ {l : List (Addr × List Value)} {rs : List (List PyData)}, RowsAre l rs → l.length = rs.length
  | _, _, .nil => rfl
  | _, _, .cons _ t => by simp [t.length]
end Mine

namespace Mine
section
open PyProof.Rows.LCg
theorem led_snoc {led : List (Addr × List Value)} {p : Addr × List Value} : rowsLed (led ++ [p]) = rowsLed led ++ [(p.1, listOf p.2.toArray 0)] := by
  unfold rowsLed; rw [List.map_append]; rfl
theorem refs_snoc {led : List (Addr × List Value)} {p : Addr × List Value} : refsOf (led ++ [p]) = refsOf led ++ [.ref p.1] := by
  unfold refsOf; rw [List.map_append]; rfl
theorem off1_mem {D : Addr} : ∀ {l : List (Addr × Obj)}, Off1 D l → ∀ p ∈ l, p.1 ≠ D
  | [], _, _, hp => nomatch hp
  | q :: r, h, p, hp => by
    rcases List.mem_cons.mp hp with rfl | hp
    · exact h.1
    · exact off1_mem h.2 p hp
/-- a leaf, each list written out whole -/
def LeafAt (h : Heap) (D : Addr) (led : List (Addr × List Value)) (rows : List (List PyData)) : Prop :=
  (∃ ep, h.get? D = some (listOf (refsOf led).toArray ep)) ∧ (∀ p ∈ rowsLed led, h.get? p.1 = some p.2) ∧ RowsAre led rows ∧ (D :: led.map (·.1)).Nodup

section
variable {prog : Program} {w : World} {A : Around} {E : Value → Shared → Prop} {s : Shared} {h₀ : Heap} {L : Addr} {m : Str → Option Value} {env : Env}
theorem step_walks {I : Addr} (hh : A.handled = none) (a c : Int) (n : Nat) : Walks prog w A I [I] [I] n (fun i v => ∃ t, v = .int (a + (i : Int) * c) t) (fun i h => IsRangeIter h I (a + (i : Nat) * c) ((n : Int) - (i : Nat)) c) :=
  let W : Walks prog w A I [I] [I] n (fun i v => i < n ∧ ∃ t, v = .int (a + i * c) t) (fun i h => IsRangeIter h I (a + (i : Nat) * c) ((n : Int) - (i : Nat)) c) := (Walks.range hh I a c n).bound
  { sub := W.sub, frame := W.frame, done := W.done, self := W.self,
    item := fun i s Q E hi st hQ => W.item i s Q E hi st fun v h' tk hP => hQ v h' tk hP.2 }
theorem step_st {I : Addr} {a c : Int} {n : Nat} : ∀ i (h h' : Heap) (o : Obj) (nw : List (Addr × Obj)), IsRangeIter h I (a + (i : Nat) * c) ((n : Int) - (i : Nat)) c → h.get? I = some o → h'.get? I = some o → (∀ b o, h₀.get? b = some o → h'.get? b = some o) → News h₀ L h' nw → True → IsRangeIter h' I (a + (i : Nat) * c) ((n : Int) - (i : Nat)) c :=
  fun i h h' o nw st e e' _ _ _ => by
    have st' : h.get? I = some _ := st
    show h'.get? I = some _
    rw [e', ← e]; exact st'

/-- the rows that the comprehension has cut so far, by the turn's number -/
def cutRows (ds : List PyData) (i : Nat) : List (List PyData) := (rangeInts 0 7 i).map fun a => (ds.drop a.toNat).take 7
theorem cutRows_snoc (ds : List PyData) (i : Nat) : cutRows ds (i + 1) = cutRows ds i ++ [(ds.drop ((0 : Int) + (i : Int) * 7).toNat).take 7] := by
  unfold cutRows rangeInts
  rw [List.range_succ, List.map_append, List.map_append]
  rfl

theorem chunk_rest {x y : Str} {p1 p2 p3 p4 p5 p6 p7 : Pos} {k : Nat} {scope : Scope} {cl : List (Str × Addr)} {c Dd : Addr} {vs : List Value} {ds : List PyData} {n : Nat} {Fin : List Value → List (Addr × Obj) → Prop} {base : List (Addr × Obj)} {oc od : Obj}
    (hcy : cl.lookup y = some c) (hky : ∀ C, (compEnvC scope cl C env).kindOf y = some .cell) (hkx : ∀ C, (compEnvC scope cl C env).kindOf x = some .local) (hkk : ∀ C, (compEnvC scope cl C env).scope.kind = .function)
    (hdx : (x == ("__debug__" : Str)) = false) (hdy : (y == ("__debug__" : Str)) = false) (hc : CarriedAll vs ds) (hb : ∀ a ∈ rangeInts 0 7 n, 0 ≤ a ∧ a + 7 ≤ vs.length) (hvl : vs.length ≤ sizeLine)
    (hl : letTemporaryGo (Expr.Name y p1) = fun _ _ => pure ())
    (hcm : (c, oc) ∈ base) (hcd : oc.data = .cell (some (.ref Dd))) (hdm : (Dd, od) ∈ base) (hdo : od = listOf vs.toArray 0)
    (fin : ∀ led, (led.map (·.1)).Nodup → RowsAre led (cutRows ds n) → Fin (refsOf led) (rowsLed led ++ base)) :
    ∀ (j i : Nat) (led : List (Addr × List Value)), i + j = n → (led.map (·.1)).Nodup → RowsAre led (cutRows ds i) →
      CompRest prog w A h₀ L m env (.Subscript (.Name y p1) (.Slice (some (.Name x p2)) (some (.BinOp (.Name x p3) .Add (.Constant (.int 7) k p4) p5)) none p6) p7) x scope cl s (fun _ => True) (fun i v => ∃ t, v = .int (0 + (i : Int) * 7) t) Fin j i (refsOf led) (rowsLed led ++ base)
  | 0, i, led, e, hnd, hr => by
    obtain rfl : i = n := e
    exact .zero (fin led hnd hr)
  | j + 1, i, led, e, hnd, hr => by
    refine .succ ?_
    rintro v I oI C oC D m₂ h tk E' ⟨t, rfl⟩ hoC hm₂ F N off hne
    have hab := hb (0 + (i : Int) * 7) (List.mem_map.mpr ⟨i, List.mem_range.mpr (by omega), rfl⟩)
    have Nb : News h₀ L h (rowsLed led ++ base) := fun p hp => N p (.tail _ (.tail _ (.tail _ hp)))
    have hcell : h.IsCell c (some (.ref Dd)) := ⟨oc, Nb.get (List.mem_append_right _ hcm), hcd⟩
    have hdd : h.get? Dd = some (listOf vs.toArray 0) := hdo ▸ Nb.get (List.mem_append_right _ hdm)
    have hns : h.Ns C m₂ := hoC.ns (N.get (.tail _ (.head _)))
    refine wpAny_Subscript_list_slice (wpAny_Name (wpAny_loadName_cell (hkk C) (hky C) hcy hcell ?_) hdy) (by intro o r; rw [hl])
    refine wpAny_evalPart_some (wpAny_Name (wpAny_loadName_local (hkk C) (hkx C) hns hm₂ ?_) hdx)
    refine wpAny_evalPart_some (wpAny_BinOp (wpAny_Name (wpAny_loadName_local (hkk C) (hkx C) hns hm₂ (wpAny_Constant_int (add_int ?_))) hdx))
    refine ⟨Dd, vs.toArray, some (0 + (i : Int) * 7), some (0 + (i : Int) * 7 + 7), rfl, ⟨_, hdd, rfl, _, rfl⟩, by rw [List.size_toArray]; exact hvl, .int _ _, .int _ _, ?_⟩
    have F1 := F.push { cls := .type "slice", data := .fields #[.int (0 + (i : Int) * 7) t, .int (0 + (i : Int) * 7 + 7) (tk + 1), .none] }
    have N1 := N.push F { cls := .type "slice", data := .fields #[.int (0 + (i : Int) * 7) t, .int (0 + (i : Int) * 7 + 7) (tk + 1), .none] }
    have F2 := F1.push { cls := .type "list", data := .seq (slicePick vs.toArray (some (0 + (i : Int) * 7)) (some (0 + (i : Int) * 7 + 7)) none) }
    have N2 := N1.push F1 { cls := .type "list", data := .seq (slicePick vs.toArray (some (0 + (i : Int) * 7)) (some (0 + (i : Int) * 7 + 7)) none) }
    have hT : (h.push { cls := .type "slice", data := .fields #[.int (0 + (i : Int) * 7) t, .int (0 + (i : Int) * 7 + 7) (tk + 1), .none] }).objs.size = h.objs.size + 1 := by rw [Heap.size_push]
    rw [hT] at N2
    have lt : ∀ p ∈ (I, oI) :: (C, oC) :: (D, lst (refsOf led)) :: (rowsLed led ++ base), p.1 < h.objs.size + 1 := fun p hp => Nat.lt_succ_of_lt (Heap.lt_size (N p hp).1)
    have hcut := slice_carried hc hab.1 hab.2
    have hsnoc : RowsAre (led ++ [(h.objs.size + 1, (slicePick vs.toArray (some (0 + (i : Int) * 7)) (some (0 + (i : Int) * 7 + 7)) none).toList)]) (cutRows ds (i + 1)) := by
      rw [cutRows_snoc]
      exact hr.snoc hcut
    refine CompEnd.intro F2 N2 (rowsLed (led ++ [(h.objs.size + 1, (slicePick vs.toArray (some (0 + (i : Int) * 7)) (some (0 + (i : Int) * 7 + 7)) none).toList)]) ++ base) ?_ ?_ trivial ?_
    · rw [led_snoc]
      intro p hp
      rcases List.mem_cons.mp hp with rfl | hp
      · exact .tail _ (.tail _ (.head _))
      · rcases List.mem_cons.mp hp with rfl | hp
        · exact .tail _ (.tail _ (.tail _ (.head _)))
        · rcases List.mem_cons.mp hp with rfl | hp
          · exact .tail _ (.tail _ (.tail _ (.tail _ (.head _))))
          · rcases List.mem_append.mp hp with hp | hp
            · rcases List.mem_append.mp hp with hp | hp
              · exact .tail _ (.tail _ (.tail _ (.tail _ (.tail _ (List.mem_append_left _ hp)))))
              · rw [List.mem_singleton.mp hp]
                exact .head _
            · exact .tail _ (.tail _ (.tail _ (.tail _ (.tail _ (List.mem_append_right _ hp)))))
    · rw [led_snoc]
      refine Off3.of fun p hp => ?_
      have o3 := off.mem
      rcases List.mem_append.mp hp with hp | hp
      · rcases List.mem_append.mp hp with hp | hp
        · exact o3 p (List.mem_append_left _ hp)
        · rw [List.mem_singleton.mp hp]
          exact ⟨Nat.ne_of_gt (lt _ (.head _)), Nat.ne_of_gt (lt _ (.tail _ (.head _))), Nat.ne_of_gt (lt _ (.tail _ (.tail _ (.head _))))⟩
      · exact o3 p (List.mem_append_right _ hp)
    · show CompRest _ _ _ _ _ _ _ _ _ _ _ _ _ _ _ _ _ (refsOf led ++ [Value.ref ((h.objs.size + 1, (slicePick vs.toArray (some (0 + (i : Int) * 7)) (some (0 + (i : Int) * 7 + 7)) none).toList) : Addr × List Value).1]) _
      rw [← refs_snoc]
      refine chunk_rest hcy hky hkx hkk hdx hdy hc hb hvl hl hcm hcd hdm hdo fin j (i + 1) _ (by omega) ?_ hsnoc
      rw [List.map_append]
      refine List.nodup_append.mpr ⟨hnd, List.nodup_cons.mpr ⟨List.not_mem_nil, .nil⟩, fun a ha b hb' => ?_⟩
      rw [List.mem_singleton.mp hb']
      obtain ⟨q, hq, rfl⟩ := List.mem_map.mp ha
      exact Nat.ne_of_lt (lt (q.1, listOf q.2.toArray 0) (.tail _ (.tail _ (.tail _ (List.mem_append_left _ (List.mem_map.mpr ⟨q, hq, rfl⟩))))))

theorem chunks {iter : Expr} {x y : Str} {px p1 p2 p3 p4 p5 p6 p7 : Pos} {k : Nat} {scope : Scope} {cl : List (Str × Addr)} {pos : Pos} {Q : Value → Shared → Prop} {c Dd : Addr} {vs : List Value} {ds : List PyData} {b : Int} {n : Nat} {base : List (Addr × Obj)} {oc : Obj}
    (F₀ : Fr h₀ L s.heap m) (N₀ : News h₀ L s.heap base) (hdm : (Dd, listOf vs.toArray 0) ∈ base) (hh : A.handled = none) (hclos : closureFor scope env = pure cl) (hcell : ∀ y ∈ scope.names, y.2 ≠ .cell) (hkind : scope.kind = .function)
    (hnames : ∀ y ∈ scope.names, y.2 = .local → scope.names.lookup y.1 = some .local) (hx : scope.names.lookup x = some .local)
    (hcy : cl.lookup y = some c) (hky : ∀ C, (compEnvC scope cl C env).kindOf y = some .cell) (hkx : ∀ C, (compEnvC scope cl C env).kindOf x = some .local) (hkk : ∀ C, (compEnvC scope cl C env).scope.kind = .function)
    (hdx : (x == ("__debug__" : Str)) = false) (hdy : (y == ("__debug__" : Str)) = false) (hc : CarriedAll vs ds) (hn : Builtin.Range.rangeSize 0 b 7 = (n : Int)) (hsm : Builtin.Range.small 0 b 7 = true) (hb : ∀ a ∈ rangeInts 0 7 n, 0 ≤ a ∧ a + 7 ≤ vs.length) (hvl : vs.length ≤ sizeLine) (hnl : n ≤ sizeLine)
    (hl : letTemporaryGo (Expr.Name y p1) = fun _ _ => pure ())
    (hcm : (c, oc) ∈ base) (hcd : oc.data = .cell (some (.ref Dd)))
    (h : wpAny (model prog w) A (eval iter env) (fun xv s₁ => ∃ r t u v, xv = .ref r ∧ IsRange s₁.heap r 0 b 7 t u v ∧ Fr h₀ L s₁.heap m ∧ News h₀ L s₁.heap base ∧
      (∀ D led h' tk, Fr h₀ L h' m → LeafAt h' D led (cutRows ds n) → (∀ T ∈ D :: led.map (·.1), h₀.get? T = none) → Q (.ref D) { s₁ with heap := h', toks := tk })) E s)
    (hs : ∀ x, foldedSetIterable iter env x = pure x) :
    wpAny (model prog w) A (eval (.ListComp (.Subscript (.Name y p1) (.Slice (some (.Name x p2)) (some (.BinOp (.Name x p3) .Add (.Constant (.int 7) k p4) p5)) none p6) p7) [⟨.Name x px, iter, [], 0⟩] scope pos) env) Q E s := by
  rw [eval_ListComp]
  refine wpAny_comprehension_free (use := none) rfl hs hclos hkind hnames (wpAny_mono h (fun xv s₁ h₁ => ?_) fun _ _ e => e)
  obtain ⟨r, t, u, v, rfl, hr, F, N, hQ⟩ := h₁
  refine wpAny_pyIter_range hr hsm ?_
  have R : ∀ hp : Heap, CompRest prog w A h₀ L m env (.Subscript (.Name y p1) (.Slice (some (.Name x p2)) (some (.BinOp (.Name x p3) .Add (.Constant (.int 7) k p4) p5)) none p6) p7) x scope cl { s₁ with heap := hp } (fun _ => True) (fun i v => ∃ t, v = .int (0 + (i : Int) * 7) t) (FinE h₀ L m { s₁ with heap := hp } Q) n 0 [] base := fun hp =>
    chunk_rest hcy hky hkx hkk hdx hdy hc hb hvl hl hcm hcd hdm rfl (fun led hnd hr => by
      intro D h' tk F' N' o1
      have ND := N'.get (.head _)
      refine hQ D led h' tk F' ⟨⟨_, ND⟩, fun p hp => N'.get (.tail _ (List.mem_append_left _ hp)), hr, List.nodup_cons.mpr ⟨fun hm => ?_, hnd⟩⟩ fun T hT => ?_
      · obtain ⟨q, hq, e⟩ := List.mem_map.mp hm
        exact off1_mem o1 (q.1, listOf q.2.toArray 0) (List.mem_append_left _ (List.mem_map.mpr ⟨q, hq, rfl⟩)) e
      · rcases List.mem_cons.mp hT with rfl | hT
        · exact N'.fresh (.head _)
        · obtain ⟨q, hq, rfl⟩ := List.mem_map.mp hT
          exact N'.fresh (.tail _ (List.mem_append_left _ (List.mem_map.mpr ⟨q, hq, rfl⟩)))) n 0 [] (Nat.zero_add _) .nil .nil
  refine block_U (step_walks hh 0 7 n) hnl (fun i h st => ⟨_, st⟩) step_st hcell hkind hx (by show IsRangeIter _ _ _ _ _; rw [hn]; simpa using Heap.get?_push_size _ rfl) (fun b hb => ?_)
    (F.keeps fun _ _ e => Heap.get?_push_of_some _ e) (N.grown fun _ _ e => Heap.get?_push_of_some _ e) (Nat.ne_of_lt F.ns.lt) (next_is_new F) (fun p hp => Nat.ne_of_lt (Heap.lt_size (N p hp).1)) trivial
    (R _) ?_
  · rw [List.mem_singleton.mp hb]
    show s₁.heap.objs.size < (s₁.heap.push _).objs.size
    rw [Heap.size_push]; exact Nat.lt_succ_self _
  · intro D C h' tk m' ys news' F' N' o1 hn hC₀ hD₀ hCL hDL hCD offC fin
    refine ⟨m', hn, fun h'' hs'' => fin D h'' tk (F'.change hs'' hCL hC₀) (fun p hp => ?_) o1⟩
    refine ⟨hs''.extBut _ _ ?_ (N' p hp).1, (N' p hp).2⟩
    rcases List.mem_cons.mp hp with rfl | hp
    · exact Ne.symm hCD
    · exact offC p hp
end
end
end Mine

namespace Mine
section
variable {prog : Program} {w : World} {A : Around} {E : Value → Shared → Prop} {s : Shared} {env : Env} {h₀ : Heap} {x : Str} {body : List Stmt} {Q : Flow → Shared → Prop}

/-- what a turn of a loop ends in: the iterator stands, the word holds again -/
def TurnTo (h₀ : Heap) (L : Addr) (I : Addr) (oI : Obj) (J : (Str → Option Value) → List (Addr × Obj) → Prop) (s₁ : Shared) (f : Flow) (s₂ : Shared) : Prop :=
  (f = .next) ∧ ∃ h' tk m' news', s₂ = { s₁ with heap := h', toks := tk } ∧ Fr h₀ L h' m' ∧ News h₀ L h' ((I, oI) :: news') ∧ (∀ p ∈ news', p.1 ≠ I) ∧ J m' news'

theorem loopRange {r : Addr} {a₀ b₀ : Int} {t₀ u₀ v₀ : Tok} {n : Nat} {m₀ : Str → Option Value} {news : List (Addr × Obj)}
    (J : Nat → (Str → Option Value) → List (Addr × Obj) → Prop)
    (hh : A.handled = none) (hr : IsRange s.heap r a₀ b₀ 1 t₀ u₀ v₀) (hsmall : Builtin.Range.small a₀ b₀ 1 = true) (hn : Builtin.Range.rangeSize a₀ b₀ 1 = (n : Int))
    (F : Fr h₀ env.locals s.heap m₀) (N : News h₀ env.locals s.heap news) (hj : J 0 m₀ news)
    (turn : ∀ i t m₁ news₁ h tk I oI, i < n → J i m₁ news₁ → (∀ p ∈ news₁, p.1 ≠ I) → Fr h₀ env.locals h (fun y => if y = x then some (.int (a₀ + (i : Nat)) t) else m₁ y) → News h₀ env.locals h ((I, oI) :: news₁) →
      wpAny (model prog w) A (execs body env) (TurnTo h₀ env.locals I oI (J (i + 1)) { s with heap := h, toks := tk }) E { s with heap := h, toks := tk })
    (done : ∀ m₁ news₁ h tk, J n m₁ news₁ → Fr h₀ env.locals h m₁ → News h₀ env.locals h news₁ → Q .next { s with heap := h, toks := tk }) :
    wpAny (model prog w) A (pyIter (.ref r)) (fun it s₂ => LoopAtV prog w A h₀ env x body Q E it s₂) E s := by
  refine wpAny_pyIter_range hr hsmall ?_
  have W : Walks prog w A s.heap.objs.size [s.heap.objs.size] [s.heap.objs.size] n (fun i v => i < n ∧ ∃ t, v = .int (a₀ + i * 1) t)
      (fun i h => IsRangeIter h s.heap.objs.size (a₀ + (i : Nat) * 1) ((n : Int) - (i : Nat)) 1) := (Walks.range hh _ a₀ 1 n).bound
  have hnew := next_is_new F
  refine ⟨_, _, _, n, _, _, m₀, news, J, rfl, W, ?_, ?_, ?_, (by show IsRangeIter _ _ _ _ _; rw [hn]; simpa using Heap.get?_push_size _ rfl), F.push _, (fun p hp => ⟨Heap.get?_push_of_some _ (N p hp).1, (N p hp).2⟩), hj, ?_, ?_⟩
  · intro hm
    exact absurd F.ns.lt ((List.mem_singleton.mp hm) ▸ Nat.lt_irrefl _)
  · intro b hb
    rw [List.mem_singleton.mp hb]
    exact hnew
  · intro p hp hI
    exact absurd (Heap.lt_size (N p hp).1) ((List.mem_singleton.mp hI) ▸ Nat.lt_irrefl _)
  · rintro i v m₁ news₁ s₁ own ⟨hh', tk', rfl⟩ hin ⟨_, t, rfl⟩ hJ hoff hown hget hall hst F₁ N₁
    have hmem := hall s.heap.objs.size (List.mem_singleton.mpr rfl) hnew _ hst
    have hoff' : ∀ p ∈ news₁, p.1 ≠ s.heap.objs.size := fun p hp e => hoff p hp (List.mem_singleton.mpr e)
    have N₂ : News h₀ env.locals hh' ((s.heap.objs.size, _) :: news₁) := fun p hp => by
      rcases List.mem_cons.mp hp with rfl | hp
      · exact N₁ _ (List.mem_append_left _ hmem)
      · exact N₁ _ (List.mem_append_right _ hp)
    rw [Int.mul_one] at F₁
    refine wpAny_mono (turn i t m₁ news₁ hh' tk' _ _ hin hJ hoff' F₁ N₂) (fun f s₂ p => ?_) fun _ _ e => e
    obtain ⟨rfl, h', tk, m', news', e, F', N', ho, hj'⟩ := p
    refine .next ⟨rfl, h', tk, m', news', e, F', fun p hp => ?_, fun p hp hI => ho p hp (List.mem_singleton.mp hI), hj'⟩
    rcases List.mem_append.mp hp with hp | hp
    · have h1 : p.1 = s.heap.objs.size := List.mem_singleton.mp (hown p hp)
      have h2 : hh'.get? p.1 = some p.2 := hget p hp
      have h4 := (N₂ _ (List.mem_cons_self ..)).1
      rw [h1, h4] at h2
      have h3 : p = (s.heap.objs.size, _) := Prod.ext h1 (Option.some.inj h2).symm
      rw [h3]; exact N' _ (List.mem_cons_self ..)
    · exact N' _ (List.mem_cons_of_mem _ hp)
  · rintro h' tk m' news' F' N' _ hJ
    exact done m' news' h' tk hJ F' N'

end
section
variable {prog : Program} {w : World} {A : Around} {E : Value → Shared → Prop} {s : Shared} {h₀ : Heap} {L : Addr} {m : Str → Option Value} {pre post : List (Addr × Obj)} {D : Addr} {its : Array Value} {n : Nat} {k : Int} {t : Tok} {v : Value}
theorem setAt {Q : Unit → Shared → Prop} (F : Fr h₀ L s.heap m) (N : News h₀ L s.heap (pre ++ (D, listOf its n) :: post)) (a : ∀ p ∈ pre, p.1 ≠ D) (b : ∀ p ∈ post, p.1 ≠ D) (h0 : 0 ≤ k) (hfit : k < 2 ^ 63) (hn : k < its.size)
    (h : ∀ h', Fr h₀ L h' m → News h₀ L h' (pre ++ (D, listOf (its.setIfInBounds k.toNat v) n) :: post) → Q () { s with heap := h' }) :
    wpAny (model prog w) A (setItem (.ref D) (.int k t) v) Q E s := by
  have z := N (D, listOf its n) (List.mem_append.mpr (.inr (.head _)))
  exact ki_setAt z.1 h0 hfit hn (h _ (F.change (Heap.SameBut.update ..) z.2.1 z.2.2) (ki_turn _ N a b rfl (by simp)))

theorem appendAt {Q : Value → Shared → Prop} (F : Fr h₀ L s.heap m) (N : News h₀ L s.heap (pre ++ (D, listOf its n) :: post)) (a : ∀ p ∈ pre, p.1 ≠ D) (b : ∀ p ∈ post, p.1 ≠ D) (hsz : its.size ≤ 2 ^ 20)
    (h : ∀ h', Fr h₀ L h' m → News h₀ L h' (pre ++ (D, listOf (its.push v) (n + 1)) :: post) → Q .none { s with heap := h' }) :
    wpAny (model prog w) A (call (.builtin "list.append") [.ref D, v]) Q E s := by
  have z := N (D, listOf its n) (List.mem_append.mpr (.inr (.head _)))
  exact append_at (hsz := Nat.le_trans hsz (by decide)) z.1 fun h' hs ho' => h h' (F.change hs z.2.1 z.2.2) (news_set N a b hs ho')
end
end Mine

namespace Mine
theorem leaf_new {f i : Nat} {led : List (Addr × List Value)} {D : Addr} {t : Tok} (hg : i = 0 ∨ (f + i) % 7 = 0) (hr : RowsAre led (leafRows f i)) :
    RowsAre (led ++ [(D, (List.replicate 7 Value.none).set ((f + i) % 7) (.int (1 + (i : Int)) t))]) (leafRows f (i + 1)) := by
  unfold leafRows grown
  rw [if_pos hg, setLast_snoc]
  refine hr.snoc ?_
  rw [show (1 + (i : Int)) = (i : Int) + 1 by omega]
  exact carried_set (.int _ _) (carried_none 7) _
theorem leaf_old {f i : Nat} {led : List (Addr × List Value)} {p : Addr × List Value} {t : Tok} (hg : ¬ (i = 0 ∨ (f + i) % 7 = 0)) (hr : RowsAre (led ++ [p]) (leafRows f i)) :
    RowsAre (led ++ [(p.1, p.2.set ((f + i) % 7) (.int (1 + (i : Int)) t))]) (leafRows f (i + 1)) := by
  obtain ⟨pre, last, e, hl⟩ := leafRows_snoc f i (by omega)
  unfold leafRows grown
  rw [if_neg hg, e, setLast_snoc]
  rw [e] at hr
  obtain ⟨l₀, q, e1, h0, h1⟩ := hr.split
  obtain ⟨rfl, e2⟩ := List.append_inj' e1 rfl
  obtain rfl : p = q := by simpa using e2
  refine h0.snoc ?_
  rw [show (1 + (i : Int)) = (i : Int) + 1 by omega]
  exact carried_set (.int _ _) h1 _
theorem leaf_last {f i : Nat} {led : List (Addr × List Value)} (hg : ¬ (i = 0 ∨ (f + i) % 7 = 0)) (hr : RowsAre led (leafRows f i)) : ∃ l₀ p, led = l₀ ++ [p] ∧ p.2.length = 7 := by
  obtain ⟨pre, last, e, hl⟩ := leafRows_snoc f i (by omega)
  rw [e] at hr
  obtain ⟨l₀, q, e1, h0, h1⟩ := hr.split
  exact ⟨l₀, q, e1, by rw [h1.length_eq, hl]⟩
theorem leafRows_few (f : Nat) : ∀ i, (leafRows f i).length ≤ i
  | 0 => Nat.le_refl _
  | i + 1 => by
    have ih := leafRows_few f i
    unfold leafRows grown setLast
    split
    · rw [List.dropLast_concat, List.getLast?_concat]
      simp only [Option.map_some, Option.toList_some, List.length_append, List.length_cons, List.length_nil]
      omega
    · have h1 := List.length_dropLast (xs := leafRows f i)
      have h2 : ((leafRows f i).getLast?.map (fun x => x.set ((f + i) % 7) (PyData.int ((i : Int) + 1)))).toList.length ≤ 1 := by
        cases (leafRows f i).getLast? <;> simp
      simp only [List.length_append]
      omega
theorem led_few {f i : Nat} {led : List (Addr × List Value)} (hr : RowsAre led (leafRows f i)) (hi : i ≤ 70) : (refsOf led).toArray.size ≤ 2 ^ 20 := by
  have h1 := hr.length
  have h2 := leafRows_few f i
  rw [List.size_toArray, refsOf, List.length_map]
  exact Nat.le_trans (m := 70) (by omega) (by decide)
theorem allLt_off {D : Addr} : ∀ {l : List (Addr × Obj)}, AllLt D l → ∀ p ∈ l, p.1 ≠ D
  | [], _, _, hp => nomatch hp
  | q :: r, h, p, hp => by
    rcases List.mem_cons.mp hp with rfl | hp
    · exact Nat.ne_of_lt h.1
    · exact allLt_off h.2 p hp
theorem led_off {R : Addr} {led : List (Addr × List Value)} (hnd : (R :: led.map (·.1)).Nodup) : ∀ p ∈ rowsLed led, p.1 ≠ R := fun p hp e => by
  obtain ⟨q, hq, rfl⟩ := List.mem_map.mp hp
  exact (List.nodup_cons.mp hnd).1 (List.mem_map.mpr ⟨q, hq, e⟩)
theorem next_col (f i : Nat) : ((((f + i) % 7 : Nat) : Int) + 1).fmod 7 = (((f + (i + 1)) % 7 : Nat) : Int) := by
  rw [Int.fmod_eq_emod_of_nonneg _ (by decide)]
  omega
theorem led_mem {led : List (Addr × List Value)} {q : Addr} (h : q ∈ led.map (·.1)) : ∃ o, (q, o) ∈ rowsLed led := by
  obtain ⟨p, hp, rfl⟩ := List.mem_map.mp h
  exact ⟨_, List.mem_map.mpr ⟨p, hp, rfl⟩⟩
theorem nodup_snoc {R D : Addr} {led : List (Addr × List Value)} {vs : List Value} (hnd : (R :: led.map (·.1)).Nodup) (hR : R < D) (hlt : AllLt D (rowsLed led)) : (R :: (led ++ [(D, vs)]).map (·.1)).Nodup := by
  have e : R :: (led ++ [(D, vs)]).map (·.1) = (R :: led.map (·.1)) ++ [D] := by simp
  rw [e]
  refine List.nodup_append.mpr ⟨hnd, List.nodup_cons.mpr ⟨List.not_mem_nil, .nil⟩, fun a ha b hb => ?_⟩
  rw [List.mem_singleton.mp hb]
  rcases List.mem_cons.mp ha with rfl | ha
  · exact Nat.ne_of_lt hR
  · obtain ⟨o, ho⟩ := led_mem ha
    exact allLt_off hlt _ ho
theorem nodup_last {R : Addr} {led : List (Addr × List Value)} {q : Addr × List Value} (hnd : (R :: (led ++ [q]).map (·.1)).Nodup) : ∀ p ∈ rowsLed led, p.1 ≠ q.1 := by
  intro p hp e
  obtain ⟨r, hr, rfl⟩ := List.mem_map.mp hp
  have h := (List.nodup_cons.mp hnd).2
  rw [List.map_append] at h
  exact (List.nodup_append.mp h).2.2 r.1 (List.mem_map.mpr ⟨r, hr, rfl⟩) q.1 (by simp) e
theorem nodup_headlast {R : Addr} {led : List (Addr × List Value)} {q : Addr × List Value} (hnd : (R :: (led ++ [q]).map (·.1)).Nodup) : R ≠ q.1 := by
  intro e
  exact (List.nodup_cons.mp hnd).1 (by rw [e]; simp)
theorem leaf_turn_new {h₀ h' : Heap} {L I R D l : Addr} {oI o : Obj} {m' : Str → Option Value} {f i ep : Nat} {led : List (Addr × List Value)} {t tc : Tok} {c : Int} {s : Shared} {tk' : Nat}
    (F : Fr h₀ L h' m') (N : News h₀ L h' ((D, listOf ((List.replicate 7 Value.none).set ((f + i) % 7) (.int (1 + (i : Int)) t)).toArray 0) :: (l, o) :: (I, oI) :: (R, listOf (refsOf led ++ [Value.ref D]).toArray (ep + 1)) :: rowsLed led))
    (hm1 : m' "rows" = some (.ref R)) (hm2 : m' "column" = some (.int c tc)) (hc : c = (((f + (i + 1)) % 7 : Nat) : Int)) (hg : i = 0 ∨ (f + i) % 7 = 0) (hr : RowsAre led (leafRows f i)) (hnd : (R :: led.map (·.1)).Nodup)
    (hoff : ∀ p ∈ rowsLed led, p.1 ≠ I) (hRI : R ≠ I) (hID : I < D) (hRD : R < D) (hlt : AllLt D (rowsLed led)) : TurnTo h₀ L I oI (LeafJ f (i + 1)) s .next { s with heap := h', toks := tk' } := by
  refine ⟨rfl, h', tk', m', _, rfl, F, ?_, ?_, ⟨R, ep + 1, led ++ [(D, (List.replicate 7 Value.none).set ((f + i) % 7) (.int (1 + (i : Int)) t))], tc, hm1, hc ▸ hm2, rfl, nodup_snoc hnd hRD hlt, leaf_new hg hr⟩⟩
  · rw [refs_snoc, led_snoc]
    intro p hp
    rcases List.mem_cons.mp hp with rfl | hp
    · exact N _ (.tail _ (.tail _ (.head _)))
    · rcases List.mem_cons.mp hp with rfl | hp
      · exact N _ (.tail _ (.tail _ (.tail _ (.head _))))
      · rcases List.mem_append.mp hp with hp | hp
        · exact N _ (.tail _ (.tail _ (.tail _ (.tail _ hp))))
        · rw [List.mem_singleton.mp hp]; exact N _ (.head _)
  · rw [led_snoc]
    intro p hp
    rcases List.mem_cons.mp hp with rfl | hp
    · exact hRI
    · rcases List.mem_append.mp hp with hp | hp
      · exact hoff p hp
      · rw [List.mem_singleton.mp hp]; exact Nat.ne_of_gt hID
theorem leaf_turn_old {h₀ h' : Heap} {L I R : Addr} {oI : Obj} {m' : Str → Option Value} {f i ep : Nat} {led : List (Addr × List Value)} {q : Addr × List Value} {t tc : Tok} {c : Int} {s : Shared} {tk' : Nat}
    (F : Fr h₀ L h' m') (N : News h₀ L h' ((I, oI) :: (R, listOf (refsOf (led ++ [q])).toArray ep) :: (rowsLed led ++ [(q.1, listOf (q.2.set ((f + i) % 7) (.int (1 + (i : Int)) t)).toArray 0)])))
    (hm1 : m' "rows" = some (.ref R)) (hm2 : m' "column" = some (.int c tc)) (hc : c = (((f + (i + 1)) % 7 : Nat) : Int)) (hg : ¬ (i = 0 ∨ (f + i) % 7 = 0)) (hr : RowsAre (led ++ [q]) (leafRows f i)) (hnd : (R :: (led ++ [q]).map (·.1)).Nodup)
    (hoff : ∀ p ∈ (R, listOf (refsOf (led ++ [q])).toArray ep) :: rowsLed (led ++ [q]), p.1 ≠ I) : TurnTo h₀ L I oI (LeafJ f (i + 1)) s .next { s with heap := h', toks := tk' } := by
  have er : refsOf (led ++ [(q.1, q.2.set ((f + i) % 7) (.int (1 + (i : Int)) t))]) = refsOf (led ++ [q]) := by rw [refs_snoc, refs_snoc]
  have el : (led ++ [(q.1, q.2.set ((f + i) % 7) (.int (1 + (i : Int)) t))]).map (·.1) = (led ++ [q]).map (·.1) := by simp
  refine ⟨rfl, h', tk', m', _, rfl, F, ?_, ?_, ⟨R, ep, led ++ [(q.1, q.2.set ((f + i) % 7) (.int (1 + (i : Int)) t))], tc, hm1, hc ▸ hm2, rfl, by rw [el]; exact hnd, leaf_old hg hr⟩⟩
  · rw [er, led_snoc]
    exact N
  · rw [er, led_snoc]
    rw [led_snoc] at hoff
    intro p hp
    rcases List.mem_cons.mp hp with rfl | hp
    · exact hoff _ (.head _)
    · rcases List.mem_append.mp hp with hp | hp
      · exact hoff p (.tail _ (List.mem_append_left _ hp))
      · rw [List.mem_singleton.mp hp]
        exact hoff (q.1, listOf q.2.toArray 0) (.tail _ (List.mem_append_right _ (.head _)))
section
variable {prog : Program} {w : World} {A : Around} {E : Value → Shared → Prop} {s : Shared}
theorem lastItem {value slice : PySem.Expr} {l : Addr} {vs : List Value} {v : Value} {u : Tok} {Q : Value → Shared → Prop} (hl : s.heap.IsList l (vs ++ [v]).toArray) (h : Q v s)
    (hs : subscripted slice false (.ref l) (.int (-1) u) = operate [.ref l, .int (-1) u] (getItem (.ref l) (.int (-1) u)) := by with_unfolding_all rfl) :
    wpAny (model prog w) A (subscriptTail value slice (.ref l) (.int (-1) u)) Q E s := by
  refine tail_any hl.typeIs slot_list_getitem.lookup (wpAny_getItem_list_neg hl (by decide) ?_ (by decide) ?_ h) hs
  · simp only [List.size_toArray, List.length_append, List.length_cons, List.length_nil]; omega
  · have e : (-1 + (((vs ++ [v]).toArray.size : Nat) : Int)).toNat = vs.length := by
      simp only [List.size_toArray, List.length_append, List.length_cons, List.length_nil]; omega
    rw [e]
    simp
end
end Mine

namespace Mine
/-- what stands at the place k of a month's leaf: f the first column, n the days -/
def cell (f n k : Nat) : PyData := if f ≤ k ∧ k < f + n then .int ((k : Int) - f + 1) else .none
def gridRow (f n r : Nat) : List PyData := (List.range 7).map fun c => cell f n (7 * r + c)
def grid (f n : Nat) : List (List PyData) := (List.range ((f + n + 6) / 7)).map (gridRow f n)
theorem gridRow_length (f n r : Nat) : (gridRow f n r).length = 7 := by simp [gridRow]
theorem gridRow_get (f n r j : Nat) (h : j < 7) : (gridRow f n r)[j]? = some (cell f n (7 * r + j)) := by simp [gridRow, h]
theorem gridRow_same {f n n' r : Nat} (h : ∀ c, c < 7 → cell f n (7 * r + c) = cell f n' (7 * r + c)) : gridRow f n r = gridRow f n' r := by
  unfold gridRow
  exact List.map_congr_left fun c hc => h c (List.mem_range.mp hc)
theorem cell_next {f n k : Nat} (h : k ≠ f + n) : cell f (n + 1) k = cell f n k := by
  unfold cell
  by_cases hk : f ≤ k ∧ k < f + n
  · rw [if_pos hk, if_pos (by omega)]
  · rw [if_neg hk, if_neg (by omega)]
theorem cell_new (f n : Nat) : cell f (n + 1) (f + n) = .int ((n : Int) + 1) := by
  unfold cell
  rw [if_pos (by omega)]
  congr 1
  omega
theorem gridRow_set {f n r c : Nat} (hc : c < 7) (h : 7 * r + c = f + n) : (gridRow f n r).set c (.int ((n : Int) + 1)) = gridRow f (n + 1) r := by
  apply List.ext_getElem?
  intro j
  by_cases hj : j < 7
  · rw [gridRow_get _ _ _ _ hj, List.getElem?_set]
    by_cases e : c = j
    · subst e
      rw [if_pos rfl, if_pos (by rw [gridRow_length]; exact hc), h, cell_new]
    · rw [if_neg e, gridRow_get _ _ _ _ hj, cell_next (by omega)]
  · rw [List.getElem?_eq_none (by rw [List.length_set, gridRow_length]; omega), List.getElem?_eq_none (by rw [gridRow_length]; omega)]
theorem gridRow_blank {f n r : Nat} (h : f + n ≤ 7 * r) : gridRow f n r = blank := by
  unfold gridRow blank
  rw [List.eq_replicate_iff]
  refine ⟨by simp, fun d hd => ?_⟩
  obtain ⟨c, _, rfl⟩ := List.mem_map.mp hd
  unfold cell
  rw [if_neg (by omega)]
theorem grid_snoc {f n r : Nat} (h : (f + n + 6) / 7 = r + 1) : grid f n = (List.range r).map (gridRow f n) ++ [gridRow f n r] := by
  unfold grid
  rw [h, List.range_succ, List.map_append]
  rfl
theorem rows_next {f n r : Nat} (h : 7 * r ≤ f + n) : (List.range r).map (gridRow f (n + 1)) = (List.range r).map (gridRow f n) :=
  List.map_congr_left fun q hq => gridRow_same fun c hc => cell_next (by have := List.mem_range.mp hq; omega)
theorem leafRows_grid {f : Nat} (hf : f < 7) : ∀ n, leafRows f (n + 1) = grid f (n + 1)
  | 0 => by
    have e : grid f (0 + 1) = [gridRow f (0 + 1) 0] := by
      rw [grid_snoc (r := 0) (by omega)]; rfl
    rw [e]
    have hfm : (f + 0) % 7 = f := by omega
    unfold leafRows grown leafRows
    rw [if_pos (.inl rfl), setLast_snoc, hfm, ← gridRow_set (c := f) hf (by omega)]
    by_cases h0 : f = 0
    · subst h0; rfl
    · have : gridRow f 0 0 = blank := by
        unfold gridRow blank
        rw [List.eq_replicate_iff]
        refine ⟨by simp, fun d hd => ?_⟩
        obtain ⟨c, _, rfl⟩ := List.mem_map.mp hd
        unfold cell
        rw [if_neg (by omega)]
      rw [this]; rfl
  | n + 1 => by
    have ih := leafRows_grid hf n
    unfold leafRows
    rw [ih]
    have hr : 7 * ((f + (n + 1)) / 7) + (f + (n + 1)) % 7 = f + (n + 1) := by omega
    rw [grid_snoc (f := f) (n := n + 1 + 1) (r := (f + (n + 1)) / 7) (by omega), rows_next (by omega), ← gridRow_set (Nat.mod_lt _ (by decide)) hr]
    unfold grown
    by_cases h0 : (f + (n + 1)) % 7 = 0
    · rw [if_pos (.inr h0), setLast_snoc, gridRow_blank (r := (f + (n + 1)) / 7) (by omega)]
      congr 1
      unfold grid
      rw [show (f + (n + 1) + 6) / 7 = (f + (n + 1)) / 7 by omega]
    · rw [if_neg (by omega), grid_snoc (r := (f + (n + 1)) / 7) (by omega), setLast_snoc]
theorem cellsOf_get {f n k : Nat} (h : k < f + n + 7) : (cellsOf f n)[k]? = some (cell f n k) := by
  unfold cellsOf cell
  by_cases h1 : k < f
  · rw [if_neg (by omega), List.append_assoc, List.getElem?_append_left (by simpa using h1), List.getElem?_replicate, if_pos h1]
  · by_cases h2 : k < f + n
    · rw [if_pos (by omega), List.append_assoc, List.getElem?_append_right (by simp; omega), List.getElem?_append_left (by simp [rangeKs_length]; omega), List.length_replicate, List.getElem?_map]
      unfold rangeKs
      rw [List.getElem?_map, List.getElem?_range (by omega)]
      simp only [Option.map_some]
      congr 2
      omega
    · rw [if_neg (by omega), List.getElem?_append_right (by simp [rangeKs_length]; omega), List.getElem?_replicate, if_pos (by simp [rangeKs_length]; omega)]
theorem toldOf_grid (f n : Nat) : toldOf f n = grid f n := by
  unfold toldOf grid rangeInts
  rw [List.map_map]
  refine List.map_congr_left fun r hr => ?_
  have hr' := List.mem_range.mp hr
  show ((cellsOf f n).drop ((0 : Int) + (r : Nat) * 7).toNat).take 7 = gridRow f n r
  have e : ((0 : Int) + (r : Nat) * 7).toNat = 7 * r := by omega
  rw [e]
  apply List.ext_getElem?
  intro j
  by_cases hj : j < 7
  · rw [gridRow_get _ _ _ _ hj, List.getElem?_take, if_pos hj, List.getElem?_drop, cellsOf_get (by omega)]
  · rw [List.getElem?_take, if_neg hj, List.getElem?_eq_none (by rw [gridRow_length]; omega)]
end Mine

namespace Mine
/-- an item of a row: None or an int -/
def Plain1 (d : PyData) : Prop := d = .none ∨ ∃ i, d = .int i
theorem cell_plain (f n k : Nat) : Plain1 (cell f n k) := by
  unfold cell
  split
  · exact .inr ⟨_, rfl⟩
  · exact .inl rfl
theorem grid_plain {f n : Nat} : ∀ row ∈ grid f n, row.length = 7 ∧ ∀ d ∈ row, Plain1 d := by
  intro row hrow
  obtain ⟨r, _, rfl⟩ := List.mem_map.mp hrow
  refine ⟨gridRow_length .., fun d hd => ?_⟩
  obtain ⟨c, _, rfl⟩ := List.mem_map.mp hd
  exact cell_plain ..
theorem RowsAre.plain : ∀ {led : List (Addr × List Value)} {rows : List (List PyData)}, RowsAre led rows → ∀ p ∈ led, ∃ row ∈ rows, CarriedAll p.2 row
  | _, _, .cons hc t, p, hp => by
    rcases List.mem_cons.mp hp with rfl | hp
    · exact ⟨_, .head _, hc⟩
    · obtain ⟨row, h1, h2⟩ := t.plain p hp
      exact ⟨row, .tail _ h1, h2⟩
theorem LeafAt.isList {h : Heap} {D : Addr} {led : List (Addr × List Value)} {rows : List (List PyData)} (x : LeafAt h D led rows) : h.IsList D (refsOf led).toArray := by
  obtain ⟨ep, e⟩ := x.1
  exact ⟨_, e, rfl, ep, rfl⟩
theorem LeafAt.row {h : Heap} {D : Addr} {led : List (Addr × List Value)} {rows : List (List PyData)} (x : LeafAt h D led rows) {p : Addr × List Value} (hp : p ∈ led) : h.get? p.1 = some (listOf p.2.toArray 0) :=
  x.2.1 (p.1, listOf p.2.toArray 0) (List.mem_map.mpr ⟨p, hp, rfl⟩)
theorem LeafAt.keeps {h h' : Heap} {D : Addr} {led : List (Addr × List Value)} {rows : List (List PyData)} (x : LeafAt h D led rows) (hk : ∀ b o, b ∈ D :: led.map (·.1) → h.get? b = some o → h'.get? b = some o) : LeafAt h' D led rows := by
  obtain ⟨⟨ep, e⟩, h2, h3, h4⟩ := x
  refine ⟨⟨ep, hk _ _ (.head _) e⟩, fun p hp => ?_, h3, h4⟩
  obtain ⟨q, hq, rfl⟩ := List.mem_map.mp hp
  exact hk _ _ (.tail _ (List.mem_map.mpr ⟨q, hq, rfl⟩)) (h2 _ hp)
theorem readsAll_led {h : Heap} : ∀ {led : List (Addr × List Value)} {rows : List (List PyData)}, RowsAre led rows → (∀ p ∈ rowsLed led, h.get? p.1 = some p.2) → ReadsAll h (refsOf led) (rows.map PyData.list) (led.map (·.1))
  | _, _, .nil, _ => .nil
  | p :: l, _, .cons hc t, hg => by
    have h1 := hg (p.1, listOf p.2.toArray 0) (.head _)
    exact ReadsAll.cons (as := [p.1]) (Reads.list h1 rfl rfl (hc.reads h)) (readsAll_led t fun q hq => hg q (.tail _ hq))
theorem LeafAt.reads {h : Heap} {D : Addr} {led : List (Addr × List Value)} {rows : List (List PyData)} (x : LeafAt h D led rows) : Reads h (.ref D) (.list (rows.map PyData.list)) (D :: led.map (·.1)) := by
  obtain ⟨ep, e⟩ := x.1
  exact Reads.list e rfl rfl (readsAll_led x.2.2.1 x.2.1)

/-- the greatest int among items, nought at least -/
def maxOf (ds : List PyData) : Int := ds.foldl (fun a d => match d with | .int k => if a < k then k else a | _ => a) 0
theorem maxOf_snoc (ds : List PyData) (d : PyData) : maxOf (ds ++ [d]) = match d with | .int k => if maxOf ds < k then k else maxOf ds | _ => maxOf ds := by
  unfold maxOf
  rw [List.foldl_append]
  rfl
theorem maxOf_ge {ds : List PyData} {k : Int} (h : PyData.int k ∈ ds) : k ≤ maxOf ds := by
  unfold maxOf
  have mono : ∀ (l : List PyData) (a : Int), a ≤ l.foldl (fun a d => match d with | .int k => if a < k then k else a | _ => a) a := by
    intro l
    induction l with
    | nil => intro a; exact Int.le_refl _
    | cons d r ih =>
      intro a
      refine Int.le_trans ?_ (ih _)
      cases d <;> first | exact Int.le_refl _ | (dsimp only; split <;> omega)
  have all : ∀ (l : List PyData) (a : Int), PyData.int k ∈ l → k ≤ l.foldl (fun a d => match d with | .int k => if a < k then k else a | _ => a) a := by
    intro l
    induction l with
    | nil => intro a hm; cases hm
    | cons d r ih =>
      intro a hm
      rcases List.mem_cons.mp hm with rfl | hm
      · refine Int.le_trans ?_ (mono r _)
        dsimp only
        split <;> omega
      · exact ih _ hm
  exact all ds 0 h
theorem maxOf_le {ds : List PyData} {K : Int} (h0 : 0 ≤ K) (h : ∀ k, PyData.int k ∈ ds → k ≤ K) : maxOf ds ≤ K := by
  unfold maxOf
  have all : ∀ (l : List PyData) (a : Int), a ≤ K → (∀ k, PyData.int k ∈ l → k ≤ K) → l.foldl (fun a d => match d with | .int k => if a < k then k else a | _ => a) a ≤ K := by
    intro l
    induction l with
    | nil => intro a ha _; exact ha
    | cons d r ih =>
      intro a ha hl
      refine ih _ ?_ fun k hk => hl k (.tail _ hk)
      cases d with
      | int i => have := hl i (.head _); dsimp only; split <;> omega
      | _ => exact ha
  exact all ds 0 h0 h
theorem cell_int {f n k : Nat} {i : Int} (h : cell f n k = .int i) : i ≤ n := by
  unfold cell at h
  split at h
  · injection h with h; omega
  · cases h
theorem grid_max {f n : Nat} (hn : 1 ≤ n) : maxOf (grid f n).flatten = n := by
  refine Int.le_antisymm (maxOf_le (by omega) fun k hk => ?_) (maxOf_ge ?_)
  · obtain ⟨row, hrow, hd⟩ := List.mem_flatten.mp hk
    obtain ⟨r, _, rfl⟩ := List.mem_map.mp hrow
    obtain ⟨c, _, e⟩ := List.mem_map.mp hd
    exact cell_int e
  · refine List.mem_flatten.mpr ⟨gridRow f n ((f + n - 1) / 7), List.mem_map.mpr ⟨_, List.mem_range.mpr (by omega), rfl⟩, ?_⟩
    refine List.mem_map.mpr ⟨(f + n - 1) % 7, List.mem_range.mpr (Nat.mod_lt _ (by decide)), ?_⟩
    have e : 7 * ((f + n - 1) / 7) + (f + n - 1) % 7 = f + n - 1 := by omega
    rw [e]
    unfold cell
    rw [if_pos (by omega)]
    congr 1
    omega
theorem grid_first {f n : Nat} (hn : 1 ≤ n) : ∃ rest, grid f n = gridRow f n 0 :: rest := by
  unfold grid
  obtain ⟨k, hk⟩ : ∃ k, (f + n + 6) / 7 = k + 1 := ⟨(f + n + 6) / 7 - 1, by omega⟩
  rw [hk, List.range_succ_eq_map]
  exact ⟨_, rfl⟩
section
variable {prog : Program} {w : World} {A : Around} {E : Value → Shared → Prop} {s : Shared}
theorem carried_at : ∀ {vs : List Value} {ds : List PyData}, CarriedAll vs ds → ∀ (j : Nat) (h1 : j < vs.length) {d : PyData}, ds[j]? = some d → Carried vs[j] d
  | _, _, .cons c _, 0, _, d, h => by cases h; exact c
  | _, _, .cons _ r, j + 1, h1, d, h => carried_at r j (Nat.lt_of_succ_lt_succ h1) (by simpa using h)
theorem hits_at {vs : List Value} {ds : List PyData} (hc : CarriedAll vs ds) {x : Int} {j : Nat} (h1 : j < vs.length) {d : PyData} (h : ds[j]? = some d) : valHitsInt x vs[j] = datHitsInt x d := by
  have := carried_at hc j h1 h
  generalize vs[j] = v at this
  cases this <;> rfl
theorem indexRow {T : Addr} {vs : List Value} {f n : Nat} {u : Tok} {Q : Value → Shared → Prop} (hl : s.heap.IsList T vs.toArray) (hc : CarriedAll vs (gridRow f n 0)) (hf : f < 7) (hn : 1 ≤ n)
    (h : Q (.int (f : Int) s.toks) { s with toks := s.toks + 1 }) : wpAny (model prog w) A (call (.builtin "list.index") [.ref T, .int 1 u]) Q E s := by
  obtain ⟨⟨cls, dd, data, sl⟩, ho, hcl, k, hd⟩ := id hl
  simp only at hcl hd
  subst hcl hd
  have hlen : vs.length = 7 := by rw [hc.length_eq, gridRow_length]
  refine call_meets PySem.F.slot_list_index ⟨_, ho, rfl⟩ PySem.F.entry_list_index (PySem.F.args_list_index_2 _ _)
    (SeqAt.list_indexAt T vs.toArray k dd sl (.int 1 u) (valHitsInt 1) f (by simpa [hlen] using hf) (by omega) ?_ ?_) ⟨ho, fun y hy => ?_, h⟩
  · show valHitsInt 1 vs[f] = true
    rw [hits_at hc (by omega) (gridRow_get f n 0 f hf)]
    have e : cell f n (7 * 0 + f) = .int 1 := by
      unfold cell
      rw [if_pos (by omega)]
      congr 1
      omega
    rw [e]; rfl
  · intro j hj hlt
    show valHitsInt 1 vs[j] = false
    rw [hits_at hc (by omega) (gridRow_get f n 0 j (by omega))]
    have e : cell f n (7 * 0 + j) = .none := by
      unfold cell
      rw [if_neg (by omega)]
    rw [e]; rfl
  · obtain ⟨d, c⟩ := hc.memC y (by simpa using hy)
    exact c.eqAtInt 1 u
end
end Mine

namespace Mine
section
variable {prog : Program} {w : World} {A : Around} {E : Value → Shared → Prop} {s : Shared} {env : Env} {h₀ : Heap} {x : Str} {body : List Stmt} {Q : Flow → Shared → Prop}
theorem loopList {l : Addr} {vs : List Value} {m₀ : Str → Option Value} {news : List (Addr × Obj)}
    (J : Nat → (Str → Option Value) → List (Addr × Obj) → Prop)
    (hh : A.handled = none) (hl : h₀.IsList l vs.toArray)
    (F : Fr h₀ env.locals s.heap m₀) (N : News h₀ env.locals s.heap news) (hj : J 0 m₀ news)
    (turn : ∀ i v m₁ news₁ h tk I oI, vs[i]? = some v → J i m₁ news₁ → (∀ p ∈ news₁, p.1 ≠ I) → Fr h₀ env.locals h (fun y => if y = x then some v else m₁ y) → News h₀ env.locals h ((I, oI) :: news₁) →
      wpAny (model prog w) A (execs body env) (TurnTo h₀ env.locals I oI (J (i + 1)) { s with heap := h, toks := tk }) E { s with heap := h, toks := tk })
    (done : ∀ m₁ news₁ h tk, J vs.length m₁ news₁ → Fr h₀ env.locals h m₁ → News h₀ env.locals h news₁ → Q .next { s with heap := h, toks := tk }) :
    wpAny (model prog w) A (pyIter (.ref l)) (fun it s₂ => LoopAtV prog w A h₀ env x body Q E it s₂) E s := by
  have hls : s.heap.IsList l vs.toArray := hl.at fun o e => F.keep l o e
  obtain ⟨ol, hol, _⟩ := id hl
  have hlt : l < h₀.objs.size := Heap.lt_size hol
  have hne : l ≠ s.heap.objs.size := Nat.ne_of_lt (Nat.lt_trans (Nat.lt_of_lt_of_le hlt F.above) F.ns.lt)
  refine wpAny_pyIter_list hls ?_
  have W := Walks.list (prog := prog) (w := w) hh s.heap.objs.size l hne vs.toArray
  have hlen : vs.toArray.size = vs.length := by simp
  rw [hlen] at W
  have hnew := next_is_new F
  refine ⟨_, _, _, vs.length, _, _, m₀, news, J, rfl, W, ?_, ?_, ?_, ⟨⟨_, Heap.get?_push_size _ rfl, rfl, rfl⟩, hls.at fun o e => Heap.get?_push_of_some _ e⟩, F.push _, (fun p hp => ⟨Heap.get?_push_of_some _ (N p hp).1, (N p hp).2⟩), hj, ?_, ?_⟩
  · intro hm
    rcases List.mem_cons.mp hm with e | hm
    · exact absurd F.ns.lt (e ▸ Nat.lt_irrefl _)
    · exact absurd (Nat.lt_of_lt_of_le hlt F.above) ((List.mem_singleton.mp hm) ▸ Nat.lt_irrefl _)
  · intro b hb
    rw [List.mem_singleton.mp hb]
    exact hnew
  · intro p hp hI
    exact absurd (Heap.lt_size (N p hp).1) ((List.mem_singleton.mp hI) ▸ Nat.lt_irrefl _)
  · rintro i v m₁ news₁ s₁ own ⟨hh', tk', rfl⟩ hin hP hJ hoff hown hget hall hst F₁ N₁
    obtain ⟨it, hit, hic, hid⟩ := hst.1
    have hmem := hall s.heap.objs.size (List.mem_cons_self ..) hnew _ hit
    have hoff' : ∀ p ∈ news₁, p.1 ≠ s.heap.objs.size := fun p hp e => hoff p hp (List.mem_singleton.mpr e)
    have N₂ : News h₀ env.locals hh' ((s.heap.objs.size, it) :: news₁) := fun p hp => by
      rcases List.mem_cons.mp hp with rfl | hp
      · exact N₁ _ (List.mem_append_left _ hmem)
      · exact N₁ _ (List.mem_append_right _ hp)
    have hv : vs[i]? = some v := by simpa using hP
    refine wpAny_mono (turn i v m₁ news₁ hh' tk' _ _ hv hJ hoff' F₁ N₂) (fun f s₂ p => ?_) fun _ _ e => e
    obtain ⟨rfl, h', tk, m', news', e, F', N', ho, hj'⟩ := p
    refine .next ⟨rfl, h', tk, m', news', e, F', fun p hp => ?_, fun p hp hI => ho p hp (List.mem_singleton.mp hI), hj'⟩
    rcases List.mem_append.mp hp with hp | hp
    · have h2 : hh'.get? p.1 = some p.2 := hget p hp
      rcases List.mem_cons.mp (hown p hp) with h1 | h1
      · have h3 : p = (s.heap.objs.size, it) := by
          rw [h1, hit] at h2
          exact Prod.ext h1 (Option.some.inj h2).symm
        rw [h3]; exact N' _ (List.mem_cons_self ..)
      · have h3 := (N₁ p (List.mem_append_left _ hp)).2.2
        rw [List.mem_singleton.mp h1, hol] at h3
        cases h3
    · exact N' _ (List.mem_cons_of_mem _ hp)
  · rintro h' tk m' news' F' N' _ hJ
    exact done m' news' h' tk hJ F' N'
end
theorem pin1 {m : Str → Option Value} {x : Str} {u : Value} (ha : m x = some u) : m = fun z => if z = x then some u else m z := by
  funext z
  by_cases h1 : z = x
  · subst h1; simp [ha]
  · simp [h1]
end Mine

namespace Mine
section
local macro_rules | `(tactic| walk_at "binaryOp Mult ref int") => `(tactic| (k_here; k_dflt (refine' mulL ?F ?N ?l ?lo ?hi ?z ?_; (case F => k_asm); (case N => k_asm); (case l => is_list); (case lo => omega); (case hi => omega); (case z => omega); k_whole); intro D' h' F' N' l1; (try k_lt l1); (try k_sweep)))
local macro_rules | `(tactic| walk_at "binaryOp Mult int ref") => `(tactic| (k_here; k_dflt (refine' mulR ?F ?N ?l ?lo ?hi ?z ?_; (case F => k_asm); (case N => k_asm); (case l => k_mem); (case lo => omega); (case hi => omega); (case z => omega); k_whole); intro D' h' F' N' l1; (try k_lt l1); (try k_sweep)))
local macro_rules | `(tactic| walk_at "binaryOp Add ref ref") => `(tactic| (k_here; k_dflt (refine' addL ?F ?N ?l ?l2 ?z ?_; (case F => k_asm); (case N => k_asm); (case l => is_list); (case l2 => is_list); (case z => (have hL9 := IntsAre.length (by assumption); rw [rangeKs_length] at hL9; simp only [List.length_append, List.length_replicate]; omega)); k_whole); intro D' h' F' N' l1; (try k_lt l1); (try k_sweep)))
local macro_rules | `(tactic| walk_at "eval ListComp") => `(tactic| refine Hold.out ?_)

theorem helper_call {w : World} {dp un : Nat} {fr : Option (List Env)} {gd : Option (List Code)} {s : Shared} {mg mb : Str → Option Value} {mean : ExcName → Option Value} {start n : Int} {t u : Tok} {Q E : Value → Shared → Prop}
    (hd : dp + 1 < recursionLimit)
    (X : (Mine.hd.heap_39 w.params).In s.heap) (T : Top Mine.hd.view_39 (looseW Mine.hd.view_39 []) mean mg mb s.heap) (h1 : 1 ≤ n) (h2 : n ≤ 70)
    (hret : ∀ D led h' tk', (∀ b o, s.heap.get? b = some o → h'.get? b = some o) → LeafAt h' D led (toldOf ((start + 1).fmod 7).toNat n.toNat) → (∀ T ∈ D :: led.map (·.1), s.heap.get? T = none) → Q (.ref D) { s with heap := h', toks := tk' }) :
    wpAny (model PySem.Challenge.rw_bb6037_01.row.prog w) ⟨none, dp, fr, gd, un⟩ (call (.ref 19) [.int start t, .int n u]) Q E s := by
  revert X
  k_fill
  intro X
  have hw0 : 0 ≤ (start + 1).fmod 7 := Int.fmod_nonneg_of_pos _ (by decide)
  have hw7 : (start + 1).fmod 7 < 7 := Int.fmod_lt_of_pos _ (by decide)
  refine' enterC X T ?k6 ?k7 ?k8 ?k9 ?kB ?kD ?c2 ?c3 ?c4 ?_
  case k6 => k_is
  case k7 => k_is
  case k8 => exact Nat.lt_of_succ_lt hd
  case k9 => exact BindsTo.of_eq rfl
  case kB => exact rfl
  case kD => decide +kernel
  case c2 => exact rfl
  case c3 => exact rfl
  case c4 => exact rfl
  intro h₁ tk cells F N Y
  k_cells Y
  (try dsimp only)
  (try k_fold)
  k_steps
  unfold Hold
  rename Fr _ _ _ _ => F
  rename News _ _ _ _ => N
  rename IntsAre _ _ => hI
  have en : 1 + n - 1 = n := by omega
  rw [en] at hI
  have hN9 : Builtin.Range.rangeSize 0 ((start + 1).fmod 7 + n) 7 = ((((start + 1).fmod 7).toNat + n.toNat + 6) / 7 : Nat) := by
    rw [rangeSize_pos (by decide) (by omega)]
    omega
  have hlen := hI.length
  rw [rangeKs_length] at hlen
  refine' chunks (b := (start + 1).fmod 7 + n) F N (.head _) ?hh ?hclos ?hcell ?hkind ?hnames ?hx ?hcy ?hky ?hkx ?hkk ?hdx ?hdy ?hc hN9 ?hsm ?hb ?hvl ?hnl ?hl ?hcm ?hcd ?h ?hs
  case hh => with_unfolding_all rfl
  case hclos => with_unfolding_all rfl
  case hcell => decide
  case hkind => with_unfolding_all rfl
  case hnames => decide
  case hx => with_unfolding_all rfl
  case hs => intro _; with_unfolding_all rfl
  case hcy => with_unfolding_all rfl
  case hky => intro _; with_unfolding_all rfl
  case hkx => intro _; with_unfolding_all rfl
  case hkk => intro _; with_unfolding_all rfl
  case hdx => decide
  case hdy => decide
  case hl => funext _ _; with_unfolding_all rfl
  case hc => exact CarriedAll.appendLM (CarriedAll.appendLM (carried_none _) (lm_carried_ints hI)) (carried_none _)
  case hcm => k_mem
  case hcd => assumption
  case hsm => exact small_seven (by omega) (by omega) hN9 (by omega)
  case hb =>
    intro a ha
    simp only [List.length_append, List.length_replicate, hlen]
    exact starts_in hw0 h1 hN9 ha
  case hvl =>
    simp only [List.length_append, List.length_replicate, hlen]
    exact Nat.le_trans (m := 200) (by omega) (by decide)
  case hnl => exact Nat.le_trans (m := 200) (starts_few hw7 h2 hN9) (by decide)
  case h =>
    refine wpHold ?_
    k_steps
    unfold Hold
    rename IsRange _ _ _ _ _ _ _ _ => R
    rename Fr _ _ _ _ => F
    rename News _ _ _ _ => N
    refine ⟨_, _, _, _, rfl, R, F, N, ?_⟩
    intro D' led h' tk' F' hlf hfr
    exact hret D' led h' tk' F'.keep hlf hfr
end
end Mine

namespace Mine
section
local macro_rules | `(tactic| walk_at "binaryOp Mult int ref") => `(tactic| (k_here; k_dflt (refine' mulR ?F ?N ?l ?lo ?hi ?z ?_; (case F => k_asm); (case N => k_asm); (case l => k_mem); (case lo => omega); (case hi => omega); (case z => omega); k_whole); intro D' h' F' N' l1; (try k_lt l1); (try k_sweep)))
local macro_rules | `(tactic| walk_at "exec For Name Call cons nil") => `(tactic| refine Hold.out ?_)
theorem pin2 {m : Str → Option Value} {x y : Str} {u v : Value} (ha : m x = some u) (hb : m y = some v) : m = fun z => if z = x then some u else if z = y then some v else m z := by
  funext z
  by_cases h1 : z = x
  · subst h1; simp [ha]
  · by_cases h2 : z = y
    · subst h2; simp [h1, hb]
    · simp [h1, h2]
local macro_rules | `(tactic| walk_at "call builtin:list.append") => `(tactic| refine Hold.out ?_)
local macro_rules | `(tactic| walk_at "subscriptTail") => `(tactic| refine Hold.out ?_)
local macro_rules | `(tactic| walk_at "setItem ref int") => `(tactic| refine Hold.out ?_)

theorem leaf_call {w : World} {dp un : Nat} {fr : Option (List Env)} {gd : Option (List Code)} {s : Shared} {mg mb : Str → Option Value} {mean : ExcName → Option Value} {f n : Nat} {t u : Tok} {Q E : Value → Shared → Prop}
    (hd : dp + 1 < recursionLimit)
    (X : (Mine.hd.heap_39 w.params).In s.heap) (T : Top Mine.hd.view_39 (looseW Mine.hd.view_39 []) mean mg mb s.heap) (hf : f < 7) (h2 : n ≤ 70)
    (hret : ∀ D led h' tk', (∀ b o, s.heap.get? b = some o → h'.get? b = some o) → LeafAt h' D led (leafRows f n) → (∀ T ∈ D :: led.map (·.1), s.heap.get? T = none) → Q (.ref D) { s with heap := h', toks := tk' }) :
    wpAny (model PySem.Challenge.rw_bb6037_01.row.prog w) ⟨none, dp, fr, gd, un⟩ (call (.ref 33) [.int (f : Int) t, .int (n : Int) u]) Q E s := by
  revert X
  k_fill
  intro X
  refine' enter (g := s.heap) (news := []) (fun _ _ e => e) (Nat.le_refl _) (fun _ h => nomatch h) X T ?k6 ?k7 ?k8 ?k9 ?kB ?c2 ?c3 ?c4 ?c5 ?_
  case k6 => k_is
  case k7 => k_is
  case k8 => exact Nat.lt_of_succ_lt hd
  case k9 => exact BindsTo.of_eq rfl
  case kB => exact locs rfl
  case c2 => exact rfl
  case c3 => exact rfl
  case c4 => exact rfl
  case c5 => decide
  intro L h₁ F N hL
  (try dsimp only)
  (try k_fold)
  k_steps
  unfold Hold
  rename Fr _ _ _ _ => F
  refine For_invVF F rfl rfl (wpHold ?_)
  k_steps
  unfold Hold
  rename IsRange _ _ _ _ _ _ _ _ => R
  rename Fr _ _ _ _ => F
  rename News _ _ _ _ => N
  refine loopRange (n := n) (LeafJ f) rfl R ?hsm ?hsz F N ⟨_, 0, [], t, rfl, ?hcol, rfl, ?hnd, .nil⟩ ?turn ?done
  case hsm => exact small_one (a := 1) (b := (n : Int) + 1) (by decide) (by decide) (by omega) (by omega)
  case hsz => rw [rangeSize_one]; omega
  case hcol => 
    show some (Value.int (f : Int) t) = _
    rw [Nat.add_zero, Nat.mod_eq_of_lt hf]
  case hnd => exact List.nodup_cons.mpr ⟨List.not_mem_nil, .nil⟩
  case done =>
    intro m₁ news₁ h tk ⟨R, ep, led, tc, hm1, hm2, hnews, hnd, hr⟩ F N
    rw [pin2 hm1 hm2] at F
    k_steps
    subst hnews
    refine hret R led h tk F.keep ⟨⟨ep, N.get (.head _)⟩, fun p hp => (N p (.tail _ hp)).1, hr, hnd⟩ fun T hT => ?_
    rcases List.mem_cons.mp hT with rfl | hT
    · exact N.fresh (.head _)
    · obtain ⟨p, hp, rfl⟩ := List.mem_map.mp hT
      exact N.fresh (.tail _ (List.mem_map.mpr ⟨p, hp, rfl⟩))
  case turn =>
    intro i t m₁ news₁ h tk I oI hi ⟨R, ep, led, tc, hm1, hm2, hnews, hnd, hr⟩ hoff F N
    rw [pin2 hm1 hm2] at F
    subst hnews
    have hz := led_few hr (Nat.le_trans (Nat.le_of_lt hi) h2)
    have hbR := led_off hnd
    have hIR : @Ne Nat R I := hoff _ (.head _)
    have hcc : (f + i) % 7 < 7 := Nat.mod_lt _ (by decide)
    k_steps
    · unfold Hold
      rename Fr _ _ _ _ => F'
      rename News _ _ _ _ => N'
      refine' appendAt (pre := [_, _, _]) F' N' ?q01a ?q01b ?q01z ?_
      case q01a => k_all
      case q01b => exact hbR
      case q01z => exact hz
      intro h' F' N'
      simp only [List.cons_append, List.nil_append] at N'
      k_steps
      unfold Hold
      refine' lastItem (vs := refsOf led) ?q02hl ?_ ?q02hs
      case q02hs => with_unfolding_all rfl
      case q02hl => exact ⟨_, N'.get (.tail _ (.tail _ (.tail _ (.head _)))), rfl, _, by rw [List.push_toArray]⟩
      k_steps
      unfold Hold
      rename Fr _ _ _ _ => F'
      rename News _ _ _ _ => N'
      rename _ ∧ _ => hl
      refine' setAt (pre := []) F' N' ?q03a ?q03b ?q03h0 ?q03hfit ?q03hn ?_
      case q03a => exact fun _ h => nomatch h
      case q03b => exact List.forall_mem_cons.mpr ⟨by k_ne, List.forall_mem_cons.mpr ⟨by k_ne, List.forall_mem_cons.mpr ⟨by k_ne, allLt_off hl.2.2.2⟩⟩⟩
      case q03h0 => omega
      case q03hfit => omega
      case q03hn => (simp only [List.size_toArray, List.length_replicate]; omega)
      intro h' F' N'
      simp only [List.nil_append] at N'
      k_steps
      rename Fr _ _ _ _ => F'
      rename News _ _ _ _ => N'
      simp only [List.setIfInBounds_toArray, Int.toNat_natCast, List.push_toArray, Int.reduceToNat] at N'
      exact leaf_turn_new F' N' rfl rfl (next_col f i) (by omega) hr hnd (fun p hp => hoff p (.tail _ hp)) hIR hl.2.1 hl.2.2.1 hl.2.2.2
    · unfold Hold
      rename Fr _ _ _ _ => F'
      rename News _ _ _ _ => N'
      refine' appendAt (pre := [_, _, _]) F' N' ?q11a ?q11b ?q11z ?_
      case q11a => k_all
      case q11b => exact hbR
      case q11z => exact hz
      intro h' F' N'
      simp only [List.cons_append, List.nil_append] at N'
      k_steps
      unfold Hold
      refine' lastItem (vs := refsOf led) ?q12hl ?_ ?q12hs
      case q12hs => with_unfolding_all rfl
      case q12hl => exact ⟨_, N'.get (.tail _ (.tail _ (.tail _ (.head _)))), rfl, _, by rw [List.push_toArray]⟩
      k_steps
      unfold Hold
      rename Fr _ _ _ _ => F'
      rename News _ _ _ _ => N'
      rename _ ∧ _ => hl
      refine' setAt (pre := []) F' N' ?q13a ?q13b ?q13h0 ?q13hfit ?q13hn ?_
      case q13a => exact fun _ h => nomatch h
      case q13b => exact List.forall_mem_cons.mpr ⟨by k_ne, List.forall_mem_cons.mpr ⟨by k_ne, List.forall_mem_cons.mpr ⟨by k_ne, allLt_off hl.2.2.2⟩⟩⟩
      case q13h0 => omega
      case q13hfit => omega
      case q13hn => (simp only [List.size_toArray, List.length_replicate]; omega)
      intro h' F' N'
      simp only [List.nil_append] at N'
      k_steps
      rename Fr _ _ _ _ => F'
      rename News _ _ _ _ => N'
      simp only [List.setIfInBounds_toArray, Int.toNat_natCast, List.push_toArray, Int.reduceToNat] at N'
      exact leaf_turn_new F' N' rfl rfl (next_col f i) (by omega) hr hnd (fun p hp => hoff p (.tail _ hp)) hIR hl.2.1 hl.2.2.1 hl.2.2.2
    · have hg : ¬ (i = 0 ∨ (f + i) % 7 = 0) := by omega
      obtain ⟨l₀, q, rfl, hq⟩ := leaf_last hg hr
      unfold Hold
      refine' lastItem (vs := refsOf l₀) ?q21hl ?_ ?q21hs
      case q21hs => with_unfolding_all rfl
      case q21hl => exact ⟨_, N.get (.tail _ (.head _)), rfl, _, by rw [refs_snoc]⟩
      k_steps
      unfold Hold
      rename Fr _ _ _ _ => F'
      rename News _ _ _ _ => N'
      rw [led_snoc] at N'
      have hqn : ∀ p ∈ rowsLed l₀, p.1 ≠ q.1 := nodup_last hnd
      have hqR : @Ne Nat R q.1 := nodup_headlast hnd
      have hqI : @Ne Nat q.1 I := hoff (q.1, listOf q.2.toArray 0) (.tail _ (by rw [led_snoc]; exact List.mem_append_right _ (.head _)))
      refine' setAt (pre := (I, oI) :: (R, _) :: rowsLed l₀) (post := []) F' N' ?za ?zb ?z0 ?zfit ?zn ?_
      case za => exact List.forall_mem_cons.mpr ⟨by k_ne, List.forall_mem_cons.mpr ⟨by k_ne, hqn⟩⟩
      case zb => exact fun _ h => nomatch h
      case z0 => omega
      case zfit => omega
      case zn => (simp only [List.size_toArray, hq]; omega)
      intro h' F' N'
      k_steps
      rename Fr _ _ _ _ => F'
      rename News _ _ _ _ => N'
      simp only [List.setIfInBounds_toArray, Int.toNat_natCast] at N'
      exact leaf_turn_old F' N' rfl rfl (next_col f i) hg hr hnd hoff
end
end Mine

namespace Mine
def ReadJ (f : Nat) (rows : List (List PyData)) (i : Nat) (m : Str → Option Value) (news : List (Addr × Obj)) : Prop :=
  ∃ t1 t2, m "first" = some (.int (f : Int) t1) ∧ m "last" = some (.int (maxOf (rows.take i).flatten) t2) ∧ news = []
def ReadI (f : Nat) (pre row : List PyData) (base : List (Addr × Obj)) (j : Nat) (m : Str → Option Value) (news : List (Addr × Obj)) : Prop :=
  ∃ t1 t2, m "first" = some (.int (f : Int) t1) ∧ m "last" = some (.int (maxOf (pre ++ row.take j)) t2) ∧ news = base
theorem rows_at : ∀ {led : List (Addr × List Value)} {rows : List (List PyData)}, RowsAre led rows → ∀ {i : Nat} {v : Value}, (refsOf led)[i]? = some v → ∃ p row, led[i]? = some p ∧ rows[i]? = some row ∧ v = .ref p.1 ∧ CarriedAll p.2 row
  | _, _, .cons hc _, 0, v, h => ⟨_, _, rfl, rfl, (Option.some.inj h).symm, hc⟩
  | _, _, .cons _ t, i + 1, v, h => rows_at t (i := i) h
theorem carried_get : ∀ {vs : List Value} {ds : List PyData}, CarriedAll vs ds → ∀ {i : Nat} {v : Value}, vs[i]? = some v → ∃ d, ds[i]? = some d ∧ Carried v d
  | _, _, .cons hc _, 0, v, h => ⟨_, rfl, (Option.some.inj h) ▸ hc⟩
  | _, _, .cons _ t, i + 1, v, h => carried_get t (i := i) h
theorem take_next {rows : List (List PyData)} {i : Nat} {row : List PyData} (h : rows[i]? = some row) : (rows.take (i + 1)).flatten = (rows.take i).flatten ++ row := by
  rw [List.take_add_one, h]
  simp
theorem max_next {pre row : List PyData} {j : Nat} {d : PyData} (h : row[j]? = some d) : maxOf (pre ++ row.take (j + 1)) = maxOf ((pre ++ row.take j) ++ [d]) := by
  rw [List.take_add_one, h, List.append_assoc]
  rfl
section
local macro_rules | `(tactic| walk_at "exec For Name Name cons nil") => `(tactic| refine Hold.out ?_)
local macro_rules | `(tactic| walk_at "getMethod ref") => `(tactic| refine Hold.out ?_)
local macro_rules | `(tactic| walk_at "call builtin:list.index") => `(tactic| refine Hold.out ?_)

theorem indexMethod {prog : Program} {w : World} {A : Around} {E : Value → Shared → Prop} {s : Shared} {T : Addr} {its : Array Value} {k : Nat} {pl : Sem Bool} {Q : Value × List Value → Shared → Prop} (ho : s.heap.get? T = some (listOf its k)) (h : Q (.builtin "list.index", [.ref T]) s) :
    wpAny (model prog w) A (getMethod (.ref T) "index" pl) Q E s :=
  getMethod_builtin ⟨_, ho, rfl⟩ PySem.F.plainAttrs_list PySem.F.slot_list_index PySem.F.type_list_index (fun a e => by cases e; exact ⟨_, ho, rfl⟩) h
theorem read_call {w : World} {dp un : Nat} {fr : Option (List Env)} {gd : Option (List Code)} {s : Shared} {mg mb : Str → Option Value} {mean : ExcName → Option Value} {f n : Nat} {D : Addr} {led : List (Addr × List Value)} {Q E : Value → Shared → Prop}
    (hd : dp + 1 < recursionLimit)
    (X : (Mine.hd.heap_39 w.params).In s.heap) (T : Top Mine.hd.view_39 (looseW Mine.hd.view_39 []) mean mg mb s.heap) (hf : f < 7) (hn : 1 ≤ n) (hlf : LeafAt s.heap D led (grid f n))
    (hret : ∀ T t1 t2 h' tk', (∀ b o, s.heap.get? b = some o → h'.get? b = some o) → h'.get? T = some { cls := .type "tuple", data := .seq #[.int (f : Int) t1, .int (n : Int) t2] } → s.heap.get? T = none → Q (.ref T) { s with heap := h', toks := tk' }) :
    wpAny (model PySem.Challenge.rw_bb6037_01.row.prog w) ⟨none, dp, fr, gd, un⟩ (call (.ref 40) [.ref D]) Q E s := by
  revert X
  k_fill
  intro X
  have hl := hlf.isList
  have hrows := hlf.2.2.1
  obtain ⟨rest, hg0⟩ := grid_first (f := f) hn
  have hrows' := hrows
  rw [hg0] at hrows'
  obtain ⟨⟨T0, vs0⟩, led', rfl, hc0⟩ : ∃ p led', led = p :: led' ∧ CarriedAll p.2 (gridRow f n 0) := by
    cases hrows' with
    | cons hc _ => exact ⟨_, _, rfl, hc⟩
  have hg1 : s.heap.get? T0 = some (listOf vs0.toArray 0) := hlf.row (p := (T0, vs0)) (.head _)
  clear hrows'
  refine' enter (g := s.heap) (news := []) (fun _ _ e => e) (Nat.le_refl _) (fun _ h => nomatch h) X T ?k6 ?k7 ?k8 ?k9 ?kB ?c2 ?c3 ?c4 ?c5 ?_
  case k6 => k_is
  case k7 => k_is
  case k8 => exact Nat.lt_of_succ_lt hd
  case k9 => exact BindsTo.of_eq rfl
  case kB => exact locs rfl
  case c2 => exact rfl
  case c3 => exact rfl
  case c4 => exact rfl
  case c5 => decide
  intro L h₁ F N hL
  (try dsimp only)
  (try k_fold)
  k_steps
  unfold Hold
  refine indexMethod (F.keep _ _ hg1) ?_
  k_steps
  unfold Hold
  refine indexRow (f := f) (n := n) ⟨_, F.keep _ _ hg1, rfl, _, rfl⟩ hc0 hf hn ?_
  k_steps
  unfold Hold
  rename Fr _ _ _ _ => F
  rename News _ _ _ _ => N
  refine For_invVF F rfl rfl (wpHold ?_)
  k_steps
  unfold Hold
  refine loopList (ReadJ f (grid f n)) rfl hl F N ⟨_, _, rfl, rfl, rfl⟩ ?turn ?done
  case done =>
    intro m₁ news₁ h tk ⟨t1, t2, hm1, hm2, hnews⟩ F N
    subst hnews
    have hlen : (refsOf ((T0, vs0) :: led')).length = (grid f n).length := by rw [refsOf, List.length_map, hrows.length]
    rw [hlen, List.take_length, grid_max hn] at hm2
    rw [pin2 hm1 hm2] at F
    k_steps
    rename Fr _ _ _ _ => F
    rename News _ _ _ _ => N
    exact hret _ _ _ _ _ F.keep (N.get (.head _)) (N.fresh (.head _))
  case turn =>
    intro i v m₁ news₁ h tk I oI hi ⟨t1, t2, hm1, hm2, hnews⟩ hoff F N
    subst hnews
    rw [pin2 hm1 hm2] at F
    obtain ⟨p, row, hp, hrow, rfl, hcr⟩ := rows_at hrows hi
    have hgp : s.heap.get? p.1 = some (listOf p.2.toArray 0) := hlf.row (List.mem_of_getElem? hp)
    have hpl := (grid_plain row (List.mem_of_getElem? hrow)).2
    k_steps
    unfold Hold
    rename Fr _ _ _ _ => F
    rename News _ _ _ _ => N
    refine For_invVF F rfl rfl (wpHold ?_)
    k_steps
    unfold Hold
    rename Fr _ _ _ _ => F
    rename News _ _ _ _ => N
    refine loopList (ReadI f ((grid f n).take i).flatten row [(I, oI)]) rfl ⟨_, hgp, rfl, _, rfl⟩ F N ⟨t1, t2, rfl, ?h00, rfl⟩ ?turn2 ?done2
    case h00 => rw [List.take_zero, List.append_nil]; rfl
    case done2 =>
      intro m₂ news₂ h' tk' ⟨t1, t2, hm1, hm2, hnews⟩ F N
      subst hnews
      rw [hcr.length_eq, List.take_length, ← take_next hrow] at hm2
      rw [pin2 hm1 hm2] at F
      k_steps
      exact ⟨rfl, _, _, _, [], rfl, F, N, (fun _ hp => nomatch hp), ⟨_, _, rfl, rfl, rfl⟩⟩
    case turn2 =>
      intro j v' m₂ news₂ h' tk' I' oI' hj ⟨t1, t2, hm1, hm2, hnews⟩ hoff' F N
      subst hnews
      rw [pin2 hm1 hm2] at F
      obtain ⟨d, hd, hcd⟩ := carried_get hcr hj
      rcases hpl d (List.mem_of_getElem? hd) with rfl | ⟨x, rfl⟩
      · cases hcd
        k_steps
        refine ⟨rfl, _, _, _, [(I, oI)], rfl, F, N, hoff', t1, t2, rfl, ?_, rfl⟩
        show some (Value.int (maxOf _) t2) = _
        rw [max_next hd, maxOf_snoc]
      · cases hcd with
        | int _ t3 =>
          k_steps
          · rename Fr _ _ _ _ => F'
            rename News _ _ _ _ => N'
            refine ⟨rfl, _, _, _, [(I, oI)], rfl, F', N', hoff', t1, t3, rfl, ?_, rfl⟩
            show some (Value.int x _) = _
            rw [max_next hd, maxOf_snoc]
            dsimp only
            rw [if_pos (by assumption)]
          · refine ⟨rfl, _, _, _, [(I, oI)], rfl, F, N, hoff', t1, t2, rfl, ?_, rfl⟩
            show some (Value.int (maxOf _) t2) = _
            rw [max_next hd, maxOf_snoc]
            dsimp only
            rw [if_neg (by assumption)]
end
end Mine

namespace Mine
def PartJ (D : Addr) (led : List (Addr × List Value)) (i : Nat) (m : Str → Option Value) (news : List (Addr × Obj)) : Prop :=
  m "rows" = some (.ref D) ∧ ∃ led', news = rowsLed led' ∧ led'.map (·.1) = led.map (·.1) ∧ (∀ p ∈ led', p.2.length = 7) ∧ ∀ j, j < i → ∃ q t, led'[j]? = some q ∧ q.2[0]? = some (.int (100 + (j : Int)) t)
theorem refs_item {led led' : List (Addr × List Value)} (hadr : led'.map (·.1) = led.map (·.1)) {i : Nat} {q : Addr × List Value} (hq : led'[i]? = some q) : (refsOf led).toArray[(0 + (i : Int)).toNat]? = some (.ref q.1) := by
  have e : refsOf led = (led'.map (·.1)).map Value.ref := by rw [hadr, refsOf, List.map_map]; rfl
  rw [e, show (0 + (i : Int)).toNat = i by omega]
  simp [hq]
theorem led_cut {led : List (Addr × List Value)} {i : Nat} {q : Addr × List Value} (hq : led[i]? = some q) : rowsLed led = rowsLed (led.take i) ++ (q.1, listOf q.2.toArray 0) :: rowsLed (led.drop (i + 1)) := by
  have hi : i < led.length := (List.getElem?_eq_some_iff.mp hq).1
  have e : led = led.take i ++ q :: led.drop (i + 1) := by
    conv => lhs; rw [← List.take_append_drop i led, List.drop_eq_getElem_cons hi, (List.getElem?_eq_some_iff.mp hq).2]
  conv => lhs; rw [e]
  unfold rowsLed
  rw [List.map_append]; rfl
theorem led_set {led : List (Addr × List Value)} {i : Nat} {q : Addr × List Value} {vs : List Value} (hq : led[i]? = some q) : rowsLed (led.set i (q.1, vs)) = rowsLed (led.take i) ++ (q.1, listOf vs.toArray 0) :: rowsLed (led.drop (i + 1)) := by
  have hi : i < led.length := (List.getElem?_eq_some_iff.mp hq).1
  rw [List.set_eq_take_append_cons_drop, if_pos hi]
  unfold rowsLed
  rw [List.map_append]; rfl
theorem set_adr {led : List (Addr × List Value)} {i : Nat} {q : Addr × List Value} {vs : List Value} (hq : led[i]? = some q) : (led.set i (q.1, vs)).map (·.1) = led.map (·.1) := by
  apply List.ext_getElem?
  intro j
  rw [List.getElem?_map, List.getElem?_map, List.getElem?_set]
  by_cases e : i = j
  · subst e
    rw [if_pos rfl, if_pos (List.getElem?_eq_some_iff.mp hq).1, hq]; rfl
  · rw [if_neg e]
theorem cut_off {led : List (Addr × List Value)} {i : Nat} {q : Addr × List Value} (hq : led[i]? = some q) (hnd : (led.map (·.1)).Nodup) : (∀ p ∈ rowsLed (led.take i), p.1 ≠ q.1) ∧ ∀ p ∈ rowsLed (led.drop (i + 1)), p.1 ≠ q.1 := by
  have hi : i < led.length := (List.getElem?_eq_some_iff.mp hq).1
  have e : led = led.take i ++ q :: led.drop (i + 1) := by
    conv => lhs; rw [← List.take_append_drop i led, List.drop_eq_getElem_cons hi, (List.getElem?_eq_some_iff.mp hq).2]
  rw [e, List.map_append, List.map_cons] at hnd
  obtain ⟨_, h2, h3⟩ := List.nodup_append.mp hnd
  refine ⟨fun p hp => ?_, fun p hp hh => ?_⟩
  · obtain ⟨r, hr, rfl⟩ := List.mem_map.mp hp
    exact h3 r.1 (List.mem_map.mpr ⟨r, hr, rfl⟩) q.1 (.head _)
  · obtain ⟨r, hr, rfl⟩ := List.mem_map.mp hp
    exact (List.nodup_cons.mp h2).1 (hh ▸ List.mem_map.mpr ⟨r, hr, rfl⟩)
theorem set_off {led : List (Addr × List Value)} {i : Nat} {q : Addr × List Value} {vs : List Value} {I : Addr} (hq : led[i]? = some q) (hoff : ∀ p ∈ rowsLed led, p.1 ≠ I) : ∀ p ∈ rowsLed (led.set i (q.1, vs)), p.1 ≠ I := by
  intro p hp
  obtain ⟨r, hr, rfl⟩ := List.mem_map.mp hp
  rcases List.mem_or_eq_of_mem_set hr with hr | rfl
  · exact hoff (r.1, listOf r.2.toArray 0) (List.mem_map.mpr ⟨r, hr, rfl⟩)
  · exact hoff (q.1, listOf q.2.toArray 0) (List.mem_map.mpr ⟨q, List.mem_of_getElem? hq, rfl⟩)
theorem set_done {led : List (Addr × List Value)} {i : Nat} {q : Addr × List Value} {t : Tok} (hq : led[i]? = some q) (hset : ∀ j, j < i → ∃ q t, led[j]? = some q ∧ q.2[0]? = some (Value.int (100 + (j : Int)) t)) (h7 : 0 < q.2.length) :
    ∀ j, j < i + 1 → ∃ q' t', (led.set i (q.1, q.2.set 0 (Value.int (100 + (0 + (i : Int))) t)))[j]? = some q' ∧ q'.2[0]? = some (Value.int (100 + (j : Int)) t') := by
  intro j hj
  rw [List.getElem?_set]
  by_cases e : i = j
  · subst e
    rw [if_pos rfl, if_pos (List.getElem?_eq_some_iff.mp hq).1]
    refine ⟨_, t, rfl, ?_⟩
    rw [Int.zero_add, List.getElem?_set, if_pos rfl, if_pos h7]
  · rw [if_neg e]
    exact hset j (by omega)
section
local macro_rules | `(tactic| walk_at "exec For Name Call cons nil") => `(tactic| refine Hold.out ?_)
local macro_rules | `(tactic| walk_at "subscriptTail") => `(tactic| refine Hold.out ?_)
local macro_rules | `(tactic| walk_at "setItem ref int") => `(tactic| refine Hold.out ?_)
local macro_rules | `(tactic| walk_at "call builtin:len") => `(tactic| (k_here; k_dflt (refine' len_list ?l ?f ?_; (case l => is_list); (case f => assumption))))

theorem parted_call {w : World} {dp un : Nat} {fr : Option (List Env)} {gd : Option (List Code)} {s : Shared} {h₀ : Heap} {mg mb : Str → Option Value} {mean : ExcName → Option Value} {D : Addr} {led : List (Addr × List Value)} {rows : List (List PyData)} {Q E : Value → Shared → Prop}
    (hd : dp + 1 < recursionLimit)
    (X : (Mine.hd.heap_39 w.params).In h₀) (T : Top Mine.hd.view_39 (looseW Mine.hd.view_39 []) mean mg mb h₀) (hk : ∀ b o, h₀.get? b = some o → s.heap.get? b = some o) (hnew : ∀ T ∈ led.map (·.1), h₀.get? T = none)
    (hlf : LeafAt s.heap D led rows) (hlen : led.length ≤ 20) (hrow : ∀ p ∈ led, p.2.length = 7)
    (hret : ∀ h' tk', (∀ b o, b ∉ led.map (·.1) → s.heap.get? b = some o → h'.get? b = some o) → Q (.bool true) { s with heap := h', toks := tk' }) :
    wpAny (model PySem.Challenge.rw_bb6037_01.row.prog w) ⟨none, dp, fr, gd, un⟩ (call (.ref 47) [.ref D]) Q E s := by
  have hkg : ∀ b o, (hideAll s.heap (led.map (·.1))).get? b = some o → s.heap.get? b = some o := fun b o e => of_hideAll _ e
  have hg : ∀ b o, b ∉ led.map (·.1) → s.heap.get? b = some o → (hideAll s.heap (led.map (·.1))).get? b = some o := fun b o hb e => hideAll_get _ e hb
  have h0g : ∀ b o, h₀.get? b = some o → (hideAll s.heap (led.map (·.1))).get? b = some o := fun b o e => hg b o (fun hm => by rw [hnew b hm] at e; cases e) (hk b o e)
  have Xg := X.keeps h0g
  have Tg := T.keeps h0g
  have hgn : ∀ p ∈ rowsLed led, s.heap.get? p.1 = some p.2 ∧ (hideAll s.heap (led.map (·.1))).get? p.1 = none := fun p hp => ⟨hlf.2.1 p hp, hideAll_none _ (by
    obtain ⟨q, hq, rfl⟩ := List.mem_map.mp hp
    exact List.mem_map.mpr ⟨q, hq, rfl⟩)⟩
  have hDl : (hideAll s.heap (led.map (·.1))).IsList D (refsOf led).toArray := by
    obtain ⟨ep, e⟩ := hlf.1
    exact ⟨_, hg _ _ (List.nodup_cons.mp hlf.2.2.2).1 e, rfl, ep, rfl⟩
  have hz : (hideAll s.heap (led.map (·.1))).objs.size ≤ s.heap.objs.size := Nat.le_of_eq (hideAll_size _ _)
  have hret' : ∀ h' tk', (∀ b o, (hideAll s.heap (led.map (·.1))).get? b = some o → h'.get? b = some o) → Q (.bool true) { s with heap := h', toks := tk' } := fun h' tk' hk' => hret h' tk' fun b o hb e => hk' b o (hg b o hb e)
  have hnd := (List.nodup_cons.mp hlf.2.2.2).2
  have hsz : (refsOf led).toArray.size = led.length := by rw [List.size_toArray, refsOf, List.length_map]
  have hfit : (((refsOf led).toArray.size : Nat) : Int) < 2 ^ 63 := by rw [hsz]; omega
  generalize hideAll s.heap (led.map (·.1)) = g at *
  clear X T hk hnew h0g hg hret
  revert Xg
  k_fill
  intro X
  refine' enter (g := g) (news := rowsLed led) hkg hz hgn X Tg ?k6 ?k7 ?k8 ?k9 ?kB ?c2 ?c3 ?c4 ?c5 ?_
  case k6 => k_is
  case k7 => k_is
  case k8 => exact Nat.lt_of_succ_lt hd
  case k9 => exact BindsTo.of_eq rfl
  case kB => exact locs rfl
  case c2 => exact rfl
  case c3 => exact rfl
  case c4 => exact rfl
  case c5 => decide
  intro L h₁ F N hL
  (try dsimp only)
  (try k_fold)
  k_steps
  unfold Hold
  refine For_invVF F rfl rfl (wpHold ?_)
  k_steps
  unfold Hold
  rename IsRange _ _ _ _ _ _ _ _ => R
  rename Fr _ _ _ _ => F
  rename News _ _ _ _ => N
  rw [hsz] at R
  refine loopRange (n := led.length) (PartJ D led) rfl R ?hsm ?hrs F N ⟨rfl, led, rfl, rfl, hrow, fun _ h => absurd h (Nat.not_lt_zero _)⟩ ?turn ?done
  case hsm => exact small_one (a := 0) (b := (led.length : Int)) (by decide) (by decide) (by omega) (by omega)
  case hrs => rw [rangeSize_one]; omega
  case turn =>
    intro i t m₁ news₁ h tk I oI hi ⟨hm1, led', hnews, hadr, hrow', hset⟩ hoff F N
    subst hnews
    rw [pin1 hm1] at F
    have hll : led'.length = led.length := by rw [← List.length_map (f := fun x : Addr × List Value => x.1), hadr, List.length_map]
    obtain ⟨q, hq⟩ : ∃ q, led'[i]? = some q := ⟨led'[i]'(by omega), List.getElem?_eq_getElem _⟩
    have hnd' : (led'.map (·.1)).Nodup := hadr ▸ hnd
    k_steps
    unfold Hold
    refine item_list (hDl.at fun o e => F.keep _ o e) (by omega) (by omega) (refs_item hadr hq) ?_
    k_steps
    unfold Hold
    rename Fr _ _ _ _ => F
    rename News _ _ _ _ => N
    rw [led_cut hq] at N
    have hz := cut_off hq hnd'
    have hqI : @Ne Nat I q.1 := fun e => hoff (q.1, listOf q.2.toArray 0) (List.mem_map.mpr ⟨q, List.mem_of_getElem? hq, rfl⟩) e.symm
    refine' setAt (pre := (I, oI) :: rowsLed (led'.take i)) F N ?za ?zb ?z0 ?zfit ?zn ?_
    case za => exact List.forall_mem_cons.mpr ⟨by k_ne, hz.1⟩
    case zb => exact hz.2
    case z0 => decide
    case zfit => decide
    case zn => (have h7 := hrow' q (List.mem_of_getElem? hq)); (simp only [List.size_toArray, h7]; decide)
    intro h' F N
    k_steps
    rename Fr _ _ _ _ => F
    rename News _ _ _ _ => N
    rw [List.setIfInBounds_toArray, List.cons_append, Int.toNat_zero, ← led_set hq] at N
    refine ⟨rfl, _, _, _, _, rfl, F, N, ?_, rfl, _, rfl, ?_, ?_, ?_⟩
    · exact set_off hq hoff
    · rw [set_adr hq]; exact hadr
    · intro p hp
      rcases List.mem_or_eq_of_mem_set hp with hp | rfl
      · exact hrow' p hp
      · rw [List.length_set]; exact hrow' q (List.mem_of_getElem? hq)
    · exact set_done hq hset (by have := hrow' q (List.mem_of_getElem? hq); omega)
  case done =>
    intro m₁ news₁ h tk ⟨hm1, led', hnews, hadr, hrow', hset⟩ F N
    subst hnews
    rw [pin1 hm1] at F
    have hll : led'.length = led.length := by rw [← List.length_map (f := fun x : Addr × List Value => x.1), hadr, List.length_map]
    k_steps
    unfold Hold
    refine For_invVF F rfl rfl (wpHold ?_)
    k_steps
    unfold Hold
    rename IsRange _ _ _ _ _ _ _ _ => R
    rename Fr _ _ _ _ => F
    rename News _ _ _ _ => N
    rw [hsz] at R
    refine loopRange (n := led.length) (fun _ m news => m "rows" = some (.ref D) ∧ news = rowsLed led') rfl R ?hsm2 ?hrs2 F N ⟨rfl, rfl⟩ ?turn2 ?done2
    case hsm2 => exact small_one (a := 0) (b := (led.length : Int)) (by decide) (by decide) (by omega) (by omega)
    case hrs2 => rw [rangeSize_one]; omega
    case done2 =>
      intro m₁ news₁ h tk ⟨hm1, hnews⟩ F N
      k_steps
      exact hret' _ _ F.keep
    case turn2 =>
      intro i t m₁ news₁ h tk I oI hi ⟨hm1, hnews⟩ hoff F N
      subst hnews
      rw [pin1 hm1] at F
      obtain ⟨q, t', hq, hq0⟩ := hset i hi
      k_steps
      unfold Hold
      refine item_list (hDl.at fun o e => F.keep _ o e) (by omega) (by omega) (refs_item hadr hq) ?_
      k_steps
      unfold Hold
      rename Fr _ _ _ _ => F
      rename News _ _ _ _ => N
      refine item_list ⟨_, N.get (.tail _ (List.mem_map.mpr ⟨q, List.mem_of_getElem? hq, rfl⟩)), rfl, _, rfl⟩ (by decide) (by decide) (by rw [List.getElem?_toArray]; exact hq0) ?_
      k_steps
      · exfalso; omega
      · exact ⟨rfl, _, _, _, _, rfl, F, N, hoff, rfl, rfl⟩
end
end Mine

namespace Mine
/-- a leaf's part of the ledger -/
def leafLed (D : Addr) (ep : Nat) (led : List (Addr × List Value)) : List (Addr × Obj) := (D, listOf (refsOf led).toArray ep) :: rowsLed led
def tupOf (f n : Int) (t1 t2 : Tok) : Obj := { cls := .type "tuple", data := .seq #[.int f t1, .int n t2] }
theorem leafAt_of {h₀ h : Heap} {L D : Addr} {ep : Nat} {led : List (Addr × List Value)} {rows : List (List PyData)} {news : List (Addr × Obj)} (N : News h₀ L h news) (hs : ∀ p ∈ leafLed D ep led, p ∈ news) (hr : RowsAre led rows) (hnd : (D :: led.map (·.1)).Nodup) : LeafAt h D led rows :=
  ⟨⟨ep, N.get (hs _ (.head _))⟩, fun p hp => N.get (hs p (.tail _ hp)), hr, hnd⟩
theorem leaf_adr {D : Addr} {ep : Nat} {led : List (Addr × List Value)} {p : Addr × Obj} (h : p ∈ leafLed D ep led) : p.1 ∈ D :: led.map (·.1) := by
  rcases List.mem_cons.mp h with rfl | h
  · exact .head _
  · obtain ⟨q, hq, rfl⟩ := List.mem_map.mp h
    exact .tail _ (List.mem_map.mpr ⟨q, hq, rfl⟩)
theorem news_leaf {h₀ h h' : Heap} {L D : Addr} {m : Str → Option Value} {led : List (Addr × List Value)} {rows : List (List PyData)} {news : List (Addr × Obj)} (F : Fr h₀ L h m) (N : News h₀ L h news) (hk : ∀ b o, h.get? b = some o → h'.get? b = some o) (hlf : LeafAt h' D led rows) (hfr : ∀ T ∈ D :: led.map (·.1), h.get? T = none) :
    ∃ ep, Fr h₀ L h' m ∧ News h₀ L h' (leafLed D ep led ++ news) ∧ ∀ p ∈ news, ∀ q ∈ leafLed D ep led, p.1 ≠ q.1 := by
  obtain ⟨⟨ep, hD⟩, h2, h3, h4⟩ := hlf
  refine ⟨ep, F.keeps hk, fun p hp => ?_, fun p hp q hq e => ?_⟩
  · rcases List.mem_append.mp hp with hp | hp
    · have hn := hfr _ (leaf_adr hp)
      refine ⟨?_, fun e => ?_, ?_⟩
      · rcases List.mem_cons.mp hp with rfl | hp
        · exact hD
        · exact h2 p hp
      · obtain ⟨o, _, _, ho, _⟩ := F.ns
        rw [e, ho] at hn
        cases hn
      · cases e : h₀.get? p.1 with
        | none => rfl
        | some o => rw [F.keep _ _ e] at hn; cases hn
    · exact N.grown hk p hp
  · have hn := hfr _ (leaf_adr hq)
    rw [← e, (N p hp).1] at hn
    cases hn
theorem plain_lay : ∀ {row : List PyData}, (∀ d ∈ row, Plain1 d) → PyData.canLayAll0 row = true ∧ PyData.depthAll row = 0
  | [], _ => by simp [PyData.canLayAll0, PyData.depthAll]
  | d :: row, h => by
    obtain ⟨h1, h2⟩ := plain_lay fun x hx => h x (.tail _ hx)
    rcases h d (.head _) with rfl | ⟨i, rfl⟩ <;> simp [PyData.canLayAll0, PyData.depthAll, PyData.canLay0, PyData.depth, h1, h2]
theorem rows_lay : ∀ {rows : List (List PyData)}, (∀ row ∈ rows, ∀ d ∈ row, Plain1 d) → PyData.canLayAll0 (rows.map PyData.list) = true ∧ PyData.depthAll (rows.map PyData.list) ≤ 1
  | [], _ => by simp [PyData.canLayAll0, PyData.depthAll]
  | row :: rows, h => by
    obtain ⟨h1, h2⟩ := rows_lay fun x hx => h x (.tail _ hx)
    obtain ⟨h3, h4⟩ := plain_lay (h row (.head _))
    simp [PyData.canLayAll0, PyData.depthAll, PyData.canLay0, PyData.depth, h1, h3, h4]
    omega
theorem grid_shaped (f n : Nat) : SeqAt.shaped (.list ((grid f n).map PyData.list)) = true := by
  obtain ⟨h1, h2⟩ := rows_lay fun row hrow => (grid_plain (f := f) (n := n) row hrow).2
  unfold SeqAt.shaped
  rw [Bool.and_eq_true]
  refine ⟨?_, decide_eq_true ?_⟩
  · simp only [PyData.canLay0]; exact h1
  · simp only [PyData.depth]; omega
section
variable {w : World} {dp un : Nat} {fr : Option (List Env)} {gd : Option (List Code)} {s : Shared} {h₀ : Heap} {L : Addr} {m mg mb : Str → Option Value} {mean : ExcName → Option Value} {fi ni start : Int} {t u : Tok} {news : List (Addr × Obj)} {Q E : Value → Shared → Prop}
theorem ne_leaf {A : Around} {prog : Program} {D D' : Addr} {led led' : List (Addr × List Value)} {f n : Nat} (h1 : LeafAt s.heap D led (grid f n)) (h2 : LeafAt s.heap D' led' (grid f n)) (hu : A.units + 64 < cLine) (h : Q (.bool false) s) :
    wpAny (model prog w) A (compareOp .NotEq (.ref D) (.ref D')) Q E s := by
  refine ne_dataH h1.reads h2.reads (grid_shaped f n) (grid_shaped f n) hu ?_
  rw [PySem.SeqAt.eqv_refl _ (SeqAt.canLay_of_shaped (grid_shaped f n))]
  exact h
theorem leaf_step (hd : dp + 1 < recursionLimit) (F : Fr h₀ L s.heap m) (N : News h₀ L s.heap news) (X : (Mine.hd.heap_39 w.params).In h₀) (T : Top Mine.hd.view_39 (looseW Mine.hd.view_39 []) mean mg mb h₀)
    (f0 : 0 ≤ fi) (f1 : fi < 7) (n1 : 1 ≤ ni) (n2 : ni ≤ 70)
    (h : ∀ D ep led h' tk', Fr h₀ L h' m → News h₀ L h' (leafLed D ep led ++ news) → RowsAre led (grid fi.toNat ni.toNat) → (D :: led.map (·.1)).Nodup → (∀ p ∈ news, ∀ q ∈ leafLed D ep led, p.1 ≠ q.1) → Q (.ref D) { s with heap := h', toks := tk' }) :
    wpAny (model PySem.Challenge.rw_bb6037_01.row.prog w) ⟨none, dp, fr, gd, un⟩ (call (.ref 33) [.int fi t, .int ni u]) Q E s := by
  obtain ⟨f, rfl⟩ := Int.eq_ofNat_of_zero_le f0
  obtain ⟨n, rfl⟩ := Int.eq_ofNat_of_zero_le (a := ni) (by omega)
  refine leaf_call hd (X.keeps F.keep) (T.keeps F.keep) (by omega) (by omega) fun D led h' tk' hk hlf hfr => ?_
  obtain ⟨ep, F', N', hoff⟩ := news_leaf F N hk hlf hfr
  refine h D ep led h' tk' F' N' ?_ hlf.2.2.2 hoff
  obtain ⟨k, rfl⟩ : ∃ k, n = k + 1 := ⟨n - 1, by omega⟩
  have e := leafRows_grid (f := f) (by omega) k
  have hr := hlf.2.2.1
  rw [e] at hr
  exact hr
theorem helper_step (hd : dp + 1 < recursionLimit) (F : Fr h₀ L s.heap m) (N : News h₀ L s.heap news) (X : (Mine.hd.heap_39 w.params).In h₀) (T : Top Mine.hd.view_39 (looseW Mine.hd.view_39 []) mean mg mb h₀)
    (hst : (start + 1).fmod 7 = fi) (n1 : 1 ≤ ni) (n2 : ni ≤ 70)
    (h : ∀ D ep led h' tk', Fr h₀ L h' m → News h₀ L h' (leafLed D ep led ++ news) → RowsAre led (grid fi.toNat ni.toNat) → (D :: led.map (·.1)).Nodup → (∀ p ∈ news, ∀ q ∈ leafLed D ep led, p.1 ≠ q.1) → Q (.ref D) { s with heap := h', toks := tk' }) :
    wpAny (model PySem.Challenge.rw_bb6037_01.row.prog w) ⟨none, dp, fr, gd, un⟩ (call (.ref 19) [.int start t, .int ni u]) Q E s := by
  refine helper_call hd (X.keeps F.keep) (T.keeps F.keep) n1 n2 fun D led h' tk' hk hlf hfr => ?_
  obtain ⟨ep, F', N', hoff⟩ := news_leaf F N hk hlf hfr
  refine h D ep led h' tk' F' N' ?_ hlf.2.2.2 hoff
  have hr := hlf.2.2.1
  rw [toldOf_grid, hst] at hr
  exact hr
theorem read_step {D : Addr} {ep : Nat} {led : List (Addr × List Value)} (hd : dp + 1 < recursionLimit) (F : Fr h₀ L s.heap m) (N : News h₀ L s.heap news) (X : (Mine.hd.heap_39 w.params).In h₀) (T : Top Mine.hd.view_39 (looseW Mine.hd.view_39 []) mean mg mb h₀)
    (f0 : 0 ≤ fi) (f1 : fi < 7) (n1 : 1 ≤ ni) (hs : ∀ p ∈ leafLed D ep led, p ∈ news) (hr : RowsAre led (grid fi.toNat ni.toNat)) (hnd : (D :: led.map (·.1)).Nodup)
    (h : ∀ T t1 t2 h' tk', Fr h₀ L h' m → News h₀ L h' ((T, tupOf fi ni t1 t2) :: news) → (∀ p ∈ news, p.1 ≠ T) → Q (.ref T) { s with heap := h', toks := tk' }) :
    wpAny (model PySem.Challenge.rw_bb6037_01.row.prog w) ⟨none, dp, fr, gd, un⟩ (call (.ref 40) [.ref D]) Q E s := by
  obtain ⟨f, rfl⟩ := Int.eq_ofNat_of_zero_le f0
  obtain ⟨n, rfl⟩ := Int.eq_ofNat_of_zero_le (a := ni) (by omega)
  refine read_call (f := f) (n := n) hd (X.keeps F.keep) (T.keeps F.keep) (by omega) (by omega) (leafAt_of N hs hr hnd) fun T t1 t2 h' tk' hk hT hn => ?_
  refine h T t1 t2 h' tk' (F.keeps hk) (fun p hp => ?_) fun p hp e => ?_
  · rcases List.mem_cons.mp hp with rfl | hp
    · refine ⟨hT, fun e => ?_, ?_⟩
      · obtain ⟨o, _, _, ho, _⟩ := F.ns
        have e' : T = L := e
        rw [e', ho] at hn
        cases hn
      · cases e : h₀.get? T with
        | none => rfl
        | some o => rw [F.keep _ _ e] at hn; cases hn
    · exact N.grown hk p hp
  · rw [← e, (N p hp).1] at hn
    cases hn
theorem parted_step {D : Addr} {ep : Nat} {led : List (Addr × List Value)} {rest : List (Addr × Obj)} {f n : Nat} (hd : dp + 1 < recursionLimit) (F : Fr h₀ L s.heap m) (N : News h₀ L s.heap news) (X : (Mine.hd.heap_39 w.params).In h₀) (T : Top Mine.hd.view_39 (looseW Mine.hd.view_39 []) mean mg mb h₀)
    (hs : ∀ p ∈ leafLed D ep led, p ∈ news) (hr : RowsAre led (grid f n)) (hnd : (D :: led.map (·.1)).Nodup) (hz : f < 7) (hn : n ≤ 70) (hsub : ∀ p ∈ rest, p ∈ news) (hoff : ∀ p ∈ rest, ∀ q ∈ leafLed D ep led, p.1 ≠ q.1)
    (h : ∀ h' tk', Fr h₀ L h' m → News h₀ L h' rest → Q (.bool true) { s with heap := h', toks := tk' }) :
    wpAny (model PySem.Challenge.rw_bb6037_01.row.prog w) ⟨none, dp, fr, gd, un⟩ (call (.ref 47) [.ref D]) Q E s := by
  have hin : ∀ T ∈ led.map (·.1), ∃ o, (T, o) ∈ news ∧ (T, o) ∈ leafLed D ep led := fun T hT => by
    obtain ⟨q, hq, rfl⟩ := List.mem_map.mp hT
    have hm : (q.1, listOf q.2.toArray 0) ∈ leafLed D ep led := .tail _ (List.mem_map.mpr ⟨q, hq, rfl⟩)
    exact ⟨_, hs _ hm, hm⟩
  have hold : ∀ b o, h₀.get? b = some o → b ∉ led.map (·.1) := fun b o e hb => by
    obtain ⟨o', h1, _⟩ := hin b hb
    have h3 := (N _ h1).2.2
    dsimp only at h3
    rw [e] at h3
    cases h3
  refine parted_call hd X T F.keep (fun T hT => ?_) (leafAt_of N hs hr hnd) ?_ (fun p hp => ?_) fun h' tk' hk => h h' tk' ?_ fun p hp => ?_
  · obtain ⟨o', h1, _⟩ := hin T hT
    exact (N _ h1).2.2
  · rw [hr.length]
    unfold grid
    rw [List.length_map, List.length_range]
    omega
  · obtain ⟨row, h1, h2⟩ := hr.plain p hp
    rw [h2.length_eq]
    exact (grid_plain row h1).1
  · obtain ⟨oL, a1, a2, hL, a3⟩ := F.ns
    refine ⟨⟨oL, a1, a2, hk _ _ (fun hm => ?_) hL, a3⟩, fun b o e => hk _ _ (hold b o e) (F.keep b o e), F.above⟩
    obtain ⟨o', h1, _⟩ := hin L hm
    exact (N _ h1).2.1 rfl
  · have h1 := N p (hsub p hp)
    refine ⟨hk _ _ (fun hm => ?_) h1.1, h1.2⟩
    obtain ⟨o', _, h3⟩ := hin p.1 hm
    exact hoff p hp _ h3 rfl
end
end Mine

namespace Mine
inductive LawMark : Prop
  | mk : LawMark
def LawJ (av bv cv : Int) (_ : Nat) (m : Str → Option Value) (news : List (Addr × Obj)) : Prop :=
  ∃ ta tb tc, m "a" = some (.int av ta) ∧ m "b" = some (.int bv tb) ∧ m "c" = some (.int cv tc) ∧ news = []
theorem pin3 {m : Str → Option Value} {x y z : Str} {u v w : Value} (ha : m x = some u) (hb : m y = some v) (hc : m z = some w) : m = fun q => if q = x then some u else if q = y then some v else if q = z then some w else m q := by
  funext q
  by_cases h1 : q = x
  · subst h1; simp [ha]
  · by_cases h2 : q = y
    · subst h2; simp [h1, hb]
    · by_cases h3 : q = z
      · subst h3; simp [h1, h2, hc]
      · simp [h1, h2, h3]
theorem f70 (x : Int) : 0 ≤ x.fmod 7 ∧ x.fmod 7 < 7 := ⟨Int.fmod_nonneg_of_pos _ (by decide), Int.fmod_lt_of_pos _ (by decide)⟩
theorem h70 (x : Int) : 1 ≤ 1 + x.fmod 70 ∧ 1 + x.fmod 70 ≤ 70 := by
  have h0 := Int.fmod_nonneg_of_pos x (b := 70) (by decide)
  have h1 := Int.fmod_lt_of_pos x (b := 70) (by decide)
  omega
theorem turn_col (a i : Int) : (7 * a + i + 1).fmod 7 = (i + 1).fmod 7 := by
  rw [Int.fmod_eq_emod_of_nonneg _ (by decide), Int.fmod_eq_emod_of_nonneg _ (by decide)]
  omega
theorem h70n (x : Int) : (1 + x.fmod 70).toNat ≤ 70 := by
  have := h70 x
  omega
theorem ne_tup {prog : Program} {w : World} {A : Around} {E : Value → Shared → Prop} {s : Shared} {h₀ : Heap} {L : Addr} {news : List (Addr × Obj)} {a b : Addr} {f n : Int} {t1 t2 u1 u2 : Tok} {k : Nat} {Q : Value → Shared → Prop} (N : News h₀ L s.heap news)
    (ha : (a, tupOf f n t1 t2) ∈ news) (hb : (b, ({ cls := .type "tuple", data := .seq [Value.int f u1, Value.int n u2].toArray k } : Obj)) ∈ news) (hu : A.units + 64 < cLine) (h : Q (.bool false) s) :
    wpAny (model prog w) A (compareOp .NotEq (.ref a) (.ref b)) Q E s := by
  have r1 : Reads s.heap (.ref a) (.tuple [.int f, .int n]) ([] ++ ([] ++ [])) := Reads.tuple (N.get ha) rfl rfl (.cons (.int f t1) (.cons (.int n t2) .nil))
  have r2 : Reads s.heap (.ref b) (.tuple [.int f, .int n]) ([] ++ ([] ++ [])) := Reads.tuple (N.get hb) rfl rfl (.cons (.int f u1) (.cons (.int n u2) .nil))
  have hs : SeqAt.shaped (.tuple [.int f, .int n]) = true := by simp [SeqAt.shaped, PyData.canLay0, PyData.canLayAll0, PyData.depth, PyData.depthAll]
  refine ne_dataH r1 r2 hs hs hu ?_
  rw [PySem.SeqAt.eqv_refl _ (SeqAt.canLay_of_shaped hs)]
  exact h
theorem eq_last {prog : Program} {w : World} {A : Around} {E : Value → Shared → Prop} {s : Shared} {D a b : Addr} {led : List (Addr × List Value)} {t : Tok} {j k : Nat} {Q : Value → Shared → Prop} (h1 : LeafAt s.heap D led (grid 1 1))
    (ha : s.heap.get? a = some (listOf [Value.ref b].toArray j)) (hb : s.heap.get? b = some (listOf [Value.none, Value.int 1 t, Value.none, Value.none, Value.none, Value.none, Value.none].toArray k)) (hu : A.units + 64 < cLine) (h : Q (.bool true) s) :
    wpAny (model prog w) A (compareOp .Eq (.ref D) (.ref a)) Q E s := by
  have e : (grid 1 1).map PyData.list = [.list [.none, .int 1, .none, .none, .none, .none, .none]] := rfl
  have rb : Reads s.heap (.ref b) (.list [.none, .int 1, .none, .none, .none, .none, .none]) (b :: []) :=
    Reads.list hb rfl rfl (CarriedAll.reads s.heap (.cons .none (.cons (.int 1 t) (.cons .none (.cons .none (.cons .none (.cons .none (.cons .none .nil))))))))
  have ra : Reads s.heap (.ref a) (.list ((grid 1 1).map PyData.list)) (a :: ([b] ++ [])) := by
    rw [e]
    exact Reads.list ha rfl rfl (.cons rb .nil)
  refine eq_dataH h1.reads ra (grid_shaped 1 1) (grid_shaped 1 1) hu ?_
  rw [PySem.SeqAt.eqv_refl _ (SeqAt.canLay_of_shaped (grid_shaped 1 1))]
  exact h
end Mine
open Mine
local macro_rules | `(tactic| walk_at "exec For Name Call cons nil") => `(tactic| refine Hold.out ?_)
local macro_rules | `(tactic| walk_at "call ref") => `(tactic| ((with_reducible rename LawMark => hM9); refine Hold.out ?_))
local macro_rules | `(tactic| walk_at "compareOp NotEq ref ref") => `(tactic| ((with_reducible rename LawMark => hM9); refine Hold.out ?_))
local macro_rules | `(tactic| walk_at "compareOp Eq ref ref") => `(tactic| ((with_reducible rename LawMark => hM9); refine Hold.out ?_))
theorem PySem.Challenge.cw_bb6037_01_holds : PySem.Challenge.rw_bb6037_01.Holds := by
  refine Mine.hd ?_
  k_go0
  all_goals try k_fold
  k_steps
  have hmk := LawMark.mk
  unfold Hold
  rename Fr _ _ _ _ => F
  rename Frag.In _ _ => KX
  rename Top _ _ _ _ _ _ => T
  refine wpAny_noRaise ?_
  refine For_invVF F rfl rfl (wpHold ?_)
  k_steps
  unfold Hold
  rename IsRange _ _ _ _ _ _ _ _ => R
  rename Fr _ _ _ _ => F
  refine loopRange (n := 7) (LawJ _ _ _) rfl R (by decide) (by decide) F News.nil ⟨_, _, _, rfl, rfl, rfl, rfl⟩ ?turn ?done
  case turn =>
    intro i t m₁ news₁ h tk I oI hi ⟨ta, tb, tc, hma, hmb, hmc, hnews⟩ hoff F N
    subst hnews
    rw [pin3 hma hmb hmc] at F
    k_steps
    · unfold Hold
      rename Fr _ _ _ _ => F
      rename News _ _ _ _ => N
      refine leaf_step (by decide) F N KX T (f70 _).1 (f70 _).2 (h70 _).1 (h70 _).2 fun D1 ep1 led1 h1 tk1 F1 N1 hr1 hnd1 hoff1 => ?_
      k_steps
      unfold Hold
      rename Fr _ _ _ _ => F
      rename News _ _ _ _ => N
      refine helper_step (by decide) F N KX T (turn_col _ _) (h70 _).1 (h70 _).2 fun D2 ep2 led2 h2 tk2 F2 N2 hr2 hnd2 hoff2 => ?_
      k_steps
      unfold Hold
      rename Fr _ _ _ _ => F
      rename News _ _ _ _ => N
      have hs2 : ∀ p ∈ leafLed D2 ep2 led2, p ∈ leafLed D2 ep2 led2 ++ (leafLed D1 ep1 led1 ++ [(I, oI)]) := fun p hp => List.mem_append_left _ hp
      have hs1 : ∀ p ∈ leafLed D1 ep1 led1, p ∈ leafLed D2 ep2 led2 ++ (leafLed D1 ep1 led1 ++ [(I, oI)]) := fun p hp => List.mem_append_right _ (List.mem_append_left _ hp)
      refine ne_leaf (leafAt_of N hs2 hr2 hnd2) (leafAt_of N hs1 hr1 hnd1) (by ke_room) ?_
      k_steps
      unfold Hold
      refine read_step (by decide) F N KX T (f70 _).1 (f70 _).2 (h70 _).1 hs2 hr2 hnd2 fun T3 t1 t2 h3 tk3 F3 N3 hoff3 => ?_
      k_steps
      unfold Hold
      rename Fr _ _ _ _ => F
      rename News _ _ _ _ => N
      refine ne_tup N (.tail _ (.head _)) (.head _) (by ke_room) ?_
      k_steps
      unfold Hold
      refine parted_step (rest := leafLed D1 ep1 led1 ++ [(I, oI)]) (by decide) F N KX T (fun p hp => .tail _ (.tail _ (hs2 p hp))) hr2 hnd2 (by have := f70 ((0 + (i : Int)) + 1); omega) (h70n _) (fun p hp => .tail _ (.tail _ (List.mem_append_right _ hp))) hoff2 fun h4 tk4 F4 N4 => ?_
      k_steps
      unfold Hold
      refine helper_step (by decide) F4 N4 KX T (turn_col _ _) (h70 _).1 (h70 _).2 fun D5 ep5 led5 h5 tk5 F5 N5 hr5 hnd5 hoff5 => ?_
      k_steps
      unfold Hold
      have hs5 : ∀ p ∈ leafLed D5 ep5 led5, p ∈ leafLed D5 ep5 led5 ++ (leafLed D1 ep1 led1 ++ [(I, oI)]) := fun p hp => List.mem_append_left _ hp
      have hs6 : ∀ p ∈ leafLed D1 ep1 led1, p ∈ leafLed D5 ep5 led5 ++ (leafLed D1 ep1 led1 ++ [(I, oI)]) := fun p hp => List.mem_append_right _ (List.mem_append_left _ hp)
      refine ne_leaf (leafAt_of N5 hs5 hr5 hnd5) (leafAt_of N5 hs6 hr1 hnd1) (by ke_room) ?_
      k_steps
      exact ⟨rfl, _, _, _, [], rfl, F5, (fun p hp => N5 p (List.mem_append_right _ (List.mem_append_right _ hp))), (fun _ hp => nomatch hp), ⟨_, _, _, rfl, rfl, rfl, rfl⟩⟩
    · unfold Hold
      rename Fr _ _ _ _ => F
      rename News _ _ _ _ => N
      refine leaf_step (by decide) F N KX T (f70 _).1 (f70 _).2 (h70 _).1 (h70 _).2 fun D1 ep1 led1 h1 tk1 F1 N1 hr1 hnd1 hoff1 => ?_
      k_steps
      unfold Hold
      rename Fr _ _ _ _ => F
      rename News _ _ _ _ => N
      refine helper_step (by decide) F N KX T (turn_col _ _) (h70 _).1 (h70 _).2 fun D2 ep2 led2 h2 tk2 F2 N2 hr2 hnd2 hoff2 => ?_
      k_steps
      unfold Hold
      rename Fr _ _ _ _ => F
      rename News _ _ _ _ => N
      have hs2 : ∀ p ∈ leafLed D2 ep2 led2, p ∈ leafLed D2 ep2 led2 ++ (leafLed D1 ep1 led1 ++ [(I, oI)]) := fun p hp => List.mem_append_left _ hp
      have hs1 : ∀ p ∈ leafLed D1 ep1 led1, p ∈ leafLed D2 ep2 led2 ++ (leafLed D1 ep1 led1 ++ [(I, oI)]) := fun p hp => List.mem_append_right _ (List.mem_append_left _ hp)
      refine ne_leaf (leafAt_of N hs2 hr2 hnd2) (leafAt_of N hs1 hr1 hnd1) (by ke_room) ?_
      k_steps
      unfold Hold
      refine read_step (by decide) F N KX T (f70 _).1 (f70 _).2 (h70 _).1 hs2 hr2 hnd2 fun T3 t1 t2 h3 tk3 F3 N3 hoff3 => ?_
      k_steps
      unfold Hold
      rename Fr _ _ _ _ => F
      rename News _ _ _ _ => N
      refine ne_tup N (.tail _ (.head _)) (.head _) (by ke_room) ?_
      k_steps
      unfold Hold
      refine parted_step (rest := leafLed D1 ep1 led1 ++ [(I, oI)]) (by decide) F N KX T (fun p hp => .tail _ (.tail _ (hs2 p hp))) hr2 hnd2 (by have := f70 ((0 + (i : Int)) + 1); omega) (h70n _) (fun p hp => .tail _ (.tail _ (List.mem_append_right _ hp))) hoff2 fun h4 tk4 F4 N4 => ?_
      k_steps
      unfold Hold
      refine helper_step (by decide) F4 N4 KX T (turn_col _ _) (h70 _).1 (h70 _).2 fun D5 ep5 led5 h5 tk5 F5 N5 hr5 hnd5 hoff5 => ?_
      k_steps
      unfold Hold
      have hs5 : ∀ p ∈ leafLed D5 ep5 led5, p ∈ leafLed D5 ep5 led5 ++ (leafLed D1 ep1 led1 ++ [(I, oI)]) := fun p hp => List.mem_append_left _ hp
      have hs6 : ∀ p ∈ leafLed D1 ep1 led1, p ∈ leafLed D5 ep5 led5 ++ (leafLed D1 ep1 led1 ++ [(I, oI)]) := fun p hp => List.mem_append_right _ (List.mem_append_left _ hp)
      refine ne_leaf (leafAt_of N5 hs5 hr5 hnd5) (leafAt_of N5 hs6 hr1 hnd1) (by ke_room) ?_
      k_steps
      exact ⟨rfl, _, _, _, [], rfl, F5, (fun p hp => N5 p (List.mem_append_right _ (List.mem_append_right _ hp))), (fun _ hp => nomatch hp), ⟨_, _, _, rfl, rfl, rfl, rfl⟩⟩
  case done =>
    intro m₁ news₁ h tk ⟨ta, tb, tc, hma, hmb, hmc, hnews⟩ F N
    subst hnews
    k_steps
    unfold Hold
    refine helper_step (fi := 1) (by decide) F N KX T (by decide) (by decide) (by decide) fun D ep led h' tk' F' N' hr hnd hoff => ?_
    k_steps
    unfold Hold
    rename News _ _ _ _ => N
    refine eq_last (leafAt_of N (fun p hp => .tail _ (.tail _ (List.mem_append_left _ hp))) hr hnd) (N.get (.head _)) (N.get (.tail _ (.head _))) (by ke_room) ?_
    k_steps
